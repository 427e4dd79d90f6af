import PyProof.Rows.All
import Wide.All
import OpenK.AllK
import Wide.FinOn
import Lean
import PySem.Challenge.RW_xj0037_01
set_option Elab.async false
set_option linter.unusedVariables false
set_option autoImplicit false
set_option maxRecDepth 100000
set_option bootstrap.genMatcherCode false
set_option genSizeOf false
set_option genInjectivity false
set_option maxHeartbeats 8000000
local macro_rules | `(tactic| nomatch $t, $hs,*) => `(tactic| (refine $t ?_; clear $hs*))
local macro_rules | `(tactic| injections $x:ident) => `(tactic| (replace $x:ident := Option.some.inj $x; first | subst $x | cases $x:term))
section
open PySem PySem.W PyProof.Rows
namespace Mine
noncomputable def hdK:List Nat:=[0,1,3,4,5,6,7,8,9,11,12,13,14,15,16,18,19,20,21,22,23,24,26,27,28,29,30,31,32,33,34,35]
noncomputable def hdQ:Program:=view PySem.Challenge.rw_xj0037_01.row.toRowW.prog hdK
noncomputable abbrev hdL:List Str:=[Str.ofString "_twin_re_1",Str.ofString "_namespace_map",Str.ofString "_looks_like_prefix_name",Str.ofString "C14NWriterTarget"]
theorem twoRows {p q:Program} {loose:List Str} {Xt:Shared->Bool} {α:Type} {Yf:Shared->α} {Ya:World->α} {N:Nat} {g0:Bool} (row:String)
  (h1:∀ w:World,(openEnds treeTable p (w.withFollow row false) N).map (fun s=>(openSeen q loose (importedModules p.main.body) Xt g0 s,Yf s))=some (openGood q loose,Ya (w.withFollow row false)))
  (h2:∀ w:World,(openEnds treeTable p (w.withFollow row true) N).map (fun s=>(openSeen q loose (importedModules p.main.body) Xt g0 s,Yf s))=some (openGood q loose,Ya (w.withFollow row true))):LeftO p q loose Xt Yf Ya N g0 :=
 byRow2 (P:=fun w=>(openEnds treeTable p w N).map (fun s=>(openSeen q loose (importedModules p.main.body) Xt g0 s,Yf s))=some (openGood q loose,Ya w)) row h1 h2
end Mine
local macro_rules | `(tactic| o_law)=>`(tactic| refine holds_law (by decide +kernel) fun said=>?_)
local macro_rules | `(tactic| o_head $H)=>`(tactic| (
 refine holds_open (q:=Mine.hdQ) (loose:=Mine.hdL) (Xt:=fun s=>xlAt Mine.hdQ [] s&&recOk (RowW.records PySem.Challenge.rw_xj0037_01.row.toRowW) s) (XP:=XL Mine.hdQ []) (Yf:=Hook.obs $H) (Ya:=Hook.val $H) (YP:=Hook.says $H) (N:=3568) ?hl (Hook.of $H) (Hook.keeps $H) (fun s e=>xl_of s (Bool.and_eq_true_iff.mp e).1) XL.keeps (by rfl) (by rfl) (by rfl) (fun s e=>recFacts_of (Bool.and_eq_true_iff.mp e).2) (by rfl) (by first | assumption | decide +kernel) (by decide +kernel) ⟨rfl,rfl,rfl,rfl,rfl,by decide +kernel⟩ ?hw ?hc
 (case hl=>first | (exact Mine.twoRows "special-get-raises" (fun w=>by
   unfold openEnds fencedOpening topFrom; rw [PySem.W.Fast.te14082659384304107361,PySem.W.Fast.te10274390034422433532,PySem.W.Fast.te14289696077712309145,PySem.W.Fast.te1435165496053646825,PySem.W.Fast.te4187177175401517315,PySem.W.Fast.te14364793385576792824]; kernel_rfl) (fun w=>by
   unfold openEnds fencedOpening topFrom; rw [PySem.W.Fast.te14082659384304107361,PySem.W.Fast.te10274390034422433532,PySem.W.Fast.te14289696077712309145,PySem.W.Fast.te1435165496053646825,PySem.W.Fast.te4187177175401517315,PySem.W.Fast.te14364793385576792824]; kernel_rfl)) | skip)))
open_top hd for PySem.Challenge.rw_xj0037_01
end
noncomputable section
namespace Mine
theorem ZbE {a b:Nat} (h:Nat.beq a b=true):a=b:=Nat.eq_of_beq_eq_true h
theorem ZbL {a b:Nat} (h:Nat.ble a b=true):a≤b:=Nat.le_of_ble_eq_true h
theorem ZbS {α:Type _} {l:List α} {i:Nat} {a:α} (h:l[i]?=some a):∃ h:i<l.length,l[i]=a:=List.getElem?_eq_some_iff.mp h
theorem ZbM {α:Type _} {l:List α} {i:Nat} {a:α} (h:l[i]?=some a):a∈l:=List.mem_of_getElem? h
theorem ZbG {α:Type _} {l:List α} {i:Nat} (h:i<l.length):l[i]?=some l[i]:=List.getElem?_eq_getElem h
theorem Za1 {A0:Prop} {L:Prop} {G:Prop} (h:A0∧L) (c:A0->L->G):G:=c h.1 h.2
theorem Ze1 {a0:Sort _} {L:a0->Prop} {G:Prop} (h:∃ x0,L x0) (c:∀ x0,L x0->G):G:=h.elim fun x0 h=>c x0 h
theorem Za2 {A0:Prop} {A1:Prop} {L:Prop} {G:Prop} (h:A0∧A1∧L) (c:A0->A1->L->G):G:=c h.1 h.2.1 h.2.2
theorem ad {a0:Sort _} {A0:a0->Prop} {L:a0->Prop} {G:Prop} (h:∃ x0,A0 x0∧L x0) (c:∀ x0,A0 x0->L x0->G):G:=h.elim fun x0 h=>c x0 h.1 h.2
theorem Ze2 {a0:Sort _} {a1:Sort _} {L:a0->a1->Prop} {G:Prop} (h:∃ x0,∃ x1,L x0 x1) (c:∀ x0,∀ x1,L x0 x1->G):G:=h.elim fun x0 h=>h.elim fun x1 h=>c x0 x1 h
theorem Za3 {A0:Prop} {A1:Prop} {A2:Prop} {L:Prop} {G:Prop} (h:A0∧A1∧A2∧L) (c:A0->A1->A2->L->G):G:=c h.1 h.2.1 h.2.2.1 h.2.2.2
theorem aU {a0:Sort _} {A0:a0->Prop} {A1:a0->Prop} {L:a0->Prop} {G:Prop} (h:∃ x0,A0 x0∧A1 x0∧L x0) (c:∀ x0,A0 x0->A1 x0->L x0->G):G:=h.elim fun x0 h=>c x0 h.1 h.2.1 h.2.2
theorem aE {a0:Sort _} {a1:Sort _} {A0:a0->a1->Prop} {L:a0->a1->Prop} {G:Prop} (h:∃ x0,∃ x1,A0 x0 x1∧L x0 x1) (c:∀ x0,∀ x1,A0 x0 x1->L x0 x1->G):G:=h.elim fun x0 h=>h.elim fun x1 h=>c x0 x1 h.1 h.2
theorem Ze3 {a0:Sort _} {a1:Sort _} {a2:Sort _} {L:a0->a1->a2->Prop} {G:Prop} (h:∃ x0,∃ x1,∃ x2,L x0 x1 x2) (c:∀ x0,∀ x1,∀ x2,L x0 x1 x2->G):G:=h.elim fun x0 h=>h.elim fun x1 h=>h.elim fun x2 h=>c x0 x1 x2 h
theorem Za4 {A0:Prop} {A1:Prop} {A2:Prop} {A3:Prop} {L:Prop} {G:Prop} (h:A0∧A1∧A2∧A3∧L) (c:A0->A1->A2->A3->L->G):G:=c h.1 h.2.1 h.2.2.1 h.2.2.2.1 h.2.2.2.2
theorem cJ {a0:Sort _} {A0:a0->Prop} {A1:a0->Prop} {A2:a0->Prop} {L:a0->Prop} {G:Prop} (h:∃ x0,A0 x0∧A1 x0∧A2 x0∧L x0) (c:∀ x0,A0 x0->A1 x0->A2 x0->L x0->G):G:=h.elim fun x0 h=>c x0 h.1 h.2.1 h.2.2.1 h.2.2.2
theorem ay {a0:Sort _} {a1:Sort _} {A0:a0->a1->Prop} {A1:a0->a1->Prop} {L:a0->a1->Prop} {G:Prop} (h:∃ x0,∃ x1,A0 x0 x1∧A1 x0 x1∧L x0 x1) (c:∀ x0,∀ x1,A0 x0 x1->A1 x0 x1->L x0 x1->G):G:=h.elim fun x0 h=>h.elim fun x1 h=>c x0 x1 h.1 h.2.1 h.2.2
theorem eH {a0:Sort _} {a1:Sort _} {a2:Sort _} {A0:a0->a1->a2->Prop} {L:a0->a1->a2->Prop} {G:Prop} (h:∃ x0,∃ x1,∃ x2,A0 x0 x1 x2∧L x0 x1 x2) (c:∀ x0,∀ x1,∀ x2,A0 x0 x1 x2->L x0 x1 x2->G):G:=h.elim fun x0 h=>h.elim fun x1 h=>h.elim fun x2 h=>c x0 x1 x2 h.1 h.2
theorem Ze4 {a0:Sort _} {a1:Sort _} {a2:Sort _} {a3:Sort _} {L:a0->a1->a2->a3->Prop} {G:Prop} (h:∃ x0,∃ x1,∃ x2,∃ x3,L x0 x1 x2 x3) (c:∀ x0,∀ x1,∀ x2,∀ x3,L x0 x1 x2 x3->G):G:=h.elim fun x0 h=>h.elim fun x1 h=>h.elim fun x2 h=>h.elim fun x3 h=>c x0 x1 x2 x3 h
theorem bM {a0:Sort _} {a1:Sort _} {a2:Sort _} {A0:a0->a1->a2->Prop} {A1:a0->a1->a2->Prop} {L:a0->a1->a2->Prop} {G:Prop} (h:∃ x0,∃ x1,∃ x2,A0 x0 x1 x2∧A1 x0 x1 x2∧L x0 x1 x2) (c:∀ x0,∀ x1,∀ x2,A0 x0 x1 x2->A1 x0 x1 x2->L x0 x1 x2->G):G:=h.elim fun x0 h=>h.elim fun x1 h=>h.elim fun x2 h=>c x0 x1 x2 h.1 h.2.1 h.2.2
theorem dO {a0:Sort _} {a1:Sort _} {A0:a0->a1->Prop} {A1:a0->a1->Prop} {A2:a0->a1->Prop} {A3:a0->a1->Prop} {L:a0->a1->Prop} {G:Prop} (h:∃ x0,∃ x1,A0 x0 x1∧A1 x0 x1∧A2 x0 x1∧A3 x0 x1∧L x0 x1) (c:∀ x0,∀ x1,A0 x0 x1->A1 x0 x1->A2 x0 x1->A3 x0 x1->L x0 x1->G):G:=h.elim fun x0 h=>h.elim fun x1 h=>c x0 x1 h.1 h.2.1 h.2.2.1 h.2.2.2.1 h.2.2.2.2
theorem da {a0:Sort _} {a1:Sort _} {a2:Sort _} {A0:a0->a1->a2->Prop} {A1:a0->a1->a2->Prop} {A2:a0->a1->a2->Prop} {L:a0->a1->a2->Prop} {G:Prop} (h:∃ x0,∃ x1,∃ x2,A0 x0 x1 x2∧A1 x0 x1 x2∧A2 x0 x1 x2∧L x0 x1 x2) (c:∀ x0,∀ x1,∀ x2,A0 x0 x1 x2->A1 x0 x1 x2->A2 x0 x1 x2->L x0 x1 x2->G):G:=h.elim fun x0 h=>h.elim fun x1 h=>h.elim fun x2 h=>c x0 x1 x2 h.1 h.2.1 h.2.2.1 h.2.2.2
theorem fH {a0:Sort _} {a1:Sort _} {a2:Sort _} {A0:a0->a1->a2->Prop} {A1:a0->a1->a2->Prop} {A2:a0->a1->a2->Prop} {A3:a0->a1->a2->Prop} {L:a0->a1->a2->Prop} {G:Prop} (h:∃ x0,∃ x1,∃ x2,A0 x0 x1 x2∧A1 x0 x1 x2∧A2 x0 x1 x2∧A3 x0 x1 x2∧L x0 x1 x2) (c:∀ x0,∀ x1,∀ x2,A0 x0 x1 x2->A1 x0 x1 x2->A2 x0 x1 x2->A3 x0 x1 x2->L x0 x1 x2->G):G:=h.elim fun x0 h=>h.elim fun x1 h=>h.elim fun x2 h=>c x0 x1 x2 h.1 h.2.1 h.2.2.1 h.2.2.2.1 h.2.2.2.2
theorem bS {a0:Sort _} {a1:Sort _} {a2:Sort _} {A0:a0->a1->a2->Prop} {A1:a0->a1->a2->Prop} {A2:a0->a1->a2->Prop} {A3:a0->a1->a2->Prop} {A4:a0->a1->a2->Prop} {L:a0->a1->a2->Prop} {G:Prop} (h:∃ x0,∃ x1,∃ x2,A0 x0 x1 x2∧A1 x0 x1 x2∧A2 x0 x1 x2∧A3 x0 x1 x2∧A4 x0 x1 x2∧L x0 x1 x2) (c:∀ x0,∀ x1,∀ x2,A0 x0 x1 x2->A1 x0 x1 x2->A2 x0 x1 x2->A3 x0 x1 x2->A4 x0 x1 x2->L x0 x1 x2->G):G:=h.elim fun x0 h=>h.elim fun x1 h=>h.elim fun x2 h=>c x0 x1 x2 h.1 h.2.1 h.2.2.1 h.2.2.2.1 h.2.2.2.2.1 h.2.2.2.2.2
theorem atN {α β:Type} {R:α->β->Prop}:∀ (i:Nat) a b,([]:List α)[i]?=some a->([]:List β)[i]?=some b->R a b:=fun i a b h=>by simp at h
theorem atC {α β:Type} {R:α->β->Prop} {x:α} {y:β} {l:List α} {m:List β} (h:R x y) (t:∀ (i:Nat) a b,l[i]?=some a->m[i]?=some b->R a b):∀ (i:Nat) a b,(x :: l)[i]?=some a->(y :: m)[i]?=some b->R a b
 | 0,a,b,e1,e2=>by rw [← Option.some.inj e1,← Option.some.inj e2]; exact h
 | i+1,a,b,e1,e2=>t i a b e1 e2
theorem at3 {α:Type} {x y z:α} {r:List α} {k:Nat} {p:α} (h:[x,y,z][k]?=some p):(x :: y :: z :: r)[k]?=some p:=by
 have:([x,y,z]++r)[k]?=some p:=by rw [List.getElem?_append_left (ZbS h).1]; exact h
 exact this
theorem fP {α:Type} {l:List α} {n:Nat} (h:l.length=n+1):∃ a r,l=a :: r∧r.length=n:=by
 cases l with
 | nil=>simp at h
 | cons a r=>exact ⟨a,r,rfl,Nat.succ.inj h⟩
theorem ffE {P:Prop} (h:false=true):P:=Bool.noConfusion h
theorem noS {α:Type _} {a:α} {P:Prop} (h:none=some a):P:=by cases h
theorem am {a0:Sort _} {A0:a0->Prop} {L:a0->Prop} (x0:a0) (h0:A0 x0) (hl:L x0):∃ x0,A0 x0∧L x0:=⟨x0,h0,hl⟩
theorem lx {a0:Sort _} {a1:Sort _} {L:a0->a1->Prop} (x0:a0) (x1:a1) (hl:L x0 x1):∃ x0,∃ x1,L x0 x1:=⟨x0,x1,hl⟩
theorem bA {a0:Sort _} {A0:a0->Prop} {A1:a0->Prop} {L:a0->Prop} (x0:a0) (h0:A0 x0) (h1:A1 x0) (hl:L x0):∃ x0,A0 x0∧A1 x0∧L x0:=⟨x0,h0,h1,hl⟩
theorem dj {a0:Sort _} {a1:Sort _} {A0:a0->a1->Prop} {L:a0->a1->Prop} (x0:a0) (x1:a1) (h0:A0 x0 x1) (hl:L x0 x1):∃ x0,∃ x1,A0 x0 x1∧L x0 x1:=⟨x0,x1,h0,hl⟩
theorem jP {a0:Sort _} {A0:a0->Prop} {A1:a0->Prop} {A2:a0->Prop} {L:a0->Prop} (x0:a0) (h0:A0 x0) (h1:A1 x0) (h2:A2 x0) (hl:L x0):∃ x0,A0 x0∧A1 x0∧A2 x0∧L x0:=⟨x0,h0,h1,h2,hl⟩
theorem aK {a0:Sort _} {a1:Sort _} {A0:a0->a1->Prop} {A1:a0->a1->Prop} {L:a0->a1->Prop} (x0:a0) (x1:a1) (h0:A0 x0 x1) (h1:A1 x0 x1) (hl:L x0 x1):∃ x0,∃ x1,A0 x0 x1∧A1 x0 x1∧L x0 x1:=⟨x0,x1,h0,h1,hl⟩
theorem lA {a0:Sort _} {a1:Sort _} {a2:Sort _} {A0:a0->a1->a2->Prop} {L:a0->a1->a2->Prop} (x0:a0) (x1:a1) (x2:a2) (h0:A0 x0 x1 x2) (hl:L x0 x1 x2):∃ x0,∃ x1,∃ x2,A0 x0 x1 x2∧L x0 x1 x2:=⟨x0,x1,x2,h0,hl⟩
theorem uQ {a0:Sort _} {a1:Sort _} {A0:a0->a1->Prop} {A1:a0->a1->Prop} {A2:a0->a1->Prop} {L:a0->a1->Prop} (x0:a0) (x1:a1) (h0:A0 x0 x1) (h1:A1 x0 x1) (h2:A2 x0 x1) (hl:L x0 x1):∃ x0,∃ x1,A0 x0 x1∧A1 x0 x1∧A2 x0 x1∧L x0 x1:=⟨x0,x1,h0,h1,h2,hl⟩
theorem u9 {a0:Sort _} {a1:Sort _} {a2:Sort _} {A0:a0->a1->a2->Prop} {A1:a0->a1->a2->Prop} {L:a0->a1->a2->Prop} (x0:a0) (x1:a1) (x2:a2) (h0:A0 x0 x1 x2) (h1:A1 x0 x1 x2) (hl:L x0 x1 x2):∃ x0,∃ x1,∃ x2,A0 x0 x1 x2∧A1 x0 x1 x2∧L x0 x1 x2:=⟨x0,x1,x2,h0,h1,hl⟩
theorem uz {a0:Sort _} {a1:Sort _} {a2:Sort _} {a3:Sort _} {A0:a0->a1->a2->a3->Prop} {L:a0->a1->a2->a3->Prop} (x0:a0) (x1:a1) (x2:a2) (x3:a3) (h0:A0 x0 x1 x2 x3) (hl:L x0 x1 x2 x3):∃ x0,∃ x1,∃ x2,∃ x3,A0 x0 x1 x2 x3∧L x0 x1 x2 x3:=⟨x0,x1,x2,x3,h0,hl⟩
theorem iP {a0:Sort _} {a1:Sort _} {A0:a0->a1->Prop} {A1:a0->a1->Prop} {A2:a0->a1->Prop} {A3:a0->a1->Prop} {L:a0->a1->Prop} (x0:a0) (x1:a1) (h0:A0 x0 x1) (h1:A1 x0 x1) (h2:A2 x0 x1) (h3:A3 x0 x1) (hl:L x0 x1):∃ x0,∃ x1,A0 x0 x1∧A1 x0 x1∧A2 x0 x1∧A3 x0 x1∧L x0 x1:=⟨x0,x1,h0,h1,h2,h3,hl⟩
theorem jY {a0:Sort _} {a1:Sort _} {a2:Sort _} {A0:a0->a1->a2->Prop} {A1:a0->a1->a2->Prop} {A2:a0->a1->a2->Prop} {L:a0->a1->a2->Prop} (x0:a0) (x1:a1) (x2:a2) (h0:A0 x0 x1 x2) (h1:A1 x0 x1 x2) (h2:A2 x0 x1 x2) (hl:L x0 x1 x2):∃ x0,∃ x1,∃ x2,A0 x0 x1 x2∧A1 x0 x1 x2∧A2 x0 x1 x2∧L x0 x1 x2:=⟨x0,x1,x2,h0,h1,h2,hl⟩
theorem uq {a0:Sort _} {a1:Sort _} {a2:Sort _} {A0:a0->a1->a2->Prop} {A1:a0->a1->a2->Prop} {A2:a0->a1->a2->Prop} {A3:a0->a1->a2->Prop} {A4:a0->a1->a2->Prop} {L:a0->a1->a2->Prop} (x0:a0) (x1:a1) (x2:a2) (h0:A0 x0 x1 x2) (h1:A1 x0 x1 x2) (h2:A2 x0 x1 x2) (h3:A3 x0 x1 x2) (h4:A4 x0 x1 x2) (hl:L x0 x1 x2):∃ x0,∃ x1,∃ x2,A0 x0 x1 x2∧A1 x0 x1 x2∧A2 x0 x1 x2∧A3 x0 x1 x2∧A4 x0 x1 x2∧L x0 x1 x2:=⟨x0,x1,x2,h0,h1,h2,h3,h4,hl⟩
theorem qv {a0:Sort _} {a1:Sort _} {a2:Sort _} {a3:Sort _} {a4:Sort _} {A0:a0->a1->a2->a3->a4->Prop} {A1:a0->a1->a2->a3->a4->Prop} {A2:a0->a1->a2->a3->a4->Prop} {A3:a0->a1->a2->a3->a4->Prop} {A4:a0->a1->a2->a3->a4->Prop} {A5:a0->a1->a2->a3->a4->Prop} {A6:a0->a1->a2->a3->a4->Prop} {L:a0->a1->a2->a3->a4->Prop} (x0:a0) (x1:a1) (x2:a2) (x3:a3) (x4:a4) (h0:A0 x0 x1 x2 x3 x4) (h1:A1 x0 x1 x2 x3 x4) (h2:A2 x0 x1 x2 x3 x4) (h3:A3 x0 x1 x2 x3 x4) (h4:A4 x0 x1 x2 x3 x4) (h5:A5 x0 x1 x2 x3 x4) (h6:A6 x0 x1 x2 x3 x4) (hl:L x0 x1 x2 x3 x4):∃ x0,∃ x1,∃ x2,∃ x3,∃ x4,A0 x0 x1 x2 x3 x4∧A1 x0 x1 x2 x3 x4∧A2 x0 x1 x2 x3 x4∧A3 x0 x1 x2 x3 x4∧A4 x0 x1 x2 x3 x4∧A5 x0 x1 x2 x3 x4∧A6 x0 x1 x2 x3 x4∧L x0 x1 x2 x3 x4:=⟨x0,x1,x2,x3,x4,h0,h1,h2,h3,h4,h5,h6,hl⟩
theorem vH {a0:Sort _} {a1:Sort _} {a2:Sort _} {a3:Sort _} {a4:Sort _} {a5:Sort _} {a6:Sort _} {a7:Sort _} {a8:Sort _} {A0:a0->a1->a2->a3->a4->a5->a6->a7->a8->Prop} {A1:a0->a1->a2->a3->a4->a5->a6->a7->a8->Prop} {A2:a0->a1->a2->a3->a4->a5->a6->a7->a8->Prop} {A3:a0->a1->a2->a3->a4->a5->a6->a7->a8->Prop} {A4:a0->a1->a2->a3->a4->a5->a6->a7->a8->Prop} {A5:a0->a1->a2->a3->a4->a5->a6->a7->a8->Prop} {A6:a0->a1->a2->a3->a4->a5->a6->a7->a8->Prop} {L:a0->a1->a2->a3->a4->a5->a6->a7->a8->Prop} (x0:a0) (x1:a1) (x2:a2) (x3:a3) (x4:a4) (x5:a5) (x6:a6) (x7:a7) (x8:a8) (h0:A0 x0 x1 x2 x3 x4 x5 x6 x7 x8) (h1:A1 x0 x1 x2 x3 x4 x5 x6 x7 x8) (h2:A2 x0 x1 x2 x3 x4 x5 x6 x7 x8) (h3:A3 x0 x1 x2 x3 x4 x5 x6 x7 x8) (h4:A4 x0 x1 x2 x3 x4 x5 x6 x7 x8) (h5:A5 x0 x1 x2 x3 x4 x5 x6 x7 x8) (h6:A6 x0 x1 x2 x3 x4 x5 x6 x7 x8) (hl:L x0 x1 x2 x3 x4 x5 x6 x7 x8):∃ x0,∃ x1,∃ x2,∃ x3,∃ x4,∃ x5,∃ x6,∃ x7,∃ x8,A0 x0 x1 x2 x3 x4 x5 x6 x7 x8∧A1 x0 x1 x2 x3 x4 x5 x6 x7 x8∧A2 x0 x1 x2 x3 x4 x5 x6 x7 x8∧A3 x0 x1 x2 x3 x4 x5 x6 x7 x8∧A4 x0 x1 x2 x3 x4 x5 x6 x7 x8∧A5 x0 x1 x2 x3 x4 x5 x6 x7 x8∧A6 x0 x1 x2 x3 x4 x5 x6 x7 x8∧L x0 x1 x2 x3 x4 x5 x6 x7 x8:=⟨x0,x1,x2,x3,x4,x5,x6,x7,x8,h0,h1,h2,h3,h4,h5,h6,hl⟩
theorem Ja {a0:Sort _} {a1:Sort _} {a2:Sort _} {L:a0->a1->a2->Prop} (x0:a0) (x1:a1) (x2:a2) (hl:L x0 x1 x2):∃ x0,∃ x1,∃ x2,L x0 x1 x2:=⟨x0,x1,x2,hl⟩
theorem I8 {a0:Sort _} {a1:Sort _} {a2:Sort _} {a3:Sort _} {L:a0->a1->a2->a3->Prop} (x0:a0) (x1:a1) (x2:a2) (x3:a3) (hl:L x0 x1 x2 x3):∃ x0,∃ x1,∃ x2,∃ x3,L x0 x1 x2 x3:=⟨x0,x1,x2,x3,hl⟩
theorem I9 {a0:Sort _} {a1:Sort _} {a2:Sort _} {a3:Sort _} {a4:Sort _} {L:a0->a1->a2->a3->a4->Prop} (x0:a0) (x1:a1) (x2:a2) (x3:a3) (x4:a4) (hl:L x0 x1 x2 x3 x4):∃ x0,∃ x1,∃ x2,∃ x3,∃ x4,L x0 x1 x2 x3 x4:=⟨x0,x1,x2,x3,x4,hl⟩
theorem HE {a0:Sort _} {a1:Sort _} {a2:Sort _} {a3:Sort _} {a4:Sort _} {a5:Sort _} {L:a0->a1->a2->a3->a4->a5->Prop} (x0:a0) (x1:a1) (x2:a2) (x3:a3) (x4:a4) (x5:a5) (hl:L x0 x1 x2 x3 x4 x5):∃ x0,∃ x1,∃ x2,∃ x3,∃ x4,∃ x5,L x0 x1 x2 x3 x4 x5:=⟨x0,x1,x2,x3,x4,x5,hl⟩
theorem zm {a0:Sort _} {a1:Sort _} {a2:Sort _} {a3:Sort _} {a4:Sort _} {A0:a0->a1->a2->a3->a4->Prop} {A1:a0->a1->a2->a3->a4->Prop} {A2:a0->a1->a2->a3->a4->Prop} {A3:a0->a1->a2->a3->a4->Prop} {L:a0->a1->a2->a3->a4->Prop} (x0:a0) (x1:a1) (x2:a2) (x3:a3) (x4:a4) (h0:A0 x0 x1 x2 x3 x4) (h1:A1 x0 x1 x2 x3 x4) (h2:A2 x0 x1 x2 x3 x4) (h3:A3 x0 x1 x2 x3 x4) (hl:L x0 x1 x2 x3 x4):∃ x0,∃ x1,∃ x2,∃ x3,∃ x4,A0 x0 x1 x2 x3 x4∧A1 x0 x1 x2 x3 x4∧A2 x0 x1 x2 x3 x4∧A3 x0 x1 x2 x3 x4∧L x0 x1 x2 x3 x4:=⟨x0,x1,x2,x3,x4,h0,h1,h2,h3,hl⟩
end Mine
namespace Mine
open PySem PySem.W PySem.Calls PyProof.Rows
abbrev Ex:=PySem.Expr
theorem ZB {α β:Type} {M:_} {A:_} {E:_} {s:_} {m:Sem α} {f:α->Sem β} {Q:_} (h:wpAny M A m (fun a s'=>wpAny M A (f a) Q E s') E s):wpAny M A (m>>=f) Q E s:=wpAny_bind h
theorem ZP {α:Type} {M:_} {A:_} {E:_} {s:_} {a:α} {Q:_} (h:Q a s):wpAny M A (pure a) Q E s:=wpAny_pure h
section
inductive SA where
 | c (n:Nat) | sgn (j:Nat) | spl (j:Nat) | lst (j:Nat) | nam (j:Nat)
noncomputable abbrev SS:=List SA
structure FnT where
 params:Arguments
 body:FuncBody
 scope:Scope
 qual:Str
 ctab:List Str
 line:Nat
 col:Nat
noncomputable abbrev iK (T:FnT) (nm:Str) (cl:List (Str × Addr)) (doc pm cv ct:Value):FuncData :=
 { name:=nm,qualname:=T.qual,params:=T.params,body:=T.body,scope:=T.scope,globals:=mainGlobals,closure:=cl,defaults:=.none,kwdefaults:=.none,doc:=doc,pyModule:=pm,annotations:=none,code:=cv,closureTuple:=ct,builtins:=builtinsNs }
structure Sig where
 fns:Nat->Option FnT:=fun _=>none
 sg:Nat->Nat
 nm:Nat->List Nat
 cel:Nat->Int
 cok:Nat->Prop:=fun _=>True
 page:List SA:=[]
 scr:Value:=.none
 bt:Bool:=false
noncomputable def bJ:Nat->List Nat
 | 38=>[38,97,109,112,59]
 | 60=>[38,108,116,59]
 | 62=>[38,103,116,59]
 | 13=>[38,35,120,68,59]
 | n=>[n]
noncomputable def nL (σ:Sig) (j:Nat):Nat:=if j % 2=0 then (bJ (σ.sg (j / 2))).getLastD 0 else (bJ (σ.sg (j / 2))).headD 0
noncomputable def SA.val (σ:Sig):SA->List Nat
 | .c n=>[n]
 | .sgn j=>[σ.sg j]
 | .spl j=>bJ (σ.sg j)
 | .lst j=>[nL σ j]
 | .nam j=>σ.nm j
noncomputable def txt (σ:Sig) (s:SS):List Nat:=s.flatMap (SA.val σ)
noncomputable def aw (σ:Sig) (s:SS):Str:=⟨(txt σ s).toArray⟩
noncomputable def Ik:Nat->String
 | 0=>"list.append"
 | _=>"?"
inductive AV where
 | none
 | bool (b:Bool)
 | int (i:Int)
 | str (s:SS)
 | ref (j:Nat)
 | con (v:Value)
 | tup (l:AV)
 | tnil
 | tcons (a b:AV)
 | inst (C:Addr) (j:Nat)
 | meth (f:Addr) (self:AV)
 | bmeth (id:Nat) (self:AV)
 | rng (a b c:Int)
 | slc (a b c:AV)
 | cel (k:Nat)
 | quo (k d:Nat)
 | dig (k d m:Nat)
 | page
 | pos (s:SS)
 | fn (id:Nat) (cs:List Nat)
 | slen (s:SS)
 | tin (i:Int)
 | lit (s:SS)
noncomputable def AV.items:AV->List AV
 | .tcons a b=>a :: b.items
 | _=>[]
noncomputable def AV.ofL:List AV->AV
 | []=>.tnil
 | a :: r=>.tcons a (AV.ofL r)
theorem AV.items_ofL (l:List AV):(AV.ofL l).items=l:=by
 induction l with
 | nil=>rfl
 | cons a r ih=>show a :: (AV.ofL r).items=_; rw [ih]
inductive AO where
 | list (n:Nat) (rx:List AV)
 | attrs (es:List (Nat × AV))
 | dict (es:List (SS × AV))
 | set (xs:List SS)
 | cell (v:Option AV)
 | tab (e:Option Nat)
inductive Tr where
 | nil
 | node (v:Option AO) (a b c d:Tr)
def nr {α:Type} (z:α) (f:Nat->α) (n:Nat):α:=@Nat.rec (fun _=>α) z (fun i _=>f i) n
def br {α:Type} (f t:α) (b:Bool):α:=@Bool.rec (fun _=>α) f t b
namespace Tr
def sel {α:Type} (m:Nat) (a b c d:α):α:=@Bool.rec (fun _=>α) (@Bool.rec (fun _=>α) d c (Nat.beq m 2)) (@Bool.rec (fun _=>α) b a (Nat.beq m 0)) (Nat.ble m 1)
def get (t:Tr):Nat->Option AO :=
 @Tr.rec (fun _=>Nat->Option AO) (fun _=>none) (fun v _ _ _ _ ga gb gc gd i=>@Nat.rec (fun _=>Option AO) v (fun i _=>@Bool.rec (fun _=>Nat->Option AO) (@Bool.rec (fun _=>Nat->Option AO) gd gc (Nat.beq (Nat.mod i 4) 2)) (@Bool.rec (fun _=>Nat->Option AO) gb ga (Nat.beq (Nat.mod i 4) 0)) (Nat.ble (Nat.mod i 4) 1) (Nat.div i 4)) i) t
theorem F2 {P:Nat->Prop} {q:Nat} (h0:P (4 * q)) (h1:P (4 * q+1)) (h2:P (4 * q+2)) (h3:P (4 * q+3)):∀ r,r<4->P (4 * q+r)
 | 0,_=>h0
 | 1,_=>h1
 | 2,_=>h2
 | 3,_=>h3
 | r+4,h=>absurd h (Nat.not_lt_of_le (Nat.le_add_left 4 r))
theorem lS {P:Nat->Prop} (i:Nat) (h0:∀ q,P (4 * q)) (h1:∀ q,P (4 * q+1)) (h2:∀ q,P (4 * q+2)) (h3:∀ q,P (4 * q+3)):P i :=
 Nat.div_add_mod i 4 ▸ F2 (h0 _) (h1 _) (h2 _) (h3 _) (i % 4) (Nat.mod_lt i (by decide))
section
variable {α:Type} {q:Nat} {a b c d:α}
theorem d0:Nat.div (4 * q) 4=q:=Nat.mul_div_right q (by decide)
theorem d1:Nat.div (4 * q+1) 4=q:=(Nat.mul_add_div (by decide) q 1).trans rfl
theorem d2:Nat.div (4 * q+2) 4=q:=(Nat.mul_add_div (by decide) q 2).trans rfl
theorem d3:Nat.div (4 * q+3) 4=q:=(Nat.mul_add_div (by decide) q 3).trans rfl
theorem m0:sel (Nat.mod (4 * q) 4) a b c d=a:=by rw [show Nat.mod (4 * q) 4=0 from Nat.mul_mod_right 4 q]; rfl
theorem m1:sel (Nat.mod (4 * q+1) 4) a b c d=b:=by rw [show Nat.mod (4 * q+1) 4=1 from Nat.mul_add_mod 4 q 1]; rfl
theorem m2:sel (Nat.mod (4 * q+2) 4) a b c d=c:=by rw [show Nat.mod (4 * q+2) 4=2 from Nat.mul_add_mod 4 q 2]; rfl
theorem m3:sel (Nat.mod (4 * q+3) 4) a b c d=d:=by rw [show Nat.mod (4 * q+3) 4=3 from Nat.mul_add_mod 4 q 3]; rfl
end
theorem IS (i:Nat):get .nil i=none:=rfl
theorem gs (v:Option AO) (a b c d:Tr) (i:Nat):get (.node v a b c d) (Nat.succ i)=sel (Nat.mod i 4) a.get b.get c.get d.get (Nat.div i 4):=rfl
theorem g0 (v:Option AO) (a b c d:Tr) (q:Nat):get (.node v a b c d) (Nat.succ (4 * q))=a.get q:=by rw [gs,m0,d0]
theorem g1 (v:Option AO) (a b c d:Tr) (q:Nat):get (.node v a b c d) (Nat.succ (4 * q+1))=b.get q:=by rw [gs,m1,d1]
theorem g2 (v:Option AO) (a b c d:Tr) (q:Nat):get (.node v a b c d) (Nat.succ (4 * q+2))=c.get q:=by rw [gs,m2,d2]
theorem g3 (v:Option AO) (a b c d:Tr) (q:Nat):get (.node v a b c d) (Nat.succ (4 * q+3))=d.get q:=by rw [gs,m3,d3]
noncomputable abbrev xM:=Tr->Nat->AO->(Tr->Bool)->Bool
def st (v:Option AO) (a b c d:Tr) (ih:xM) (i:Nat) (x:AO) (k:Tr->Bool):Bool :=
 @Nat.rec (fun _=>Bool) (k (.node (some x) a b c d)) (fun i _=>@Bool.rec (fun _=>Bool) (@Bool.rec (fun _=>Bool) (ih d (Nat.div i 4) x fun r=>k (.node v a b c r)) (ih c (Nat.div i 4) x fun r=>k (.node v a b r d)) (Nat.beq (Nat.mod i 4) 2)) (@Bool.rec (fun _=>Bool) (ih b (Nat.div i 4) x fun r=>k (.node v a r c d)) (ih a (Nat.div i 4) x fun r=>k (.node v r b c d)) (Nat.beq (Nat.mod i 4) 0)) (Nat.ble (Nat.mod i 4) 1)) i
def set (fuel:Nat):xM :=
 @Nat.rec (fun _=>xM) (fun _ _ _ _=>false) (fun _ ih t=>@Tr.rec (fun _=>xM->Nat->AO->(Tr->Bool)->Bool) (st none .nil .nil .nil .nil) (fun v a b c d _ _ _ _=>st v a b c d) t ih) fuel
noncomputable def Fv (f:xM):Prop:=∀ t i x k,f t i x k=true->∃ t',k t'=true∧∀ j,t'.get j=if j=i then some x else t.get j
theorem wv {P Q:Prop} [Decidable P] [Decidable Q] {x y:Option AO} (h:P↔Q):(if P then x else y)=if Q then x else y:=by simp only [h]
theorem ne4 (p q r s:Nat) (h:r % 4 ≠ s % 4) (e:Nat.succ (4 * p+r)=Nat.succ (4 * q+s)):False:=h (by
 have e':=congrArg (· % 4) (Nat.succ.inj e)
 rw [← Nat.mul_add_mod 4 p r,← Nat.mul_add_mod 4 q s]; exact e')
theorem eq4 (p q r:Nat):p=q↔Nat.succ (4 * p+r)=Nat.succ (4 * q+r):=⟨fun h=>h ▸ rfl,fun h=>Nat.eq_of_mul_eq_mul_left (by decide) (Nat.add_right_cancel (Nat.succ.inj h))⟩
theorem wd {v:Option AO} {a b c d:Tr} {ih:xM} (hi:Fv ih) {i:Nat} {x:AO} {k:Tr->Bool} (h:st v a b c d ih i x k=true):∃ t',k t'=true∧∀ j,t'.get j=if j=i then some x else get (.node v a b c d) j:=by
 induction i using Nat.casesAuxOn with
 | zero =>
  refine (am _ h (fun j=>?_))
  induction j using Nat.casesAuxOn with
  | zero=>rfl
  | succ j=>rw [if_neg (Nat.succ_ne_zero j)]; rfl
 | succ i =>
  have h:sel (Nat.mod i 4) (ih a (Nat.div i 4) x fun r=>k (.node v r b c d)) (ih b (Nat.div i 4) x fun r=>k (.node v a r c d)) (ih c (Nat.div i 4) x fun r=>k (.node v a b r d)) (ih d (Nat.div i 4) x fun r=>k (.node v a b c r))=true:=h
  induction i using lS with
  | h0 q =>
   rw [m0,d0] at h
   refine ad (hi _ _ _ _ h) fun t' h1 h2=>?_
   refine (am _ h1 (fun j=>?_))
   induction j using Nat.casesAuxOn with
   | zero=>rw [if_neg (Nat.succ_ne_zero _).symm]; rfl
   | succ j =>
    induction j using lS with
    | h0 p=>rw [g0,g0,h2]; exact wv (eq4 p q 0)
    | h1 p=>rw [g1,g1,if_neg (ne4 p q 1 0 (by decide))]
    | h2 p=>rw [g2,g2,if_neg (ne4 p q 2 0 (by decide))]
    | h3 p=>rw [g3,g3,if_neg (ne4 p q 3 0 (by decide))]
  | h1 q =>
   rw [m1,d1] at h
   refine ad (hi _ _ _ _ h) fun t' h1 h2=>?_
   refine (am _ h1 (fun j=>?_))
   induction j using Nat.casesAuxOn with
   | zero=>rw [if_neg (Nat.succ_ne_zero _).symm]; rfl
   | succ j =>
    induction j using lS with
    | h0 p=>rw [g0,g0,if_neg (ne4 p q 0 1 (by decide))]
    | h1 p=>rw [g1,g1,h2]; exact wv (eq4 p q 1)
    | h2 p=>rw [g2,g2,if_neg (ne4 p q 2 1 (by decide))]
    | h3 p=>rw [g3,g3,if_neg (ne4 p q 3 1 (by decide))]
  | h2 q =>
   rw [m2,d2] at h
   refine ad (hi _ _ _ _ h) fun t' h1 h2=>?_
   refine (am _ h1 (fun j=>?_))
   induction j using Nat.casesAuxOn with
   | zero=>rw [if_neg (Nat.succ_ne_zero _).symm]; rfl
   | succ j =>
    induction j using lS with
    | h0 p=>rw [g0,g0,if_neg (ne4 p q 0 2 (by decide))]
    | h1 p=>rw [g1,g1,if_neg (ne4 p q 1 2 (by decide))]
    | h2 p=>rw [g2,g2,h2]; exact wv (eq4 p q 2)
    | h3 p=>rw [g3,g3,if_neg (ne4 p q 3 2 (by decide))]
  | h3 q =>
   rw [m3,d3] at h
   refine ad (hi _ _ _ _ h) fun t' h1 h2=>?_
   refine (am _ h1 (fun j=>?_))
   induction j using Nat.casesAuxOn with
   | zero=>rw [if_neg (Nat.succ_ne_zero _).symm]; rfl
   | succ j =>
    induction j using lS with
    | h0 p=>rw [g0,g0,if_neg (ne4 p q 0 3 (by decide))]
    | h1 p=>rw [g1,g1,if_neg (ne4 p q 1 3 (by decide))]
    | h2 p=>rw [g2,g2,if_neg (ne4 p q 2 3 (by decide))]
    | h3 p=>rw [g3,g3,h2]; exact wv (eq4 p q 3)
theorem I1 (j:Nat):get (.node none .nil .nil .nil .nil) j=get .nil j:=by
 induction j using Nat.casesAuxOn with
 | zero=>rfl
 | succ j =>
  induction j using lS with
  | h0 p=>rw [g0]; rfl
  | h1 p=>rw [g1]; rfl
  | h2 p=>rw [g2]; rfl
  | h3 p=>rw [g3]; rfl
theorem set_spec (fuel:Nat):Fv (set fuel):=by
 induction fuel with
 | zero=>intro t i x k h; exact ffE h
 | succ fuel ih =>
  intro t i x k h
  induction t using Tr.casesOn with
  | nil=>refine ad (wd ih h) fun t' h1 h2=>(am t' h1 fun j=>?_); rw [h2,I1]
  | node v a b c d=>exact wd ih h
end Tr
structure HP where
 n:Nat
 t:Tr
def HP.get (H:HP) (j:Nat):Option AO:=H.t.get j
def HP.getK (H:HP) (j:Nat) (k:AO->Bool):Bool:=@Option.rec AO (fun _=>Bool) false k (H.get j)
theorem HP.getK_true {H:HP} {j:Nat} {k:AO->Bool} (h:H.getK j k=true):∃ x,H.get j=some x∧k x=true:=by
 unfold HP.getK at h
 induction q:H.get j using Option.casesOn with
 | none=>rw [q] at h; exact ffE h
 | some x=>rw [q] at h; exact (am x rfl h)
def HP.set (H:HP) (j:Nat) (x:AO) (k:HP->Bool):Bool:=H.t.set (Nat.succ j) j x fun t=>k ⟨H.n,t⟩
def HP.push (H:HP) (x:AO) (k:Nat->HP->Bool):Bool:=@HP.rec (fun _=>Bool) (fun n t=>t.set (Nat.succ n) n x fun t=>k n ⟨Nat.succ n,t⟩) H
theorem HP.set_spec {H:HP} {j:Nat} {x:AO} {k:HP->Bool} (h:H.set j x k=true):∃ H':HP,k H'=true∧H'.n=H.n∧∀ i,H'.get i=if i=j then some x else H.get i :=
 let ⟨t',h1,h2⟩:=Tr.set_spec _ _ _ _ _ h; ⟨_,h1,rfl,h2⟩
theorem HP.push_spec {H:HP} {x:AO} {k:Nat->HP->Bool} (h:H.push x k=true):∃ H':HP,k H.n H'=true∧H'.n=H.n+1∧∀ i,H'.get i=if i=H.n then some x else H.get i:=by
 obtain ⟨n,t⟩:=H
 have h:t.set (Nat.succ n) n x (fun t=>k n ⟨Nat.succ n,t⟩)=true:=h
 let ⟨t',h1,h2⟩:=Tr.set_spec _ _ _ _ _ h; exact ⟨_,h1,rfl,h2⟩
structure Fz where
 ob:Addr->Obj->Prop
 tk:Tok->Value->Prop
structure Fz.le (Z Z':Fz):Prop where
 ob:∀ a o,Z.ob a o->Z'.ob a o
 tk:∀ t v,Z.tk t v->Z'.tk t v
theorem Fz.le.rfl (Z:Fz):Z.le Z:=⟨fun _ _ e=>e,fun _ _ e=>e⟩
noncomputable abbrev Bz:=Addr->Obj->Prop
noncomputable def Gu (bt:Bool) (o:Obj) (x:Str):Prop:=∃ h t ep i led,o = { cls:=.type "set",dict:=none,data:=.set #[(h,.str x t)] ep { (SetTable.fresh 0 0 led) with place:=#[i],plain:=false } }∧(led=true∨bt=true)
noncomputable def lu (vs:List Value) (n:Nat):Obj:={ cls:=.type "tuple",data:=.seq vs.toArray n }
inductive VRel (σ:Sig) (ρ:List Addr) (Z:Fz):AV->Value->Prop
 | none:VRel σ ρ Z .none .none
 | bool (b):VRel σ ρ Z (.bool b) (.bool b)
 | int (i t):VRel σ ρ Z (.int i) (.int i t)
 | str (s t):VRel σ ρ Z (.str s) (.str (aw σ s) t)
 | ref {j a}:ρ[j]?=some a->VRel σ ρ Z (.ref j) (.ref a)
 | con (v):VRel σ ρ Z (.con v) v
 | tup {l vs a n}:Z.ob a (lu vs n)->l.items.length=vs.length->(∀ (i:Nat) x v,l.items[i]?=some x->vs[i]?=some v->VRel σ ρ Z x v)->VRel σ ρ Z (.tup l) (.ref a)
 | inst {C j x dx}:Z.ob x (instObj C dx)->ρ[j]?=some dx->VRel σ ρ Z (.inst C j) (.ref x)
 | meth {f self sv a}:Z.ob a (methodObj (.ref f) sv)->VRel σ ρ Z self sv->VRel σ ρ Z (.meth f self) (.ref a)
 | rng {a b c t u v x}:Z.ob x { cls:=.type "range",data:=.fields #[.int a t,.int b u,.int c v] }->VRel σ ρ Z (.rng a b c) (.ref x)
 | cel (k t):σ.cok k->VRel σ ρ Z (.cel k) (.int (σ.cel k) t)
 | quo (k d t):VRel σ ρ Z (.quo k d) (.int (Int.fdiv (σ.cel k) d) t)
 | dig (k d m t):VRel σ ρ Z (.dig k d m) (.int (Int.fmod (Int.fdiv (σ.cel k) d) m) t)
 | page (t):VRel σ ρ Z .page (.str (aw σ σ.page) t)
 | pos {s pre t}:txt σ σ.page=pre++txt σ s->VRel σ ρ Z (.pos s) (.int (pre.length:Int) t)
 | bmeth {id self sv a}:Z.ob a { cls:=.type "builtin_function_or_method",data:=.fields #[.builtin (Ik id),sv] }->VRel σ ρ Z self sv->VRel σ ρ Z (.bmeth id self) (.ref a)
 | slen (s t):VRel σ ρ Z (.slen s) (.int ((txt σ s).length:Int) t)
 | slc {a b c x y z p}:Z.ob p { cls:=.type "slice",data:=.fields #[x,y,z] }->VRel σ ρ Z a x->VRel σ ρ Z b y->VRel σ ρ Z c z->VRel σ ρ Z (.slc a b c) (.ref p)
 | tin {i t}:Z.tk t (.int i t)->VRel σ ρ Z (.tin i) (.int i t)
 | lit {s t}:Z.tk t (.str (aw σ s) t)->VRel σ ρ Z (.lit s) (.str (aw σ s) t)
 | set1 {x a o}:Z.ob a o->Gu σ.bt o (aw σ x)->VRel σ ρ Z (.tcons (.str x) .tnil) (.ref a)
 | scr:VRel σ ρ Z (.tcons .none .tnil) σ.scr
 | fn {id cs a T nm cl doc pm ct c oc vs u}:σ.fns id=some T->Z.ob a { cls:=.type "function",data:=.func (iK T nm cl doc pm (.ref c) ct) }->Z.ob c oc->oc.data = .fields vs->vs[1]?=some (.str T.qual u)->(∀ (k:Nat) x j,T.ctab[k]?=some x->cs[k]?=some j->∃ b,cl.lookup x=some b∧ρ[j]?=some b)->VRel σ ρ Z (.fn id cs) (.ref a)
variable {σ:Sig} {ρ ρ':List Addr} {Z Z':Fz}
theorem bz {ρ ρ':List Addr} (h:ρ <+: ρ') {j:Nat} {a:Addr} (e:ρ[j]?=some a):ρ'[j]?=some a:=by
 nomatch Ze1 h,h
 intro r zq1
 subst zq1
 have hj:j<ρ.length:=(ZbS e).1
 rw [List.getElem?_append_left hj]; exact e
theorem VRel.mono (hρ:ρ <+: ρ') (hZ:Z.le Z') {x:AV} {v:Value} (h:VRel σ ρ Z x v):VRel σ ρ' Z' x v:=by
 induction h with
 | none=>exact .none
 | bool b=>exact .bool b
 | int i t=>exact .int i t
 | str s t=>exact .str s t
 | ref e=>exact .ref (bz hρ e)
 | con v=>exact .con v
 | tup h1 h2 _ ih=>exact .tup (hZ.ob _ _ h1) h2 ih
 | inst h1 h2=>exact .inst (hZ.ob _ _ h1) (bz hρ h2)
 | meth h1 _ ih=>exact .meth (hZ.ob _ _ h1) ih
 | rng h=>exact .rng (hZ.ob _ _ h)
 | cel k t h=>exact .cel k t h
 | quo k d t=>exact .quo k d t
 | dig k d m t=>exact .dig k d m t
 | page t=>exact .page t
 | pos h=>exact .pos h
 | bmeth h1 _ ih=>exact .bmeth (hZ.ob _ _ h1) ih
 | slen s t=>exact .slen s t
 | slc h1 _ _ _ i1 i2 i3=>exact .slc (hZ.ob _ _ h1) i1 i2 i3
 | tin h=>exact .tin (hZ.tk _ _ h)
 | lit h=>exact .lit (hZ.tk _ _ h)
 | set1 h1 h2=>exact .set1 (hZ.ob _ _ h1) h2
 | scr=>exact .scr
 | fn h1 h2 h12 h13 h14 h15=>exact .fn h1 (hZ.ob _ _ h2) (hZ.ob _ _ h12) h13 h14 fun k x j a b=>let ⟨c,e1,e2⟩:=h15 k x j a b; ⟨c,e1,bz hρ e2⟩
noncomputable def VRs (σ:Sig) (ρ:List Addr) (Z:Fz) (xs:List AV) (vs:List Value):Prop:=xs.length=vs.length∧∀ (i:Nat) x v,xs[i]?=some x->vs[i]?=some v->VRel σ ρ Z x v
theorem VRs.mono (hρ:ρ <+: ρ') (hZ:Z.le Z') {xs:List AV} {vs:List Value} (h:VRs σ ρ Z xs vs):VRs σ ρ' Z' xs vs:=⟨h.1,fun i x v a b=>(h.2 i x v a b).mono hρ hZ⟩
theorem VRs.nil:VRs σ ρ Z [] []:=⟨rfl,fun i x v a _=>by simp at a⟩
theorem VRs.cons {x:AV} {v:Value} {xs:List AV} {vs:List Value} (h:VRel σ ρ Z x v) (t:VRs σ ρ Z xs vs):VRs σ ρ Z (x :: xs) (v :: vs) :=
 ⟨by simp [t.1],fun i y w a b=>by
  induction i using Nat.casesAuxOn with
  | zero=>simp at a b; subst a; subst b; exact h
  | succ i=>simp at a b; exact t.2 i y w a b⟩
theorem VRs.head {x:AV} {xs:List AV} {vs:List Value} (h:VRs σ ρ Z (x :: xs) vs):∃ v vs',vs=v :: vs'∧VRel σ ρ Z x v∧VRs σ ρ Z xs vs':=by
 nomatch Za1 h,h
 intro h1 h2
 induction vs using List.casesOn with
 | nil=>simp at h1
 | cons v vs=>exact ⟨v,vs,rfl,h2 0 x v rfl rfl,by simpa using h1,fun i y w a b=>h2 (i+1) y w (by simpa using a) (by simpa using b)⟩
theorem VRs.nil_inv {vs:List Value} (h:VRs σ ρ Z [] vs):vs=[]:=List.length_eq_zero_iff.mp h.1.symm
theorem VRs.append {xs ys:List AV} {vs ws:List Value} (a:VRs σ ρ Z xs vs) (b:VRs σ ρ Z ys ws):VRs σ ρ Z (xs++ys) (vs++ws):=by
 induction xs generalizing vs with
 | nil=>rw [a.nil_inv]; exact b
 | cons x xs ih =>
  refine ay a.head fun v vs' zq2 h1 h2=>?_
  clear a
  subst zq2
  exact .cons h1 (ih h2)
theorem VRs.reverse {xs:List AV} {vs:List Value} (a:VRs σ ρ Z xs vs):VRs σ ρ Z xs.reverse vs.reverse:=by
 induction xs generalizing vs with
 | nil=>rw [a.nil_inv]; exact .nil
 | cons x xs ih =>
  refine ay a.head fun v vs' zq2 h1 h2=>?_
  clear a
  subst zq2
  rw [List.reverse_cons,List.reverse_cons]
  exact (ih h2).append (.cons h1 .nil)
theorem VRs.get {xs:List AV} {vs:List Value} (h:VRs σ ρ Z xs vs) {i:Nat} {x:AV} (e:xs[i]?=some x):∃ v,vs[i]?=some v∧VRel σ ρ Z x v:=by
 have hi:i<vs.length:=h.1 ▸ (ZbS e).1
 exact (am (vs[i]) (by simp [hi]) (h.2 i x _ e (by simp [hi])))
noncomputable def attrTab:List Str:=["_write", "_data", "_with_comments", "_strip_text", "_exclude_attrs", "_exclude_tags", "_rewrite_prefixes", "_qname_aware_tags", "_find_qname_aware_attrs",
 "_declared_ns_stack", "_ns_stack", "_prefix_map", "_preserve_space", "_pending_start", "_root_seen", "_root_done", "_ignored_depth", "_iter_namespaces"]
noncomputable def anm (n:Nat):Str:=attrTab.getD n "?"
structure Sig.WF (σ:Sig):Prop where
 sg:∀ j,σ.sg j∈[38,60,62,13,120,10,34,9]
 nm:∀ j,σ.nm j∈[[97],[98],[97,98]]
 pg:(txt σ σ.page).length≤100000
structure Cx where
 prog:Program
 w:World
 σ:Sig
 K:Frag
 G:Heap
 s₀:Shared
 mg:Str->Option Value
 mb:Str->Option Value
 KI:K.In G
 g:G.Ns mainGlobals mg
 b:G.Ns builtinsNs mb
 nolimit:G.NoLimit
 wf:σ.WF
 tabs:List Addr
 bma:∀ P∈tabs,G.BuiltinsAt mg P
 nb:NoneBooked G
 hbt:σ.bt=w.params.followText "set-order"
 t1:Prop:=True
def q5 (es:List (Nat × AV)):Nat->Option AV:=@List.rec (Nat × AV) (fun _=>Nat->Option AV) (fun _=>none) (fun x _ ih i=>@Prod.rec Nat AV (fun _=>Option AV) (fun j v=>br (ih i) (some v) (Nat.beq i j)) x) es
noncomputable def ARel (σ:Sig) (ρ:List Addr) (Z:Fz) (x:Option AV) (v:Option Value):Prop:=(x=none∧v=none)∨∃ y w,x=some y∧v=some w∧VRel σ ρ Z y w
theorem ARel.mono (hρ:ρ <+: ρ') (hZ:Z.le Z') {σ:Sig} {x:Option AV} {v:Option Value} (h:ARel σ ρ Z x v):ARel σ ρ' Z' x v:=h.imp id fun ⟨y,w,a,b,c⟩=>⟨y,w,a,b,c.mono hρ hZ⟩
noncomputable def EntA (C:Cx) (ρ:List Addr) (Z:Fz) (es:List (Nat × AV)) (m:Str->Option Value):Prop:=(∀ i,i<attrTab.length->ARel C.σ ρ Z (q5 es i) (m (anm i)))∧∀ x,x ∉ attrTab->m x=none
noncomputable def mM (C:Cx) (ρ:List Addr) (Z:Fz) (x:SS × AV) (e:Str × Value):Prop:=e.1=aw C.σ x.1∧VRel C.σ ρ Z x.2 e.2
noncomputable def Zip {α β:Type} (R:α->β->Prop) (xs:List α) (ys:List β):Prop:=xs.length=ys.length∧∀ (i:Nat) x y,xs[i]?=some x->ys[i]?=some y->R x y
noncomputable def ORel (C:Cx) (ρ:List Addr) (Z:Fz):AO->Obj->Prop
 | .list n rx,o=>rx.length=n∧∃ vs ep,o = { cls:=.type "list",data:=.seq (vs:List Value).toArray ep }∧VRs C.σ ρ Z rx.reverse vs
 | .attrs es,o=>∃ ds ep m,o.data = .dict ds ep∧StrKeys ds∧UniqKeys ds∧(∀ x,nsFind ds x=m x)∧EntA C ρ Z es m
 | .dict es,o=>∃ kvs,o.IsDictOf (PySem.strKind C.prog C.w) kvs∧Zip (mM C ρ Z) es kvs
 | .set xs,o=>∃ S,o.SetObjOf (PySem.strKind C.prog C.w) S xs.length∧∀ k,S k=true↔k∈xs.map (aw C.σ)
 | .tab none,o=>o = { cls:=.none,data:=.fields #[] }
 | .tab (some i),o=>∃ T c oc vs u,C.σ.fns i=some T∧o = { cls:=.none,data:=.fields #[rawInt T.line,rawInt T.col,.ref c] }∧Z.ob c oc∧oc.data = .fields vs∧vs[1]?=some (.str T.qual u)
 | .cell v,o=>o.data = .cell none∧v=none∨∃ x y,v=some x∧o.data = .cell (some y)∧VRel C.σ ρ Z x y
theorem Zip.imp {α β:Type} {R S:α->β->Prop} {xs:List α} {ys:List β} (h:Zip R xs ys) (f:∀ x y,R x y->S x y):Zip S xs ys:=⟨h.1,fun i x y a b=>f _ _ (h.2 i x y a b)⟩
theorem ORel.mono {C:Cx} (hρ:ρ <+: ρ') (hZ:Z.le Z') {ao:AO} {o:Obj} (h:ORel C ρ Z ao o):ORel C ρ' Z' ao o:=by
 induction ao using AO.casesOn with
 | list n rx=>(refine Za1 h ?_; clear h; intro h1 zw0; refine aE zw0 ?_; clear zw0; intro vs ep h2 h3); exact ⟨h1,vs,ep,h2,h3.mono hρ hZ⟩
 | attrs es=>(refine fH h ?_; clear h; intro ds ep m h1 h2 h3 h4 h5); exact ⟨ds,ep,m,h1,h2,h3,h4,fun i hi=>(h5.1 i hi).mono hρ hZ,h5.2⟩
 | dict es=>(refine ad h ?_; clear h; intro kvs h1 h2); exact ⟨kvs,h1,h2.imp fun x y e=>⟨e.1,e.2.mono hρ hZ⟩⟩
 | set xs=>exact h
 | cell v =>
  rcases h with h | ⟨x,y,h1,h2,h3⟩
  ·exact .inl h
  ·exact .inr (aK x y h1 h2 (h3.mono hρ hZ))
 | tab e =>
  induction e using Option.casesOn with
  | none=>exact h
  | some i=>(refine Ze4 h ?_; clear h; intro T c oc vs zw0; refine cJ zw0 ?_; clear zw0; intro u h1 h2 h3 h4); exact ⟨T,c,oc,vs,u,h1,h2,hZ.ob _ _ h3,h4⟩
theorem ORel.unfreed {C:Cx} {ao:AO} {o:Obj} (h:ORel C ρ Z ao o):o.isFreed=false:=by
 induction ao using AO.casesOn with
 | list n rx=>(refine Za1 h ?_; clear h; intro h1 zw0; refine aE zw0 ?_; clear zw0; intro vs ep zq3 h3; subst zq3); rfl
 | attrs es=>(refine eH h ?_; clear h; intro ds ep m h1 _); obtain ⟨c,d,dt,sl⟩:=o; cases h1; rfl
 | dict es=>(refine ad h ?_; clear h; intro kvs zt14_1 _; (refine ay zt14_1 ?_; clear zt14_1; intro es ep _ h1 _)); obtain ⟨c,d,dt,sl⟩:=o; cases h1; rfl
 | set xs=>(refine ad h ?_; clear h; intro S zt15_1 _; (refine Za1 zt15_1 ?_; clear zt15_1; intro _ zw0; refine eH zw0 ?_; clear zw0; intro es ep t h1 _)); obtain ⟨c,d,dt,sl⟩:=o; cases h1; rfl
 | cell v =>
  obtain ⟨c,d,dt,sl⟩:=o
  rcases h with ⟨h,_⟩ | ⟨x,y,h1,h2,h3⟩
  ·cases h; rfl
  ·cases h2; rfl
 | tab e =>
  induction e using Option.casesOn with
  | none=>cases h; rfl
  | some i=>(refine Ze4 h ?_; clear h; intro T c oc vs zw0; refine cJ zw0 ?_; clear zw0; intro u h1 zq6 h3 h4; subst zq6); rfl
structure Good (C:Cx) (B:Bz) (L:Addr) (ρ:List Addr) (Z:Fz) (H:HP) (s:Shared):Prop where
 base:∀ a o,C.G.get? a=some o->B a o
 b:∀ a o,B a o->s.heap.get? a=some o
 z:∀ a o,Z.ob a o->s.heap.get? a=some o
 len:ρ.length=H.n
 obj:∀ j a,ρ[j]?=some a->∃ ao o,H.get j=some ao∧s.heap.get? a=some o∧ORel C ρ Z ao o
 nd1:(1 :: ρ).Nodup
 ab:∀ a∈ρ,∀ o,¬ B a o
 az:∀ a∈ρ,∀ o,¬ Z.ob a o
 lρ:L ∉ ρ
 lb:∀ o,¬ B L o
 lz:∀ o,¬ Z.ob L o
 zb:∀ a o o',Z.ob a o->¬ B a o'
 ls:L<s.heap.objs.size
 same:∃ h t,s = { C.s₀ with heap:=h,toks:=t }
 tk:C.t1->1≤s.toks
 tkb:∀ t v,Z.tk t v->(C.t1->t ≠ 0)∧t<s.toks
 tkf:∀ t v w,Z.tk t v->Z.tk t w->v=w
 tabs:∀ (k:Nat) P,C.tabs[k]?=some P->ρ[k]?=some P
theorem Good.nd {C:Cx} {B:Bz} {L:Addr} {H:HP} {s:Shared} (g:Good C B L ρ Z H s):ρ.Nodup:=(List.nodup_cons.mp g.nd1).2
theorem Good.no1 {C:Cx} {B:Bz} {L:Addr} {H:HP} {s:Shared} (g:Good C B L ρ Z H s) {a:Addr} (h:a∈ρ):a ≠ 1:=fun e=>(List.nodup_cons.mp g.nd1).1 (e ▸ h)
theorem Good.big {C:Cx} {B:Bz} {L:Addr} {H:HP} {s:Shared} (g:Good C B L ρ Z H s):3<s.heap.objs.size:=(C.g.keeps fun b o e=>g.b b o (g.base b o e)).lt
theorem Good.fresh1 {C:Cx} {B:Bz} {L:Addr} {H:HP} {s:Shared} (g:Good C B L ρ Z H s) {a:Addr} (h:s.heap.objs.size≤a):a ≠ 1:=by have:=g.big; intro e; subst e; omega
theorem te {ρ:List Addr} {a:Addr} (h:(1 :: ρ).Nodup) (ha:a ∉ ρ) (h1:a ≠ 1):(1 :: (ρ++[a])).Nodup:=by
 nomatch Za1 (List.nodup_cons.mp h),h
 intro h2 h3
 refine List.nodup_cons.mpr ⟨fun m=>?_,List.nodup_append.mpr ⟨h3,by simp,fun b hb c hc e=>?_⟩⟩
 ·rcases List.mem_append.mp m with m | m
  ·exact h2 m
  ·exact h1 (List.mem_singleton.mp m).symm
 ·have hc':c=a:=List.mem_singleton.mp hc
  exact ha (hc' ▸ e ▸ hb)
structure Sc where
 sc:Scope
 tab:List Str
 ctab:List Str
 cd:Value
 qual:Str
structure Fm where
 loc:List (Option AV)
 cel:List Nat
noncomputable def SRel (σ:Sig) (ρ:List Addr) (Z:Fz) (x:Option AV) (v:Option Value):Prop:=∀ z,x=some z->∃ y,v=some y∧VRel σ ρ Z z y
theorem SRel.mono (hρ:ρ <+: ρ') (hZ:Z.le Z') {x:Option AV} {v:Option Value} (h:SRel σ ρ Z x v):SRel σ ρ' Z' x v:=fun z e=>let ⟨y,a,b⟩:=h z e; ⟨y,a,b.mono hρ hZ⟩
structure FrOK (C:Cx) (X:Sc) (ρ:List Addr) (Z:Fz) (f:Fm) (env:Env) (h:Heap):Prop where
 sc:env.scope=X.sc
 gl:env.globals=mainGlobals
 bl:env.builtins=builtinsNs
 cd:env.code=X.cd
 qual:env.qual=X.qual
 ns:∃ m,h.Ns env.locals m∧∀ (k:Nat) x v,X.tab[k]?=some x->f.loc[k]?=some v->SRel C.σ ρ Z v (m x)
 ce:∀ (k:Nat) x (j:Nat),X.ctab[k]?=some x->f.cel[k]?=some j->∃ a,env.cells.lookup x=some a∧ρ[j]?=some a
structure OK (C:Cx) (X:Sc) (B:Bz) (f:Fm) (env:Env) (ρ:List Addr) (Z:Fz) (H:HP) (s:Shared):Prop where
 g:Good C B env.locals ρ Z H s
 f:FrOK C X ρ Z f env s.heap
section
variable {C:Cx} {X:Sc} {B:Bz} {f:Fm} {env:Env} {H H':HP} {s:Shared}
theorem OK.tok (h:OK C X B f env ρ Z H s) (t:Nat) (ht:s.toks≤t:=by first | exact Nat.le_refl _ | exact Nat.le_succ _ | exact Nat.le_add_right _ 2 | omega):OK C X B f env ρ Z H { s with toks:=t } :=
 ⟨{ h.g with same:=by (refine Ze2 h.g.same fun hh _ zq2=>?_; subst zq2); exact (lx hh t rfl),tk:=fun q=>Nat.le_trans (h.g.tk q) ht,tkb:=fun u v e=>⟨(h.g.tkb u v e).1,Nat.lt_of_lt_of_le (h.g.tkb u v e).2 ht⟩ },h.f⟩
noncomputable def Fz.tick (Z:Fz) (t:Tok) (v:Value):Fz:=⟨Z.ob,fun u w=>Z.tk u w∨(u=t∧w=v)⟩
theorem Fz.le_tick {Z:Fz} {t:Tok} {v:Value}:Z.le (Z.tick t v):=⟨fun _ _ e=>e,fun _ _ e=>.inl e⟩
theorem OK.tick (h:OK C X B f env ρ Z H s) (v:Value):OK C X B f env ρ (Z.tick s.toks v) H { s with toks:=s.toks+1 }:=by
 have hρ:ρ <+: ρ:=List.prefix_refl _
 have hZ:Z.le (Z.tick s.toks v):=Fz.le_tick
 have h':=h.tok (s.toks+1)
 refine ⟨⟨h'.g.base,h'.g.b,h'.g.z,h'.g.len,fun j a e=>?_,h'.g.nd1,h'.g.ab,h'.g.az,h'.g.lρ,h'.g.lb,h'.g.lz,h'.g.zb,h'.g.ls,h'.g.same,h'.g.tk,?_,?_,h'.g.tabs⟩,⟨h.f.sc,h.f.gl,h.f.bl,h.f.cd,h.f.qual,?_,h.f.ce⟩⟩
 ·refine ay (h.g.obj j a e) fun ao' o' e1 e2 e3=>?_
  exact (aK ao' o' e1 e2 (e3.mono hρ hZ))
 ·rintro t w (e | ⟨rfl,rfl⟩)
  ·exact h'.g.tkb t w e
  ·exact ⟨fun q=>Nat.ne_of_gt (h.g.tk q),Nat.lt_succ_self _⟩
 ·rintro t u w (e | ⟨rfl,rfl⟩) (e' | ⟨e1,e2⟩)
  ·exact h.g.tkf t u w e e'
  ·exact absurd (e1 ▸ (h.g.tkb _ _ e).2) (Nat.lt_irrefl _)
  ·exact absurd (h.g.tkb _ _ e').2 (Nat.lt_irrefl _)
  ·exact e2.symm
 ·refine ad h.f.ns fun m h1 h2=>?_
  exact (am m h1 (fun k x v a b=>(h2 k x v a b).mono hρ hZ))
theorem Good.lt {L:Addr} (h:Good C B L ρ Z H s) {a:Addr} (ha:a∈ρ):a<s.heap.objs.size:=by
 refine Ze1 (List.getElem?_of_mem ha) fun j e=>?_
 refine ay (h.obj j a e) fun ao o _ e2 _=>?_
 exact Heap.lt_size e2
theorem OK.push (h:OK C X B f env ρ Z H s) {o:Obj} {ao:AO} (hn:H'.n=H.n+1) (hg:∀ i,H'.get i=if i=H.n then some ao else H.get i) (ho:ORel C (ρ++[s.heap.objs.size]) Z ao o) :
  OK C X B f env (ρ++[s.heap.objs.size]) Z H' { s with heap:=s.heap.push o }:=by
 have hρ:ρ <+: ρ++[s.heap.objs.size]:=List.prefix_append ..
 have hZ:Z.le Z:=Fz.le.rfl _
 have hf:=ho.unfreed
 refine ⟨⟨h.g.base,fun a o' e=>Heap.get?_push_of_some _ (h.g.b a o' e),fun a o' e=>Heap.get?_push_of_some _ (h.g.z a o' e),by simp [h.g.len,hn],fun j a e=>?_,?_,?_,?_,?_,h.g.lb,h.g.lz,h.g.zb,?_,?_,h.g.tk,h.g.tkb,h.g.tkf,fun k P e=>bz hρ (h.g.tabs k P e)⟩,⟨h.f.sc,h.f.gl,h.f.bl,h.f.cd,h.f.qual,?_,?_⟩⟩
 ·by_cases hj:j<ρ.length
  ·rw [List.getElem?_append_left hj] at e
   refine ay (h.g.obj j a e) fun ao' o' e1 e2 e3=>?_
   exact (aK ao' o' (by rw [hg,if_neg (by rw [← h.g.len]; omega)]; exact e1) (Heap.get?_push_of_some _ e2) (e3.mono hρ hZ))
  ·rw [List.getElem?_append_right (by omega)] at e
   have hj0:j-ρ.length=0:=by
    have:=(ZbS e).1; simp at this; omega
   rw [hj0] at e
   have ea:s.heap.objs.size=a:=by simpa using e
   clear e
   subst ea
   exact (aK ao o (by rw [hg,if_pos (by rw [← h.g.len]; omega)]) (Heap.get?_push_size _ hf) ho)
 ·exact te h.g.nd1 (fun m=>Nat.lt_irrefl _ (h.g.lt m)) (h.g.fresh1 (Nat.le_refl _))
 ·intro a ha o' hb
  rcases List.mem_append.mp ha with ha | ha
  ·exact h.g.ab a ha o' hb
  ·rw [List.mem_singleton.mp ha] at hb
   exact absurd (Heap.lt_size (h.g.b _ _ hb)) (Nat.lt_irrefl _)
 ·intro a ha o' hb
  rcases List.mem_append.mp ha with ha | ha
  ·exact h.g.az a ha o' hb
  ·rw [List.mem_singleton.mp ha] at hb
   exact absurd (Heap.lt_size (h.g.z _ _ hb)) (Nat.lt_irrefl _)
 ·intro ha
  rcases List.mem_append.mp ha with ha | ha
  ·exact h.g.lρ ha
  ·have:=h.g.ls
   rw [List.mem_singleton.mp ha] at this
   exact Nat.lt_irrefl _ this
 ·refine (?_:env.locals<(s.heap.push o).objs.size)
  rw [Heap.size_push]; exact Nat.lt_succ_of_lt h.g.ls
 ·refine Ze2 h.g.same fun hh t e=>?_
  exact (lx (s.heap.push o) t (by rw [e]))
 ·refine ad h.f.ns fun m h1 h2=>?_
  exact (am m (h1.push _) (fun k x v a b=>(h2 k x v a b).mono hρ hZ))
 ·intro k x j a b
  refine ad (h.f.ce k x j a b) fun c h1 h2=>?_
  exact (am c h1 (bz hρ h2))
noncomputable def Fz.add (Z:Fz) (a:Addr) (o:Obj):Fz:=⟨fun b o'=>Z.ob b o'∨(b=a∧o'=o),Z.tk⟩
noncomputable def Bz.add (B:Bz) (a:Addr) (o:Obj):Bz:=fun b o'=>B b o'∨(b=a∧o'=o)
theorem Fz.le_add {Z:Fz} {a:Addr} {o:Obj}:Z.le (Z.add a o):=⟨fun _ _ e=>.inl e,fun _ _ e=>e⟩
theorem Bz.add_here {B:Bz} {a:Addr} {o:Obj}:B.add a o a o:=.inr ⟨rfl,rfl⟩
theorem Fz.add_here {Z:Fz} {a:Addr} {o:Obj}:(Z.add a o).ob a o:=.inr ⟨rfl,rfl⟩
theorem OK.freeze (h:OK C X B f env ρ Z H s) {o:Obj} (ho:o.isFreed=false):OK C X B f env ρ (Z.add s.heap.objs.size o) H { s with heap:=s.heap.push o }:=by
 have hρ:ρ <+: ρ:=List.prefix_refl _
 have hZ:Z.le (Z.add s.heap.objs.size o):=Fz.le_add
 refine ⟨⟨h.g.base,fun a o' e=>Heap.get?_push_of_some _ (h.g.b a o' e),?_,h.g.len,fun j a e=>?_,h.g.nd1,h.g.ab,?_,h.g.lρ,h.g.lb,?_,?_,?_,?_,h.g.tk,h.g.tkb,h.g.tkf,h.g.tabs⟩,⟨h.f.sc,h.f.gl,h.f.bl,h.f.cd,h.f.qual,?_,h.f.ce⟩⟩
 ·rintro a o' (e | ⟨rfl,rfl⟩)
  ·exact Heap.get?_push_of_some _ (h.g.z a o' e)
  ·exact Heap.get?_push_size _ ho
 ·refine ay (h.g.obj j a e) fun ao' o' e1 e2 e3=>?_
  exact (aK ao' o' e1 (Heap.get?_push_of_some _ e2) (e3.mono hρ hZ))
 ·rintro a ha o' (e | ⟨rfl,rfl⟩)
  ·exact h.g.az a ha o' e
  ·exact Nat.lt_irrefl _ (h.g.lt ha)
 ·rintro o' (e | ⟨e,rfl⟩)
  ·exact h.g.lz o' e
  ·exact Nat.ne_of_lt h.g.ls e
 ·rintro a o' o'' (e | ⟨rfl,rfl⟩) hb
  ·exact h.g.zb a o' o'' e hb
  ·exact Nat.lt_irrefl _ (Heap.lt_size (h.g.b _ _ hb))
 ·refine (?_:env.locals<(s.heap.push o).objs.size)
  rw [Heap.size_push]; exact Nat.lt_succ_of_lt h.g.ls
 ·refine Ze2 h.g.same fun hh t e=>?_
  exact (lx (s.heap.push o) t (by rw [e]))
 ·refine ad h.f.ns fun m h1 h2=>?_
  exact (am m (h1.push _) (fun k x v a b=>(h2 k x v a b).mono hρ hZ))
theorem OK.update (h:OK C X B f env ρ Z H s) {j:Nat} {a:Addr} {o:Obj} {ao:AO} {h':Heap} (hn:H'.n=H.n) (hg:∀ i,H'.get i=if i=j then some ao else H.get i) (hj:ρ[j]?=some a)
  (hs:Heap.SameBut a s.heap h') (he:h'.get? a=some o) (ho:ORel C ρ Z ao o):OK C X B f env ρ Z H' { s with heap:=h' }:=by
 have ham:a∈ρ:=ZbM hj
 refine ⟨⟨h.g.base,fun b o' e=>?_,fun b o' e=>?_,by rw [hn]; exact h.g.len,fun i b e=>?_,h.g.nd1,h.g.ab,h.g.az,h.g.lρ,h.g.lb,h.g.lz,h.g.zb,?_,?_,h.g.tk,h.g.tkb,h.g.tkf,h.g.tabs⟩,⟨h.f.sc,h.f.gl,h.f.bl,h.f.cd,h.f.qual,?_,h.f.ce⟩⟩
 ·exact (hs.2 b fun z=>h.g.ab a ham o' (z ▸ e)).trans (h.g.b b o' e)
 ·exact (hs.2 b fun z=>h.g.az a ham o' (z ▸ e)).trans (h.g.z b o' e)
 ·by_cases hij:i=j
  ·subst hij
   have hba:b=a:=Option.some.inj (e.symm.trans hj)
   clear hs ham hj
   subst hba
   exact (aK ao o (by rw [hg,if_pos rfl]) he ho)
  ·refine ay (h.g.obj i b e) fun ao' o' e1 e2 e3=>?_
   have hne:b ≠ a:=by
    intro z
    clear hs he ham
    subst z
    have h1:=(ZbS e).1
    exact hij ((List.getElem?_inj h1 h.g.nd).mp (e.trans hj.symm))
   exact (aK ao' o' (by rw [hg,if_neg hij]; exact e1) ((hs.2 b hne).trans e2) e3)
 ·refine (?_:env.locals<h'.objs.size)
  rw [hs.1]; exact h.g.ls
 ·refine Ze2 h.g.same fun hh t e=>?_
  exact (lx h' t (by rw [e]))
 ·refine ad h.f.ns fun m h1 h2=>?_
  exact (am m (h1.sameBut hs fun z=>h.g.lρ (z ▸ ham)) h2)
theorem Good.leave {L L':Addr} {o:Obj} (h:Good C B L ρ Z H s) (ho:s.heap.get? L=some o) {s':Shared} (e:ρ <+: ρ') (g:Good C (B.add L o) L' ρ' Z' H' s'):Good C B L ρ' Z' H' s' :=
 ⟨h.base,fun a o' x=>g.b a o' (.inl x),g.z,g.len,g.obj,g.nd1,fun a ha o' x=>g.ab a ha o' (.inl x),g.az,fun hm=>g.ab L hm o Bz.add_here,h.lb,fun o' x=>g.zb L o' o x Bz.add_here,fun a o' o'' x y=>g.zb a o' o'' x (.inl y),
  Heap.lt_size (g.b L o Bz.add_here),g.same,g.tk,g.tkb,g.tkf,g.tabs⟩
theorem OK.leave (h:OK C X B f env ρ Z H s) {L':Addr} {o:Obj} (ho:s.heap.get? env.locals=some o) {s':Shared} (e:ρ <+: ρ') (z:Z.le Z') (g:Good C (B.add env.locals o) L' ρ' Z' H' s'):OK C X B f env ρ' Z' H' s':=by
 refine ⟨h.g.leave ho e g,h.f.sc,h.f.gl,h.f.bl,h.f.cd,h.f.qual,?_,fun k x j a b=>?_⟩
 ·nomatch ad h.f.ns,h
  intro m zt33_1 hr
  nomatch da zt33_1,zt33_1
  intro o' es ep h1 h2 h3 h4
  rw [ho] at h1
  injections h1
  exact (am m ⟨o,es,ep,g.b _ _ Bz.add_here,h2,h3,h4⟩ (fun k x v a b=>(hr k x v a b).mono e z))
 ·refine ad (h.f.ce k x j a b) fun c h1 h2=>?_
  exact (am c h1 (bz e h2))
theorem OK.extBut (h:OK C X B f env ρ Z H s) {it:Addr} {h':Heap} (hx:Heap.ExtBut it s.heap h') (h1:it ∉ ρ) (h2:∀ o,¬ B it o) (h3:∀ o,¬ Z.ob it o) (h4:it ≠ env.locals):OK C X B f env ρ Z H { s with heap:=h' }:=by
 have zh35:∃ o,s.heap.get? env.locals=some o:=by
  refine ad h.f.ns fun m zt36_1 _=>?_
  refine eH zt36_1 fun o es ep h1 _=>?_
  exact ⟨o,h1⟩
 refine Ze1 zh35 fun oL hL=>?_
 refine ⟨⟨h.g.base,fun b o' e=>hx b o' (fun z=>h2 o' (z ▸ e)) (h.g.b b o' e),fun b o' e=>hx b o' (fun z=>h3 o' (z ▸ e)) (h.g.z b o' e),h.g.len,fun i b e=>?_,h.g.nd1,h.g.ab,h.g.az,h.g.lρ,h.g.lb,h.g.lz,h.g.zb,Heap.lt_size (hx _ _ (Ne.symm h4) hL),?_,h.g.tk,h.g.tkb,h.g.tkf,h.g.tabs⟩,⟨h.f.sc,h.f.gl,h.f.bl,h.f.cd,h.f.qual,?_,h.f.ce⟩⟩
 ·refine ay (h.g.obj i b e) fun ao' o' e1 e2 e3=>?_
  exact (aK ao' o' e1 (hx b o' (fun z=>h1 (z ▸ ZbM e)) e2) e3)
 ·refine Ze2 h.g.same fun hh t e=>?_
  exact (lx h' t (by rw [e]))
 ·refine ad h.f.ns fun m p1 p2=>?_
  exact (am m (p1.extBut hx (Ne.symm h4)) p2)
theorem OK.extNew (h:OK C X B f env ρ Z H s) {h':Heap} (hx:Heap.ExtBut s.heap.objs.size s.heap h'):OK C X B f env ρ Z H { s with heap:=h' } :=
 h.extBut hx (fun z=>Nat.lt_irrefl _ (h.g.lt z)) (fun o e=>Nat.lt_irrefl _ (Heap.lt_size (h.g.b _ _ e))) (fun o e=>Nat.lt_irrefl _ (Heap.lt_size (h.g.z _ _ e))) (Nat.ne_of_gt h.g.ls)
theorem OK.waste (h:OK C X B f env ρ Z H s) (o:Obj):OK C X B f env ρ Z H { s with heap:=s.heap.push o }:=h.extNew fun b o' _ e=>Heap.get?_push_of_some _ e
noncomputable def Pv (B:Bz) (L:Addr) (ρ:List Addr) (Z:Fz) (s:Shared) (P:List (Addr × Obj)):Prop:=∀ p∈P,s.heap.get? p.1=some p.2∧p.1 ∉ ρ∧(∀ o,¬ B p.1 o)∧(∀ o,¬ Z.ob p.1 o)∧p.1 ≠ L
noncomputable def BP (B:Bz) (P:List (Addr × Obj)):Bz:=fun a o=>B a o∨(a,o)∈P
theorem OK.priv (h:OK C X B f env ρ Z H s) {P:List (Addr × Obj)} (hp:Pv B env.locals ρ Z s P):OK C X (BP B P) f env ρ Z H s:=by
 refine ⟨⟨fun a o e=>.inl (h.g.base a o e),?_,h.g.z,h.g.len,h.g.obj,h.g.nd1,?_,h.g.az,h.g.lρ,?_,h.g.lz,?_,h.g.ls,h.g.same,h.g.tk,h.g.tkb,h.g.tkf,h.g.tabs⟩,h.f⟩
 ·rintro a o (e | e)
  ·exact h.g.b a o e
  ·exact (hp _ e).1
 ·rintro a ha o (e | e)
  ·exact h.g.ab a ha o e
  ·exact (hp _ e).2.1 ha
 ·rintro o (e | e)
  ·exact h.g.lb o e
  ·exact (hp _ e).2.2.2.2 rfl
 ·rintro a o o' e (e' | e')
  ·exact h.g.zb a o o' e e'
  ·exact (hp _ e').2.2.2.1 o e
theorem OK.unpriv {P:List (Addr × Obj)} (h:OK C X (BP B P) f env ρ Z H s) (hb:∀ a o,C.G.get? a=some o->B a o) (hp:∀ p∈P,∀ o,¬ B p.1 o):OK C X B f env ρ Z H s∧Pv B env.locals ρ Z s P:=by
 refine ⟨⟨⟨hb,fun a o e=>h.g.b a o (.inl e),h.g.z,h.g.len,h.g.obj,h.g.nd1,fun a ha o e=>h.g.ab a ha o (.inl e),h.g.az,h.g.lρ,fun o e=>h.g.lb o (.inl e),h.g.lz,fun a o o' e e'=>h.g.zb a o o' e (.inl e'),h.g.ls,h.g.same,h.g.tk,h.g.tkb,h.g.tkf,h.g.tabs⟩,h.f⟩,fun p hm=>?_⟩
 exact ⟨h.g.b p.1 p.2 (.inr hm),fun z=>h.g.ab _ z p.2 (.inr hm),hp p hm,fun o e=>h.g.zb p.1 o p.2 e (.inr hm),fun z=>h.g.lb p.2 (z ▸ .inr hm)⟩
theorem OK.own (h:OK C X B f env ρ Z H s) (o:Obj) (hf:o.isFreed=false):OK C X B f env ρ Z H { s with heap:=s.heap.push o }∧Pv B env.locals ρ Z { s with heap:=s.heap.push o } [(s.heap.objs.size,o)]:=by
 refine ⟨h.waste o,fun p hp=>?_⟩
 rw [List.mem_singleton.mp hp]
 exact ⟨Heap.get?_push_size _ hf,fun z=>Nat.lt_irrefl _ (h.g.lt z),fun o e=>Nat.lt_irrefl _ (Heap.lt_size (h.g.b _ _ e)),fun o e=>Nat.lt_irrefl _ (Heap.lt_size (h.g.z _ _ e)),Nat.ne_of_gt h.g.ls⟩
theorem OK.localsObj (h:OK C X B f env ρ Z H s):∃ o,s.heap.get? env.locals=some o:=by
 refine ad h.f.ns fun m zt40_1 _=>?_
 refine eH zt40_1 fun o es ep h1 _=>?_
 exact ⟨o,h1⟩
theorem OK.store (h:OK C X B f env ρ Z H s) {f':Fm} {m:Str->Option Value} {h':Heap} {t:Nat} (hs:Heap.SameBut env.locals s.heap h') (hm:h'.Ns env.locals m) (hc:f'.cel=f.cel)
  (hl:∀ (k:Nat) x v,X.tab[k]?=some x->f'.loc[k]?=some v->SRel C.σ ρ Z v (m x)) (ht:s.toks≤t):OK C X B f' env ρ Z H { s with heap:=h',toks:=t }:=by
 refine ⟨⟨h.g.base,fun b o' e=>?_,fun b o' e=>?_,h.g.len,fun i b e=>?_,h.g.nd1,h.g.ab,h.g.az,h.g.lρ,h.g.lb,h.g.lz,h.g.zb,?_,?_,fun q=>Nat.le_trans (h.g.tk q) ht,fun u v e=>⟨(h.g.tkb u v e).1,Nat.lt_of_lt_of_le (h.g.tkb u v e).2 ht⟩,h.g.tkf,h.g.tabs⟩,⟨h.f.sc,h.f.gl,h.f.bl,h.f.cd,h.f.qual,(am m hm hl),hc ▸ h.f.ce⟩⟩
 ·exact (hs.2 b fun z=>h.g.lb o' (z ▸ e)).trans (h.g.b b o' e)
 ·exact (hs.2 b fun z=>h.g.lz o' (z ▸ e)).trans (h.g.z b o' e)
 ·refine ay (h.g.obj i b e) fun ao' o' e1 e2 e3=>?_
  exact (aK ao' o' e1 ((hs.2 b fun z=>h.g.lρ (z ▸ ZbM e)).trans e2) e3)
 ·refine (?_:env.locals<h'.objs.size)
  rw [hs.1]; exact h.g.ls
 ·refine Ze2 h.g.same fun hh t' e=>?_
  exact (lx h' t (by rw [e]))
end
end
def G6 (σ:Sig) (ρ:List Addr) (Z:Fz) (a:AV) (v:Value):Prop :=
 @AV.casesOn (fun _=>Prop) a (v = .none) (fun b=>v = .bool b) (fun i=>∃ t,v = .int i t) (fun s=>∃ t,v = .str (aw σ s) t) (fun j=>∃ a,v = .ref a∧ρ[j]?=some a) (fun w=>v=w)
  (fun l=>∃ vs a n,v = .ref a∧Z.ob a (lu vs n)∧l.items.length=vs.length∧∀ (i:Nat) x v,l.items[i]?=some x->vs[i]?=some v->VRel σ ρ Z x v) False
  (fun a b=>(∃ x c o,a = .str x∧b = .tnil∧v = .ref c∧Z.ob c o∧Gu σ.bt o (aw σ x))∨(a = .none∧b = .tnil∧v=σ.scr))
  (fun C j=>∃ x dx,v = .ref x∧Z.ob x (instObj C dx)∧ρ[j]?=some dx) (fun f self=>∃ sv a,v = .ref a∧Z.ob a (methodObj (.ref f) sv)∧VRel σ ρ Z self sv)
  (fun id self=>∃ sv a,v = .ref a∧Z.ob a { cls:=.type "builtin_function_or_method",data:=.fields #[.builtin (Ik id),sv] }∧VRel σ ρ Z self sv)
  (fun a b c=>∃ t u w x,v = .ref x∧Z.ob x { cls:=.type "range",data:=.fields #[.int a t,.int b u,.int c w] })
  (fun a b c=>∃ x y z p,v = .ref p∧Z.ob p { cls:=.type "slice",data:=.fields #[x,y,z] }∧VRel σ ρ Z a x∧VRel σ ρ Z b y∧VRel σ ρ Z c z)
  (fun k=>∃ t,v = .int (σ.cel k) t∧σ.cok k) (fun k d=>∃ t,v = .int (Int.fdiv (σ.cel k) d) t) (fun k d m=>∃ t,v = .int (Int.fmod (Int.fdiv (σ.cel k) d) m) t) (∃ t,v = .str (aw σ σ.page) t)
  (fun s=>∃ pre t,v = .int (pre.length:Int) t∧txt σ σ.page=pre++txt σ s)
  (fun id cs=>∃ a T nm cl doc pm ct c oc vs u,v = .ref a∧σ.fns id=some T∧Z.ob a { cls:=.type "function",data:=.func (iK T nm cl doc pm (.ref c) ct) }∧Z.ob c oc∧oc.data = .fields vs∧vs[1]?=some (.str T.qual u)∧(∀ (k:Nat) x j,T.ctab[k]?=some x->cs[k]?=some j->∃ b,cl.lookup x=some b∧ρ[j]?=some b))
  (fun s=>∃ t,v = .int ((txt σ s).length:Int) t) (fun i=>∃ t,v = .int i t∧Z.tk t (.int i t)) (fun s=>∃ t,v = .str (aw σ s) t∧Z.tk t (.str (aw σ s) t))
theorem VRel.inv {σ:Sig} {ρ:List Addr} {Z:Fz} {a:AV} {v:Value} (h:VRel σ ρ Z a v):G6 σ ρ Z a v :=
 @VRel.casesOn σ ρ Z (fun a v _=>G6 σ ρ Z a v) a v h rfl (fun _=>rfl) (fun _ t=>⟨t,rfl⟩) (fun _ t=>⟨t,rfl⟩) (fun e=>⟨_,rfl,e⟩) (fun _=>rfl) (fun h1 h2 h3=>⟨_,_,_,rfl,h1,h2,h3⟩) (fun h1 h2=>⟨_,_,rfl,h1,h2⟩) (fun h1 h2=>⟨_,_,rfl,h1,h2⟩)
  (fun h=>⟨_,_,_,_,rfl,h⟩) (fun _ t h=>⟨t,rfl,h⟩) (fun _ _ t=>⟨t,rfl⟩) (fun _ _ _ t=>⟨t,rfl⟩) (fun t=>⟨t,rfl⟩) (fun h=>⟨_,_,rfl,h⟩) (fun h1 h2=>⟨_,_,rfl,h1,h2⟩) (fun _ t=>⟨t,rfl⟩) (fun h1 h2 h3 h4=>⟨_,_,_,_,rfl,h1,h2,h3,h4⟩)
  (fun h=>⟨_,rfl,h⟩) (fun h=>⟨_,rfl,h⟩) (fun h1 h2=>.inl ⟨_,_,_,rfl,rfl,rfl,h1,h2⟩) (.inr ⟨rfl,rfl,rfl⟩) (fun h1 h2 h3 h4 h5 h6=>⟨_,_,_,_,_,_,_,_,_,_,_,rfl,h1,h2,h3,h4,h5,h6⟩)
structure Ext (ρ:List Addr) (Z:Fz) (ρ':List Addr) (Z':Fz):Prop where
 p:ρ <+: ρ'
 z:Z.le Z'
theorem Ext.refl (ρ:List Addr) (Z:Fz):Ext ρ Z ρ Z:=⟨List.prefix_refl _,Fz.le.rfl _⟩
theorem Ext.trans {ρ ρ' ρ'':List Addr} {Z Z' Z'':Fz} (a:Ext ρ Z ρ' Z') (b:Ext ρ' Z' ρ'' Z''):Ext ρ Z ρ'' Z'':=⟨a.p.trans b.p,⟨fun _ _ e=>b.z.ob _ _ (a.z.ob _ _ e),fun _ _ e=>b.z.tk _ _ (a.z.tk _ _ e)⟩⟩
theorem VRel.ext {σ:Sig} {ρ ρ':List Addr} {Z Z':Fz} {x:AV} {v:Value} (h:VRel σ ρ Z x v) (e:Ext ρ Z ρ' Z'):VRel σ ρ' Z' x v:=h.mono e.p e.z
theorem VRs.ext {σ:Sig} {ρ ρ':List Addr} {Z Z':Fz} {x:List AV} {v:List Value} (h:VRs σ ρ Z x v) (e:Ext ρ Z ρ' Z'):VRs σ ρ' Z' x v:=h.mono e.p e.z
structure AOk (dp:Nat) (A:Around):Prop where
 hd:A.handled=none
 dep:A.depth+4 * dp+20≤1000
 un:A.units+20 * dp+100≤9900
theorem AOk.room {dp:Nat} {A:Around} (h:AOk dp A):A.depth<recursionLimit:=by have:=h.dep; show A.depth<1000; omega
theorem AOk.units {dp:Nat} {A:Around} (h:AOk dp A):A.units<cLine:=by have:=h.un; show A.units<9900; omega
noncomputable def Wp {α β:Type} (C:Cx) (X:Sc) (B:Bz) (f:Fm) (env:Env) (R:List Addr->Fz->β->α->Prop) (ρ:List Addr) (Z:Fz) (A:Around) (t:Sem α) (s:Shared) (k:β->HP->Bool):Prop :=
 ∀ (Q:α->Shared->Prop) (E:Value->Shared->Prop),(∀ ρ' Z' H' s' b a,Ext ρ Z ρ' Z'->OK C X B f env ρ' Z' H' s'->R ρ' Z' b a->k b H'=true->Q a s')->wpAny (model C.prog C.w) A t Q E s
noncomputable abbrev RV (C:Cx):List Addr->Fz->AV->Value->Prop:=VRel C.σ
noncomputable abbrev RB:List Addr->Fz->Bool->Bool->Prop:=fun _ _ b a=>b=a
noncomputable abbrev D:=Nat->Fm->HP->(AV->HP->Bool)->Bool
noncomputable abbrev DB:=Nat->Fm->HP->(Bool->HP->Bool)->Bool
noncomputable abbrev DL:=Nat->Fm->HP->(List AV->HP->Bool)->Bool
noncomputable def ST {α β:Type} (C:Cx) (X:Sc) (R:List Addr->Fz->β->α->Prop) (t:Env->Sem α) (d:Nat->Fm->HP->(β->HP->Bool)->Bool):Prop :=
 ∀ dp f H k A env B ρ Z s,d dp f H k=true->AOk dp A->OK C X B f env ρ Z H s->Wp C X B f env R ρ Z A (t env) s k
noncomputable abbrev SE (C:Cx) (X:Sc) (e:Ex) (d:D):Prop:=ST C X (RV C) (fun env=>eval e env) d
noncomputable abbrev SB (C:Cx) (X:Sc) (e:Ex) (d:DB):Prop:=ST C X RB (fun env=>isTrue e env (eval e env)) d
section
variable {C:Cx} {X:Sc} {B:Bz} {f:Fm} {env:Env} {ρ:List Addr} {Z:Fz} {H:HP} {s:Shared} {A:Around}
def bx (i:Int):D:=fun _ _ H k=>k (.int i) H
theorem aF {i:Int} {n:Nat} {pos:Pos}:SE C X (.Constant (.int i) n pos) (bx i) :=
 fun dp f H k A env B ρ Z s hd hA ok Q E hQ=>wpAny_Constant_int (hQ _ _ _ _ _ _ (Ext.refl ..) (ok.tok _) (.int ..) hd)
def aV (x:SS):D:=fun _ _ H k=>k (.lit x) H
noncomputable def lit (l:List Nat):SS:=l.map SA.c
theorem fu (σ:Sig) (l:List Nat):txt σ (lit l)=l:=by
 induction l with
 | nil=>rfl
 | cons x l ih=>show [x]++txt σ (lit l)=_; rw [ih]; rfl
theorem au {x:Str} {l:SS} {n:Nat} {pos:Pos} (h:aw C.σ l=x):SE C X (.Constant (.str x) n pos) (aV l) :=
 fun dp f H k A env B ρ Z s hd hA ok Q E hQ=>Constant_str (hQ _ _ _ _ _ _ ⟨List.prefix_refl _,Fz.le_tick⟩ (ok.tick (.str x s.toks)) (h ▸ .lit (.inr ⟨rfl,by rw [h]⟩)) hd)
def iH (b:Bool):D:=fun _ _ H k=>k (.bool b) H
theorem eO {b:Bool} {n:Nat} {pos:Pos}:SE C X (.Constant (.bool b) n pos) (iH b) :=
 fun dp f H k A env B ρ Z s hd hA ok Q E hQ=>by
  refine (?_:wpAny _ _ (pure (Value.bool b)) _ _ _)
  exact ZP (hQ _ _ _ _ _ _ (Ext.refl ..) ok (.bool ..) hd)
def bR:D:=fun _ _ H k=>k .none H
theorem ch {n:Nat} {pos:Pos}:SE C X (.Constant .none n pos) bR :=
 fun dp f H k A env B ρ Z s hd hA ok Q E hQ=>by
  refine (?_:wpAny _ _ (pure Value.none) _ _ _)
  exact ZP (hQ _ _ _ _ _ _ (Ext.refl ..) ok .none hd)
def yd {α:Type} (l:List α):Nat->Option α:=@List.rec α (fun _=>Nat->Option α) (fun _=>none) (fun x _ ih n=>@Bool.rec (fun _=>Option α) (ih (Nat.sub n 1)) (some x) (Nat.beq n 0)) l
theorem mR {α:Type} (l:List α) (n:Nat):yd l n=l[n]?:=by
 induction l generalizing n with
 | nil=>rfl
 | cons x l ih=>induction n using Nat.casesAuxOn with
  | zero=>rfl
  | succ n=>exact ih n
def bk {α:Type} (o:Option α) (k:α->Bool):Bool:=@Option.rec α (fun _=>Bool) false k o
theorem al {α:Type} {o:Option α} {k:α->Bool} (h:bk o k=true):∃ x,o=some x∧k x=true:=by
 induction o using Option.casesOn with
 | none=>exact ffE h
 | some x=>exact (am x rfl h)
def aB (a b:Bool):Bool:=br false b a
theorem af {a b:Bool} (h:aB a b=true):a=true∧b=true:=by induction a using Bool.casesOn<;>simp_all [aB,br]
def i8 {α:Type} (l:List α) (n:Nat) (k:α->Bool):Bool:=@Option.rec α (fun _=>Bool) false k (yd l n)
theorem cU {α:Type} {l:List α} {n:Nat} {k:α->Bool} (h:i8 l n k=true):∃ x,l[n]?=some x∧k x=true:=by
 refine ad (al h) fun x h1 h2=>?_
 rw [mR] at h1
 exact (am x h1 h2)
def td (l:List (Option AV)) (n:Nat) (k:AV->Bool):Bool:=@Option.rec (Option AV) (fun _=>Bool) false (@Option.rec AV (fun _=>Bool) false k) (yd l n)
theorem eJ {l:List (Option AV)} {n:Nat} {k:AV->Bool} (h:td l n k=true):∃ v,l[n]?=some (some v)∧k v=true:=by
 refine ad (al (k:=@Option.rec AV (fun _=>Bool) false k) h) fun o h1 h2=>?_
 refine ad (al h2) fun v zq1 h3=>?_
 subst zq1
 rw [mR] at h1
 exact (am v h1 h3)
def ak (i:Nat):D:=fun _ f H k=>@Fm.rec (fun _=>Bool) (fun loc _=>td loc i fun v=>k v H) f
structure FScope (X:Sc):Prop where
 kind:X.sc.kind = .function
theorem aa {x:Str} {i:Nat} {pos:Pos} (hk:X.sc.kind = .function) (hl:X.sc.names.lookup x=some .local) (hi:X.tab[i]?=some x) (hd:(x==("__debug__" : Str))=false):SE C X (.Name x pos) (ak i):=by
 intro dp f H k A env B ρ Z s hd' hA ok Q E hQ
 refine ad (eJ hd') fun v h1 h4=>?_
 refine ad ok.f.ns fun m hm hr=>?_
 refine ad (hr i x _ hi h1 v rfl) fun y e1 e2=>?_
 refine wpAny_Name (wpAny_loadName_local (by rw [ok.f.sc]; exact hk) ?_ hm e1 (hQ _ _ _ _ _ _ (Ext.refl ..) ok e2 h4)) hd
 refine (?_:env.scope.names.lookup x=some .local)
 rw [ok.f.sc]; exact hl
def bK (i:Nat):D:=fun _ f H k=>@Fm.rec (fun _=>Bool) (fun _ cel=>i8 cel i fun j=>H.getK j fun ao=>@AO.rec (fun _=>Bool) (fun _ _=>false) (fun _=>false) (fun _=>false) (fun _=>false) (fun v=>bk v fun v=>k v H) (fun _=>false) ao) f
theorem Dm (ok:OK C X B f env ρ Z H s) {i j:Nat} {x:Str} {v:AV} (hi:X.ctab[i]?=some x) (h1:f.cel[i]?=some j) (h2:H.get j=some (.cell (some v))) :
  ∃ a y,env.cells.lookup x=some a∧ρ[j]?=some a∧s.heap.IsCell a (some y)∧VRel C.σ ρ Z v y:=by
 nomatch ad (ok.f.ce i x j hi h1),hi,h1
 intro a c1 c2
 nomatch ay (ok.g.obj j a c2),ok
 intro ao o e1 e2 e3
 rw [h2] at e1
 injections e1
 rcases e3 with ⟨_,e⟩ | ⟨p,q,e4,e5,e6⟩
 ·exact noS e.symm
 ·injections e4
  exact (uQ a q c1 c2 ⟨o,e2,e5⟩ e6)
theorem aM {x:Str} {i:Nat} {pos:Pos} {nk:NameKind} (hk:X.sc.kind = .function) (hl:X.sc.names.lookup x=some nk) (hn:nk = .cell∨nk = .free∧(x==("__classdict__" : Str))=false) (hi:X.ctab[i]?=some x) (hd:(x==("__debug__" : Str))=false):SE C X (.Name x pos) (bK i):=by
 intro dp f H k A env B ρ Z s hd' hA ok Q E hQ
 nomatch ad (cU hd'),hd'
 intro j h1 h2
 nomatch ad (HP.getK_true h2),h2
 intro ao h3 h4
 induction ao using AO.casesOn with
 | cell v =>
  refine ad (al h4) fun v zq1 h5=>?_
  clear h4
  subst zq1
  nomatch ay (Dm ok hi h1 h3),hi,h1,h3
  intro a y c1 c2 zw0
  nomatch Za1 zw0,zw0
  intro c3 c4
  rcases hn with rfl | ⟨rfl,hn⟩
  ·refine wpAny_Name (wpAny_loadName_cell (by rw [ok.f.sc]; exact hk) ?_ c1 c3 (hQ _ _ _ _ _ _ (Ext.refl ..) ok c4 h5)) hd
   refine (?_:env.scope.names.lookup x=some .cell)
   rw [ok.f.sc]; exact hl
  ·refine wpAny_Name (wpAny_loadName_free (by rw [ok.f.sc]; exact hk) ?_ c1 c3 (hQ _ _ _ _ _ _ (Ext.refl ..) ok c4 h5) hn) hd
   refine (?_:env.scope.names.lookup x=some .free)
   rw [ok.f.sc]; exact hl
 | _=>exact ffE h4
theorem OK.glob (ok:OK C X B f env ρ Z H s):s.heap.Ns mainGlobals C.mg:=C.g.keeps fun b o e=>ok.g.b b o (ok.g.base b o e)
theorem OK.built (ok:OK C X B f env ρ Z H s):s.heap.Ns builtinsNs C.mb:=C.b.keeps fun b o e=>ok.g.b b o (ok.g.base b o e)
theorem OK.K (ok:OK C X B f env ρ Z H s):C.K.In s.heap:=C.KI.keeps fun b o e=>ok.g.b b o (ok.g.base b o e)
theorem OK.nolimit (ok:OK C X B f env ρ Z H s):s.heap.NoLimit:=C.nolimit.keeps fun b o e=>ok.g.b b o (ok.g.base b o e)
def Br (v:AV):D:=fun _ _ H k=>k v H
noncomputable def Cx.Glob (C:Cx) (x:Str) (av:AV):Prop:=∃ v,(C.mg x=some v∨C.mg x=none∧C.mb x=some v)∧∀ ρ Z,VRel C.σ ρ Z av v
theorem wo {x:Str} {pos:Pos} {av:AV} (hk:X.sc.kind = .function) (hl:X.sc.names.lookup x=some .globalImplicit) (hg:C.Glob x av) (hd:(x==("__debug__" : Str))=false):SE C X (.Name x pos) (Br av):=by
 intro dp f H k A env B ρ Z s hd' hA ok Q E hQ
 nomatch ad hg,hg
 intro v hv hr
 have hq:=hQ _ _ _ _ _ _ (Ext.refl ..) ok (hr ρ Z) hd'
 refine Name_function_global (by rw [ok.f.sc]; exact hk) (by show env.scope.names.lookup x=_; rw [ok.f.sc]; exact hl) ?_ hd
 have hgl:s.heap.Ns env.globals C.mg:=by rw [ok.f.gl]; exact ok.glob
 rcases hv with hv | ⟨hn,hv⟩
 ·exact loadGlobal_global hgl hv hq
 ·exact loadGlobal_builtin hgl hn (by rw [ok.f.bl]; exact ok.built) hv hq
end
noncomputable abbrev P1:=AV->HP->(AV->HP->Bool)->Bool
noncomputable abbrev P2:=AV->AV->HP->(AV->HP->Bool)->Bool
noncomputable def cK (C:Cx) (t:Value->Value->Sem Value) (p:P2):Prop :=
 ∀ X dp f H k A env B ρ Z s a b va vb,p a b H k=true->AOk dp A->OK C X B f env ρ Z H s->VRel C.σ ρ Z a va->VRel C.σ ρ Z b vb->Wp C X B f env (RV C) ρ Z A (t va vb) s k
noncomputable def Bn (C:Cx) (t:Value->Sem Value) (p:P1):Prop :=
 ∀ X dp f H k A env B ρ Z s a va,p a H k=true->AOk dp A->OK C X B f env ρ Z H s->VRel C.σ ρ Z a va->Wp C X B f env (RV C) ρ Z A (t va) s k
def aJ (p:P2) (dq1 dq2:D):D:=fun dp f H k=>dq1 dp f H fun a H=>dq2 dp f H fun b H=>p a b H k
section
variable {C:Cx} {X:Sc}
theorem aD {l r:Ex} {op:Operator} {pos:Pos} {p:P2} {dq1 dq2:D} (h1:SE C X l dq1) (h2:SE C X r dq2) (ho:cK C (fun a b=>binaryOp op a b) p):SE C X (.BinOp l op r pos) (aJ p dq1 dq2) :=
 fun dp f H k A env B ρ Z s hd hA ok Q E hQ=>wpAny_BinOp (h1 _ _ _ _ _ _ _ _ _ _ hd hA ok _ _ fun ρ₁ Z₁ H₁ s₁ a va e₁ ok₁ r₁ hdq1 =>
  h2 _ _ _ _ _ _ _ _ _ _ hdq1 hA ok₁ _ _ fun ρ2 Z₂ H₂ sq2 b vb e₂ ok₂ r₂ hdq2 =>
   ho _ _ _ _ _ _ _ _ _ _ _ a b va vb hdq2 hA ok₂ (r₁.ext e₂) r₂ _ _ fun ρ3 Z3 H3 s₃ c vc e₃ ok₃ r₃ hk=>hQ _ _ _ _ _ _ ((e₁.trans e₂).trans e₃) ok₃ r₃ hk)
theorem q8 {l r:Ex} {op:CmpOp} {pos:Pos} {p:P2} {dq1 dq2:D} (h1:SE C X l dq1) (h2:SE C X r dq2) (ho:cK C (fun a b=>compareOp op a b) p) (hm:behindInMarks op r=false):SE C X (.Compare l [op] [r] pos) (aJ p dq1 dq2) :=
 fun dp f H k A env B ρ Z s hd hA ok Q E hQ=>wpAny_Compare1 (hm:=hm) (h1 _ _ _ _ _ _ _ _ _ _ hd hA ok _ _ fun ρ₁ Z₁ H₁ s₁ a va e₁ ok₁ r₁ hdq1 =>
  h2 _ _ _ _ _ _ _ _ _ _ hdq1 hA ok₁ _ _ fun ρ2 Z₂ H₂ sq2 b vb e₂ ok₂ r₂ hdq2 =>
   ho _ _ _ _ _ _ _ _ _ _ _ a b va vb hdq2 hA ok₂ (r₁.ext e₂) r₂ _ _ fun ρ3 Z3 H3 s₃ c vc e₃ ok₃ r₃ hk=>hQ _ _ _ _ _ _ ((e₁.trans e₂).trans e₃) ok₃ r₃ hk)
def aZ (n:Nat) (k:Nat->Bool):Bool:=nr (k 0) (fun i=>k (Nat.succ i)) n
theorem aP (n:Nat) (k:Nat->Bool):aZ n k=k n:=by induction n using Nat.casesAuxOn<;>rfl
def lh (i:Int) (k:Int->Bool):Bool:=@Int.rec (fun _=>Bool) (fun n=>aZ n fun n=>k (.ofNat n)) (fun n=>aZ n fun n=>k (.negSucc n)) i
theorem dh (i:Int) (k:Int->Bool):lh i k=k i:=by
 induction i using Int.casesOn with
 | ofNat n=>exact aP n fun n=>k (.ofNat n)
 | negSucc n=>exact aP n fun n=>k (.negSucc n)
def bq (a:AV):Option Int:=@AV.rec (fun _=>Option Int) none (fun _=>none) (fun i=>some i) (fun _=>none) (fun _=>none) (fun _=>none) (fun _ _=>none) none (fun _ _ _ _=>none) (fun _ _=>none) (fun _ _ _=>none) (fun _ _ _=>none) (fun _ _ _=>none) (fun _ _ _ _ _ _=>none) (fun _=>none) (fun _ _=>none) (fun _ _ _=>none) none (fun _=>none) (fun _ _=>none) (fun _=>none) (fun i=>some i) (fun _=>none) a
theorem ar {σ:Sig} {ρ:List Addr} {Z:Fz} {a:AV} {i:Int} {v:Value} (h:bq a=some i) (r:VRel σ ρ Z a v):∃ t,v = .int i t:=by
 induction a using AV.casesOn with
 | int j=>injections h; ((refine Ze1 r.inv fun _ zq1=>?_; subst zq1)); exact ⟨_,rfl⟩
 | tin j=>injections h; ((refine ad r.inv fun _ zq1 _=>?_; clear r; subst zq1)); exact ⟨_,rfl⟩
 | _=>exact noS h
def fc (g:Int->Int->(AV->HP->Bool)->HP->Bool):P2:=fun a b H k=>bk (bq a) fun x=>bk (bq b) fun y=>g x y k H
def gj (i:Int) (k:AV->HP->Bool) (H:HP):Bool:=lh i fun i=>k (.int i) H
theorem bZ {g:Int->Int->(AV->HP->Bool)->HP->Bool} {a b:AV} {H:HP} {k:AV->HP->Bool} (h:fc g a b H k=true):∃ x y,bq a=some x∧bq b=some y∧g x y k H=true:=by
 refine ad (al h) fun x h1 h2=>?_
 refine ad (al h2) fun y h3 h4=>?_
 exact (aK x y h1 h3 h4)
noncomputable def wP (a b:Int):Int:=match a,b with
 | .ofNat m,.ofNat n=>.ofNat (Nat.add m n)
 | _,_=>a+b
theorem mX (a b:Int):wP a b=a+b:=by induction a using Int.casesOn<;>induction b using Int.casesOn<;>rfl
def Df:P2:=fc fun x y k H=>gj (wP x y) k H
theorem Gr:cK C (fun a b=>binaryOp .Add a b) Df:=by
 intro X dp f H k A env B ρ Z s a b va vb hd hA ok ra rb Q E hQ
 nomatch ay (bZ hd),hd
 intro x y ia ib h
 nomatch Ze1 (ar ia ra),ia
 intro t zq1
 clear ra
 subst zq1
 nomatch Ze1 (ar ib rb),ib
 intro u zq1
 clear rb
 subst zq1
 rw [gj,dh,mX] at h
 exact add_int (hQ _ _ _ _ _ _ (Ext.refl ..) (ok.tok _) (.int ..) h)
end
noncomputable abbrev DS:=Nat->Fm->HP->(Fm->HP->Bool)->(AV->HP->Bool)->Bool
noncomputable def SF (C:Cx) (X:Sc) (t:Env->Sem Flow) (d:DS):Prop :=
 ∀ dp f H kn kr A env B ρ Z s,d dp f H kn kr=true->AOk dp A->OK C X B f env ρ Z H s->∀ (Q:Flow->Shared->Prop) (E:Value->Shared->Prop),
  (∀ ρ' Z' H' s' f',Ext ρ Z ρ' Z'->OK C X B f' env ρ' Z' H' s'->kn f' H'=true->Q .next s') ->
  (∀ ρ' Z' H' s' f' av v,Ext ρ Z ρ' Z'->OK C X B f' env ρ' Z' H' s'->VRel C.σ ρ' Z' av v->kr av H'=true->Q (.ret v) s')->wpAny (model C.prog C.w) A (t env) Q E s
noncomputable abbrev S1 (C:Cx) (X:Sc) (st:Stmt) (d:DS):Prop:=SF C X (fun env=>exec st env) d
noncomputable abbrev S (C:Cx) (X:Sc) (sts:List Stmt) (d:DS):Prop:=SF C X (fun env=>execs sts env) d
section
variable {C:Cx} {X:Sc}
def aH:DS:=fun _ f H kn _=>kn f H
def aq (dq1 dq2:DS):DS:=fun dp f H kn kr=>dq1 dp f H (fun f H=>dq2 dp f H kn kr) kr
theorem ax:S C X [] aH:=fun dp f H kn kr A env B ρ Z s hd hA ok Q E hn hr=>wpAny_execs_nil (hn _ _ _ _ _ (Ext.refl ..) ok hd)
theorem ag {st:Stmt} {sts:List Stmt} {dq1 dq2:DS} (h1:S1 C X st dq1) (h2:S C X sts dq2):S C X (st :: sts) (aq dq1 dq2) :=
 fun dp f H kn kr A env B ρ Z s hd hA ok Q E hn hr=>wpAny_execs_cons (h1 _ _ _ _ _ _ _ _ _ _ _ hd hA ok _ _
  (fun ρ₁ Z₁ H₁ s₁ fq1 e₁ ok₁ hdq1=>h2 _ _ _ _ _ _ _ _ _ _ _ hdq1 hA ok₁ _ _ (fun ρ2 Z₂ H₂ sq2 fq2 e₂ ok₂ hdq2=>hn _ _ _ _ _ (e₁.trans e₂) ok₂ hdq2) fun ρ2 Z₂ H₂ sq2 fq2 av v e₂ ok₂ r hdq2=>hr _ _ _ _ _ _ _ (e₁.trans e₂) ok₂ r hdq2)
  fun ρ₁ Z₁ H₁ s₁ fq1 av v e₁ ok₁ r hdq1=>hr _ _ _ _ _ _ _ e₁ ok₁ r hdq1)
def dq (d:D):DS:=fun dp f H _ kr=>d dp f H kr
theorem cj {e:Ex} {pos:Pos} {d:D} (h:SE C X e d):S1 C X (.Return (some e) pos) (dq d) :=
 fun dp f H kn kr A env B ρ Z s hd hA ok Q E hn hr=>wpAny_Return_some (h _ _ _ _ _ _ _ _ _ _ hd hA ok _ _ fun ρ₁ Z₁ H₁ s₁ av v e₁ ok₁ r hdq1=>hr _ _ _ _ _ _ _ e₁ ok₁ r hdq1)
def dIf (t:DB) (a b:DS):DS:=fun dp f H kn kr=>t dp f H fun c H=>br (b dp f H kn kr) (a dp f H kn kr) c
theorem b4 {e:Ex} {a b:List Stmt} {pos:Pos} {t:DB} {dq1 dq2:DS} (ht:SB C X e t) (h1:S C X a dq1) (h2:S C X b dq2):S1 C X (.If e a b pos) (dIf t dq1 dq2) :=
 fun dp f H kn kr A env B ρ Z s hd hA ok Q E hn hr=>wpAny_If (ht _ _ _ _ _ _ _ _ _ _ hd hA ok _ _ fun ρ₁ Z₁ H₁ s₁ c c' e₁ ok₁ r hdq1=>by
  cases r
  induction c using Bool.casesOn with
  | true=>exact h1 _ _ _ _ _ _ _ _ _ _ _ hdq1 hA ok₁ _ _ (fun ρ2 Z₂ H₂ sq2 fq2 e₂ ok₂ hdq2=>hn _ _ _ _ _ (e₁.trans e₂) ok₂ hdq2) fun ρ2 Z₂ H₂ sq2 fq2 av v e₂ ok₂ r hdq2=>hr _ _ _ _ _ _ _ (e₁.trans e₂) ok₂ r hdq2
  | false=>exact h2 _ _ _ _ _ _ _ _ _ _ _ hdq1 hA ok₁ _ _ (fun ρ2 Z₂ H₂ sq2 fq2 e₂ ok₂ hdq2=>hn _ _ _ _ _ (e₁.trans e₂) ok₂ hdq2) fun ρ2 Z₂ H₂ sq2 fq2 av v e₂ ok₂ r hdq2=>hr _ _ _ _ _ _ _ (e₁.trans e₂) ok₂ r hdq2)
def bV (d:D):DS:=fun dp f H kn _=>d dp f H fun _ H=>kn f H
theorem tx {env:Env} {X:Sc} (h:env.scope=X.sc) (hk:X.sc.kind = .function):interactive env=false:=by
 unfold interactive; rw [h,hk]; rfl
theorem bw {e:Ex} {pos:Pos} {d:D} (hk:X.sc.kind = .function) (h:SE C X e d) (hs:∀ env,swapsWith e none pos.line env=pure false):S1 C X (.Expr e pos) (bV d) :=
 fun dp f H kn kr A env B ρ Z s hd hA ok Q E hn hr=>wpAny_Expr_any (h _ _ _ _ _ _ _ _ _ _ hd hA ok _ _ fun ρ₁ Z₁ H₁ s₁ av v e₁ ok₁ r hdq1=>hn _ _ _ _ _ e₁ ok₁ hdq1) (tx ok.f.sc hk) (hs env)
def BG {α:Type} (v:α) (l:List α):Nat->(List α->Bool)->Bool :=
 @List.rec α (fun _=>Nat->(List α->Bool)->Bool) (fun _ _=>false) (fun x r ih n k=>nr (k (v :: r)) (fun n=>ih n fun r=>k (x :: r)) n) l
theorem lP {α:Type} (v:α) (l:List α):∀ (n:Nat) (k:List α->Bool),BG v l n k=true->∃ l',k l'=true∧l'[n]?=some v∧∀ i:Nat,i ≠ n->l'[i]?=l[i]?:=by
 induction l with
 | nil=>intro n k h; exact ffE h
 | cons x r ih =>
  intro n k h
  induction n using Nat.casesAuxOn with
  | zero=>exact (bA (v :: r) h rfl (fun i hi=>by induction i using Nat.casesAuxOn with | zero=>exact absurd rfl hi | succ i=>rfl))
  | succ n =>
   nomatch aU (ih n _ h),ih,h
   intro l' h1 h2 h3
   refine (bA (x :: l') h1 h2 (fun i hi=>?_))
   induction i using Nat.casesAuxOn with
   | zero=>rfl
   | succ i=>exact h3 i fun e=>hi (e ▸ rfl)
def lM (i:Nat) (v:AV) (f:Fm) (k:Fm->Bool):Bool:=@Fm.rec (fun _=>Bool) (fun loc cel=>BG (some v) loc i fun loc=>k ⟨loc,cel⟩) f
theorem fj {B:Bz} {f:Fm} {env:Env} {ρ:List Addr} {Z:Fz} {H:HP} {s:Shared} {A:Around} {x:Str} {i:Nat} {av:AV} {v:Value} {k:Fm->Bool} {Q:Unit->Shared->Prop} {E:Value->Shared->Prop}
  (hk:X.sc.kind = .function) (hl:X.sc.names.lookup x=some .local) (hi:X.tab[i]?=some x) (hn:X.tab.Nodup) (hd:lM i av f k=true) (ok:OK C X B f env ρ Z H s) (r:VRel C.σ ρ Z av v)
  (h:∀ s' f',OK C X B f' env ρ Z H s'->k f'=true->Q () s'):wpAny (model C.prog C.w) A (storeName env x v) Q E s:=by
 obtain ⟨loc,cel⟩:=f
 refine aU (lP _ _ _ _ hd) fun l' h1 h2 h3=>?_
 refine ad ok.f.ns fun m hm hr=>?_
 refine wpAny_storeName_local (by show env.scope.names.lookup x=_; rw [ok.f.sc]; exact hl) hm (fun h' hm' hs=>h _ ⟨l',cel⟩ (ok.store hs hm' rfl (fun k y w a b=>?_) (Nat.le_succ _)) h1) (by rw [ok.f.sc,hk]; rfl)
 by_cases hki:k=i
 ·clear hd h3
  subst hki
  have hyx:y=x:=Option.some.inj (a.symm.trans hi)
  clear hl hm' hi
  subst hyx
  rw [h2] at b
  injections b
  exact fun z e=>by injections e; exact (am v (if_pos rfl) r)
 ·have hyx:y ≠ x:=fun e=>hki ((List.getElem?_inj (ZbS a).1 hn).mp (a.trans (e ▸ hi.symm)))
  rw [h3 k hki] at b
  refine (?_:SRel C.σ ρ Z w (if y=x then some v else m y))
  rw [if_neg hyx]
  exact hr k y w a b
def b9 (i:Nat) (d:D):DS:=fun dp f H kn _=>d dp f H fun v H=>lM i v f fun f=>kn f H
theorem bE {x:Str} {pos':Pos} {e:Ex} {pos:Pos} {i:Nat} {d:D} (hk:X.sc.kind = .function) (hl:X.sc.names.lookup x=some .local) (hi:X.tab[i]?=some x) (hn:X.tab.Nodup) (h:SE C X e d)
  (hs:∀ env,swapsWith e (some (.Name x pos')) pos.line env=pure false):S1 C X (.Assign [.Name x pos'] e pos) (b9 i d) :=
 fun dp f H kn kr A env B ρ Z s hd hA ok Q E hn' hr=>wpAny_Assign_Name (h _ _ _ _ _ _ _ _ _ _ hd hA ok _ _ fun ρ₁ Z₁ H₁ s₁ av v e₁ ok₁ r hdq1 =>
  fj hk hl hi hn hdq1 ok₁ r fun s' f' ok' hk'=>hn' _ _ _ _ _ e₁ ok' hk') (hs env)
noncomputable abbrev RLn (C:Cx) (n:Nat):List Addr->Fz->List AV->List Value->Prop:=fun ρ Z xs vs=>VRs C.σ ρ Z xs vs∧xs.length=n
noncomputable abbrev SL (C:Cx) (X:Sc) (pos:Pos) (es:List Ex) (d:DL):Prop:=ST C X (RLn C es.length) (fun env=>spliced (backTo pos (starEach es env))) d
def an:DL:=fun _ _ H k=>k [] H
def ae (d:D) (ds:DL):DL:=fun dp f H k=>d dp f H fun v H=>ds dp f H fun vs H=>k (v :: vs) H
theorem ah {pos:Pos}:SL C X pos [] an:=fun dp f H k A env B ρ Z s hd hA ok Q E hQ=>spliced_nil (hQ _ _ _ _ _ _ (Ext.refl ..) ok ⟨.nil,rfl⟩ hd)
theorem ac {pos:Pos} {e:Ex} {es:List Ex} {d:D} {ds:DL} (h1:SE C X e d) (h2:SL C X pos es ds) (hs:∀ env,starEach (e :: es) env=(false,eval e env) :: starEach es env):SL C X pos (e :: es) (ae d ds) :=
 fun dp f H k A env B ρ Z s hd hA ok Q E hQ=>by
  refine (?_:wpAny _ _ (spliced (backTo pos (starEach (e :: es) env))) _ _ _)
  rw [hs]
  exact spliced_cons (h1 _ _ _ _ _ _ _ _ _ _ hd hA ok _ _ fun ρ₁ Z₁ H₁ s₁ a va e₁ ok₁ r₁ hdq1=>h2 _ _ _ _ _ _ _ _ _ _ hdq1 hA ok₁ _ _ fun ρ2 Z₂ H₂ sq2 b vb e₂ ok₂ r₂ hdq2 =>
   hQ _ _ _ _ _ _ (e₁.trans e₂) ok₂ ⟨.cons (r₁.ext e₂) r₂.1,by simp [r₂.2]⟩ hdq2)
theorem bv {M:Model} {A:Around} {E:Value->Shared->Prop} {s:Shared} {fv:Value} {args:List (Bool × Sem Value)} {Q:Args->Shared->Prop} (hp:args.any (·.1)=false) (h:wpAny M A (spliced args) (fun vs s'=>Q ⟨vs,[]⟩ s') E s) :
  wpAny M A (evalArgs fv true args []) Q E s:=by
 induction args using List.casesOn with
 | nil =>
  unfold evalArgs
  refine (?_:wpAny M A (spliced [] >>= _) Q E s)
  refine ZB (wpAny_mono h (fun vs s' h'=>?_) fun _ _ x=>x)
  refine wpAny_holding ?_
  exact ZB (ZP (ZB (ZP (ZP h'))))
 | cons x r =>
  obtain ⟨b,t⟩:=x
  induction b using Bool.casesOn with
  | true=>simp at hp
  | false=>exact evalArgs_plain h
noncomputable abbrev DC:=List AV->Nat->HP->(AV->HP->Bool)->Bool
noncomputable def SC (C:Cx) (fv:Value) (n:Nat) (c:DC):Prop :=
 ∀ X dp f H k A env B ρ Z s args vals,c args dp H k=true->AOk dp A->OK C X B f env ρ Z H s->VRs C.σ ρ Z args vals->args.length=n->Wp C X B f env (RV C) ρ Z A (call fv vals) s k
def pushCells (args:List AV) (cl:List (Option Nat)):HP->(List Nat->HP->Bool)->Bool :=
 @List.rec (Option Nat) (fun _=>HP->(List Nat->HP->Bool)->Bool) (fun H k=>k [] H)
  (fun o _ ih H k=>@Option.rec Nat (fun _=>Bool) (H.push (.cell none) fun j H=>ih H fun js H=>k (j :: js) H) (fun i=>i8 args i fun v=>H.push (.cell (some v)) fun j H=>ih H fun js H=>k (j :: js) H) o) cl
noncomputable def zv (args:List AV) (o:Option Nat) (v:Option AV):Prop:=match o with | none=>v=none | some a=>∃ x,args[a]?=some x∧v=some x
theorem oW (args:List AV) (cl:List (Option Nat)):∀ (H:HP) (k:List Nat->HP->Bool),pushCells args cl H k=true->∃ H':HP,k ((List.range' H.n cl.length)) H'=true∧H'.n=H.n+cl.length ∧
  (∀ i,i<H.n->H'.get i=H.get i)∧∀ (i:Nat) o,cl[i]?=some o->∃ v:Option AV,H'.get (H.n+i)=some (.cell v)∧zv args o v:=by
 induction cl with
 | nil=>intro H k h; exact (jP H h rfl (fun _ _=>rfl) (fun i o e=>by simp at e))
 | cons o cl ih =>
  intro H k h
  have key:∃ (v:Option AV),zv args o v∧H.push (.cell v) (fun j H=>pushCells args cl H fun js H=>k (j :: js) H)=true:=by
   induction o using Option.casesOn with
   | none=>exact (am none rfl h)
   | some a =>
    refine ad (cU h) fun x h1 h2=>?_
    exact (am (some x) ⟨x,h1,rfl⟩ h2)
  nomatch ad key,key
  intro v hv h2
  nomatch aU (HP.push_spec h2),h2
  intro H₁ h3 h4 h5
  nomatch cJ (ih _ _ h3),ih,h3
  intro H' a1 a2 a3 a4
  refine (jP H' (?_) (by rw [a2,h4,List.length_cons]; omega) (fun i hi=>?_) (fun i o' e=>?_))
  ·rw [h4] at a1
   exact a1
  ·rw [a3 i (by clear a2; omega),h5,if_neg (by clear a2 h4; omega)]
  ·induction i using Nat.casesAuxOn with
   | zero =>
    injections e
    exact (am v (by rw [Nat.add_zero,a3 _ (by omega),h5,if_pos rfl]) hv)
   | succ i =>
    refine ad (a4 i o' e) fun v' b1 b2=>?_
    rw [h4] at b1
    exact (am v' (by rw [← b1]; congr 1; omega) b2)
def lV (args:List AV) (lay:List (Option Nat)):List (Option AV) :=
 @List.rec (Option Nat) (fun _=>List (Option AV)) [] (fun o _ ih=>@Option.rec Nat (fun _=>List (Option AV)) (none :: ih) (fun i=>yd args i :: ih) o) lay
theorem lQ (args:List AV) (lay:List (Option Nat)) (k:Nat) (v:AV) (h:(lV args lay)[k]?=some (some v)):∃ i,lay[k]?=some (some i)∧args[i]?=some v:=by
 induction lay generalizing k with
 | nil=>exact noS h
 | cons o lay ih =>
  induction o using Option.casesOn with
  | none =>
   induction k using Nat.casesAuxOn with
   | zero=>injections h
   | succ k=>exact ih k h
  | some i =>
   change (yd args i :: lV args lay)[k]?=some (some v) at h
   rw [mR] at h
   induction k using Nat.casesAuxOn with
   | zero=>exact (am i rfl (by simpa using h))
   | succ k=>exact ih k h
def q7 (args:List AV) (lay:List (Option Nat)):(List (Option AV)->Bool)->Bool :=
 @List.rec (Option Nat) (fun _=>(List (Option AV)->Bool)->Bool) (fun k=>k []) (fun o _ ih k=>@Option.rec Nat (fun _=>Bool) (ih fun r=>k (none :: r)) (fun i=>i8 args i fun v=>ih fun r=>k (some v :: r)) o) lay
theorem iO {args:List AV} {lay:List (Option Nat)}:∀ {k:List (Option AV)->Bool},q7 args lay k=true->k (lV args lay)=true:=by
 induction lay with
 | nil=>intro k h; exact h
 | cons o lay ih =>
  intro k h
  induction o using Option.casesOn with
  | none=>exact ih h
  | some i =>
   refine ad (cU h) fun v h1 h2=>?_
   have h3:=ih h2
   refine (?_:k (yd args i :: lV args lay)=true)
   rw [mR,h1]; exact h3
def Dp (lay clay:List (Option Nat)) (arrA:List AV->List AV) (body:DS):DC:=fun args dp H k =>
 nr false (fun dp=>(fun xs=>q7 xs lay fun loc=>pushCells xs clay H fun cel H=>body dp ⟨loc,cel⟩ H (fun _ H=>k .none H) k) (arrA args)) dp
def dFn (lay clay:List (Option Nat)) (dv:List AV) (body:DS):DC:=Dp lay clay (fun args=>args++dv) body
end
theorem iz (cn:List Str) (nd:cn.Nodup):∀ (b k i:Nat) (x:Str),cn[i]?=some x->(((cn.zipIdx k).map fun y=>(y.1,b+y.2)).reverse).lookup x=some (b+(k+i)):=by
 induction cn with
 | nil=>intro b k i x h; exact noS h
 | cons c cn ih =>
  intro b k i x h
  have hnd:=List.nodup_cons.mp nd
  rw [List.zipIdx_cons,List.map_cons,List.reverse_cons,List.lookup_append]
  induction i using Nat.casesAuxOn with
  | zero =>
   injections h
   have:(((cn.zipIdx (k+1)).map fun y=>(y.1,b+y.2)).reverse).lookup c=none:=by
    rw [List.lookup_eq_none_iff]
    intro p hp
    refine ad (List.mem_map.mp (List.mem_reverse.mp hp)) fun y hy zq2=>?_
    clear hp
    subst zq2
    have:=List.fst_mem_of_mem_zipIdx hy
    simp only [bne_iff_ne,ne_eq]
    intro e
    exact hnd.1 (e ▸ this)
   rw [this]
   simp
  | succ i =>
   rw [ih hnd.2 b (k+1) i x h]
   simp only [Option.some_or]
   congr 1
   omega
theorem pO (kd:Str->Option NameKind):∀ (pn:List Str) (vs:List Value) (m:Str->Option Value) (x:Str),x ∉ pn->bindL kd (pn.zip vs) m x=m x
 | [],_,m,x,_=>rfl
 | p :: pn,[],m,x,_=>rfl
 | p :: pn,v :: vs,m,x,h=>by
  rw [List.zip_cons_cons,bindL,pO kd pn vs _ x fun e=>h (List.mem_cons_of_mem _ e)]
  split
  ·exact if_neg fun (e:x=p)=>h (e ▸ List.mem_cons_self)
  ·rfl
theorem tT (kd:Str->Option NameKind):∀ (pn:List Str) (vs:List Value) (m:Str->Option Value) (x:Str) (i:Nat) (v:Value),pn.Nodup->pn[i]?=some x->vs[i]?=some v->kd x=some .local->bindL kd (pn.zip vs) m x=some v
 | p :: pn,w :: vs,m,x,0,v,nd,h1,h2,hk=>by
  injections h1; injections h2
  rw [List.zip_cons_cons,bindL,pO kd pn vs _ _ (List.nodup_cons.mp nd).1,if_pos hk]
  exact if_pos rfl
 | p :: pn,w :: vs,m,x,i+1,v,nd,h1,h2,hk=>by
  rw [List.zip_cons_cons,bindL]
  exact tT kd pn vs _ x i v (List.nodup_cons.mp nd).2 h1 h2 hk
theorem lC (kd:Str->Option NameKind):∀ (pn:List Str) (vs:List Value) (m:Str->Option Value) (x:Str),x ∉ pn->bindC kd (pn.zip vs) m x=m x
 | [],_,m,x,_=>rfl
 | p :: pn,[],m,x,_=>rfl
 | p :: pn,v :: vs,m,x,h=>by
  rw [List.zip_cons_cons,bindC,lC kd pn vs _ x fun e=>h (List.mem_cons_of_mem _ e)]
  split
  ·rfl
  ·exact if_neg fun (e:x=p)=>h (e ▸ List.mem_cons_self)
theorem tf (kd:Str->Option NameKind):∀ (pn:List Str) (vs:List Value) (m:Str->Option Value) (x:Str) (i:Nat) (v:Value),pn.Nodup->pn[i]?=some x->vs[i]?=some v->kd x ≠ some .local->bindC kd (pn.zip vs) m x=some v
 | p :: pn,w :: vs,m,x,0,v,nd,h1,h2,hk=>by
  injections h1; injections h2
  rw [List.zip_cons_cons,bindC,lC kd pn vs _ _ (List.nodup_cons.mp nd).1,if_neg hk]
  exact if_pos rfl
 | p :: pn,w :: vs,m,x,i+1,v,nd,h1,h2,hk=>by
  rw [List.zip_cons_cons,bindC]
  exact tf kd pn vs _ x i v (List.nodup_cons.mp nd).2 h1 h2 hk
section
variable {C:Cx} {X X':Sc} {B:Bz} {f:Fm} {env env':Env} {ρ:List Addr} {Z:Fz} {H H':HP} {s s':Shared} {A:Around}
theorem OK.enter (ok:OK C X B f env ρ Z H s) {o:Obj} (ho:s.heap.get? env.locals=some o) {m cm:Str->Option Value} (I:InCallC s env'.locals m env'.cells cm s') (hL:env'.locals=s.heap.objs.size)
  (cn:List Str) (nd:cn.Nodup) (hcs:env'.cells=((cn.zipIdx).map fun y=>(y.1,s.heap.objs.size+1+y.2)).reverse) (hn:H'.n=H.n+cn.length) (hg:∀ i,i<H.n->H'.get i=H.get i)
  (hc:∀ (i:Nat) x,cn[i]?=some x->∃ v:Option AV,H'.get (H.n+i)=some (.cell v)∧(v=none∧cm x=none∨∃ y w,v=some y∧cm x=some w∧VRel C.σ ρ Z y w))
  {loc:List (Option AV)} (h1:env'.scope=X'.sc) (h2:env'.globals=mainGlobals) (h3:env'.builtins=builtinsNs) (h4:env'.code=X'.cd) (h5:env'.qual=X'.qual) (h6:X'.ctab=cn)
  (hl:∀ (k:Nat) x v,X'.tab[k]?=some x->loc[k]?=some v->SRel C.σ ρ Z v (m x)) (ht:s.toks≤s'.toks) :
  OK C X' (B.add env.locals o) ⟨loc,List.range' H.n cn.length⟩ env' (ρ++(List.range' (s.heap.objs.size+1) cn.length)) Z H' s':=by
 have hρ:ρ <+: ρ++(List.range' (s.heap.objs.size+1) cn.length):=List.prefix_append ..
 have hZ:Z.le Z:=Fz.le.rfl _
 have new:∀ a∈List.range' (s.heap.objs.size+1) cn.length,s.heap.objs.size<a:=by
  intro a ha
  have:=(List.mem_range'_1.mp ha).1
  omega
 have DG:∀ a,s.heap.objs.size≤a->∀ o',¬ (B.add env.locals o) a o':=by
  rintro a ha o' (e | ⟨rfl,rfl⟩)
  ·exact absurd (Heap.lt_size (ok.g.b _ _ e)) (Nat.not_lt.mpr ha)
  ·exact absurd (Heap.lt_size ho) (Nat.not_lt.mpr ha)
 have notZ:∀ a,s.heap.objs.size≤a->∀ o',¬ Z.ob a o':=fun a ha o' e=>absurd (Heap.lt_size (ok.g.z _ _ e)) (Nat.not_lt.mpr ha)
 refine ⟨⟨fun a o' e=>.inl (ok.g.base a o' e),?_,fun a o' e=>I.toInCall.keep _ _ (ok.g.z a o' e),?_,fun j a e=>?_,?_,?_,?_,?_,?_,?_,?_,?_,?_,fun q=>Nat.le_trans (ok.g.tk q) ht,fun u v e=>⟨(ok.g.tkb u v e).1,Nat.lt_of_lt_of_le (ok.g.tkb u v e).2 ht⟩,ok.g.tkf,fun k P e=>bz hρ (ok.g.tabs k P e)⟩,⟨h1,h2,h3,h4,h5,(am m I.toInCall.ns (fun k x v a b=>(hl k x v a b).mono hρ hZ)),fun k x j a b=>?_⟩⟩
 ·rintro a o' (e | ⟨rfl,rfl⟩)
  ·exact I.toInCall.keep _ _ (ok.g.b a o' e)
  ·exact I.toInCall.keep _ _ ho
 ·rw [List.length_append,ok.g.len,hn,List.length_range']
 ·by_cases hj:j<ρ.length
  ·rw [List.getElem?_append_left hj] at e
   refine ay (ok.g.obj j a e) fun ao' o' e1 e2 e3=>?_
   exact (aK ao' o' (by rw [hg j (by rw [← ok.g.len]; exact hj)]; exact e1) (I.toInCall.keep _ _ e2) (e3.mono hρ hZ))
  ·rw [List.getElem?_append_right (by omega)] at e
   have hlt:j-ρ.length<cn.length:=by
    have:=(ZbS e).1
    rwa [List.length_range'] at this
   rw [List.getElem?_range' hlt] at e
   have ea:s.heap.objs.size+1+(j-ρ.length)=a:=by have:=Option.some.inj e; clear hlt hj ht h3 h2 hn hL; omega
   nomatch ad (hc (j-ρ.length) cn[j-ρ.length] (by simp [hlt])),hc
   intro v g1 g2
   have hlk:=iz cn nd (s.heap.objs.size+1) 0 (j-ρ.length) cn[j-ρ.length] (by simp [hlt])
   rw [← hcs] at hlk
   nomatch ad (I.cell _ _ hlk),I,hlk
   intro oc k1 k2
   have ea2:s.heap.objs.size+1+(0+(j-ρ.length))=a:=by omega
   rw [ea2] at k1
   have hj2:H.n+(j-ρ.length)=j:=by have:=ok.g.len; clear ea2 g2 ea ht h3 h2 hn hL; omega
   rw [hj2] at g1
   refine (aK (.cell v) oc g1 k1 (?_))
   rcases g2 with ⟨q1,q2⟩ | ⟨y,w,q1,q2,q3⟩
   ·exact .inl ⟨by rw [k2,q2],q1⟩
   ·exact .inr (aK y w q1 (by rw [k2,q2]) (q3.mono hρ hZ))
 ·refine List.nodup_append (l₁:=1 :: ρ) |>.mpr ⟨ok.g.nd1,List.nodup_range' ..,fun a ha b hb e=>?_⟩
  have q:=new b hb
  rcases List.mem_cons.mp ha with rfl | ha
  ·have q1:s.heap.objs.size<1:=by rw [e]; exact q
   have q2:=ok.g.big
   exact absurd q2 (by omega)
  ·have p:=ok.g.lt ha
   rw [e] at p
   exact Nat.lt_irrefl _ (Nat.lt_trans p q)
 ·intro a ha o' hb
  rcases List.mem_append.mp ha with ha | ha
  ·rcases hb with hb | ⟨rfl,rfl⟩
   ·exact ok.g.ab a ha o' hb
   ·exact ok.g.lρ ha
  ·exact DG a (Nat.le_of_lt (new a ha)) o' hb
 ·intro a ha o' hb
  rcases List.mem_append.mp ha with ha | ha
  ·exact ok.g.az a ha o' hb
  ·exact notZ a (Nat.le_of_lt (new a ha)) o' hb
 ·intro ha
  rw [hL] at ha
  rcases List.mem_append.mp ha with ha | ha
  ·exact Nat.lt_irrefl _ (ok.g.lt ha)
  ·exact Nat.lt_irrefl _ (new _ ha)
 ·exact fun o'=>DG _ (Nat.le_of_eq hL.symm) o'
 ·exact fun o'=>notZ _ (Nat.le_of_eq hL.symm) o'
 ·rintro a o' o'' e (e' | ⟨rfl,rfl⟩)
  ·exact ok.g.zb a o' o'' e e'
  ·exact ok.g.lz o' e
 ·exact I.toInCall.ns.lt
 ·refine Ze2 ok.g.same fun h₁ t₁ e₁=>?_
  refine Ze2 I.toInCall.same fun h₂ tq2 e₂=>?_
  exact (lx h₂ tq2 (by rw [e₂,e₁]))
 ·have hk:k<cn.length:=by
   have:=(ZbS b).1
   rwa [List.length_range'] at this
  rw [h6] at a
  have hj:H.n+k=j:=by
   rw [List.getElem?_range' hk] at b
   have:=Option.some.inj b; omega
  refine (am (s.heap.objs.size+1+k) (?_) (?_))
  ·rw [hcs]
   have:=iz cn nd (s.heap.objs.size+1) 0 k x a
   rwa [Nat.zero_add] at this
  ·rw [List.getElem?_append_right (by rw [ok.g.len]; omega)]
   have hj2:j-ρ.length=k:=by have:=ok.g.len; omega
   rw [hj2,List.getElem?_range' hk]
   congr 1; omega
end
theorem AOk.deeper {dp:Nat} {A:Around} (h:AOk (dp+1) A) (env:Env):AOk dp (A.deeper env) :=
 ⟨h.hd,by have:=h.dep; show A.depth+1+4 * dp+20≤1000; omega,by have:=h.un; show A.units+3+20 * dp+100≤9900; omega⟩
structure FnOK (C:Cx) (fa:Addr) (fd:FuncData) (body:List Stmt) (X:Sc) (n:Nat) (mk:List Value->Args) (pn:List Str) (lay clay:List (Option Nat)) (arrA:List AV->List AV) (arr:List Value->List Value):Prop where
 hK:∃ cls dct sl,C.K.lookup fa=some ⟨cls,dct,.func fd,sl⟩
 body:fd.body = .stmts body
 clo:fd.closure=[]
 gl:fd.globals=mainGlobals
 bl:fd.builtins=builtinsNs
 code:codeIn C.K fd.code fd.qualname=true
 hX:X.sc=fd.scope
 hcd:X.cd=fd.code
 hq:X.qual=fd.qualname++".<locals>."
 kind:fd.scope.kind = .function
 co:fd.scope.isCoroutine=false
 gen:fd.scope.isGenerator=false
 cells:∀ b,cellsFrom b fd.scope.names []=((X.ctab.zipIdx).map fun y=>(y.1,b+y.2)).reverse
 cnd:X.ctab.Nodup
 pnd:pn.Nodup
 kinds:∀ x∈pn,fd.scope.names.lookup x=some .local∨(fd.scope.names.lookup x=some .cell∧x∈X.ctab)
 bind:∀ vals:List Value,vals.length=n->∀ S,peek C.K S (bindArgs fd (mk vals))=some (pn.zip (arr vals))
 dvs:∀ ρ Z args vals,VRs C.σ ρ Z args vals->args.length=n->VRs C.σ ρ Z (arrA args) (arr vals)
 lay:∀ (k i:Nat) x,lay[k]?=some (some i)->X.tab[k]?=some x->pn[i]?=some x∧fd.scope.names.lookup x=some .local
 clen:clay.length=X.ctab.length
 clay:∀ (k:Nat) x,X.ctab[k]?=some x->(clay[k]?=some none∧x ∉ pn)∨∃ i,clay[k]?=some (some i)∧pn[i]?=some x∧fd.scope.names.lookup x ≠ some .local
noncomputable def SCc (C:Cx) (fv:Value) (n:Nat) (mk:List Value->Args) (c:DC):Prop :=
 ∀ X dp f H k A env B ρ Z s args vals,c args dp H k=true->AOk dp A->OK C X B f env ρ Z H s->VRs C.σ ρ Z args vals->args.length=n->∀ (Q:Value->Shared->Prop) (E:Value->Shared->Prop),
  (∀ ρ' Z' H' s' b a,Ext ρ Z ρ' Z'->OK C X B f env ρ' Z' H' s'->VRel C.σ ρ' Z' b a->k b H'=true->Q a s')->codeAny (model C.prog C.w) A (.call fv (mk vals)) (fun r s'=>match r with | .ok (.ret v)=>Q v s' | .ok _=>False | .error e=>E e s') s
theorem SCc.sc {C:Cx} {fv:Value} {n:Nat} {c:DC} (h:SCc C fv n (fun vs=>⟨vs,[]⟩) c):SC C fv n c:=fun X dp f H k A env B ρ Z s args vals hc hA ok hv hlen Q E hQ=>wpAny_call (h _ _ _ _ _ _ _ _ _ _ _ _ _ hc hA ok hv hlen Q E hQ)
theorem uK {C:Cx} {fa:Addr} {fd:FuncData} {body:List Stmt} {X':Sc} {n:Nat} {mk:List Value->Args} {pn:List Str} {lay clay:List (Option Nat)} {arrA:List AV->List AV} {arr:List Value->List Value} {d:DS} (F:FnOK C fa fd body X' n mk pn lay clay arrA arr) (hd:S C X' body d) :
  SCc C (.ref fa) n mk (Dp lay clay arrA d):=by
 intro X dp f H k A env B ρ Z s args vals hc hA ok hv hlen Q E hQ
 induction dp using Nat.casesAuxOn with
 | zero=>exact ffE hc
 | succ dp =>
  have hc:pushCells (arrA args) clay H (fun cel H=>d dp ⟨lV (arrA args) lay,cel⟩ H (fun _ H=>k .none H) k)=true:=iO hc
  nomatch cJ (oW _ _ _ _ hc),hc
  intro H' g1 g2 g3 g4
  refine Ze1 ok.localsObj fun o ho=>?_
  refine Ze3 F.hK fun cls dct sl hK=>?_
  have hall:VRs C.σ ρ Z (arrA args) (arr vals):=F.dvs ρ Z _ _ hv hlen
  refine codeAny_call_function (body:=body) hA.room (ok.K _ _ hK) rfl F.co F.gen F.body (codeRec_of ok.K F.code) ?_
  refine kp_binds ok.K (F.bind vals (by rw [← hv.1]; exact hlen)) _ _ _ _ ?_
  rw [F.clo]
  refine wpAny_with_toks (n:=s.toks) (Nat.le_refl _) (wpAny_newFunctionEnv_cells F.kind ?_ fun env' he s' I ht=>⟨ok.nolimit.keeps I.toInCall.keep,codeAny_func ?_⟩)
  ·intro x hx
   rcases F.kinds x.1 (List.of_mem_zip hx).1 with h | ⟨h,h2⟩
   ·exact .inl h
   ·refine .inr ⟨h,?_⟩
    refine Ze1 (List.getElem?_of_mem h2) fun i hi=>?_
    rw [F.cells,iz _ F.cnd _ 0 i x.1 hi]
    rfl
  ·subst he
   have hkd:∀ x,(newEnv fd.scope s.heap.objs.size fd.globals (cellsFrom (s.heap.objs.size+1) fd.scope.names []) (fd.qualname++".<locals>.") (some fa) fd.code none fd.builtins).kindOf x=fd.scope.names.lookup x:=fun _=>rfl
   have ok':=ok.enter (X':=X') (H':=H') (loc:=lV (arrA args) lay) ho I rfl X'.ctab F.cnd (F.cells _) (by rw [g2,F.clen]) g3 (fun i x hx=>by
     rcases F.clay i x hx with ⟨h1,h2⟩ | ⟨a,h1,h2,h3⟩
     ·nomatch ad (g4 i none h1),g4,h1
      intro v a1 a2
      cases a2
      exact (am none a1 (.inl ⟨rfl,lC _ _ _ _ _ h2⟩))
     ·nomatch ad (g4 i (some a) h1),g4,h1
      intro v a1 zw0
      nomatch ad zw0,zw0
      intro y a2 zq4
      subst zq4
      refine ad (hall.get a2) fun w b1 b2=>?_
      exact (am (some y) a1 (.inr (aK y w rfl (tf _ _ _ _ _ a w F.pnd h2 b1 (by rw [hkd]; exact h3)) b2))))
    F.hX.symm F.gl F.bl F.hcd.symm F.hq.symm rfl (fun k x v hx hv'=>by
     intro z hz
     subst hz
     refine ad (lQ _ _ _ _ hv') fun i h1 h2=>?_
     refine Za1 (F.lay k i x h1 hx) fun p1 p2=>?_
     refine ad (hall.get h2) fun w b1 b2=>?_
     exact (am w (tT _ _ _ _ _ i w F.pnd p1 b1 (by rw [hkd]; exact p2)) b2)) ht
   rw [F.clen] at g1
   refine hd dp _ H' _ _ _ _ _ _ _ s' g1 (hA.deeper _) ok' _ _ (fun ρ2 Z₂ H₂ sq2 fq2 e₂ ok₂ hkq2=>?_) (fun ρ2 Z₂ H₂ sq2 fq2 av v e₂ ok₂ r hkq2=>?_)
   ·have hp:ρ <+: ρ2:=(List.prefix_append ..).trans e₂.p
    exact hQ _ _ _ _ _ _ ⟨hp,e₂.z⟩ (ok.leave ho hp e₂.z ok₂.g) .none hkq2
   ·have hp:ρ <+: ρ2:=(List.prefix_append ..).trans e₂.p
    exact hQ _ _ _ _ _ _ ⟨hp,e₂.z⟩ (ok.leave ho hp e₂.z ok₂.g) r hkq2
def a9 (c:DC) (ds:DL):D:=fun dp f H k=>ds dp f H fun vs H=>c vs dp H k
theorem dK {C:Cx} {X:Sc} {x:Str} {p pos:Pos} {args:List Ex} {env:Env}:eval (.Call (.Name x p) args [] pos) env=(do callWith pos (← eval (.Name x p) env) [] (backTo pos (starEach args env)) []):=rfl
noncomputable def Cx.GlobV (C:Cx) (x:Str) (v:Value):Prop:=C.mg x=some v∨C.mg x=none∧C.mb x=some v
theorem dg {C:Cx} {X:Sc} {B:Bz} {f:Fm} {env:Env} {ρ:List Addr} {Z:Fz} {H:HP} {s:Shared} {A:Around} {x:Str} {pos:Pos} {v:Value} {Q:Value->Shared->Prop} {E:Value->Shared->Prop}
  (hk:X.sc.kind = .function) (hl:X.sc.names.lookup x=some .globalImplicit) (hg:C.GlobV x v) (hd:(x==("__debug__" : Str))=false) (ok:OK C X B f env ρ Z H s) (h:Q v s):wpAny (model C.prog C.w) A (eval (.Name x pos) env) Q E s:=by
 refine Name_function_global (by rw [ok.f.sc]; exact hk) (by show env.scope.names.lookup x=_; rw [ok.f.sc]; exact hl) ?_ hd
 have hgl:s.heap.Ns env.globals C.mg:=by rw [ok.f.gl]; exact ok.glob
 rcases hg with hv | ⟨hn,hv⟩
 ·exact loadGlobal_global hgl hv h
 ·exact loadGlobal_builtin hgl hn (by rw [ok.f.bl]; exact ok.built) hv h
theorem Be {C:Cx} {X:Sc} {x:Str} {pos:Pos} {v:Value} (hk:X.sc.kind = .function) (hl:X.sc.names.lookup x=some .globalImplicit) (hg:C.GlobV x v) (hd:(x==("__debug__" : Str))=false):SE C X (.Name x pos) (Br (.con v)) :=
 wo hk hl ⟨v,hg,fun _ _=>.con v⟩ hd
theorem bc {C:Cx} {X:Sc} {x:Str} {p pos:Pos} {args:List Ex} {fa:Addr} {c:DC} {ds:DL} (hk:X.sc.kind = .function) (hl:X.sc.names.lookup x=some .globalImplicit) (hg:C.GlobV x (.ref fa)) (hd:(x==("__debug__" : Str))=false)
  (hK:∃ cls dct fd sl,C.K.lookup fa=some ⟨cls,dct,.func fd,sl⟩)
  (ha:SL C X pos args ds) (hs:∀ env,(backTo pos (starEach args env)).any (·.1)=false) (hc:SC C (.ref fa) args.length c):SE C X (.Call (.Name x p) args [] pos) (a9 c ds):=by
 intro dp f H k A env B ρ Z s hd' hA ok Q E hQ
 refine (?_:wpAny _ _ (eval (.Call (.Name x p) args [] pos) env) _ _ _)
 rw [dK (C:=C) (X:=X)]
 refine Ze4 hK fun cls dct fd sl hK=>?_
 refine ZB (dg hk hl hg hd ok (callWith_function (o:=⟨cls,dct,.func fd,sl⟩) (fd:=fd) (bv (hs env) ?_)))
 exact ha _ _ _ _ _ _ _ _ _ _ hd' hA ok _ _ fun ρ₁ Z₁ H₁ s₁ vs vvs e₁ ok₁ r₁ hdq1=>⟨⟨ok₁.K _ _ hK,rfl⟩,hc _ _ _ _ _ _ _ _ _ _ _ _ _ hdq1 hA ok₁ r₁.1 r₁.2 _ _ fun ρ2 Z₂ H₂ sq2 b vb e₂ ok₂ r₂ hkq2=>hQ _ _ _ _ _ _ (e₁.trans e₂) ok₂ r₂ hkq2⟩
theorem ck {C:Cx} {X:Sc} {x:Str} {p pos:Pos} {args:List Ex} {id:String} {c:DC} {ds:DL} (hk:X.sc.kind = .function) (hl:X.sc.names.lookup x=some .globalImplicit) (hg:C.GlobV x (.builtin id)) (hd:(x==("__debug__" : Str))=false)
  (ha:SL C X pos args ds) (hs:∀ env,(backTo pos (starEach args env)).any (·.1)=false) (hc:SC C (.builtin id) args.length c):SE C X (.Call (.Name x p) args [] pos) (a9 c ds):=by
 intro dp f H k A env B ρ Z s hd' hA ok Q E hQ
 refine (?_:wpAny _ _ (eval (.Call (.Name x p) args [] pos) env) _ _ _)
 rw [dK (C:=C) (X:=X)]
 refine ZB (dg hk hl hg hd ok (callWith_builtin (hs env) (bv (hs env) ?_)))
 exact ha _ _ _ _ _ _ _ _ _ _ hd' hA ok _ _ fun ρ₁ Z₁ H₁ s₁ vs vvs e₁ ok₁ r₁ hdq1=>hc _ _ _ _ _ _ _ _ _ _ _ _ _ hdq1 hA ok₁ r₁.1 r₁.2 _ _ fun ρ2 Z₂ H₂ sq2 b vb e₂ ok₂ r₂ hkq2=>hQ _ _ _ _ _ _ (e₁.trans e₂) ok₂ r₂ hkq2
noncomputable def ownTup:List String:=["enumerate", "zip", "dict_itemiterator", "dict_reverseitemiterator", "odict_iterator", "itertools.zip_longest", "itertools.pairwise"]
structure ItOK (C:Cx) {I:Type} (rel:I->List Addr->Fz->Value->List (Addr × Obj)->Prop) (nx:I->HP->(AV->I->HP->Bool)->(HP->Bool)->Bool):Prop where
 mono:∀ {i ρ Z ρ' Z' v P},Ext ρ Z ρ' Z'->rel i ρ Z v P->rel i ρ' Z' v P
 next:∀ X dp f H ki ke A env B ρ Z s i it P,nx i H ki ke=true->AOk dp A->OK C X B f env ρ Z H s->Pv B env.locals ρ Z s P->rel i ρ Z it P ->
  ∀ (Q:Option Value->Shared->Prop) (E:Value->Shared->Prop),(∀ s',OK C X B f env ρ Z H s'->ke H=true->Q none s') ->
   (∀ ρ' Z' H' s' i' P' av v,Ext ρ Z ρ' Z'->OK C X B f env ρ' Z' H' s'->Pv B env.locals ρ' Z' s' P'->rel i' ρ' Z' it P'->VRel C.σ ρ' Z' av v->ki av i' H'=true->Q (some v) s')->wpAny (model C.prog C.w) A (pyNext it) Q E s
 own:∀ {i ρ Z v P},rel i ρ Z v P->∃ a o n,v = .ref a∧(a,o)∈P∧o.cls = .type n∧ownTup.contains n=false
 self:∀ {i ρ Z v P},rel i ρ Z v P->∀ (A:Around) (s:Shared) (Q:Value->Shared->Prop) (E:Value->Shared->Prop),(∀ p∈P,s.heap.get? p.1=some p.2)->Q v s->wpAny (model C.prog C.w) A (pyIter v) Q E s
section
variable {C:Cx} {X:Sc} {B:Bz} {f:Fm} {env:Env} {ρ:List Addr} {Z:Fz} {H:HP} {s:Shared} {A:Around}
theorem kX {tgt:Ex} {a:Addr} {o:Obj} {n:String} {v:Value} {Q:Unit->Shared->Prop} {E:Value->Shared->Prop} {M:Model} (ho:s.heap.get? a=some o) (hc:o.cls = .type n) (hn:ownTup.contains n=false) (h:Q () s) :
  wpAny M A (letOwnedTupleGo tgt (.ref a) v) Q E s:=by
 have key:∀ v,wpAny M A (do
   let (.ref r,.ref b):=((Value.ref a,v):Value × Value) | return
   let o ← load r
   match o.cls,o.data with
   | .type n,.fields vs =>
    if ownTup.contains n&&vs[0]? == some (rawInt b) then
     rule "for.unpacks-the-owned-tuple"
     updateField r 0 .none
   | _,_=>pure ():Sem Unit) Q E s:=by
  intro v
  induction v using PySem.Value.casesOn with
  | ref b =>
   refine ZB (wpAny_load ho ?_)
   rw [hc]
   induction o.data using PySem.Data.casesOn with
   | fields vs=>simp only [hn,Bool.false_and,Bool.false_eq_true,if_false]; exact ZP h
   | _=>exact ZP h
  | _=>exact ZP h
 induction tgt using PySem.Expr.casesOn with
 | Tuple=>exact key v
 | List=>exact key v
 | _=>exact ZP h
noncomputable abbrev DA:=AV->Fm->HP->(Fm->HP->Bool)->Bool
noncomputable def AS (C:Cx) (X:Sc) (t:Env->Value->Sem Unit) (a:DA):Prop :=
 ∀ dp f H k A env B ρ Z s av v,a av f H k=true->AOk dp A->OK C X B f env ρ Z H s->VRel C.σ ρ Z av v->∀ (Q:Unit->Shared->Prop) (E:Value->Shared->Prop),(∀ f' H' s',OK C X B f' env ρ Z H' s'->k f' H'=true->Q () s')->wpAny (model C.prog C.w) A (t env v) Q E s
def bB (i:Nat):DA:=fun v f H k=>lM i v f fun f=>k f H
theorem bb {x:Str} {pos:Pos} {i:Nat} (hk:X.sc.kind = .function) (hl:X.sc.names.lookup x=some .local) (hi:X.tab[i]?=some x) (hn:X.tab.Nodup):AS C X (assign (.Name x pos)) (bB i) :=
 fun dp f H k A env B ρ Z s av v hd hA ok r Q E hQ=>wpAny_assign_Name (fj hk hl hi hn hd ok r fun s' f' ok' hk'=>hQ f' H s' ok' hk')
theorem iC {x:Str} {i:Nat} (hk:X.sc.kind = .function) (hl:X.sc.names.lookup x=some .local) (hi:X.tab[i]?=some x) (hn:X.tab.Nodup):AS C X (fun env v=>bindName env x v) (bB i) :=
 fun dp f H k A env B ρ Z s av v hd hA ok r Q E hQ=>wpAny_bindName (fj hk hl hi hn hd ok r fun s' f' ok' hk'=>hQ f' H s' ok' hk')
noncomputable def ASs (C:Cx) (X:Sc):List (Env->Value->Sem Unit)->List DA->Prop
 | [],[]=>True
 | t :: ts,a :: as=>AS C X t a∧ASs C X ts as
 | _,_=>False
def jG (v:AV) (k:AV->Bool):Bool:=@AV.rec (fun _=>(AV->Bool)->Bool) (fun k=>false) (fun b k=>false) (fun i k=>false) (fun s k=>false) (fun j k=>false) (fun v k=>false) (fun l _ k=>k l) (fun k=>false) (fun _ _ _ _ k=>false) (fun _ _ k=>false) (fun _ _ _ k=>false) (fun _ _ _ k=>false) (fun a b c k=>false) (fun _ _ _ _ _ _ k=>false) (fun _ k=>false) (fun _ _ k=>false) (fun _ _ _ k=>false) (fun k=>false) (fun _ k=>false) (fun _ _ k=>false) (fun _ k=>false) (fun _ k=>false) (fun _ k=>false) v k
theorem dD {v:AV} {k:AV->Bool} (h:jG v k=true):∃ l,v = .tup l∧k l=true:=by
 induction v using AV.casesOn<;>first | (exact (am _ rfl h)) | exact ffE h
def gf (v:AV) (k:AV->AV->Bool):Bool:=@AV.rec (fun _=>(AV->AV->Bool)->Bool) (fun k=>false) (fun b k=>false) (fun i k=>false) (fun s k=>false) (fun j k=>false) (fun v k=>false) (fun l _ k=>false) (fun k=>false) (fun a b _ _ k=>k a b) (fun _ _ k=>false) (fun _ _ _ k=>false) (fun _ _ _ k=>false) (fun a b c k=>false) (fun _ _ _ _ _ _ k=>false) (fun _ k=>false) (fun _ _ k=>false) (fun _ _ _ k=>false) (fun k=>false) (fun _ k=>false) (fun _ _ k=>false) (fun _ k=>false) (fun _ k=>false) (fun _ k=>false) v k
theorem cB {v:AV} {k:AV->AV->Bool} (h:gf v k=true):∃ a b,v = .tcons a b∧k a b=true:=by
 induction v using AV.casesOn<;>first | (exact (dj _ _ rfl h)) | exact ffE h
def G9 (as:List DA):AV->Fm->HP->(Fm->HP->Bool)->Bool :=
 @List.rec DA (fun _=>AV->Fm->HP->(Fm->HP->Bool)->Bool) (fun _ f H k=>k f H) (fun a _ ih vs f H k=>gf vs fun v vs=>a v f H fun f H=>ih vs f H k) as
theorem nY:∀ (ts:List (Env->Value->Sem Unit)) (as:List DA),ASs C X ts as->∀ dp f H k A env B ρ Z s avs vs,G9 as avs f H k=true->AOk dp A->OK C X B f env ρ Z H s->VRs C.σ ρ Z avs.items vs->∀ (Q:Unit->Shared->Prop) (E:Value->Shared->Prop),(∀ f' H' s',OK C X B f' env ρ Z H' s'->k f' H'=true->Q () s') ->
  wpAny (model C.prog C.w) A (assignInOrder (ts.map fun t=>t env) vs) Q E s
 | [],[],_=>fun dp f H k A env B ρ Z s avs vs hd hA ok r Q E hQ=>by
  refine (?_:wpAny _ _ (assignInOrder [] vs) _ _ _)
  exact ZP (hQ _ _ _ ok hd)
 | t :: ts,a :: as,hs=>fun dp f H k A env B ρ Z s avs vs hd hA ok r Q E hQ=>by
  nomatch aE (cB hd),hd
  intro av avs' zq2 hd
  subst zq2
  refine ay r.head fun v vs' zq2 r1 r2=>?_
  clear r
  subst zq2
  exact wpAny_assignInOrder_more (hs.1 _ _ _ _ _ _ _ _ _ _ _ _ hd hA ok r1 _ _ fun f' H' s' ok' hd'=>nY ts as hs.2 _ _ _ _ _ _ _ _ _ _ _ _ hd' hA ok' r2 _ _ hQ)
 | [],_ :: _,h=>h.elim
 | _ :: _,[],h=>h.elim
theorem VRel.tup_inv {σ:Sig} {l:AV} {v:Value} (h:VRel σ ρ Z (.tup l) v):∃ a n vs,v = .ref a∧Z.ob a (lu vs n)∧VRs σ ρ Z l.items vs:=by
 refine da h.inv fun _ _ _ zq3 h1 h2 h3=>?_
 clear h
 subst zq3
 exact ⟨_,_,_,rfl,h1,h2,h3⟩
def yP (n:Nat):AV->Bool:=@Nat.rec (fun _=>AV->Bool) (fun v=>@AV.rec (fun _=>Bool) false (fun b=>false) (fun i=>false) (fun s=>false) (fun j=>false) (fun v=>false) (fun l _=>false) true (fun a b _ _=>false) (fun _ _=>false) (fun _ _ _=>false) (fun _ _ _=>false) (fun a b c=>false) (fun _ _ _ _ _ _=>false) (fun _=>false) (fun _ _=>false) (fun _ _ _=>false) false (fun _=>false) (fun _ _=>false) (fun _=>false) (fun _=>false) (fun _=>false) v) (fun _ ih v=>gf v fun _ b=>ih b) n
theorem oX:∀ {n:Nat} {v:AV},yP n v=true->v.items.length=n:=by
 intro n
 induction n with
 | zero=>intro v h; induction v using AV.casesOn<;>first | rfl | exact ffE h
 | succ n ih =>
  intro v h
  refine aE (cB h) fun a b zq2 h2=>?_
  clear h
  subst zq2
  refine (?_:(a :: b.items).length=_)
  rw [List.length_cons,ih h2]
def yW (as:List DA):DA:=fun v f H k=>jG v fun l=>aB (yP as.length l) (G9 as l f H k)
theorem qP {elts:List Ex} {n:Nat} {pos:Pos} {ts:List (Env->Value->Sem Unit)} {as:List DA} (hs:ASs C X ts as) (he:∀ env,assignEach elts env=ts.map fun t=>(false,t env)) (hl:as.length=ts.length) :
  AS C X (assign (.Tuple elts n pos)) (yW as):=by
 intro dp f H k A env B ρ Z s av v hd hA ok r Q E hQ
 refine ad (dD hd) fun xs zq1 hd'=>?_
 clear hd
 subst zq1
 nomatch Za1 (af hd'),hd'
 intro hc hd'
 refine bM r.tup_inv fun a m vs zq3 hz hv=>?_
 clear r
 subst zq3
 have hsz:=(oX hc).trans hl
 refine wpAny_assign_Tuple hA.hd ⟨_,ok.g.z _ _ hz,rfl,m,rfl⟩ (by rw [he]; simp [hv.1.symm,hsz]) ?_ fun h' hx=>?_
 ·rw [he]
  simp [List.findIdx?_eq_none_iff]
 ·rw [he]
  simp only [List.map_map]
  exact nY ts as hs _ _ _ _ _ _ _ _ _ _ _ _ hd' hA (ok.extNew hx) hv _ _ hQ
def HQ {I:Type} (nx:I->HP->(AV->I->HP->Bool)->(HP->Bool)->Bool) (a:DA) (body:DS) (fuel:Nat):I->DS :=
 @Nat.rec (fun _=>I->DS) (fun _ _ _ _ _ _=>false) (fun _ ih i dp f H kn kr=>nx i H (fun v i H=>a v f H fun f H=>body dp f H (fun f H=>ih i dp f H kn kr) kr) (fun H=>kn f H)) fuel
theorem fo {prog:Program} {w:World} {A:Around} {s:Shared} {R:Result->Shared->Prop} {target:Ex} {it:Value} {body orelse:List Stmt} {env:Env} (I:Nat->Shared->Prop)
  (turn:∀ n s,I n s->wpAny (model prog w) A (pyNext it) (fun r s₁=>match r with
   | none=>wpAny (model prog w) A (execs orelse env) (fun f s₃=>R (.ok f) s₃) (notedBy (model prog w) A env fun e s'=>R (.error e) s') s₁
   | some v=>wpAny (model prog w) A (letOwnedTupleGo target it v) (fun _ s₀=>wpAny (model prog w) A (assign target env v) (fun _ sq2=>wpAny (model prog w) A (execs body env) (fun f s₃=>match f with
     | .next | .cont=>∃ m,m<n∧I m s₃
     | .brk=>R (.ok .next) s₃
     | .ret v=>R (.ok (.ret v)) s₃) (notedBy (model prog w) A env fun e s'=>R (.error e) s') sq2) (notedBy (model prog w) A env fun e s'=>R (.error e) s') s₀) (notedBy (model prog w) A env fun e s'=>R (.error e) s') s₁) (notedBy (model prog w) A env fun e s'=>R (.error e) s') s)
  (n:Nat) (h:I n s):codeAny (model prog w) A (.forLoop target it body orelse env) R s:=by
 refine codeAny_loop' rfl I (fun n s hI=>?_) n h
 show wpAny _ _ ((forTurn target it body orelse env).onRaise (fun x=>do noteFrame x env; theTreesLotGoes x)) _ _ s
 refine wpAny_noted ?_
 simp only [forTurn]
 refine ZB (wpAny_standAt (ZB (wpAny_onRaise (wpAny_mono (turn n s hI) (fun r s₁ h₁=>?_) fun _ _ h'=>wpAny_standAt h'))))
 induction r using Option.casesOn with
 | none=>exact ZP (.inr ⟨rfl,codeAny_block h₁⟩)
 | some v =>
  refine ZB (wpAny_mono h₁ (fun _ s₀ hq0=>ZB (wpAny_mono hq0 (fun _ sq2 h₂=>ZB (wpAny_mono h₂ (fun f s₃ h₃=>?_) fun _ _ h'=>h')) fun _ _ h'=>h')) fun _ _ h'=>h')
  induction f using PySem.Flow.casesOn with
  | next=>exact ZP (.inl ⟨rfl,h₃⟩)
  | cont=>exact ZP (.inl ⟨rfl,h₃⟩)
  | brk=>exact ZP h₃
  | ret v=>exact ZP h₃
noncomputable def uw (C:Cx) {I:Type} (rel:I->List Addr->Fz->Value->List (Addr × Obj)->Prop) (mk:AV->HP->(I->HP->Bool)->Bool):Prop :=
 ∀ X dp f H k A env B ρ Z s av v,mk av H k=true->AOk dp A->OK C X B f env ρ Z H s->VRel C.σ ρ Z av v->∀ (Q:Value->Shared->Prop) (E:Value->Shared->Prop),
  (∀ s' i P it,OK C X B f env ρ Z H s'->Pv B env.locals ρ Z s' P->rel i ρ Z it P->k i H=true->Q it s')->wpAny (model C.prog C.w) A (pyIter v) Q E s
noncomputable def SI (C:Cx) (X:Sc) {I:Type} (rel:I->List Addr->Fz->Value->List (Addr × Obj)->Prop) (e:Ex) (d:Nat->Fm->HP->(I->HP->Bool)->Bool):Prop :=
 ∀ dp f H k A env B ρ Z s,d dp f H k=true->AOk dp A->OK C X B f env ρ Z H s->∀ (Q:Value->Shared->Prop) (E:Value->Shared->Prop),
  (∀ ρ' Z' H' s' i P it,Ext ρ Z ρ' Z'->OK C X B f env ρ' Z' H' s'->Pv B env.locals ρ' Z' s' P->rel i ρ' Z' it P->k i H'=true->Q it s')->wpAny (model C.prog C.w) A (eval e env) (fun x s₁=>wpAny (model C.prog C.w) A (pyIter x) Q E s₁) E s
def dW {I:Type} (mk:AV->HP->(I->HP->Bool)->Bool) (d:D):Nat->Fm->HP->(I->HP->Bool)->Bool:=fun dp f H k=>d dp f H fun v H=>mk v H k
theorem eF {I:Type} {rel:I->List Addr->Fz->Value->List (Addr × Obj)->Prop} {mk:AV->HP->(I->HP->Bool)->Bool} {e:Ex} {d:D} (hm:uw C rel mk) (hd:SE C X e d):SI C X rel e (dW mk d) :=
 fun dp f H k A env B ρ Z s hd' hA ok Q E hQ=>hd _ _ _ _ _ _ _ _ _ _ hd' hA ok _ _ fun ρ₁ Z₁ H₁ s₁ av v e₁ ok₁ r₁ hdq1=>hm _ _ _ _ _ _ _ _ _ _ _ _ _ hdq1 hA ok₁ r₁ _ _ fun sq2 i P it ok₂ hp2 hr₂ hdq2=>hQ _ _ _ _ _ _ _ e₁ ok₂ hp2 hr₂ hdq2
def rU {I:Type} (nx:I->HP->(AV->I->HP->Bool)->(HP->Bool)->Bool) (di:Nat->Fm->HP->(I->HP->Bool)->Bool) (a:DA) (body:DS):DS:=fun dp f H kn kr=>di dp f H fun i H=>HQ nx a body 100 i dp f H kn kr
theorem oT {I:Type} {rel:I->List Addr->Fz->Value->List (Addr × Obj)->Prop} {nx:I->HP->(AV->I->HP->Bool)->(HP->Bool)->Bool} {tgt iter:Ex} {body:List Stmt} {pos:Pos} {d:Nat->Fm->HP->(I->HP->Bool)->Bool} {a:DA} {db:DS}
  (hI:ItOK C rel nx) (hd:SI C X rel iter d) (ha:AS C X (assign tgt) a) (hb:S C X body db) (hf:∀ env x,foldedSetIterable iter env x=pure x):S1 C X (.For tgt iter body [] pos) (rU nx d a db):=by
 intro dp f H kn kr A env B ρ Z s hd' hA ok Q E hn hr
 refine wpAny_For (hd _ _ _ _ _ _ _ _ _ _ hd' hA ok _ _ fun ρ₁ Z₁ H₁ sq2 i P it e₁ ok₂ hp2 hr₂ hdq2=>?_) (hf env)
 refine fo (fun n s'=>∃ i f' H' ρ' Z' P',HQ nx a db n i dp f' H' kn kr=true∧Ext ρ₁ Z₁ ρ' Z'∧OK C X B f' env ρ' Z' H' s'∧Pv B env.locals ρ' Z' s' P'∧rel i ρ' Z' it P') ?_ 100 (HE i f H₁ ρ₁ Z₁ P ⟨hdq2,(Ext.refl ..),ok₂,hp2,hr₂⟩)
 intro n s₃ zr11_2
 nomatch Ze4 zr11_2,zr11_2
 intro i fq3 H3 ρ3 zw0
 nomatch dO zw0,zw0
 intro Z3 Pq3 hdq3 e₃ ok₃ hp3 hr3
 induction n using Nat.casesAuxOn with
 | zero=>exact ffE hdq3
 | succ n =>
  refine hI.next _ _ _ _ _ _ _ _ _ _ _ _ _ _ _ hdq3 hA ok₃ hp3 hr3 _ _ (fun s4 ok₄ hdq4=>wpAny_execs_nil (hn _ _ _ _ _ (e₁.trans e₃) ok₄ hdq4)) (fun ρ4 Z4 H4 s4 i' P' av v e₄ ok₄ hp4 hr4 rv4 hdq4=>?_)
  refine da (hI.own hr4) fun a' o' nm q1 q2 q3 q4=>?_
  clear hr₂ hr3
  subst q1
  refine kX (hp4 _ q2).1 q3 q4 ?_
  have okp:=ok₄.priv hp4
  refine ha _ _ _ _ _ _ _ _ _ _ _ _ hdq4 hA okp rv4 _ _ fun fq5 H5 s₅ ok₅ hdq5=>?_
  refine hb _ _ _ _ _ _ _ _ _ _ _ hdq5 hA ok₅ _ _ (fun ρ6 Z6 H6 sq6 fq6 eq6 ok₆ hdq6=>?_) (fun ρ6 Z6 H6 sq6 fq6 av' v' eq6 ok₆ r6 hdq6=>?_)
  ·refine Za1 (ok₆.unpriv ok₄.g.base fun p hp o=>(hp4 p hp).2.2.1 o) fun u1 u2=>?_
   exact (am n (Nat.lt_succ_self _) (HE i' fq6 H6 ρ6 Z6 P' ⟨hdq6,((e₃.trans e₄).trans eq6),u1,u2,(hI.mono eq6 hr4)⟩))
  ·refine Za1 (ok₆.unpriv ok₄.g.base fun p hp o=>(hp4 p hp).2.2.1 o) fun u1 u2=>?_
   exact hr _ _ _ _ _ _ _ (((e₁.trans e₃).trans e₄).trans eq6) u1 r6 hdq6
structure RI where
 x:Int
 left:Nat
 step:Int
noncomputable def HO (i:RI) (ρ:List Addr) (Z:Fz) (v:Value) (P:List (Addr × Obj)):Prop:=∃ it,v = .ref it∧P=[(it,{ cls:=.type "range_iterator",dict:=none,data:=.fields #[rawInt i.x,rawInt i.left,rawInt i.step],slots:=#[] })]
def nxR (i:RI) (H:HP) (ki:AV->RI->HP->Bool) (ke:HP->Bool):Bool:=@RI.rec (fun _=>Bool) (fun x left step=>nr (ke H) (fun l=>lh (wP x step) fun x'=>ki (.tin x) ⟨x',l,step⟩ H) left) i
theorem dE:ItOK C HO nxR where
 mono:=fun _ h=>h
 own:=by
  intro i ρ Z v P zr12_5
  nomatch ad zr12_5,zr12_5
  intro it zq1 zq2
  subst zq1
  subst zq2
  exact (jY it _ ("range_iterator") rfl (List.mem_singleton.mpr rfl) rfl (by decide))
 self:=by
  intro i ρ Z v P zr13_5
  nomatch ad zr13_5,zr13_5
  intro it zq1 zq2
  subst zq1
  subst zq2
  intro A s Q E hp hq
  exact wpAny_pyIter_rangeiter (hp _ (List.mem_singleton.mpr rfl)) hq
 next:=by
  intro X dp f H ki ke A env B ρ Z s i it P hd hA ok hp hr Q E hend hitem
  nomatch ad hr,hr
  intro a zq1 zq2
  subst zq1
  subst zq2
  obtain ⟨x,left,step⟩:=i
  refine Za4 (hp _ (List.mem_singleton.mpr rfl)) fun p1 p2 p3 p4 p5=>?_
  induction left using Nat.casesAuxOn with
  | zero=>exact wpAny_pyNext_range_end hA.hd p1 (Int.le_refl _) fun h' hx=>hend _ (ok.extBut hx p2 p3 p4 p5) hd
  | succ l =>
   change lh (wP x step) (fun x'=>ki (.tin x) ⟨x',l,step⟩ H)=true at hd
   rw [dh,mX] at hd
   refine wpAny_pyNext_range_item p1 (by show (0:Int)<((l+1:Nat):Int); omega) fun h' hit hs=>?_
   have ok':OK C X B f env ρ (Z.tick s.toks (.int x s.toks)) H { s with heap:=h',toks:=s.toks+1 }:=OK.tick (ok.extBut hs.extBut p2 p3 p4 p5) _
   have hl:((l+1:Nat):Int)-1=(l:Int):=by omega
   rw [hl] at hit
   refine hitem ρ _ H _ ⟨x+step,l,step⟩ _ (.tin x) _ ⟨List.prefix_refl _,Fz.le_tick⟩ ok' (fun p hp=>?_) ⟨a,rfl,rfl⟩ (.tin (.inr ⟨rfl,rfl⟩)) hd
   rw [List.mem_singleton.mp hp]
   exact ⟨hit,p2,p3,p4,p5⟩
end
end Mine
local macro_rules | `(nofun) => `(Mine.aa rfl rfl rfl rfl)
local macro_rules
 | `(tactic| refine_lift' nofun)=>`(tactic| refine_lift' Mine.aa rfl rfl rfl rfl)
 | `(tactic| refine_lift' ($e))=>`(tactic| refine_lift' $e)
 | `(tactic| refine_lift' $f:term $xs*)=>do
  let ys ← xs.mapM fun x=>`(by refine_lift' $(⟨x⟩))
  `(tactic| refine no_implicit_lambda% ($f $ys*))
 | `(tactic| refine_lift' $e)=>`(tactic| exact $e)
namespace Mine
open PySem PySem.W PySem.Calls PyProof.Rows MeetsSeq
section
variable {C:Cx} {X:Sc}
noncomputable def wI (a b:Int):Int:=match a,b with
 | .ofNat m,.ofNat n=>(match Nat.ble n m with | true=>.ofNat (Nat.sub m n) | false=>.negSucc (Nat.sub (Nat.sub n m) 1))
 | _,_=>a-b
theorem mU (a b:Int):wI a b=a-b:=by
 induction a using Int.casesOn with
 | negSucc m=>induction b using Int.casesOn<;>rfl
 | ofNat m =>
  induction b using Int.casesOn with
  | negSucc n=>rfl
  | ofNat n =>
   refine (?_:(match Nat.ble n m with | true=>Int.ofNat (m-n) | false=>Int.negSucc (n-m-1))=_)
   induction h:Nat.ble n m using Bool.casesOn with
   | true=>have:=ZbL h; show Int.ofNat (m-n)=_; simp only [Int.ofNat_eq_natCast]; omega
   | false =>
    have:¬ n≤m:=fun q=>by rw [Nat.ble_eq_true_of_le q] at h; exact ffE h.symm
    refine (?_:Int.negSucc (n-m-1)=_)
    rw [Int.negSucc_eq]; simp only [Int.ofNat_eq_natCast]; omega
noncomputable def HJ (a b:Int):Int:=match a,b with
 | .ofNat m,.ofNat n=>.ofNat (Nat.mul m n)
 | _,_=>a * b
theorem Dq (a b:Int):HJ a b=a * b:=by induction a using Int.casesOn<;>induction b using Int.casesOn<;>rfl
noncomputable def small (a:Int):Bool:=match a with
 | .ofNat m=>Nat.ble m 1152921504606846976
 | .negSucc m=>Nat.ble m 1152921504606846976
theorem jJ {a:Int} (h:small a=true):-(1152921504606846976+1)≤a∧a≤1152921504606846976:=by
 induction a using Int.casesOn with
 | ofNat m=>have:=ZbL h; simp only [Int.ofNat_eq_natCast]; omega
 | negSucc m=>have:=ZbL h; rw [Int.negSucc_eq]; omega
noncomputable def natOf (a:Int):Option Nat:=match a with
 | .ofNat m=>some m
 | .negSucc _=>none
theorem aQ {a:Int} {m:Nat} (h:natOf a=some m):a=(m:Int):=by induction a using Int.casesOn<;>simp_all [natOf]
def lT:P2:=fc fun x y k H=>gj (wI x y) k H
theorem iB:cK C (fun a b=>binaryOp .Sub a b) lT:=by
 intro X dp f H k A env B ρ Z s a b va vb hd hA ok ra rb Q E hQ
 nomatch ay (bZ hd),hd
 intro x y ia ib h
 nomatch Ze1 (ar ia ra),ia
 intro t zq1
 clear ra
 subst zq1
 nomatch Ze1 (ar ib rb),ib
 intro u zq1
 clear rb
 subst zq1
 rw [gj,dh,mU] at h
 exact P.sub_int (hQ _ _ _ _ _ _ (Ext.refl ..) (ok.tok _) (.int ..) h)
def IC:P2:=fc fun x y k H=>aB (small x) (gj (HJ x y) k H)
theorem Gj:cK C (fun a b=>binaryOp .Mult a b) IC:=by
 intro X dp f H k A env B ρ Z s a b va vb hd hA ok ra rb Q E hQ
 nomatch ay (bZ hd),hd
 intro x y ia ib h
 nomatch Ze1 (ar ia ra),ia
 intro t zq1
 clear ra
 subst zq1
 nomatch Ze1 (ar ib rb),ib
 intro u zq1
 clear rb
 subst zq1
 refine Za1 (af h) fun h1 h2=>?_
 rw [gj,dh,Dq] at h2
 have:=jJ h1
 exact P.mul_int (hQ _ _ _ _ _ _ (Ext.refl ..) (ok.tok _) (.int ..) h2) (hm:=.of_left (intBits_le_64 (by omega) (by omega)))
def vq (g:Nat->Nat->(AV->HP->Bool)->HP->Bool) (x y:Int) (k:AV->HP->Bool) (H:HP):Bool:=bk (natOf x) fun m=>bk (natOf y) fun n=>aB (Nat.ble 1 n) (aB (Nat.ble n 1000000000) (g m n k H))
theorem l7 {g:Nat->Nat->(AV->HP->Bool)->HP->Bool} {x y:Int} {k:AV->HP->Bool} {H:HP} (h:vq g x y k H=true):∃ m n:Nat,x=(m:Int)∧y=(n:Int)∧1≤n∧n≤1000000000∧g m n k H=true:=by
 refine ad (al h) fun m h1 h2=>?_
 refine ad (al h2) fun n h3 h4=>?_
 refine Za1 (af h4) fun h5 h6=>?_
 refine Za1 (af h6) fun h7 h8=>?_
 exact (iP m n (aQ h1) (aQ h3) (ZbL h5) (ZbL h7) h8)
def jf (n:Nat) (k:AV->HP->Bool) (H:HP):Bool:=aZ n fun n=>k (.int (.ofNat n)) H
theorem oS (n:Nat) (k:AV->HP->Bool) (H:HP):jf n k H=k (.int (.ofNat n)) H:=aP n fun n=>k (.int (.ofNat n)) H
theorem oV (m n:Nat):Int.fdiv (m:Int) (n:Int)=((m / n:Nat):Int):=by rw [Int.fdiv_eq_ediv_of_nonneg _ (by omega)]; rfl
theorem sV (m n:Nat):Int.fmod (m:Int) (n:Int)=((m % n:Nat):Int):=by rw [Int.fmod_eq_emod_of_nonneg _ (by omega)]; rfl
def Ih (x y:Int) (k:AV->HP->Bool) (H:HP):Bool:=vq (fun m n k H=>jf (Nat.div m n) k H) x y k H
def Ic (x y:Int) (k:AV->HP->Bool) (H:HP):Bool:=vq (fun m n k H=>jf (Nat.mod m n) k H) x y k H
def bu (p:Nat->Bool) (m:Nat):Bool:=@Nat.rec (fun _=>Bool) true (fun i ih=>aB (p i) ih) m
theorem dM {p:Nat->Bool} {m:Nat} (h:bu p m=true):∀ i,i<m->p i=true:=by
 induction m with
 | zero=>intro i hi; omega
 | succ m ih =>
  refine Za1 (af h) fun h1 h2=>?_
  intro i hi
  by_cases e:i=m
  ·rw [e]; exact h1
  ·exact ih h2 i (by omega)
noncomputable def je:AV->Option Nat
 | .cel k=>some k
 | _=>none
noncomputable def Fu:AV->Option (Nat × Nat)
 | .quo k d=>some (k,d)
 | _=>none
def orD {α:Type} (o:Option α) (n:Bool) (k:α->Bool):Bool:=@Option.rec α (fun _=>Bool) n k o
def DY:P2:=fun a b H k=>bk (bq b) fun y=>orD (bq a)
 (bk (natOf y) fun n=>aB (Nat.ble 1 n) (orD (je a) (bk (Fu a) fun q=>@Prod.rec Nat Nat (fun _=>Bool) (fun i d=>k (.dig i d n) H) q) (fun _=>bu (fun r=>k (.int (.ofNat r)) H) n)))
 fun x=>Ic x y k H
def EC:P2:=fun a b H k=>bk (bq b) fun y=>orD (bq a) (bk (natOf y) fun n=>aB (Nat.ble 1 n) (aB (Nat.ble n 1000000000) (bk (je a) fun i=>k (.quo i n) H))) fun x=>Ih x y k H
theorem tX:cK C (fun a b=>binaryOp .Mod a b) DY:=by
 intro X dp f H k A env B ρ Z s a b va vb hd hA ok ra rb Q E hQ
 refine ad (al hd) fun y hy h=>?_
 refine Ze1 (ar hy rb) fun u zq1=>?_
 subst zq1
 induction ha:bq a using Option.casesOn with
 | some x =>
  rw [ha] at h
  nomatch Ze1 (ar ha ra),ra
  intro t zq1
  subst zq1
  nomatch dO (l7 h),h
  intro m n zq2 zq3 h1 h2 h3
  clear ha
  subst zq2
  clear hy
  subst zq3
  rw [jf,aP] at h3
  refine mod_int' (by omega) ?_
  rw [sV]
  exact hQ _ _ _ _ _ _ (Ext.refl ..) (ok.tok _) (.int ..) h3
 | none =>
  rw [ha] at h
  nomatch ad (al h),h
  intro n hn h
  have:=aQ hn
  clear hy hn
  subst this
  nomatch Za1 (af h),h
  intro h1 h
  have hn1:1≤n:=ZbL h1
  induction hc:je a using Option.casesOn with
  | some i =>
   rw [hc] at h
   have:a = .cel i:=by induction a using AV.casesOn<;>simp_all [je]
   clear hd ha hc
   subst this
   nomatch ad ra.inv,ra
   intro t zq1 _
   subst zq1
   refine mod_int' (by omega) ?_
   have hlo:0≤Int.fmod (C.σ.cel i) (n:Int):=Int.fmod_nonneg_of_pos _ (by omega)
   have hhi:Int.fmod (C.σ.cel i) (n:Int)<n:=Int.fmod_lt_of_pos _ (by omega)
   refine Ze1 (Int.eq_ofNat_of_zero_le hlo) fun r hr=>?_
   have hk:=dM h r (by omega)
   rw [hr]
   exact hQ _ _ _ _ _ _ (Ext.refl ..) (ok.tok _) (.int ..) hk
  | none =>
   rw [hc] at h
   refine ad (al h) fun zt19_0 hq hk=>?_
   obtain ⟨i,d⟩:=zt19_0
   have:a = .quo i d:=by induction a using AV.casesOn<;>simp_all [Fu]
   clear hd ha hc hq
   subst this
   nomatch Ze1 ra.inv,ra
   intro t zq1
   subst zq1
   refine mod_int' (by omega) ?_
   exact hQ _ _ _ _ _ _ (Ext.refl ..) (ok.tok _) (.dig ..) hk
theorem uy:cK C (fun a b=>binaryOp .FloorDiv a b) EC:=by
 intro X dp f H k A env B ρ Z s a b va vb hd hA ok ra rb Q E hQ
 refine ad (al hd) fun y hy h=>?_
 refine Ze1 (ar hy rb) fun u zq1=>?_
 subst zq1
 induction ha:bq a using Option.casesOn with
 | some x =>
  rw [ha] at h
  nomatch Ze1 (ar ha ra),ra
  intro t zq1
  subst zq1
  nomatch dO (l7 h),h
  intro m n zq2 zq3 h1 h2 h3
  clear ha
  subst zq2
  clear hy
  subst zq3
  rw [jf,aP] at h3
  refine floordiv_int (by omega) ?_ (.inl (PyProof.noPylong_small (by omega)))
  rw [oV]
  exact hQ _ _ _ _ _ _ (Ext.refl ..) (ok.tok _) (.int ..) h3
 | none =>
  rw [ha] at h
  nomatch ad (al h),h
  intro n hn h
  have:=aQ hn
  clear hy hn
  subst this
  nomatch Za1 (af h),h
  intro h1 h
  nomatch Za1 (af h),h
  intro h2 h
  have hn1:1≤n:=ZbL h1
  have hn2:n≤1000000000:=ZbL h2
  refine ad (al h) fun i hc hk=>?_
  have:a = .cel i:=by induction a using AV.casesOn<;>simp_all [je]
  clear hd ha hc
  subst this
  nomatch ad ra.inv,ra
  intro t zq1 _
  subst zq1
  refine floordiv_int (by omega) ?_ (.inl (PyProof.noPylong_small (by omega)))
  exact hQ _ _ _ _ _ _ (Ext.refl ..) (ok.tok _) (.quo ..) hk
def G2:P2:=fc fun x y k H=>bk (natOf x) fun m=>bk (natOf y) fun n=>aB (Nat.ble m 1000) (aB (Nat.ble n 1000) (jf (m ^ n) k H))
theorem AB:cK C (fun a b=>binaryOp .Pow a b) G2:=by
 intro X dp f H k A env B ρ Z s a b va vb hd hA ok ra rb Q E hQ
 nomatch ay (bZ hd),hd
 intro x y ia ib h
 nomatch Ze1 (ar ia ra),ra
 intro t zq1
 subst zq1
 nomatch Ze1 (ar ib rb),rb
 intro u zq1
 subst zq1
 nomatch ad (al h),h
 intro m h1 g1
 refine ad (al g1) fun n h2 g2=>?_
 nomatch Za1 (af g2),g2
 intro h3 g3
 nomatch Za1 (af g3),g3
 intro h4 g4
 have e1:=aQ h1
 have e2:=aQ h2
 clear ia h1
 subst e1; clear ib g1 h2; subst e2
 have hm:m≤1000:=ZbL h3
 have hn:n≤1000:=ZbL h4
 have h0:jf (m ^ n) k H=true:=g4
 rw [oS] at h0
 refine pow_int (by omega) ?_ ?_
 ·have hb:Builtin.Int.intBits (m:Int)≤64:=intBits_le_64 (by omega) (by omega)
  have hmul:Builtin.Int.intBits (m:Int) * n≤64 * 1000:=Nat.mul_le_mul hb hn
  have:((Builtin.Int.intBits (m:Int) * n:Nat):Int)≤64000:=by omega
  rw [Int.natCast_mul] at this
  omega
 ·have he:((m:Int) ^ (n:Int).toNat)=((m ^ n:Nat):Int):=by rw [Int.toNat_natCast]; exact (Int.natCast_pow m n).symm
  rw [he]
  exact hQ _ _ _ _ _ _ (Ext.refl ..) (ok.tok _) (.int ..) h0
def zG:P2:=fc fun x y k H=>bk (natOf x) fun m=>bk (natOf y) fun n=>aB (Nat.ble m 1152921504606846976) (aB (Nat.ble n 1000) (jf (m * 2 ^ n) k H))
theorem qS:cK C (fun a b=>binaryOp .LShift a b) zG:=by
 intro X dp f H k A env B ρ Z s a b va vb hd hA ok ra rb Q E hQ
 nomatch ay (bZ hd),hd
 intro x y ia ib h
 nomatch Ze1 (ar ia ra),ra
 intro t zq1
 subst zq1
 nomatch Ze1 (ar ib rb),rb
 intro u zq1
 subst zq1
 nomatch ad (al h),h
 intro m h1 g1
 refine ad (al g1) fun n h2 g2=>?_
 nomatch Za1 (af g2),g2
 intro h3 g3
 nomatch Za1 (af g3),g3
 intro h4 g4
 have e1:=aQ h1
 have e2:=aQ h2
 clear ia h1
 subst e1; clear ib g1 h2; subst e2
 have hm:m≤1152921504606846976:=ZbL h3
 have hn:n≤1000:=ZbL h4
 have h0:jf (m * 2 ^ n) k H=true:=g4
 rw [oS] at h0
 refine lshift_int_small (by omega) (by omega) (by omega) ?_
 have he:(m:Int) * 2 ^ (n:Int).toNat=((m * 2 ^ n:Nat):Int):=by rw [Int.toNat_natCast]; push_cast; rfl
 rw [he]
 exact hQ _ _ _ _ _ _ (Ext.refl ..) (ok.tok _) (.int ..) h0
def C8:P2:=fc fun x y k H=>bk (natOf x) fun m=>bk (natOf y) fun n=>jf (m / 2 ^ n) k H
theorem vp:cK C (fun a b=>binaryOp .RShift a b) C8:=by
 intro X dp f H k A env B ρ Z s a b va vb hd hA ok ra rb Q E hQ
 nomatch ay (bZ hd),hd
 intro x y ia ib h
 nomatch Ze1 (ar ia ra),ra
 intro t zq1
 subst zq1
 nomatch Ze1 (ar ib rb),rb
 intro u zq1
 subst zq1
 nomatch ad (al h),h
 intro m h1 g1
 refine ad (al g1) fun n h2 g2=>?_
 have e1:=aQ h1
 have e2:=aQ h2
 clear ia h1
 subst e1; clear ib g1 h2; subst e2
 have h0:jf (m / 2 ^ n) k H=true:=g2
 rw [oS] at h0
 refine rshift_int (by omega) ?_
 have he:Int.fdiv (m:Int) (2 ^ (n:Int).toNat)=((m / 2 ^ n:Nat):Int):=by
  rw [Int.toNat_natCast,show ((2:Int) ^ n)=((2 ^ n:Nat):Int) by push_cast; rfl,oV]
 rw [he]
 exact hQ _ _ _ _ _ _ (Ext.refl ..) (ok.tok _) (.int ..) h0
def Ib:P2:=fc fun x y k H=>gj (Builtin.bitXor x y) k H
theorem Gq:cK C (fun a b=>binaryOp .BitXor a b) Ib:=by
 intro X dp f H k A env B ρ Z s a b va vb hd hA ok ra rb Q E hQ
 nomatch ay (bZ hd),hd
 intro x y ia ib h
 nomatch Ze1 (ar ia ra),ia
 intro t zq1
 clear ra
 subst zq1
 nomatch Ze1 (ar ib rb),ib
 intro u zq1
 clear rb
 subst zq1
 rw [gj,dh] at h
 exact xor_int (hQ _ _ _ _ _ _ (Ext.refl ..) (ok.tok _) (.int ..) h)
noncomputable def ieq (a b:Int):Bool:=match a,b with
 | .ofNat m,.ofNat n=>Nat.beq m n
 | .negSucc m,.negSucc n=>Nat.beq m n
 | _,_=>false
theorem eA (m n:Nat):Nat.beq m n=decide (m=n):=by
 induction h:Nat.beq m n using Bool.casesOn with
 | true=>exact (decide_eq_true (ZbE h)).symm
 | false=>exact (decide_eq_false (Nat.ne_of_beq_eq_false h)).symm
theorem ig (a b:Int):ieq a b=decide (a=b):=by
 induction a using Int.casesOn with
 | ofNat m=>induction b using Int.casesOn with
  | ofNat n=>show Nat.beq m n=_; rw [eA]; exact decide_eq_decide.mpr ⟨fun h=>by rw [h],fun h=>Int.ofNat.inj h⟩
  | negSucc n=>exact (decide_eq_false (fun h=>by cases h)).symm
 | negSucc m=>induction b using Int.casesOn with
  | ofNat n=>exact (decide_eq_false (fun h=>by cases h)).symm
  | negSucc n=>show Nat.beq m n=_; rw [eA]; exact decide_eq_decide.mpr ⟨fun h=>by rw [h],fun h=>Int.negSucc.inj h⟩
noncomputable def ilt (a b:Int):Bool:=match a,b with
 | .ofNat m,.ofNat n=>Nat.blt m n
 | .ofNat _,.negSucc _=>false
 | .negSucc _,.ofNat _=>true
 | .negSucc m,.negSucc n=>Nat.blt n m
theorem cW (m n:Nat):Nat.blt m n=decide (m<n):=by
 induction h:Nat.blt m n using Bool.casesOn with
 | true=>exact (decide_eq_true (ZbL h)).symm
 | false=>exact (decide_eq_false (fun q=>by rw [show Nat.blt m n=true from Nat.ble_eq_true_of_le q] at h; exact ffE h.symm)).symm
theorem iU (a b:Int):ilt a b=decide (a<b):=by
 induction a using Int.casesOn with
 | ofNat m=>induction b using Int.casesOn with
  | ofNat n=>simp [ilt,cW]
  | negSucc n=>symm; apply decide_eq_false; simp only [Int.ofNat_eq_natCast]; rw [Int.negSucc_eq]; omega
 | negSucc m=>induction b using Int.casesOn with
  | ofNat n=>symm; apply decide_eq_true; simp only [Int.ofNat_eq_natCast]; rw [Int.negSucc_eq]; omega
  | negSucc n=>show Nat.blt n m=_; rw [cW,Int.negSucc_eq,Int.negSucc_eq]; apply decide_eq_decide.mpr; omega
def pLt:P2:=fc fun x y k H=>k (.bool (ilt x y)) H
theorem Fy:cK C (fun a b=>compareOp .Lt a b) pLt:=by
 intro X dp f H k A env B ρ Z s a b va vb hd hA ok ra rb Q E hQ
 nomatch ay (bZ hd),hd
 intro x y ia ib h
 nomatch Ze1 (ar ia ra),ia
 intro t zq1
 clear ra
 subst zq1
 nomatch Ze1 (ar ib rb),ib
 intro u zq1
 clear rb
 subst zq1
 rw [iU] at h
 exact P.lt_int (hQ _ _ _ _ _ _ (Ext.refl ..) ok (.bool ..) h)
def pLe:P2:=fc fun x y k H=>k (.bool (br true false (ilt y x))) H
theorem IM:cK C (fun a b=>compareOp .LtE a b) pLe:=by
 intro X dp f H k A env B ρ Z s a b va vb hd hA ok ra rb Q E hQ
 nomatch ay (bZ hd),hd
 intro x y ia ib h
 nomatch Ze1 (ar ia ra),ia
 intro t zq1
 clear ra
 subst zq1
 nomatch Ze1 (ar ib rb),ib
 intro u zq1
 clear rb
 subst zq1
 have e:br true false (ilt y x)=decide (x≤y):=by
  rw [iU]
  by_cases q:y<x
  ·rw [decide_eq_true q,decide_eq_false (by omega)]; rfl
  ·rw [decide_eq_false q,decide_eq_true (by omega)]; rfl
 rw [e] at h
 exact P.le_int (hQ _ _ _ _ _ _ (Ext.refl ..) ok (.bool ..) h)
def pGt:P2:=fc fun x y k H=>k (.bool (ilt y x)) H
theorem IQ:cK C (fun a b=>compareOp .Gt a b) pGt:=by
 intro X dp f H k A env B ρ Z s a b va vb hd hA ok ra rb Q E hQ
 nomatch ay (bZ hd),hd
 intro x y ia ib h
 nomatch Ze1 (ar ia ra),ia
 intro t zq1
 clear ra
 subst zq1
 nomatch Ze1 (ar ib rb),ib
 intro u zq1
 clear rb
 subst zq1
 rw [iU] at h
 exact P.gt_int (hQ _ _ _ _ _ _ (Ext.refl ..) ok (.bool ..) h)
def IH:P2:=fc fun x y k H=>k (.bool (br true false (ieq x y))) H
theorem GD:cK C (fun a b=>compareOp .NotEq a b) IH:=by
 intro X dp f H k A env B ρ Z s a b va vb hd hA ok ra rb Q E hQ
 nomatch ay (bZ hd),hd
 intro x y ia ib h
 nomatch Ze1 (ar ia ra),ia
 intro t zq1
 clear ra
 subst zq1
 nomatch Ze1 (ar ib rb),ib
 intro u zq1
 clear rb
 subst zq1
 have e:br true false (ieq x y)=(x != y):=by
  rw [ig]
  by_cases q:x=y
  ·rw [decide_eq_true q]; simp [q,br]
  ·rw [decide_eq_false q]; simp [q,br]
 rw [e] at h
 exact P.ne_int (hQ _ _ _ _ _ _ (Ext.refl ..) ok (.bool ..) h)
end
def onL (ao:AO) (k:Nat->List AV->Bool):Bool:=@AO.rec (fun _=>(Nat->List AV->Bool)->Bool) (fun n rx k=>k n rx) (fun _ k=>false) (fun _ k=>false) (fun _ k=>false) (fun _ k=>false) (fun _ k=>false) ao k
def hU (v:AV) (k:Nat->Bool):Bool:=@AV.rec (fun _=>(Nat->Bool)->Bool) (fun k=>false) (fun b k=>false) (fun i k=>false) (fun s k=>false) (fun j k=>k j) (fun v k=>false) (fun l _ k=>false) (fun k=>false) (fun _ _ _ _ k=>false) (fun _ _ k=>false) (fun _ _ _ k=>false) (fun _ _ _ k=>false) (fun a b c k=>false) (fun _ _ _ _ _ _ k=>false) (fun _ k=>false) (fun _ _ k=>false) (fun _ _ _ k=>false) (fun k=>false) (fun _ k=>false) (fun _ _ k=>false) (fun _ k=>false) (fun _ k=>false) (fun _ k=>false) v k
theorem cF {v:AV} {k:Nat->Bool} (h:hU v k=true):∃ j,v = .ref j∧k j=true:=by
 induction v using AV.casesOn<;>first | (exact (am _ rfl h)) | exact ffE h
def bP (H:HP) (v:AV) (k:Nat->Nat->List AV->Bool):Bool:=hU v fun j=>H.getK j fun ao=>onL ao fun n rx=>k j n rx
theorem aG {H:HP} {v:AV} {k:Nat->Nat->List AV->Bool} (h:bP H v k=true):∃ j n rx,v = .ref j∧H.get j=some (.list n rx)∧k j n rx=true:=by
 refine ad (cF h) fun j zq1 h2=>?_
 clear h
 subst zq1
 nomatch ad (HP.getK_true h2),h2
 intro ao h3 h4
 induction ao using AO.casesOn with
 | list n rx=>exact (u9 j n rx rfl h3 h4)
 | _=>exact ffE h4
section
variable {C:Cx} {X:Sc} {B:Bz} {f:Fm} {env:Env} {ρ:List Addr} {Z:Fz} {H H':HP} {s:Shared} {A:Around}
theorem VRel.ref_inv {σ:Sig} {j:Nat} {v:Value} (h:VRel σ ρ Z (.ref j) v):∃ a,v = .ref a∧ρ[j]?=some a:=by ((refine ad h.inv fun _ zq1 e=>?_; subst zq1); exact (am _ rfl e))
theorem bg (ok:OK C X B f env ρ Z H s) {j:Nat} {v:Value} {n:Nat} {rx:List AV} (r:VRel C.σ ρ Z (.ref j) v) (h:H.get j=some (.list n rx)) :
  ∃ a vs ep,v = .ref a∧ρ[j]?=some a∧IsL s.heap a (vs:List Value).toArray ep∧VRs C.σ ρ Z rx.reverse vs∧vs.length=n∧rx.length=n:=by
 refine ad r.ref_inv fun a zq1 e=>?_
 clear r
 subst zq1
 nomatch ay (ok.g.obj j a e),ok
 intro ao o e1 e2 e3
 rw [h] at e1
 injections e1
 nomatch Za1 e3,e3
 intro h1 zw0
 nomatch aE zw0,zw0
 intro vs ep zq3 h3
 subst zq3
 exact (uq a vs ep rfl e e2 h3 (by rw [← h3.1,List.length_reverse,h1]) h1)
theorem gB {α:Type} {rx:List α} {n m:Nat} (h:rx.length=n) (hm:m<n):rx.reverse[m]?=rx[n-1-m]?:=by
 rw [List.getElem?_reverse (by omega),h]
def gO (xs:List AV):List AV->(List AV->Bool)->Bool:=@List.rec AV (fun _=>List AV->(List AV->Bool)->Bool) (fun acc k=>k acc) (fun x _ ih acc k=>ih (x :: acc) k) xs
theorem dY (xs acc:List AV) (k:List AV->Bool):gO xs acc k=k (xs.reverse++acc):=by
 induction xs generalizing acc with
 | nil=>rfl
 | cons x xs ih=>show gO xs (x :: acc) k=_; rw [ih]; simp
def Gc (xs:List AV):Nat->(Nat->Bool)->Bool:=@List.rec AV (fun _=>Nat->(Nat->Bool)->Bool) (fun n k=>k n) (fun _ _ ih n k=>aZ (Nat.succ n) fun n=>ih n k) xs
theorem C5 (xs:List AV) (n:Nat) (k:Nat->Bool):Gc xs n k=k (xs.length+n):=by
 induction xs generalizing n with
 | nil=>show k n=_; simp
 | cons x xs ih =>
  refine (?_:aZ (Nat.succ n) (fun n=>Gc xs n k)=_)
  rw [aP,ih]
  congr 1
  simp only [List.length_cons]
  omega
def mP (xs:List AV) (H:HP) (k:AV->HP->Bool):Bool:=gO xs [] fun rx=>Gc rx 0 fun n=>aB (Nat.ble n 100000) (H.push (.list n rx) fun j H=>k (.ref j) H)
theorem eI {xs:List AV} {k:AV->HP->Bool} (h:mP xs H k=true):∃ H':HP,xs.length≤100000∧k (.ref H.n) H'=true∧H'.n=H.n+1∧∀ i,H'.get i=if i=H.n then some (.list xs.length xs.reverse) else H.get i:=by
 unfold mP at h
 rw [dY,C5] at h
 simp only [List.append_nil,List.length_reverse,Nat.add_zero] at h
 refine Za1 (af h) fun h1 h2=>?_
 refine aU (HP.push_spec h2) fun H' h3 h4 h5=>?_
 exact (jP H' (ZbL h1) h3 h4 h5)
theorem OK.newList (ok:OK C X B f env ρ Z H s) {xs:List AV} {vs:List Value} (r:VRs C.σ ρ Z xs vs) (hn:H'.n=H.n+1) (hg:∀ i,H'.get i=if i=H.n then some (.list xs.length xs.reverse) else H.get i) (ep:Nat:=0) :
  OK C X B f env (ρ++[s.heap.objs.size]) Z H' { s with heap:=s.heap.push { cls:=.type "list",data:=.seq vs.toArray ep } }∧VRel C.σ (ρ++[s.heap.objs.size]) Z (.ref H.n) (.ref s.heap.objs.size) :=
 ⟨ok.push hn hg ⟨by simp,vs,ep,rfl,by rw [List.reverse_reverse]; exact r.mono (List.prefix_append ..) (Fz.le.rfl _)⟩,.ref (by rw [List.getElem?_append_right (by rw [ok.g.len]; omega),ok.g.len]; simp)⟩
theorem Ext.snoc {a:Addr}:Ext ρ Z (ρ++[a]) Z:=⟨List.prefix_append ..,Fz.le.rfl _⟩
theorem Dg {xs:List AV} {vs:List Value} {k:AV->HP->Bool} (h:mP xs H k=true) (ok:OK C X B f env ρ Z H s) (r:VRs C.σ ρ Z xs vs):Wp C X B f env (RV C) ρ Z A (newList vs) s k:=fun Q E hQ=>by
 refine cJ (eI h) fun H' h1 h2 h3 h4=>?_
 refine Za1 (ok.newList r h3 h4) fun o1 o2=>?_
 exact wpAny_newList (hQ _ _ _ _ _ _ Ext.snoc o1 o2 h2) (by rw [← r.1,sizeLine_eq]; omega)
def cg (ds:DL):D:=fun dp f H k=>ds dp f H fun vs H=>mP vs H k
theorem bn {es:List Ex} {pos:Pos} {ds:DL} (h:SL C X pos es ds):SE C X (.List es pos) (cg ds) :=
 fun dp f H k A env B ρ Z s hd hA ok Q E hQ=>List_ (h _ _ _ _ _ _ _ _ _ _ hd hA ok _ _ fun ρ₁ Z₁ H₁ s₁ vs vvs e₁ ok₁ r₁ hdq1=>Dg hdq1 ok₁ r₁.1 _ _ fun ρ2 Z₂ H₂ sq2 av v e₂ ok₂ r₂ hk=>hQ _ _ _ _ _ _ (e₁.trans e₂) ok₂ r₂ hk)
def fK (ds:DL):D:=fun dp f H k=>ds dp f H fun vs H=>k (.tup (AV.ofL vs)) H
theorem Ext.fz {a:Addr} {o:Obj}:Ext ρ Z ρ (Z.add a o):=⟨List.prefix_refl _,Fz.le_add⟩
theorem cz {es:List Ex} {n:Nat} {pos:Pos} {ds:DL} (h:SL C X pos es ds) (hn:Nat.ble es.length 1000=true):SE C X (.Tuple es n pos) (fK ds) :=
 fun dp f H k A env B ρ Z s hd hA ok Q E hQ=>Tuple_ (h _ _ _ _ _ _ _ _ _ _ hd hA ok _ _ fun ρ₁ Z₁ H₁ s₁ vs vvs e₁ ok₁ r₁ hdq1=>by
  have hl:es.length≤1000:=ZbL hn
  refine wpAny_newTuple (hQ _ _ _ _ _ _ (e₁.trans Ext.fz) (ok₁.freeze (o:=lu vvs 0) rfl) (.tup (n:=0) Fz.add_here (by rw [AV.items_ofL]; exact r₁.1.1) fun i x v a b=>(r₁.1.2 i x v (by rwa [AV.items_ofL] at a) b).ext Ext.fz) hdq1) (by rw [← r₁.1.1,r₁.2,sizeLine_eq]; clear r₁; omega))
noncomputable def gx (C:Cx) (p:P2):Prop :=
 ∀ X dp f H k A env B ρ Z s a b va vb,p a b H k=true->AOk dp A->OK C X B f env ρ Z H s->VRel C.σ ρ Z a va->VRel C.σ ρ Z b vb ->
  ∃ T id,s.TypeIs va T∧typeLookup (.type T) "__getitem__" = pure (some (.builtin id))∧Wp C X B f env (RV C) ρ Z A (getItem va vb) s k
theorem aX {value slice:Ex} {pos:Pos} {p:P2} {dq1 dq2:D} (h1:SE C X value dq1) (h2:SE C X slice dq2) (hp:gx C p) (hs:∀ o i,∃ ops,subscripted slice false o i=operate ops (getItem o i)):SE C X (.Subscript value slice pos) (aJ p dq1 dq2) :=
 fun dp f H k A env B ρ Z s hd hA ok Q E hQ=>Subscript_ (h1 _ _ _ _ _ _ _ _ _ _ hd hA ok _ _ fun ρ₁ Z₁ H₁ s₁ a va e₁ ok₁ r₁ hdq1 =>
  h2 _ _ _ _ _ _ _ _ _ _ hdq1 hA ok₁ _ _ fun ρ2 Z₂ H₂ sq2 b vb e₂ ok₂ r₂ hdq2=>by
   refine ay (hp _ _ _ _ _ _ _ _ _ _ _ a b va vb hdq2 hA ok₂ (r₁.ext e₂) r₂) fun T id q1 q2 q3=>?_
   refine Ze1 (hs va vb) fun ops q4=>?_
   exact tail_any q1 q2 (q3 _ _ fun ρ3 Z3 H3 s₃ c vc e₃ ok₃ r₃ hk=>hQ _ _ _ _ _ _ ((e₁.trans e₂).trans e₃) ok₃ r₃ hk) q4)
def GC (k:Int) (n:Nat) (c:Nat->Bool):Bool:=@Int.rec (fun _=>Bool) (fun m=>aB (Nat.blt m n) (c (Nat.sub (Nat.sub n 1) m))) (fun m=>aB (Nat.blt m n) (c m)) k
def pLI:P2:=fun a b H k=>bP H a fun _ n rx=>bk (bq b) fun i=>GC i n fun m=>aB (Nat.ble n 100000) (i8 rx m fun v=>k v H)
theorem Gw:gx C pLI:=by
 intro X dp f H k A env B ρ Z s a b va vb hd hA ok ra rb
 refine bM (aG hd) fun j n rx zq3 hj h=>?_
 clear hd
 subst zq3
 nomatch ad (al h),h
 intro i hi h
 nomatch Ze1 (ar hi rb),hi
 intro t zq1
 clear rb
 subst zq1
 nomatch bS (bg ok ra hj),hj
 intro a vs ep zq3 hρ hl hv hn hn'
 clear ra
 subst zq3
 refine (aK ("list") ("list.__getitem__") hl.isList.typeIs slot_list_getitem.lookup (fun Q E hQ=>?_))
 induction i using Int.casesOn with
 | ofNat m =>
  nomatch Za1 (af h),h
  intro h1 h
  nomatch Za1 (af h),h
  intro h2 h
  nomatch ad (cU h),h
  intro v h3 h4
  rw [cW] at h1
  have hm:=of_decide_eq_true h1
  have hsz:n≤100000:=ZbL h2
  skip
  replace h3:rx[n-1-m]?=some v:=h3
  rw [← gB hn' hm] at h3
  refine ad (hv.get h3) fun w hw hr=>?_
  exact wpAny_getItem_list hl.isList (Int.natCast_nonneg m) (by show (m:Int)<2 ^ 63; clear hn' hn; omega) (by simpa using hw) (hQ _ _ _ _ _ _ (Ext.refl ..) ok hr h4)
 | negSucc m =>
  refine Za1 (af h) fun h1 h=>?_
  refine Za1 (af h) fun h2 h=>?_
  refine ad (cU h) fun v h3 h4=>?_
  rw [cW] at h1
  have hm:=of_decide_eq_true h1
  have hsz:n≤100000:=ZbL h2
  have h3':rx.reverse[n-1-m]?=some v:=by
   rw [gB hn' (by clear hsz hn' hn; omega)]
   skip
   rw [← h3]; congr 1; clear hsz hn' hn; omega
  refine ad (hv.get h3') fun w hw hr=>?_
  refine wpAny_getItem_list_neg hl.isList (Int.negSucc_lt_zero m) ?_ ?_ ?_ (hQ _ _ _ _ _ _ (Ext.refl ..) ok hr h4)
  ·rw [List.size_toArray,hn,Int.negSucc_eq]; clear hsz hn' hn; omega
  ·rw [Int.negSucc_eq]; clear hn' hn; omega
  ·rw [List.size_toArray,hn]
   have:(Int.negSucc m+(n:Int)).toNat=n-1-m:=by rw [Int.negSucc_eq]; clear hsz hm hn' hn; omega
   rw [this]
   simpa using hw
theorem aI {o:Ex} {name:Str} {apos pos:Pos} {args:List Ex} {T id:String} {d:D} {ds:DL} {c:DC} {ty:AV->HP->Bool}
  (hbase:∀ env,attributeBase o name env (eval o env)=eval o env)
  (hfew:∀ env,((backTo pos (starEach args env)).all (fun x=>!x.1)&&(backToKw pos (keywordEach [] env)).all (fun x=>x.1.isSome)&&decide (args.length+([]:List Keyword).length+(if ([]:List Keyword).isEmpty then 0 else 1)<30))=true)
  (hline:(apos.endLine==pos.line)=true) (pa:PlainAttrs T) (slot:Slot T name id) (hty:typeOf (.builtin id)=pure (.type "method_descriptor")) (hs:∀ env,(backTo pos (starEach args env)).any (·.1)=false)
  (hd:SE C X o d) (hT:∀ {X:Sc} {B f env ρ Z H s av v},OK C X B f env ρ Z H s->ty av H=true->VRel C.σ ρ Z av v->s.TypeIs v T∧∀ a,v = .ref a->∃ ob,s.heap.get? a=some ob∧ob.dict=none)
  (ha:SL C X pos args ds) (hc:SC C (.builtin id) (args.length+1) c) :
  SE C X (.Call (.Attribute o name apos) args [] pos) (fun dp f H k=>d dp f H fun ov H=>aB (ty ov H) (ds dp f H fun vs H=>c (ov :: vs) dp H k)):=by
 intro dp f H k A env B ρ Z s hd' hA ok Q E hQ
 refine wpAny_Call_method (hbase env) (hfew env) hline pa slot hty (hd _ _ _ _ _ _ _ _ _ _ hd' hA ok _ _ fun ρ₁ Z₁ H₁ s₁ a va e₁ ok₁ r₁ hdq1=>?_)
 refine Za1 (af hdq1) fun h1 h2=>?_
 refine Za1 (hT ok₁ h1 r₁) fun t1 t2=>?_
 refine ⟨t1,t2,callWith_builtin (hs env) (bv (hs env) ?_)⟩
 exact ha _ _ _ _ _ _ _ _ _ _ h2 hA ok₁ _ _ fun ρ2 Z₂ H₂ sq2 vs vvs e₂ ok₂ r₂ hdq2=>hc _ _ _ _ _ _ _ _ _ _ _ _ _ hdq2 hA ok₂ (.cons (r₁.ext e₂) r₂.1) (by simp [r₂.2]) _ _ fun ρ3 Z3 H3 s₃ b vb e₃ ok₃ r₃ hk=>hQ _ _ _ _ _ _ ((e₁.trans e₂).trans e₃) ok₃ r₃ hk
def cc (v:AV) (H:HP):Bool:=bP H v fun _ _ _=>true
theorem bh (ok:OK C X B f env ρ Z H s) {av:AV} {v:Value} (h:cc av H=true) (r:VRel C.σ ρ Z av v):s.TypeIs v "list"∧∀ a,v = .ref a->∃ ob,s.heap.get? a=some ob∧ob.dict=none:=by
 refine bM (aG h) fun j n rx zq3 hj _=>?_
 clear h
 subst zq3
 nomatch da (bg ok r hj),ok,hj
 intro a vs ep zq3 hρ hl _
 clear r
 subst zq3
 exact ⟨hl.isList.typeIs,fun b e=>by cases e; exact (am _ hl rfl)⟩
def nI (args:List AV) (k:AV->AV->Bool):Bool:=@List.rec AV (fun _=>Bool) false (fun a r _=>@List.rec AV (fun _=>Bool) false (fun b _ _=>k a b) r) args
theorem cE {args:List AV} {k:AV->AV->Bool} (h:nI args k=true) (hl:args.length=2):∃ a b,args=[a,b]∧k a b=true:=by
 match args,hl with
 | [a,b],_=>exact (dj a b rfl h)
def gY (args:List AV) (k:AV->Bool):Bool:=@List.rec AV (fun _=>Bool) false (fun a _ _=>k a) args
theorem bD {args:List AV} {k:AV->Bool} (h:gY args k=true) (hl:args.length=1):∃ a,args=[a]∧k a=true:=by
 match args,hl with
 | [a],_=>exact (am a rfl h)
theorem VRs.two {σ:Sig} {a b:AV} {vs:List Value} (h:VRs σ ρ Z [a,b] vs):∃ x y,vs=[x,y]∧VRel σ ρ Z a x∧VRel σ ρ Z b y:=by
 nomatch ay h.head,h
 intro x vs' zq2 h1 h2
 subst zq2
 refine ay h2.head fun y vs'' zq2 h3 h4=>?_
 clear h2
 subst zq2
 rw [h4.nil_inv]
 exact (aK x y rfl h1 h3)
theorem VRs.one {σ:Sig} {a:AV} {vs:List Value} (h:VRs σ ρ Z [a] vs):∃ x,vs=[x]∧VRel σ ρ Z a x:=by
 refine ay h.head fun x vs' zq2 h1 h2=>?_
 clear h
 subst zq2
 rw [h2.nil_inv]
 exact (am x rfl h1)
theorem OK.mapSeq (ok:OK C X B f env ρ Z H s) {j:Nat} {a:Addr} {vs ws:List Value} {ep n:Nat} {rx:List AV} {g:Array Value->Array Value} (hj:ρ[j]?=some a) (hl:IsL s.heap a vs.toArray ep) (hg:g vs.toArray=ws.toArray)
  (hn:H'.n=H.n) (hh:∀ i,H'.get i=if i=j then some (.list n rx) else H.get i) (hr:VRs C.σ ρ Z rx.reverse ws) (hlen:rx.length=n):OK C X B f env ρ Z H' { s with heap:=s.heap.update a (Obj.mapSeq g) } :=
 ok.update hn hh hj (Heap.SameBut.update ..) (hl.update g) ⟨hlen,ws,_,by rw [hg],hr⟩
def b7:DC:=fun args _ H k=>nI args fun o x=>bP H o fun j n rx=>aB (Nat.ble n 100000) (aZ (Nat.succ n) fun n'=>H.set j (.list n' (x :: rx)) fun H=>k .none H)
theorem bL:SC C (.builtin "list.append") 2 b7:=by
 intro X dp f H k A env B ρ Z s args vals hc hA ok hv hlen Q E hQ
 nomatch aE (cE hc hlen),hc
 intro a b zq2 h
 subst zq2
 nomatch ay hv.two,hv
 intro va vb zq2 ra rb
 subst zq2
 nomatch bM (aG h),h
 intro j n rx zq3 hj h
 subst zq3
 nomatch Za1 (af h),h
 intro h1 h
 rw [aP] at h
 nomatch aU (HP.set_spec h),h
 intro H' h2 h3 h4
 nomatch bS (bg ok ra hj),hj
 intro a vs ep zq3 hρ hl hv' hn hn'
 clear ra
 subst zq3
 have hsz:n≤100000:=ZbL h1
 refine call_meets F.slot_list_append ⟨_,hl,rfl⟩ F.entry_list_append (F.args_list_append_2 _ _) (list_append a vs.toArray ep vb (by rw [List.size_toArray,hn,sizeLine_eq]; clear hn' hn h3 hlen; omega)) ⟨hl,?_⟩
 exact hQ _ _ _ _ _ _ (Ext.refl ..) (ok.mapSeq (ws:=vs++[vb]) hρ hl (by simp) h3 h4 (by rw [List.reverse_cons]; exact hv'.append (.cons rb .nil)) (by simp [hn'])) .none h2
def CA:DC:=fun args _ H k=>gY args fun o=>bP H o fun j n rx=>aB (Nat.ble n 100000) (nr false (fun n'=>@List.rec AV (fun _=>Bool) false (fun x r _=>H.set j (.list n' r) fun H=>k x H) rx) n)
theorem qJ:SC C (.builtin "list.pop") 1 CA:=by
 intro X dp f H k A env B ρ Z s args vals hc hA ok hv hlen Q E hQ
 nomatch ad (bD hc hlen),hc
 intro a zq1 h
 subst zq1
 nomatch ad hv.one,hv
 intro va zq1 ra
 subst zq1
 nomatch bM (aG h),h
 intro j n rx zq3 hj h
 subst zq3
 nomatch Za1 (af h),h
 intro h1 h
 nomatch bS (bg ok ra hj),hj
 intro a vs ep zq3 hρ hl hv' hn hn'
 clear ra
 subst zq3
 have hsz:n≤100000:=ZbL h1
 induction n using Nat.casesAuxOn with
 | zero=>exact ffE h
 | succ n =>
  induction rx using List.casesOn with
  | nil=>exact ffE h
  | cons x r =>
   refine aU (HP.set_spec h) fun H' h2 h3 h4=>?_
   have hr:(x :: r).reverse[n]?=some x:=by
    have:r.length=n:=by simpa using hn'
    rw [List.reverse_cons,List.getElem?_append_right (by simp [this])]
    simp [this]
   refine ad (hv'.get hr) fun w hw hrel=>?_
   have hvs:vs=vs.take n++[w]:=by
    have h5:n<vs.length:=by omega
    have:=List.take_append_drop n vs
    rw [← this]
    congr 1
    ·simp
    ·rw [List.drop_eq_getElem_cons h5]
     have:vs[n]=w:=by simpa [h5] using hw
     rw [this,List.drop_eq_nil_of_le (by omega)]
   refine call_meets F.slot_list_pop ⟨_,hl,rfl⟩ F.entry_list_pop (F.args_list_pop_1 _) (list_pop_last a vs.toArray ep w ?_ (by rw [List.size_toArray,hn,sizeLine_eq]; clear h3 hn' hn hlen; omega)) ⟨hl,?_⟩
   ·rw [List.size_toArray,hn]; simpa using hw
   ·refine hQ _ _ _ _ _ _ (Ext.refl ..) (ok.mapSeq (ws:=vs.take n) hρ hl ?_ h3 h4 ?_ (by simpa using hn')) hrel h2
    ·apply Array.ext'
     rw [List.size_toArray,hn]
     have hlt:n+1-1<vs.toArray.size:=by simp [hn]
     rw [Array.eraseIdxIfInBounds]
     rw [dif_pos hlt]
     simp only [Array.toList_eraseIdx,Nat.add_sub_cancel]
     rw [List.eraseIdx_eq_take_drop_succ,List.drop_eq_nil_of_le (by omega),List.append_nil]
    ·rw [List.reverse_cons] at hv'
     rw [hvs] at hv'
     have hl2:(vs.take n).length=r.reverse.length:=by
      have:r.length=n:=by simpa using hn'
      simp [this]; clear h3 hn' hsz hlen; omega
     refine ⟨hl2.symm,fun i y v e1 e2=>?_⟩
     have i1:=(ZbS e1).1
     have i2:=(ZbS e2).1
     exact hv'.2 i y v (by rw [List.getElem?_append_left i1]; exact e1) (by rw [List.getElem?_append_left i2]; exact e2)
end
section
variable {C:Cx} {X:Sc} {B:Bz} {f:Fm} {env:Env} {ρ:List Addr} {Z:Fz} {H H':HP} {s:Shared} {A:Around}
theorem OK.grown (ok:OK C X B f env ρ Z H s) {h':Heap} {t:Nat} (hk:∀ b o,s.heap.get? b=some o->h'.get? b=some o) (ht:s.toks≤t):OK C X B f env ρ Z H { s with heap:=h',toks:=t } :=
 OK.tok (ok.extNew fun b o _ e=>hk b o e) t ht
theorem fs {M:Model} {E:Value->Shared->Prop} {pos:Pos} {T:String} {first:List Value} {args:List (Bool × Sem Value)} {Q:Value->Shared->Prop} (hplain:args.any (·.1)=false)
  (h:wpAny M A (evalArgs (.type T) true args []) (fun a s₁=>wpAny M A (call (.type T) (first++a.pos) a.kw) Q E s₁) E s):wpAny M A (callWith pos (.type T) first args []) Q E s:=by
 unfold callWith
 refine ZB (wpAny_holding (wpAny_mono h (fun a s₁ h₁=>ZB (wpAny_standAt ?_)) fun _ _ x=>x))
 simp only [hplain,List.any_nil,Bool.or_false]
 refine ZB (ZP ?_)
 exact ZB (wpAny_mono h₁ (fun r sq2 hr=>ZB (wpAny_holding (wpAny_point (ZP hr)))) fun _ _ x=>x)
theorem bT {x:Str} {p pos:Pos} {args:List Ex} {T:String} {c:DC} {ds:DL} (hk:X.sc.kind = .function) (hl:X.sc.names.lookup x=some .globalImplicit) (hg:C.GlobV x (.type T)) (hd:(x==("__debug__" : Str))=false)
  (ha:SL C X pos args ds) (hs:∀ env,(backTo pos (starEach args env)).any (·.1)=false) (hc:SC C (.type T) args.length c):SE C X (.Call (.Name x p) args [] pos) (a9 c ds):=by
 intro dp f H k A env B ρ Z s hd' hA ok Q E hQ
 refine (?_:wpAny _ _ (eval (.Call (.Name x p) args [] pos) env) _ _ _)
 rw [dK (C:=C) (X:=X)]
 refine ZB (dg hk hl hg hd ok (fs (hs env) (bv (hs env) ?_)))
 exact ha _ _ _ _ _ _ _ _ _ _ hd' hA ok _ _ fun ρ₁ Z₁ H₁ s₁ vs vvs e₁ ok₁ r₁ hdq1=>hc _ _ _ _ _ _ _ _ _ _ _ _ _ hdq1 hA ok₁ r₁.1 r₁.2 _ _ fun ρ2 Z₂ H₂ sq2 b vb e₂ ok₂ r₂ hkq2=>hQ _ _ _ _ _ _ (e₁.trans e₂) ok₂ r₂ hkq2
def eQ:DC:=fun args _ H k=>gY args fun a=>bk (bq a) fun n=>k (.rng 0 n 1) H
theorem dd:SC C (.type "range") 1 eQ:=by
 intro X dp f H k A env B ρ Z s args vals hc hA ok hv hlen Q E hQ
 refine ad (bD hc hlen) fun a zq1 h=>?_
 clear hc hlen
 subst zq1
 nomatch ad hv.one,hv
 intro va zq1 ra
 subst zq1
 nomatch ad (al h),h
 intro n h1 h2
 nomatch Ze1 (ar h1 ra),h1
 intro t zq1
 clear ra
 subst zq1
 refine call_range_1 (hQ _ _ _ _ _ _ Ext.fz (OK.tok (ok.freeze (o:={ cls:=.type "range",data:=.fields #[.int 0 s.toks,.int n t,.int 1 (s.toks+1)] }) rfl) (s.toks+1+1)) (.rng Fz.add_here) h2)
def wS (args:List AV) (k:AV->AV->AV->Bool):Bool:=@List.rec AV (fun _=>Bool) false (fun a r _=>@List.rec AV (fun _=>Bool) false (fun b r _=>@List.rec AV (fun _=>Bool) false (fun c _ _=>k a b c) r) r) args
theorem gV {args:List AV} {k:AV->AV->AV->Bool} (h:wS args k=true) (hl:args.length=3):∃ a b c,args=[a,b,c]∧k a b c=true:=by
 match args,hl with
 | [a,b,c],_=>exact (lA a b c rfl h)
theorem VRs.three {σ:Sig} {a b c:AV} {vs:List Value} (h:VRs σ ρ Z [a,b,c] vs):∃ x y z,vs=[x,y,z]∧VRel σ ρ Z a x∧VRel σ ρ Z b y∧VRel σ ρ Z c z:=by
 nomatch ay h.head,h
 intro x vs' zq2 h1 h2
 subst zq2
 refine ay h2.two fun y z zq2 h3 h4=>?_
 clear h2
 subst zq2
 exact (jY x y z rfl h1 h3 h4)
def wh:DC:=fun args _ H k=>nI args fun a b=>bk (bq a) fun m=>bk (bq b) fun n=>k (.rng m n 1) H
theorem ym:SC C (.type "range") 2 wh:=by
 intro X dp f H k A env B ρ Z s args vals hc hA ok hv hlen Q E hQ
 refine aE (cE hc hlen) fun a b zq2 h=>?_
 clear hc hlen
 subst zq2
 nomatch ay hv.two,hv
 intro va vb zq2 ra rb
 subst zq2
 nomatch ad (al h),h
 intro m h1 h2
 nomatch ad (al h2),h2
 intro n h3 h4
 nomatch Ze1 (ar h1 ra),h1
 intro t zq1
 clear ra
 subst zq1
 nomatch Ze1 (ar h3 rb),h3
 intro u zq1
 clear rb
 subst zq1
 refine call_range_2 (hQ _ _ _ _ _ _ Ext.fz (OK.tok (ok.freeze (o:={ cls:=.type "range",data:=.fields #[.int m t,.int n u,.int 1 s.toks] }) rfl) (s.toks+1)) (.rng Fz.add_here) h4)
noncomputable def HG (i:Int):Bool:=match i with
 | .ofNat _=>false
 | .negSucc n=>Nat.beq n 0
theorem Da {i:Int} (h:HG i=true):i = -1:=by
 induction i using Int.casesOn with
 | ofNat n=>exact ffE h
 | negSucc n=>have:=ZbE h; clear h; subst this; rfl
def rF:DC:=fun args _ H k=>wS args fun a b c=>bk (bq a) fun m=>bk (bq b) fun n=>bk (bq c) fun st=>aB (HG st) (k (.rng m n st) H)
theorem qg:SC C (.type "range") 3 rF:=by
 intro X dp f H k A env B ρ Z s args vals hc hA ok hv hlen Q E hQ
 refine eH (gV hc hlen) fun a b c zq3 h=>?_
 clear hc hlen
 subst zq3
 nomatch da hv.three,hv
 intro va vb vc zq3 ra rb rc
 subst zq3
 nomatch ad (al h),h
 intro m h1 h2
 nomatch ad (al h2),h2
 intro n h3 h4
 nomatch ad (al h4),h4
 intro st h5 h6
 refine Za1 (af h6) fun h7 h8=>?_
 have:=Da h7
 clear h6 h7
 subst this
 nomatch Ze1 (ar h1 ra),h1
 intro t zq1
 clear ra
 subst zq1
 nomatch Ze1 (ar h3 rb),h3
 intro u zq1
 clear rb
 subst zq1
 nomatch Ze1 (ar h5 rc),h5
 intro v zq1
 clear rc
 subst zq1
 refine call_range_3 (by decide) (hQ _ _ _ _ _ _ Ext.fz (OK.tok (ok.freeze (o:={ cls:=.type "range",data:=.fields #[.int m t,.int n u,.int (-1) v] }) rfl) s.toks) (.rng Fz.add_here) h8) (.inl (PyProof.noPylong_small (by decide)))
def AG (v:AV) (k:Int->Int->Int->Bool):Bool:=@AV.rec (fun _=>(Int->Int->Int->Bool)->Bool) (fun k=>false) (fun b k=>false) (fun i k=>false) (fun s k=>false) (fun j k=>false) (fun v k=>false) (fun l _ k=>false) (fun k=>false) (fun _ _ _ _ k=>false) (fun _ _ k=>false) (fun _ _ _ k=>false) (fun _ _ _ k=>false) (fun a b c k=>k a b c) (fun _ _ _ _ _ _ k=>false) (fun _ k=>false) (fun _ _ k=>false) (fun _ _ _ k=>false) (fun k=>false) (fun _ k=>false) (fun _ _ k=>false) (fun _ k=>false) (fun _ k=>false) (fun _ k=>false) v k
theorem oK {v:AV} {k:Int->Int->Int->Bool} (h:AG v k=true):∃ a b c,v = .rng a b c∧k a b c=true:=by
 induction v using AV.casesOn<;>first | (exact (lA _ _ _ rfl h)) | exact ffE h
noncomputable def FC (a b c:Int):Int:=match c with
 | .ofNat _=>(match ilt a b with | true=>wI b a | false=>0)
 | .negSucc _=>(match ilt b a with | true=>wI a b | false=>0)
noncomputable def Ft (c:Int):Bool:=match c with
 | .ofNat n=>Nat.beq n 1
 | .negSucc n=>Nat.beq n 0
theorem tM {a b c:Int} (h:Ft c=true):FC a b c=Builtin.Range.rangeSize a b c∧(c=1∨c = -1):=by
 induction c using Int.casesOn with
 | ofNat n =>
  have:=ZbE h
  clear h
  subst this
  refine ⟨?_,.inl rfl⟩
  refine (?_:(match ilt a b with | true=>wI b a | false=>0)=Builtin.Range.rangeSize a b 1)
  rw [rangeSize_one,iU,mU]
  by_cases q:a<b
  ·rw [decide_eq_true q,if_pos q]
  ·rw [decide_eq_false q,if_neg q]
 | negSucc n =>
  have:=ZbE h
  clear h
  subst this
  refine ⟨?_,.inr rfl⟩
  refine (?_:(match ilt b a with | true=>wI a b | false=>0)=Builtin.Range.rangeSize a b (-1))
  rw [iU,mU]
  unfold Builtin.Range.rangeSize
  rw [if_neg (by decide)]
  by_cases q:b<a
  ·rw [decide_eq_true q,if_pos q]
   simp
  ·rw [decide_eq_false q,if_neg q]
def mkR (v:AV) (H:HP) (k:RI->HP->Bool):Bool:=AG v fun a b c=>aB (Ft c) (aB (small a) (aB (small b) (bk (natOf (FC a b c)) fun n=>aZ n fun n=>k ⟨a,n,c⟩ H)))
theorem mC {a b c:Int} (hc:c=1∨c = -1) (ha:small a=true) (hb:small b=true):Builtin.Range.small a b c=true:=by
 have ha:=jJ ha
 have hb:=jJ hb
 rcases hc with rfl | rfl
 ·exact small_one (by omega) (by omega) (by omega) (by omega)
 ·unfold Builtin.Range.small Builtin.Range.rangeSize
  simp only [Builtin.Range.rangeFitsLong,Bool.and_eq_true,Bool.or_eq_true,decide_eq_true_eq,beq_iff_eq,show ¬ ((-1:Int) > 0) by decide,if_false,Int.neg_neg,Int.ediv_one]
  split<;>omega
theorem dF:uw C HO mkR:=by
 intro X dp f H k A env B ρ Z s av v hd hA ok r Q E hQ
 refine eH (oK hd) fun a b c zq3 h=>?_
 clear hd
 subst zq3
 nomatch Za1 (af h),h
 intro h1 h
 nomatch Za1 (af h),h
 intro h2 h
 nomatch Za1 (af h),h
 intro h3 h
 nomatch ad (al h),h
 intro n h4 h5
 rw [aP] at h5
 nomatch Za1 (tM (a:=a) (b:=b) h1),h1
 intro e1 e2
 rw [e1] at h4
 refine Ze4 r.inv fun _ _ _ _ zw0=>?_
 nomatch Za1 zw0,zw0
 intro zq4 hz
 clear r
 subst zq4
 have hsz:=aQ h4
 have hw:=ok.own { cls:=.type "range_iterator",data:=.fields #[rawInt a,rawInt (Builtin.Range.rangeSize a b c),rawInt c] } rfl
 refine wpAny_pyIter_range (ok.g.z _ _ hz) (mC e2 h2 h3) (hQ _ ⟨a,n,c⟩ _ _ hw.1 hw.2 ⟨_,rfl,by rw [hsz]⟩ h5)
def FU:DC:=fun args _ H k=>gY args fun a=>bP H a fun _ n _=>aB (Nat.ble n 100000) (k (.int (.ofNat n)) H)
theorem yU:SC C (.builtin "len") 1 FU:=by
 intro X dp f H k A env B ρ Z s args vals hc hA ok hv hlen Q E hQ
 nomatch ad (bD hc hlen),hc
 intro a zq1 h
 subst zq1
 nomatch ad hv.one,hv
 intro va zq1 ra
 subst zq1
 nomatch bM (aG h),h
 intro j n rx zq3 hj h
 subst zq3
 nomatch Za1 (af h),h
 intro h1 h
 nomatch bS (bg ok ra hj),hj
 intro a vs ep zq3 hρ hl hv' hn hn'
 clear ra
 subst zq3
 have hsz:n≤100000:=ZbL h1
 have e:((vs.toArray.size:Nat):Int)=(n:Int):=by rw [List.size_toArray,hn]
 refine call_len_list hl.isList (by rw [e]; omega) ?_
 rw [e]
 exact hQ _ _ _ _ _ _ (Ext.refl ..) (ok.tok _) (.int ..) h
end
theorem AF {n:Nat} (h:n∈[38,60,62,13,120,10,34,9]):bJ n ≠ []:=by
 simp only [List.mem_cons,List.not_mem_nil,or_false] at h
 rcases h with rfl | rfl | rfl | rfl | rfl | rfl | rfl | rfl<;>decide
theorem SA.val_ne {σ:Sig} (w:σ.WF) (a:SA):a.val σ ≠ []:=by
 induction a using SA.casesOn with
 | c n=>simp [SA.val]
 | sgn j=>simp [SA.val]
 | spl j=>exact AF (w.sg j)
 | lst j=>simp [SA.val]
 | nam j =>
  have:=w.nm j
  simp only [List.mem_cons,List.not_mem_nil,or_false] at this
  rcases this with h | h | h<;>simp [SA.val,h]
theorem lK {σ:Sig} (w:σ.WF) {a:SA} {s:SS}:txt σ (a :: s) ≠ []:=by
 refine (?_:a.val σ++txt σ s ≠ [])
 have:=SA.val_ne w a
 induction h:a.val σ using List.casesOn with
 | nil=>exact absurd h this
 | cons x xs=>simp
section
variable {C:Cx} {X:Sc} {B:Bz} {f:Fm} {env:Env} {ρ:List Addr} {Z:Fz} {H H':HP} {s:Shared} {A:Around}
def oa (v:AV) (k:Bool->Bool):Bool:=@AV.rec (fun _=>(Bool->Bool)->Bool) (fun k=>false) (fun b k=>k b) (fun i k=>false) (fun s k=>false) (fun j k=>false) (fun v k=>false) (fun l _ k=>false) (fun k=>false) (fun _ _ _ _ k=>false) (fun _ _ k=>false) (fun _ _ _ k=>false) (fun _ _ _ k=>false) (fun a b c k=>false) (fun _ _ _ _ _ _ k=>false) (fun _ k=>false) (fun _ _ k=>false) (fun _ _ _ k=>false) (fun k=>false) (fun _ k=>false) (fun _ _ k=>false) (fun _ k=>false) (fun _ k=>false) (fun _ k=>false) v k
theorem i7 {v:AV} {k:Bool->Bool} (h:oa v k=true):∃ b,v = .bool b∧k b=true:=by
 induction v using AV.casesOn<;>first | (exact (am _ rfl h)) | exact ffE h
theorem VRel.bool_inv {σ:Sig} {b:Bool} {v:Value} (h:VRel σ ρ Z (.bool b) v):v = .bool b:=by (obtain rfl:=h.inv); rfl
def bp (p:P2) (dq1 dq2:D):DB:=fun dp f H k=>dq1 dp f H fun a H=>dq2 dp f H fun b H=>p a b H fun c H=>oa c fun c=>k c H
theorem aY {l r:Ex} {op:CmpOp} {pos:Pos} {p:P2} {dq1 dq2:D} (h1:SE C X l dq1) (h2:SE C X r dq2) (ho:cK C (fun a b=>compareOp op a b) p) (hm:behindInMarks op r=false):SB C X (.Compare l [op] [r] pos) (bp p dq1 dq2) :=
 fun dp f H k A env B ρ Z s hd hA ok Q E hQ=>wpAny_isTrue_Compare1 (hm:=hm) (h1 _ _ _ _ _ _ _ _ _ _ hd hA ok _ _ fun ρ₁ Z₁ H₁ s₁ a va e₁ ok₁ r₁ hdq1 =>
  h2 _ _ _ _ _ _ _ _ _ _ hdq1 hA ok₁ _ _ fun ρ2 Z₂ H₂ sq2 b vb e₂ ok₂ r₂ hdq2 =>
   ho _ _ _ _ _ _ _ _ _ _ _ a b va vb hdq2 hA ok₂ (r₁.ext e₂) r₂ _ _ fun ρ3 Z3 H3 s₃ c vc e₃ ok₃ r₃ hk=>by
    refine ad (i7 hk) fun b zq1 hb=>?_
    clear hk
    subst zq1
    have:=r₃.bool_inv
    clear r₃
    subst this
    exact wpAny_truthy_bool (hQ _ _ _ _ _ _ ((e₁.trans e₂).trans e₃) ok₃ rfl hb))
def oz (d:DB):DB:=fun dp f H k=>d dp f H fun b H=>k (br true false b) H
theorem lD {e:Ex} {pos:Pos} {d:DB} (h:SB C X e d):SB C X (.UnaryOp .Not e pos) (oz d) :=
 fun dp f H k A env B ρ Z s hd hA ok Q E hQ=>wpAny_isTrue_Not (h _ _ _ _ _ _ _ _ _ _ hd hA ok _ _ fun ρ₁ Z₁ H₁ s₁ b b' e₁ ok₁ r₁ hdq1=>by
  cases r₁
  induction b using Bool.casesOn<;>exact hQ _ _ _ _ _ _ e₁ ok₁ rfl hdq1)
noncomputable abbrev SBs (C:Cx) (X:Sc) (op:BoolOp) (es:List Ex) (d:DB):Prop:=ST C X RB (fun env=>allTrue op es env) d
def fx:DB:=fun _ _ H k=>k true H
def jc:DB:=fun _ _ H k=>k false H
def eR (a b:DB):DB:=fun dp f H k=>a dp f H fun c H=>br (k false H) (b dp f H k) c
def jy (a b:DB):DB:=fun dp f H k=>a dp f H fun c H=>br (b dp f H k) (k true H) c
theorem cQ:SBs C X .And [] fx:=fun dp f H k A env B ρ Z s hd hA ok Q E hQ=>wpAny_allTrue_And_nil (hQ _ _ _ _ _ _ (Ext.refl ..) ok rfl hd)
theorem eC:SBs C X .Or [] jc:=fun dp f H k A env B ρ Z s hd hA ok Q E hQ=>wpAny_allTrue_Or_nil (hQ _ _ _ _ _ _ (Ext.refl ..) ok rfl hd)
theorem cI {e:Ex} {es:List Ex} {a b:DB} (h1:SB C X e a) (h2:SBs C X .And es b):SBs C X .And (e :: es) (eR a b) :=
 fun dp f H k A env B ρ Z s hd hA ok Q E hQ=>wpAny_allTrue_And_cons (h1 _ _ _ _ _ _ _ _ _ _ hd hA ok _ _ fun ρ₁ Z₁ H₁ s₁ b b' e₁ ok₁ r₁ hdq1=>by
  cases r₁
  induction b using Bool.casesOn with
  | true=>exact h2 _ _ _ _ _ _ _ _ _ _ hdq1 hA ok₁ _ _ fun ρ2 Z₂ H₂ sq2 c c' e₂ ok₂ r₂ hdq2=>hQ _ _ _ _ _ _ (e₁.trans e₂) ok₂ r₂ hdq2
  | false=>exact hQ _ _ _ _ _ _ e₁ ok₁ rfl hdq1)
theorem eE {e:Ex} {es:List Ex} {a b:DB} (h1:SB C X e a) (h2:SBs C X .Or es b):SBs C X .Or (e :: es) (jy a b) :=
 fun dp f H k A env B ρ Z s hd hA ok Q E hQ=>wpAny_allTrue_Or_cons (h1 _ _ _ _ _ _ _ _ _ _ hd hA ok _ _ fun ρ₁ Z₁ H₁ s₁ b b' e₁ ok₁ r₁ hdq1=>by
  cases r₁
  induction b using Bool.casesOn with
  | true=>exact hQ _ _ _ _ _ _ e₁ ok₁ rfl hdq1
  | false=>exact h2 _ _ _ _ _ _ _ _ _ _ hdq1 hA ok₁ _ _ fun ρ2 Z₂ H₂ sq2 c c' e₂ ok₂ r₂ hdq2=>hQ _ _ _ _ _ _ (e₁.trans e₂) ok₂ r₂ hdq2)
theorem cV {op:BoolOp} {es:List Ex} {pos:Pos} {d:DB} (h:SBs C X op es d):SB C X (.BoolOp op es pos) d :=
 fun dp f H k A env B ρ Z s hd hA ok Q E hQ=>wpAny_isTrue_BoolOp (h _ _ _ _ _ _ _ _ _ _ hd hA ok Q E hQ)
def Bm (H:HP) (j:Nat) (k:Bool->HP->Bool):Bool:=H.getK j fun ao=>@AO.rec (fun _=>Bool) (fun n _=>aB (Nat.ble n 100000) (k (br true false (Nat.beq n 0)) H)) (fun _=>false) (fun es=>@List.rec (SS × AV) (fun _=>Bool) (k false H) (fun _ _ _=>false) es) (fun _=>false) (fun _=>false) (fun _=>false) ao
def zk (v:AV) (H:HP) (k:Bool->HP->Bool):Bool:=@AV.rec (fun _=>(HP)->(Bool->HP->Bool)->Bool) (fun H k=>(k false H)) (fun b H k=>k b H) (fun i H k=>k (br true false (ieq i 0)) H) (fun s H k=>@List.rec SA (fun _=>Bool) (k false H) (fun _ _ _=>aB (Nat.ble s.length 100000) (k true H)) s) (fun j H k=>Bm H j k) (fun v H k=>false) (fun l _ H k=>false) (fun H k=>false) (fun _ _ _ _ H k=>false) (fun _ _ H k=>false) (fun _ _ _ H k=>false) (fun _ _ _ H k=>false) (fun a b c H k=>false) (fun _ _ _ _ _ _ H k=>false) (fun _ H k=>false) (fun _ _ H k=>false) (fun _ _ _ H k=>false) (fun H k=>false) (fun _ H k=>false) (fun _ _ H k=>false) (fun _ H k=>false) (fun i H k=>k (br true false (ieq i 0)) H) (fun s H k=>@List.rec SA (fun _=>Bool) (k false H) (fun _ _ _=>aB (Nat.ble s.length 100000) (k true H)) s) v H k
theorem nE (σ:Sig) (w:σ.WF) (s:SS):(txt σ s).length≤5 * s.length:=by
 induction s with
 | nil=>exact Nat.le_refl _
 | cons a s ih =>
  have:(a.val σ).length≤5:=by
   have sp:∀ n,n∈[38,60,62,13,120,10,34,9]->(bJ n).length≤5:=by
    intro n h
    simp only [List.mem_cons,List.not_mem_nil,or_false] at h
    rcases h with rfl | rfl | rfl | rfl | rfl | rfl | rfl | rfl<;>decide
   induction a using SA.casesOn with
   | c n=>simp [SA.val]
   | sgn j=>simp [SA.val]
   | spl j=>exact sp _ (w.sg j)
   | lst j=>simp [SA.val]
   | nam j =>
    have:=w.nm j
    simp only [List.mem_cons,List.not_mem_nil,or_false] at this
    rcases this with h | h | h<;>simp [SA.val,h]
  refine (?_:(a.val σ++txt σ s).length≤_)
  rw [List.length_append,List.length_cons]
  omega
theorem bX (σ:Sig) (s:SS):(aw σ s).length=(txt σ s).length:=by simp [aw,Str.length]
theorem pM {i:Int} {t:Tok} {k:Bool->HP->Bool} {Q:Bool->Shared->Prop} {E:Value->Shared->Prop} (h:k (br true false (ieq i 0)) H=true) (ok:OK C X B f env ρ Z H s)
  (hQ:∀ s' b,OK C X B f env ρ Z H s'->k b H=true->Q b s'):wpAny (model C.prog C.w) A (truthy (.int i t)) Q E s:=by
 refine P.truthy_int (hQ _ _ ok ?_)
 have e:(i != 0)=br true false (ieq i 0):=by
  rw [ig]
  by_cases q:i=0
  ·rw [decide_eq_true q]; simp [q,br]
  ·rw [decide_eq_false q]; simp [q,br]
 rw [e]; exact h
theorem qe {x:SS} {t:Tok} {k:Bool->HP->Bool} {Q:Bool->Shared->Prop} {E:Value->Shared->Prop} (h:@List.rec SA (fun _=>Bool) (k false H) (fun _ _ _=>aB (Nat.ble x.length 100000) (k true H)) x=true) (ok:OK C X B f env ρ Z H s)
  (hQ:∀ s' b,OK C X B f env ρ Z H s'->k b H=true->Q b s'):wpAny (model C.prog C.w) A (truthy (.str (aw C.σ x) t)) Q E s:=by
 induction x using List.casesOn with
 | nil=>exact P.truthy_str (by show ¬ ((0:Int) ≥ 2 ^ 63); decide) (hQ _ false (OK.tok ok (s.toks+1+1)) h)
 | cons a x =>
  refine Za1 (af h) fun h1 h2=>?_
  have hl:(a :: x).length≤100000:=ZbL h1
  have hb:=nE C.σ C.wf (a :: x)
  have hne:(txt C.σ (a :: x)).length ≠ 0:=fun e=>lK C.wf (List.length_eq_zero_iff.mp e)
  refine P.truthy_str ?_ ?_
  ·rw [bX]; omega
  ·rw [bX]
   have:(((txt C.σ (a :: x)).length:Int) != 0)=true:=by simp only [bne_iff_ne,ne_eq]; omega
   rw [this]
   exact hQ _ true (OK.tok ok (s.toks+1+1)) h2
theorem sD {v:AV} {w:Value} {k:Bool->HP->Bool} {Q:Bool->Shared->Prop} {E:Value->Shared->Prop} {dp:Nat} (h:zk v H k=true) (hA:AOk dp A) (ok:OK C X B f env ρ Z H s) (r:VRel C.σ ρ Z v w)
  (hQ:∀ s' b,OK C X B f env ρ Z H s'->k b H=true->Q b s'):wpAny (model C.prog C.w) A (truthy w) Q E s:=by
 induction v using AV.casesOn with
 | none=>(obtain rfl:=r.inv); exact truthy_none (hQ _ _ ok h)
 | bool b=>(obtain rfl:=r.inv); exact wpAny_truthy_bool (hQ _ _ ok h)
 | int i=>((refine Ze1 r.inv fun _ zq1=>?_; subst zq1)); exact pM h ok hQ
 | tin i=>((refine ad r.inv fun _ zq1 _=>?_; subst zq1)); exact pM h ok hQ
 | str x=>((refine Ze1 r.inv fun _ zq1=>?_; subst zq1)); exact qe h ok hQ
 | lit x=>((refine ad r.inv fun _ zq1 _=>?_; subst zq1)); exact qe h ok hQ
 | ref j =>
  nomatch ad (HP.getK_true h),h
  intro ao h1 h2
  induction ao using AO.casesOn with
  | list n rx =>
   nomatch Za1 (af h2),h2
   intro h3 h4
   nomatch bS (bg ok r h1),h1
   intro a vs ep zq3 hρ hl hv' hn hn'
   clear r
   subst zq3
   have hsz:n≤100000:=ZbL h3
   refine wpAny_truthy_list hl.isList (by rw [List.size_toArray,hn]; omega) ?_
   have e:(!(vs.toArray).isEmpty)=br true false (Nat.beq n 0):=by
    rw [eA,← hn]
    induction vs using List.casesOn<;>simp [br]
   rw [e]
   exact hQ _ _ (OK.tok ok (s.toks+1+1)) h4
  | dict es =>
   induction es using List.casesOn with
   | cons _ _=>exact ffE h2
   | nil =>
    refine ad r.ref_inv fun a zq1 e=>?_
    clear r
    subst zq1
    refine ay (ok.g.obj j a e) fun ao o e1 e2 e3=>?_
    rw [h1] at e1
    injections e1
    nomatch ad e3,e3
    intro kvs h4 h5
    have hds:kvs=[]:=List.length_eq_zero_iff.mp h5.1.symm
    clear h5
    subst hds
    have h1:(a==sysModules)=false:=beq_eq_false_iff_ne.mpr (ok.g.no1 (ZbM e))
    exact wpAny_truthy_dict (knd:=strKind C.prog C.w) h1 (Heap.dictOf_iff.mpr (am o e2 h4)) (by decide) (hQ _ _ (ok.tok _) h2)
  | _=>exact ffE h2
 | _=>exact ffE h
def b8 (d:D):DB:=fun dp f H k=>d dp f H fun v H=>zk v H k
theorem bG {e:Ex} {d:D} (h:SE C X e d) (he:∀ env whole,isTrue e env whole=(do let v ← whole; standAt e.pos; holding [v] (truthy v))):SB C X e (b8 d) :=
 fun dp f H k A env B ρ Z s hd hA ok Q E hQ=>wpAny_isTrue_value (h _ _ _ _ _ _ _ _ _ _ hd hA ok _ _ fun ρ₁ Z₁ H₁ s₁ b b' e₁ ok₁ r₁ hdq1=>sD hdq1 hA ok₁ r₁ fun s' c ok' hk=>hQ _ _ _ _ _ _ e₁ ok' rfl hk) (he env _)
def kK (t:DB) (a b:D):D:=fun dp f H k=>t dp f H fun c H=>br (b dp f H k) (a dp f H k) c
theorem fe {t a b:Ex} {pos:Pos} {dt:DB} {dq1 dq2:D} (ht:SB C X t dt) (h1:SE C X a dq1) (h2:SE C X b dq2):SE C X (.IfExp t a b pos) (kK dt dq1 dq2) :=
 fun dp f H k A env B ρ Z s hd hA ok Q E hQ=>wpAny_IfExp (ht _ _ _ _ _ _ _ _ _ _ hd hA ok _ _ fun ρ₁ Z₁ H₁ s₁ c c' e₁ ok₁ r hdq1=>by
  cases r
  induction c using Bool.casesOn with
  | true=>exact h1 _ _ _ _ _ _ _ _ _ _ hdq1 hA ok₁ _ _ fun ρ2 Z₂ H₂ sq2 c c' e₂ ok₂ r₂ hdq2=>hQ _ _ _ _ _ _ (e₁.trans e₂) ok₂ r₂ hdq2
  | false=>exact h2 _ _ _ _ _ _ _ _ _ _ hdq1 hA ok₁ _ _ fun ρ2 Z₂ H₂ sq2 c c' e₂ ok₂ r₂ hdq2=>hQ _ _ _ _ _ _ (e₁.trans e₂) ok₂ r₂ hdq2)
def dn:D:=fun _ _ H k=>k (.int (.negSucc 0)) H
theorem cD {n:Nat} {p pos:Pos}:SE C X (.UnaryOp .USub (.Constant (.int 1) n p) pos) dn :=
 fun dp f H k A env B ρ Z s hd hA ok Q E hQ=>wpAny_UnaryOp (wpAny_Constant_int (P.neg_int (hQ _ _ _ _ _ _ (Ext.refl ..) (OK.tok ok (s.toks+1+1)) (.int ..) hd)))
def vF (t:DB) (body:DS) (fuel:Nat):DS:=@Nat.rec (fun _=>DS) (fun _ _ _ _ _=>false) (fun _ ih dp f H kn kr=>t dp f H fun c H=>br (kn f H) (body dp f H (fun f H=>ih dp f H kn kr) kr) c) fuel
theorem DW {e:Ex} {body:List Stmt} {pos:Pos} {t:DB} {d:DS} {fuel:Nat} (ht:SB C X e t) (hb:S C X body d):S1 C X (.While e body [] pos) (vF t d fuel):=by
 intro dp f H kn kr A env B ρ Z s hd hA ok Q E hn hr
 refine wpAny_While (codeAny_whileLoop (fun n s'=>∃ f' H' ρ' Z',vF t d n dp f' H' kn kr=true∧Ext ρ Z ρ' Z'∧OK C X B f' env ρ' Z' H' s') ?_ fuel (uz f H ρ Z hd ⟨(Ext.refl ..),ok⟩))
 intro n s₁ zr17_2
 nomatch Ze4 zr17_2,zr17_2
 intro fq1 H₁ ρ₁ Z₁ zw0
 nomatch Za2 zw0,zw0
 intro hdq1 e₁ ok₁
 induction n using Nat.casesAuxOn with
 | zero=>exact ffE hdq1
 | succ n =>
  refine ht _ _ _ _ _ _ _ _ _ _ hdq1 hA ok₁ _ _ fun ρ2 Z₂ H₂ sq2 c c' e₂ ok₂ r hdq2=>?_
  cases r
  induction c using Bool.casesOn with
  | false=>exact wpAny_execs_nil (hn _ _ _ _ _ (e₁.trans e₂) ok₂ hdq2)
  | true =>
   refine hb _ _ _ _ _ _ _ _ _ _ _ hdq2 hA ok₂ _ _ (fun ρ3 Z3 H3 s₃ fq3 e₃ ok₃ hdq3=>?_) (fun ρ3 Z3 H3 s₃ fq3 av v e₃ ok₃ r hdq3=>hr _ _ _ _ _ _ _ ((e₁.trans e₂).trans e₃) ok₃ r hdq3)
   exact (am n (Nat.lt_succ_self _) (uz fq3 H3 ρ3 Z3 hdq3 ⟨((e₁.trans e₂).trans e₃),ok₃⟩))
def mK (p:P2) (i:Nat) (d:D):DS:=fun dp f H kn _=>ak i dp f H fun a H=>d dp f H fun b H=>p a b H fun c H=>lM i c f fun f=>kn f H
theorem iS {x:Str} {pos' pos:Pos} {op:Operator} {e:Ex} {i:Nat} {p:P2} {d:D} (hk:X.sc.kind = .function) (hl:X.sc.names.lookup x=some .local) (hi:X.tab[i]?=some x) (hn:X.tab.Nodup) (h:SE C X e d)
  (ho:cK C (fun a b=>inplaceOp op a b) p):S1 C X (.AugAssign (.Name x pos') op e pos) (mK p i d):=by
 intro dp f H kn kr A env B ρ Z s hd hA ok Q E hn' hr
 refine ad (eJ hd) fun v h1 h4=>?_
 refine ad ok.f.ns fun m hm hr'=>?_
 refine ad (hr' i x _ hi h1 v rfl) fun y e1 e2=>?_
 ·refine wpAny_AugAssign_Name (wpAny_loadName_local (by rw [ok.f.sc]; exact hk) (by show env.scope.names.lookup x=_; rw [ok.f.sc]; exact hl) hm e1 ?_)
  refine h _ _ _ _ _ _ _ _ _ _ h4 hA ok _ _ fun ρ2 Z₂ H₂ sq2 b vb e₂ ok₂ r₂ hdq2=>ho _ _ _ _ _ _ _ _ _ _ _ v b y vb hdq2 hA ok₂ (e2.ext e₂) r₂ _ _ fun ρ3 Z3 H3 s₃ c vc e₃ ok₃ r₃ hdq3=>?_
  exact fj hk hl hi hn hdq3 ok₃ r₃ fun s' f' ok' hk'=>hn' _ _ _ _ _ (e₂.trans e₃) ok' hk'
theorem Dc:cK C (fun a b=>inplaceOp .Add a b) Df:=by
 intro X dp f H k A env B ρ Z s a b va vb hd hA ok ra rb Q E hQ
 nomatch ay (bZ hd),hd
 intro x y ia ib h
 nomatch Ze1 (ar ia ra),ia
 intro t zq1
 clear ra
 subst zq1
 nomatch Ze1 (ar ib rb),ib
 intro u zq1
 clear rb
 subst zq1
 rw [gj,dh,mX] at h
 exact P.iadd_int (hQ _ _ _ _ _ _ (Ext.refl ..) (ok.tok _) (.int ..) h)
theorem wH:cK C (fun a b=>inplaceOp .Sub a b) lT:=by
 intro X dp f H k A env B ρ Z s a b va vb hd hA ok ra rb Q E hQ
 nomatch ay (bZ hd),hd
 intro x y ia ib h
 nomatch Ze1 (ar ia ra),ia
 intro t zq1
 clear ra
 subst zq1
 nomatch Ze1 (ar ib rb),ib
 intro u zq1
 clear rb
 subst zq1
 rw [gj,dh,mU] at h
 exact P.isub_int (hQ _ _ _ _ _ _ (Ext.refl ..) (ok.tok _) (.int ..) h)
end
theorem cG (σ:Sig) (a b:SS):txt σ (a++b)=txt σ a++txt σ b:=by simp [txt]
theorem cP (σ:Sig) (a:SA) (b:SS):txt σ (a :: b)=a.val σ++txt σ b:=rfl
theorem eM (σ:Sig) (a b:SS):aw σ (a++b)=aw σ a++aw σ b:=by
 refine (?_:(⟨(txt σ (a++b)).toArray⟩:Str)=⟨(txt σ a).toArray++(txt σ b).toArray⟩)
 rw [cG]; simp
def D9 (a b:SS):(SS->Bool)->Bool:=@List.rec SA (fun _=>(SS->Bool)->Bool) (fun k=>k b) (fun x _ ih k=>ih fun r=>k (x :: r)) a
theorem nC (a b:SS) (k:SS->Bool):D9 a b k=k (a++b):=by
 induction a generalizing k with
 | nil=>rfl
 | cons x a ih=>exact ih fun r=>k (x :: r)
def bO (v:AV) (k:SS->Bool):Bool:=@AV.rec (fun _=>(SS->Bool)->Bool) (fun k=>false) (fun b k=>false) (fun i k=>false) (fun s k=>k s) (fun j k=>false) (fun v k=>false) (fun l _ k=>false) (fun k=>false) (fun _ _ _ _ k=>false) (fun _ _ k=>false) (fun _ _ _ k=>false) (fun _ _ _ k=>false) (fun a b c k=>false) (fun _ _ _ _ _ _ k=>false) (fun _ k=>false) (fun _ _ k=>false) (fun _ _ _ k=>false) (fun k=>false) (fun _ k=>false) (fun _ _ k=>false) (fun _ k=>false) (fun _ k=>false) (fun s k=>k s) v k
theorem aC {v:AV} {k:SS->Bool} (h:bO v k=true):∃ s,(v = .str s∨v = .lit s)∧k s=true:=by
 induction v using AV.casesOn with
 | str s=>exact (am s (.inl rfl) h)
 | lit s=>exact (am s (.inr rfl) h)
 | _=>exact ffE h
theorem aA {σ:Sig} {ρ:List Addr} {Z:Fz} {v:AV} {s:SS} {w:Value} (h:v = .str s∨v = .lit s) (r:VRel σ ρ Z v w):∃ t,w = .str (aw σ s) t:=by
 rcases h with rfl | rfl
 ·exact r.inv
 ·exact ad r.inv fun t e _=>⟨t,e⟩
def jO {α:Type} (l:List α):Nat->(Nat->Bool)->Bool:=@List.rec α (fun _=>Nat->(Nat->Bool)->Bool) (fun n k=>k n) (fun _ _ ih n k=>ih (Nat.succ n) k) l
theorem dL {α:Type} (l:List α) (n:Nat) (k:Nat->Bool):jO l n k=k (l.length+n):=by
 induction l generalizing n with
 | nil=>show k n=_; simp
 | cons x l ih =>
  refine (?_:jO l (Nat.succ n) k=_)
  rw [ih]
  congr 1
  simp only [List.length_cons]
  omega
section
variable {C:Cx} {X:Sc} {B:Bz} {f:Fm} {env:Env} {ρ:List Addr} {Z:Fz} {H H':HP} {s:Shared} {A:Around}
def tg (x:SS) (k:AV->HP->Bool) (H:HP):Bool:=jO x 0 fun n=>aB (Nat.ble n 100000) (k (.str x) H)
theorem f9 {x:SS} {k:AV->HP->Bool} (h:tg x k H=true):x.length≤100000∧k (.str x) H=true:=by
 unfold tg at h
 rw [dL] at h
 refine Za1 (af h) fun h1 h2=>?_
 exact ⟨ZbL h1,h2⟩
theorem u8 (C:Cx) {x:SS} (h:x.length≤100000):(aw C.σ x).length≤sizeLine:=by
 rw [bX,sizeLine_eq]
 have:=nE C.σ C.wf x
 omega
def DT:P2:=fun a b H k=>bO a fun x=>bO b fun y=>D9 x y fun r=>tg r k H
theorem sR {x y:Str} {t u:Tok} {Q:Value->Shared->Prop} (h1:∀ t' s',s'.heap=s.heap->(∃ tk,s.toks≤tk∧s' = { s with toks:=tk })->Q (.str (x++y) t') s') (hl:(x++y).length≤sizeLine) :
  (if x.length==0 then Made.val (.str y u) else if y.length==0 then Made.val (.str x t) else Made.str (x++y)).post Q s:=by
 have e1:x.length=0->x++y=y:=by
  intro h
  obtain ⟨⟨l⟩⟩:=x
  have:l=[]:=by simpa [Str.length] using h
  clear h1 hl h
  subst this
  refine (?_:(⟨#[]++y.cps⟩:Str)=y)
  simp
 have e2:y.length=0->x++y=x:=by
  intro h
  obtain ⟨⟨l⟩⟩:=y
  have:l=[]:=by simpa [Str.length] using h
  clear h1 hl e1 h
  subst this
  refine (?_:(⟨x.cps++#[]⟩:Str)=x)
  simp
 split
 ·rename_i h
  rw [← e1 (by simpa using h)]
  exact h1 u s rfl (am _ (Nat.le_refl _) rfl)
 ·split
  ·rename_i h
   rw [← e2 (by simpa using h)]
   exact h1 t s rfl (am _ (Nat.le_refl _) rfl)
  ·exact ⟨hl,h1 _ _ rfl (am _ (Nat.le_succ _) rfl)⟩
theorem OK.toks (ok:OK C X B f env ρ Z H s) {s':Shared} (h:∃ tk,s.toks≤tk∧s' = { s with toks:=tk }):OK C X B f env ρ Z H s':=by
 nomatch ad h,h
 intro tk h zq2
 subst zq2
 exact ok.tok tk h
theorem GA:cK C (fun a b=>binaryOp .Add a b) DT:=by
 intro X dp f H k A env B ρ Z s a b va vb hd hA ok ra rb Q E hQ
 nomatch ad (aC hd),hd
 intro x ia g1
 nomatch ad (aC g1),g1
 intro y ib g2
 rw [nC] at g2
 nomatch Za1 (f9 g2),g2
 intro h1 h2
 nomatch Ze1 (aA ia ra),ia
 intro t zq1
 clear ra
 subst zq1
 nomatch Ze1 (aA ib rb),ib
 intro u zq1
 clear rb
 subst zq1
 refine P.add_str (sR (fun t' s' _ hs=>?_) (by rw [← eM]; exact u8 C h1))
 rw [← eM]
 exact hQ _ _ _ _ _ _ (Ext.refl ..) (ok.toks hs) (.str ..) h2
theorem DO:cK C (fun a b=>inplaceOp .Add a b) DT:=by
 intro X dp f H k A env B ρ Z s a b va vb hd hA ok ra rb Q E hQ
 nomatch ad (aC hd),hd
 intro x ia g1
 nomatch ad (aC g1),g1
 intro y ib g2
 rw [nC] at g2
 nomatch Za1 (f9 g2),g2
 intro h1 h2
 nomatch Ze1 (aA ia ra),ia
 intro t zq1
 clear ra
 subst zq1
 nomatch Ze1 (aA ib rb),ib
 intro u zq1
 clear rb
 subst zq1
 refine P.iadd_str (sR (fun t' s' _ hs=>?_) (by rw [← eM]; exact u8 C h1))
 rw [← eM]
 exact hQ _ _ _ _ _ _ (Ext.refl ..) (ok.toks hs) (.str ..) h2
def lw (v:AV):Bool:=bO v fun _=>true
def dX (c:AV->Bool) (p q:P2):P2:=fun a b H k=>br (q a b H k) (p a b H k) (c a)
theorem gX {t:Value->Value->Sem Value} {c:AV->Bool} {p q:P2} (h1:cK C t p) (h2:cK C t q):cK C t (dX c p q):=by
 intro X dp f H k A env B ρ Z s a b va vb hd
 unfold dX at hd
 induction e:c a using Bool.casesOn with
 | true=>rw [e] at hd; exact h1 X dp f H k A env B ρ Z s a b va vb hd
 | false=>rw [e] at hd; exact h2 X dp f H k A env B ρ Z s a b va vb hd
def D0 (a b:SA) (same:Bool) (other:Bool):Bool :=
 @SA.rec (fun _=>Bool)
  (fun m=>@SA.rec (fun _=>Bool) (fun n=>br other same (Nat.beq m n)) (fun _=>false) (fun _=>false) (fun _=>false) (fun _=>false) b)
  (fun i=>@SA.rec (fun _=>Bool) (fun _=>false) (fun j=>br false same (Nat.beq i j)) (fun _=>false) (fun _=>false) (fun _=>false) b)
  (fun i=>@SA.rec (fun _=>Bool) (fun _=>false) (fun _=>false) (fun j=>br false same (Nat.beq i j)) (fun _=>false) (fun _=>false) b)
  (fun i=>@SA.rec (fun _=>Bool) (fun _=>false) (fun _=>false) (fun _=>false) (fun j=>br false same (Nat.beq i j)) (fun _=>false) b)
  (fun i=>@SA.rec (fun _=>Bool) (fun _=>false) (fun _=>false) (fun _=>false) (fun _=>false) (fun j=>br false same (Nat.beq i j)) b) a
theorem lU {a b:SA} {same other:Bool} (h:D0 a b same other=true):(a=b∧same=true)∨(∃ m n,a = .c m∧b = .c n∧m ≠ n∧other=true):=by
 have key:∀ {i j:Nat} {o:Bool},br o same (Nat.beq i j)=true->(i=j∧same=true)∨(i ≠ j∧o=true):=by
  intro i j o h
  induction e:Nat.beq i j using Bool.casesOn with
  | true=>rw [e] at h; exact .inl ⟨ZbE e,h⟩
  | false=>rw [e] at h; exact .inr ⟨Nat.ne_of_beq_eq_false e,h⟩
 induction a using SA.casesOn with
 | c m =>
  induction b using SA.casesOn with
  | c n =>
   rcases key h with ⟨e,h'⟩ | ⟨h1,h2⟩
   ·exact .inl ⟨by rw [e],h'⟩
   ·exact .inr (uQ m n rfl rfl h1 h2)
  | _=>exact ffE h
 | sgn i=>induction b using SA.casesOn with
  | sgn j=>rcases key h with ⟨e,h'⟩ | ⟨_,h2⟩; exact .inl ⟨by rw [e],h'⟩; exact ffE h2
  | _=>exact ffE h
 | spl i=>induction b using SA.casesOn with
  | spl j=>rcases key h with ⟨e,h'⟩ | ⟨_,h2⟩; exact .inl ⟨by rw [e],h'⟩; exact ffE h2
  | _=>exact ffE h
 | lst i=>induction b using SA.casesOn with
  | lst j=>rcases key h with ⟨e,h'⟩ | ⟨_,h2⟩; exact .inl ⟨by rw [e],h'⟩; exact ffE h2
  | _=>exact ffE h
 | nam i=>induction b using SA.casesOn with
  | nam j=>rcases key h with ⟨e,h'⟩ | ⟨_,h2⟩; exact .inl ⟨by rw [e],h'⟩; exact ffE h2
  | _=>exact ffE h
def sEq (a:SS):SS->(Bool->Bool)->Bool :=
 @List.rec SA (fun _=>SS->(Bool->Bool)->Bool) (fun b k=>@List.rec SA (fun _=>Bool) (k true) (fun _ _ _=>k false) b) (fun x _ ih b k=>@List.rec SA (fun _=>Bool) (k false) (fun y b _=>D0 x y (ih b k) (k false)) b) a
theorem fy (w:C.σ.WF):∀ (a b:SS) (k:Bool->Bool),sEq a b k=true->k (decide (txt C.σ a=txt C.σ b))=true:=by
 intro a
 induction a with
 | nil =>
  intro b k h
  induction b using List.casesOn with
  | nil=>exact h
  | cons y b =>
   rw [decide_eq_false (fun e=>lK w e.symm)]
   exact h
 | cons x a ih =>
  intro b k h
  induction b using List.casesOn with
  | nil =>
   rw [decide_eq_false (show ¬ txt C.σ (x :: a)=txt C.σ [] from fun e=>lK w e)]
   exact h
  | cons y b =>
   rcases lU h with ⟨rfl,h'⟩ | ⟨m,n,rfl,rfl,hne,h'⟩
   ·have:=ih b k h'
    rw [cP,cP]
    have e:decide (x.val C.σ++txt C.σ a=x.val C.σ++txt C.σ b)=decide (txt C.σ a=txt C.σ b):=decide_eq_decide.mpr (List.append_right_inj _)
    rw [e]; exact this
   ·rw [decide_eq_false (show ¬ txt C.σ (SA.c m :: a)=txt C.σ (SA.c n :: b) from fun e=>hne (List.cons.inj e).1)]
    exact h'
def CF:P2:=fun a b H k=>bO a fun x=>bO b fun y=>sEq x y fun c=>k (.bool c) H
theorem iW (σ:Sig) (x y:SS):((aw σ x).cps.toList==(aw σ y).cps.toList)=decide (txt σ x=txt σ y):=by
 refine (?_:((txt σ x).toArray.toList==(txt σ y).toArray.toList)=_)
 rw [Bool.eq_iff_iff]; simp
theorem qt:cK C (fun a b=>compareOp .Eq a b) CF:=by
 intro X dp f H k A env B ρ Z s a b va vb hd hA ok ra rb Q E hQ
 nomatch ad (aC hd),hd
 intro x ia g1
 nomatch ad (aC g1),g1
 intro y ib g2
 have h:=fy C.wf _ _ _ g2
 nomatch Ze1 (aA ia ra),ia
 intro t zq1
 clear ra
 subst zq1
 nomatch Ze1 (aA ib rb),ib
 intro u zq1
 clear rb
 subst zq1
 refine P.eq_str ?_
 rw [iW]
 exact hQ _ _ _ _ _ _ (Ext.refl ..) ok (.bool ..) h
def FE (rx:List AV):SS->(SS->Bool)->Bool:=@List.rec AV (fun _=>SS->(SS->Bool)->Bool) (fun acc k=>k acc) (fun x _ ih acc k=>bO x fun t=>D9 t acc fun r=>ih r k) rx
inductive Strs:List AV->List SS->Prop
 | nil:Strs [] []
 | cons {v t vs ts}:v = .str t∨v = .lit t->Strs vs ts->Strs (v :: vs) (t :: ts)
theorem Strs.snoc {vs:List AV} {ts:List SS} {v:AV} {t:SS} (h:Strs vs ts) (e:v = .str t∨v = .lit t):Strs (vs++[v]) (ts++[t]):=by
 induction h with
 | nil=>exact .cons e .nil
 | cons a _ ih=>exact .cons a ih
theorem Strs.rev {vs:List AV} {ts:List SS} (h:Strs vs ts):Strs vs.reverse ts.reverse:=by
 induction h with
 | nil=>exact .nil
 | cons a _ ih=>rw [List.reverse_cons,List.reverse_cons]; exact ih.snoc a
theorem oG {rx:List AV}:∀ {acc:SS} {k:SS->Bool},FE rx acc k=true->∃ ts:List SS,Strs rx ts∧k (ts.reverse.flatten++acc)=true:=by
 induction rx with
 | nil=>intro acc k h; exact (am ([]) .nil h)
 | cons x rx ih =>
  intro acc k h
  refine ad (aC h) fun t e g=>?_
  rw [nC] at g
  refine ad (ih g) fun ts e2 h2=>?_
  refine (am (t :: ts) (.cons e e2) (?_))
  rw [List.reverse_cons,List.flatten_append]
  simpa using h2
theorem wc {xs:List AV} {ts:List SS} (hx:Strs xs ts):∀ {vs:List Value},VRs C.σ ρ Z xs vs->∃ l:List (Str × Tok),vs=strValues l∧l.map (·.1)=ts.map (aw C.σ):=by
 induction hx with
 | nil=>intro vs h; exact (am ([]) h.nil_inv rfl)
 | cons a _ ih =>
  intro vs h
  nomatch ay h.head,h
  intro v vs' zq2 h1 h2
  subst zq2
  refine Ze1 (aA a h1) fun u zq1=>?_
  clear h1
  subst zq1
  nomatch ad (ih h2),ih
  intro l zq1 e
  clear h2
  subst zq1
  exact (am ((_,u) :: l) rfl (by simp only [List.map_cons,e]; rfl))
theorem oo (σ:Sig) (ts:List SS):Txt.join ⟨#[]⟩ (ts.map (aw σ))=aw σ ts.flatten:=by
 have e:∀ l:List Str,Str.join ⟨#[]⟩ l=l.foldr (·++·) ⟨#[]⟩:=by
  intro l
  induction l with
  | nil=>rfl
  | cons x l ih =>
   induction l using List.casesOn with
   | nil =>
    refine (?_:x=x++⟨#[]⟩)
    refine (?_:x=⟨x.cps++#[]⟩)
    simp
   | cons y l =>
    refine (?_:x++⟨#[]⟩++Str.join ⟨#[]⟩ (y :: l)=_)
    rw [ih]
    refine (?_:(⟨x.cps++#[]++_⟩:Str)=⟨x.cps++_⟩)
    simp
 refine (?_:Builtin.Str.glued _ _=_)
 rw [StrLaws.glued_eq_join,e]
 induction ts with
 | nil=>rfl
 | cons t ts ih =>
  rw [List.map_cons,List.foldr_cons,ih,List.flatten_cons,eM]
theorem qm (C:Cx) {ts:List SS} (h:ts.flatten.length≤100000):JoinOk (aw C.σ []) (ts.map (aw C.σ))=true:=by
 unfold JoinOk
 rw [StrLaws.joinTotal]
 have e:∀ ts:List SS,((ts.map (aw C.σ)).map (·.length)).sum+(ts.map (aw C.σ)).length * (aw C.σ []).length=(aw C.σ ts.flatten).length:=by
  intro ts
  induction ts with
  | nil=>rfl
  | cons t ts ih =>
   have h0:(aw C.σ []).length=0:=rfl
   rw [h0,Nat.mul_zero,Nat.add_zero] at ih ⊢
   rw [List.map_cons,List.map_cons,List.sum_cons,ih,List.flatten_cons,bX,bX,bX,cG,List.length_append]
 rw [e]
 have:=u8 C h
 simp only [Builtin.Str.tooLong,Bool.not_eq_true',decide_eq_false_iff_not]
 omega
def o8:DC:=fun args _ H k=>nI args fun a o=>bO a fun x=>@List.rec SA (fun _=>Bool) (bP H o fun _ n rx=>FE rx [] fun r=>tg r k H) (fun _ _ _=>false) x
theorem nB:SC C (.builtin "str.join") 2 o8:=by
 intro X dp f H k A env B ρ Z s args vals hc hA ok hv hlen Q E hQ
 nomatch aE (cE hc hlen),hc,hlen
 intro a b zq2 h
 subst zq2
 nomatch ay hv.two,hv
 intro va vb zq2 ra rb
 subst zq2
 nomatch ad (aC h),h
 intro x ia h
 induction x using List.casesOn with
 | cons _ _=>exact ffE h
 | nil =>
  nomatch bM (aG h),h
  intro j n rx zq3 hj h
  subst zq3
  nomatch ad (oG h),h
  intro ts est h2
  rw [List.append_nil] at h2
  nomatch Za1 (f9 h2),h2
  intro h3 h4
  nomatch Ze1 (aA ia ra),ia
  intro t zq1
  clear ra
  subst zq1
  nomatch bS (bg ok rb hj),hj
  intro a vs ep zq3 hρ hl hv' hn hn'
  clear rb
  subst zq3
  nomatch ad (wc est.rev hv'),est
  intro l zq1 e
  clear hv' hn
  subst zq1
  refine wpAny_with_toks (n:=s.toks) (Nat.le_refl _) (SC.join (texts:=ts.reverse.map (aw C.σ)) hl.isList e ?_ fun t' k' ht=>?_)
  ·exact qm C h3
  ·have:aw C.σ []=⟨#[]⟩:=rfl
   rw [this,oo]
   exact hQ _ _ _ _ _ _ (Ext.refl ..) (ok.tok _ ht) (.str ..) h4
end
section
variable {C:Cx} {X:Sc} {B:Bz} {f:Fm} {env:Env} {ρ:List Addr} {Z:Fz} {H H':HP} {s:Shared} {A:Around}
theorem OK.fresh (ok:OK C X B f env ρ Z H s) {a:Addr} (h:s.heap.objs.size≤a):a ∉ ρ∧(∀ o,¬ B a o)∧(∀ o,¬ Z.ob a o)∧a ≠ env.locals :=
 ⟨fun z=>absurd (ok.g.lt z) (Nat.not_lt.mpr h),fun o e=>absurd (Heap.lt_size (ok.g.b _ _ e)) (Nat.not_lt.mpr h),fun o e=>absurd (Heap.lt_size (ok.g.z _ _ e)) (Nat.not_lt.mpr h),fun e=>absurd ok.g.ls (Nat.not_lt.mpr (e ▸ h))⟩
theorem OK.adopt (ok:OK C X B f env ρ Z H s) {a:Addr} {o:Obj} {ao:AO} (ha:s.heap.get? a=some o) (hf:a ∉ ρ∧(∀ o,¬ B a o)∧(∀ o,¬ Z.ob a o)∧a ≠ env.locals) (h1:a ≠ 1) (hn:H'.n=H.n+1) (hg:∀ i,H'.get i=if i=H.n then some ao else H.get i)
  (ho:ORel C (ρ++[a]) Z ao o):OK C X B f env (ρ++[a]) Z H' s:=by
 nomatch Za3 hf,hf
 intro f1 f2 f3 f4
 have hρ:ρ <+: ρ++[a]:=List.prefix_append ..
 have hZ:Z.le Z:=Fz.le.rfl _
 refine ⟨⟨ok.g.base,ok.g.b,ok.g.z,by simp [ok.g.len,hn],fun j b e=>?_,?_,?_,?_,?_,ok.g.lb,ok.g.lz,ok.g.zb,ok.g.ls,ok.g.same,ok.g.tk,ok.g.tkb,ok.g.tkf,fun k P e=>bz hρ (ok.g.tabs k P e)⟩,⟨ok.f.sc,ok.f.gl,ok.f.bl,ok.f.cd,ok.f.qual,?_,?_⟩⟩
 ·by_cases hj:j<ρ.length
  ·rw [List.getElem?_append_left hj] at e
   refine ay (ok.g.obj j b e) fun ao' o' e1 e2 e3=>?_
   exact (aK ao' o' (by rw [hg,if_neg (by rw [← ok.g.len]; omega)]; exact e1) e2 (e3.mono hρ hZ))
  ·rw [List.getElem?_append_right (by omega)] at e
   have hj0:j-ρ.length=0:=by
    have:=(ZbS e).1; simp at this; omega
   rw [hj0] at e
   have ea:a=b:=by simpa using e
   clear e
   subst ea
   exact (aK ao o (by rw [hg,if_pos (by rw [← ok.g.len]; omega)]) ha ho)
 ·exact te ok.g.nd1 f1 h1
 ·intro b hb o' h
  rcases List.mem_append.mp hb with hb | hb
  ·exact ok.g.ab b hb o' h
  ·rw [List.mem_singleton.mp hb] at h; exact f2 _ h
 ·intro b hb o' h
  rcases List.mem_append.mp hb with hb | hb
  ·exact ok.g.az b hb o' h
  ·rw [List.mem_singleton.mp hb] at h; exact f3 _ h
 ·intro hb
  rcases List.mem_append.mp hb with hb | hb
  ·exact ok.g.lρ hb
  ·exact f4 (List.mem_singleton.mp hb).symm
 ·refine ad ok.f.ns fun m h1 h2=>?_
  exact (am m h1 (fun k x v p q=>(h2 k x v p q).mono hρ hZ))
 ·intro k x j p q
  refine ad (ok.f.ce k x j p q) fun c h1 h2=>?_
  exact (am c h1 (bz hρ h2))
theorem OK.adoptZ (ok:OK C X B f env ρ Z H s) {a:Addr} {o:Obj} (ha:s.heap.get? a=some o) (hf:a ∉ ρ∧(∀ o,¬ B a o)∧(∀ o,¬ Z.ob a o)∧a ≠ env.locals):OK C X B f env ρ (Z.add a o) H s:=by
 nomatch Za3 hf,hf
 intro f1 f2 f3 f4
 have hρ:ρ <+: ρ:=List.prefix_refl _
 have hZ:Z.le (Z.add a o):=Fz.le_add
 refine ⟨⟨ok.g.base,ok.g.b,?_,ok.g.len,fun j b e=>?_,ok.g.nd1,ok.g.ab,?_,ok.g.lρ,ok.g.lb,?_,?_,ok.g.ls,ok.g.same,ok.g.tk,ok.g.tkb,ok.g.tkf,ok.g.tabs⟩,⟨ok.f.sc,ok.f.gl,ok.f.bl,ok.f.cd,ok.f.qual,?_,ok.f.ce⟩⟩
 ·rintro b o' (e | ⟨rfl,rfl⟩)
  ·exact ok.g.z b o' e
  ·exact ha
 ·refine ay (ok.g.obj j b e) fun ao' o' e1 e2 e3=>?_
  exact (aK ao' o' e1 e2 (e3.mono hρ hZ))
 ·rintro b hb o' (e | ⟨rfl,rfl⟩)
  ·exact ok.g.az b hb o' e
  ·exact f1 hb
 ·rintro o' (e | ⟨e,rfl⟩)
  ·exact ok.g.lz o' e
  ·exact f4 e.symm
 ·rintro b o' o'' (e | ⟨rfl,rfl⟩) hb
  ·exact ok.g.zb b o' o'' e hb
  ·exact f2 _ hb
 ·refine ad ok.f.ns fun m h1 h2=>?_
  exact (am m h1 (fun k x v p q=>(h2 k x v p q).mono hρ hZ))
theorem OK.adoptL (ok:OK C X B f env ρ Z H s) {a:Addr} {vs:List Value} {ep n:Nat} {rx:List AV} (ha:IsL s.heap a vs.toArray ep) (hf:a ∉ ρ∧(∀ o,¬ B a o)∧(∀ o,¬ Z.ob a o)∧a ≠ env.locals) (h1:a ≠ 1) (hn:H'.n=H.n+1) (hg:∀ i,H'.get i=if i=H.n then some (.list n rx) else H.get i)
  (r:VRs C.σ ρ Z rx.reverse vs) (hl:rx.length=n):OK C X B f env (ρ++[a]) Z H' s∧VRel C.σ (ρ++[a]) Z (.ref H.n) (.ref a) :=
 ⟨ok.adopt ha hf h1 hn hg ⟨hl,vs,ep,rfl,r.mono (List.prefix_append ..) (Fz.le.rfl _)⟩,.ref (by rw [List.getElem?_append_right (by rw [ok.g.len]; omega),ok.g.len]; simp)⟩
theorem lj {prog:Program} {w:World} {A:Around} {R:Result->Shared->Prop} (hh:A.handled=none) {I S:Addr} (hSI:S ≠ I) (res:Value) (a c:Int) (n:Nat) (hn:n≤2 ^ 24) (t₁:Nat) :
  ∀ (k i:Nat) (s:Shared) (acc:Array Value) (e:Nat),n-i=k->i≤n->s.toks=t₁+i->IsRangeIter s.heap I (a+i * c) ((n:Int)-i) c->IsL s.heap S acc e->acc.size=i->(∀ (j:Nat) v,acc[j]?=some v->v = .int (a+j * c) (t₁+j)) ->
  (∀ h' acc' e',(∀ b o,b ≠ S->b ≠ I->s.heap.get? b=some o->h'.get? b=some o)->IsL h' S acc' e'->acc'.size=n->(∀ (j:Nat) v,acc'[j]?=some v->v = .int (a+j * c) (t₁+j))->R (.ok (.ret res)) { s with heap:=h',toks:=t₁+n }) ->
  codeAny (model prog w) A (.builtin "list.extend.loop" ⟨[.ref S,.ref I,res],[]⟩) R s:=by
 intro k
 induction k with
 | zero =>
  intro i s acc e hk hi ht hit hS hsz hacc hR
  have hin:i=n:=by clear hsz ht hn hSI; omega
  clear hn hk hi
  subst hin
  refine codeAny_builtin F.entry_extend_loop ?_
  rw [Around.under_plainId F.plain_extend_loop _]
  refine ZB (wpAny_pyNext_range_end (A:=A.in1) hh hit (by omega) fun h' hx=>?_)
  refine ZP ?_
  have:=hR h' acc e (fun b o _ hb q=>hx b o hb q) (hx S _ hSI hS) hsz hacc
  rw [← ht] at this
  exact this
 | succ k ih =>
  intro i s acc e hk hi ht hit hS hsz hacc hR
  refine codeAny_builtin F.entry_extend_loop ?_
  rw [Around.under_plainId F.plain_extend_loop _]
  refine ZB (wpAny_pyNext_range_item hit (by clear hsz ht hi hn hSI; omega) fun h' hit' hs=>?_)
  have hS':IsL h' S acc e:=(hs.2 S hSI).trans hS
  refine ZB (wpAny_updateSeq hS' rfl (ZP ⟨plainId_quiet F.plain_extend_loop _,?_⟩) (by rw [hsz,sizeLine_eq]; omega) (by show (acc.push _).size≤sizeLine+1; rw [Array.size_push,hsz,sizeLine_eq]; omega))
  refine ih (i+1) _ (acc.push (.int (a+i * c) s.toks)) _ (by clear hsz ht hi hn hSI; omega) (by clear hsz ht hi hn hSI; omega) (by show s.toks+1=_; omega) ?_ (Heap.get?_update_self _ hS' rfl) (by rw [Array.size_push,hsz]) (fun j v hj=>?_) fun h'' acc' e' q1 q2 q3 q4=>?_
  ·have e1:a+((i+1:Nat):Int) * c=a+i * c+c:=by push_cast; rw [Int.add_mul,Int.one_mul,Int.add_assoc]
   have e2:(n:Int)-((i+1:Nat):Int)=n-i-1:=by push_cast; omega
   rw [e1,e2]
   exact (Heap.get?_update_other _ _ hSI).trans hit'
  ·rw [Array.getElem?_push] at hj
   split at hj
   ·rename_i q
    injections hj
    rw [q,hsz,ht]
   ·exact hacc j v hj
  ·refine hR h'' acc' e' (fun b o b1 b2 q=>q1 b o b1 b2 ?_) q2 q3 q4
   exact (Heap.get?_update_other _ _ (Ne.symm b1)).trans ((hs.2 b b2).trans q)
theorem og {prog:Program} {w:World} {A:Around} {E:Value->Shared->Prop} {s:Shared} {Q:Value->Shared->Prop} {r:Addr} {a b c:Int} {t u v:Tok} {n:Nat} (hh:A.handled=none) (hr:IsRange s.heap r a b c t u v) (hsmall:Builtin.Range.small a b c=true)
  (hn:Builtin.Range.rangeSize a b c=n) (hlen:n≤2 ^ 24)
  (hQ:∀ h' t₁ acc' c',s.toks≤t₁->(∀ b o,s.heap.get? b=some o->h'.get? b=some o)->IsL h' s.heap.objs.size acc' c'->acc'.size=n->(∀ (j:Nat) v,acc'[j]?=some v->v = .int (a+j * c) (t₁+j))->Q (.ref s.heap.objs.size) { s with heap:=h',toks:=t₁+n }) :
  wpAny (model prog w) A (call (.type "list") [.ref r]) Q E s:=by
 refine callType_codes (Q₁:=fun obj s₁=>obj = .ref s.heap.objs.size∧s₁ = { s with heap:=s.heap.push { cls:=.type "list",data:=.seq #[] } }) F.called_list (F.typeCall_list_1 _) F.entry_list_init (code_list_new _ ⟨rfl,rfl⟩) fun obj s₁ h₁=>?_
 nomatch Za1 h₁,h₁
 intro zq0 zq1
 subst zq0
 subst zq1
 have hS:IsL (s.heap.push { cls:=.type "list",data:=.seq #[] }) s.heap.objs.size #[] 0:=Heap.get?_push_size _ rfl
 have hr1:=Heap.get?_push_of_some { cls:=.type "list",data:=.seq #[] } hr
 have hSr:s.heap.objs.size ≠ r:=Nat.ne_of_gt (Heap.lt_size hr)
 refine ⟨⟨_,hS,rfl⟩,F.args_list_init_2 _ _,?_⟩
 show wpAny _ _ (do let old ← Builtin.List.listItems (.ref s.heap.objs.size); Builtin.List.listUpdate (.ref s.heap.objs.size) (fun _=>#[]); letGo old.toList.reverse; Builtin.List.listExtendWith (.ref s.heap.objs.size) (.ref r) .none) _ _ _
 refine ZB ?_
 unfold Builtin.List.listItems
 refine ZB (wpAny_seqItems hS rfl (ZP ?_))
 refine ZB (m:=Builtin.List.listUpdate _ _) (wpAny_updateSeq hS rfl ?_)
 have hSq2:=hS.update (fun _=>(#[]:Array Value))
 have oth:∀ b o,b ≠ s.heap.objs.size->s.heap.get? b=some o->((s.heap.push { cls:=.type "list",data:=.seq #[] }).update s.heap.objs.size (Obj.mapSeq (fun _=>(#[]:Array Value)))).get? b=some o :=
  fun b o hb e=>(Heap.get?_update_other _ _ (Ne.symm hb)).trans (Heap.get?_push_of_some _ e)
 refine ZB (wpAny_letGo ?_)
 have hr2:=oth r _ (Ne.symm hSr) hr
 generalize hg:(s.heap.push { cls:=.type "list",data:=.seq #[] }).update s.heap.objs.size (Obj.mapSeq (fun _=>(#[]:Array Value)))=g at hSq2 oth hr2
 have zh8:∃ eg,IsL g s.heap.objs.size #[] eg:=⟨_,hSq2⟩
 refine Ze1 zh8 fun eg hSq2=>?_
 unfold Builtin.List.listExtendWith
 refine ZB (wpAny_typeOf (T:="range") ⟨_,hr2,rfl⟩ ?_)
 have h1:Builtin.List.listSameRef (.ref s.heap.objs.size) (.ref r)=false:=by simp [Builtin.List.listSameRef,hSr]
 have h2:(Value.type "range" == Value.type "list")=false:=by decide
 have h3:(Value.type "range" == Value.type "tuple")=false:=by decide
 simp only [h1,h2,h3,Bool.or_false,Bool.false_eq_true,if_false]
 refine ZB (wpAny_pyIter_range hr2 hsmall ?_)
 refine ZB (wpAny_holding (wpAny_hint_range (n:=n) (Heap.get?_push_of_some _ hr2) hn hlen ?_))
 have hSI:s.heap.objs.size ≠ g.objs.size:=Nat.ne_of_lt (Heap.lt_size hSq2)
 have fin:∀ (h:Heap) (e:Nat),IsRangeIter h g.objs.size a n c->(∀ b o,b ≠ s.heap.objs.size->s.heap.get? b=some o->h.get? b=some o)->IsL h s.heap.objs.size #[] e ->
   codeAny (model prog w) A.in1 (.builtin "list.extend.loop" ⟨[.ref s.heap.objs.size,.ref g.objs.size,.none],[]⟩) (wants (fun r sq2=>r = .none∧Q (.ref s.heap.objs.size) sq2) E) { s with heap:=h,toks:=s.toks+1+1 }:=by
  intro h e hit hk hSl
  refine lj (A:=A.in1) hh hSI .none a c n hlen (s.toks+1+1) n 0 _ #[] e (Nat.sub_zero _) (Nat.zero_le _) rfl (by simpa using hit) hSl rfl (fun j v hj=>by simp at hj) fun h' acc' e' q1 q2 q3 q4=>?_
  exact ⟨rfl,hQ h' (s.toks+1+1) acc' e' (Nat.le_add_right _ 2) (fun b o q=>q1 b o (Nat.ne_of_lt (Heap.lt_size q)) (Nat.ne_of_lt (Nat.lt_trans (Heap.lt_size q) (Heap.lt_size hSq2))) (hk b o (Nat.ne_of_lt (Heap.lt_size q)) q)) q2 q3 q4⟩
 have hit1:IsRangeIter (g.push { cls:=.type "range_iterator",data:=.fields #[rawInt a,rawInt (Builtin.Range.rangeSize a b c),rawInt c] }) g.objs.size a n c:=by
  rw [hn]; exact Heap.get?_push_size _ rfl
 have hS3:=Heap.get?_push_of_some { cls:=.type "range_iterator",data:=.fields #[rawInt a,rawInt (Builtin.Range.rangeSize a b c),rawInt c] } hSq2
 refine wpAny_ite_split (fun _=>?_) (fun _=>ZP ⟨plainId_quiet F.plain_extend_loop _,fin _ eg hit1 (fun b o hb e=>Heap.get?_push_of_some _ (oth b o hb e)) hS3⟩)
 refine ZB (wpAny_rule ?_)
 refine ZB ?_
 refine (?_:wpAny _ _ (updateSeq s.heap.objs.size (·.push .none) >>= fun _=>updateSeq s.heap.objs.size (·.pop)) _ _ _)
 refine ZB (wpAny_updateSeq hS3 rfl ?_)
 have hSq4:=Heap.get?_update_self (Obj.mapSeq (·.push Value.none)) hS3 rfl
 refine wpAny_updateSeq (hz:=by seq_fits) hSq4 rfl ?_
 have hS5:=Heap.get?_update_self (Obj.mapSeq (·.pop)) hSq4 rfl
 refine ZP ⟨plainId_quiet F.plain_extend_loop _,fin _ _ ?_ (fun b o hb e=>?_) hS5⟩
 ·exact (Heap.get?_update_other _ _ hSI).trans ((Heap.get?_update_other _ _ hSI).trans hit1)
 ·exact (Heap.get?_update_other _ _ (Ne.symm hb)).trans ((Heap.get?_update_other _ _ (Ne.symm hb)).trans (Heap.get?_push_of_some _ (oth b o hb e)))
noncomputable def Fz.tickN (Z:Fz) (t₁ n:Nat) (g:Nat->Int):Fz:=⟨Z.ob,fun u w=>Z.tk u w∨∃ i,i<n∧u=t₁+i∧w = .int (g i) (t₁+i)⟩
theorem Fz.le_tickN {Z:Fz} {t₁ n:Nat} {g:Nat->Int}:Z.le (Z.tickN t₁ n g):=⟨fun _ _ e=>e,fun _ _ e=>.inl e⟩
theorem OK.tickN (h:OK C X B f env ρ Z H s) {t₁ n:Nat} {g:Nat->Int} (ht:s.toks≤t₁):OK C X B f env ρ (Z.tickN t₁ n g) H { s with toks:=t₁+n }:=by
 have hρ:ρ <+: ρ:=List.prefix_refl _
 have hZ:Z.le (Z.tickN t₁ n g):=Fz.le_tickN
 have h':=h.tok (t₁+n) (Nat.le_trans ht (Nat.le_add_right _ _))
 refine ⟨⟨h'.g.base,h'.g.b,h'.g.z,h'.g.len,fun j a e=>?_,h'.g.nd1,h'.g.ab,h'.g.az,h'.g.lρ,h'.g.lb,h'.g.lz,h'.g.zb,h'.g.ls,h'.g.same,h'.g.tk,?_,?_,h'.g.tabs⟩,⟨h.f.sc,h.f.gl,h.f.bl,h.f.cd,h.f.qual,?_,h.f.ce⟩⟩
 ·refine ay (h.g.obj j a e) fun ao' o' e1 e2 e3=>?_
  exact (aK ao' o' e1 e2 (e3.mono hρ hZ))
 ·rintro t w (e | ⟨i,hi,rfl,rfl⟩)
  ·exact h'.g.tkb t w e
  ·exact ⟨fun q=>Nat.ne_of_gt (Nat.lt_of_lt_of_le (h.g.tk q) (Nat.le_trans ht (Nat.le_add_right _ _))),Nat.add_lt_add_left hi _⟩
 ·rintro t u w (e | ⟨i,hi,e1,e2⟩) (e' | ⟨j,hj,e3,e4⟩)
  ·exact h.g.tkf t u w e e'
  ·exact absurd (Nat.lt_of_lt_of_le (h.g.tkb _ _ e).2 (Nat.le_trans ht (Nat.le_add_right t₁ j))) (e3 ▸ Nat.lt_irrefl _)
  ·exact absurd (Nat.lt_of_lt_of_le (h.g.tkb _ _ e').2 (Nat.le_trans ht (Nat.le_add_right t₁ i))) (e1 ▸ Nat.lt_irrefl _)
  ·have:i=j:=Nat.add_left_cancel (e1.symm.trans e3)
   clear hj e3
   subst this
   rw [e2,e4]
 ·refine ad h.f.ns fun m h1 h2=>?_
  exact (am m h1 (fun k x v a b=>(h2 k x v a b).mono hρ hZ))
def GR (c:Int) (n:Nat):Int->List AV->(List AV->Bool)->Bool :=
 @Nat.rec (fun _=>Int->List AV->(List AV->Bool)->Bool) (fun _ acc k=>k acc) (fun _ ih a acc k=>lh (wP a c) fun a'=>ih a' (.tin a :: acc) k) n
noncomputable def upL (c:Int):Nat->Int->List AV
 | 0,_=>[]
 | n+1,a=>.tin a :: upL c n (a+c)
theorem EA (c:Int) (n:Nat):∀ (a:Int) (acc:List AV) (k:List AV->Bool),GR c n a acc k=k ((upL c n a).reverse++acc):=by
 induction n with
 | zero=>intro a acc k; rfl
 | succ n ih =>
  intro a acc k
  refine (?_:lh (wP a c) (fun a'=>GR c n a' (.tin a :: acc) k)=_)
  rw [dh,ih,mX]
  simp [upL]
theorem rI (c:Int) (n:Nat):∀ a,(upL c n a).length=n:=by
 induction n with
 | zero=>intro a; rfl
 | succ n ih=>intro a; simp [upL,ih]
theorem C2 (c:Int) (n:Nat):∀ (a:Int) (i:Nat) x,(upL c n a)[i]?=some x->x = .tin (a+i * c):=by
 induction n with
 | zero=>intro a i x h; simp [upL] at h
 | succ n ih =>
  intro a i x h
  induction i using Nat.casesAuxOn with
  | zero=>simp [upL] at h; subst h; simp
  | succ i =>
   simp only [upL,List.getElem?_cons_succ] at h
   rw [ih _ _ _ h]
   congr 1
   rw [Int.add_assoc]; congr 1
   push_cast; rw [Int.add_mul,Int.one_mul,Int.add_comm]
def AN:DC:=fun args _ H k=>gY args fun a=>mkR a H fun i H=>@RI.rec (fun _=>Bool) (fun x n c=>aB (Nat.ble n 100000) (GR c n x [] fun rx=>H.push (.list n rx) fun j H=>k (.ref j) H)) i
theorem zE:SC C (.type "list") 1 AN:=by
 intro X dp f H k A env B ρ Z s args vals hc hA ok hv hlen Q E hQ
 nomatch ad (bD hc hlen),hc
 intro a zq1 h
 subst zq1
 nomatch ad hv.one,hv
 intro va zq1 ra
 subst zq1
 nomatch eH (oK h),h
 intro a b c zq3 h
 subst zq3
 nomatch Za1 (af h),h
 intro h1 h
 nomatch Za1 (af h),h
 intro h2 h
 nomatch Za1 (af h),h
 intro h3 h
 nomatch ad (al h),h
 intro n h4 h5
 rw [aP] at h5
 nomatch Za1 (tM (a:=a) (b:=b) h1),h1
 intro e1 e2
 rw [e1] at h4
 nomatch Za1 (af (h5:aB (Nat.ble n 100000) _=true)),h5
 intro h6 h7
 rw [EA,List.append_nil] at h7
 nomatch aU (HP.push_spec h7),h7
 intro H' h8 h9 h10
 refine Ze4 ra.inv fun _ _ _ _ zw0=>?_
 nomatch Za1 zw0,zw0
 intro zq4 hz
 clear ra
 subst zq4
 have hsz:=aQ h4
 have hn:n≤100000:=ZbL h6
 refine wpAny_with_toks (n:=s.toks) (Nat.le_refl _) (og hA.hd (ok.g.z _ _ hz) (mC e2 h2 h3) hsz (by omega) fun h' t₁ acc' c' q1 hk hob hsz' hit ht=>?_)
 have ok1:=ok.grown (t:=s.toks) hk (Nat.le_refl _)
 have ok2:=ok1.tickN (t₁:=t₁) (n:=n) (g:=fun i=>a+i * c) q1
 have hr:VRs C.σ ρ (Z.tickN t₁ n fun i=>a+i * c) (upL c n a) acc'.toList:=⟨by rw [rI]; simp [hsz'],fun i x v q1 q2=>by
  rw [C2 _ _ _ _ _ q1]
  have:=hit i v (by simpa using q2)
  clear q2
  subst this
  refine .tin (.inr (bA i (?_) rfl rfl))
  have:=(ZbS q1).1
  rwa [rI] at this⟩
 refine Za1 (ok2.adoptL (vs:=acc'.toList) (ep:=c') (n:=n) (rx:=(upL c n a).reverse) hob (ok.fresh (Nat.le_refl _)) (ok.g.fresh1 (Nat.le_refl _)) h9 h10 (by rw [List.reverse_reverse]; exact hr) (by rw [List.length_reverse,rI])) fun o1 o2=>?_
 exact hQ _ _ _ _ _ _ ⟨List.prefix_append ..,Fz.le_tickN⟩ o1 o2 h8
def AJ:DC:=fun args _ H k=>gY args fun a=>bP H a fun _ n rx=>aB (Nat.ble n 100000) (H.push (.list n rx) fun j H=>k (.ref j) H)
theorem AP:SC C (.type "list") 1 AJ:=by
 intro X dp f H k A env B ρ Z s args vals hc hA ok hv hlen Q E hQ
 nomatch ad (bD hc hlen),hc
 intro a zq1 h
 subst zq1
 nomatch ad hv.one,hv
 intro va zq1 ra
 subst zq1
 nomatch bM (aG h),h
 intro j n rx zq3 hj h
 subst zq3
 nomatch Za1 (af h),h
 intro h1 h
 nomatch aU (HP.push_spec h),h
 intro H' h2 h3 h4
 nomatch bS (bg ok ra hj),hj
 intro a vs ep zq3 hρ hl hv' hn hn'
 clear ra
 subst zq3
 have hsz:n≤100000:=ZbL h1
 refine call_list_seq a (T:="list") (.inl rfl) hl rfl rfl (fun h' c' hk hob=>?_) (by rw [List.size_toArray,hn,sizeLine_eq]; clear hn' hn h3 hlen; omega)
 have ok1:=ok.grown (t:=s.toks) hk (Nat.le_refl _)
 refine Za1 (ok1.adoptL (vs:=vs) (ep:=c') (n:=n) (rx:=rx) hob (ok.fresh (Nat.le_refl _)) (ok.g.fresh1 (Nat.le_refl _)) h3 h4 hv' hn') fun o1 o2=>?_
 exact hQ _ _ _ _ _ _ Ext.snoc o1 o2 h2
def rP (c:AV->Bool) (p q:DC):DC:=fun args dp H k=>@List.rec AV (fun _=>Bool) false (fun a _ _=>br (q args dp H k) (p args dp H k) (c a)) args
theorem qh {fv:Value} {n:Nat} {c:AV->Bool} {p q:DC} (h1:SC C fv n p) (h2:SC C fv n q):SC C fv n (rP c p q):=by
 intro X dp f H k A env B ρ Z s args vals hc
 induction args using List.casesOn with
 | nil=>exact ffE hc
 | cons a r =>
  change br (q (a :: r) dp H k) (p (a :: r) dp H k) (c a)=true at hc
  induction e:c a using Bool.casesOn with
  | true=>rw [e] at hc; exact h1 X dp f H k A env B ρ Z s (a :: r) vals hc
  | false=>rw [e] at hc; exact h2 X dp f H k A env B ρ Z s (a :: r) vals hc
def Gy (v:AV):Bool:=AG v fun _ _ _=>true
def vK:DC:=rP Gy AN AJ
theorem rT:SC C (.type "list") 1 vK:=qh zE AP
def wm (rx:List AV):List Int->(List Int->Bool)->Bool:=@List.rec AV (fun _=>List Int->(List Int->Bool)->Bool) (fun acc k=>k acc) (fun x _ ih acc k=>bk (bq x) fun i=>ih (i :: acc) k) rx
inductive Ints:List AV->List Int->Prop
 | nil:Ints [] []
 | cons {v i vs is}:bq v=some i->Ints vs is->Ints (v :: vs) (i :: is)
theorem Ints.snoc {vs:List AV} {is:List Int} {v:AV} {i:Int} (h:Ints vs is) (e:bq v=some i):Ints (vs++[v]) (is++[i]):=by
 induction h with
 | nil=>exact .cons e .nil
 | cons a _ ih=>exact .cons a ih
theorem ik {rx:List AV}:∀ {acc:List Int} {k:List Int->Bool},wm rx acc k=true->∃ ns:List Int,Ints rx.reverse ns∧k (ns++acc)=true:=by
 induction rx with
 | nil=>intro acc k h; exact (am ([]) .nil h)
 | cons x rx ih =>
  intro acc k h
  refine ad (al h) fun i h1 h2=>?_
  refine ad (ih h2) fun ns e h3=>?_
  exact (am (ns++[i]) (by rw [List.reverse_cons]; exact e.snoc h1) (by simpa using h3))
theorem mS {xs:List AV} {ns:List Int} (e:Ints xs ns):∀ {vs:List Value},VRs C.σ ρ Z xs vs->IntsAre vs ns∧∃ xs:Array (Int × Tok),vs.toArray=intItems xs∧xs.toList.map (·.1)=ns:=by
 induction e with
 | nil=>intro vs h; rw [h.nil_inv]; exact ⟨.nil,#[],by simp [intItems],rfl⟩
 | cons a _ ih =>
  intro vs h
  nomatch ay h.head,h
  intro v vs' zq2 h1 h2
  subst zq2
  nomatch Ze1 (ar a h1),a
  intro t zq1
  clear h1
  subst zq1
  refine Za1 (ih h2) fun e1 zw0=>?_
  refine ad zw0 fun xs e2 e3=>?_
  refine ⟨.cons _ t e1,#[(_,t)]++xs,?_,by simp [e3]; rfl⟩
  unfold intItems at e2 ⊢
  rw [Array.map_append,← e2]
  simp
theorem VRs.ofInts {vs:List Value} {ns:List Int} (h:IntsAre vs ns):VRs C.σ ρ Z (ns.map AV.int) vs:=by
 induction h with
 | nil=>exact .nil
 | cons n t _ ih=>exact .cons (.int ..) ih
def lX (bt:Int->Int->Bool) (ns:List Int):Int->(Int->Bool)->Bool:=@List.rec Int (fun _=>Int->(Int->Bool)->Bool) (fun m k=>k m) (fun x _ ih m k=>br (ih m k) (ih x k) (bt x m)) ns
theorem sQ (bt:Int->Int->Bool) (ns:List Int):∀ (m:Int) (k:Int->Bool),lX bt ns m k=k (ns.foldl (fun m x=>if bt x m then x else m) m):=by
 induction ns with
 | nil=>intro m k; rfl
 | cons x ns ih =>
  intro m k
  refine (?_:br (lX bt ns m k) (lX bt ns x k) (bt x m)=_)
  induction e:bt x m using Bool.casesOn with
  | true=>show lX bt ns x k=_; rw [ih]; simp [e]
  | false=>show lX bt ns m k=_; rw [ih]; simp [e]
theorem Do (bt:Int->Int->Bool) (xs:Array (Int × Tok)):∀ k,k<xs.size->numAt xs (argBest (fun i j=>bt (numAt xs i) (numAt xs j)) k)=((xs.toList.map (·.1)).take (k+1)).tail.foldl (fun m x=>if bt x m then x else m) (numAt xs 0):=by
 have hat:∀ i,i<xs.size->(xs.toList.map (·.1))[i]?=some (numAt xs i):=by
  intro i hi
  simp [numAt,hi]
 intro k
 induction k with
 | zero =>
  intro hk
  have:((xs.toList.map (·.1)).take 1).tail=[]:=by
   induction xs.toList.map (·.1) using List.casesOn<;>rfl
  rw [this]; rfl
 | succ k ih =>
  intro hk
  have h1:=ih (by omega)
  have e:((xs.toList.map (·.1)).take (k+1+1)).tail=((xs.toList.map (·.1)).take (k+1)).tail++[numAt xs (k+1)]:=by
   rw [List.take_add_one,hat _ hk]
   induction h:(xs.toList.map (·.1)).take (k+1) using List.casesOn with
   | nil =>
    have:=congrArg List.length h
    rw [List.length_take,List.length_map,Array.length_toList] at this
    simp only [List.length_nil] at this
    omega
   | cons y r=>rfl
  rw [e,List.foldl_append,← h1]
  refine (?_:numAt xs (if bt (numAt xs (k+1)) (numAt xs (argBest _ k))=true then k+1 else argBest _ k)=if bt (numAt xs (k+1)) (numAt xs (argBest _ k))=true then _ else _)
  split<;>rfl
def wD (bt:Int->Int->Bool):DC:=fun args _ H k=>gY args fun a=>bP H a fun _ n rx=>wm rx [] fun ns=>@List.rec Int (fun _=>Bool) false (fun x r _=>lX bt r x fun m=>gj m k H) ns
theorem pZ {xs:Array (Int × Tok)} {bt:Int->Int->Bool} {x:Int} {r:List Int} (e:xs.toList.map (·.1)=x :: r) {v:Value} (h:(intItems xs)[argBest (fun i j=>bt (numAt xs i) (numAt xs j)) (xs.size-1)]?=some v):∃ t,v = .int (r.foldl (fun m x=>if bt x m then x else m) x) t:=by
 refine Ze1 (intItems_at h) fun t zq1=>?_
 clear h
 subst zq1
 have hs:xs.size=r.length+1:=by have:=congrArg List.length e; simpa using this
 refine ⟨t,?_⟩
 rw [Do bt xs _ (by omega),e]
 have:xs.size-1+1=(x :: r).length:=by simp [hs]
 rw [this,List.take_length]
 have h0:numAt xs 0=x:=by
  have:(xs.toList.map (·.1))[0]?=some x:=by rw [e]; rfl
  simp only [List.getElem?_map,Array.getElem?_toList] at this
  simp [numAt,this]
 rw [h0]; rfl
theorem Gv:SC C (.builtin "min") 1 (wD ilt):=by
 intro X dp f H k A env B ρ Z s args vals hc hA ok hv hlen Q E hQ
 nomatch ad (bD hc hlen),hc
 intro a zq1 h
 subst zq1
 nomatch ad hv.one,hv
 intro va zq1 ra
 subst zq1
 nomatch bM (aG h),h
 intro j n rx zq3 hj h
 subst zq3
 nomatch ad (ik h),h
 intro ns e h
 rw [List.append_nil] at h
 nomatch bS (bg ok ra hj),hj
 intro a vs ep zq3 hρ hl hv' hn hn'
 clear ra
 subst zq3
 nomatch Za1 (mS e hv'),e,hv'
 intro i1 zw0
 nomatch ad zw0,zw0
 intro xs i2 i3
 induction ns using List.casesOn with
 | nil=>exact ffE h
 | cons x r =>
  change lX ilt r x (fun m=>gj m k H)=true at h
  rw [sQ,gj,dh] at h
  refine wpAny_with_toks (n:=s.toks) (Nat.le_refl _) (min_intList (xs:=xs) hA.hd (i2 ▸ hl.isList) (by have:=congrArg List.length i3; simp at this; omega) fun v h' tk hvv hk ht=>?_)
  have hvv':(intItems xs)[argBest (fun i j=>ilt (numAt xs i) (numAt xs j)) (xs.size-1)]?=some v:=by
   simpa only [iU] using hvv
  nomatch Ze1 (pZ i3 hvv'),i3
  intro t zq1
  clear hvv hvv'
  subst zq1
  exact hQ _ _ _ _ _ _ (Ext.refl ..) (ok.grown hk ht) (.int ..) h
theorem GI:SC C (.builtin "max") 1 (wD fun a b=>ilt b a):=by
 intro X dp f H k A env B ρ Z s args vals hc hA ok hv hlen Q E hQ
 nomatch ad (bD hc hlen),hc
 intro a zq1 h
 subst zq1
 nomatch ad hv.one,hv
 intro va zq1 ra
 subst zq1
 nomatch bM (aG h),h
 intro j n rx zq3 hj h
 subst zq3
 nomatch ad (ik h),h
 intro ns e h
 rw [List.append_nil] at h
 nomatch bS (bg ok ra hj),hj
 intro a vs ep zq3 hρ hl hv' hn hn'
 clear ra
 subst zq3
 nomatch Za1 (mS e hv'),e,hv'
 intro i1 zw0
 nomatch ad zw0,zw0
 intro xs i2 i3
 induction ns using List.casesOn with
 | nil=>exact ffE h
 | cons x r =>
  change lX (fun a b=>ilt b a) r x (fun m=>gj m k H)=true at h
  rw [sQ,gj,dh] at h
  refine wpAny_with_toks (n:=s.toks) (Nat.le_refl _) (max_intList (xs:=xs) hA.hd (i2 ▸ hl.isList) (by have:=congrArg List.length i3; simp at this; omega) fun v h' tk hvv hk ht=>?_)
  have hvv':(intItems xs)[argBest (fun i j=>(fun a b=>ilt b a) (numAt xs i) (numAt xs j)) (xs.size-1)]?=some v:=by
   simpa only [iU,gt_iff_lt] using hvv
  nomatch Ze1 (pZ (bt:=fun a b=>ilt b a) i3 hvv'),i3
  intro t zq1
  clear hvv hvv'
  subst zq1
  exact hQ _ _ _ _ _ _ (Ext.refl ..) (ok.grown hk ht) (.int ..) h
end
section
variable {C:Cx} {X:Sc} {B:Bz} {f:Fm} {env:Env} {ρ:List Addr} {Z:Fz} {H H':HP} {s:Shared} {A:Around}
def we (a:AV):Option Int:=@AV.rec (fun _=>Option Int) none (fun _=>none) (fun i=>none) (fun _=>none) (fun _=>none) (fun _=>none) (fun _ _=>none) none (fun _ _ _ _=>none) (fun _ _=>none) (fun _ _ _=>none) (fun _ _ _=>none) (fun _ _ _=>none) (fun _ _ _ _ _ _=>none) (fun _=>none) (fun _ _=>none) (fun _ _ _=>none) none (fun _=>none) (fun _ _=>none) (fun _=>none) (fun i=>some i) (fun _=>none) a
theorem jI {a:AV} {i:Int} (h:we a=some i):a = .tin i:=by induction a using AV.casesOn<;>first | (cases h; rfl) | exact noS h
noncomputable def Gk (i:Int):Bool:=match i with
 | .ofNat n=>Nat.ble n 256
 | .negSucc _=>false
def gA (a:AV) (y n:Bool):Bool:=@AV.rec (fun _=>(Bool)->(Bool)->Bool) (fun y n=>y) (fun _ y n=>n) (fun i y n=>n) (fun _ y n=>n) (fun _ y n=>n) (fun _ y n=>false) (fun _ _ y n=>n) (fun y n=>false) (fun _ _ _ _ y n=>false) (fun _ _ y n=>n) (fun _ _ _ y n=>n) (fun _ _ _ y n=>n) (fun _ _ _ y n=>n) (fun _ _ _ _ _ _ y n=>n) (fun _ y n=>n) (fun _ _ y n=>n) (fun _ _ _ y n=>n) (fun y n=>n) (fun _ y n=>n) (fun _ _ y n=>false) (fun _ y n=>n) (fun i y n=>n) (fun _ y n=>n) a y n
theorem ca {a:AV} {y n:Bool} {v:Value} (h:gA a y n=true) (r:VRel C.σ ρ Z a v):(v==Value.none)=true∧y=true∨(v==Value.none)=false∧n=true:=by
 induction r using VRel.casesOn<;>first | exact ffE h | exact .inl ⟨rfl,h⟩ | exact .inr ⟨rfl,h⟩
def Ds:P2:=fun a b H k=>gA b (gA a (k (.bool true) H) (k (.bool false) H)) false
def gp:P2:=fun a b H k=>gA b (gA a (k (.bool false) H) (k (.bool true) H)) false
theorem t3:cK C (fun a b=>compareOp .Is a b) Ds:=by
 intro X dp f H k A env B ρ Z s a b va vb hd hA ok ra rb Q E hQ
 rcases ca hd rb with ⟨e,h⟩ | ⟨_,h⟩
 ·have:=eq_of_beq e
  clear rb
  subst this
  refine is_none_gen ?_
  rcases ca h ra with ⟨e,h⟩ | ⟨e,h⟩<;>(rw [e]; exact hQ _ _ _ _ _ _ (Ext.refl ..) ok (.bool ..) h)
 ·exact ffE h
theorem dV:cK C (fun a b=>compareOp .IsNot a b) gp:=by
 intro X dp f H k A env B ρ Z s a b va vb hd hA ok ra rb Q E hQ
 rcases ca hd rb with ⟨e,h⟩ | ⟨_,h⟩
 ·have:=eq_of_beq e
  clear rb
  subst this
  refine isnot_none_gen ?_
  rcases ca h ra with ⟨e,h⟩ | ⟨e,h⟩<;>(rw [e]; exact hQ _ _ _ _ _ _ (Ext.refl ..) ok (.bool ..) h)
 ·exact ffE h
def Ga (x:Int) (ns:List Int):Nat->(Nat->Bool)->Bool:=@List.rec Int (fun _=>Nat->(Nat->Bool)->Bool) (fun _ _=>false) (fun y _ ih c k=>br (aZ (Nat.succ c) fun c=>ih c k) (k c) (ieq y x)) ns
theorem xP {x:Int} {ns:List Int}:∀ {c:Nat} {k:Nat->Bool},Ga x ns c k=true->∃ j,ns[j]?=some x∧(∀ m y,m<j->ns[m]?=some y->y ≠ x)∧k (c+j)=true:=by
 induction ns with
 | nil=>intro c k h; exact ffE h
 | cons y ns ih =>
  intro c k h
  change br (aZ (Nat.succ c) fun c=>Ga x ns c k) (k c) (ieq y x)=true at h
  rw [ig,aP] at h
  by_cases e:y=x
  ·rw [decide_eq_true e] at h
   exact (bA 0 (by simp [e]) (fun m y hm=>by omega) h)
  ·rw [decide_eq_false e] at h
   nomatch aU (ih h),ih,h
   intro j h1 h2 h3
   refine (bA (j+1) (by simpa using h1) (fun m z hm hz=>?_) (by rw [← Nat.add_assoc,Nat.add_right_comm]; exact h3))
   induction m using Nat.casesAuxOn with
   | zero=>simp at hz; subst hz; exact e
   | succ m=>exact h2 m z (by omega) (by simpa using hz)
theorem Gi {vs:List Value} {ns:List Int} (h:IntsAre vs ns):vs.length=ns.length∧∀ (i:Nat) v,vs[i]?=some v->∃ n t,ns[i]?=some n∧v = .int n t:=by
 induction h with
 | nil=>exact ⟨rfl,fun i v h=>by simp at h⟩
 | cons n t _ ih =>
  refine ⟨by simp [ih.1],fun i v h=>?_⟩
  induction i using Nat.casesAuxOn with
  | zero=>simp at h; exact (dj n t rfl h.symm)
  | succ i=>simpa using ih.2 i v (by simpa using h)
def CU:DC:=fun args _ H k=>nI args fun a b=>bP H a fun _ n rx=>wm rx [] fun ns=>bk (bq b) fun x=>aB (Nat.ble n 100000) (Ga x ns 0 fun j=>k (.int (.ofNat j)) H)
noncomputable def isI (x:Int) (v:Value):Bool:=match v with | .int n _=>n==x | _=>false
theorem Ba:SC C (.builtin "list.index") 2 CU:=by
 intro X dp f H k A env B ρ Z s args vals hc hA ok hv hlen Q E hQ
 nomatch aE (cE hc hlen),hc
 intro a b zq2 h
 subst zq2
 nomatch ay hv.two,hv
 intro va vb zq2 ra rb
 subst zq2
 nomatch bM (aG h),h
 intro j n rx zq3 hj h
 subst zq3
 nomatch ad (ik h),h
 intro ns e h
 rw [List.append_nil] at h
 nomatch ad (al h),h
 intro x hx h
 nomatch Za1 (af h),h
 intro h1 h
 nomatch aU (xP h),h
 intro i g1 g2 g3
 rw [Nat.zero_add] at g3
 nomatch bS (bg ok ra hj),hj
 intro a vs ep zq3 hρ hl hv' hn hn'
 clear ra
 subst zq3
 nomatch Ze1 (ar hx rb),hx
 intro u zq1
 clear rb
 subst zq1
 nomatch Za1 (mS e hv'),e,hv'
 intro i1 _
 nomatch Za1 (Gi i1),i1
 intro l1 l2
 have hsz:n≤100000:=ZbL h1
 have hi:i<ns.length:=(ZbS g1).1
 have hil:i<vs.toArray.size:=by rw [List.size_toArray,l1]; exact hi
 refine call_meets F.slot_list_index ⟨_,hl,rfl⟩ F.entry_list_index (F.args_list_index_2 _ _) (SeqAt.list_indexAt a vs.toArray ep none #[] (.int x u) (isI x) i hil (by rw [List.size_toArray] at hil; omega) ?_ fun m hm hmi=>?_) ⟨hl,fun y hy=>?_,hQ _ _ _ _ _ _ (Ext.refl ..) (ok.tok _) (.int ..) g3⟩
 ·nomatch aE (l2 i vs.toArray[i] (by simp)),l2
  intro n' t q1 q2
  rw [g1] at q1
  injections q1
  rw [q2]
  refine (?_:(x==x)=true)
  simp
 ·refine aE (l2 m vs.toArray[m] (by simp)) fun n' t q1 q2=>?_
  rw [q2]
  refine (?_:(n' == x)=false)
  simpa using g2 m n' hmi q1
 ·refine Ze1 (List.getElem?_of_mem (Array.mem_toList_iff.mpr hy)) fun m q=>?_
  nomatch aE (l2 m y (by simpa using q)),l2
  intro n' t q1 q2
  clear hy q
  subst q2
  exact (EqGives.int n' x t u).at _ _
def tm:DC:=fun args _ H k=>gY args fun a=>bP H a fun j n rx=>aB (Nat.ble n 100000) (gO rx [] fun xs=>H.set j (.list n xs) fun H=>k .none H)
theorem vm:SC C (.builtin "list.reverse") 1 tm:=by
 intro X dp f H k A env B ρ Z s args vals hc hA ok hv hlen Q E hQ
 nomatch ad (bD hc hlen),hc
 intro a zq1 h
 subst zq1
 nomatch ad hv.one,hv
 intro va zq1 ra
 subst zq1
 nomatch bM (aG h),h
 intro j n rx zq3 hj h
 subst zq3
 nomatch Za1 (af h),h
 intro h1 h
 rw [dY,List.append_nil] at h
 nomatch aU (HP.set_spec h),h
 intro H' h2 h3 h4
 nomatch bS (bg ok ra hj),hj
 intro a vs ep zq3 hρ hl hv' hn hn'
 clear ra
 subst zq3
 have hsz:n≤100000:=ZbL h1
 refine call_meets F.slot_list_reverse ⟨_,hl,rfl⟩ F.entry_list_reverse (F.args_list_reverse_1 _) (AutoListH.list_reverse_list_0 a vs.toArray ep (by rw [List.size_toArray,hn,sizeLine_eq]; omega)) ⟨hl,?_⟩
 exact hQ _ _ _ _ _ _ (Ext.refl ..) (ok.mapSeq (ws:=vs.reverse) hρ hl (by simp) h3 h4 (by rw [List.reverse_reverse]; have:=hv'.reverse; rwa [List.reverse_reverse] at this) (by simp [hn'])) .none h2
noncomputable abbrev SP (C:Cx) (X:Sc) (e:Option Ex) (d:D):Prop:=ST C X (RV C) (fun env=>evalPart e env) d
theorem cu:SP C X none bR:=fun dp f H k A env B ρ Z s hd hA ok Q E hQ=>by
 refine (?_:wpAny _ _ (evalPart none env) _ _ _)
 rw [evalPart_none]
 exact ZP (hQ _ _ _ _ _ _ (Ext.refl ..) ok .none hd)
theorem dH {e:Ex} {d:D} (h:SE C X e d):SP C X (some e) d:=fun dp f H k A env B ρ Z s hd hA ok Q E hQ=>by
 refine (?_:wpAny _ _ (evalPart (some e) env) _ _ _)
 rw [evalPart_some]
 exact h _ _ _ _ _ _ _ _ _ _ hd hA ok _ _ hQ
def fO (dq1 dq2 dq3:D):D:=fun dp f H k=>dq1 dp f H fun a H=>dq2 dp f H fun b H=>dq3 dp f H fun c H=>k (.slc a b c) H
theorem dA {a b c:Option Ex} {p:Pos} {dq1 dq2 dq3:D} (h1:SP C X a dq1) (h2:SP C X b dq2) (h3:SP C X c dq3):SE C X (.Slice a b c p) (fO dq1 dq2 dq3) :=
 fun dp f H k A env B ρ Z s hd hA ok Q E hQ=>wpAny_Slice (h1 _ _ _ _ _ _ _ _ _ _ hd hA ok _ _ fun ρ₁ Z₁ H₁ s₁ a va e₁ ok₁ r₁ hdq1 =>
  h2 _ _ _ _ _ _ _ _ _ _ hdq1 hA ok₁ _ _ fun ρ2 Z₂ H₂ sq2 b vb e₂ ok₂ r₂ hdq2=>h3 _ _ _ _ _ _ _ _ _ _ hdq2 hA ok₂ _ _ fun ρ3 Z3 H3 s₃ c vc e₃ ok₃ r₃ hdq3 =>
   hQ _ _ _ _ _ _ (((e₁.trans e₂).trans e₃).trans Ext.fz) (ok₃.freeze (o:={ cls:=.type "slice",data:=.fields #[va,vb,vc] }) rfl) (.slc Fz.add_here ((r₁.ext (e₂.trans e₃)).ext Ext.fz) ((r₂.ext e₃).ext Ext.fz) (r₃.ext Ext.fz)) hdq3)
def l4 (v:AV) (k:AV->AV->AV->Bool):Bool:=@AV.rec (fun _=>(AV->AV->AV->Bool)->Bool) (fun k=>false) (fun b k=>false) (fun i k=>false) (fun s k=>false) (fun j k=>false) (fun v k=>false) (fun l _ k=>false) (fun k=>false) (fun _ _ _ _ k=>false) (fun _ _ k=>false) (fun _ _ _ k=>false) (fun _ _ _ k=>false) (fun a b c k=>false) (fun a b c _ _ _ k=>k a b c) (fun _ k=>false) (fun _ _ k=>false) (fun _ _ _ k=>false) (fun k=>false) (fun _ k=>false) (fun _ _ k=>false) (fun _ k=>false) (fun _ k=>false) (fun _ k=>false) v k
theorem gq {v:AV} {k:AV->AV->AV->Bool} (h:l4 v k=true):∃ a b c,v = .slc a b c∧k a b c=true:=by
 induction v using AV.casesOn<;>first | (exact (lA _ _ _ rfl h)) | exact ffE h
def wg (a:AV) (n:Bool) (k:Nat->Bool):Bool:=gA a n (bk (bq a) fun i=>bk (Mine.natOf i) fun m=>k m)
theorem jR {a:AV} {n:Bool} {k:Nat->Bool} {v:Value} (h:wg a n k=true) (r:VRel C.σ ρ Z a v):(v = .none∧n=true)∨∃ (m:Nat) (t:Tok),v = .int (m:Int) t∧k m=true:=by
 rcases ca h r with ⟨e,h⟩ | ⟨e,h⟩
 ·exact .inl ⟨eq_of_beq e,h⟩
 ·nomatch ad (al h),h
  intro i h1 h2
  refine ad (al h2) fun m h3 h4=>?_
  nomatch Ze1 (ar h1 r),r
  intro t zq1
  subst zq1
  have:=aQ h3
  clear h1 h2 h3
  subst this
  exact .inr (dj m t rfl h4)
def qc {α:Type} (l:List α):Nat->(List α->Bool)->Bool:=@List.rec α (fun _=>Nat->(List α->Bool)->Bool) (fun _ k=>k []) (fun x r ih n k=>nr (k (x :: r)) (fun n=>ih n k) n) l
theorem tU {α:Type} (l:List α):∀ (n:Nat) (k:List α->Bool),qc l n k=k (l.drop n):=by
 induction l with
 | nil=>intro n k; show k []=_; simp
 | cons x r ih=>intro n k; induction n using Nat.casesAuxOn with
  | zero=>rfl
  | succ n=>exact ih n k
def EV {α:Type} (l:List α):Nat->(List α->Bool)->Bool:=@List.rec α (fun _=>Nat->(List α->Bool)->Bool) (fun _ k=>k []) (fun x _ ih n k=>nr (k []) (fun n=>ih n fun r=>k (x :: r)) n) l
theorem yL {α:Type} (l:List α):∀ (n:Nat) (k:List α->Bool),EV l n k=k (l.take n):=by
 induction l with
 | nil=>intro n k; show k []=_; simp
 | cons x r ih=>intro n k; induction n using Nat.casesAuxOn with
  | zero=>rfl
  | succ n=>exact ih n fun r=>k (x :: r)
def Io {α:Type} (l:List α) (a b:AV) (k:List α->Bool):Bool:=wg b (wg a (k l) fun m=>qc l m k) fun n=>EV l n fun l=>wg a (k l) fun m=>qc l m k
theorem GM {α:Type} (l:List α) (lo hi:Option Nat):(l.drop ((lo.map Int.ofNat).elim 0 (clipAt l.length))).take ((hi.map Int.ofNat).elim l.length (clipAt l.length)-(lo.map Int.ofNat).elim 0 (clipAt l.length))=(hi.elim l (l.take ·)).drop (lo.getD 0):=by
 have e:∀ m:Nat,clipAt l.length (Int.ofNat m)=min m l.length:=fun m=>clipAt_nat _ m
 induction lo using Option.casesOn with
 | none =>
  induction hi using Option.casesOn with
  | none=>simp
  | some b =>
   simp only [Option.map_some,Option.elim,e,Option.map_none,Option.getD_none,Nat.sub_zero,List.drop_zero]
   by_cases q2:b≤l.length
   ·rw [Nat.min_eq_left q2]
   ·rw [Nat.min_eq_right (by omega),List.take_of_length_le (Nat.le_refl _),List.take_of_length_le (by omega)]
 | some a =>
  induction hi using Option.casesOn with
  | none =>
   simp only [Option.map_some,Option.elim,e,Option.map_none,Option.getD_some]
   by_cases q:a≤l.length
   ·rw [Nat.min_eq_left q,List.take_of_length_le (by simp)]
   ·rw [Nat.min_eq_right (by omega),List.drop_eq_nil_of_le (Nat.le_refl _),List.drop_eq_nil_of_le (by omega)]; simp
  | some b =>
   simp only [Option.map_some,Option.elim,e,Option.getD_some]
   rw [List.drop_take]
   by_cases q:a≤l.length
   ·rw [Nat.min_eq_left q]
    by_cases q2:b≤l.length
    ·rw [Nat.min_eq_left q2]
    ·rw [Nat.min_eq_right (show l.length≤b by omega),List.take_of_length_le (by simp),List.take_of_length_le (by simp; omega)]
   ·have ha:min a l.length=l.length:=Nat.min_eq_right (by omega)
    rw [ha,List.drop_eq_nil_of_le (Nat.le_refl _),List.drop_eq_nil_of_le (show l.length≤a by omega)]; simp
theorem w8 {α:Type} {l:List α} {a b:AV} {k:List α->Bool} {va vb:Value} (h:Io l a b k=true) (ra:VRel C.σ ρ Z a va) (rb:VRel C.σ ρ Z b vb) :
  ∃ lo hi:Option Nat,IsPart va (lo.map Int.ofNat)∧IsPart vb (hi.map Int.ofNat)∧k ((hi.elim l (l.take ·)).drop (lo.getD 0))=true:=by
 rcases jR h rb with ⟨rfl,h⟩ | ⟨n,t,rfl,h⟩
 ·rcases jR h ra with ⟨rfl,h⟩ | ⟨m,u,rfl,h⟩
  ·exact (aK none none .none .none h)
  ·rw [tU] at h
   exact (aK (some m) none (.int ..) .none h)
 ·rw [yL] at h
  rcases jR h ra with ⟨rfl,h⟩ | ⟨m,u,rfl,h⟩
  ·exact (aK none (some n) .none (.int ..) h)
  ·rw [tU] at h
   exact (aK (some m) (some n) (.int ..) (.int ..) h)
theorem VRs.take {xs:List AV} {vs:List Value} (h:VRs C.σ ρ Z xs vs) (n:Nat):VRs C.σ ρ Z (xs.take n) (vs.take n) :=
 ⟨by simp [h.1],fun i x v a b=>by
  rw [List.getElem?_take] at a b
  split at a
  ·rename_i q; rw [if_pos q] at b; exact h.2 i x v a b
  ·exact noS a⟩
theorem VRs.drop {xs:List AV} {vs:List Value} (h:VRs C.σ ρ Z xs vs) (n:Nat):VRs C.σ ρ Z (xs.drop n) (vs.drop n) :=
 ⟨by simp [h.1],fun i x v a b=>by
  rw [List.getElem?_drop] at a b
  exact h.2 _ x v a b⟩
def pLS:P2:=fun a b H k=>bP H a fun _ n rx=>aB (Nat.ble n 100000) (l4 b fun lo hi st=>gA st (gO rx [] fun xs=>Io xs lo hi fun ys=>mP ys H k) false)
theorem Gp:gx C pLS:=by
 intro X dp f H k A env B ρ Z s a b va vb hd hA ok ra rb
 nomatch bM (aG hd),hd
 intro j n rx zq3 hj h
 subst zq3
 nomatch Za1 (af h),h
 intro h1 h
 nomatch eH (gq h),h
 intro lo hi st zq3 h
 subst zq3
 nomatch bS (bg ok ra hj),hj
 intro a vs ep zq3 hρ hl hv hn hn'
 clear ra
 subst zq3
 have hsz:n≤100000:=ZbL h1
 refine Ze4 rb.inv fun _ _ _ _ zw0=>?_
 nomatch Za4 zw0,zw0
 intro zq4 hz r1 r2 r3
 clear rb
 subst zq4
 rcases ca h r3 with ⟨e,h⟩ | ⟨_,h⟩
 ·have:=eq_of_beq e
  clear r3 e
  subst this
  rw [dY,List.append_nil] at h
  nomatch ay (w8 h r1 r2),r1,r2,h
  intro l' h' p1 p2 p3
  refine (aK ("list") ("list.__getitem__") hl.isList.typeIs slot_list_getitem.lookup (fun Q E hQ=>?_))
  refine wpAny_getItem_list_slice hl.isList ⟨_,ok.g.z _ _ hz,rfl,rfl⟩ p1 p2 .none (by simp) ?_ (by rw [List.size_toArray,hn,sizeLine_eq]; omega)
  rw [slicePick_plain]
  have hsz2:vs.toArray.size=vs.length:=List.size_toArray
  rw [hsz2,GM]
  have hr:VRs C.σ ρ Z ((h'.elim rx.reverse (rx.reverse.take ·)).drop (l'.getD 0)) ((h'.elim vs (vs.take ·)).drop (l'.getD 0)):=by
   apply VRs.drop
   induction h' using Option.casesOn with
   | none=>exact hv
   | some m=>exact hv.take m
  refine cJ (eI p3) fun H' g1 g2 g3 g4=>?_
  refine Za1 (ok.newList hr g3 g4) fun o1 o2=>?_
  exact hQ _ _ _ _ _ _ Ext.snoc o1 o2 g2
 ·exact ffE h
def pByIdx (p q:P2):P2:=fun a b H k=>onSlcD b (q a b H k) (p a b H k)
where onSlcD (b:AV) (y n:Bool):Bool:=br n y (l4 b fun _ _ _=>true)
theorem xO {p q:P2} (h1:gx C p) (h2:gx C q):gx C (pByIdx p q):=by
 intro X dp f H k A env B ρ Z s a b va vb hd
 unfold pByIdx pByIdx.onSlcD at hd
 induction e:l4 b fun _ _ _=>true using Bool.casesOn with
 | true=>rw [e] at hd; exact h2 X dp f H k A env B ρ Z s a b va vb hd
 | false=>rw [e] at hd; exact h1 X dp f H k A env B ρ Z s a b va vb hd
end
section
variable {C:Cx} {X:Sc} {B:Bz} {f:Fm} {env:Env} {ρ:List Addr} {Z:Fz} {H H':HP} {s:Shared} {A:Around}
noncomputable abbrev P3:=AV->AV->AV->HP->(HP->Bool)->Bool
noncomputable def yk (C:Cx) (p:P3):Prop :=
 ∀ X dp f H k A env B ρ Z s a b c va vb vc,p a b c H k=true->AOk dp A->OK C X B f env ρ Z H s->VRel C.σ ρ Z a va->VRel C.σ ρ Z b vb->VRel C.σ ρ Z c vc ->
  ∀ (Q:Unit->Shared->Prop) (E:Value->Shared->Prop),(∀ ρ' Z' H' s',Ext ρ Z ρ' Z'->OK C X B f env ρ' Z' H' s'->k H'=true->Q () s')->wpAny (model C.prog C.w) A (setItem va vb vc) Q E s
theorem xk {l:Addr} {items:Array Value} {n:Nat} {k:Int} {t:Tok} {v:Value} {Q:Unit->Shared->Prop} {E:Value->Shared->Prop} {prog:Program} {w:World} (hl:IsL s.heap l items n) (h0:0≤k) (hfit:k<2 ^ 63) (hj:k<items.size)
  (h:Q () { s with heap:=s.heap.update l (Obj.mapSeq (·.setIfInBounds k.toNat v)) }):wpAny (model prog w) A (setItem (.ref l) (.int k t) v) Q E s:=by
 unfold setItem
 refine wpAny_holding ?_
 first | refine ZB (ZP ?_) | skip
 refine ZB (wpAny_sequenceKey hl.isList.typeIs (by decide) ?_)
 refine ZB (wpAny_callSpecial?_slot (name:=Str.ofString "__setitem__") hl.isList.typeIs slot_list_setitem
  (wpAny_call_entry slot_list_setitem hl.isList.typeIs entry_list_setitem ?_ (args_list_setitem _ _ _)))
 refine (?_:wpAny _ _ (Builtin.List.listSubscript? (.int k t) >>= _) _ _ s)
 refine ZB (wpAny_listSubscript_int (fitsIndex_of h0 hfit) ?_)
 refine Ze1 (Int.eq_ofNat_of_zero_le h0) fun j zq1=>?_
 subst zq1
 have hj':j<items.size:=by omega
 have hx':items[j]?=some items[j]:=Array.getElem?_eq_getElem hj'
 refine (?_:wpAny _ _ ((seqItemAt l j >>= fun r=>pure (r.map (j,·))) >>= _) _ _ s)
 refine ZB (ZB (wpAny_seqItemAt hl rfl (ZP ?_)))
 rw [hx']
 refine (?_:wpAny _ _ (setSeqItemAt l j v >>= _) _ _ s)
 refine ZB (wpAny_setSeqItemAt hl rfl ?_)
 first
  | exact ZB (ZP (ZP (am .none rfl (ZP h))))
  | exact ZP ⟨.none,rfl,ZP h⟩
def vR:P3:=fun a b c H k=>bP H a fun j n rx=>aB (Nat.ble n 100000) (bk (bq b) fun i=>bk (natOf i) fun m=>aB (Nat.blt m n) (BG c rx (Nat.sub (Nat.sub n 1) m) fun rx=>H.set j (.list n rx) k))
theorem BH {α:Type} {v:α} {l:List α}:∀ {n:Nat} {k:List α->Bool},BG v l n k=true->∃ l',k l'=true∧l'=l.set n v∧n<l.length:=by
 induction l with
 | nil=>intro n k h; exact ffE h
 | cons x r ih =>
  intro n k h
  induction n using Nat.casesAuxOn with
  | zero=>exact (bA _ h rfl (Nat.succ_pos _))
  | succ n =>
   refine aU (ih (n:=n) (k:=fun r=>k (x :: r)) h) fun l' h1 h2 h3=>?_
   exact (bA _ h1 (by rw [h2]; rfl) (Nat.succ_lt_succ h3))
theorem VRs.set {xs:List AV} {vs:List Value} (h:VRs C.σ ρ Z xs vs) (n:Nat) {x:AV} {v:Value} (r:VRel C.σ ρ Z x v):VRs C.σ ρ Z (xs.set n x) (vs.set n v) :=
 ⟨by simp [h.1],fun i y w a b=>by
  rw [List.getElem?_set] at a b
  split at a
  ·rename_i q
   rw [if_pos q] at b
   split at a
   ·injections a
    split at b
    ·injections b; exact r
    ·exact noS b
   ·exact noS a
  ·rename_i q
   rw [if_neg q] at b
   exact h.2 i y w a b⟩
theorem Di {α:Type} {rx:List α} {n m:Nat} {v:α} (h:rx.length=n) (hm:m<n):(rx.set (n-1-m) v).reverse=rx.reverse.set m v:=by
 apply List.ext_getElem?
 intro i
 by_cases hi:i<n
 ·rw [gB (by simpa using h) hi,List.getElem?_set,List.getElem?_set,gB h hi,List.length_reverse,h]
  by_cases e:n-1-m=n-1-i
  ·have e':m=i:=by omega
   rw [if_pos e,if_pos e',if_pos (by clear e' e hi h; omega),if_pos (by omega)]
  ·have e':¬ m=i:=by clear hi hm h; omega
   rw [if_neg e,if_neg e']
 ·rw [List.getElem?_eq_none (by simp; omega),List.getElem?_eq_none (by simp; omega)]
theorem zl:yk C vR:=by
 intro X dp f H k A env B ρ Z s a b c va vb vc hd hA ok ra rb rc Q E hQ
 refine bM (aG hd) fun j n rx zq3 hj x1=>?_
 clear hd
 subst zq3
 nomatch Za1 (af x1),x1
 intro h1 x2
 nomatch ad (al x2),x2
 intro i hi x3
 refine ad (al x3) fun m hm x4=>?_
 nomatch Za1 (af x4),x4
 intro h2 x5
 nomatch Ze1 (ar hi rb),rb
 intro t zq1
 subst zq1
 have:=aQ hm
 clear hi x3 hm
 subst this
 nomatch aU (BH x5),x5
 intro rx' g1 zq2 g3
 subst zq2
 nomatch aU (HP.set_spec g1),g1
 intro H' g4 g5 g6
 nomatch bS (bg ok ra hj),hj
 intro a vs ep zq3 hρ hl hv' hn hn'
 clear ra
 subst zq3
 have hsz:n≤100000:=ZbL h1
 rw [cW] at h2
 have hmn:=of_decide_eq_true h2
 refine xk hl (Int.natCast_nonneg m) (by clear hn' hn g5 g3; omega) (by rw [List.size_toArray,hn]; omega) ?_
 refine hQ _ _ _ _ (Ext.refl ..) (ok.mapSeq (ws:=vs.set m vc) hρ hl (by simp) g5 g6 ?_ (by simpa using hn')) g4
 refine (?_:VRs C.σ ρ Z (rx.set (n-1-m) c).reverse _)
 rw [Di hn' hmn]
 exact hv'.set m rc
def wF (p:P3) (dv dq1 dq2:D):DS:=fun dp f H kn kr=>dv dp f H fun v H=>dq1 dp f H fun a H=>dq2 dp f H fun b H=>p a b v H fun H=>kn f H
theorem B9 {o i value:Ex} {pos' pos:Pos} {p:P3} {dv dq1 dq2:D} (hv:SE C X value dv) (h1:SE C X o dq1) (h2:SE C X i dq2) (hp:yk C p) (hs:∀ env,swapsWith value (some (.Subscript o i pos')) pos.line env=pure false) :
  S1 C X (.Assign [.Subscript o i pos'] value pos) (wF p dv dq1 dq2) :=
 fun dp f H kn kr A env B ρ Z s hd hA ok Q E hn hr=>wpAny_Assign_Subscript (hv _ _ _ _ _ _ _ _ _ _ hd hA ok _ _ fun ρ₁ Z₁ H₁ s₁ v vv e₁ ok₁ r₁ hdq1 =>
  h1 _ _ _ _ _ _ _ _ _ _ hdq1 hA ok₁ _ _ fun ρ2 Z₂ H₂ sq2 a va e₂ ok₂ r₂ hdq2=>h2 _ _ _ _ _ _ _ _ _ _ hdq2 hA ok₂ _ _ fun ρ3 Z3 H3 s₃ b vb e₃ ok₃ r₃ hdq3 =>
   hp _ _ _ _ _ _ _ _ _ _ _ _ _ _ _ _ _ hdq3 hA ok₃ (r₂.ext e₃) r₃ (r₁.ext (e₂.trans e₃)) _ _ fun ρ4 Z4 H4 s4 e₄ ok₄ hdq4=>hn _ _ _ _ _ (((e₁.trans e₂).trans e₃).trans e₄) ok₄ hdq4) (hs env)
def wE (g:P2) (op:P2) (p:P3) (dq1 dq2 dv:D):DS:=fun dp f H kn kr=>dq1 dp f H fun a H=>dq2 dp f H fun b H=>g a b H fun old H=>dv dp f H fun v H=>op old v H fun new H=>p a b new H fun H=>kn f H
theorem yZ {o i value:Ex} {pos' pos:Pos} {op:Operator} {g:P2} {q:P2} {p:P3} {dv dq1 dq2:D} (h1:SE C X o dq1) (h2:SE C X i dq2) (hg:gx C g) (hv:SE C X value dv) (hop:cK C (fun a b=>inplaceOp op a b) q) (hp:yk C p)
  (hi:∀ ov iv new,augStore i ov iv new=(do holding [new,ov,iv] (setItem ov iv new); release [new,ov,iv] []; pure .next)):S1 C X (.AugAssign (.Subscript o i pos') op value pos) (wE g q p dq1 dq2 dv) :=
 fun dp f H kn kr A env B ρ Z s hd hA ok Q E hn hr=>wpAny_AugAssign_SubscriptAny (h1 _ _ _ _ _ _ _ _ _ _ hd hA ok _ _ fun ρ₁ Z₁ H₁ s₁ a va e₁ ok₁ r₁ hdq1 =>
  h2 _ _ _ _ _ _ _ _ _ _ hdq1 hA ok₁ _ _ fun ρ2 Z₂ H₂ sq2 b vb e₂ ok₂ r₂ hdq2=>by
   refine ay (hg _ _ _ _ _ _ _ _ _ _ _ a b va vb hdq2 hA ok₂ (r₁.ext e₂) r₂) fun T id _ _ hgw=>?_
   refine hgw _ _ fun ρ3 Z3 H3 s₃ c vc e₃ ok₃ r₃ hdq3=>hv _ _ _ _ _ _ _ _ _ _ hdq3 hA ok₃ _ _ fun ρ4 Z4 H4 s4 v vv e₄ ok₄ rq4 hdq4 =>
    hop _ _ _ _ _ _ _ _ _ _ _ c v vc vv hdq4 hA ok₄ (r₃.ext e₄) rq4 _ _ fun ρ5 Z5 H5 s₅ nw vn eq5 ok₅ rq5 hdq5 =>
     hp _ _ _ _ _ _ _ _ _ _ _ _ _ _ _ _ _ hdq5 hA ok₅ (r₁.ext (((e₂.trans e₃).trans e₄).trans eq5)) (r₂.ext ((e₃.trans e₄).trans eq5)) rq5 _ _ fun ρ6 Z6 H6 sq6 eq6 ok₆ hdq6=>hn _ _ _ _ _ (((((e₁.trans e₂).trans e₃).trans e₄).trans eq5).trans eq6) ok₆ hdq6) hi
def BS {α:Type} (l:List α):Nat->(List α->Bool)->Bool:=@List.rec α (fun _=>Nat->(List α->Bool)->Bool) (fun _ _=>false) (fun x r ih n k=>nr (k r) (fun n=>ih n fun r=>k (x :: r)) n) l
theorem tz {α:Type} {l:List α}:∀ {n:Nat} {k:List α->Bool},BS l n k=true->k (l.eraseIdx n)=true∧n<l.length:=by
 induction l with
 | nil=>intro n k h; exact ffE h
 | cons x r ih =>
  intro n k h
  induction n using Nat.casesAuxOn with
  | zero=>exact ⟨h,Nat.succ_pos _⟩
  | succ n =>
   refine Za1 (ih (n:=n) (k:=fun r=>k (x :: r)) h) fun h1 h2=>?_
   exact ⟨h1,Nat.succ_lt_succ h2⟩
noncomputable abbrev P2u:=AV->AV->HP->(HP->Bool)->Bool
noncomputable def FR (C:Cx) (p:P2u):Prop :=
 ∀ X dp f H k A env B ρ Z s a b va vb,p a b H k=true->AOk dp A->OK C X B f env ρ Z H s->VRel C.σ ρ Z a va->VRel C.σ ρ Z b vb ->
  ∀ (Q:Unit->Shared->Prop) (E:Value->Shared->Prop),(∀ ρ' Z' H' s',Ext ρ Z ρ' Z'->OK C X B f env ρ' Z' H' s'->k H'=true->Q () s')->wpAny (model C.prog C.w) A (delItem va vb) Q E s
def FP:P2u:=fun a b H k=>bP H a fun j n rx=>aB (Nat.ble n 100000) (bk (bq b) fun i=>bk (natOf i) fun m=>aB (Nat.blt m n) (BS rx (Nat.sub (Nat.sub n 1) m) fun rx=>H.set j (.list (Nat.sub n 1) rx) k))
theorem VRs.erase {xs:List AV} {vs:List Value} (h:VRs C.σ ρ Z xs vs) (n:Nat):VRs C.σ ρ Z (xs.eraseIdx n) (vs.eraseIdx n):=by
 rw [List.eraseIdx_eq_take_drop_succ,List.eraseIdx_eq_take_drop_succ]
 exact (h.take n).append (h.drop (n+1))
theorem xK {α:Type} {rx:List α} {n m:Nat} (h:rx.length=n) (hm:m<n):(rx.eraseIdx (n-1-m)).reverse=rx.reverse.eraseIdx m:=by
 rw [List.eraseIdx_eq_take_drop_succ,List.eraseIdx_eq_take_drop_succ,List.reverse_append,List.reverse_take,List.reverse_drop,h,show n-(n-1-m+1)=m by omega,show n-(n-1-m)=m+1 by omega]
theorem HL:FR C FP:=by
 intro X dp f H k A env B ρ Z s a b va vb hd hA ok ra rb Q E hQ
 refine bM (aG hd) fun j n rx zq3 hj x1=>?_
 clear hd
 subst zq3
 nomatch Za1 (af x1),x1
 intro h1 x2
 nomatch ad (al x2),x2
 intro i hi x3
 refine ad (al x3) fun m hm x4=>?_
 nomatch Za1 (af x4),x4
 intro h2 x5
 nomatch Ze1 (ar hi rb),rb
 intro t zq1
 subst zq1
 have:=aQ hm
 clear hi x3 hm
 subst this
 nomatch Za1 (tz x5),x5
 intro g1 g3
 nomatch aU (HP.set_spec g1),g1
 intro H' g4 g5 g6
 nomatch bS (bg ok ra hj),hj
 intro a vs ep zq3 hρ hl hv' hn hn'
 clear ra
 subst zq3
 have hsz:n≤100000:=ZbL h1
 rw [cW] at h2
 have hmn:=of_decide_eq_true h2
 refine P.delItem_list hl (by simp [Builtin.List.listFitsIndex]; clear hn' hn g5 g3; omega) (seqIndex_of (Int.natCast_nonneg m) (by rw [List.size_toArray,hn]; omega)) ?_ (by rw [List.size_toArray,hn,sizeLine_eq]; clear hmn hn' hn g5 g3; omega)
 refine hQ _ _ _ _ (Ext.refl ..) (ok.mapSeq (ws:=vs.eraseIdx m) hρ hl ?_ g5 g6 ?_ ?_) g4
 ·apply Array.ext'
  rw [Array.eraseIdxIfInBounds,dif_pos (by rw [List.size_toArray,hn]; simpa using hmn)]
  simp
 ·refine (?_:VRs C.σ ρ Z (rx.eraseIdx (n-1-m)).reverse _)
  rw [xK hn' hmn]
  exact hv'.erase m
 ·refine (?_:(rx.eraseIdx (n-1-m)).length=n-1)
  rw [List.length_eraseIdx,if_pos (by omega),hn']
def F7 (p:P2u) (dq1 dq2:D):DS:=fun dp f H kn kr=>dq1 dp f H fun a H=>dq2 dp f H fun b H=>p a b H fun H=>kn f H
theorem Fk {o i:Ex} {pos' pos:Pos} {p:P2u} {dq1 dq2:D} (h1:SE C X o dq1) (h2:SE C X i dq2) (hp:FR C p):S1 C X (.Delete [.Subscript o i pos'] pos) (F7 p dq1 dq2) :=
 fun dp f H kn kr A env B ρ Z s hd hA ok Q E hn hr=>wpAny_Delete (wpAny_deleteEach_cons (wpAny_delete_Subscript (h1 _ _ _ _ _ _ _ _ _ _ hd hA ok _ _ fun ρ₁ Z₁ H₁ s₁ a va e₁ ok₁ r₁ hdq1 =>
  h2 _ _ _ _ _ _ _ _ _ _ hdq1 hA ok₁ _ _ fun ρ2 Z₂ H₂ sq2 b vb e₂ ok₂ r₂ hdq2=>hp _ _ _ _ _ _ _ _ _ _ _ _ _ _ _ hdq2 hA ok₂ (r₁.ext e₂) r₂ _ _ fun ρ3 Z3 H3 s₃ e₃ ok₃ hdq3 =>
   wpAny_deleteEach_nil (hn _ _ _ _ _ ((e₁.trans e₂).trans e₃) ok₃ hdq3))))
end
def wb (a:AV) (ki:Int->Bool) (ks:SS->Bool) (kr:Nat->Bool) (kt:AV->Bool):Bool:=@AV.rec (fun _=>(Int->Bool)->(SS->Bool)->(Nat->Bool)->(AV->Bool)->Bool) (fun ki ks kr kt=>false) (fun b ki ks kr kt=>false) (fun i ki ks kr kt=>ki i) (fun s ki ks kr kt=>ks s) (fun j ki ks kr kt=>kr j) (fun v ki ks kr kt=>false) (fun l _ ki ks kr kt=>kt l) (fun ki ks kr kt=>false) (fun _ _ _ _ ki ks kr kt=>false) (fun _ _ ki ks kr kt=>false) (fun _ _ _ ki ks kr kt=>false) (fun _ _ _ ki ks kr kt=>false) (fun a b c ki ks kr kt=>false) (fun a b c _ _ _ ki ks kr kt=>false) (fun _ ki ks kr kt=>false) (fun _ _ ki ks kr kt=>false) (fun _ _ _ ki ks kr kt=>false) (fun ki ks kr kt=>false) (fun _ ki ks kr kt=>false) (fun _ _ ki ks kr kt=>false) (fun _ ki ks kr kt=>false) (fun i ki ks kr kt=>ki i) (fun s ki ks kr kt=>ks s) a ki ks kr kt
theorem j5 {a:AV} {ki:Int->Bool} {ks:SS->Bool} {kr:Nat->Bool} {kt:AV->Bool} (h:wb a ki ks kr kt=true) :
  (∃ i,bq a=some i∧ki i=true)∨(∃ s,(a = .str s∨a = .lit s)∧ks s=true)∨(∃ j,a = .ref j∧kr j=true)∨(∃ l,a = .tup l∧kt l=true):=by
 induction a using AV.casesOn with
 | int i=>exact .inl (am i rfl h)
 | tin i=>exact .inl (am i rfl h)
 | str s=>exact .inr (.inl (am s (.inl rfl) h))
 | lit s=>exact .inr (.inl (am s (.inr rfl) h))
 | ref j=>exact .inr (.inr (.inl (am j rfl h)))
 | tup l=>exact .inr (.inr (.inr (am l rfl h)))
 | _=>exact ffE h
noncomputable abbrev EqD:=AV->AV->(Bool->Bool)->Bool
def rY (eq:EqD) (xs:List AV):List AV->(Bool->Bool)->Bool :=
 @List.rec AV (fun _=>List AV->(Bool->Bool)->Bool) (fun ys k=>@List.rec AV (fun _=>Bool) (k true) (fun _ _ _=>false) ys) (fun x _ ih ys k=>@List.rec AV (fun _=>Bool) false (fun y r _=>eq x y fun c=>ih r fun d=>k (br false d c)) ys) xs
def chK (l:AV):(List AV->Bool)->Bool:=@AV.rec (fun _=>(List AV->Bool)->Bool) (fun _=>false) (fun b _=>false) (fun i _=>false) (fun s _=>false) (fun j _=>false) (fun v _=>false) (fun l _ _=>false) (fun k=>k []) (fun a _ _ ih k=>ih fun r=>k (a :: r)) (fun _ _ _=>false) (fun _ _ _ _=>false) (fun _ _ _ _=>false) (fun a b c _=>false) (fun a b c _ _ _ _=>false) (fun _ _=>false) (fun _ _ _=>false) (fun _ _ _ _=>false) (fun _=>false) (fun _ _=>false) (fun _ _ _=>false) (fun _ _=>false) (fun _ _=>false) (fun _ _=>false) l
theorem nW:∀ {l:AV} {k:List AV->Bool},chK l k=true->k l.items=true:=by
 intro l
 induction l with
 | tnil=>intro k h; exact h
 | tcons a b _ ih=>intro k h; exact ih (k:=fun r=>k (a :: r)) h
 | _=>intro k h; exact ffE h
def lm (eq:EqD) (H:HP) (i j:Nat) (k:Bool->Bool):Bool:=H.getK i fun a=>onL a fun n rx=>H.getK j fun b=>onL b fun m ry=>br (k false) (gO rx [] fun xs=>gO ry [] fun ys=>rY eq xs ys k) (Nat.beq n m)
def eqD (n:Nat) (H:HP):EqD:=@Nat.rec (fun _=>EqD) (fun _ _ _=>false) (fun _ ih a b k=>wb a (fun x=>bk (bq b) fun y=>k (ieq x y)) (fun x=>bO b fun y=>sEq x y k)
 (fun i=>hU b fun j=>br (lm ih H i j k) (k true) (Nat.beq i j)) (fun l=>jG b fun m=>chK l fun xs=>chK m fun ys=>rY ih xs ys k)) n
section
variable {C:Cx} {X:Sc} {B:Bz} {f:Fm} {env:Env} {ρ:List Addr} {Z:Fz} {H H':HP} {s:Shared} {A:Around}
open SeqAt
theorem oQ {eq:EqD} (heq:∀ a b k va vb,eq a b k=true->VRel C.σ ρ Z a va->VRel C.σ ρ Z b vb->∃ c,EqAt A s va vb c∧(va=vb->c=true)∧k c=true) :
  ∀ (xs ys:List AV) (vs ws:List Value) (k:Bool->Bool),rY eq xs ys k=true->VRs C.σ ρ Z xs vs->VRs C.σ ρ Z ys ws ->
   vs.length=ws.length∧∃ e:Nat->Bool,(∀ j (h1:j<vs.length) (h2:j<ws.length),EqAt A s vs[j] ws[j] (e j))∧(vs=ws->(List.range vs.length).all e=true)∧k ((List.range vs.length).all e)=true:=by
 intro xs
 induction xs with
 | nil =>
  intro ys vs ws k h rx ry
  induction ys using List.casesOn with
  | cons _ _=>exact ffE h
  | nil =>
   rw [rx.nil_inv,ry.nil_inv]
   exact ⟨rfl,fun _=>true,fun j h1=>absurd h1 (Nat.not_lt_zero _),fun _=>rfl,h⟩
 | cons x xs ih =>
  intro ys vs ws k h rx ry
  induction ys using List.casesOn with
  | nil=>exact ffE h
  | cons y ys =>
   refine ay rx.head fun v vs' zq2 r1 r2=>?_
   clear rx
   subst zq2
   refine ay ry.head fun w ws' zq2 q1 q2=>?_
   clear ry
   subst zq2
   refine aU (heq x y (fun c=>rY eq xs ys fun d=>k (br false d c)) v w h r1 q1) ?_
   clear heq h r1 q1
   intro c c1 c2 c3
   nomatch Za1 (ih ys vs' ws' _ c3 r2 q2),ih,r2,q2,c3
   intro l1 zw0
   nomatch aU zw0,zw0
   intro e e1 e2 e3
   have hall:∀ n,(List.range (n+1)).all (fun j=>match j with | 0=>c | j+1=>e j)=br false ((List.range n).all e) c:=by
    intro n
    rw [List.range_succ_eq_map,List.all_cons,List.all_map]
    induction c using Bool.casesOn<;>rfl
   refine ⟨by simp [l1],fun j=>match j with | 0=>c | j+1=>e j,fun j h1 h2=>?_,fun hvw=>?_,?_⟩
   ·induction j using Nat.casesAuxOn with
    | zero=>exact c1
    | succ j=>exact e1 j (by simpa using h1) (by simpa using h2)
   ·rw [List.length_cons,hall]
    injection hvw with hv1 hv2
    rw [c2 hv1,e2 hv2]; rfl
   ·rw [List.length_cons,hall]
    exact e3
theorem oB (ok:OK C X B f env ρ Z H s) {i j:Nat} {k:Bool->Bool} {eq:EqD} (hij:i ≠ j) (h:lm eq H i j k=true) {va vb:Value} (ra:VRel C.σ ρ Z (.ref i) va) (rb:VRel C.σ ρ Z (.ref j) vb) (hu:A.units<cLine)
  (heq:∀ a b k va vb,eq a b k=true->VRel C.σ ρ Z a va->VRel C.σ ρ Z b vb->∃ c,EqAt A.in1 s va vb c∧(va=vb->c=true)∧k c=true) :
  ∃ x y c,va = .ref x∧vb = .ref y∧x ≠ y∧RcAt A s (.ref x) (.ref y) c∧RcNeAt A s (.ref x) (.ref y) (!c)∧k c=true:=by
 nomatch ad (HP.getK_true h),h
 intro ao g1 g2
 induction ao using AO.casesOn with
 | list n rx =>
  nomatch ad (HP.getK_true g2),g2
  intro bo g3 g4
  induction bo using AO.casesOn with
  | list m ry =>
   nomatch bS (bg ok ra g1),g1
   intro x vs ep zq3 hρ hl hv hn hn'
   clear ra
   subst zq3
   nomatch bS (bg ok rb g3),g3
   intro y ws eq' zq3 hρ2 hl2 hv2 hn2 hn2'
   clear rb
   subst zq3
   have hxy:x ≠ y:=fun e=>hij ((List.getElem?_inj (ZbS hρ).1 ok.g.nd).mp (hρ.trans (e ▸ hρ2.symm)))
   change br (k false) (gO rx [] fun xs=>gO ry [] fun ys=>rY eq xs ys k) (Nat.beq n m)=true at g4
   rw [eA] at g4
   by_cases e:n=m
   ·rw [decide_eq_true e] at g4
    change gO rx [] (fun xs=>gO ry [] fun ys=>rY eq xs ys k)=true at g4
    rw [dY,dY,List.append_nil,List.append_nil] at g4
    refine Za1 (oQ (A:=A.in1) heq _ _ _ _ _ g4 hv hv2) fun l1 zw0=>?_
    refine aU zw0 fun ef e1 e2 e3=>?_
    have h0:vs.toArray.size=ws.toArray.size:=by simp [l1]
    refine (uq x y _ rfl rfl hxy (RcAt.lists hl.isList hl2.isList h0 hu (e:=ef) (fun j h1 h2=>by simpa using e1 j (by simpa using h1) (by simpa using h2))) (RcNeAt.lists hl.isList hl2.isList h0 hu (e:=ef) (fun j h1 h2=>by simpa using e1 j (by simpa using h1) (by simpa using h2))) (by simpa using e3))
   ·rw [decide_eq_false e] at g4
    have h0:(vs.toArray.size != ws.toArray.size)=true:=by simp [hn,hn2,e]
    exact (uq x y false rfl rfl hxy (RcAt.lists_lengths hl.isList hl2.isList h0 hu) (RcNeAt.lists_lengths hl.isList hl2.isList h0 hu) g4)
  | _=>exact ffE g4
 | _=>exact ffE g2
theorem vQ (ok:OK C X B f env ρ Z H s) {l m:AV} {k:Bool->Bool} {eq:EqD} (h:(chK l fun xs=>chK m fun ys=>rY eq xs ys k)=true) {va vb:Value} (ra:VRel C.σ ρ Z (.tup l) va) (rb:VRel C.σ ρ Z (.tup m) vb) (hu:A.units<cLine)
  (heq:∀ a b k va vb,eq a b k=true->VRel C.σ ρ Z a va->VRel C.σ ρ Z b vb->∃ c,EqAt A.in1 s va vb c∧(va=vb->c=true)∧k c=true) :
  ∃ x y c,va = .ref x∧vb = .ref y∧(x=y->c=true)∧RcAt A s (.ref x) (.ref y) c∧k c=true:=by
 have h1:=nW h
 have h2:=nW h1
 refine bM ra.tup_inv fun x n vs zq3 z1 v1=>?_
 clear ra
 subst zq3
 nomatch bM rb.tup_inv,rb
 intro y n' ws zq3 z2 v2
 subst zq3
 nomatch Za1 (oQ (A:=A.in1) heq _ _ _ _ _ h2 v1 v2),heq,v1,v2
 intro l1 zw0
 nomatch aU zw0,zw0
 intro ef e1 e2 e3
 have h0:min vs.toArray.size ws.toArray.size=vs.length:=by simp [l1]
 have hsz:(vs.toArray.size==ws.toArray.size)=true:=by simp [l1]
 have hrc:=RcAt.tuples (A:=A) (s:=s) (l:=x) (b:=y) (items:=vs.toArray) (items2:=ws.toArray) (e:=ef) ⟨_,ok.g.z _ _ z1,rfl,n,rfl⟩ ⟨_,ok.g.z _ _ z2,rfl,n',rfl⟩ hu (fun j h1 h2=>by simpa using e1 j (by simpa using h1) (by simpa using h2))
 rw [h0,hsz,Bool.and_true] at hrc
 refine (jY x y _ rfl rfl (fun hxy=>?_) ⟨hrc,e3⟩)
 clear hrc
 subst hxy
 have:=(ok.g.z _ _ z1).symm.trans (ok.g.z _ _ z2)
 unfold lu at this
 injection this with this
 injection this with _ _ this _
 injection this with this _
 exact e2 (by simpa using this)
theorem lI (ok:OK C X B f env ρ Z H s):∀ (n:Nat) (A:Around),A.units+n<cLine->∀ (a b:AV) (k:Bool->Bool) (va vb:Value),eqD n H a b k=true->VRel C.σ ρ Z a va->VRel C.σ ρ Z b vb->∃ c,EqAt A s va vb c∧(va=vb->c=true)∧k c=true:=by
 intro n
 induction n with
 | zero=>intro A hA a b k va vb h; exact ffE h
 | succ n ih =>
  intro A hA a b k va vb h ra rb
  have hu:A.units<cLine:=by omega
  have hu1:A.in1.units+n<cLine:=by show A.units+1+n<cLine; omega
  rcases j5 h with ⟨i,ia,g⟩ | ⟨x,ia,g⟩ | ⟨i,rfl,g⟩ | ⟨l,rfl,g⟩
  ·nomatch ad (al g),g
   intro j ib g2
   nomatch Ze1 (ar ia ra),ia
   intro t zq1
   clear ra
   subst zq1
   nomatch Ze1 (ar ib rb),rb,ib
   intro u zq1
   subst zq1
   rw [ig] at g2
   exact (bA _ ((EqGives.int i j t u).at _ _) (fun e=>by injection e with e; simp [e]) (by rw [show (i==j)=decide (i=j) from rfl]; exact g2))
  ·nomatch ad (aC g),g
   intro y ib g2
   refine Ze1 (aA ia ra) fun t zq1=>?_
   clear ra
   subst zq1
   nomatch Ze1 (aA ib rb),rb
   intro u zq1
   subst zq1
   have g3:=fy C.wf _ _ _ g2
   refine (bA _ ((SeqRoads2.EqGives.str _ _ t u).at _ _) (fun e=>by injection e with e; simp [e]) (?_))
   rw [iW]; exact g3
  ·nomatch ad (cF g),g
   intro j zq1 g2
   subst zq1
   rw [eA] at g2
   by_cases e:i=j
   ·subst e
    rw [decide_eq_true rfl] at g2
    refine ad ra.ref_inv fun x zq1 h1=>?_
    clear ra
    subst zq1
    nomatch ad rb.ref_inv,rb
    intro y zq1 h2
    subst zq1
    rw [h1] at h2
    injections h2
    exact (bA true (EqAt.same _) (fun _=>rfl) g2)
   ·rw [decide_eq_false e] at g2
    nomatch bS (oB ok e g2 ra rb hu (ih A.in1 hu1)),ok,ih,hu,hu1,g2,rb,e
    intro x y c zq3 zq4 c1 c2 _ c4
    clear ra
    subst zq3
    subst zq4
    exact (bA c (EqAt.of_refs c1 c2) (fun hh=>absurd (by injection hh) c1) c4)
  ·nomatch ad (dD g),g
   intro m zq1 g2
   subst zq1
   nomatch fH (vQ ok g2 ra rb hu (ih A.in1 hu1)),ok,ih,hu,hu1,g2,rb
   intro x y c zq3 zq4 c1 c2 c4
   clear ra
   subst zq3
   subst zq4
   by_cases e:x=y
   ·clear c2
    subst e
    rw [c1 rfl] at c4
    exact (bA true (EqAt.same _) (fun _=>rfl) c4)
   ·exact (bA c (EqAt.of_refs e c2) (fun hh=>absurd (by injection hh) e) c4)
def pEq:P2:=fun a b H k=>wb a (fun x=>bk (bq b) fun y=>k (.bool (ieq x y)) H) (fun x=>bO b fun y=>sEq x y fun c=>k (.bool c) H)
 (fun i=>hU b fun j=>br (lm (eqD 4 H) H i j fun c=>k (.bool c) H) false (Nat.beq i j)) (fun l=>jG b fun m=>chK l fun xs=>chK m fun ys=>rY (eqD 4 H) xs ys fun c=>k (.bool c) H)
theorem nJ {dp:Nat} (hA:AOk dp A):A.in1.units+4<cLine:=by have:=hA.un; show A.units+1+4<9900; omega
theorem gC:cK C (fun a b=>compareOp .Eq a b) pEq:=by
 intro X dp f H k A env B ρ Z s a b va vb hd hA ok ra rb Q E hQ
 have hu:=hA.units
 rcases j5 hd with ⟨i,ia,g⟩ | ⟨x,ia,g⟩ | ⟨i,rfl,g⟩ | ⟨l,rfl,g⟩
 ·nomatch ad (al g),g
  intro j ib g2
  nomatch Ze1 (ar ia ra),ia
  intro t zq1
  clear ra
  subst zq1
  nomatch Ze1 (ar ib rb),ib
  intro u zq1
  clear rb
  subst zq1
  rw [ig] at g2
  exact P.eq_int (hQ _ _ _ _ _ _ (Ext.refl ..) ok (.bool _) g2)
 ·nomatch ad (aC g),g
  intro y ib g2
  nomatch Ze1 (aA ia ra),ia
  intro t zq1
  clear ra
  subst zq1
  nomatch Ze1 (aA ib rb),ib
  intro u zq1
  clear rb
  subst zq1
  have g3:=fy C.wf _ _ _ g2
  refine P.eq_str ?_
  rw [iW]
  exact hQ _ _ _ _ _ _ (Ext.refl ..) ok (.bool ..) g3
 ·refine ad (cF g) fun j zq1 g2=>?_
  clear g hd
  subst zq1
  rw [eA] at g2
  by_cases e:i=j
  ·rw [decide_eq_true e] at g2; exact ffE g2
  ·rw [decide_eq_false e] at g2
   nomatch bS (oB ok e (show lm (eqD 4 H) H i j (fun c=>k (.bool c) H)=true from g2) ra rb hu (lI ok 4 A.in1 (nJ hA))),hA,hu,g2,e
   intro x y c zq3 zq4 c1 c2 _ c4
   clear ra
   subst zq3
   clear rb
   subst zq4
   exact EqBoolInt.of_rc c2 (hQ _ _ _ _ _ _ (Ext.refl ..) ok (.bool _) c4)
 ·refine ad (dD g) fun m zq1 g2=>?_
  clear g hd
  subst zq1
  nomatch fH (vQ ok g2 ra rb hu (lI ok 4 A.in1 (nJ hA))),hA,hu,g2
  intro x y c zq3 zq4 c1 c2 c4
  clear ra
  subst zq3
  clear rb
  subst zq4
  exact EqBoolInt.of_rc c2 (hQ _ _ _ _ _ _ (Ext.refl ..) ok (.bool _) c4)
def pNe:P2:=fun a b H k=>wb a (fun x=>bk (bq b) fun y=>k (.bool (br true false (ieq x y))) H) (fun x=>bO b fun y=>sEq x y fun c=>k (.bool (br true false c)) H)
 (fun i=>hU b fun j=>br (lm (eqD 4 H) H i j fun c=>k (.bool (br true false c)) H) false (Nat.beq i j)) (fun l=>false)
theorem lZ:cK C (fun a b=>compareOp .NotEq a b) pNe:=by
 intro X dp f H k A env B ρ Z s a b va vb hd hA ok ra rb Q E hQ
 have hu:=hA.units
 rcases j5 hd with ⟨i,ia,g⟩ | ⟨x,ia,g⟩ | ⟨i,rfl,g⟩ | ⟨l,rfl,g⟩
 ·refine ad (al g) fun j ib g2=>?_
  exact GD X dp f H k A env B ρ Z s a b va vb (by unfold IH fc; rw [ia,ib]; exact g2) hA ok ra rb Q E hQ
 ·nomatch ad (aC g),g
  intro y ib g2
  nomatch Ze1 (aA ia ra),ia
  intro t zq1
  clear ra
  subst zq1
  nomatch Ze1 (aA ib rb),ib
  intro u zq1
  clear rb
  subst zq1
  have g3:=fy C.wf _ _ _ g2
  refine P.ne_str ?_
  have e:((aw C.σ x).cps.toList != (aw C.σ y).cps.toList)=br true false (decide (txt C.σ x=txt C.σ y)):=by
   rw [bne,iW]
   induction decide (txt C.σ x=txt C.σ y) using Bool.casesOn<;>rfl
  rw [e]
  exact hQ _ _ _ _ _ _ (Ext.refl ..) ok (.bool ..) g3
 ·refine ad (cF g) fun j zq1 g2=>?_
  clear g hd
  subst zq1
  rw [eA] at g2
  by_cases e:i=j
  ·rw [decide_eq_true e] at g2; exact ffE g2
  ·rw [decide_eq_false e] at g2
   nomatch bS (oB ok e (show lm (eqD 4 H) H i j (fun c=>k (.bool (br true false c)) H)=true from g2) ra rb hu (lI ok 4 A.in1 (nJ hA))),hA,hu,g2,e
   intro x y c zq3 zq4 c1 _ c3 c4
   clear ra
   subst zq3
   clear rb
   subst zq4
   refine EqBoolInt.of_rcne c3 (hQ _ _ _ _ _ _ (Ext.refl ..) ok (.bool _) ?_)
   induction c using Bool.casesOn<;>exact c4
 ·exact ffE g
end
structure LI where
 j:Nat
 i:Nat
section
variable {C:Cx} {X:Sc} {B:Bz} {f:Fm} {env:Env} {ρ:List Addr} {Z:Fz} {H H':HP} {s:Shared} {A:Around}
noncomputable def IJ (i:LI) (ρ:List Addr) (Z:Fz) (v:Value) (P:List (Addr × Obj)):Prop:=∃ it a o,v = .ref it∧ρ[i.j]?=some a∧P=[(it,o)]∧o.cls = .type "list_iterator"∧o.data = .fields #[.ref a,.int (i.i:Int) 0]
def nxL (i:LI) (H:HP) (ki:AV->LI->HP->Bool) (ke:HP->Bool):Bool:=@LI.rec (fun _=>Bool) (fun j i=>H.getK j fun ao=>onL ao fun n rx=>br (ke H) (i8 rx (Nat.sub (Nat.sub n 1) i) fun v=>aZ (Nat.succ i) fun i'=>ki v ⟨j,i'⟩ H) (Nat.blt i n)) i
theorem rM (ok:OK C X B f env ρ Z H s) {j:Nat} {a:Addr} {n:Nat} {rx:List AV} (e:ρ[j]?=some a) (h:H.get j=some (.list n rx)):∃ vs ep,IsL s.heap a (vs:List Value).toArray ep∧VRs C.σ ρ Z rx.reverse vs∧vs.length=n∧rx.length=n:=by
 nomatch bS (bg ok (.ref e) h),ok,e,h
 intro a' vs ep e1 e2 e3 e4 e5 e6
 cases e1
 exact (uQ vs ep e3 e4 e5 e6)
theorem fY:ItOK C IJ nxL where
 mono:=by
  intro i ρ Z ρ' Z' v P e zr18_8
  refine fH zr18_8 fun it a o h1 h2 h3 h4 h5=>?_
  exact ⟨it,a,o,h1,bz e.p h2,h3,h4,h5⟩
 own:=by
  intro i ρ Z v P zr19_5
  nomatch fH zr19_5,zr19_5
  intro it a o zq3 h2 zq5 h4 h5
  subst zq3
  subst zq5
  exact (jY it _ ("list_iterator") rfl (List.mem_singleton.mpr rfl) h4 (by decide))
 self:=by
  intro i ρ Z v P zr20_5
  nomatch fH zr20_5,zr20_5
  intro it a o zq3 h2 zq5 h4 h5
  subst zq3
  subst zq5
  intro A s Q E hp hq
  exact wpAny_pyIter_listiter (l:=a) (i:=i.i) ⟨o,hp _ (List.mem_singleton.mpr rfl),h4,h5⟩ hq
 next:=by
  intro X dp f H ki ke A env B ρ Z s i it P hd hA ok hp hr Q E hend hitem
  nomatch fH hr,hr
  intro a l o zq3 hl zq5 hc hdat
  subst zq3
  subst zq5
  obtain ⟨j,i⟩:=i
  refine Za4 (hp _ (List.mem_singleton.mpr rfl)) fun p1 p2 p3 p4 p5=>?_
  nomatch ad (HP.getK_true hd),hd
  intro ao g1 g2
  induction ao using AO.casesOn with
  | list n rx =>
   refine ay (rM ok hl g1) fun vs ep q1 q2 zw0=>?_
   refine Za1 zw0 fun q3 q4=>?_
   have hit:s.heap.IsListIter a l i:=⟨o,p1,hc,hdat⟩
   change br (ke H) (i8 rx (n-1-i) fun v=>aZ (Nat.succ i) fun i'=>ki v ⟨j,i'⟩ H) (Nat.blt i n)=true at g2
   rw [cW] at g2
   by_cases hi:i<n
   ·rw [decide_eq_true hi] at g2
    refine ad (cU g2) fun v g3 g4=>?_
    rw [aP] at g4
    rw [← gB q4 hi] at g3
    refine ad (q2.get g3) fun w w1 w2=>?_
    refine wpAny_pyNext_list_item hit q1.isList (x:=w) (by simpa using w1) fun h' hit' hs=>?_
    refine aU hit' fun o' x1 x2 x3=>?_
    refine hitem ρ Z H _ ⟨j,i+1⟩ [(a,o')] v w (Ext.refl ..) (ok.extBut hs.extBut p2 p3 p4 p5) (fun p hp=>?_) ⟨a,l,o',rfl,hl,rfl,x2,x3⟩ w2 g4
    rw [List.mem_singleton.mp hp]
    exact ⟨x1,p2,p3,p4,p5⟩
   ·rw [decide_eq_false hi] at g2
    exact wpAny_pyNext_list_end hA.hd hit q1.isList (by simp; omega) fun h' hx=>hend _ (ok.extBut hx p2 p3 p4 p5) g2
  | _=>exact ffE g2
def mkL (v:AV) (H:HP) (k:LI->HP->Bool):Bool:=bP H v fun j _ _=>k ⟨j,0⟩ H
theorem dI:uw C IJ mkL:=by
 intro X dp f H k A env B ρ Z s av v hd hA ok r Q E hQ
 refine bM (aG hd) fun j n rx zq3 hj h=>?_
 clear hd
 subst zq3
 nomatch bS (bg ok r hj),hj
 intro a vs ep zq3 hρ hl hv' hn hn'
 clear r
 subst zq3
 have hw:=ok.own { cls:=.type "list_iterator",data:=.fields #[.ref a,.int 0 0] } rfl
 exact wpAny_pyIter_list hl.isList (hQ _ ⟨j,0⟩ _ _ hw.1 hw.2 ⟨_,a,_,rfl,hρ,rfl,rfl,rfl⟩ h)
noncomputable def G1 (i:LI) (ρ:List Addr) (Z:Fz) (v:Value) (P:List (Addr × Obj)):Prop:=∃ it a o,v = .ref it∧ρ[i.j]?=some a∧P=[(it,o)]∧o.cls = .type "list_reverseiterator"∧o.data = .fields #[.ref a,rawInt ((i.i:Int)-1)]
def nxV (i:LI) (H:HP) (ki:AV->LI->HP->Bool) (ke:HP->Bool):Bool:=@LI.rec (fun _=>Bool) (fun j i=>nr (ke H) (fun i'=>H.getK j fun ao=>onL ao fun n rx=>aB (Nat.blt i' n) (i8 rx (Nat.sub (Nat.sub n 1) i') fun v=>ki v ⟨j,i'⟩ H)) i) i
theorem it_rev:ItOK C G1 nxV where
 mono:=by
  intro i ρ Z ρ' Z' v P e zr21_8
  refine fH zr21_8 fun it a o h1 h2 h3 h4 h5=>?_
  exact ⟨it,a,o,h1,bz e.p h2,h3,h4,h5⟩
 own:=by
  intro i ρ Z v P zr22_5
  nomatch fH zr22_5,zr22_5
  intro it a o zq3 h2 zq5 h4 h5
  subst zq3
  subst zq5
  exact (jY it _ ("list_reverseiterator") rfl (List.mem_singleton.mpr rfl) h4 (by decide))
 self:=by
  intro i ρ Z v P zr23_5
  nomatch fH zr23_5,zr23_5
  intro it a o zq3 h2 zq5 h4 h5
  subst zq3
  subst zq5
  intro A s Q E hp hq
  exact wpAny_pyIter_revIter (l:=a) (i:=(i.i:Int)-1) ⟨o,hp _ (List.mem_singleton.mpr rfl),h4,h5⟩ hq
 next:=by
  intro X dp f H ki ke A env B ρ Z s i it P hd hA ok hp hr Q E hend hitem
  nomatch fH hr,hr
  intro a l o zq3 hl zq5 hc hdat
  subst zq3
  subst zq5
  obtain ⟨j,i⟩:=i
  refine Za4 (hp _ (List.mem_singleton.mpr rfl)) fun p1 p2 p3 p4 p5=>?_
  have hit:s.heap.IsRevIter a l ((i:Int)-1):=⟨o,p1,hc,hdat⟩
  induction i using Nat.casesAuxOn with
  | zero=>exact wpAny_pyNext_rev_end hA.hd hit fun h' hx=>hend _ (ok.extBut hx p2 p3 p4 p5) hd
  | succ i =>
   nomatch ad (HP.getK_true hd),hd
   intro ao g1 g2
   induction ao using AO.casesOn with
   | list n rx =>
    nomatch ay (rM ok hl g1),g1
    intro vs ep q1 q2 zw0
    nomatch Za1 zw0,zw0
    intro q3 q4
    nomatch Za1 (af g2),g2
    intro h3 h4
    rw [cW] at h3
    have hi:=of_decide_eq_true h3
    nomatch ad (cU h4),h4
    intro v g3 g4
    skip
    replace g3:rx[n-1-i]?=some v:=g3
    rw [← gB q4 hi] at g3
    refine ad (q2.get g3) fun w w1 w2=>?_
    have e1:((i+1:Nat):Int)-1=(i:Int):=by omega
    rw [e1] at hit
    refine wpAny_pyNext_rev_item hit q1.isList (x:=w) (by simpa using w1) fun h' hit' hs=>?_
    refine aU hit' fun o' x1 x2 x3=>?_
    refine hitem ρ Z H _ ⟨j,i⟩ [(a,o')] v w (Ext.refl ..) (ok.extBut hs.extBut p2 p3 p4 p5) (fun p hp=>?_) ⟨a,l,o',rfl,hl,rfl,x2,x3⟩ w2 g4
    rw [List.mem_singleton.mp hp]
    exact ⟨x1,p2,p3,p4,p5⟩
   | _=>exact ffE g2
end
section
variable {C:Cx} {X X':Sc} {B:Bz} {f:Fm} {env cenv:Env} {ρ:List Addr} {Z:Fz} {H H':HP} {s s':Shared} {A:Around}
def FY (d:D):Nat->Fm->HP->(LI->HP->Bool)->Bool:=fun dp f H k=>d dp f H fun v H=>bP H v fun j n _=>aB (Nat.ble n 100000) (k ⟨j,n⟩ H)
theorem BW {x:Str} {p pos:Pos} {e:Ex} {d:D} (hk:X.sc.kind = .function) (hl:X.sc.names.lookup x=some .globalImplicit) (hg:C.GlobV x (.type "reversed")) (hd:(x==("__debug__" : Str))=false)
  (ha:SE C X e d) (hs1:∀ env,starEach [e] env=[(false,eval e env)]) (hs:∀ env,(backTo pos (starEach [e] env)).any (·.1)=false):SI C X G1 (.Call (.Name x p) [e] [] pos) (FY d):=by
 intro dp f H k A env B ρ Z s hd' hA ok Q E hQ
 refine (?_:wpAny _ _ (eval (.Call (.Name x p) [e] [] pos) env) _ _ _)
 rw [dK (C:=C) (X:=X)]
 refine ZB (dg hk hl hg hd ok (fs (hs env) (bv (hs env) ?_)))
 refine (ac ha ah hs1) dp f H (fun vs H=>bk vs.head? fun v=>bP H v fun j n _=>aB (Nat.ble n 100000) (k ⟨j,n⟩ H)) _ _ _ _ _ _ hd' hA ok _ _ fun ρ₁ Z₁ H₁ s₁ vs vvs e₁ ok₁ r₁ hdq1=>?_
 nomatch ad (al hdq1),hdq1
 intro v h1 h2
 have zh1:∃ w vvs',vs=[w]∧vvs=[vvs']:=by
  nomatch Za1 r₁,r₁
  intro r1 r2
  match vs,r2 with
  | [w],_=>(refine ad r1.one fun y zq1 _=>?_; clear r1; subst zq1); exact (dj w y rfl rfl)
 nomatch aE zh1,zh1
 intro w vvs' zq2 h3
 subst zq2
 subst h3
 injections h1
 nomatch ad r₁.1.one,r₁
 intro y hy hr
 cases hy
 refine bM (aG h2) fun j n rx zq3 hj h=>?_
 clear h2
 subst zq3
 nomatch Za1 (af h),h
 intro h4 h5
 nomatch bS (bg ok₁ hr hj),hj
 intro a ws ep zq3 hρ hl' hv' hn hn'
 clear hr
 subst zq3
 have hw:=ok₁.own (revObj a ((ws.toArray.size:Int)-1)) rfl
 refine call_reversed_list hl'.isList ?_
 have hrel:G1 ⟨j,n⟩ ρ₁ Z₁ (.ref s₁.heap.objs.size) [(s₁.heap.objs.size,revObj a ((ws.toArray.size:Int)-1))]:=⟨_,a,_,rfl,hρ,rfl,rfl,by rw [List.size_toArray,hn]; rfl⟩
 exact it_rev.self hrel _ _ _ _ (fun p hp=>by rw [List.mem_singleton.mp hp]; exact Heap.get?_push_size _ rfl) (hQ _ _ _ _ ⟨j,n⟩ _ _ e₁ hw.1 hw.2 hrel h5)
noncomputable abbrev STs (C:Cx) (X:Sc) (ifs:List Ex) (d:DB):Prop:=ST C X RB (fun env=>forIn ifs true fun c r=>if r=true then do let ok ← isTrue c env (eval c env); pure (ForInStep.yield ok) else pure (ForInStep.yield r)) d
def dTt:DB:=fun _ _ H k=>k true H
theorem fZ:STs C X [] dTt:=fun dp f H k A env B ρ Z s hd hA ok Q E hQ=>by
 refine (?_:wpAny _ _ (forIn [] true _) _ _ _)
 simp only [List.forIn_nil]
 exact ZP (hQ _ _ _ _ _ _ (Ext.refl ..) ok rfl hd)
theorem qI {c:Ex} {d:DB} (h:SB C X c d):STs C X [c] d:=fun dp f H k A env B ρ Z s hd hA ok Q E hQ=>by
 refine (?_:wpAny _ _ (forIn [c] true _) _ _ _)
 simp only [List.forIn_cons,List.forIn_nil,if_true]
 refine ZB (ZB (h _ _ _ _ _ _ _ _ _ _ hd hA ok _ _ fun ρ₁ Z₁ H₁ s₁ b b' e₁ ok₁ r₁ hdq1=>?_))
 exact ZP (ZP (hQ _ _ _ _ _ _ e₁ ok₁ r₁ hdq1))
noncomputable def ba (scope sc:Scope):Scope:={ scope with names:=scope.names.map fun (n,k)=>if (k==.free&&sc.kind==.function&&sc.names.lookup n==some .cell) then (n,.cell) else (n,k) }
noncomputable def dr (env:Env) (names:List (Str × NameKind)):List (Str × Addr):=((names.filter fun x=>x.2==.free).map fun x=>(x.1,(env.cells.lookup x.1).getD 0)).reverse
noncomputable def gP (env:Env) (x:Str × NameKind) (r:List (Str × Addr)):Sem (ForInStep (List (Str × Addr))) :=
 match x with | (name,kind)=>if (kind==NameKind.free)=true then (do let a ← cellOf env name; pure (ForInStep.yield ((name,a) :: r))) else pure (ForInStep.yield r)
theorem ft {scope:Scope} {env:Env} (h:∀ x∈scope.names,x.2 = .free->∃ a,env.cells.lookup x.1=some a):closureFor scope env=pure (dr env scope.names):=by
 have key:∀ (names:List (Str × NameKind)) (cs:List (Str × Addr)),(∀ x∈names,x.2 = .free->∃ a,env.cells.lookup x.1=some a) ->
   (forIn names cs (gP env):Sem (List (Str × Addr)))=pure (((names.filter fun x=>x.2==.free).map fun x=>(x.1,(env.cells.lookup x.1).getD 0)).reverse++cs):=by
  intro names
  induction names with
  | nil=>intro cs _; rfl
  | cons x r ih =>
   intro cs hx
   obtain ⟨n,k⟩:=x
   rw [List.forIn_cons]
   have hr:=fun y hy=>hx y (List.mem_cons_of_mem _ hy)
   by_cases e:k = .free
   ·subst e
    refine Ze1 (hx (n,.free) List.mem_cons_self rfl) fun a ha=>?_
    have hc:cellOf env n=pure a:=by unfold cellOf; rw [ha]
    have hs:gP env (n,.free) cs=pure (ForInStep.yield ((n,a) :: cs)):=by
     unfold gP
     simp only [beq_self_eq_true,if_true,hc]
     rfl
    rw [hs]
    refine (ih ((n,a) :: cs) hr).trans ?_
    simp [ha]
   ·have e':(k==NameKind.free)=false:=by simpa using e
    have hs:gP env (n,k) cs=pure (ForInStep.yield cs):=by
     unfold gP
     simp only [e',Bool.false_eq_true,if_false]
    rw [hs]
    refine (ih cs hr).trans ?_
    simp [e]
 have:=key scope.names [] h
 rw [List.append_nil] at this
 unfold closureFor dr
 refine (?_:((forIn scope.names [] (gP env):Sem (List (Str × Addr))) >>= fun r=>pure r)=_)
 rw [this]; rfl
theorem iM {env:Env} {names:List (Str × NameKind)} {x:Str} {a:Addr} (hx:(x,NameKind.free)∈names) (ha:env.cells.lookup x=some a):(dr env names).lookup x=some a:=by
 have key:∀ l:List Str,x∈l->(l.map fun n=>(n,(env.cells.lookup n).getD 0)).lookup x=some a:=by
  intro l
  induction l with
  | nil=>intro h; cases h
  | cons y r ih =>
   intro h
   rw [List.map_cons,List.lookup_cons]
   induction q:x==y using Bool.casesOn with
   | true=>have:=eq_of_beq q; subst this; simp [ha]
   | false =>
    rcases List.mem_cons.mp h with rfl | h
    ·simp at q
    ·exact ih h
 have e:dr env names=((names.filter fun x=>x.2==.free).map (·.1)).reverse.map fun n=>(n,(env.cells.lookup n).getD 0):=by
  unfold dr
  rw [← List.map_reverse,← List.map_reverse,List.map_map]; rfl
 rw [e]
 exact key _ (by simp [hx])
structure CompOK (X:Sc) (scope:Scope) (ctab:List Str) (clay:List Nat):Prop where
 kind:scope.kind = .function
 nocell:∀ x∈scope.names,x.2 ≠ .cell
 loc:∀ x∈scope.names,x.2 = .local->scope.names.lookup x.1=some .local
 free:∀ x∈scope.names,x.2 = .free->x.1∈ctab
 isfree:∀ x∈ctab,(x,NameKind.free)∈scope.names
 len:clay.length=ctab.length
 at':∀ (k:Nat) x i,ctab[k]?=some x->clay[k]?=some i->X.ctab[i]?=some x
def lO (clay:List Nat) (cel:List Nat):(List Nat->Bool)->Bool:=@List.rec Nat (fun _=>(List Nat->Bool)->Bool) (fun k=>k []) (fun i _ ih k=>i8 cel i fun j=>ih fun r=>k (j :: r)) clay
theorem eK {clay cel:List Nat}:∀ {k:List Nat->Bool},lO clay cel k=true->∃ l,k l=true∧l.length=clay.length∧∀ (n i j:Nat),clay[n]?=some i->l[n]?=some j->cel[i]?=some j:=by
 induction clay with
 | nil=>intro k h; exact (bA ([]) h rfl (fun n i j a=>by simp at a))
 | cons i clay ih =>
  intro k h
  nomatch ad (cU h),h
  intro j h1 h2
  skip
  nomatch aU (ih (k:=fun r=>k (j :: r)) h2),ih,h2
  intro l h3 h4 h5
  refine (bA _ h3 (by simp [h4]) (fun n a b p q=>?_))
  induction n using Nat.casesAuxOn with
  | zero=>simp at p q; subst p; subst q; exact h1
  | succ n=>exact h5 n a b (by simpa using p) (by simpa using q)
theorem OK.enterC (ok:OK C X B f env ρ Z H s) {scope:Scope} {tab ctab:List Str} {clay cel:List Nat} {nl:List (Option AV)} (hC:CompOK X scope ctab clay) {o:Obj} (ho:s.heap.get? env.locals=some o)
  (hcel:cel.length=clay.length∧∀ (n i j:Nat),clay[n]?=some i->cel[n]?=some j->f.cel[i]?=some j) (hnl:∀ (k:Nat) v,nl[k]?=some v->v=none)
  {L:Addr} {m:Str->Option Value} (hL:s.heap.objs.size≤L) {h':Heap} {t:Nat} (hk:∀ b o,s.heap.get? b=some o->h'.get? b=some o) (ht:s.toks≤t) (hn:h'.Ns L m) :
  OK C ⟨ba scope X.sc,tab,ctab,X.cd,X.qual⟩ (B.add env.locals o) ⟨nl,cel⟩ (compEnvC scope (dr env scope.names) L env) ρ Z H { s with heap:=h',toks:=t }:=by
 refine Za3 (ok.fresh hL) fun f1 f2 f3 f4=>?_
 refine ⟨⟨fun a o' e=>.inl (ok.g.base a o' e),?_,fun a o' e=>hk _ _ (ok.g.z a o' e),ok.g.len,fun j a e=>?_,ok.g.nd1,?_,ok.g.az,f1,?_,f3,?_,hn.lt,?_,fun q=>Nat.le_trans (ok.g.tk q) ht,fun u v e=>⟨(ok.g.tkb u v e).1,Nat.lt_of_lt_of_le (ok.g.tkb u v e).2 ht⟩,ok.g.tkf,ok.g.tabs⟩,⟨?_,ok.f.gl,ok.f.bl,ok.f.cd,ok.f.qual,(am m hn (fun k x v a b=>?_)),fun k x j a b=>?_⟩⟩
 ·rintro a o' (e | ⟨rfl,rfl⟩)
  ·exact hk _ _ (ok.g.b a o' e)
  ·exact hk _ _ ho
 ·refine ay (ok.g.obj j a e) fun ao o' e1 e2 e3=>?_
  exact (aK ao o' e1 (hk _ _ e2) e3)
 ·rintro a ha o' (e | ⟨rfl,rfl⟩)
  ·exact ok.g.ab a ha o' e
  ·exact ok.g.lρ ha
 ·rintro o' (e | ⟨e,rfl⟩)
  ·exact f2 _ e
  ·exact f4 e
 ·rintro a o' o'' e (e' | ⟨rfl,rfl⟩)
  ·exact ok.g.zb a o' o'' e e'
  ·exact ok.g.lz o' e
 ·refine Ze2 ok.g.same fun hh t' e=>?_
  exact (lx h' t (by rw [e]))
 ·refine (?_:relabel scope env=ba scope X.sc)
  unfold relabel ba Env.kindOf
  rw [ok.f.sc]
 ·rw [hnl k v b]
  exact fun z e=>by exact noS e
 ·have hkc:k<clay.length:=by rw [hC.len]; exact (ZbS a).1
  have hi:clay[k]?=some clay[k]:=by simp [hkc]
  have hj:=hcel.2 k _ j hi b
  refine ad (ok.f.ce _ x j (hC.at' k x _ a hi) hj) fun c c1 c2=>?_
  refine (am c (?_) c2)
  exact iM (hC.isfree x (ZbM a)) c1
theorem fU (ok:OK C X B f env ρ Z H s) {scope:Scope} {ctab:List Str} {clay cel:List Nat} (hC:CompOK X scope ctab clay) (hcel:cel.length=clay.length∧∀ (n i j:Nat),clay[n]?=some i->cel[n]?=some j->f.cel[i]?=some j):closureFor scope env=pure (dr env scope.names) :=
 ft fun x hx hf=>by
  refine Ze1 (List.getElem?_of_mem (hC.free x hx hf)) fun k hk=>?_
  have hkc:k<clay.length:=by rw [hC.len]; exact (ZbS hk).1
  have hi:clay[k]?=some clay[k]:=by simp [hkc]
  have hj:cel[k]?=some (cel[k]'(by rw [hcel.1]; exact hkc)):=by simp [hcel.1,hkc]
  refine ad (ok.f.ce _ x.1 _ (hC.at' k x.1 _ hk hi) (hcel.2 k _ _ hi hj)) fun c c1 c2=>?_
  exact ⟨c,c1⟩
theorem kL {prog:Program} {w:World} {R:Result->Shared->Prop} {elt target iter:Ex} {ifs:List Ex} {scope:Scope} {pos:Pos} {it acc:Value} {env:Env} (I:Nat->Shared->Prop)
  (turn:∀ n s,I n s->wpAny (model prog w) A (pyNext it) (fun r s₁=>match r with
   | none=>R (.ok .next) s₁
   | some v=>wpAny (model prog w) A (letOwnedTupleGo target it v) (fun _ s₀=>wpAny (model prog w) A (assign target env v) (fun _ sq2 =>
     wpAny (model prog w) A (forIn ifs true fun c r=>if r=true then do let ok ← isTrue c env (eval c env); pure (ForInStep.yield ok) else pure (ForInStep.yield r)) (fun ok s₃ =>
      if ok=true then wpAny (model prog w) A (eval elt env) (fun x s4 =>
       wpAny (model prog w) A (call (.builtin "list.append") [acc,x]) (fun _ s₅=>∃ m,m<n∧I m s₅) (notedBy (model prog w) A env fun e s'=>R (.error e) s') s4) (notedBy (model prog w) A env fun e s'=>R (.error e) s') s₃
      else ∃ m,m<n∧I m s₃) (notedBy (model prog w) A env fun e s'=>R (.error e) s') sq2) (notedBy (model prog w) A env fun e s'=>R (.error e) s') s₀) (notedBy (model prog w) A env fun e s'=>R (.error e) s') s₁) (notedBy (model prog w) A env fun e s'=>R (.error e) s') s)
  (n:Nat) (h:I n s):codeAny (model prog w) A (.compLoop (.ListComp elt [⟨target,iter,ifs,0⟩] scope pos) 0 it acc env) R s:=by
 refine codeAny_loop rfl I (fun n s hI=>?_) n h
 show wpAny _ A ((compTurn (.ListComp elt [⟨target,iter,ifs,0⟩] scope pos) 0 it acc env).onRaise (fun x=>do noteFrame x env; theTreesLotGoes x)) _ _ s
 refine wpAny_noted ?_
 rw [compTurn_list]
 refine ZB (wpAny_standAt (ZB (wpAny_mono (turn n s hI) (fun r s₁ h₁=>?_) fun _ _ h'=>h')))
 induction r using Option.casesOn with
 | none=>exact ZP h₁
 | some v =>
  refine ZB (wpAny_mono h₁ (fun _ s₀ hq0=>?_) fun _ _ h'=>h')
  refine ZB (wpAny_mono hq0 (fun _ sq2 h₂=>ZB (wpAny_mono h₂ (fun ok s₃ h₃=>?_) fun _ _ h'=>h')) fun _ _ h'=>h')
  induction ok using Bool.casesOn with
  | false=>exact ZP ⟨rfl,h₃⟩
  | true=>exact ZB (ZB (wpAny_mono h₃ (fun x s4 h₄=>ZB (wpAny_mono h₄ (fun _ s₅ hq5=>ZP (ZP ⟨rfl,hq5⟩)) fun _ _ h'=>h')) fun _ _ h'=>h'))
def sK {I:Type} (nx:I->HP->(AV->I->HP->Bool)->(HP->Bool)->Bool) (a:DA) (dt:DB) (de:D) (dp:Nat) (k:List AV->HP->Bool) (fuel:Nat):I->Fm->HP->List AV->Bool :=
 @Nat.rec (fun _=>I->Fm->HP->List AV->Bool) (fun _ _ _ _=>false) (fun _ ih i f H rx=>nx i H (fun v i H=>a v f H fun f H=>dt dp f H fun c H=>br (ih i f H rx) (de dp f H fun x H=>ih i f H (x :: rx)) c) (fun H=>k rx H)) fuel
structure Done (C:Cx) (X':Sc) (B':Bz) (cenv:Env) (D:Addr) (ρ:List Addr) (Z:Fz) (rx:List AV) (H':HP) (s':Shared):Prop where
 ex:∃ ρ' Z' f' vs ep,Ext ρ Z ρ' Z'∧OK C X' B' f' cenv ρ' Z' H' s'∧Pv B' cenv.locals ρ' Z' s' [(D,{ cls:=.type "list",data:=.seq (vs:List Value).toArray ep })]∧VRs C.σ ρ' Z' rx.reverse vs∧rx.length≤1000
theorem qo {I:Type} {rel:I->List Addr->Fz->Value->List (Addr × Obj)->Prop} {nx:I->HP->(AV->I->HP->Bool)->(HP->Bool)->Bool} {elt target iter:Ex} {ifs:List Ex} {scope:Scope} {pos:Pos} {a:DA} {dt:DB} {de:D} {B':Bz} {f':Fm}
  (hI:ItOK C rel nx) (ha:AS C X' (assign target) a) (ht:STs C X' ifs dt) (he:SE C X' elt de) {dp:Nat} {k:List AV->HP->Bool} {i:I} {it:Value} {P:List (Addr × Obj)} {D:Addr} {R:Result->Shared->Prop}
  (hd:sK nx a dt de dp k 100 i f' H []=true) (hA:AOk dp A) (ok:OK C X' B' f' cenv ρ Z H s) (hD:Pv B' cenv.locals ρ Z s [(D,{ cls:=.type "list",data:=.seq #[] })]) (hP:Pv (BP B' [(D,{ cls:=.type "list",data:=.seq #[] })]) cenv.locals ρ Z s P) (hr:rel i ρ Z it P)
  (hR:∀ rx H' s',Done C X' B' cenv D ρ Z rx H' s'->k rx H'=true->R (.ok .next) s') :
  codeAny (model C.prog C.w) A (.compLoop (.ListComp elt [⟨target,iter,ifs,0⟩] scope pos) 0 it (.ref D) cenv) R s:=by
 refine kL (fun n s'=>∃ i f' H' ρ' Z' P' rx vs ep,sK nx a dt de dp k n i f' H' rx=true∧Ext ρ Z ρ' Z'∧OK C X' B' f' cenv ρ' Z' H' s'∧Pv B' cenv.locals ρ' Z' s' [(D,{ cls:=.type "list",data:=.seq (vs:List Value).toArray ep })] ∧
  Pv (BP B' [(D,{ cls:=.type "list",data:=.seq (vs:List Value).toArray ep })]) cenv.locals ρ' Z' s' P'∧rel i ρ' Z' it P'∧VRs C.σ ρ' Z' rx.reverse vs∧rx.length+n≤1000) ?_ 100 (vH i f' H ρ Z P ([]) ([]) 0 hd (Ext.refl ..) ok hD hP hr .nil (by simp))
 intro n s₁ zr25_2
 nomatch Ze4 zr25_2,zr25_2
 intro i fq1 H₁ ρ₁ zw0
 nomatch Ze4 zw0,zw0
 intro Z₁ Pq1 rx vs zw1
 nomatch cJ zw1,zw1
 intro ep hdq1 e₁ ok₁ zw2
 nomatch Za4 zw2,zw2
 intro hDq1 hP1 hrq1 hv₁ hlen
 induction n using Nat.casesAuxOn with
 | zero=>exact ffE hdq1
 | succ n =>
  generalize hob:({ cls:=.type "list",data:=.seq (vs:List Value).toArray ep }:Obj)=ob at hDq1 hP1
  have okD:=ok₁.priv hDq1
  have hDm:=hDq1 _ (List.mem_singleton.mpr rfl)
  have unD:∀ {f ρ Z H s},OK C X' (BP B' [(D,ob)]) f cenv ρ Z H s->OK C X' B' f cenv ρ Z H s∧Pv B' cenv.locals ρ Z s [(D,ob)]:=fun h=>h.unpriv ok₁.g.base fun p hp o=>(hDq1 p hp).2.2.1 o
  refine hI.next _ _ _ _ _ _ _ _ _ _ _ _ _ _ _ hdq1 hA okD hP1 hrq1 _ _ (fun sq2 ok₂ hdq2=>?_) (fun ρ2 Z₂ H₂ sq2 i' P' av v e₂ ok₂ hp2 hr₂ rv2 hdq2=>?_)
  ·refine Za1 (unD ok₂) fun u1 u2=>?_
   clear hDq1 hP1 okD hDm unD ok₂
   subst hob
   exact hR rx _ _ (.mk<|zm ρ₁ Z₁ fq1 vs ep e₁ u1 u2 hv₁ (by omega)) hdq2
  ·refine da (hI.own hr₂) fun a' o' nm q1 q2 q3 q4=>?_
   clear hr hrq1
   subst q1
   refine kX (hp2 _ q2).1 q3 q4 ?_
   have okp:=ok₂.priv hp2
   refine ha _ _ _ _ _ _ _ _ _ _ _ _ hdq2 hA okp rv2 _ _ fun fq3 H3 s₃ ok₃ hdq3=>?_
   refine ht _ _ _ _ _ _ _ _ _ _ hdq3 hA ok₃ _ _ fun ρ4 Z4 H4 s4 c c' e₄ ok₄ rc hdq4=>?_
   cases rc
   induction c using Bool.casesOn with
   | false =>
    refine Za1 (ok₄.unpriv okD.g.base fun p hp o=>(hp2 p hp).2.2.1 o) fun u1 u2=>?_
    refine Za1 (unD u1) fun u3 u4=>?_
    clear hDq1 hP1 okD hDm unD ok₂ hp2 okp ok₃ ok₄ u1
    subst hob
    exact ⟨n,Nat.lt_succ_self _,i',fq3,H4,ρ4,Z4,P',rx,vs,ep,hdq4,(e₁.trans e₂).trans e₄,u3,u4,u2,hI.mono e₄ hr₂,hv₁.ext (e₂.trans e₄),by omega⟩
   | true =>
    refine he _ _ _ _ _ _ _ _ _ _ hdq4 hA ok₄ _ _ fun ρ5 Z5 H5 s₅ x y eq5 ok₅ rq5 hdq5=>?_
    refine Za1 (ok₅.unpriv okD.g.base fun p hp o=>(hp2 p hp).2.2.1 o) fun u1 u2=>?_
    refine Za1 (unD u1) fun u3 u4=>?_
    refine Za4 (u4 _ (List.mem_singleton.mpr rfl)) fun d1 d2 d3 d4 d5=>?_
    clear hDq1 hP1 okD hDm unD ok₂ hp2 okp ok₃ ok₄ ok₅ u1 u4
    subst hob
    have hvl:vs.length=rx.length:=by rw [← hv₁.1,List.length_reverse]
    refine call_meets F.slot_list_append ⟨_,d1,rfl⟩ F.entry_list_append (F.args_list_append_2 _ _) (list_append D vs.toArray ep y (by rw [List.size_toArray,hvl,sizeLine_eq]; omega)) ⟨d1,?_⟩
    have hup:IsL (s₅.heap.update D (Obj.mapSeq (·.push y))) D (vs++[y]).toArray (ep+1):=by
     have:=IsL.update d1 (·.push y)
     simpa using this
    have u5:OK C X' B' fq3 cenv ρ5 Z5 H5 { s₅ with heap:=s₅.heap.update D (Obj.mapSeq (·.push y)) }:=u3.extBut (Heap.SameBut.update ..).extBut d2 d3 d4 d5
    refine ⟨n,Nat.lt_succ_self _,i',fq3,H5,ρ5,Z5,P',x :: rx,vs++[y],ep+1,hdq5,((e₁.trans e₂).trans e₄).trans eq5,u5,fun p hp=>?_,fun p hp=>?_,hI.mono (e₄.trans eq5) hr₂,?_,by simp only [List.length_cons]; omega⟩
    ·rw [List.mem_singleton.mp hp]
     exact ⟨hup,d2,d3,d4,d5⟩
    ·nomatch Za4 (u2 p hp),u2,hp
     intro x1 x2 x3 x4 x5
     have hpD:p.1 ≠ D:=fun e=>x3 { cls:=.type "list",data:=.seq (vs:List Value).toArray ep } (.inr (by rw [e]; exact List.mem_singleton.mpr rfl))
     refine ⟨(Heap.get?_update_other _ _ (Ne.symm hpD)).trans x1,x2,fun o hb=>?_,x4,x5⟩
     rcases hb with hb | hb
     ·exact x3 o (.inl hb)
     ·have:=List.mem_singleton.mp hb
      cases this
      exact hpD rfl
    ·rw [List.reverse_cons]
     exact (hv₁.ext ((e₂.trans e₄).trans eq5)).append (.cons rq5 .nil)
end
section
variable {C:Cx} {X X':Sc} {B:Bz} {f:Fm} {env cenv:Env} {ρ:List Addr} {Z:Fz} {H H':HP} {s s':Shared} {A:Around}
theorem oj {I:Type} {rel:I->List Addr->Fz->Value->List (Addr × Obj)->Prop} {nx:I->HP->(AV->I->HP->Bool)->(HP->Bool)->Bool} {elt target iter:Ex} {ifs:List Ex} {scope:Scope} {pos:Pos} {a:DA} {dt:DB} {de:D}
  {tab ctab:List Str} {clay cel:List Nat} {nl:List (Option AV)} (hC:CompOK X scope ctab clay) (hnl:∀ (k:Nat) v,nl[k]?=some v->v=none)
  (hI:ItOK C rel nx) (ha:AS C ⟨ba scope X.sc,tab,ctab,X.cd,X.qual⟩ (assign target) a) (ht:STs C ⟨ba scope X.sc,tab,ctab,X.cd,X.qual⟩ ifs dt) (he:SE C ⟨ba scope X.sc,tab,ctab,X.cd,X.qual⟩ elt de)
  {dp:Nat} {k:List AV->HP->Bool} {i:I} {it:Value} {P:List (Addr × Obj)} {RR:Value->Addr->Result->Shared->Prop} {E:Value->Shared->Prop}
  (hd:sK nx a dt de dp k 100 i ⟨nl,cel⟩ H []=true) (hA:AOk dp A) (ok:OK C X B f env ρ Z H s) (hP:Pv B env.locals ρ Z s P) (hr:rel i ρ Z it P) (hcel:cel.length=clay.length∧∀ (n i j:Nat),clay[n]?=some i->cel[n]?=some j->f.cel[i]?=some j)
  {o:Obj} (ho:s.heap.get? env.locals=some o)
  (hRR:∀ D rx H' s' L,D ≠ 1->Done C ⟨ba scope X.sc,tab,ctab,X.cd,X.qual⟩ (B.add env.locals o) (compEnvC scope (dr env scope.names) L env) D ρ Z rx H' s'->k rx H'=true->RR (.ref D) L (.ok .next) s') :
  wpAny (model C.prog C.w) A (newList []) (fun acc s₃=>wpAny (model C.prog C.w) A (newFunctionEnv scope env.globals (dr env scope.names) [] env.qual none .none (some env)) (fun cenv s4 =>
   codeAny (model C.prog C.w) A (.compStart (.ListComp elt [⟨target,iter,ifs,0⟩] scope pos) 0 it acc { cenv with scope:=relabel scope env }) (RR acc cenv.locals) s4) E s₃) E s:=by
 refine wpAny_newObj_type (wpAny_newFunctionEnv hC.nocell (by intro y hy; simp at hy) (fun h₁ hns1 hsb₁=>?_) hC.kind)
 dsimp only at hns1 hsb₁ ⊢
 generalize hH2:s.heap.push { cls:=.type "list",dict:=none,data:=.seq ([]:List Value).toArray } = H2 at hns1 hsb₁ ⊢
 have hCL:H2.objs.size=s.heap.objs.size+1:=by rw [← hH2,Heap.size_push]
 have hDC:s.heap.objs.size ≠ H2.objs.size:=by rw [hCL]; exact Nat.ne_of_lt (Nat.lt_succ_self _)
 have old:∀ b o,s.heap.get? b=some o->h₁.get? b=some o:=fun b o e=>hsb₁.extBut b o (by rw [hCL]; exact Nat.ne_of_lt (Nat.lt_succ_of_lt (Heap.lt_size e))) (Heap.get?_push_of_some _ (hH2 ▸ Heap.get?_push_of_some _ e))
 have hacc:IsL h₁ s.heap.objs.size #[] 0:=hsb₁.extBut _ _ hDC (Heap.get?_push_of_some _ (hH2 ▸ Heap.get?_push_size _ rfl))
 have ok₁:=ok.enterC (tab:=tab) (ctab:=ctab) (nl:=nl) (cel:=cel) (t:=s.toks+([]:List (Str × Value)).length) hC ho hcel hnl (L:=H2.objs.size) (by rw [hCL]; exact Nat.le_succ _) old (Nat.le_add_right _ _) hns1
 refine Za3 (ok.fresh (Nat.le_refl s.heap.objs.size)) fun f1 f2 f3 f4=>?_
 have hDP:Pv (B.add env.locals o) H2.objs.size ρ Z { s with heap:=h₁,toks:=s.toks+([]:List (Str × Value)).length } [(s.heap.objs.size,{ cls:=.type "list",data:=.seq #[] })]:=by
  intro p hp
  rw [List.mem_singleton.mp hp]
  refine ⟨hacc,f1,?_,f3,hDC⟩
  rintro o' (e | ⟨e,rfl⟩)
  ·exact f2 _ e
  ·exact f4 e
 have hPP:Pv (BP (B.add env.locals o) [(s.heap.objs.size,{ cls:=.type "list",data:=.seq #[] })]) H2.objs.size ρ Z { s with heap:=h₁,toks:=s.toks+([]:List (Str × Value)).length } P:=by
  intro p hp
  nomatch Za4 (hP p hp),hP,hp
  intro p1 p2 p3 p4 p5
  have hlt:=Heap.lt_size p1
  refine ⟨old _ _ p1,p2,?_,p4,by rw [hCL]; exact Nat.ne_of_lt (Nat.lt_succ_of_lt hlt)⟩
  rintro o' ((e | ⟨e,rfl⟩) | e)
  ·exact p3 _ e
  ·exact p5 e
  ·have:=List.mem_singleton.mp e
   have e2:p.1=s.heap.objs.size:=congrArg Prod.fst this
   exact Nat.ne_of_lt hlt e2
 have loop:codeAny (model C.prog C.w) A (.compLoop (.ListComp elt [⟨target,iter,ifs,0⟩] scope pos) 0 it (.ref s.heap.objs.size) (compEnvC scope (dr env scope.names) H2.objs.size env)) (RR (.ref s.heap.objs.size) H2.objs.size) { s with heap:=h₁,toks:=s.toks+([]:List (Str × Value)).length } :=
  qo (cenv:=compEnvC scope (dr env scope.names) H2.objs.size env) hI ha ht he hd hA ok₁ hDP hPP hr fun rx H' s' hdone hk=>hRR _ rx H' s' _ (ok.g.fresh1 (Nat.le_refl _)) hdone hk
 exact codeAny_compStart_list loop (hI.self hr _ _ _ _ (fun p hp=>(hPP p hp).1) loop)
theorem Done.back {tab ctab:List Str} {scope:Scope} {o:Obj} (ok:OK C X B f env ρ Z H s) (ho:s.heap.get? env.locals=some o) {D L:Addr} {rx:List AV}
  (hd:Done C X' (B.add env.locals o) (compEnvC scope (dr env scope.names) L env) D ρ Z rx H' s') :
  ∃ ρ' Z' vs ep m,Ext ρ Z ρ' Z'∧OK C X B f env ρ' Z' H' s'∧s'.heap.Ns L m∧(L ∉ ρ'∧(∀ o,¬ B L o)∧(∀ o,¬ Z'.ob L o)∧L ≠ env.locals)∧IsL s'.heap D (vs:List Value).toArray ep∧(D ∉ ρ'∧(∀ o,¬ B D o)∧(∀ o,¬ Z'.ob D o)∧D ≠ env.locals)∧D ≠ L∧VRs C.σ ρ' Z' rx.reverse vs:=by
 refine Ze4 hd.ex fun ρ' Z' f' vs zw0=>?_
 refine cJ zw0 fun ep e ok' hD zw1=>?_
 refine Za1 zw1 fun hv _=>?_
 refine ad ok'.f.ns fun m hm _=>?_
 refine Za4 (hD _ (List.mem_singleton.mpr rfl)) fun d1 d2 d3 d4 d5=>?_
 have hLl:L ≠ env.locals:=fun h=>ok'.g.lb o (h ▸ Bz.add_here)
 exact (qv ρ' Z' vs ep m e (ok.leave ho e.p e.z ok'.g) hm ⟨ok'.g.lρ,fun o' hb=>ok'.g.lb o' (.inl hb),ok'.g.lz,hLl⟩ d1 ⟨d2,fun o' hb=>d3 o' (.inl hb),d4,fun h=>d3 o (h ▸ Bz.add_here)⟩ d5 hv)
def hW {I:Type} (nx:I->HP->(AV->I->HP->Bool)->(HP->Bool)->Bool) (di:Nat->Fm->HP->(I->HP->Bool)->Bool) (nl:List (Option AV)) (clay:List Nat) (a:DA) (dt:DB) (de:D):D :=
 fun dp f H k=>lO clay f.cel fun cel=>di dp f H fun i H=>sK nx a dt de dp (fun rx H=>jO rx 0 fun n=>H.push (.list n rx) fun j H=>k (.ref j) H) 100 i ⟨nl,cel⟩ H []
theorem gH {I:Type} {rel:I->List Addr->Fz->Value->List (Addr × Obj)->Prop} {nx:I->HP->(AV->I->HP->Bool)->(HP->Bool)->Bool} {elt target iter:Ex} {ifs:List Ex} {scope:Scope} {pos:Pos} {a:DA} {dt:DB} {de:D}
  {di:Nat->Fm->HP->(I->HP->Bool)->Bool} {tab ctab:List Str} {clay:List Nat} {nl:List (Option AV)} (hC:CompOK X scope ctab clay) (hnl:∀ (k:Nat) v,nl[k]?=some v->v=none)
  (hI:ItOK C rel nx) (hi:SI C X rel iter di) (ha:AS C ⟨ba scope X.sc,tab,ctab,X.cd,X.qual⟩ (assign target) a) (ht:STs C ⟨ba scope X.sc,tab,ctab,X.cd,X.qual⟩ ifs dt) (he:SE C ⟨ba scope X.sc,tab,ctab,X.cd,X.qual⟩ elt de)
  (hs:∀ env x,foldedSetIterable iter env x=pure x):SE C X (.ListComp elt [⟨target,iter,ifs,0⟩] scope pos) (hW nx di nl clay a dt de):=by
 intro dp f H k A env B ρ Z s hd hA ok Q E hQ
 refine ad (eK hd) fun cel hd' hcel=>?_
 refine (?_:wpAny _ _ (eval (.ListComp elt [⟨target,iter,ifs,0⟩] scope pos) env) _ _ _)
 rw [eval_ListComp]
 refine wpAny_comprehension_free (use:=none) rfl (hs env) (fU ok hC hcel) hC.kind hC.loc ?_
 refine hi _ _ _ _ _ _ _ _ _ _ hd' hA ok _ _ fun ρ₁ Z₁ H₁ s₁ i P it e₁ ok₁ hp1 hrq1 hdq1=>?_
 refine Ze1 ok₁.localsObj fun o ho=>?_
 refine oj hC hnl hI ha ht he hdq1 hA ok₁ hp1 hrq1 hcel ho fun D rx H₂ sq2 L hD1 hdone hk=>?_
 refine Ze4 (hdone.back (tab:=tab) (ctab:=ctab) ok₁ ho) fun ρ2 Z₂ vs ep zw0=>?_
 refine cJ zw0 fun m e₂ ok₂ hm zw1=>?_
 refine Za4 zw1 fun hL hDl hDf hDL hv=>?_
 refine ⟨m,hm,fun h' hs'=>?_⟩
 have ok₃:=ok₂.extBut hs'.extBut hL.1 hL.2.1 hL.2.2.1 hL.2.2.2
 rw [dL,Nat.add_zero] at hk
 refine aU (HP.push_spec hk) fun H' g1 g2 g3=>?_
 refine Za1 (ok₃.adoptL (n:=rx.length) (rx:=rx) (hs'.extBut _ _ hDL hDl) hDf hD1 g2 g3 hv rfl) fun o1 o2=>?_
 exact hQ _ _ _ _ _ _ ((e₁.trans e₂).trans Ext.snoc) o1 o2 g1
theorem ll {I:Type} {rel:I->List Addr->Fz->Value->List (Addr × Obj)->Prop} {nx:I->HP->(AV->I->HP->Bool)->(HP->Bool)->Bool} {elt target iter:Ex} {ifs:List Ex} {scope:Scope} {pos spos py:Pos} {a:DA} {dt:DB} {de:D} {y:Str} {iy:Nat}
  {di:Nat->Fm->HP->(I->HP->Bool)->Bool} {tab ctab:List Str} {clay:List Nat} {nl:List (Option AV)} (hC:CompOK X scope ctab clay) (hnl:∀ (k:Nat) v,nl[k]?=some v->v=none)
  (hk:X.sc.kind = .function) (hl:X.sc.names.lookup y=some .local) (hiy:X.tab[iy]?=some y) (hn:X.tab.Nodup)
  (hI:ItOK C rel nx) (hi:SI C X rel iter di) (ha:AS C ⟨ba scope X.sc,tab,ctab,X.cd,X.qual⟩ (assign target) a) (ht:STs C ⟨ba scope X.sc,tab,ctab,X.cd,X.qual⟩ ifs dt) (he:SE C ⟨ba scope X.sc,tab,ctab,X.cd,X.qual⟩ elt de)
  (hs:∀ env x,foldedSetIterable iter env x=pure x) (hsw:∀ env:Env,env.scope=X.sc->swapsWith (.ListComp elt [⟨target,iter,ifs,0⟩] scope pos) (some (.Name y py)) spos.line env=pure true) :
  S1 C X (.Assign [.Name y py] (.ListComp elt [⟨target,iter,ifs,0⟩] scope pos) spos) (b9 iy (hW nx di nl clay a dt de)):=by
 intro dp f H kn kr A env B ρ Z s hd hA ok Q E hQn hQr
 nomatch ad (eK hd),hd
 intro cel hd' hcel
 refine (?_:wpAny _ _ (exec (.Assign [.Name y py] (.ListComp elt [⟨target,iter,ifs,0⟩] scope pos) spos) env) _ _ _)
 rw [exec_Assign_Name_used _ _ _ _ (hsw env ok.f.sc)]
 refine ZB (wpAny_standAt (ZB ?_))
 refine (?_:wpAny _ A (do let _ ← comprehension (.ListComp elt [⟨target,iter,ifs,0⟩] scope pos) scope env _ (newList []) false (eval iter env) (some (assign (.Name y py) env))) _ _ s)
 refine ZB (wpAny_mono (wpAny_comprehension_free (use:=some (assign (.Name y py) env)) (Q:=fun _ s'=>Q .next s') rfl (hs env) (fU ok hC hcel) hC.kind hC.loc ?_) (fun _ s' hq=>ZP (ZP hq)) fun _ _ e=>e)
 refine hi _ _ _ _ _ _ _ _ _ _ hd' hA ok _ _ fun ρ₁ Z₁ H₁ s₁ i P it e₁ ok₁ hp1 hrq1 hdq1=>?_
 refine Ze1 ok₁.localsObj fun o ho=>?_
 refine oj (RR:=fun acc C'=>compPost (model C.prog C.w) A E (some (assign (.Name y py) env)) (fun _ s'=>Q .next s') acc C') hC hnl hI ha ht he hdq1 hA ok₁ hp1 hrq1 hcel ho fun D rx H₂ sq2 L hD1 hdone hk'=>?_
 nomatch Ze4 (hdone.back (tab:=tab) (ctab:=ctab) ok₁ ho),ok₁,ho,hdone
 intro ρ2 Z₂ vs ep zw0
 nomatch cJ zw0,zw0
 intro m e₂ ok₂ hm zw1
 nomatch Za4 zw1,zw1
 intro hL hDl hDf hDL hv
 rw [dL,Nat.add_zero] at hk'
 nomatch aU (HP.push_spec hk'),hk'
 intro H' g1 g2 g3
 nomatch da (id hm),hm
 intro oL es epL hoL m2 m3 m4
 have hPL:Pv B env.locals ρ2 Z₂ sq2 [(L,oL)]:=fun p hp=>by rw [List.mem_singleton.mp hp]; exact ⟨hoL,hL⟩
 have okL:=ok₂.priv hPL
 have hDf':D ∉ ρ2∧(∀ o,¬ (BP B [(L,oL)]) D o)∧(∀ o,¬ Z₂.ob D o)∧D ≠ env.locals:=⟨hDf.1,fun o' hb=>by
  rcases hb with hb | hb
  ·exact hDf.2.1 _ hb
  ·exact hDL (congrArg Prod.fst (List.mem_singleton.mp hb)),hDf.2.2.1,hDf.2.2.2⟩
 refine Za1 (okL.adoptL (n:=rx.length) (rx:=rx) hDl hDf' hD1 g2 g3 hv rfl) fun o1 o2=>?_
 refine wpAny_assign_Name (fj hk hl hiy hn g1 o1 o2 fun s₃ fq3 ok₃ hkq3=>?_)
 refine Za1 (ok₃.unpriv ok₂.g.base fun p hp o=>by rw [List.mem_singleton.mp hp]; exact hL.2.1 o) fun u1 u2=>?_
 refine Za4 (u2 _ (List.mem_singleton.mpr rfl)) fun v1 v2 v3 v4 v5=>?_
 refine (am m ⟨oL,es,epL,v1,m2,m3,m4⟩ (fun h' hs'=>?_))
 exact hQn _ _ _ _ _ ((e₁.trans e₂).trans Ext.snoc) (u1.extBut hs'.extBut v2 v3 v4 v5) hkq3
end
section
variable {C:Cx} {X X':Sc} {B:Bz} {f:Fm} {env cenv:Env} {ρ:List Addr} {Z:Fz} {H H':HP} {s s':Shared} {A:Around}
def qW (i:Nat) (v:AV) (f:Fm) (H:HP) (k:HP->Bool):Bool:=@Fm.rec (fun _=>Bool) (fun _ cel=>i8 cel i fun j=>H.getK j fun ao=>@AO.rec (fun _=>Bool) (fun _ _=>false) (fun _=>false) (fun _=>false) (fun _=>false) (fun _=>H.set j (.cell (some v)) k) (fun _=>false) ao) f
theorem lB {x:Str} {i:Nat} {av:AV} {v:Value} {nk:NameKind} {k:HP->Bool} {Q:Unit->Shared->Prop} {E:Value->Shared->Prop} (hk:X.sc.kind = .function) (hl:X.sc.names.lookup x=some nk) (hn:nk = .cell∨nk = .free) (hi:X.ctab[i]?=some x)
  (hd:qW i av f H k=true) (ok:OK C X B f env ρ Z H s) (r:VRel C.σ ρ Z av v) (h:∀ H' s',OK C X B f env ρ Z H' s'->k H'=true->Q () s'):wpAny (model C.prog C.w) A (storeName env x v) Q E s:=by
 obtain ⟨loc,cel⟩:=f
 nomatch ad (cU hd),hd
 intro j h1 h2
 skip
 nomatch ad (HP.getK_true h2),h2
 intro ao h3 h4
 induction ao using AO.casesOn with
 | cell vq0 =>
  nomatch ad (ok.f.ce i x j hi h1),hi,h1
  intro a c1 c2
  refine ay (ok.g.obj j a c2) fun ao o e1 e2 e3=>?_
  rw [h3] at e1
  injections e1
  have zh4:∃ w,s.heap.IsCell a w:=by
   rcases e3 with ⟨q,_⟩ | ⟨p,q,_,q2,_⟩
   ·exact ⟨none,o,e2,q⟩
   ·exact ⟨some q,o,e2,q2⟩
  nomatch Ze1 zh4,zh4
  intro w hc
  nomatch aU (HP.set_spec h4),h4
  intro H' g1 g2 g3
  have hkk:env.scope.kind = .function:=by rw [ok.f.sc]; exact hk
  have hll:env.kindOf x=some nk:=by show env.scope.names.lookup x=_; rw [ok.f.sc]; exact hl
  have fin:∀ h',h'.IsCell a (some v)->Heap.SameBut a s.heap h'->Q () { s with heap:=h' }:=by
   intro h' zr23_1
   refine ad zr23_1 fun o' q1 q2=>?_
   intro hs
   exact h H' _ (ok.update g2 g3 c2 hs q1 (.inr (aK av v rfl q2 r))) g1
  rcases hn with rfl | rfl
  ·exact wpAny_storeName_cell hkk hll c1 hc fin
  ·exact storeName_free hkk hll c1 hc fin
 | _=>exact ffE h4
def gK (i:Nat) (d:D):DS:=fun dp f H kn kr=>d dp f H fun v H=>qW i v f H fun H=>kn f H
theorem gr {x:Str} {pos':Pos} {e:Ex} {pos:Pos} {i:Nat} {d:D} {nk:NameKind} (hk:X.sc.kind = .function) (hl:X.sc.names.lookup x=some nk) (hn:nk = .cell∨nk = .free) (hi:X.ctab[i]?=some x) (h:SE C X e d)
  (hs:∀ env:Env,env.scope=X.sc->swapsWith e (some (.Name x pos')) pos.line env=pure false):S1 C X (.Assign [.Name x pos'] e pos) (gK i d) :=
 fun dp f H kn kr A env B ρ Z s hd hA ok Q E hn' hr=>wpAny_Assign_Name (h _ _ _ _ _ _ _ _ _ _ hd hA ok _ _ fun ρ₁ Z₁ H₁ s₁ av v e₁ ok₁ r hdq1 =>
  lB hk hl hn hi hdq1 ok₁ r fun H' s' ok' hk'=>hn' _ _ _ _ _ e₁ ok' hk') (hs env ok.f.sc)
theorem OK.updExt (h:OK C X B f env ρ Z H s) {j:Nat} {a b:Addr} {o ob:Obj} {ao:AO} {h':Heap} {t:Nat} (hn:H'.n=H.n) (hg:∀ i,H'.get i=if i=j then some ao else H.get i) (hj:ρ[j]?=some a)
  (hs:Heap.ExtBut a s.heap h') (he:h'.get? a=some o) (hb:h'.get? b=some ob) (hbs:s.heap.objs.size≤b) (ho:ORel C ρ (Z.add b ob) ao o) (ht:s.toks≤t):OK C X B f env ρ (Z.add b ob) H' { s with heap:=h',toks:=t }:=by
 have ham:a∈ρ:=ZbM hj
 nomatch Za3 (h.fresh hbs),hbs
 intro f1 f2 f3 f4
 have hρ:ρ <+: ρ:=List.prefix_refl _
 have hZ:Z.le (Z.add b ob):=Fz.le_add
 refine Ze1 h.localsObj fun oL hL=>?_
 have hLa:env.locals ≠ a:=fun e=>h.g.lρ (e ▸ ham)
 refine ⟨⟨h.g.base,fun c o' e=>hs c o' (fun z=>h.g.ab a ham o' (z ▸ e)) (h.g.b c o' e),?_,by rw [hn]; exact h.g.len,fun i c e=>?_,h.g.nd1,h.g.ab,?_,h.g.lρ,h.g.lb,?_,?_,Heap.lt_size (hs _ _ hLa hL),?_,fun q=>Nat.le_trans (h.g.tk q) ht,fun u v e=>⟨(h.g.tkb u v e).1,Nat.lt_of_lt_of_le (h.g.tkb u v e).2 ht⟩,h.g.tkf,h.g.tabs⟩,⟨h.f.sc,h.f.gl,h.f.bl,h.f.cd,h.f.qual,?_,h.f.ce⟩⟩
 ·rintro c o' (e | ⟨rfl,rfl⟩)
  ·exact hs c o' (fun z=>h.g.az a ham o' (z ▸ e)) (h.g.z c o' e)
  ·exact hb
 ·by_cases hij:i=j
  ·subst hij
   have hba:c=a:=Option.some.inj (e.symm.trans hj)
   clear hs ham hLa hj
   subst hba
   exact (aK ao o (by rw [hg,if_pos rfl]) he ho)
  ·refine ay (h.g.obj i c e) fun ao' o' e1 e2 e3=>?_
   have hne:c ≠ a:=by
    intro z
    clear hs he ham hLa
    subst z
    have h1:=(ZbS e).1
    exact hij ((List.getElem?_inj h1 h.g.nd).mp (e.trans hj.symm))
   exact (aK ao' o' (by rw [hg,if_neg hij]; exact e1) (hs c _ hne e2) (e3.mono hρ hZ))
 ·rintro c hc o' (e | ⟨rfl,rfl⟩)
  ·exact h.g.az c hc o' e
  ·exact f1 hc
 ·rintro o' (e | ⟨e,rfl⟩)
  ·exact h.g.lz o' e
  ·exact f4 e.symm
 ·rintro c o' o'' (e | ⟨rfl,rfl⟩) hb'
  ·exact h.g.zb c o' o'' e hb'
  ·exact f2 _ hb'
 ·refine Ze2 h.g.same fun hh t' e=>?_
  exact (lx h' t (by rw [e]))
 ·refine ad h.f.ns fun m p1 p2=>?_
  exact (am m (p1.extBut hs hLa) (fun k x v a b=>(p2 k x v a b).mono hρ hZ))
theorem y4 {M:Model} {E:Value->Shared->Prop} {name qual:Str} {params:Arguments} {fb:FuncBody} {body:List Stmt} {scope:Scope} {env:Env} {c P:Addr} {ps:Array Value} {pos:Pos} {firstLine:Nat} {mg:Str->Option Value} {clos:List (Str × Addr)} {Q:Value->Shared->Prop}
  (hcl:closureFor scope env=pure clos) (hge0:env.globals=mainGlobals) (hg:s.heap.Ns mainGlobals mg) (hcode:env.code = .ref c) (hC:CodeHd s.heap c P) (hP:s.heap.get? P=some (tabObj ps)) (ht:TriplesOk ps.toList)
  (hnf:codeAmong pos ps.toList=none) (hgP:mainGlobals ≠ P) (hb:s.heap.BuiltinsAt mg P) (hfb:fb = .stmts body) (hdoc:docOf body=none)
  (h:∀ c' ctv h' tk,Heap.ExtBut P s.heap h'->s.heap.objs.size≤c'->h'.CodeRec (.ref c') qual->h'.get? P=some (tabObj (ps++#[rawInt pos.line,rawInt pos.col,.ref c'])) ->
   Q (.ref h'.objs.size) { s with heap:=h'.push { cls:=.type "function",data:=.func { name,qualname:=qual,params,body:=fb,scope,globals:=mainGlobals,closure:=clos,defaults:=.none,kwdefaults:=.none,doc:=.none,pyModule:=(mg "__name__").getD .none,annotations:=none,code:=.ref c',closureTuple:=ctv,builtins:=builtinsNs } },toks:=tk }) :
  wpAny M A (makeFunction name qual params fb scope env [] [] [] pos firstLine) Q E s:=by
 subst hfb
 rw [makeFunction_eq]
 simp only [List.zip_nil_right,List.filterMap_nil,List.isEmpty_nil,if_true,pure_bind]
 nomatch dO hb,hb
 intro bm ob hbm hne0 _ hneP zw0
 nomatch Za3 zw0,zw0
 intro hbo hcls hdict hdata
 unfold makeTail
 rw [hcl,hge0]
 refine ZB (ZP ?_)
 induction clos using List.casesOn with
 | nil =>
  simp only [List.isEmpty_nil,if_true]
  refine ZB (ZP ?_)
  refine ZB (wpAny_functionCodeX hcode (hC.code hP ht) (hC.tab hP) hnf fun c' h' tk hx hge hlt _ hrec htb _=>?_)
  have hg':=hg.extBut hx hgP
  refine ZB (wpAny_builtinsFor hg' hbm hne0 (hx _ _ hneP hbo) hcls hdict hdata ?_)
  refine ZB (wpAny_nsGet hg' ?_)
  simp only [hdoc]
  exact ZB (ZP (wpAny_newObj_type (h c' .none h' tk hx hge hrec htb.2) (by size_fits)))
 | cons q r =>
  simp only [List.isEmpty_cons,Bool.false_eq_true,if_false]
  refine ZB (wpAny_newTextTuple ?_)
  refine ZB (wpAny_functionCodeX hcode ((hC.keeps fun b o e=>Heap.get?_push_of_some _ e).code (Heap.get?_push_of_some _ hP) ht) ((hC.keeps fun b o e=>Heap.get?_push_of_some _ e).tab (Heap.get?_push_of_some _ hP)) hnf fun c' h' tk hx hge hlt _ hrec htb _=>?_)
  have hg':=(hg.push _).extBut hx hgP
  have hx':Heap.ExtBut P s.heap h':=fun b o hb' e=>hx b o hb' (Heap.get?_push_of_some _ e)
  have hge':s.heap.objs.size≤c':=Nat.le_trans (by rw [Heap.size_push]; exact Nat.le_succ _) hge
  refine ZB (wpAny_builtinsFor hg' hbm hne0 (hx' _ _ hneP hbo) hcls hdict hdata ?_)
  refine ZB (wpAny_nsGet hg' ?_)
  simp only [hdoc]
  exact ZB (ZP (wpAny_newObj_type (h c' _ h' tk hx' hge' hrec htb.2) (by size_fits)))
theorem y9 {M:Model} {E:Value->Shared->Prop} {name qual:Str} {params:Arguments} {fb:FuncBody} {body:List Stmt} {scope:Scope} {env:Env} {c P:Addr} {ps:Array Value} {pos:Pos} {firstLine:Nat} {mg:Str->Option Value} {clos:List (Str × Addr)} {cv:Value} {Q:Value->Shared->Prop}
  (hcl:closureFor scope env=pure clos) (hge0:env.globals=mainGlobals) (hg:s.heap.Ns mainGlobals mg) (hcode:env.code = .ref c) (hC:CodeHd s.heap c P) (hP:s.heap.get? P=some (tabObj ps)) (ht:TriplesOk ps.toList)
  (hf:codeAmong pos ps.toList=some cv) (hb:s.heap.BuiltinsAt mg P) (hfb:fb = .stmts body) (hdoc:docOf body=none)
  (h:∀ (ctv:Value) (h':Heap),(∀ b o,s.heap.get? b=some o->h'.get? b=some o) ->
   Q (.ref h'.objs.size) { s with heap:=h'.push { cls:=.type "function",data:=.func { name,qualname:=qual,params,body:=fb,scope,globals:=mainGlobals,closure:=clos,defaults:=.none,kwdefaults:=.none,doc:=.none,pyModule:=(mg "__name__").getD .none,annotations:=none,code:=cv,closureTuple:=ctv,builtins:=builtinsNs } } }) :
  wpAny M A (makeFunction name qual params fb scope env [] [] [] pos firstLine) Q E s:=by
 subst hfb
 rw [makeFunction_eq]
 simp only [List.zip_nil_right,List.filterMap_nil,List.isEmpty_nil,if_true,pure_bind]
 nomatch dO hb,hb
 intro bm ob hbm hne0 _ hneP zw0
 nomatch Za3 zw0,zw0
 intro hbo hcls hdict hdata
 unfold makeTail
 rw [hcl,hge0]
 refine ZB (ZP ?_)
 induction clos using List.casesOn with
 | nil =>
  simp only [List.isEmpty_nil,if_true]
  refine ZB (ZP ?_)
  refine ZB (wpAny_functionCode_hit hcode (hC.code hP ht) hf ?_)
  refine ZB (wpAny_builtinsFor hg hbm hne0 hbo hcls hdict hdata ?_)
  refine ZB (wpAny_nsGet hg ?_)
  simp only [hdoc]
  exact ZB (ZP (wpAny_newObj_type (h .none s.heap fun _ _ e=>e) (by size_fits)))
 | cons q r =>
  simp only [List.isEmpty_cons,Bool.false_eq_true,if_false]
  refine ZB (wpAny_newTextTuple ?_)
  refine ZB (wpAny_functionCode_hit hcode ((hC.keeps fun b o e=>Heap.get?_push_of_some _ e).code (Heap.get?_push_of_some _ hP) ht) hf ?_)
  refine ZB (wpAny_builtinsFor (hg.push _) hbm hne0 (Heap.get?_push_of_some _ hbo) hcls hdict hdata ?_)
  refine ZB (wpAny_nsGet (hg.push _) ?_)
  simp only [hdoc]
  exact ZB (ZP (wpAny_newObj_type (h _ _ fun b o e=>Heap.get?_push_of_some _ e) (by size_fits)))
def Iw (ao:AO) (k:Option Nat->Bool):Bool:=@AO.rec (fun _=>(Option Nat->Bool)->Bool) (fun _ _ k=>false) (fun _ k=>false) (fun _ k=>false) (fun _ k=>false) (fun _ k=>false) (fun e k=>k e) ao k
def AA (id jt:Nat) (cs:List Nat) (H:HP) (k:AV->HP->Bool):Bool:=H.getK jt fun ao=>Iw ao fun e=>@Option.rec Nat (fun _=>Bool) (H.set jt (.tab (some id)) fun H=>k (.fn id cs) H) (fun i=>aB (Nat.beq i id) (k (.fn id cs) H)) e
structure DefOK (C:Cx) (X:Sc) (id jt:Nat) (c P:Addr) (T:FnT) (name:Str) (pos:Pos):Prop where
 cd:X.cd = .ref c
 hd:CodeHd C.G c P
 tab:C.tabs[jt]?=some P
 fn:C.σ.fns id=some T
 line:T.line=pos.line
 col:T.col=pos.col
 notg:mainGlobals ≠ P
 qual:T.qual=(if X.sc.names.lookup name==some .globalExplicit then name else X.qual++name)
theorem Dd {id jt:Nat} {c P:Addr} {T:FnT} {name:Str} {pos:Pos} {body:List Stmt} {firstLine:Nat} {clay cel:List Nat} {k:AV->HP->Bool} {Q:Value->Shared->Prop} {E:Value->Shared->Prop} (hD:DefOK C X id jt c P T name pos) (hb:T.body = .stmts body) (hdoc:docOf body=none)
  (hfree:∀ x∈T.scope.names,x.2 = .free->x.1∈T.ctab) (hisf:∀ x∈T.ctab,(x,NameKind.free)∈T.scope.names) (hlen:clay.length=T.ctab.length) (hat:∀ (k:Nat) x i,T.ctab[k]?=some x->clay[k]?=some i->X.ctab[i]?=some x)
  (hcel:cel.length=clay.length∧∀ (n i j:Nat),clay[n]?=some i->cel[n]?=some j->f.cel[i]?=some j) (hd:AA id jt cel H k=true) (ok:OK C X B f env ρ Z H s)
  (hQ:∀ ρ' Z' H' s' b a,Ext ρ Z ρ' Z'->OK C X B f env ρ' Z' H' s'->VRel C.σ ρ' Z' b a->k b H'=true->Q a s') :
  wpAny (model C.prog C.w) A (makeFunction name T.qual T.params T.body T.scope env [] [] [] pos firstLine) Q E s:=by
 have hcl:closureFor T.scope env=pure (dr env T.scope.names):=ft fun x hx hf=>by
  refine Ze1 (List.getElem?_of_mem (hfree x hx hf)) fun k hk=>?_
  have hkc:k<clay.length:=by rw [hlen]; exact (ZbS hk).1
  have hi:clay[k]?=some clay[k]:=by simp [hkc]
  have hj:cel[k]?=some (cel[k]'(by rw [hcel.1]; exact hkc)):=by simp [hcel.1,hkc]
  refine ad (ok.f.ce _ x.1 _ (hat k x.1 _ hk hi) (hcel.2 k _ _ hi hj)) fun c c1 c2=>?_
  exact ⟨c,c1⟩
 have hclos:∀ ρ',ρ <+: ρ'->∀ (k:Nat) x j,T.ctab[k]?=some x->cel[k]?=some j->∃ b,(dr env T.scope.names).lookup x=some b∧ρ'[j]?=some b:=by
  intro ρ' hρ' k x j hk hj
  have hkc:k<clay.length:=by rw [hlen]; exact (ZbS hk).1
  have hi:clay[k]?=some clay[k]:=by simp [hkc]
  refine ad (ok.f.ce _ x _ (hat k x _ hk hi) (hcel.2 k _ _ hi hj)) fun c c1 c2=>?_
  exact (am c (iM (hisf x (ZbM hk)) c1) (bz hρ' c2))
 refine ad (HP.getK_true hd) fun ao h1 h2=>?_
 have hP:=ok.g.tabs jt P hD.tab
 refine ay (ok.g.obj jt P hP) fun ao' oP e1 e2 e3=>?_
 rw [h1] at e1
 injections e1
 have hCH:CodeHd s.heap c P:=hD.hd.keeps fun b o e=>ok.g.b b o (ok.g.base b o e)
 have hbm:s.heap.BuiltinsAt C.mg P:=(C.bma P (ZbM hD.tab)).keeps fun b o e=>ok.g.b b o (ok.g.base b o e)
 have hcode:env.code = .ref c:=by rw [ok.f.cd]; exact hD.cd
 induction ao using AO.casesOn with
 | tab e =>
  induction e using Option.casesOn with
  | none =>
   have hoP:oP=tabObj #[]:=e3
   clear e3
   subst hoP
   change H.set jt (.tab (some id)) (fun H=>k (.fn id cel) H)=true at h2
   nomatch aU (HP.set_spec h2),h2
   intro H' g1 g2 g3
   refine wpAny_with_toks (n:=s.toks) (Nat.le_refl _) (y4 hcl ok.f.gl ok.glob hcode hCH e2 trivial rfl hD.notg hbm hb hdoc fun c' ctv h' tk hx hge hrec htb ht=>?_)
   nomatch Ze4 hrec,hrec
   intro cq2 oc vs t zw0
   nomatch Za3 zw0,zw0
   intro q1 q2 q3 q4
   cases q1
   have ok1:=ok.updExt (t:=tk) (j:=jt) (ao:=.tab (some id)) g2 g3 hP hx htb q2 hge ⟨T,c',oc,vs,t,hD.fn,by rw [hD.line,hD.col]; rfl,Fz.add_here,q3,q4⟩ ht
   have ok2:=ok1.freeze (o:={ cls:=.type "function",data:=.func (iK T name (dr env T.scope.names) .none ((C.mg "__name__").getD .none) (.ref c') ctv) }) rfl
   exact hQ ρ ((Z.add c' oc).add h'.objs.size _) H' _ (.fn id cel) _ ⟨List.prefix_refl _,⟨fun a o e=>Or.inl (Or.inl e),fun t v e=>e⟩⟩ ok2 (.fn (doc:=.none) (ct:=ctv) (nm:=name) (pm:=(C.mg "__name__").getD .none) hD.fn Fz.add_here (Or.inl Fz.add_here) q3 q4 (hclos ρ (List.prefix_refl _))) g1
  | some i =>
   refine Za1 (af h2) fun g0 g1=>?_
   have:=ZbE g0
   clear hd h2 g0
   subst this
   nomatch Ze4 e3,e3
   intro T' c' oc vs zw0
   nomatch cJ zw0,zw0
   intro u k1 zq6 k3 zw1
   nomatch Za1 zw1,zw1
   intro k4 k5
   subst zq6
   rw [hD.fn] at k1
   injections k1
   have hf:codeAmong pos (#[rawInt T.line,rawInt T.col,.ref c']:Array Value).toList=some (.ref c'):=by
    rw [hD.line,hD.col]
    simp [codeAmong,rawInt]
   refine y9 hcl ok.f.gl ok.glob hcode hCH e2 trivial hf hbm hb hdoc fun ctv h' hk=>?_
   have ok1:=ok.grown (t:=s.toks) hk (Nat.le_refl _)
   have ok2:=ok1.freeze (o:={ cls:=.type "function",data:=.func (iK T name (dr env T.scope.names) .none ((C.mg "__name__").getD .none) (.ref c') ctv) }) rfl
   exact hQ ρ (Z.add h'.objs.size _) H _ (.fn i cel) _ Ext.fz ok2 (.fn (doc:=.none) (ct:=ctv) (nm:=name) (pm:=(C.mg "__name__").getD .none) hD.fn Fz.add_here (Or.inl k3) k4 k5 (hclos ρ (List.prefix_refl _))) g1
 | _=>exact ffE h2
def C6 (id jt ic:Nat) (clay:List Nat):DS:=fun dp f H kn kr=>lO clay f.cel fun cs=>AA id jt cs H fun v H=>qW ic v f H fun H=>kn f H
theorem HT {name:Str} {args:Arguments} {body:List Stmt} {scope:Scope} {pos:Pos} {id jt ic:Nat} {c P:Addr} {T:FnT} {clay:List Nat} {nk:NameKind} (hD:DefOK C X id jt c P T name pos) (hp:T.params=args) (hb:T.body = .stmts body) (hsc:T.scope=scope) (hdoc:docOf body=none)
  (hfree:∀ x∈T.scope.names,x.2 = .free->x.1∈T.ctab) (hisf:∀ x∈T.ctab,(x,NameKind.free)∈T.scope.names) (hlen:clay.length=T.ctab.length) (hat:∀ (k:Nat) x i,T.ctab[k]?=some x->clay[k]?=some i->X.ctab[i]?=some x)
  (hk:X.sc.kind = .function) (hl:X.sc.names.lookup name=some nk) (hn:nk = .cell∨nk = .free) (hic:X.ctab[ic]?=some name) (hdef:∀ env,defaultsOf args env=([],[])) (hann:∀ env,annTrees args none env=[]) :
  S1 C X (.FunctionDef name args body [] none [] scope none name pos) (C6 id jt ic clay):=by
 intro dp f H kn kr A env B ρ Z s hd hA ok Q E hQn hQr
 refine ad (eK hd) fun cel hd' hcel=>?_
 refine (?_:wpAny _ _ (exec (.FunctionDef name args body [] none [] scope none name pos) env) _ _ _)
 rw [exec_def,hdef,hann]
 have hq:qualnameIn env name name=T.qual:=by
  unfold qualnameIn Env.kindOf
  rw [ok.f.sc,ok.f.qual,hD.qual]
 rw [hq,← hp,← hb,← hsc]
 refine ZB (wpAny_standAt (ZB (wpAny_holding ?_)))
 refine ZB (ZP (ZB (wpAny_holding (ZP ?_))))
 refine wpAny_holding (ZB (ZP ?_))
 refine Dd hD hb hdoc hfree hisf hlen hat hcel hd' ok fun ρ₁ Z₁ H₁ s₁ b a e₁ ok₁ r₁ hdq1=>?_
 refine ZB (wpAny_standAt (ZB (wpAny_bindName (lB hk hl hn hic hdq1 ok₁ r₁ fun H₂ sq2 ok₂ hkq2=>ZP (hQn _ _ _ _ _ e₁ ok₂ hkq2)))))
end
section
variable {C:Cx} {X X':Sc} {B:Bz} {f:Fm} {env env':Env} {ρ:List Addr} {Z:Fz} {H H':HP} {s s':Shared} {A:Around}
theorem OK.enterG (ok:OK C X B f env ρ Z H s) {loc:List (Option AV)} {cel:List Nat} {o:Obj} (ho:s.heap.get? env.locals=some o) {m:Str->Option Value} (hL:s.heap.objs.size≤env'.locals) {h':Heap} {t:Nat}
  (hk:∀ b o,s.heap.get? b=some o->h'.get? b=some o) (ht:s.toks≤t) (hn:h'.Ns env'.locals m) (h1:env'.scope=X'.sc) (h2:env'.globals=mainGlobals) (h3:env'.builtins=builtinsNs) (h4:env'.code=X'.cd) (h5:env'.qual=X'.qual)
  (hl:∀ (k:Nat) x v,X'.tab[k]?=some x->loc[k]?=some v->SRel C.σ ρ Z v (m x)) (hce:∀ (k:Nat) x (j:Nat),X'.ctab[k]?=some x->cel[k]?=some j->∃ a,env'.cells.lookup x=some a∧ρ[j]?=some a) :
  OK C X' (B.add env.locals o) ⟨loc,cel⟩ env' ρ Z H { s with heap:=h',toks:=t }:=by
 nomatch Za3 (ok.fresh hL),hL
 intro f1 f2 f3 f4
 refine ⟨⟨fun a o' e=>.inl (ok.g.base a o' e),?_,fun a o' e=>hk _ _ (ok.g.z a o' e),ok.g.len,fun j a e=>?_,ok.g.nd1,?_,ok.g.az,f1,?_,f3,?_,hn.lt,?_,fun q=>Nat.le_trans (ok.g.tk q) ht,fun u v e=>⟨(ok.g.tkb u v e).1,Nat.lt_of_lt_of_le (ok.g.tkb u v e).2 ht⟩,ok.g.tkf,ok.g.tabs⟩,⟨h1,h2,h3,h4,h5,(am m hn hl),hce⟩⟩
 ·rintro a o' (e | ⟨rfl,rfl⟩)
  ·exact hk _ _ (ok.g.b a o' e)
  ·exact hk _ _ ho
 ·refine ay (ok.g.obj j a e) fun ao o' e1 e2 e3=>?_
  exact (aK ao o' e1 (hk _ _ e2) e3)
 ·rintro a ha o' (e | ⟨rfl,rfl⟩)
  ·exact ok.g.ab a ha o' e
  ·exact ok.g.lρ ha
 ·rintro o' (e | ⟨e,rfl⟩)
  ·exact f2 _ e
  ·exact f4 e
 ·rintro a o' o'' e (e' | ⟨rfl,rfl⟩)
  ·exact ok.g.zb a o' o'' e e'
  ·exact ok.g.lz o' e
 ·refine Ze2 ok.g.same fun hh t' e=>?_
  exact (lx h' t (by rw [e]))
noncomputable abbrev DCv:=AV->DC
noncomputable def SV (C:Cx) (n:Nat) (c:DCv):Prop :=
 ∀ X dp f H k A env B ρ Z s fav fv args vals,c fav args dp H k=true->AOk dp A->OK C X B f env ρ Z H s->VRel C.σ ρ Z fav fv->VRs C.σ ρ Z args vals->args.length=n->Wp C X B f env (RV C) ρ Z A (call fv vals) s k
def xf (v:AV) (k:Nat->List Nat->Bool):Bool:=@AV.rec (fun _=>(Nat->List Nat->Bool)->Bool) (fun k=>false) (fun b k=>false) (fun i k=>false) (fun s k=>false) (fun j k=>false) (fun v k=>false) (fun l _ k=>false) (fun k=>false) (fun _ _ _ _ k=>false) (fun _ _ k=>false) (fun _ _ _ k=>false) (fun _ _ _ k=>false) (fun a b c k=>false) (fun a b c _ _ _ k=>false) (fun _ k=>false) (fun _ _ k=>false) (fun _ _ _ k=>false) (fun k=>false) (fun _ k=>false) (fun id cs k=>k id cs) (fun _ k=>false) (fun _ k=>false) (fun _ k=>false) v k
theorem jq {v:AV} {k:Nat->List Nat->Bool} (h:xf v k=true):∃ id cs,v = .fn id cs∧k id cs=true:=by
 induction v using AV.casesOn<;>first | (exact (dj _ _ rfl h)) | exact ffE h
def y6 (id:Nat) (lay:List (Option Nat)) (d:DS):DCv:=fun fav args dp H k=>xf fav fun i cs=>aB (Nat.beq i id) (nr false (fun dp=>q7 args lay fun loc=>d dp ⟨loc,cs⟩ H (fun _ H=>k .none H) k) dp)
structure CloOK (C:Cx) (id:Nat) (T:FnT) (body:List Stmt) (tab:List Str) (n:Nat) (pn:List Str) (lay:List (Option Nat)):Prop where
 fn:C.σ.fns id=some T
 body:T.body = .stmts body
 kind:T.scope.kind = .function
 co:T.scope.isCoroutine=false
 gen:T.scope.isGenerator=false
 nocell:∀ x∈T.scope.names,x.2 ≠ .cell
 bind:∀ nm cl doc pm cv ct (vals:List Value),vals.length=n->∀ K S,peek K S (bindArgs (iK T nm cl doc pm cv ct) ⟨vals,[]⟩)=some (pn.zip vals)
 pnd:pn.Nodup
 kinds:∀ x∈pn,T.scope.names.lookup x=some .local
 lay:∀ (k i:Nat) x,lay[k]?=some (some i)->tab[k]?=some x->pn[i]?=some x
theorem iV {pn:List Str} {vs:List Value} {x:Str} {i:Nat} {v:Value} (nd:pn.Nodup) (h1:pn[i]?=some x) (h2:vs[i]?=some v):(pn.zip vs).reverse.lookup x=some v:=by
 have key:∀ (l:List (Str × Value)),(l.map (·.1)).Nodup->(x,v)∈l->l.lookup x=some v:=by
  intro l
  induction l with
  | nil=>intro _ h; cases h
  | cons p r ih =>
   intro hn hm
   obtain ⟨y,w⟩:=p
   rw [List.map_cons,List.nodup_cons] at hn
   rw [List.lookup_cons]
   rcases List.mem_cons.mp hm with e | hm
   ·cases e; simp
   ·have hne:(x==y)=false:=by
     induction q:x==y using Bool.casesOn with
     | false=>rfl
     | true=>exact absurd (eq_of_beq q ▸ List.mem_map_of_mem (f:=(·.1)) hm) hn.1
    rw [hne]
    exact ih hn.2 hm
 apply key
 ·rw [List.map_reverse]
  refine List.pairwise_reverse.mpr ?_
  have hsub:∀ (pn:List Str) (vs:List Value),List.Sublist ((pn.zip vs).map (·.1)) pn:=by
   intro pn
   induction pn with
   | nil=>intro vs; simp
   | cons p pn ih =>
    intro vs
    induction vs using List.casesOn with
    | nil=>simp
    | cons v vs=>simpa using ih vs
  exact (nd.sublist (hsub pn vs)).imp fun h=>Ne.symm h
 ·rw [List.mem_reverse]
  exact ZbM (i:=i) (by rw [List.getElem?_zip_eq_some]; exact ⟨h1,h2⟩)
theorem Bk {id:Nat} {T:FnT} {body:List Stmt} {tab:List Str} {n:Nat} {pn:List Str} {lay:List (Option Nat)} {d:DS} (F:CloOK C id T body tab n pn lay) (hd:∀ cd,S C ⟨T.scope,tab,T.ctab,cd,T.qual++".<locals>."⟩ body d):SV C n (y6 id lay d):=by
 intro X dp f H k A env B ρ Z s fav fv args vals hc hA ok rf hv hlen Q E hQ
 nomatch aE (jq hc),hc
 intro i cs zq2 h
 subst zq2
 refine Za1 (af h) fun h0 h1=>?_
 have:=ZbE h0
 clear h h0
 subst this
 induction dp using Nat.casesAuxOn with
 | zero=>exact ffE h1
 | succ dp =>
  replace h1:=iO h1
  refine Ze4 rf.inv fun a T' nm cl zw0=>?_
  nomatch Ze4 zw0,zw0
  intro doc pm ct c zw1
  nomatch bS zw1,zw1
  intro oc vs u zq11 k1 k2 k3 k4 zw2
  nomatch Za1 zw2,zw2
  intro k5 k6
  clear rf
  subst zq11
  rw [F.fn] at k1
  injections k1
  refine Ze1 ok.localsObj fun o ho=>?_
  have hfo:=ok.g.z _ _ k2
  refine wpAny_call (codeAny_call_function (body:=body) hA.room hfo rfl F.co F.gen F.body ⟨c,oc,vs,u,rfl,ok.g.z _ _ k3,k4,k5⟩ ?_)
  refine kp_binds ok.K (F.bind nm cl doc pm _ ct vals (by rw [← hv.1]; exact hlen) _) _ _ _ _ ?_
  refine wpAny_newFunctionEnv F.nocell (fun x hx=>F.kinds x.1 (List.of_mem_zip hx).1) (fun h' hn hsb=>?_) F.kind
  have old:∀ b o,s.heap.get? b=some o->h'.get? b=some o:=fun b o e=>hsb.extBut b o (Nat.ne_of_lt (Heap.lt_size e)) (Heap.get?_push_of_some _ e)
  refine ⟨ok.nolimit.keeps old,codeAny_func ?_⟩
  have ok':=ok.enterG (X':=⟨T.scope,tab,T.ctab,.ref c,T.qual++".<locals>."⟩) (env':=newEnv T.scope s.heap.objs.size mainGlobals cl (T.qual++".<locals>.") (some a) (.ref c) none builtinsNs) (loc:=lV args lay) (cel:=cs) (t:=s.toks+(pn.zip vals).length) ho (Nat.le_refl _) old (Nat.le_add_right _ _) hn rfl rfl rfl rfl rfl (fun k x v hx hv'=>by
    intro z hz
    subst hz
    refine ad (lQ _ _ _ _ hv') fun j h1 h2=>?_
    refine ad (hv.get h2) fun w b1 b2=>?_
    exact (am w (iV F.pnd (F.lay k j x h1 hx) b1) b2)) k6
  refine hd (.ref c) dp _ H _ _ _ _ _ _ _ _ h1 (hA.deeper _) ok' _ _ (fun ρ2 Z₂ H₂ sq2 fq2 e₂ ok₂ hkq2=>?_) (fun ρ2 Z₂ H₂ sq2 fq2 av v e₂ ok₂ r hkq2=>?_)
  ·exact hQ _ _ _ _ _ _ e₂ (ok.leave ho e₂.p e₂.z ok₂.g) .none hkq2
  ·exact hQ _ _ _ _ _ _ e₂ (ok.leave ho e₂.p e₂.z ok₂.g) r hkq2
def jX (c:DCv) (d:D) (ds:DL):D:=fun dp f H k=>d dp f H fun fv H=>xf fv fun id cs=>ds dp f H fun vs H=>c (.fn id cs) vs dp H k
theorem hE {x:Str} {p pos:Pos} {args:List Ex} {c:DCv} {d:D} {ds:DL} (hf:SE C X (.Name x p) d) (ha:SL C X pos args ds) (hs:∀ env,(backTo pos (starEach args env)).any (·.1)=false) (hc:SV C args.length c):SE C X (.Call (.Name x p) args [] pos) (jX c d ds):=by
 intro dp f H k A env B ρ Z s hd' hA ok Q E hQ
 refine (?_:wpAny _ _ (eval (.Call (.Name x p) args [] pos) env) _ _ _)
 rw [dK (C:=C) (X:=X)]
 refine ZB (hf _ _ _ _ _ _ _ _ _ _ hd' hA ok _ _ fun ρ₁ Z₁ H₁ s₁ fav fv e₁ ok₁ r₁ hdq1=>?_)
 refine aE (jq hdq1) fun id cs zq2 hdq2=>?_
 clear hdq1
 subst zq2
 have r₁':=r₁
 refine Ze4 r₁.inv fun a T' nm cl zw0=>?_
 nomatch Ze4 zw0,zw0
 intro doc pm ct c' zw1
 nomatch bS zw1,zw1
 intro oc vs u zq11 k1 k2 k3 k4 zw2
 nomatch Za1 zw2,zw2
 intro k5 k6
 clear r₁
 subst zq11
 refine callWith_function (o:={ cls:=.type "function",data:=.func (iK T' nm cl doc pm (.ref c') ct) }) (fd:=iK T' nm cl doc pm (.ref c') ct) (bv (hs env) ?_)
 exact ha _ _ _ _ _ _ _ _ _ _ hdq2 hA ok₁ _ _ fun ρ2 Z₂ H₂ sq2 vs vvs e₂ ok₂ r₂ hdq3=>⟨⟨ok₂.g.z _ _ (e₂.z.ob _ _ k2),rfl⟩,hc _ _ _ _ _ _ _ _ _ _ _ _ _ _ _ hdq3 hA ok₂ (r₁'.ext e₂) r₂.1 r₂.2 _ _ fun ρ3 Z3 H3 s₃ b vb e₃ ok₃ r₃ hkq3=>hQ _ _ _ _ _ _ ((e₁.trans e₂).trans e₃) ok₃ r₃ hkq3⟩
end
section
variable {C:Cx} {X X':Sc} {B:Bz} {f:Fm} {env env':Env} {ρ:List Addr} {Z:Fz} {H H':HP} {s s':Shared} {A:Around}
noncomputable def Bx (n:Nat):Nat:=match Nat.beq n 0 with
 | true=>0
 | false=>Nat.succ (Nat.log2 n)
def v8 (v:AV) (_:HP):Bool:=bk (bq v) fun _=>true
theorem oF (ok:OK C X B f env ρ Z H s) {av:AV} {v:Value} (h:v8 av H=true) (r:VRel C.σ ρ Z av v):s.TypeIs v "int"∧∀ a,v = .ref a->∃ ob,s.heap.get? a=some ob∧ob.dict=none:=by
 nomatch ad (al h),h
 intro i h1 _
 nomatch Ze1 (ar h1 r),h1
 intro t zq1
 clear r
 subst zq1
 exact ⟨typeIs_int _ _ _,fun a e=>nomatch e⟩
def vY:DC:=fun args _ H k=>gY args fun a=>bk (bq a) fun i=>bk (natOf i) fun n=>aZ (Bx n) fun b=>k (.int (.ofNat b)) H
theorem qr:SC C (.builtin "int.bit_length") 1 vY:=by
 intro X dp f H k A env B ρ Z s args vals hc hA ok hv hlen Q E hQ
 refine ad (bD hc hlen) fun a zq1 h=>?_
 clear hc hlen
 subst zq1
 nomatch ad hv.one,hv
 intro va zq1 ra
 subst zq1
 nomatch ad (al h),h
 intro i h1 h2
 nomatch ad (al h2),h2
 intro n h3 h4
 rw [aP] at h4
 nomatch Ze1 (ar h1 ra),ra,h1
 intro t zq1
 subst zq1
 have:=aQ h3
 subst this
 refine call_int_bit_length ?_
 have e:Builtin.Int.intBits (n:Int)=Bx n:=by
  unfold Builtin.Int.intBits Bx
  rw [eA]
  by_cases q:n=0
  ·clear h4
   subst q; rfl
  ·have:((n:Int)==0)=false:=by simp [q]
   rw [this,decide_eq_false q]
   rfl
 rw [e]
 exact hQ _ _ _ _ _ _ (Ext.refl ..) (ok.tok _) (.int ..) h4
def vZ:DC:=fun args _ H k=>nI args fun a b=>bk (bq a) fun i=>bk (bq b) fun j=>bk (natOf i) fun m=>bk (natOf j) fun n=>aB (Nat.blt 0 n) (aB (Nat.ble n 1000000) (aZ (Nat.div m n) fun q=>aZ (Nat.mod m n) fun r=>k (.tup (.tcons (.int (.ofNat q)) (.tcons (.int (.ofNat r)) .tnil))) H))
theorem xw:SC C (.builtin "divmod") 2 vZ:=by
 intro X dp f H k A env B ρ Z s args vals hc hA ok hv hlen Q E hQ
 refine aE (cE hc hlen) fun a b zq2 h=>?_
 clear hc hlen
 subst zq2
 nomatch ay hv.two,hv
 intro va vb zq2 ra rb
 subst zq2
 nomatch ad (al h),h
 intro i h1 h2
 refine ad (al h2) fun j h3 h4=>?_
 nomatch ad (al h4),h4
 intro m h5 h6
 refine ad (al h6) fun n h7 h8=>?_
 nomatch Za1 (af h8),h8
 intro h9 h10
 nomatch Za1 (af h10),h10
 intro h11 h12
 rw [aP,aP] at h12
 nomatch Ze1 (ar h1 ra),ra
 intro t zq1
 subst zq1
 nomatch Ze1 (ar h3 rb),rb
 intro u zq1
 subst zq1
 have:=aQ h5
 clear h1 h2 h5
 subst this
 have:=aQ h7
 clear h3 h6 h7
 subst this
 rw [cW] at h9
 have hn:=of_decide_eq_true h9
 have hn2:=ZbL h11
 refine divmod_int (by omega) ?_ (.inl (PyProof.noPylong_small (by omega)))
 have e1:Int.fdiv (m:Int) n=((m / n:Nat):Int):=by rw [oV]
 have e2:Int.fmod (m:Int) n=((m % n:Nat):Int):=by rw [sV]
 rw [e1,e2]
 have ok1:=OK.freeze (OK.tok ok (s.toks+1+1)) (o:=lu [.int ((m / n:Nat):Int) s.toks,.int ((m % n:Nat):Int) (s.toks+1)] 0) rfl
 refine hQ _ _ _ _ _ _ Ext.fz ok1 (.tup (n:=0) Fz.add_here rfl fun i x v a b=>?_) h12
 match i with
 | 0=>simp [AV.items] at a b; subst a; subst b; exact .int ..
 | 1=>simp [AV.items] at a b; subst a; subst b; exact .int ..
 | i+2=>simp [AV.items] at a
def Gh (x:AV) (n:Nat):(List AV->Bool)->Bool:=@Nat.rec (fun _=>(List AV->Bool)->Bool) (fun k=>k []) (fun _ ih k=>ih fun r=>k (x :: r)) n
theorem Dr (x:AV) (n:Nat):∀ k,Gh x n k=k (List.replicate n x):=by
 induction n with
 | zero=>intro k; rfl
 | succ n ih=>intro k; exact ih fun r=>k (x :: r)
def FF:P2:=fun a b H k=>bP H a fun _ n rx=>bk (bq b) fun i=>bk (natOf i) fun m=>aB (Nat.ble m 100000) (aB (Nat.beq n 1) (@List.rec AV (fun _=>Bool) false (fun x _ _=>Gh x m fun xs=>H.push (.list m xs) fun j H=>k (.ref j) H) rx))
theorem AD (v:Value) (m:Nat):List.foldl (fun x1 x2=>x1++x2) (#[]:Array Value) (List.replicate (if (#[v]:Array Value).isEmpty=true then 0 else (m:Int).toNat) #[v])=(List.replicate m v).toArray:=by
 have key:∀ (k:Nat) (acc:List Value),List.foldl (fun x1 x2=>x1++x2) acc.toArray (List.replicate k (#[v]:Array Value))=(acc++List.replicate k v).toArray:=by
  intro k
  induction k with
  | zero=>intro acc; simp
  | succ k ih =>
   intro acc
   rw [List.replicate_succ,List.foldl_cons]
   have:acc.toArray++#[v]=(acc++[v]).toArray:=by simp
   rw [this,ih,List.replicate_succ]
   simp
 have:=key m []
 simpa using this
theorem DM:cK C (fun a b=>binaryOp .Mult a b) FF:=by
 intro X dp f H k A env B ρ Z s a b va vb hd hA ok ra rb Q E hQ
 refine bM (aG hd) fun j n rx zq3 hj h=>?_
 clear hd
 subst zq3
 refine ad (al h) fun i h1 h2=>?_
 nomatch ad (al h2),h2
 intro m h3 h4
 refine Za1 (af h4) fun h5 h6=>?_
 refine Za1 (af h6) fun h7 h8=>?_
 refine bS (bg ok ra hj) fun a vs ep zq3 hρ hl hv' hn hn'=>?_
 clear ra
 subst zq3
 nomatch Ze1 (ar h1 rb),rb
 intro u zq1
 subst zq1
 have:=aQ h3
 clear h1 h3
 subst this
 have hm:=ZbL h5
 have:=ZbE h7
 clear hj h h4 h6 h7
 subst this
 match rx,hn' with
 | [x],_ =>
  change Gh x m (fun xs=>H.push (.list m xs) fun j H=>k (.ref j) H)=true at h8
  rw [Dr] at h8
  nomatch aU (HP.push_spec h8),h8
  intro H' g1 g2 g3
  nomatch ad hv'.one,hv'
  intro v zq1 rv
  subst zq1
  have e:=AD v m
  have hx0:(m:Int).toNat=m:=Int.toNat_natCast m
  have hx1:(m:Int)≤100000:=by clear hx0 hn g2 hn'; omega
  have hx2:0≤(m:Int):=Int.natCast_nonneg m
  generalize (m:Int)=x' at hx0 hx1 hx2 e ⊢
  refine wpAny_binaryOp_repeat_ref (T:="list") (U:="int") (by decide) ⟨_,hl,rfl⟩ (fun s'=>typeIs_int s' _ u) noFill_list_mul F.fills_int_mul F.slot_int_rmul repeat_list F.slot_int_index.lookup
   (call_meets F.slot_int_rmul (typeIs_int s _ u) F.entry_int_rmul (F.args_int_rmul_2 _ _) (int___rmul___int_list _ u a #[v] ep)
    ⟨hl,rfl,⟨_,hl,rfl⟩,call_meets F.slot_list_mul ⟨_,hl,rfl⟩ F.entry_list_mul (F.args_list_mul_2 _ _)
     (AutoListH.list___mul___list_int_3 a #[v] ep x' u (by simp [Builtin.List.listFitsIndex]; omega) (by simp; omega) (by simp [Builtin.List.listTooLong,sizeLine]; omega)) ⟨hl,?_⟩⟩)
  rw [e]
  have hr:VRs C.σ ρ Z (List.replicate m x) (List.replicate m v):=⟨by simp,fun i y w p q=>by
   have e1:=List.eq_of_mem_replicate (ZbM p)
   have e2:=List.eq_of_mem_replicate (ZbM q)
   subst e1 e2
   exact rv⟩
  have ok1:=ok.waste { cls:=.type "list",data:=.seq (List.replicate m v).toArray }
  refine Za1 (ok1.adoptL (vs:=List.replicate m v) (ep:=0) (n:=m) (rx:=List.replicate m x) (Heap.get?_push_size _ rfl) (ok.fresh (Nat.le_refl _)) (ok.g.fresh1 (Nat.le_refl _)) g2 g3 (by rw [List.reverse_replicate]; exact hr) (by simp)) fun o1 o2=>?_
  exact hQ _ _ _ _ _ _ Ext.snoc o1 o2 g1
theorem qA {M:Model} {E:Value->Shared->Prop} {a b:Value} {Q:Value->Shared->Prop} (ha:s.TypeIs a "list") (hb:s.TypeIs b "list") (hfill:fillsNumberSlot (.type "list") "add" = pure false) (hc:wpAny M A (call (.builtin "list.__iadd__") [a,b]) Q E s):wpAny M A (inplaceOp .Add a b) Q E s:=by
 unfold inplaceOp
 refine wpAny_holding ?_
 have hsq:isSeqSlot (some (.builtin "list.__iadd__"))=true:=by decide +kernel
 have hlk:typeLookup (.type "list") (dunderI "add")=pure (some (.builtin "list.__iadd__")):=F.slot_list_iadd.lookup
 have hfi:fillsInplaceSlot (.type "list") "add" (Operator.Add==.Add)=pure false:=by
  unfold fillsInplaceSlot
  refine (?_:(typeLookup (.type "list") (dunderI "add") >>= fun fi=>pure (fi.isSome && !isSeqSlot fi))=pure false)
  rw [hlk]
  refine (?_:(pure (true && !isSeqSlot (some (.builtin "list.__iadd__"))):Sem Bool)=pure false)
  rw [hsq]; rfl
 have hsi:seqSlot? (.type "list") (dunderI "add")=pure (some (.builtin "list.__iadd__")):=PySem.seqSlot_of hlk hsq
 refine ZB (wpAny_typeOf ha (ZB (wpAny_of_eq hfi ?_)))
 refine (?_:wpAny M A (if false=true then _ else _) Q E s)
 rw [if_neg Bool.false_ne_true]
 refine ZB (wpAny_binaryOp1_none (nm:="add") ha hb hfill ?_)
 refine ZB (wpAny_of_eq hsi ?_)
 exact ZB (wpAny_rule hc)
def vt (ry:List AV) (rx:List AV):(List AV->Bool)->Bool:=@List.rec AV (fun _=>(List AV->Bool)->Bool) (fun k=>k rx) (fun y _ ih k=>ih fun r=>k (y :: r)) ry
theorem yG (ry rx:List AV):∀ k,vt ry rx k=k (ry++rx):=by
 induction ry with
 | nil=>intro k; rfl
 | cons y ry ih=>intro k; exact ih fun r=>k (y :: r)
def AC:P2:=fun a b H k=>bP H a fun i n rx=>bP H b fun j m ry=>aB (Nat.ble n 100000) (aB (Nat.ble m 100000) (br (vt ry rx fun r=>aZ (Nat.add n m) fun nm=>H.set i (.list nm r) fun H=>k (.ref i) H) false (Nat.beq i j)))
theorem CC:cK C (fun a b=>inplaceOp .Add a b) AC:=by
 intro X dp f H k A env B ρ Z s a b va vb hd hA ok ra rb Q E hQ
 nomatch bM (aG hd),hd
 intro i n rx zq3 hi h
 subst zq3
 refine bM (aG h) fun j m ry zq3 hj h1=>?_
 clear h
 subst zq3
 nomatch Za1 (af h1),h1
 intro h2 h3
 nomatch Za1 (af h3),h3
 intro h4 h5
 rw [eA] at h5
 by_cases e:i=j
 ·rw [decide_eq_true e] at h5; exact ffE h5
 ·rw [decide_eq_false e] at h5
  change vt ry rx (fun r=>aZ (Nat.add n m) fun nm=>H.set i (.list nm r) fun H=>k (.ref i) H)=true at h5
  rw [yG,aP] at h5
  nomatch aU (HP.set_spec h5),h5
  intro H' g1 g2 g3
  nomatch bS (bg ok ra hi),hi
  intro x vs ep zq3 hρ hl hv hn hn'
  clear ra
  subst zq3
  nomatch bS (bg ok rb hj),hj
  intro y ws ep2 zq3 hρ2 hl2 hv2 hm hm'
  clear rb
  subst zq3
  have q1:=ZbL h2
  have q2:=ZbL h4
  refine qA hl.isList.typeIs hl2.isList.typeIs noFill_list_add ?_
  refine call_meets F.slot_list_iadd hl.isList.typeIs F.entry_list_iadd (F.args_list_iadd_2 _ _) (AutoSeq1.list___iadd___list_list_0 x vs.toArray ep y ws.toArray ep2 (extend_door (by rw [List.size_toArray,List.size_toArray,hn,hm,sizeLine_eq]; clear hm' hm hn' hn g2 e; omega)) (by rw [List.size_toArray,hn,sizeLine_eq]; clear q2 hm' hm hn' hn g2 e; omega) (by rw [List.size_toArray,List.size_toArray,hn,hm,sizeLine_eq]; clear hm' hm hn' hn g2 e; omega)) ⟨hl,hl2,?_⟩
  exact hQ _ _ _ _ _ _ (Ext.refl ..) (ok.mapSeq (ws:=vs++ws) hρ hl (by simp) g2 g3 (by rw [List.reverse_append]; exact hv.append hv2) (by simp [hn',hm',Nat.add_comm])) (.ref hρ) g1
end
section
variable {C:Cx} {X X':Sc} {B:Bz} {f:Fm} {env env':Env} {ρ:List Addr} {Z:Fz} {H H':HP} {s s':Shared} {A:Around}
def cx:DS:=fun _ _ _ _ _=>false
theorem fL {st:List Stmt}:S C X st cx:=fun dp f H kn kr A env B ρ Z s hd=>nomatch hd
theorem eW {st:Stmt}:S1 C X st cx:=fun dp f H kn kr A env B ρ Z s hd=>nomatch hd
def qp:DS:=fun _ _ H _ kr=>kr .none H
theorem oU {pos:Pos}:S1 C X (.Return none pos) qp:=fun dp f H kn kr A env B ρ Z s hd hA ok Q E hn hr=>wpAny_Return_none (hr _ _ _ _ _ _ _ (Ext.refl ..) ok .none hd)
def jm (v:AV):Bool:=hU v fun _=>true
def FZ (v:AV):Bool:=jG v fun _=>true
def bY:P2:=dX lw DT Df
theorem be:cK C (fun a b=>binaryOp .Add a b) bY:=gX GA Gr
def qa:P2:=dX jm FF IC
theorem lg:cK C (fun a b=>binaryOp .Mult a b) qa:=gX DM Gj
def fk:P2:=dX lw DT (dX jm AC Df)
theorem dc:cK C (fun a b=>inplaceOp .Add a b) fk:=gX DO (gX CC Dc)
theorem jL {c:AV->Bool} {p q:P2} (h1:gx C p) (h2:gx C q):gx C (dX c p q):=by
 intro X dp f H k A env B ρ Z s a b va vb hd
 unfold dX at hd
 induction e:c a using Bool.casesOn with
 | true=>rw [e] at hd; exact h1 X dp f H k A env B ρ Z s a b va vb hd
 | false=>rw [e] at hd; exact h2 X dp f H k A env B ρ Z s a b va vb hd
def Id (m:Nat):AV->(AV->Bool)->Bool:=@Nat.rec (fun _=>AV->(AV->Bool)->Bool) (fun l k=>gf l fun a _=>k a) (fun _ ih l k=>gf l fun _ b=>ih b k) m
theorem wQ:∀ {m:Nat} {l:AV} {k:AV->Bool},Id m l k=true->∃ x,l.items[m]?=some x∧k x=true:=by
 intro m
 induction m with
 | zero=>intro l k h; (refine aE (cB h) fun a b zq2 h2=>?_; subst zq2); exact (am a rfl h2)
 | succ m ih =>
  intro l k h
  refine aE (cB h) fun a b zq2 h2=>?_
  clear h
  subst zq2
  refine ad (ih h2) fun x h3 h4=>?_
  exact (am x h3 h4)
def pTI:P2:=fun a b H k=>jG a fun l=>bk (bq b) fun i=>bk (natOf i) fun m=>aB (Nat.ble m 1000) (Id m l fun x=>k x H)
theorem GN:gx C pTI:=by
 intro X dp f H k A env B ρ Z s a b va vb hd hA ok ra rb
 refine ad (dD hd) fun l zq1 h=>?_
 clear hd
 subst zq1
 nomatch ad (al h),h
 intro i h1 h2
 refine ad (al h2) fun m h3 h4=>?_
 nomatch Za1 (af h4),h4
 intro h5 h6
 nomatch ad (wQ h6),h6
 intro x h7 h8
 nomatch Ze1 (ar h1 rb),rb
 intro t zq1
 subst zq1
 have:=aQ h3
 clear h1 h2 h3
 subst this
 refine bM ra.tup_inv fun a n vs zq3 hz hv=>?_
 clear ra
 subst zq3
 have hm:=ZbL h5
 have hT:s.TypeIs (.ref a) "tuple":=⟨_,ok.g.z _ _ hz,rfl⟩
 refine ad (hv.get h7) fun w hw hr=>?_
 have hlt:m<vs.length:=(ZbS hw).1
 refine (aK ("tuple") ("tuple.__getitem__") hT F.slot_tuple_getitem.lookup (fun Q E hQ=>?_))
 exact getItem_tuple (j:=m) (x:=w) ⟨_,ok.g.z _ _ hz,rfl,n,rfl⟩ (by omega) (by omega) (by rw [List.size_toArray]; exact (seqIndex_of (Int.natCast_nonneg m) (by omega)).trans rfl) (by simpa using hw) (hQ _ _ _ _ _ _ (Ext.refl ..) ok hr h8)
def fJ:P2:=dX FZ pTI (pByIdx pLI pLS)
theorem fR:gx C fJ:=jL GN (xO Gw Gp)
def Bb (x:Int) (l:List Int):(List Int->Bool)->Bool:=@List.rec Int (fun _=>(List Int->Bool)->Bool) (fun k=>k [x]) (fun y r ih k=>br (k (x :: y :: r)) (ih fun r=>k (y :: r)) (ilt y x)) l
theorem w7 {x:Int} {l:List Int}:∀ {k:List Int->Bool},Bb x l k=true->l.Pairwise (·≤·)->∃ s,k s=true∧s.Perm (x :: l)∧s.Pairwise (·≤·):=by
 induction l with
 | nil=>intro k h _; exact (bA _ h (List.Perm.refl _) (by simp))
 | cons y r ih =>
  intro k h hp
  change br (k (x :: y :: r)) (Bb x r fun r=>k (y :: r)) (ilt y x)=true at h
  rw [iU] at h
  rw [List.pairwise_cons] at hp
  by_cases e:y<x
  ·rw [decide_eq_true e] at h
   nomatch aU (ih h hp.2),ih,h
   intro s h1 h2 h3
   refine (bA _ h1 ((List.Perm.cons y h2).trans (List.Perm.swap x y r)) (?_))
   rw [List.pairwise_cons]
   refine ⟨fun z hz=>?_,h3⟩
   rcases List.mem_cons.mp (h2.subset hz) with rfl | hz
   ·omega
   ·exact hp.1 z hz
  ·rw [decide_eq_false e] at h
   refine (bA _ h (List.Perm.refl _) (?_))
   rw [List.pairwise_cons,List.pairwise_cons]
   refine ⟨fun z hz=>?_,hp⟩
   rcases List.mem_cons.mp hz with rfl | hz
   ·omega
   ·have:=hp.1 z hz; omega
def Fq (l:List Int):(List Int->Bool)->Bool:=@List.rec Int (fun _=>(List Int->Bool)->Bool) (fun k=>k []) (fun x _ ih k=>ih fun s=>Bb x s k) l
theorem uG {l:List Int}:∀ {k:List Int->Bool},Fq l k=true->∃ s,k s=true∧s.Perm l∧s.Pairwise (·≤·):=by
 induction l with
 | nil=>intro k h; exact (bA ([]) h (List.Perm.refl _) List.Pairwise.nil)
 | cons x l ih =>
  intro k h
  have:∃ s,Bb x s k=true∧s.Perm l∧s.Pairwise (·≤·):=ih (k:=fun s=>Bb x s k) h
  refine aU this fun s h1 h2 h3=>?_
  refine aU (w7 h1 h3) fun t h4 h5 h6=>?_
  exact (bA t h4 (h5.trans (List.Perm.cons x h2)) h6)
theorem pK:∀ {l m:List Int},l.Perm m->l.Pairwise (·≤·)->m.Pairwise (·≤·)->l=m:=by
 intro l
 induction l with
 | nil=>intro m h _ _; exact (List.Perm.nil_eq h)
 | cons x l ih =>
  intro m h h1 h2
  induction m using List.casesOn with
  | nil=>exact absurd h.length_eq (by simp)
  | cons y m =>
   rw [List.pairwise_cons] at h1 h2
   have hxy:x=y:=by
    have hx:x∈y :: m:=h.subset List.mem_cons_self
    have hy:y∈x :: l:=h.symm.subset List.mem_cons_self
    rcases List.mem_cons.mp hx with e | hx
    ·exact e
    ·rcases List.mem_cons.mp hy with e | hy
     ·exact e.symm
     ·have a:=h2.1 x hx
      have b:=h1.1 y hy
      omega
   subst hxy
   rw [ih (List.Perm.cons_inv h) h1.2 h2.2]
def vL:DC:=fun args _ H k=>gY args fun a=>bP H a fun _ n rx=>aB (Nat.blt n 64) (wm rx [] fun ns=>Fq ns fun s=>mP (s.map AV.int) H k)
theorem xx:SC C (.builtin "sorted") 1 vL:=by
 intro X dp f H k A env B ρ Z s args vals hc hA ok hv hlen Q E hQ
 nomatch ad (bD hc hlen),hc
 intro a zq1 h
 subst zq1
 nomatch ad hv.one,hv
 intro va zq1 ra
 subst zq1
 nomatch bM (aG h),h
 intro j n rx zq3 hj h
 subst zq3
 nomatch Za1 (af h),h
 intro h1 h2
 nomatch ad (ik h2),h2
 intro ns e h3
 rw [List.append_nil] at h3
 nomatch aU (uG h3),h3
 intro srt h4 h5 h6
 refine cJ (eI h4) fun H' g1 g2 g3 g4=>?_
 nomatch bS (bg ok ra hj),hj
 intro a vs ep zq3 hρ hl hv' hn hn'
 clear ra
 subst zq3
 nomatch Za1 (mS e hv'),e,hv'
 intro i1 _
 rw [cW] at h1
 refine sorted_ints hl.isList i1 (by rw [hn]; exact of_decide_eq_true h1) fun out ns' q1 q2 q3=>?_
 have hs:ns'=srt:=pK (q2.trans h5.symm) q3 h6
 clear h4 h5 h6 g1
 subst hs
 refine Ze1 (sortedAll_at s.heap vs out) fun e' he'=>?_
 have ok1:=ok.grown (t:=s.toks) (fun b o hb=>sortedAll_old (vs:=vs) (out:=out) hb) (Nat.le_refl _)
 refine Za1 (ok1.adoptL (vs:=out.toList) (ep:=e') (n:=(ns'.map AV.int).length) (rx:=(ns'.map AV.int).reverse) (by simpa [IsL,seqObj] using he') (ok.fresh (Nat.le_succ _)) (ok.g.fresh1 (Nat.le_succ _)) g3 (by simpa using g4) (by rw [List.reverse_reverse]; exact VRs.ofInts q1) (by simp)) fun o1 o2=>?_
 exact hQ _ _ _ _ _ _ Ext.snoc o1 o2 g2
def kJ (d:D) (a:DA):DS:=fun dp f H kn _=>d dp f H fun v H=>a v f H kn
theorem iZ {elts:List Ex} {kd:Nat} {tpos pos:Pos} {value:Ex} {d:D} {a:DA} (h:SE C X value d) (ha:AS C X (assign (.Tuple elts kd tpos)) a) (hs:∀ env,swapsWithSole [.Tuple elts kd tpos] value pos.line env=pure false) (hw:∀ env:Env,env.scope=X.sc->swappedStores [.Tuple elts kd tpos] value env=pure none) :
  S1 C X (.Assign [.Tuple elts kd tpos] value pos) (kJ d a) :=
 fun dp f H kn kr A env B ρ Z s hd hA ok Q E hn hr=>Assign_Tuple (h _ _ _ _ _ _ _ _ _ _ hd hA ok _ _ fun ρ₁ Z₁ H₁ s₁ av v e₁ ok₁ r hdq1 =>
  ha _ _ _ _ _ _ _ _ _ _ _ _ hdq1 hA ok₁ r _ _ fun f' H' s' ok' hk=>hn _ _ _ _ _ e₁ ok' hk) (hs env) (hw env ok.f.sc)
end
section
variable {C:Cx} {X X':Sc} {B:Bz} {f:Fm} {env env':Env} {ρ:List Addr} {Z:Fz} {H H':HP} {s s':Shared} {A:Around}
def z9 (as:List DA):List AV->Fm->HP->(Fm->HP->Bool)->Bool :=
 @List.rec DA (fun _=>List AV->Fm->HP->(Fm->HP->Bool)->Bool) (fun _ f H k=>k f H) (fun a _ ih vs f H k=>@List.rec AV (fun _=>Bool) false (fun v vs _=>a v f H fun f H=>ih vs f H k) vs) as
theorem iQ:∀ (ts:List (Env->Value->Sem Unit)) (as:List DA),ASs C X ts as->∀ dp f H k A env B ρ Z s avs vs,z9 as avs f H k=true->AOk dp A->OK C X B f env ρ Z H s->VRs C.σ ρ Z avs vs->∀ (Q:Unit->Shared->Prop) (E:Value->Shared->Prop),(∀ f' H' s',OK C X B f' env ρ Z H' s'->k f' H'=true->Q () s') ->
  wpAny (model C.prog C.w) A (assignInOrder (ts.map fun t=>t env) vs) Q E s
 | [],[],_=>fun dp f H k A env B ρ Z s avs vs hd hA ok r Q E hQ=>by
  refine (?_:wpAny _ _ (assignInOrder [] vs) _ _ _)
  exact ZP (hQ _ _ _ ok hd)
 | t :: ts,a :: as,hs=>fun dp f H k A env B ρ Z s avs vs hd hA ok r Q E hQ=>by
  induction avs using List.casesOn with
  | nil=>exact ffE hd
  | cons av avs' =>
   refine ay r.head fun v vs' zq2 r1 r2=>?_
   clear r
   subst zq2
   exact wpAny_assignInOrder_more (hs.1 _ _ _ _ _ _ _ _ _ _ _ _ hd hA ok r1 _ _ fun f' H' s' ok' hd'=>iQ ts as hs.2 _ _ _ _ _ _ _ _ _ _ _ _ hd' hA ok' r2 _ _ hQ)
 | [],_ :: _,h=>h.elim
 | _ :: _,[],h=>h.elim
def rE (d:D) (as:List DA):DS:=fun dp f H kn _=>d dp f H fun v H=>jG v fun l=>aB (yP as.length l) (chK l fun xs=>gO xs [] fun ys=>z9 as ys f H kn)
theorem rD {elts:List Ex} {kd:Nat} {tpos pos:Pos} {value:Ex} {d:D} {as:List DA} {names:List Str} (h:SE C X value d) (hl:as.length=names.length) (ha:ASs C X (names.reverse.map fun n env v=>bindName env n v) as)
  (hs:∀ env,swapsWithSole [.Tuple elts kd tpos] value pos.line env=pure false) (hw:∀ env:Env,env.scope=X.sc->swappedStores [.Tuple elts kd tpos] value env=pure (some names)):S1 C X (.Assign [.Tuple elts kd tpos] value pos) (rE d as):=by
 intro dp f H kn kr A env B ρ Z s hd hA ok Q E hn hr
 refine Assign_Tuple_swapped (names:=names) ?_ (hs env) (hw env ok.f.sc)
 refine h _ _ _ _ _ _ _ _ _ _ hd hA ok _ _ fun ρ₁ Z₁ H₁ s₁ av v e₁ ok₁ r hdq1=>?_
 refine ad (dD hdq1) fun l zq1 hdq2=>?_
 clear hdq1
 subst zq1
 nomatch Za1 (af hdq2),hdq2
 intro hc hdq3
 have hdq4:=nW hdq3
 rw [dY,List.append_nil] at hdq4
 refine bM r.tup_inv fun a m vs zq3 hz hv=>?_
 clear r
 subst zq3
 have hsz:=(oX hc).trans hl
 have h0:names.length=vs.toArray.size:=by rw [List.size_toArray,← hv.1,hsz]
 rw [h0]
 refine wpAny_unpackItems_tuple hA.hd ⟨_,ok₁.g.z _ _ hz,rfl,m,rfl⟩ fun h' hx=>?_
 have e:names.reverse.map (fun n=>bindName env n)=(names.reverse.map fun n env v=>bindName env n v).map fun t=>t env:=by rw [List.map_map]; rfl
 rw [e]
 exact iQ _ as ha _ _ _ _ _ _ _ _ _ _ _ _ hdq4 hA (ok₁.extNew hx) (by simpa using hv.reverse) _ _ fun f' H' s' ok' hk=>hn _ _ _ _ _ e₁ ok' hk
def bF (ty:AV->HP->Bool) (c:DC) (d:D) (ds:DL):D:=fun dp f H k=>d dp f H fun ov H=>aB (ty ov H) (ds dp f H fun vs H=>c (ov :: vs) dp H k)
def eZ (v:AV) (_:HP):Bool:=bO v fun _=>true
theorem cq (ok:OK C X B f env ρ Z H s) {av:AV} {v:Value} (h:eZ av H=true) (r:VRel C.σ ρ Z av v):s.TypeIs v "str"∧∀ a,v = .ref a->∃ ob,s.heap.get? a=some ob∧ob.dict=none:=by
 nomatch ad (aC h),h
 intro x h1 _
 nomatch Ze1 (aA h1 r),h1
 intro t zq1
 clear r
 subst zq1
 exact ⟨typeIs_str _ _ _,fun a e=>nomatch e⟩
def kQ:DC:=FU
theorem gI:SC C (.builtin "len") 1 kQ:=yU
def EH (i:Nat):DA:=fun v f H k=>qW i v f H fun H=>k f H
theorem ui {x:Str} {pos:Pos} {i:Nat} {nk:NameKind} (hk:X.sc.kind = .function) (hl:X.sc.names.lookup x=some nk) (hn:nk = .cell∨nk = .free) (hi:X.ctab[i]?=some x):AS C X (assign (.Name x pos)) (EH i) :=
 fun dp f H k A env B ρ Z s av v hd hA ok r Q E hQ=>wpAny_assign_Name (lB hk hl hn hi hd ok r fun H' s' ok' hk'=>hQ f H' s' ok' hk')
end
section
variable {prog:Program} {w:World} {A:Around} {E:Value->Shared->Prop} {s:Shared}
noncomputable def hV (prog:Program) (w:World) (A:Around) (it:Addr) (s:Shared) (x:Value) (t₁:Tok) (J:Heap->Prop):Prop :=
 ∀ (Q:Value->Shared->Prop) (E:Value->Shared->Prop),(∀ h₁,Heap.SameBut it s.heap h₁->J h₁->Q x { s with heap:=h₁,toks:=t₁ })->wpAny (model prog w) A (Builtin.SmallTypes.nextOf (.ref it)) Q E s
theorem wW {e it:Addr} {i:Int} {x old:Value} {t₁:Tok} {J:Heap->Prop} {Q:Value->Shared->Prop} (hx:hV prog w A it s x t₁ J) (he:IsEnum s.heap e it i old) (hne:e ≠ it)
  (hJ:∀ h h',J h->(∀ o,h.get? it=some o->h'.get? it=some o)->J h')
  (hQ:∀ h',J h'->IsEnumOut h' e it (i+1) x s.heap.objs.size->h'.get? s.heap.objs.size=some { cls:=.type "tuple",data:=.seq #[.int i t₁,x] }->h'.objs.size=s.heap.objs.size+1 ->
   (∀ b o,b ≠ e->b ≠ it->s.heap.get? b=some o->h'.get? b=some o)->Q (.ref s.heap.objs.size) { s with heap:=h',toks:=t₁+1 }) :
  wpAny (model prog w) A (Builtin.«enumerate.__next__» ⟨[.ref e],[]⟩) (fun fin s'=>∃ v,fin = .done (.ret v)∧Q v s') E s:=by
 obtain ⟨hp,g,d,tk0,os⟩:=s
 refine (?_:wpAny _ _ (field (.ref e) 2 >>= _) _ _ _)
 refine ZB (wpAny_field he rfl (x:=.ref it) rfl ?_)
 refine ZB (hx _ _ fun h₁ hs₁ hit1=>?_)
 replace hs₁:Heap.SameBut it hp h₁:=hs₁
 have he1:IsEnum h₁ e it i old:=(hs₁.2 e hne).trans he
 refine (?_:wpAny _ _ (field (.ref e) 3 >>= _) _ _ ⟨h₁,g,d,t₁,os⟩)
 refine ZB (wpAny_field he1 rfl (x:=rawInt i) rfl ?_)
 refine (?_:wpAny _ _ (field (.ref e) 4 >>= _) _ _ ⟨h₁,g,d,t₁,os⟩)
 refine ZB (wpAny_field he1 rfl (x:=.none) rfl ?_)
 refine (?_:wpAny _ _ (mkInt i >>= _) _ _ ⟨h₁,g,d,t₁,os⟩)
 refine ZB (wpAny_mkInt ?_)
 refine (?_:wpAny _ _ (setField (.ref e) 3 (rawInt (i+1)) >>= _) _ _ ⟨h₁,g,d,t₁+1,os⟩)
 refine ZB (wpAny_setField_rec he1 (by simp) fun h₂ he2 hs₂=>?_)
 replace hs₂:Heap.SameBut e h₁ h₂:=hs₂
 replace he2:IsEnum h₂ e it (i+1) old:=he2
 refine (?_:wpAny _ _ (setField (.ref e) 4 .none >>= _) _ _ ⟨h₂,g,d,t₁+1,os⟩)
 refine ZB (wpAny_setField_rec he2 (by simp) fun h₃ he3 hs₃=>?_)
 replace hs₃:Heap.SameBut e h₂ h₃:=hs₃
 replace he3:IsEnum h₃ e it (i+1) old:=he3
 refine (?_:wpAny _ _ (newTuple [.int i t₁,x] >>= _) _ _ ⟨h₃,g,d,t₁+1,os⟩)
 refine ZB (wpAny_newTuple ?_)
 have he4:IsEnum (h₃.push { cls:=.type "tuple",data:=.seq #[.int i t₁,x] }) e it (i+1) old:=Heap.get?_push_of_some _ he3
 generalize hh4:h₃.push { cls:=.type "tuple",data:=.seq #[.int i t₁,x] } = h₄ at he4
 have hsz:h₃.objs.size=hp.objs.size:=by rw [hs₃.1,hs₂.1,hs₁.1]
 have ht4:h₄.get? hp.objs.size=some { cls:=.type "tuple",data:=.seq #[.int i t₁,x] }:=by rw [← hh4,← hsz]; exact Heap.get?_push_size _ rfl
 have hz4:h₄.objs.size=hp.objs.size+1:=by rw [← hh4,Heap.size_push,hsz]
 have hk4:∀ b o,b ≠ e->b ≠ it->hp.get? b=some o->h₄.get? b=some o:=fun b o hbe hbi hb=>by
  rw [← hh4]; exact Heap.get?_push_of_some _ (hs₃.extBut b o hbe (hs₂.extBut b o hbe (hs₁.extBut b o hbi hb)))
 have hit4:J h₄:=hJ _ _ hit1 fun o y=>by rw [← hh4]; exact Heap.get?_push_of_some _ (hs₃.extBut it o (Ne.symm hne) (hs₂.extBut it o (Ne.symm hne) y))
 have hel:e<hp.objs.size:=Heap.lt_size he
 refine (?_:wpAny _ _ (Builtin.SmallTypes.ownedTupleIsFree (.ref e) >>= _) _ _ ⟨h₄,g,d,t₁+1,os⟩)
 rw [hsz]
 clear hh4 he3 hs₃ he2 hs₂ he1 hs₁ hit1 hsz h₃ h₂ h₁
 refine ZB ?_
 unfold Builtin.SmallTypes.ownedTupleIsFree
 refine ZB (wpAny_field he4 rfl (x:=.none) rfl (ZP ?_))
 simp only [if_true]
 refine ZB (wpAny_rule ?_)
 refine ZB (wpAny_field he4 rfl (x:=old) rfl ?_)
 refine ZB (wpAny_setField_rec he4 (by simp) fun hq5 he5 hs₅=>?_)
 replace hs₅:Heap.SameBut e h₄ hq5:=hs₅
 replace he5:IsEnum hq5 e it (i+1) x:=he5
 refine (?_:wpAny _ _ (Builtin.SmallTypes.ownedTupleHandOut (.ref e) (.ref hp.objs.size) >>= _) _ _ ⟨hq5,g,d,t₁+1,os⟩)
 refine ZB ?_
 unfold Builtin.SmallTypes.ownedTupleHandOut
 refine ZB (wpAny_setField_rec he5 (by simp) fun hq6 he6 hs₆=>?_)
 replace hs₆:Heap.SameBut e hq5 hq6:=hs₆
 replace he6:IsEnumOut hq6 e it (i+1) x hp.objs.size:=he6
 refine wpAny_setField_rec he6 (by simp) fun h₇ he7 hs₇=>?_
 replace hs₇:Heap.SameBut e hq6 h₇:=hs₇
 replace he7:IsEnumOut h₇ e it (i+1) x hp.objs.size:=he7
 have up:∀ b o,b ≠ e->h₄.get? b=some o->h₇.get? b=some o:=fun b o hb q=>hs₇.extBut b o hb (hs₆.extBut b o hb (hs₅.extBut b o hb q))
 refine ZB (wpAny_letGo (ZP (am _ rfl (hQ h₇ ?_ he7 ?_ ?_ ?_))))
 ·exact hJ _ _ hit4 fun o q=>up it o (Ne.symm hne) q
 ·exact up _ _ (Nat.ne_of_gt hel) ht4
 ·rw [hs₇.1,hs₆.1,hs₅.1,hz4]
 ·exact fun b o hbe hbi q=>up b o hbe (hk4 b o hbe hbi q)
theorem rW {e it:Addr} {i:Int} {x old:Value} {t₁:Tok} {J:Heap->Prop} {Q:Option Value->Shared->Prop} (hx:hV prog w A.in1 it s x t₁ J) (he:IsEnum s.heap e it i old) (hne:e ≠ it)
  (hJ:∀ h h',J h->(∀ o,h.get? it=some o->h'.get? it=some o)->J h')
  (hQ:∀ h',J h'->IsEnumOut h' e it (i+1) x s.heap.objs.size->h'.get? s.heap.objs.size=some { cls:=.type "tuple",data:=.seq #[.int i t₁,x] }->h'.objs.size=s.heap.objs.size+1 ->
   (∀ b o,b ≠ e->b ≠ it->s.heap.get? b=some o->h'.get? b=some o)->Q (some (.ref s.heap.objs.size)) { s with heap:=h',toks:=t₁+1 }):wpAny (model prog w) A (pyNext (.ref e)) Q E s:=by
 have hT:s.TypeIs (.ref e) "enumerate":=⟨_,he,rfl⟩
 unfold pyNext
 exact ZB (wpAny_attempt (wpAny_callSpecial?_slot (name:=Str.ofString "__next__") hT F.slot_enumerate_next
  (wpAny_call_entry F.slot_enumerate_next hT F.entry_enumerate_next (wW hx he hne hJ fun h' a b c d k=>ZP (hQ h' a b c d k)) (F.args_enumerate_next_1 _))))
theorem uX {it l:Addr} {items:Array Value} {i:Nat} {x:Value} (hli:l ≠ it) (hit:s.heap.IsListIter it l i) (hl:s.heap.IsList l items) (hx:items[i]?=some x):hV prog w A it s x s.toks fun h=>h.IsListIter it l (i+1) :=
 fun Q E h=>wpAny_nextOf_list_item hit hl hx fun h' hit' hs=>h h' hs hit'
theorem yp {it:Addr} {x:Str} {t:Tok} {i c:Nat} (hit:s.heap.IsStrIter it (strIterType x) x t i) (hx:x.cps[i]?=some c):hV prog w A it s (.str ⟨#[c]⟩ s.toks) (s.toks+1) fun h=>h.IsStrIter it (strIterType x) x t (i+1):=by
 intro Q E h
 unfold strIterType at hit h
 split at hit
 ·rename_i q
  rw [if_pos q] at h
  exact wpAny_nextOf_ascii_item hit hx fun h' hit' hs=>h h' hs hit'
 ·rename_i q
  rw [if_neg q] at h
  exact wpAny_nextOf_wide_item hit hx fun h' hit' hs=>h h' hs hit'
end
section
variable {C:Cx} {X X':Sc} {B:Bz} {f:Fm} {env env':Env} {ρ:List Addr} {Z:Fz} {H H':HP} {s s':Shared} {A:Around}
theorem OK.nb (ok:OK C X B f env ρ Z H s):NoneBooked s.heap:=let ⟨mc,h1,h2⟩:=C.nb; ⟨mc,h1.keeps fun b o e=>ok.g.b b o (ok.g.base b o e),h2⟩
structure Ans (C:Cx) (A:Around) (s:Shared) (x y:Value) (res:Bool):Prop where
 is:∀ (Q:Value->Shared->Prop) (E:Value->Shared->Prop),(∀ c,(c=true->res=true)->Q (.bool c) s)->wpAny (model C.prog C.w) A (compareOp .Is x y) Q E s
 eq:∀ (Q:Value->Shared->Prop) (E:Value->Shared->Prop),Q (.bool res) s->wpAny (model C.prog C.w) A (compareOp .Eq x y) Q E s
theorem Ans.chars {c m:Nat} {u t:Tok} (hu:u ≠ 0) (ht:t ≠ 0) (hut:u ≠ t) (hb:NoneBooked s.heap):Ans C A s (.str ⟨#[c]⟩ u) (.str ⟨#[m]⟩ t) (decide (c=m)):=by
 have h0:(u==0 || t==0)=false:=by simp [hu,ht]
 refine ⟨fun Q E hQ=>?_,fun Q E hQ=>?_⟩
 ·refine (?_:wpAny _ _ (isSame (.str ⟨#[c]⟩ u) (.str ⟨#[m]⟩ t) >>= fun b=>pure (Value.bool b)) _ _ s)
  refine ZB ?_
  by_cases e:c=m
  ·exact wpAny_isSame_str h0 hb fun b=>ZP (hQ b fun _=>by simp [e])
  ·have hne:((⟨#[c]⟩:Str) == ⟨#[m]⟩)=false:=by
    induction q:((⟨#[c]⟩:Str) == ⟨#[m]⟩) using Bool.casesOn with
    | false=>rfl
    | true=>have:=eq_of_beq q; injection this with this; simp at this; exact absurd this e
   exact wpAny_of_eq (isSame_str_other _ _ u t h0 (by simp [hut]) hne) (ZP (hQ false fun h=>nomatch h))
 ·refine P.eq_str ?_
  have:((⟨#[c]⟩:Str).cps.toList==(⟨#[m]⟩:Str).cps.toList)=decide (c=m):=by
   refine (?_:([c]==[m])=_)
   by_cases e:c=m
   ·rw [e,decide_eq_true rfl]; exact beq_self_eq_true [m]
   ·rw [decide_eq_false e]
    induction q:([c]==[m]) using Bool.casesOn with
    | false=>rfl
    | true=>have:=eq_of_beq q; injection this with this; exact absurd this e
  rw [this]
  exact hQ
theorem Ans.tins (q1:C.t1) (ok:OK C X B f env ρ Z H s) {dp:Nat} (hA:AOk dp A) {i j:Int} {x y:Value} (hi:Gk i=true) (rx:VRel C.σ ρ Z (.tin i) x) (ry:VRel C.σ ρ Z (.tin j) y):Ans C A s x y (decide (i=j)):=by
 refine ⟨fun Q E hQ=>?_,fun Q E hQ=>?_⟩
 ·have zh0:∃ t,x = .int i t∧Z.tk t (.int i t):=by ((refine ad rx.inv fun _ zq1 h=>?_; clear rx; subst zq1); exact (am _ rfl h))
  nomatch ad zh0,zh0
  intro t ex kx
  have zh1:∃ u,y = .int j u∧Z.tk u (.int j u):=by ((refine ad ry.inv fun _ zq1 h=>?_; clear ry; subst zq1); exact (am _ rfl h))
  nomatch ad zh1,zh1
  intro u ey ky
  subst ex ey
  have hz:(t==0 || u==0)=false:=by simp [(ok.g.tkb _ _ kx).1 q1,(ok.g.tkb _ _ ky).1 q1]
  refine (?_:wpAny _ _ (isSame (.int i t) (.int j u) >>= fun c=>pure (Value.bool c)) _ _ s)
  refine ZB ?_
  unfold isSame
  by_cases e:i=j
  ·clear ky ry
   subst e
   have hs:(i==i&&smallInt i)=true:=by
    induction i using Int.casesOn with
    | ofNat n=>have:=ZbL hi; simp only [smallInt,beq_self_eq_true,Bool.true_and,Bool.and_eq_true,decide_eq_true_eq,Int.ofNat_eq_natCast]; omega
    | negSucc n=>exact ffE hi
   simp only [hs,if_true]
   unfold isSame.cachedInt
   rw [hz]
   exact ZB (wpAny_rule (ZP (ZP (hQ true fun _=>by simp))))
  ·have he:(i==j)=false:=by simp [e]
   have htu:(t==u)=false:=by
    induction q:t==u using Bool.casesOn with
    | false=>rfl
    | true =>
     have:=eq_of_beq q
     clear ry hz q
     subst this
     have:=ok.g.tkf _ _ _ kx ky
     cases this
     exact absurd rfl e
   simp only [he,Bool.false_and,Bool.false_eq_true,if_false]
   unfold isSame.created
   simp only [hz,htu,Bool.false_eq_true,if_false,Bool.not_false,if_true]
   exact ZP (ZP (hQ false fun h=>nomatch h))
 ·refine Ze1 (ar (i:=i) rfl rx) fun t zq1=>?_
  clear rx
  subst zq1
  refine Ze1 (ar (i:=j) rfl ry) fun u zq1=>?_
  clear ry
  subst zq1
  exact P.eq_int hQ
theorem wG {ej eb ej' eb':Ex} {p1 p2 p3:Pos} {x y:Value} {res:Bool} {Q:Bool->Shared->Prop} {E:Value->Shared->Prop} {whole:Sem Value} (hj:∀ (Q:Value->Shared->Prop) (E:Value->Shared->Prop),Q x s->wpAny (model C.prog C.w) A (eval ej env) Q E s)
  (hb:∀ (Q:Value->Shared->Prop) (E:Value->Shared->Prop),Q y s->wpAny (model C.prog C.w) A (eval eb env) Q E s) (hj':∀ (Q:Value->Shared->Prop) (E:Value->Shared->Prop),Q x s->wpAny (model C.prog C.w) A (eval ej' env) Q E s)
  (hb':∀ (Q:Value->Shared->Prop) (E:Value->Shared->Prop),Q y s->wpAny (model C.prog C.w) A (eval eb' env) Q E s) (ha:Ans C A s x y res) (hm1:behindInMarks .Is eb=false) (hm2:behindInMarks .Eq eb'=false) (h:Q res s) :
  wpAny (model C.prog C.w) A (isTrue (.BoolOp .Or [.Compare ej [.Is] [eb] p1,.Compare ej' [.Eq] [eb'] p2] p3) env whole) Q E s:=by
 refine wpAny_isTrue_BoolOp (wpAny_allTrue_Or_cons (wpAny_isTrue_Compare1 (hm:=hm1) (hj _ _ (hb _ _ (ha.is _ _ fun c hc=>wpAny_truthy_bool ?_)))))
 induction c using Bool.casesOn with
 | true=>rw [hc rfl] at h; exact h
 | false =>
  refine (?_:wpAny _ _ (allTrue .Or [.Compare ej' [.Eq] [eb'] p2] env) _ _ _)
  refine wpAny_allTrue_Or_cons (wpAny_isTrue_Compare1 (hm:=hm2) (hj' _ _ (hb' _ _ (ha.eq _ _ (wpAny_truthy_bool ?_)))))
  induction res using Bool.casesOn with
  | true=>exact h
  | false=>exact wpAny_allTrue_Or_nil h
end
section
variable {C:Cx} {X X':Sc} {B:Bz} {f:Fm} {env env':Env} {ρ:List Addr} {Z:Fz} {H H':HP} {s s':Shared} {A:Around}
noncomputable def Own (B:Bz) (L:Addr) (ρ:List Addr) (Z:Fz) (a:Addr):Prop:=a ∉ ρ∧(∀ o,¬ B a o)∧(∀ o,¬ Z.ob a o)∧a ≠ L
theorem OK.ext2 (h:OK C X B f env ρ Z H s) {a b:Addr} {h':Heap} (hx:∀ c o,c ≠ a->c ≠ b->s.heap.get? c=some o->h'.get? c=some o) (ha:Own B env.locals ρ Z a) (hb:Own B env.locals ρ Z b):OK C X B f env ρ Z H { s with heap:=h' }:=by
 refine Ze1 h.localsObj fun oL hL=>?_
 refine ⟨⟨h.g.base,fun c o' e=>hx c o' (fun z=>ha.2.1 o' (z ▸ e)) (fun z=>hb.2.1 o' (z ▸ e)) (h.g.b c o' e),fun c o' e=>hx c o' (fun z=>ha.2.2.1 o' (z ▸ e)) (fun z=>hb.2.2.1 o' (z ▸ e)) (h.g.z c o' e),h.g.len,fun i c e=>?_,h.g.nd1,h.g.ab,h.g.az,h.g.lρ,h.g.lb,h.g.lz,h.g.zb,Heap.lt_size (hx _ _ (Ne.symm ha.2.2.2) (Ne.symm hb.2.2.2) hL),?_,h.g.tk,h.g.tkb,h.g.tkf,h.g.tabs⟩,⟨h.f.sc,h.f.gl,h.f.bl,h.f.cd,h.f.qual,?_,h.f.ce⟩⟩
 ·refine ay (h.g.obj i c e) fun ao' o' e1 e2 e3=>?_
  exact (aK ao' o' e1 (hx c o' (fun z=>ha.1 (z ▸ ZbM e)) (fun z=>hb.1 (z ▸ ZbM e)) e2) e3)
 ·refine Ze2 h.g.same fun hh t e=>?_
  exact (lx h' t (by rw [e]))
 ·refine ad h.f.ns fun m zt3_1 p2=>?_
  refine da zt3_1 fun o es ep q1 q2 q3 q4=>?_
  exact (am m ⟨o,es,ep,hx _ _ (Ne.symm ha.2.2.2) (Ne.symm hb.2.2.2) q1,q2,q3,q4⟩ p2)
theorem lH {x:Str} {v:Value} {m:Str->Option Value} {Q:Unit->Shared->Prop} {E:Value->Shared->Prop} {p:Pos} (hk:X.sc.kind = .function) (hl:X.sc.names.lookup x=some .local) (ok:OK C X B f env ρ Z H s) (hm:s.heap.Ns env.locals m) (hf:∀ (k:Nat) w,X.tab[k]?=some x->f.loc[k]?=some w->w=none)
  (hr:∀ (k:Nat) y w,X.tab[k]?=some y->f.loc[k]?=some w->SRel C.σ ρ Z w (m y))
  (h:∀ h',OK C X B f env ρ Z H { s with heap:=h',toks:=s.toks+1 }->h'.Ns env.locals (fun y=>if y=x then some v else m y)->Heap.SameBut env.locals s.heap h'->Q () { s with heap:=h',toks:=s.toks+1 }):wpAny (model C.prog C.w) A (assign (.Name x p) env v) Q E s:=by
 refine wpAny_assign_Name (wpAny_storeName_local (by show env.scope.names.lookup x=_; rw [ok.f.sc]; exact hl) hm (fun h' hm' hs=>h h' ?_ hm' hs) (by rw [ok.f.sc,hk]; rfl))
 refine ok.store (f':=f) hs hm' rfl (fun k y w a b=>?_) (Nat.le_succ _)
 by_cases e:y=x
 ·clear hl h hm'
  subst e
  rw [hf k w a b]
  exact fun z hz=>nomatch hz
 ·have:=hr k y w a b
  simpa [e] using this
theorem xm {xi xj xb:Str} {pi pj pt pc1 pc2 pb pif pr pri pj1 pj2 pb1 pb2:Pos} {kd:Nat} {orelse:List Stmt} {e it:Addr} {vb:Value} {j0:Nat} {J:Nat->Heap->Prop} {R:Result->Shared->Prop} {dp:Nat}
  (hk:X.sc.kind = .function) (hli:X.sc.names.lookup xi=some .local) (hlj:X.sc.names.lookup xj=some .local) (hlb:X.sc.names.lookup xb=some .local) (hij:xi ≠ xj) (hbi:xb ≠ xi) (hbj:xb ≠ xj)
  (hfi:∀ (k:Nat) w,X.tab[k]?=some xi->f.loc[k]?=some w->w=none) (hfj:∀ (k:Nat) w,X.tab[k]?=some xj->f.loc[k]?=some w->w=none)
  (hdi:(xi==("__debug__" : Str))=false) (hdj:(xj==("__debug__" : Str))=false) (hdb:(xb==("__debug__" : Str))=false)
  (hei:e ≠ it) (hA:AOk dp A) (hfrm:∀ i h h',J i h->(∀ o,h.get? it=some o->h'.get? it=some o)->J i h')
  (src:∀ i s,i≤j0->J i s.heap->OK C X B f env ρ Z H s->∃ x t₁,s.toks≤t₁∧hV C.prog C.w A.in1 it s x t₁ (J (i+1))∧∀ s':Shared,OK C X B f env ρ Z H s'->Ans C A s' x vb (decide (i=j0)))
  (ok:OK C X B f env ρ Z H s) (he:Own B env.locals ρ Z e) (hi:Own B env.locals ρ Z it) (hen:IsEnum s.heap e it ((0:Nat):Int) .none) (hJ:J 0 s.heap)
  (hm:∃ m,s.heap.Ns env.locals m∧m xb=some vb∧∀ (k:Nat) y w,X.tab[k]?=some y->f.loc[k]?=some w->SRel C.σ ρ Z w (m y))
  (hR:∀ s' t,OK C X B f env ρ Z H s'->R (.ok (.ret (.int (j0:Int) t))) s') :
  codeAny (model C.prog C.w) A (.forLoop (.Tuple [.Name xi pi,.Name xj pj] kd pt) (.ref e) [.If (.BoolOp .Or [.Compare (.Name xj pj1) [.Is] [.Name xb pb1] pc1,.Compare (.Name xj pj2) [.Eq] [.Name xb pb2] pc2] pb) [.Return (some (.Name xi pri)) pr] [] pif] orelse env) R s:=by
 refine fo (fun n s'=>∃ i old,n+i=j0+1∧i≤j0∧OK C X B f env ρ Z H s'∧IsEnum s'.heap e it (i:Int) old∧J i s'.heap∧∃ m,s'.heap.Ns env.locals m∧m xb=some vb∧∀ (k:Nat) y w,X.tab[k]?=some y->f.loc[k]?=some w->SRel C.σ ρ Z w (m y)) ?_ (j0+1) (iP 0 .none rfl (Nat.zero_le _) ok hen ⟨hJ,hm⟩)
 intro n s₁ zr5_2
 nomatch dO zr5_2,zr5_2
 intro i old hni hij0 ok₁ he1 zw0
 nomatch Za1 zw0,zw0
 intro hJ1 zw1
 nomatch aU zw1,zw1
 intro m hm₁ hmb hmr
 nomatch ay (src i s₁ hij0 hJ1 ok₁),hJ1
 intro x t₁ ht hg hans
 refine rW hg he1 hei (fun h h' a b=>hfrm _ h h' a b) fun h₂ hJ2 heo htup hsz hkeep=>?_
 have ok₂:OK C X B f env ρ Z H { s₁ with heap:=h₂,toks:=t₁+1 }:=OK.tok (ok₁.ext2 hkeep he hi) (t₁+1) (Nat.le_succ_of_le ht)
 have hm₂:h₂.Ns env.locals m:=hm₁.at' fun o q=>hkeep _ o (Ne.symm he.2.2.2) (Ne.symm hi.2.2.2) q
 refine wpAny_letOwnedTupleGo_enum heo fun h₃ he3 hs₃=>?_
 have ok₃:OK C X B f env ρ Z H { s₁ with heap:=h₃,toks:=t₁+1 }:=ok₂.extBut hs₃.extBut he.1 he.2.1 he.2.2.1 he.2.2.2
 have hm₃:h₃.Ns env.locals m:=hm₂.sameBut hs₃ (Ne.symm he.2.2.2)
 have hJ3:J (i+1) h₃:=hfrm _ _ _ hJ2 fun o q=>hs₃.extBut _ _ (Ne.symm hei) q
 have hTe:s₁.heap.objs.size ≠ e:=Nat.ne_of_gt (Heap.lt_size he1)
 have htup3:h₃.get? s₁.heap.objs.size=some { cls:=.type "tuple",data:=.seq #[.int (i:Int) t₁,x] }:=hs₃.extBut _ _ hTe htup
 refine wpAny_assign_Tuple hA.hd ⟨_,htup3,rfl,_,rfl⟩ rfl rfl fun h₄ hxq4=>?_
 have ok₄:OK C X B f env ρ Z H { s₁ with heap:=h₄,toks:=t₁+1 }:=ok₃.extNew hxq4
 have eL:env.locals ≠ h₃.objs.size:=Nat.ne_of_lt hm₃.lt
 have hm4:h₄.Ns env.locals m:=hm₃.at' fun o q=>hxq4 _ o eL q
 have he4:IsEnum h₄ e it ((i:Int)+1) x:=hxq4 _ _ (Nat.ne_of_lt (Heap.lt_size he3)) he3
 have hJ4:J (i+1) h₄:=hfrm _ _ _ hJ3 fun o q=>hxq4 _ o (Nat.ne_of_lt (Heap.lt_size q)) q
 refine (?_:wpAny _ _ (assignInOrder [assign (.Name xi pi) env,assign (.Name xj pj) env] [.int (i:Int) t₁,x]) _ _ _)
 refine wpAny_assignInOrder_more (lH hk hli ok₄ hm4 hfi hmr fun hq5 ok₅ hm5 hs₅=>?_)
 have hmr5:∀ (k:Nat) y w,X.tab[k]?=some y->f.loc[k]?=some w->SRel C.σ ρ Z w (if y=xi then some (.int (i:Int) t₁) else m y):=fun k y w a b=>by
  by_cases q:y=xi
  ·clear hli hij hbi hdi hm5
   subst q; rw [hfi k w a b]; exact fun z hz=>nomatch hz
  ·rw [if_neg q]; exact hmr k y w a b
 refine wpAny_assignInOrder_more (lH hk hlj ok₅ hm5 hfj hmr5 fun hq6 ok₆ hm6 hs₆=>?_)
 have hmr6:∀ (k:Nat) y w,X.tab[k]?=some y->f.loc[k]?=some w->SRel C.σ ρ Z w (if y=xj then some x else if y=xi then some (.int (i:Int) t₁) else m y):=fun k y w a b=>by
  by_cases q:y=xj
  ·clear hlj hij hbj hdj hm6
   subst q; rw [hfj k w a b]; exact fun z hz=>nomatch hz
  ·rw [if_neg q]; exact hmr5 k y w a b
 refine (?_:wpAny _ _ (assignInOrder [] []) _ _ _)
 refine ZP ?_
 have he6:IsEnum hq6 e it ((i:Int)+1) x:=hs₆.extBut _ _ he.2.2.2 (hs₅.extBut _ _ he.2.2.2 he4)
 have hJ6:J (i+1) hq6:=hfrm _ _ _ hJ4 fun o q=>hs₆.extBut _ _ hi.2.2.2 (hs₅.extBut _ _ hi.2.2.2 q)
 have kf:env.scope.kind = .function:=by rw [ok₆.f.sc]; exact hk
 have rd:∀ (y:Str) (v:Value) (p:Pos),X.sc.names.lookup y=some .local->(y==("__debug__" : Str))=false->(if y=xj then some x else if y=xi then some (Value.int (i:Int) t₁) else m y)=some v->∀ (Q:Value->Shared->Prop) (E:Value->Shared->Prop),Q v { s₁ with heap:=hq6,toks:=t₁+1+1+1 } ->
   wpAny (model C.prog C.w) A (eval (.Name y p) env) Q E { s₁ with heap:=hq6,toks:=t₁+1+1+1 }:=fun y v p hl hd hv Q E hq =>
  wpAny_Name (wpAny_loadName_local kf (by show env.scope.names.lookup y=_; rw [ok₆.f.sc]; exact hl) hm6 hv hq) hd
 refine wpAny_execs_cons (wpAny_If (wG (res:=decide (i=j0)) (rd xj x _ hlj hdj (if_pos rfl)) (rd xb vb _ hlb hdb (by rw [if_neg hbj,if_neg hbi]; exact hmb)) (rd xj x _ hlj hdj (if_pos rfl)) (rd xb vb _ hlb hdb (by rw [if_neg hbj,if_neg hbi]; exact hmb)) (hans _ ok₆) rfl rfl ?_))
 by_cases q:i=j0
 ·rw [decide_eq_true q]
  refine (?_:wpAny _ _ (execs [.Return (some (.Name xi pri)) pr] env) _ _ _)
  refine wpAny_execs_cons (wpAny_Return_some (rd xi _ _ hli hdi (by rw [if_neg hij,if_pos rfl]) _ _ ?_))
  clear src hni hij0 hans
  subst q
  exact hR _ t₁ ok₆
 ·rw [decide_eq_false q]
  refine (?_:wpAny _ _ (execs [] env) _ _ _)
  refine wpAny_execs_nil (wpAny_execs_nil ⟨n-1,by omega,i+1,x,by omega,by omega,ok₆,by rw [show ((i+1:Nat):Int)=(i:Int)+1 by omega]; exact he6,hJ6,_,hm6,by rw [if_neg hbj,if_neg hbi]; exact hmb,hmr6⟩)
end
section
variable {C:Cx} {X X':Sc} {B:Bz} {f:Fm} {env env':Env} {ρ:List Addr} {Z:Fz} {H H':HP} {s s':Shared} {A:Around}
def Cv (y:Int) (xs:List AV):Nat->(Nat->Bool)->Bool:=@List.rec AV (fun _=>Nat->(Nat->Bool)->Bool) (fun _ _=>false) (fun x _ ih c k=>bk (we x) fun i=>aB (Gk i) (br (aZ (Nat.succ c) fun c=>ih c k) (k c) (ieq i y))) xs
theorem rV {y:Int} {xs:List AV}:∀ {c:Nat} {k:Nat->Bool},Cv y xs c k=true->∃ j,j<xs.length∧k (c+j)=true∧∀ m x,m≤j->xs[m]?=some x->∃ i,x = .tin i∧Gk i=true∧decide (i=y)=decide (m=j):=by
 induction xs with
 | nil=>intro c k h; exact ffE h
 | cons x xs ih =>
  intro c k h
  refine ad (al h) fun i h1 h2=>?_
  have:=jI h1
  clear h h1
  subst this
  nomatch Za1 (af h2),h2
  intro h3 h4
  rw [ig,aP] at h4
  by_cases e:i=y
  ·rw [decide_eq_true e] at h4
   refine (bA 0 (Nat.succ_pos _) h4 (fun m x hm hx=>?_))
   have:m=0:=by omega
   clear hm
   subst this
   simp at hx
   exact (bA i hx.symm h3 (by simp [e]))
  ·rw [decide_eq_false e] at h4
   nomatch aU (ih h4),ih,h4
   intro j g1 g2 g3
   refine (bA (j+1) (Nat.succ_lt_succ g1) (by rw [← Nat.add_assoc,Nat.add_right_comm]; exact g2) (fun m x hm hx=>?_))
   induction m using Nat.casesAuxOn with
   | zero =>
    simp at hx
    exact (bA i hx.symm h3 (by simp [e]))
   | succ m =>
    refine aU (g3 m x (by omega) (by simpa using hx)) fun i' q1 q2 q3=>?_
    exact (bA i' q1 q2 (by rw [q3]; simp))
def zW (m:Nat) (s:SS):(SS->Bool)->Bool:=@List.rec SA (fun _=>(SS->Bool)->Bool) (fun _=>false) (fun a _ ih k=>@SA.rec (fun _=>Bool) (fun n=>br (ih fun p=>k (.c n :: p)) (k []) (Nat.beq n m)) (fun _=>false) (fun j=>aB (Nat.beq m 62) (ih fun p=>k (.spl j :: p))) (fun _=>false) (fun j=>aB (Nat.blt m 97) (ih fun p=>k (.nam j :: p))) a) s
theorem vu {n:Nat} (h:n∈[38,60,62,13,120,10,34,9]):62 ∉ bJ n:=by
 simp only [List.mem_cons,List.not_mem_nil,or_false] at h
 rcases h with rfl | rfl | rfl | rfl | rfl | rfl | rfl | rfl<;>decide
theorem vI {m:Nat} {s:SS}:∀ {k:SS->Bool},zW m s k=true->∃ pre rest,s=pre++.c m :: rest∧(m ∉ txt C.σ pre)∧k pre=true:=by
 induction s with
 | nil=>intro k h; exact ffE h
 | cons a s ih =>
  intro k h
  induction a using SA.casesOn with
  | c n =>
   change br (zW m s fun p=>k (.c n :: p)) (k []) (Nat.beq n m)=true at h
   rw [eA] at h
   by_cases e:n=m
   ·rw [decide_eq_true e] at h
    exact (aK ([]) s (by simp [e]) (by simp [txt]) h)
   ·rw [decide_eq_false e] at h
    nomatch ay (ih (k:=fun p=>k (.c n :: p)) h),ih,h
    intro pre rest h1 h2 h3
    refine (aK (.c n :: pre) rest (by rw [h1]; rfl) (?_) h3)
    rw [cP,List.mem_append]
    rintro (q | q)
    ·exact e (List.mem_singleton.mp q).symm
    ·exact h2 q
  | spl j =>
   refine Za1 (af h) fun g1 g2=>?_
   have:=ZbE g1
   clear h g1
   subst this
   nomatch ay (ih (k:=fun p=>k (.spl j :: p)) g2),ih,g2
   intro pre rest h1 h2 h3
   refine (aK (.spl j :: pre) rest (by rw [h1]; rfl) (?_) h3)
   rw [cP,List.mem_append]
   rintro (q | q)
   ·exact vu (C.wf.sg j) q
   ·exact h2 q
  | nam j =>
   nomatch Za1 (af h),h
   intro g1 g2
   rw [cW] at g1
   have g1:=of_decide_eq_true g1
   nomatch ay (ih (k:=fun p=>k (.nam j :: p)) g2),ih,g2
   intro pre rest h1 h2 h3
   refine (aK (.nam j :: pre) rest (by rw [h1]; rfl) (?_) h3)
   rw [cP,List.mem_append]
   rintro (q | q)
   ·have hn:=C.wf.nm j
    simp only [List.mem_cons,List.not_mem_nil,or_false] at hn
    have q':m∈C.σ.nm j:=q
    rcases hn with e | e | e<;>rw [e] at q'<;>simp at q'<;>omega
   ·exact h2 q
  | _=>exact ffE h
def jj (v:AV) (k:Nat->Bool):Bool:=@AV.rec (fun _=>Bool) false (fun b=>false) (fun i=>false) (fun s=>false) (fun j=>false) (fun v=>false) (fun l _=>false) false (fun _ _ _ _=>false) (fun _ _=>false) (fun _ _ _=>false) (fun _ _ _=>false) (fun a b c=>false) (fun a b c _ _ _=>false) (fun _=>false) (fun _ _=>false) (fun _ _ _=>false) false (fun _=>false) (fun _ _=>false) (fun _=>false) (fun _=>false)
 (fun s=>@List.rec SA (fun _=>Bool) false (fun a r _=>@List.rec SA (fun _=>Bool) (@SA.rec (fun _=>Bool) (fun n=>k n) (fun _=>false) (fun _=>false) (fun _=>false) (fun _=>false) a) (fun _ _ _=>false) r) s) v
theorem dw {v:AV} {k:Nat->Bool} (h:jj v k=true):∃ n,v = .lit [.c n]∧k n=true:=by
 induction v using AV.casesOn with
 | lit s =>
  match s,h with
  | [.c n],h=>exact (am n rfl h)
  | [.sgn _],h=>exact ffE h
  | [.spl _],h=>exact ffE h
  | [.lst _],h=>exact ffE h
  | [.nam _],h=>exact ffE h
  | [],h=>exact ffE h
  | .c _ :: _ :: _,h=>exact ffE h
  | .sgn _ :: _ :: _,h=>exact ffE h
  | .spl _ :: _ :: _,h=>exact ffE h
  | .lst _ :: _ :: _,h=>exact ffE h
  | .nam _ :: _ :: _,h=>exact ffE h
 | _=>exact ffE h
def HA (a b:AV) (H:HP) (k:AV->HP->Bool):Bool:=br (bO a fun x=>jj b fun m=>zW m x fun pre=>k (.slen pre) H) (bP H a fun _ n rx=>bk (we b) fun y=>gO rx [] fun xs=>Cv y xs 0 fun j=>k (.int (.ofNat j)) H) (jm a)
def vU (i:Nat) (f:Fm):Bool:=@Fm.rec (fun _=>Bool) (fun loc _=>i8 loc i fun o=>@Option.rec AV (fun _=>Bool) true (fun _=>false) o) f
theorem jW {i:Nat} (h:vU i f=true):∀ w,f.loc[i]?=some w->w=none:=by
 obtain ⟨loc,cel⟩:=f
 nomatch ad (cU h),h
 intro o h1 h2
 skip
 intro w hw
 rw [show loc[i]?=some w from hw] at h1
 injections h1
 induction w using Option.casesOn with
 | none=>rfl
 | some v=>exact ffE h2
def FN (ia ib ii ij:Nat):DS:=fun dp f H kn kr=>aB (vU ii f) (aB (vU ij f) (@Fm.rec (fun _=>Bool) (fun loc _=>td loc ia fun a=>td loc ib fun b=>HA a b H kr) f))
theorem Go (ht1:C.t1) {xa xi xj xb xe:Str} {pa pi pj pe pec pt pc1 pc2 pb pif pr pri pj1 pj2 pb1 pb2 pos:Pos} {kd ia ib ii ij:Nat} {orelse:List Stmt} (hk:X.sc.kind = .function) (hla:X.sc.names.lookup xa=some .local) (hli:X.sc.names.lookup xi=some .local) (hlj:X.sc.names.lookup xj=some .local) (hlb:X.sc.names.lookup xb=some .local)
  (hia:X.tab[ia]?=some xa) (hib:X.tab[ib]?=some xb) (hii:X.tab[ii]?=some xi) (hij':X.tab[ij]?=some xj) (hn:X.tab.Nodup) (hij:xi ≠ xj) (hbi:xb ≠ xi) (hbj:xb ≠ xj) (hda:(xa==("__debug__" : Str))=false) (hdi:(xi==("__debug__" : Str))=false) (hdj:(xj==("__debug__" : Str))=false) (hdb:(xb==("__debug__" : Str))=false)
  (hle:X.sc.names.lookup xe=some .globalImplicit) (hge:C.GlobV xe (.type "enumerate")) (hde:(xe==("__debug__" : Str))=false) :
  S1 C X (.For (.Tuple [.Name xi pi,.Name xj pj] kd pt) (.Call (.Name xe pe) [.Name xa pa] [] pec) [.If (.BoolOp .Or [.Compare (.Name xj pj1) [.Is] [.Name xb pb1] pc1,.Compare (.Name xj pj2) [.Eq] [.Name xb pb2] pc2] pb) [.Return (some (.Name xi pri)) pr] [] pif] orelse pos) (FN ia ib ii ij):=by
 intro dp f H kn kr A env B ρ Z s hd hA ok Q E hQn hQr
 refine Za1 (af hd) fun u1 hd1=>?_
 refine Za1 (af hd1) fun u2 hd2=>?_
 have w1:=jW u1
 have w2:=jW u2
 obtain ⟨loc,cel⟩:=f
 refine ad ok.f.ns fun m hm hmr=>?_
 nomatch ad (eJ (l:=loc) (n:=ia) hd2),hd2
 intro a la hd3
 refine ad (eJ hd3) fun b lb hd4=>?_
 nomatch ad (hmr ia xa _ hia la a rfl),hia
 intro va ma ra
 nomatch ad (hmr ib xb _ hib lb b rfl),hib
 intro vb mb rb
 have hfi:∀ (k:Nat) w,X.tab[k]?=some xi->loc[k]?=some w->w=none:=fun k w h1 h2=>by
  have:k=ii:=(List.getElem?_inj (ZbS h1).1 hn).mp (h1.trans hii.symm)
  clear hii hd u1
  subst this; exact w1 w h2
 have hfj:∀ (k:Nat) w,X.tab[k]?=some xj->loc[k]?=some w->w=none:=fun k w h1 h2=>by
  have:k=ij:=(List.getElem?_inj (ZbS h1).1 hn).mp (h1.trans hij'.symm)
  clear hij' hd hd1 u2
  subst this; exact w2 w h2
 have key:∀ (j0:Nat) (J:Nat->Heap->Prop) (av:AV) (e it:Addr) (s':Shared),kr av H=true->(∀ ρ' Z' t,VRel C.σ ρ' Z' av (.int (j0:Int) t))->e ≠ it->(∀ i h h',J i h->(∀ o,h.get? it=some o->h'.get? it=some o)->J i h') ->
   (∀ i s,i≤j0->J i s.heap->OK C X B ⟨loc,cel⟩ env ρ Z H s->∃ x t₁,s.toks≤t₁∧hV C.prog C.w A.in1 it s x t₁ (J (i+1))∧∀ s':Shared,OK C X B ⟨loc,cel⟩ env ρ Z H s'->Ans C A s' x vb (decide (i=j0))) ->
   OK C X B ⟨loc,cel⟩ env ρ Z H s'->Own B env.locals ρ Z e->Own B env.locals ρ Z it->IsEnum s'.heap e it 0 .none->J 0 s'.heap->s'.heap.Ns env.locals m ->
   codeAny (model C.prog C.w) A (.forLoop (.Tuple [.Name xi pi,.Name xj pj] kd pt) (.ref e) [.If (.BoolOp .Or [.Compare (.Name xj pj1) [.Is] [.Name xb pb1] pc1,.Compare (.Name xj pj2) [.Eq] [.Name xb pb2] pc2] pb) [.Return (some (.Name xi pri)) pr] [] pif] orelse env) (fun r s'=>match r with | .ok f=>Q f s' | .error e=>cameBackBy (model C.prog C.w) A env E e s') s' :=
  fun j0 J av e it s' hk1 hv hei hfr hsrc ok' he hi hen hJ hm'=>xm hk hli hlj hlb hij hbi hbj hfi hfj hdi hdj hdb hei hA hfr hsrc ok' he hi hen hJ (bA m hm' mb hmr) fun s'' t ok''=>hQr _ _ _ _ _ av _ (Ext.refl ..) ok'' (hv _ _ t) hk1
 have kf:env.scope.kind = .function:=by rw [ok.f.sc]; exact hk
 refine wpAny_For ?_ fun _=>rfl
 rw [dK (C:=C) (X:=X)]
 refine ZB (dg hk hle hge hde ok (fs rfl (bv rfl ?_)))
 refine (?_:wpAny _ _ (spliced [(false,eval (.Name xa pa) env)]) _ _ _)
 refine spliced_cons (wpAny_Name (wpAny_loadName_local kf (by show env.scope.names.lookup xa=_; rw [ok.f.sc]; exact hla) hm ma (spliced_nil ?_)) hda)
 have hLs:env.locals<s.heap.objs.size:=ok.g.ls
 unfold HA at hd4
 induction hl:jm a using Bool.casesOn with
 | true =>
  rw [hl] at hd4
  nomatch bM (aG hd4),hd4
  intro j n rx zq3 hj g1
  clear la hd3 hl
  subst zq3
  refine ad (al g1) fun y hy g2=>?_
  have:=jI hy
  clear lb g1 hy
  subst this
  rw [dY,List.append_nil] at g2
  nomatch aU (rV g2),g2
  intro j0 g3 g4 g5
  rw [Nat.zero_add] at g4
  refine bS (bg ok ra hj) fun aL vs ep zq3 hρ hL hv hnl hnl'=>?_
  clear ma ra
  subst zq3
  have haL:aL<s.heap.objs.size:=ok.g.lt (ZbM hρ)
  refine call_enumerate_list hL.isList fun h' hen hit hsz hk'=>wpAny_pyIter_enum hen ?_
  have ok':=ok.grown (t:=s.toks) hk' (Nat.le_refl _)
  refine key j0 (fun i h=>h.IsListIter s.heap.objs.size aL i) (.int (.ofNat j0)) _ _ _ g4 (fun _ _ t=>.int ..) (Nat.succ_ne_self _) (fun i h h' ⟨o,q1,q2⟩ q=>⟨o,q o q1,q2⟩) (fun i s₁ hi hJ ok₁=>?_) ok' (ok.fresh (Nat.le_succ _)) (ok.fresh (Nat.le_refl _)) hen hit (hm.keeps hk')
  nomatch ay (rM ok₁ hρ hj),hj,hρ,ok₁
  intro vs' ep' q1 q2 zw0
  nomatch Za1 zw0,zw0
  intro q3 q4
  have hlt:i<rx.reverse.length:=Nat.lt_of_le_of_lt hi g3
  have zh22:∃ x,rx.reverse[i]?=some x:=⟨_,ZbG hlt⟩
  nomatch Ze1 zh22,zh22
  intro x hx
  nomatch ad (q2.get hx),q2
  intro w hw hr
  nomatch aU (g5 i x hi hx),g5
  intro i' e1 e2 e3
  clear hx
  subst e1
  exact (aK w s₁.toks (Nat.le_refl _) (uX (Nat.ne_of_lt haL) hJ q1.isList (by simpa using hw)) (fun s' ok''=>e3 ▸ Ans.tins ht1 ok'' hA e2 hr rb))
 | false =>
  rw [hl] at hd4
  nomatch ad (aC hd4),hd4
  intro x ia' g1
  refine ad (dw g1) fun c zq1 g2=>?_
  clear lb g1
  subst zq1
  nomatch ay (vI (C:=C) g2),g2
  intro pre rest hx hno g3
  refine Ze1 (aA ia' ra) fun t zq1=>?_
  clear ma ra
  subst zq1
  refine ad rb.inv fun tb zq1 hb=>?_
  clear mb rb
  subst zq1
  refine call_enumerate_str fun h' hen hit hsz hk'=>wpAny_pyIter_enum hen ?_
  have ok':=ok.grown (t:=s.toks) hk' (Nat.le_refl _)
  refine key (txt C.σ pre).length (fun i h=>h.IsStrIter s.heap.objs.size (strIterType (aw C.σ x)) (aw C.σ x) t i) (.slen pre) _ _ _ g3 (fun _ _ t=>.slen ..) (Nat.succ_ne_self _) (fun i h h' ⟨o,q1,q2⟩ q=>⟨o,q o q1,q2⟩) (fun i s₁ hi hJ ok₁=>?_) ok' (ok.fresh (Nat.le_succ _)) (ok.fresh (Nat.le_refl _)) hen hit (hm.keeps hk')
  have hxt:txt C.σ x=txt C.σ pre++c :: txt C.σ rest:=by rw [hx,cG]; rfl
  have zh29:∃ d,(aw C.σ x).cps[i]?=some d∧decide (d=c)=decide (i=(txt C.σ pre).length):=by
   refine (?_:∃ d,(txt C.σ x).toArray[i]?=some d∧_)
   rw [List.getElem?_toArray,hxt]
   rcases Nat.lt_or_ge i (txt C.σ pre).length with q | q
   ·refine (am ((txt C.σ pre)[i]) (by rw [List.getElem?_append_left q]; simp) (?_))
    have h1:(txt C.σ pre)[i] ≠ c:=fun e=>hno (e ▸ List.getElem_mem q)
    rw [decide_eq_false h1,decide_eq_false (Nat.ne_of_lt q)]
   ·have:i=(txt C.σ pre).length:=by omega
    clear hi hJ q
    subst this
    exact (am c (by rw [List.getElem?_append_right (Nat.le_refl _)]; simp) (by simp))
  refine ad zh29 fun d hd' hdc=>?_
  have hu0:s₁.toks ≠ 0:=Nat.ne_of_gt (ok₁.g.tk ht1)
  have ht0:=(fun z:(C.t1->tb ≠ 0)∧tb<s₁.toks=>And.intro (z.1 ht1) z.2) (ok₁.g.tkb _ _ hb)
  exact (aK _ (s₁.toks+1) (Nat.le_succ _) (yp hJ hd') (fun s' ok''=>hdc ▸ Ans.chars hu0 ht0.1 (Nat.ne_of_gt ht0.2) ok''.nb))
end
section
variable {C:Cx} {X X':Sc} {B:Bz} {f:Fm} {env env' cenv:Env} {ρ:List Addr} {Z:Fz} {H H':HP} {s s':Shared} {A:Around}
theorem OK.switch (ok:OK C X B f env ρ Z H s) {loc:List (Option AV)} {cel:List Nat} {o:Obj} (ho:s.heap.get? env.locals=some o) {m:Str->Option Value} (hL:Own B env.locals ρ Z env'.locals)
  (hn:s.heap.Ns env'.locals m) (h1:env'.scope=X'.sc) (h2:env'.globals=mainGlobals) (h3:env'.builtins=builtinsNs) (h4:env'.code=X'.cd) (h5:env'.qual=X'.qual)
  (hl:∀ (k:Nat) x v,X'.tab[k]?=some x->loc[k]?=some v->SRel C.σ ρ Z v (m x)) (hce:∀ (k:Nat) x (j:Nat),X'.ctab[k]?=some x->cel[k]?=some j->∃ a,env'.cells.lookup x=some a∧ρ[j]?=some a) :
  OK C X' (B.add env.locals o) ⟨loc,cel⟩ env' ρ Z H s:=by
 nomatch Za3 hL,hL
 intro f1 f2 f3 f4
 refine ⟨⟨fun a o' e=>.inl (ok.g.base a o' e),?_,ok.g.z,ok.g.len,ok.g.obj,ok.g.nd1,?_,ok.g.az,f1,?_,f3,?_,hn.lt,ok.g.same,ok.g.tk,ok.g.tkb,ok.g.tkf,ok.g.tabs⟩,⟨h1,h2,h3,h4,h5,(am m hn hl),hce⟩⟩
 ·rintro a o' (e | ⟨rfl,rfl⟩)
  ·exact ok.g.b a o' e
  ·exact ho
 ·rintro a ha o' (e | ⟨rfl,rfl⟩)
  ·exact ok.g.ab a ha o' e
  ·exact ok.g.lρ ha
 ·rintro o' (e | ⟨e,rfl⟩)
  ·exact f2 _ e
  ·exact f4 e
 ·rintro a o' o'' e (e' | ⟨rfl,rfl⟩)
  ·exact ok.g.zb a o' o'' e e'
  ·exact ok.g.lz o' e
theorem uY {M:Model} {E:Value->Shared->Prop} {scope:Scope} {globals:Addr} {closure:List (Str × Addr)} {qual:Str} {x:Str} {Q:Env->Shared->Prop} (hcf:∀ n acc,cellsFrom n scope.names acc=(x,n) :: acc) (hpc:∀ h,PySem.pushCells h scope.names=h.push { cls:=.type "cell",data:=.cell none })
  (hQ:Q (newEnv scope s.heap.objs.size globals ((x,s.heap.objs.size+1) :: closure) qual none .none (some env) builtinsNs) { s with heap:=(s.heap.push { cls:=.type "dict",data:=.dict #[] }).push { cls:=.type "cell",data:=.cell none } }) :
  wpAny M A (newFunctionEnv scope globals closure [] qual none .none (some env)) Q E s:=by
 simp only [newFunctionEnv,Option.isSome_some,if_true]
 refine ZB (wpAny_alloc ?_)
 refine ZB (wpAny_layCells _ (fun name kind cells=>by induction hkc:kind==NameKind.cell using Bool.casesOn<;>simp [hkc]) _ _ _ _ ?_)
 rw [hcf,hpc]
 rw [show ({ s with heap:=s.heap.push { cls:=.type "dict",data:=.dict #[] } }:Shared).heap.objs.size=s.heap.objs.size+1 from Heap.size_push ..]
 exact ZB (ZP (ZP hQ))
structure CompOK1 (X:Sc) (scope:Scope) (x:Str) (ctab:List Str) (clay:List Nat):Prop where
 kind:scope.kind = .function
 loc:∀ y∈scope.names,y.2 = .local->scope.names.lookup y.1=some .local
 free:∀ y∈scope.names,y.2 = .free->y.1∈ctab
 isfree:∀ y∈ctab,(y,NameKind.free)∈scope.names
 len:clay.length=ctab.length
 at':∀ (k:Nat) y i,ctab[k]?=some y->clay[k]?=some i->X.ctab[i]?=some y
 own:x ∉ ctab
 cf:∀ n acc,cellsFrom n scope.names acc=(x,n) :: acc
 pc:∀ h,PySem.pushCells h scope.names=h.push { cls:=.type "cell",data:=.cell none }
theorem kM (ok:OK C X B f env ρ Z H s) {scope:Scope} {x:Str} {ctab:List Str} {clay cel:List Nat} (hC:CompOK1 X scope x ctab clay) (hcel:cel.length=clay.length∧∀ (n i j:Nat),clay[n]?=some i->cel[n]?=some j->f.cel[i]?=some j) {k:Nat} {y:Str} (hk:ctab[k]?=some y) :
  ∃ j a,cel[k]?=some j∧env.cells.lookup y=some a∧ρ[j]?=some a:=by
 have hkc:k<clay.length:=by rw [hC.len]; exact (ZbS hk).1
 have hi:clay[k]?=some clay[k]:=by simp [hkc]
 have hj:cel[k]?=some (cel[k]'(by rw [hcel.1]; exact hkc)):=by simp [hcel.1,hkc]
 refine ad (ok.f.ce _ y _ (hC.at' k y _ hk hi) (hcel.2 k _ _ hi hj)) fun c c1 c2=>?_
 exact (aK _ c hj c1 c2)
theorem pD (ok:OK C X B f env ρ Z H s) {scope:Scope} {x:Str} {ctab:List Str} {clay cel:List Nat} (hC:CompOK1 X scope x ctab clay) (hcel:cel.length=clay.length∧∀ (n i j:Nat),clay[n]?=some i->cel[n]?=some j->f.cel[i]?=some j):closureFor scope env=pure (dr env scope.names) :=
 ft fun y hy hf=>by
  refine Ze1 (List.getElem?_of_mem (hC.free y hy hf)) fun k hk=>?_
  refine ay (kM ok hC hcel hk) fun j a _ h2 _=>?_
  exact ⟨a,h2⟩
theorem Done.back' {o:Obj} (ok:OK C X B f env ρ Z H s) (ho:s.heap.get? env.locals=some o) {D:Addr} {rx:List AV} {ρ₀:List Addr} (hp:ρ <+: ρ₀)
  (hd:Done C X' (B.add env.locals o) cenv D ρ₀ Z rx H' s') :
  ∃ ρ' Z' vs ep m,Ext ρ Z ρ' Z'∧OK C X B f env ρ' Z' H' s'∧s'.heap.Ns cenv.locals m∧Own B env.locals ρ' Z' cenv.locals∧IsL s'.heap D (vs:List Value).toArray ep∧Own B env.locals ρ' Z' D∧D ≠ cenv.locals∧VRs C.σ ρ' Z' rx.reverse vs:=by
 refine Ze4 hd.ex fun ρ' Z' f' vs zw0=>?_
 refine cJ zw0 fun ep e ok' hD zw1=>?_
 refine Za1 zw1 fun hv _=>?_
 refine ad ok'.f.ns fun m hm _=>?_
 refine Za4 (hD _ (List.mem_singleton.mpr rfl)) fun d1 d2 d3 d4 d5=>?_
 have hLl:cenv.locals ≠ env.locals:=fun h=>ok'.g.lb o (h ▸ Bz.add_here)
 exact (qv ρ' Z' vs ep m ⟨hp.trans e.p,e.z⟩ (ok.leave ho (hp.trans e.p) e.z ok'.g) hm ⟨ok'.g.lρ,fun o' hb=>ok'.g.lb o' (.inl hb),ok'.g.lz,hLl⟩ d1 ⟨d2,fun o' hb=>d3 o' (.inl hb),d4,fun h=>d3 o (h ▸ Bz.add_here)⟩ d5 hv)
def Ct {I:Type} (nx:I->HP->(AV->I->HP->Bool)->(HP->Bool)->Bool) (di:Nat->Fm->HP->(I->HP->Bool)->Bool) (nl:List (Option AV)) (clay:List Nat) (a:DA) (dt:DB) (de:D):D :=
 fun dp f H k=>lO clay f.cel fun cel=>di dp f H fun i H=>H.push (.cell none) fun c H=>sK nx a dt de dp (fun rx H=>jO rx 0 fun n=>H.push (.list n rx) fun j H=>k (.ref j) H) 100 i ⟨nl,c :: cel⟩ H []
theorem za {I:Type} {rel:I->List Addr->Fz->Value->List (Addr × Obj)->Prop} {nx:I->HP->(AV->I->HP->Bool)->(HP->Bool)->Bool} {elt target iter:Ex} {ifs:List Ex} {scope:Scope} {pos:Pos} {a:DA} {dt:DB} {de:D}
  {di:Nat->Fm->HP->(I->HP->Bool)->Bool} {x:Str} {tab ctab:List Str} {clay:List Nat} {nl:List (Option AV)} (hC:CompOK1 X scope x ctab clay) (hnl:∀ (k:Nat) v,nl[k]?=some v->v=none)
  (hI:ItOK C rel nx) (hi:SI C X rel iter di) (ha:AS C ⟨ba scope X.sc,tab,x :: ctab,X.cd,X.qual⟩ (assign target) a) (ht:STs C ⟨ba scope X.sc,tab,x :: ctab,X.cd,X.qual⟩ ifs dt) (he:SE C ⟨ba scope X.sc,tab,x :: ctab,X.cd,X.qual⟩ elt de)
  (hs:∀ env x,foldedSetIterable iter env x=pure x):SE C X (.ListComp elt [⟨target,iter,ifs,0⟩] scope pos) (Ct nx di nl clay a dt de):=by
 intro dp f H k A env B ρ Z s hd hA ok Q E hQ
 nomatch ad (eK hd),hd
 intro cel hd' hcel
 refine (?_:wpAny _ _ (eval (.ListComp elt [⟨target,iter,ifs,0⟩] scope pos) env) _ _ _)
 rw [eval_ListComp]
 refine wpAny_comprehension_free (use:=none) rfl (hs env) (pD ok hC hcel) hC.kind hC.loc ?_
 refine hi _ _ _ _ _ _ _ _ _ _ hd' hA ok _ _ fun ρ₁ Z₁ H₁ s₁ i P it e₁ ok₁ hp1 hrq1 hdq1=>?_
 refine Ze1 ok₁.localsObj fun o ho=>?_
 nomatch aU (HP.push_spec hdq1),hdq1
 intro H₂ hdq2 hnq2 hg2
 refine wpAny_newObj_type (uY hC.cf hC.pc ?_)
 have okL:=ok₁.waste { cls:=.type "list",data:=.seq ([]:List Value).toArray }
 have okF:=okL.waste { cls:=.type "dict",data:=.dict #[] }
 have okC:=okF.push (H':=H₂) (o:={ cls:=.type "cell",data:=.cell none }) (ao:=.cell none) hnq2 hg2 (.inl ⟨rfl,rfl⟩)
 refine Za3 (ok₁.fresh (Nat.le_refl s₁.heap.objs.size)) fun g1 g2 g3 g4=>?_
 refine Za3 (ok₁.fresh (Nat.le_succ s₁.heap.objs.size)) fun q1 q2 q3 q4=>?_
 dsimp only at okC
 have sz1:(s₁.heap.push { cls:=.type "list",data:=.seq ([]:List Value).toArray }).objs.size=s₁.heap.objs.size+1:=Heap.size_push ..
 have hNs:((s₁.heap.push { cls:=.type "list",data:=.seq ([]:List Value).toArray }).push { cls:=.type "dict",data:=.dict #[] }).Ns (s₁.heap.push { cls:=.type "list",data:=.seq ([]:List Value).toArray }).objs.size fun _=>none:=Heap.Ns.new _ (.type "dict")
 have hDl:IsL (s₁.heap.push { cls:=.type "list",data:=.seq ([]:List Value).toArray }) s₁.heap.objs.size #[] 0:=Heap.get?_push_size _ rfl
 have old:∀ b o,s₁.heap.get? b=some o->(s₁.heap.push { cls:=.type "list",data:=.seq ([]:List Value).toArray }).get? b=some o:=fun b o e=>Heap.get?_push_of_some _ e
 generalize s₁.heap.push { cls:=.type "list",data:=.seq ([]:List Value).toArray } = h1 at okC sz1 hNs hDl old ⊢
 have sz2:(h1.push { cls:=.type "dict",data:=.dict #[] }).objs.size=s₁.heap.objs.size+2:=by rw [Heap.size_push,sz1]
 have old2:∀ b o,h1.get? b=some o->(h1.push { cls:=.type "dict",data:=.dict #[] }).get? b=some o:=fun b o e=>Heap.get?_push_of_some _ e
 generalize h1.push { cls:=.type "dict",data:=.dict #[] } = h2 at okC sz2 hNs old2 ⊢
 have old3:∀ b o,h2.get? b=some o->(h2.push { cls:=.type "cell",data:=.cell none }).get? b=some o:=fun b o e=>Heap.get?_push_of_some _ e
 generalize h2.push { cls:=.type "cell",data:=.cell none } = h3 at okC old3 ⊢
 have hρn:∀ a,a<s₁.heap.objs.size+2->a ∉ ρ₁->a ∉ ρ₁++[h2.objs.size]:=by
  intro a ha hn hm
  rcases List.mem_append.mp hm with h | h
  ·exact hn h
  ·rw [List.mem_singleton.mp h,sz2] at ha; exact Nat.lt_irrefl _ ha
 have hcl:H₁.n=ρ₁.length:=ok₁.g.len.symm
 have okS:=okC.switch (X':=⟨ba scope X.sc,tab,x :: ctab,X.cd,X.qual⟩) (env':={ newEnv scope h1.objs.size env.globals ((x,h1.objs.size+1) :: dr env scope.names) env.qual none .none (some env) builtinsNs with scope:=relabel scope env }) (loc:=nl) (cel:=H₁.n :: cel) (o:=o) (m:=fun _=>none)
  (old3 _ _ (old2 _ _ (old _ _ ho))) (by show Own B env.locals _ Z₁ h1.objs.size; rw [sz1]; exact ⟨hρn _ (Nat.lt_succ_self _) q1,q2,q3,q4⟩) (hNs.keeps old3) (by
   refine (?_:relabel scope env=ba scope X.sc)
   unfold relabel ba Env.kindOf
   rw [ok₁.f.sc]) ok₁.f.gl ok₁.f.bl ok₁.f.cd ok₁.f.qual (fun k y v p q=>by rw [hnl k v q]; exact fun z e=>nomatch e) (fun k y j p q=>by
   induction k using Nat.casesAuxOn with
   | zero =>
    have e1:x=y:=by simpa using p
    have e2:H₁.n=j:=by simpa using q
    subst e1 e2
    refine (am (h1.objs.size+1) (by simp [newEnv]) (?_))
    rw [hcl,List.getElem?_append_right (Nat.le_refl _),sz2,sz1]
    simp
   | succ k =>
    have p':ctab[k]?=some y:=by simpa using p
    have q':cel[k]?=some j:=by simpa using q
    nomatch ay (kM ok₁ hC hcel p'),hcel,ok₁
    intro j' a' r1 r2 r3
    rw [q'] at r1
    injections r1
    have hyx:(y==x)=false:=by
     induction e:y==x using Bool.casesOn with
     | false=>rfl
     | true=>exact absurd (eq_of_beq e ▸ ZbM p') hC.own
    refine (am a' (?_) (bz (List.prefix_append ..) r3))
    refine (?_:List.lookup y ((x,h1.objs.size+1) :: dr env scope.names)=some a')
    rw [List.lookup_cons,hyx]
    exact iM (hC.isfree y (ZbM p')) r2)
 have hD3:IsL h3 s₁.heap.objs.size #[] 0:=old3 _ _ (old2 _ _ hDl)
 have hDP:Pv (B.add env.locals o) h1.objs.size (ρ₁++[h2.objs.size]) Z₁ { s₁ with heap:=h3 } [(s₁.heap.objs.size,{ cls:=.type "list",data:=.seq #[] })]:=by
  intro p hp
  rw [List.mem_singleton.mp hp]
  refine ⟨hD3,hρn _ (Nat.lt_add_of_pos_right (by decide)) g1,?_,g3,by rw [sz1]; exact Nat.ne_of_lt (Nat.lt_succ_self _)⟩
  rintro o' (e | ⟨e,rfl⟩)
  ·exact g2 _ e
  ·exact g4 e
 have hPP:Pv (BP (B.add env.locals o) [(s₁.heap.objs.size,{ cls:=.type "list",data:=.seq #[] })]) h1.objs.size (ρ₁++[h2.objs.size]) Z₁ { s₁ with heap:=h3 } P:=by
  intro p hp
  nomatch Za4 (hp1 p hp),hp1,hp
  intro p1 p2 p3 p4 p5
  have hlt:=Heap.lt_size p1
  refine ⟨old3 _ _ (old2 _ _ (old _ _ p1)),hρn _ (Nat.lt_of_lt_of_le hlt (Nat.le_add_right _ _)) p2,?_,p4,by rw [sz1]; exact Nat.ne_of_lt (Nat.lt_succ_of_lt hlt)⟩
  rintro o' ((e | ⟨e,rfl⟩) | e)
  ·exact p3 _ e
  ·exact p5 e
  ·have:=List.mem_singleton.mp e
   have e2:p.1=s₁.heap.objs.size:=congrArg Prod.fst this
   exact Nat.ne_of_lt hlt e2
 have loop:=qo (pos:=pos) (iter:=iter) (cenv:={ newEnv scope h1.objs.size env.globals ((x,h1.objs.size+1) :: dr env scope.names) env.qual none .none (some env) builtinsNs with scope:=relabel scope env }) (scope:=scope)
  (R:=compPost (model C.prog C.w) A E none Q (.ref s₁.heap.objs.size) h1.objs.size) hI ha ht he hdq2 hA okS hDP hPP (hI.mono Ext.snoc hrq1) fun rx H3 s₃ hdone hk=>?_
 ·exact codeAny_compStart_list loop (hI.self hrq1 _ _ _ _ (fun p hp=>(hPP p hp).1) loop)
 ·refine Ze4 (Done.back' ok₁ ho (List.prefix_append ..) hdone) fun ρ2 Z₂ vs ep zw0=>?_
  refine cJ zw0 fun m e₂ ok₂ hm zw1=>?_
  refine Za4 zw1 fun hL hDl' hDf hDL hv=>?_
  refine ⟨m,hm,fun h' hs'=>?_⟩
  have ok₃:=ok₂.extBut hs'.extBut hL.1 hL.2.1 hL.2.2.1 hL.2.2.2
  rw [dL,Nat.add_zero] at hk
  refine aU (HP.push_spec hk) fun H' g1 g2 g3=>?_
  refine Za1 (ok₃.adoptL (n:=rx.length) (rx:=rx) (hs'.extBut _ _ hDL hDl') hDf (ok₁.g.fresh1 (Nat.le_refl _)) g2 g3 hv rfl) fun o1 o2=>?_
  exact hQ _ _ _ _ _ _ ((e₁.trans e₂).trans Ext.snoc) o1 o2 g1
end
section
variable {C:Cx} {X X':Sc} {B:Bz} {f:Fm} {env env' cenv:Env} {ρ:List Addr} {Z:Fz} {H H':HP} {s s':Shared} {A:Around}
theorem tY {x:Str} {t:Tok} {l u:Option (Int × Tok)} {y:List Nat} {Q:Value->Shared->Prop} (h:(Builtin.Str.strSliceIndices (l.map (·.1)) (u.map (·.1)) 1 x.length).filterMap (x.cps[·]?)=y) (hf:(Builtin.Str.strSliceIndices (l.map (·.1)) (u.map (·.1)) 1 x.length).length=y.length) (hy:y.length=x.length->y=x.cps.toList) (hl:y.length≤sizeLine)
  (hQ:∀ t' tk,s.toks≤tk->Q (.str ⟨y.toArray⟩ t') { s with toks:=tk }):(sliceMade x t l u none).post Q s:=by
 unfold sliceMade slicePicked
 simp only [Option.map_none,Option.getD_none,beq_self_eq_true,Bool.true_and]
 split
 ·rename_i e
  have e':=eq_of_beq e
  rw [hf] at e'
  have:=hy e'
  have hx:x=⟨y.toArray⟩:=by rw [this]
  rw [hx]
  exact hQ t s.toks (Nat.le_refl _)
 ·rw [h]
  exact ⟨by simpa [Str.length] using hl,hQ _ _ (Nat.le_succ _)⟩
theorem pW {x:Str} {t t1 t2:Tok} {a b:Option Nat} {Q:Value->Shared->Prop} (hab:a.getD 0≤b.getD x.length) (hb:b.getD x.length≤x.length) (hl:x.length≤sizeLine)
  (hQ:∀ t' tk,s.toks≤tk->Q (.str ⟨((x.cps.toList.drop (a.getD 0)).take (b.getD x.length-a.getD 0)).toArray⟩ t') { s with toks:=tk }):(sliceMade x t (a.map fun n=>((n:Int),t1)) (b.map fun n=>((n:Int),t2)) none).post Q s:=by
 have hi:Builtin.Str.strSliceIndices ((a.map fun n=>((n:Int),t1)).map (·.1)) ((b.map fun n=>((n:Int),t2)).map (·.1)) 1 x.length=Builtin.Str.strSliceIndices (some ((a.getD 0:Nat):Int)) (some ((b.getD x.length:Nat):Int)) 1 x.length:=by
  induction a using Option.casesOn<;>induction b using Option.casesOn<;>simp [StrLaws.sliceIdx_none_lo,StrLaws.sliceIdx_none_hi]
 have hlen:x.cps.toList.length=x.length:=by simp [Str.length]
 refine tY (y:=(x.cps.toList.drop (a.getD 0)).take (b.getD x.length-a.getD 0)) ?_ ?_ ?_ ?_ hQ
 ·rw [hi]; exact StrLaws.sliced_plain x hab hb
 ·rw [hi,StrLaws.strSliceIndices_plain hab hb]
  simp only [List.length_map,List.length_range,List.length_take,List.length_drop,hlen]
  first | exact (Nat.min_eq_left (Nat.sub_le_sub_right hb _)).symm | exact Nat.min_eq_left (Nat.sub_le_sub_right hb _)
 ·intro e
  simp only [List.length_take,List.length_drop,hlen] at e
  have h0:a.getD 0=0:=by clear hlen hl; omega
  have h1:b.getD x.length=x.length:=by clear h0 hlen hl hab; omega
  rw [h0,h1,List.drop_zero,Nat.sub_zero,← hlen,List.take_length]
 ·simp only [List.length_take,List.length_drop,hlen]; exact Nat.le_trans (Nat.min_le_right _ _) (Nat.le_trans (Nat.sub_le _ _) hl)
def FS (a:SA) (k:Bool):Bool:=@SA.rec (fun _=>(Bool)->Bool) (fun _ k=>k) (fun _ k=>k) (fun _ k=>false) (fun _ k=>k) (fun _ k=>false) a k
theorem qk {a:SA} {k:Bool} (h:FS a k=true):(a.val C.σ).length=1∧k=true:=by
 induction a using SA.casesOn with
 | c n=>exact ⟨rfl,h⟩
 | sgn j=>exact ⟨rfl,h⟩
 | lst j=>exact ⟨rfl,h⟩
 | _=>exact ffE h
def zy (x:SS):Nat->(SS->Bool)->Bool:=@List.rec SA (fun _=>Nat->(SS->Bool)->Bool) (fun n k=>nr (k []) (fun _=>false) n) (fun a r ih n k=>nr (k (a :: r)) (fun n=>FS a (ih n k)) n) x
theorem oE {x:SS}:∀ {n:Nat} {k:SS->Bool},zy x n k=true->∃ p r,x=p++r∧(txt C.σ p).length=n∧k r=true:=by
 induction x with
 | nil =>
  intro n k h
  induction n using Nat.casesAuxOn with
  | zero=>exact (aK ([]) ([]) rfl rfl h)
  | succ n=>exact ffE h
 | cons a x ih =>
  intro n k h
  induction n using Nat.casesAuxOn with
  | zero=>exact (aK ([]) _ rfl rfl h)
  | succ n =>
   refine Za1 (qk (C:=C) h) fun h1 h2=>?_
   refine ay (ih h2) fun p r g1 g2 g3=>?_
   exact (aK (a :: p) r (by rw [g1]; rfl) (by rw [cP,List.length_append,h1,g2,Nat.add_comm]) g3)
def Fw (x:SS):Nat->(SS->Bool)->Bool:=@List.rec SA (fun _=>Nat->(SS->Bool)->Bool) (fun n k=>nr (k []) (fun _=>false) n) (fun a _ ih n k=>nr (k []) (fun n=>FS a (ih n fun p=>k (a :: p))) n) x
theorem vo {x:SS}:∀ {n:Nat} {k:SS->Bool},Fw x n k=true->∃ p r,x=p++r∧(txt C.σ p).length=n∧k p=true:=by
 induction x with
 | nil =>
  intro n k h
  induction n using Nat.casesAuxOn with
  | zero=>exact (aK ([]) ([]) rfl rfl h)
  | succ n=>exact ffE h
 | cons a x ih =>
  intro n k h
  induction n using Nat.casesAuxOn with
  | zero=>exact (aK ([]) _ rfl rfl h)
  | succ n =>
   refine Za1 (qk (C:=C) h) fun h1 h2=>?_
   refine ay (ih (k:=fun p=>k (a :: p)) h2) fun p r g1 g2 g3=>?_
   exact (aK (a :: p) r (by rw [g1]; rfl) (by rw [cP,List.length_append,h1,g2,Nat.add_comm]) g3)
def xX (p:SS):SS->Bool->Bool:=@List.rec SA (fun _=>SS->Bool->Bool) (fun _ k=>k) (fun a _ ih x k=>@List.rec SA (fun _=>Bool) false (fun b r _=>D0 a b (ih r k) false) x) p
theorem pP {p:SS}:∀ {x:SS} {k:Bool},xX p x k=true->(∃ r,x=p++r)∧k=true:=by
 induction p with
 | nil=>intro x k h; exact ⟨⟨x,rfl⟩,h⟩
 | cons a p ih =>
  intro x k h
  induction x using List.casesOn with
  | nil=>exact ffE h
  | cons b x =>
   rcases lU h with ⟨rfl,h'⟩ | ⟨_,_,_,_,_,h'⟩
   ·nomatch Za1 (ih h'),ih
    intro zt4_0 h2
    nomatch Ze1 zt4_0,zt4_0
    intro r zq1
    clear h' h
    subst zq1
    exact ⟨⟨r,rfl⟩,h2⟩
   ·exact ffE h'
def uv (v:AV) (k:SS->Bool):Bool:=@AV.rec (fun _=>(SS->Bool)->Bool) (fun k=>false) (fun b k=>false) (fun i k=>false) (fun s k=>false) (fun j k=>false) (fun v k=>false) (fun l _ k=>false) (fun k=>false) (fun _ _ _ _ k=>false) (fun _ _ k=>false) (fun _ _ _ k=>false) (fun _ _ _ k=>false) (fun a b c k=>false) (fun a b c _ _ _ k=>false) (fun _ k=>false) (fun _ _ k=>false) (fun _ _ _ k=>false) (fun k=>false) (fun _ k=>false) (fun _ _ k=>false) (fun s k=>k s) (fun _ k=>false) (fun _ k=>false) v k
theorem l3 {v:AV} {k:SS->Bool} (h:uv v k=true):∃ s,v = .slen s∧k s=true:=by
 induction v using AV.casesOn<;>first | (exact (am _ rfl h)) | exact ffE h
def rQ (v:AV):Bool:=bk (bq v) fun _=>true
def pSS:P2:=fun a b H k=>bO a fun x=>jO x 0 fun n=>aB (Nat.ble n 100000) (l4 b fun lo hi st=>gA st (gA hi (gA lo (k (.str x) H) (bk (bq lo) fun i=>bk (natOf i) fun n=>zy x n fun r=>k (.str r) H))
 (gA lo (br (uv hi fun p=>xX p x (k (.str p) H)) (bk (bq hi) fun i=>bk (natOf i) fun n=>Fw x n fun r=>k (.str r) H) (rQ hi)) false)) false)
theorem GX:gx C pSS:=by
 intro X dp f H k A env B ρ Z s a b va vb hd hA ok ra rb
 nomatch ad (aC hd),hd
 intro x ia h1
 rw [dL] at h1
 nomatch Za1 (af h1),h1
 intro h2 h3
 nomatch eH (gq h3),h3
 intro lo hi st zq3 h4
 subst zq3
 refine Ze1 (aA ia ra) fun t zq1=>?_
 clear ra
 subst zq1
 have hsz:=u8 C (ZbL h2)
 have hlen:(aw C.σ x).length=(txt C.σ x).length:=bX ..
 refine (aK ("str") ("str.__getitem__") (typeIs_str _ _ _) F.slot_str_getitem.lookup (fun Q E hQ=>?_))
 nomatch Ze4 rb.inv,rb
 intro _ _ _ _ zw0
 nomatch Za4 zw0,zw0
 intro zq4 hz r1 r2 r3
 subst zq4
 rcases ca h4 r3 with ⟨e,h5⟩ | ⟨_,h5⟩
 ·have:=eq_of_beq e
  clear r3 e
  subst this
  have done:∀ (l u:Option Nat) (t1 t2:Tok) (y:SS),l.getD 0≤u.getD (aw C.σ x).length->u.getD (aw C.σ x).length≤(aw C.σ x).length->((txt C.σ x).drop (l.getD 0)).take (u.getD (aw C.σ x).length-l.getD 0)=txt C.σ y->k (.str y) H=true ->
    (sliceMade (aw C.σ x) t (l.map fun n=>((n:Int),t1)) (u.map fun n=>((n:Int),t2)) none).post Q s:=fun l u t1 t2 y a1 a2 a3 a4 =>
   pW a1 a2 hsz fun t' tk ht=>hQ ρ Z H _ (.str y) _ (Ext.refl ..) (ok.tok tk ht) (by
    have:((aw C.σ x).cps.toList.drop (l.getD 0)).take (u.getD (aw C.σ x).length-l.getD 0)=txt C.σ y:=a3
    rw [this]; exact .str ..) a4
  rcases ca h5 r2 with ⟨e2,h6⟩ | ⟨e2,h6⟩
  ·have:=eq_of_beq e2
   subst this
   rcases ca h6 r1 with ⟨e3,h7⟩ | ⟨e3,h7⟩
   ·have:=eq_of_beq e3
    subst this
    refine wpAny_getItem_str_slice (l:=none) (u:=none) (st:=none) ⟨_,ok.g.z _ _ hz,rfl,rfl⟩ rfl (done none none 0 0 x (Nat.zero_le _) (Nat.le_refl _) ?_ h7)
    simp [hlen]
   ·nomatch ad (al h7),h7
    intro i g1 g2
    refine ad (al g2) fun n g3 g4=>?_
    nomatch ay (oE (C:=C) g4),g4
    intro p r g5 g6 g7
    nomatch Ze1 (ar g1 r1),r1
    intro u zq1
    subst zq1
    have:=aQ g3
    clear g1 g2 g3
    subst this
    have hx:txt C.σ x=txt C.σ p++txt C.σ r:=by rw [g5,cG]
    refine wpAny_getItem_str_slice (l:=some ((n:Int),u)) (u:=none) (st:=none) ⟨_,ok.g.z _ _ hz,rfl,rfl⟩ rfl (done (some n) none u 0 r ?_ (Nat.le_refl _) ?_ g7)
    ·refine (?_:n≤(aw C.σ x).length)
     rw [hlen,hx,List.length_append,g6]; omega
    ·refine (?_:((txt C.σ x).drop n).take ((aw C.σ x).length-n)=_)
     rw [hlen,hx,← g6,List.drop_left,List.length_append,Nat.add_sub_cancel_left,List.take_length]
  ·rcases ca h6 r1 with ⟨e3,h7⟩ | ⟨_,h7⟩
   ·have:=eq_of_beq e3
    subst this
    induction q:rQ hi using Bool.casesOn with
    | true =>
     rw [q] at h7
     nomatch ad (al h7),h7
     intro i g1 g2
     refine ad (al g2) fun n g3 g4=>?_
     nomatch ay (vo (C:=C) g4),g4
     intro p r g5 g6 g7
     nomatch Ze1 (ar g1 r2),r2
     intro u zq1
     subst zq1
     have:=aQ g3
     clear g1 g2 g3
     subst this
     have hx:txt C.σ x=txt C.σ p++txt C.σ r:=by rw [g5,cG]
     refine wpAny_getItem_str_slice (l:=none) (u:=some ((n:Int),u)) (st:=none) ⟨_,ok.g.z _ _ hz,rfl,rfl⟩ rfl (done none (some n) 0 u p (Nat.zero_le _) ?_ ?_ g7)
     ·refine (?_:n≤(aw C.σ x).length)
      rw [hlen,hx,List.length_append,g6]; omega
     ·refine (?_:((txt C.σ x).drop 0).take (n-0)=_)
      rw [List.drop_zero,Nat.sub_zero,hx,← g6,List.take_left]
    | false =>
     rw [q] at h7
     refine ad (l3 h7) fun p zq1 g1=>?_
     clear h4 h5 h6 h7 q
     subst zq1
     nomatch Za1 (pP g1),g1
     intro zt18_0 g7
     nomatch Ze1 zt18_0,zt18_0
     intro r g5
     have hx:txt C.σ x=txt C.σ p++txt C.σ r:=by rw [g5,cG]
     nomatch Ze1 r2.inv,r2
     intro u zq1
     subst zq1
     refine wpAny_getItem_str_slice (l:=none) (u:=some (((txt C.σ p).length:Int),u)) (st:=none) ⟨_,ok.g.z _ _ hz,rfl,rfl⟩ rfl (done none (some (txt C.σ p).length) 0 u p (Nat.zero_le _) ?_ ?_ g7)
     ·refine (?_:(txt C.σ p).length≤(aw C.σ x).length)
      rw [hlen,hx,List.length_append]; omega
     ·refine (?_:((txt C.σ x).drop 0).take ((txt C.σ p).length-0)=_)
      rw [List.drop_zero,Nat.sub_zero,hx,List.take_left]
   ·exact ffE h7
 ·exact ffE h5
end
structure ClsOK (C:Cx) (c:Addr):Prop where
 ga:findIn C.K (.ref c) "__getattribute__" = some (some (.builtin "object.__getattribute__"))
 gk:findIn C.K (.ref c) "__getattr__" = some none
 sa:findIn C.K (.ref c) "__setattr__" = some (some (.builtin "object.__setattr__"))
 po:plainOver C.K c=true
 hd:(clsIn C.K c).any (·.hasDict)=true
noncomputable def cy (K:Frag) (c:Addr) (name:Str):Bool:=match findIn K (.ref c) name with
 | some none=>true
 | some (some a)=>(specialIn K a "__get__").isSome&&takesIn K a==some false
 | none=>false
theorem tJ {K:Frag} {c:Addr} {name:Str} {od:Obj} {v:Value} (hf:cy K c name=true) (hd:(clsIn K c).any (·.hasDict)=true) (hl:lookIn name od=some (some v)):findObj K c (some od) name=some (.value v):=by
 nomatch ad (any_some hd),hd
 intro cd hc' hd
 unfold findObj
 have ho:PySem.W.ownOf cd (some od) name=some (some v):=by unfold PySem.W.ownOf; rw [if_pos hd]; exact hl
 rw [hc',Option.bind_some]
 unfold cy at hf
 split at hf
 ·rename_i e
  rw [e,Option.bind_some]
  simp only [Option.bind_some,ho]
 ·rename_i a e
  nomatch Za1 (Bool.and_eq_true_iff.mp hf),hf
  intro e1 e2
  nomatch Ze1 (Option.isSome_iff_exists.mp e1),e1
  intro g hg
  have e2:=beq_iff_eq.mp e2
  rw [e,Option.bind_some]
  simp only [hg,Option.bind_some]
  induction g using Option.casesOn with
  | none=>simp only [Option.bind_some,ho]
  | some g=>simp only [e2,Option.bind_some,ho]
 ·exact ffE hf
theorem qE {K:Frag} {c:Addr} {name:Str} (hf:cy K c name=true):takerIn K c name=some none:=by
 unfold cy at hf
 unfold takerIn
 split at hf
 ·rename_i e; rw [e]; rfl
 ·rename_i a e
  have e2:=beq_iff_eq.mp (Bool.and_eq_true_iff.mp hf).2
  rw [e,Option.bind_some]; dsimp only; rw [e2]; rfl
 ·exact ffE hf
theorem wR {o:Obj} {ds:Array DictEntry} {ep:Nat} {x:Str} {r:Option Value} (h:o.data = .dict ds ep) (hk:StrKeys ds) (hf:nsFind ds x=r):lookIn x o=some r:=by
 have e:r=(ds.toList.find? fun e=>e.key.isStr x).map (·.val):=by
  rw [← hf]
  unfold nsFind findBy
  rw [Array.find?_toList]
 unfold lookIn
 rw [h]
 dsimp only
 induction q:ds.toList.find? (fun e=>e.key.isStr x) using Option.casesOn with
 | some en=>rw [q] at e; rw [e]; rfl
 | none =>
  rw [q] at e
  have:ds.toList.any (·.refKey)=false:=by
   rw [List.any_eq_false]
   intro en hen
   refine Ze2 (hk en (Array.mem_toList_iff.mp hen)) fun n t k=>?_
   unfold DictEntry.refKey
   rw [k]; simp
  dsimp only
  rw [this,e]; rfl
theorem EL {i j:Nat} (hi:i<attrTab.length) (hj:j<attrTab.length) (h:anm i=anm j):i=j:=by
 have nd:attrTab.Nodup:=by decide
 refine (List.getElem?_inj hi nd).mp ?_
 unfold anm at h
 rw [List.getD_eq_getElem?_getD,List.getD_eq_getElem?_getD] at h
 rw [ZbG hi,ZbG hj] at h ⊢
 exact congrArg some h
theorem Dh {i:Nat} (hi:i<attrTab.length):anm i∈attrTab:=by
 unfold anm
 rw [List.getD_eq_getElem?_getD,ZbG hi]
 exact List.getElem_mem hi
def GG (i:Nat) (v:AV) (es:List (Nat × AV)):(List (Nat × AV)->Bool)->Bool :=
 @List.rec (Nat × AV) (fun _=>(List (Nat × AV)->Bool)->Bool) (fun k=>k [(i,v)]) (fun x r ih k=>@Prod.rec Nat AV (fun _=>Bool) (fun j w=>br (ih fun r=>k (x :: r)) (k ((i,v) :: r)) (Nat.beq i j)) x) es
theorem hF (j:Nat) (v:AV) (es:List (Nat × AV)) (i:Nat):q5 ((j,v) :: es) i=if i=j then some v else q5 es i:=by
 refine (?_:br (q5 es i) (some v) (Nat.beq i j)=_)
 rw [eA]
 by_cases h:i=j
 ·rw [decide_eq_true h,if_pos h]; rfl
 ·rw [decide_eq_false h,if_neg h]; rfl
theorem xp {i:Nat} {v:AV} {es:List (Nat × AV)}:∀ {k:List (Nat × AV)->Bool},GG i v es k=true->∃ es',k es'=true∧∀ n,q5 es' n=if n=i then some v else q5 es n:=by
 induction es with
 | nil=>intro k h; exact (am _ h (fun n=>by rw [hF]))
 | cons x r ih =>
  intro k h
  obtain ⟨j,w⟩:=x
  change br (GG i v r fun r=>k ((j,w) :: r)) (k ((i,v) :: r)) (Nat.beq i j)=true at h
  rw [eA] at h
  by_cases e:i=j
  ·rw [decide_eq_true e] at h
   subst e
   refine (am _ h (fun n=>?_))
   rw [hF,hF]
   split<;>rfl
  ·rw [decide_eq_false e] at h
   refine ad (ih h) fun es' h1 h2=>?_
   refine (am _ h1 (fun n=>?_))
   rw [hF,hF,h2]
   by_cases hn:n=j
   ·rw [if_pos hn,if_pos hn,if_neg fun z:n=i=>e (by rw [← z,hn])]
   ·rw [if_neg hn,if_neg hn]
def B4 (v:AV) (k:Addr->Nat->Bool):Bool:=@AV.rec (fun _=>(Addr->Nat->Bool)->Bool) (fun k=>false) (fun b k=>false) (fun i k=>false) (fun s k=>false) (fun j k=>false) (fun v k=>false) (fun l _ k=>false) (fun k=>false) (fun _ _ _ _ k=>false) (fun c j k=>k c j) (fun _ _ _ k=>false) (fun _ _ _ k=>false) (fun a b c k=>false) (fun a b c _ _ _ k=>false) (fun _ k=>false) (fun _ _ k=>false) (fun _ _ _ k=>false) (fun k=>false) (fun _ k=>false) (fun _ _ k=>false) (fun _ k=>false) (fun _ k=>false) (fun _ k=>false) v k
theorem tw {v:AV} {k:Addr->Nat->Bool} (h:B4 v k=true):∃ c j,v = .inst c j∧k c j=true:=by
 induction v using AV.casesOn<;>first | (exact (dj _ _ rfl h)) | exact ffE h
def Dv (ao:AO) (k:List (Nat × AV)->Bool):Bool:=@AO.rec (fun _=>(List (Nat × AV)->Bool)->Bool) (fun _ _ k=>false) (fun es k=>k es) (fun _ k=>false) (fun _ k=>false) (fun _ k=>false) (fun _ k=>false) ao k
def tO (c:Addr) (v:AV) (H:HP) (k:Nat->List (Nat × AV)->Bool):Bool:=B4 v fun c' j=>aB (Nat.beq c' c) (H.getK j fun ao=>Dv ao fun es=>k j es)
theorem gu {c:Addr} {v:AV} {H:HP} {k:Nat->List (Nat × AV)->Bool} (h:tO c v H k=true):∃ j es,v = .inst c j∧H.get j=some (.attrs es)∧k j es=true:=by
 nomatch aE (tw h),h
 intro c' j zq2 h
 subst zq2
 nomatch Za1 (af h),h
 intro h1 h
 nomatch ad (HP.getK_true h),h
 intro ao h2 h
 have:=ZbE h1
 clear h1
 subst this
 induction ao using AO.casesOn with
 | attrs es=>exact (aK j es rfl h2 h)
 | _=>exact ffE h
noncomputable def EF:Value->Bool
 | .ref _=>true
 | _=>false
def Ff (v:AV):Bool:=@AV.rec (fun _=>Bool) true (fun b=>true) (fun i=>true) (fun s=>true) (fun j=>true) (fun v=>EF v) (fun l _=>true) false (fun _ _ _ _=>false) (fun c j=>true) (fun _ _ _=>true) (fun _ _ _=>true) (fun a b c=>true) (fun a b c _ _ _=>true) (fun _=>true) (fun _ _=>true) (fun _ _ _=>true) true (fun _=>true) (fun _ _=>true) (fun _=>true) (fun _=>true) (fun _=>true) v
section
variable {C:Cx} {X:Sc} {B:Bz} {f:Fm} {env:Env} {ρ:List Addr} {Z:Fz} {H H':HP} {s:Shared} {A:Around}
theorem z8 {v:AV} {w:Value} (h:Ff v=true) (r:VRel C.σ ρ Z v w):handedIn w=true:=by
 induction r using VRel.casesOn with
 | con w=>revert h; induction w using PySem.Value.casesOn<;>first | (intro _; rfl) | (intro h; exact ffE h)
 | _=>first | rfl | exact ffE h
theorem kW (ok:OK C X B f env ρ Z H s) {c:Addr} {j:Nat} {v:Value} {es:List (Nat × AV)} (r:VRel C.σ ρ Z (.inst c j) v) (h:H.get j=some (.attrs es)) :
  ∃ x dx o m,v = .ref x∧ρ[j]?=some dx∧Z.ob x (instObj c dx)∧InstAt s.heap x (instObj c dx) c (some o)∧(∀ y,lookIn y o=some (m y))∧s.heap.Ns1 dx m∧EntA C ρ Z es m:=by
 refine ay r.inv fun x dx zq2 h1 h2=>?_
 clear r
 subst zq2
 refine ay (ok.g.obj j dx h2) fun ao o e1 e2 e3=>?_
 rw [h] at e1
 injections e1
 refine fH e3 fun ds ep m d1 d2 d3 d4 d5=>?_
 exact ⟨x,dx,o,m,rfl,h2,h1,⟨ok.g.z _ _ h1,rfl,rfl,e2⟩,fun y=>wR d1 d2 (d4 y),⟨o,ds,ep,e2,d1,d2,d3,d4⟩,d5⟩
def bs (c:Addr) (i:Nat):P1:=fun v H k=>tO c v H fun j es=>bk (q5 es i) fun w=>aB (Ff w) (k w H)
theorem aR {c:Addr} {i:Nat} {name:Str} {expr:Bool} (hc:ClsOK C c) (hi:anm i=name) (hl:i<attrTab.length) (hf:cy C.K c name=true):Bn C (fun v=>getAttr v name expr) (bs c i):=by
 intro X dp f H k A env B ρ Z s a va hd hA ok ra Q E hQ
 nomatch ay (gu hd),hd
 intro j es zq2 hj hd
 subst zq2
 nomatch ad (al hd),hd
 intro w h1 hd
 nomatch Za1 (af hd),hd
 intro h2 h3
 nomatch Ze4 (kW ok ra hj),hj
 intro x dx o m zw0
 nomatch Za4 zw0,zw0
 intro zq4 g1 g2 g3 zw1
 nomatch Za2 zw1,zw1
 intro g4 g5 g6
 clear ra
 subst zq4
 subst hi
 rcases g6.1 i hl with ⟨e,_⟩ | ⟨y,u,e1,e2,e3⟩
 ·rw [h1] at e; exact noS e.symm
 ·rw [h1] at e1
  injections e1
  exact get_value ok.K g3 hc.ga (tJ hf hc.hd (by rw [g4,e2])) (z8 h2 e3) (hQ _ _ _ _ _ _ (Ext.refl ..) (ok.tok _) e3 h3)
def dUn (p:P1) (d:D):D:=fun dp f H k=>d dp f H fun v H=>p v H k
theorem aW {value:Ex} {attr:Str} {pos:Pos} {p:P1} {d:D} (h:SE C X value d) (hp:Bn C (fun v=>getAttr v attr true) p)
  (he:∀ env,eval (.Attribute value attr pos) env=(do
   let o ← eval value env
   standAt pos.atName
   let r ← holding [o] (getAttr o attr true)
   letTemporaryGo value o r
   pure r)):SE C X (.Attribute value attr pos) (dUn p d) :=
 fun dp f H k A env B ρ Z s hd hA ok Q E hQ=>Attribute_any_ (h _ _ _ _ _ _ _ _ _ _ hd hA ok _ _ fun ρ₁ Z₁ H₁ s₁ a va e₁ ok₁ r₁ hdq1=>hp _ _ _ _ _ _ _ _ _ _ _ _ _ hdq1 hA ok₁ r₁ _ _ fun ρ2 Z₂ H₂ sq2 b vb e₂ ok₂ r₂ hk=>hQ _ _ _ _ _ _ (e₁.trans e₂) ok₂ r₂ hk) (he env)
noncomputable abbrev P2s:=AV->AV->HP->(HP->Bool)->Bool
noncomputable def vJ (C:Cx) (t:Value->Value->Sem Unit) (p:P2s):Prop :=
 ∀ X dp f H k A env B ρ Z s a b va vb,p a b H k=true->AOk dp A->OK C X B f env ρ Z H s->VRel C.σ ρ Z a va->VRel C.σ ρ Z b vb->∀ (Q:Unit->Shared->Prop) (E:Value->Shared->Prop),(∀ H' s',OK C X B f env ρ Z H' s'->k H'=true->Q () s')->wpAny (model C.prog C.w) A (t va vb) Q E s
def dy (c:Addr) (i:Nat):P2s:=fun v w H k=>tO c v H fun j es=>GG i w es fun es=>H.set j (.attrs es) k
theorem EntA.put {es es':List (Nat × AV)} {m:Str->Option Value} {i:Nat} {w:AV} {v:Value} (h:EntA C ρ Z es m) (hl:i<attrTab.length) (hs:∀ n,q5 es' n=if n=i then some w else q5 es n) (r:VRel C.σ ρ Z w v) :
  EntA C ρ Z es' (fun y=>if y=anm i then some v else m y):=by
 refine ⟨fun n hn=>?_,fun x hx=>?_⟩
 ·rw [hs]
  by_cases e:n=i
  ·clear hl hs
   subst e; dsimp only; rw [if_pos rfl,if_pos rfl]; exact .inr (aK w v rfl rfl r)
  ·dsimp only; rw [if_neg e,if_neg fun z=>e (EL hn hl z)]; exact h.1 n hn
 ·have:x ≠ anm i:=fun e=>hx (e ▸ Dh hl)
  dsimp only
  rw [if_neg this]
  exact h.2 x hx
theorem EntA.within {es:List (Nat × AV)} {m:Str->Option Value} (h:EntA C ρ Z es m):Within m attrTab:=fun y hy=>Classical.byContradiction fun z=>hy (h.2 y z)
theorem b6 {c:Addr} {i:Nat} {name:Str} (hc:ClsOK C c) (hi:anm i=name) (hl:i<attrTab.length) (hf:cy C.K c name=true):vJ C (fun v w=>setAttr v name w) (dy c i):=by
 intro X dp f H k A env B ρ Z s a b va vb hd hA ok ra rb Q E hQ
 nomatch ay (gu hd),hd
 intro j es zq2 hj hd
 subst zq2
 nomatch ad (xp hd),hd
 intro es' hd hs
 nomatch aU (HP.set_spec hd),hd
 intro H' h1 h2 h3
 nomatch Ze4 (kW ok ra hj),hj
 intro x dx o m zw0
 nomatch Za4 zw0,zw0
 intro zq4 g1 g2 g3 zw1
 nomatch Za2 zw1,zw1
 intro g4 g5 g6
 clear ra
 subst zq4
 subst hi
 have ok1:=ok.tok (s.toks+1)
 refine set_plain ok.K g3 hc.sa (osa_open (s:={ s with toks:=s.toks+1 }) ok1.K g3 hc.po (qE hf) fun b=>?_)
 refine ad (any_some hc.hd) fun cd hcd hd'=>?_
 refine ZB (ZP (ZB (ZB (wpAny_loadPart g3.at_ (ZB ((looks_clsIn (M:=model C.prog C.w) ok1.K hcd).here ?_))))))
 rw [hd']
 refine ZP (a:=some dx) (ZB (ZP (ZB ?_)))
 refine wpAny_nsSet1 (s:={ s with toks:=s.toks+1 }) g5 fun h' hn' hs'=>?_
 have g7:=g6.put hl hs rb
 refine bM (hn'.count g7.within) fun oD esD epD hoD hdD hcD=>?_
 refine ZB (wpAny_lookBehind hoD (by rw [hdD]; exact pastItsLine_dict (Nat.le_trans hcD (by rw [sizeLine_eq]; decide))) ?_)
 refine fH hn' fun o' es' ep' d1 d2 d3 d4 d5=>?_
 exact ZP (hQ _ _ (OK.update ok1 h2 h3 g1 hs' d1 ⟨es',ep',_,d2,d3,d4,d5,g7⟩ |>.tok _) h1)
def bQ (p:P2s) (dv dov:D):DS:=fun dp f H kn _=>dv dp f H fun w H=>dov dp f H fun v H=>p v w H fun H=>kn f H
theorem bH {o value:Ex} {attr:Str} {pos' pos:Pos} {p:P2s} {dv dov:D} (hv:SE C X value dv) (ho:SE C X o dov) (hp:vJ C (fun v w=>setAttr v attr w) p)
  (hs:∀ env,swapsWith value (some (.Attribute o attr pos')) pos.line env=pure false):S1 C X (.Assign [.Attribute o attr pos'] value pos) (bQ p dv dov) :=
 fun dp f H kn kr A env B ρ Z s hd hA ok Q E hn hr=>plainObj_wpAny_Assign_Attribute (hv _ _ _ _ _ _ _ _ _ _ hd hA ok _ _ fun ρ₁ Z₁ H₁ s₁ w vw e₁ ok₁ r₁ hdq1 =>
  ho _ _ _ _ _ _ _ _ _ _ hdq1 hA ok₁ _ _ fun ρ2 Z₂ H₂ sq2 v vv e₂ ok₂ r₂ hdq2=>hp _ _ _ _ _ _ _ _ _ _ _ v w vv vw hdq2 hA ok₂ r₂ (r₁.ext e₂) _ _ fun H3 s₃ ok₃ hk=>hn _ _ _ _ _ (e₁.trans e₂) ok₃ hk) (hs env)
def oN (g:P1) (op:P2) (p:P2s) (dov dv:D):DS:=fun dp f H kn _=>dov dp f H fun v H=>g v H fun old H=>dv dp f H fun w H=>op old w H fun new H=>p v new H fun H=>kn f H
theorem qj {o value:Ex} {attr:Str} {pos' pos:Pos} {op:Operator} {g:P1} {q:P2} {p:P2s} {dv dov:D} (ho:SE C X o dov) (hg:Bn C (fun v=>getAttr v attr true) g) (hv:SE C X value dv) (hop:cK C (fun a b=>inplaceOp op a b) q)
  (hp:vJ C (fun v w=>setAttr v attr w) p):S1 C X (.AugAssign (.Attribute o attr pos') op value pos) (oN g q p dov dv) :=
 fun dp f H kn kr A env B ρ Z s hd hA ok Q E hn hr=>wpAny_AugAssign_AttributeAny (ho _ _ _ _ _ _ _ _ _ _ hd hA ok _ _ fun ρ₁ Z₁ H₁ s₁ v vv e₁ ok₁ r₁ hdq1 =>
  hg _ _ _ _ _ _ _ _ _ _ _ _ _ hdq1 hA ok₁ r₁ _ _ fun ρ2 Z₂ H₂ sq2 old vold e₂ ok₂ r₂ hdq2=>hv _ _ _ _ _ _ _ _ _ _ hdq2 hA ok₂ _ _ fun ρ3 Z3 H3 s₃ w vw e₃ ok₃ r₃ hdq3 =>
   hop _ _ _ _ _ _ _ _ _ _ _ old w vold vw hdq3 hA ok₃ (r₂.ext e₃) r₃ _ _ fun ρ4 Z4 H4 s4 new vnew e₄ ok₄ rq4 hdq4 =>
    hp _ _ _ _ _ _ _ _ _ _ _ v new vv vnew hdq4 hA ok₄ (r₁.ext ((e₂.trans e₃).trans e₄)) rq4 _ _ fun H5 s₅ ok₅ hk=>hn _ _ _ _ _ (((e₁.trans e₂).trans e₃).trans e₄) ok₅ hk)
end
noncomputable def BM (C:Cx) (b:Builtin) (n:Nat) (c:DC):Prop :=
 ∀ X dp f H k A env B ρ Z s args vals,c args dp H k=true->AOk dp A->OK C X B f env ρ Z H s->VRs C.σ ρ Z args vals->args.length=n->∀ (Q:Value->Shared->Prop) (E:Value->Shared->Prop),
  (∀ ρ' Z' H' s' b a,Ext ρ Z ρ' Z'->OK C X B f env ρ' Z' H' s'->VRel C.σ ρ' Z' b a->k b H'=true->Q a s') ->
  wpAny (model C.prog C.w) A.in1 (b ⟨vals,[]⟩) (fun fin s'=>match fin with | .done f=>wants Q E (.ok f) s' | .again c'=>c'.quiet=true∧codeAny (model C.prog C.w) A c' (wants Q E) s') (fun e s'=>wants Q E (.error e) s') s
section
variable {C:Cx} {X:Sc} {B:Bz} {f:Fm} {env:Env} {ρ:List Addr} {Z:Fz} {H H':HP} {s:Shared} {A:Around}
theorem uj {s:Shared} {sep:Str} {Q:Value->Shared->Prop}:∀ (l:List (Str × Tok)),(Txt.join sep (l.map (·.1))).length≤sizeLine->(∀ t' k,s.toks≤k->Q (.str (Txt.join sep (l.map (·.1))) t') { s with toks:=k })->(joinMade sep l).post Q s
 | [],h,q=>⟨h,q _ _ (Nat.le_succ _)⟩
 | [p],h,q=>q p.2 s.toks (Nat.le_refl _)
 | _ :: _ :: _,h,q=>⟨h,q _ _ (Nat.le_succ _)⟩
theorem xS:BM C Builtin.«list.append» 2 b7:=by
 intro X dp f H k A env B ρ Z s args vals hc hA ok hv hlen Q E hQ
 nomatch aE (cE hc hlen),hc
 intro a b zq2 h
 subst zq2
 nomatch ay hv.two,hv
 intro va vb zq2 ra rb
 subst zq2
 nomatch bM (aG h),h
 intro j n rx zq3 hj h
 subst zq3
 nomatch Za1 (af h),h
 intro h1 h
 rw [aP] at h
 nomatch aU (HP.set_spec h),h
 intro H' h2 h3 h4
 nomatch bS (bg ok ra hj),hj
 intro a vs ep zq3 hρ hl hv' hn hn'
 clear ra
 subst zq3
 have hsz:n≤100000:=ZbL h1
 refine list_append a vs.toArray ep vb (by rw [List.size_toArray,hn,sizeLine_eq]; omega) C.prog C.w A (wants Q E) s ⟨hl,?_⟩
 exact hQ _ _ _ _ _ _ (Ext.refl ..) (ok.mapSeq (ws:=vs++[vb]) hρ hl (by simp) h3 h4 (by rw [List.reverse_cons]; exact hv'.append (.cons rb .nil)) (by simp [hn'])) .none h2
theorem D8:BM C Builtin.«str.join» 2 o8:=by
 intro X dp f H k A env B ρ Z s args vals hc hA ok hv hlen Q E hQ
 nomatch aE (cE hc hlen),hc,hlen
 intro a b zq2 h
 subst zq2
 nomatch ay hv.two,hv
 intro va vb zq2 ra rb
 subst zq2
 nomatch ad (aC h),h
 intro x ia h
 induction x using List.casesOn with
 | cons _ _=>exact ffE h
 | nil =>
  nomatch bM (aG h),h
  intro j n rx zq3 hj h
  subst zq3
  nomatch ad (oG h),h
  intro ts est h2
  rw [List.append_nil] at h2
  nomatch Za1 (f9 h2),h2
  intro h3 h4
  nomatch Ze1 (aA ia ra),ia
  intro t zq1
  clear ra
  subst zq1
  nomatch bS (bg ok rb hj),hj
  intro a vs ep zq3 hρ hl hv' hn hn'
  clear rb
  subst zq3
  nomatch ad (wc est.rev hv'),est
  intro l zq1 e
  clear hv' hn
  subst zq1
  have hok:=qm C h3
  rw [← e] at hok
  unfold JoinOk at hok
  rw [Bool.not_eq_true'] at hok
  refine meets_str_join_list (aw C.σ []) t a l hok C.prog C.w A (wants Q E) s ⟨hl.isList,uj l (joinFit_length hok) fun t' k' ht=>?_⟩
  rw [e,show aw C.σ []=⟨#[]⟩ from rfl,oo]
  exact hQ _ _ _ _ _ _ (Ext.refl ..) (ok.tok _ ht) (.str ..) h4
noncomputable def CV (C:Cx) (n:Nat) (c:DCv):Prop :=
 ∀ X dp f H k A env B ρ Z s fav fv args vals,c fav args dp H k=true->AOk dp A->OK C X B f env ρ Z H s->VRel C.σ ρ Z fav fv->VRs C.σ ρ Z args vals->args.length=n ->
  (∃ kp,(kp=Keeper.frame∨kp=Keeper.machine∨kp=Keeper.boundFrame)∧Looks (model C.prog C.w) s.heap (keeperOf fv) kp)∧Wp C X B f env (RV C) ρ Z A (call fv vals) s k
theorem mD {M:Model} {E:Value->Shared->Prop} {pos:Pos} {fv:Value} {first:List Value} {args:List Ex} {Q:Value->Shared->Prop} (hs:(backTo pos (starEach args env)).any (·.1)=false)
  (h:wpAny M A (spliced (backTo pos (starEach args env))) (fun vs s₁=>(∃ kp,(kp=Keeper.frame∨kp=Keeper.machine∨kp=Keeper.boundFrame)∧Looks M s₁.heap (keeperOf fv) kp)∧wpAny M A (call fv (first++vs)) Q E s₁) E s) :
  wpAny M A (callWith pos fv first (backTo pos (starEach args env)) []) Q E s :=
 callWith_of (P:=fun h=>∃ kp,(kp=Keeper.frame∨kp=Keeper.machine∨kp=Keeper.boundFrame)∧Looks M h (keeperOf fv) kp) (by rw [hs]; rfl) (fun h x=>x) (bv hs h)
theorem jg {x:Str} {p pos:Pos} {args:List Ex} {c:DCv} {d:D} {ds:DL} (hf:SE C X (.Name x p) d) (ha:SL C X pos args ds) (hs:∀ env,(backTo pos (starEach args env)).any (·.1)=false) (hc:CV C args.length c) :
  SE C X (.Call (.Name x p) args [] pos) (fun dp f H k=>d dp f H fun fv H=>ds dp f H fun vs H=>c fv vs dp H k):=by
 intro dp f H k A env B ρ Z s hd' hA ok Q E hQ
 refine (?_:wpAny _ _ (eval (.Call (.Name x p) args [] pos) env) _ _ _)
 rw [dK (C:=C) (X:=X)]
 refine ZB (hf _ _ _ _ _ _ _ _ _ _ hd' hA ok _ _ fun ρ₁ Z₁ H₁ s₁ fv vfv e₁ ok₁ r₁ hdq1=>mD (hs env) ?_)
 refine ha _ _ _ _ _ _ _ _ _ _ hdq1 hA ok₁ _ _ fun ρ2 Z₂ H₂ sq2 vs vvs e₂ ok₂ r₂ hdq2=>?_
 refine Za1 (hc _ _ _ _ _ _ _ _ _ _ _ fv vfv vs vvs hdq2 hA ok₂ (r₁.ext e₂) r₂.1 r₂.2) fun q1 q2=>?_
 exact ⟨q1,q2 _ _ fun ρ3 Z3 H3 s₃ b vb e₃ ok₃ r₃ hk=>hQ _ _ _ _ _ _ ((e₁.trans e₂).trans e₃) ok₃ r₃ hk⟩
theorem pY {M:Model} {E:Value->Shared->Prop} {o:Ex} {name:Str} {apos pos:Pos} {args:List Ex} {Q:Value->Shared->Prop}
  (hbase:attributeBase o name env (eval o env)=eval o env)
  (hfew:((backTo pos (starEach args env)).all (fun x=>!x.1)&&(backToKw pos (keywordEach [] env)).all (fun x=>x.1.isSome)&&decide (args.length+([]:List Keyword).length+(if ([]:List Keyword).isEmpty then 0 else 1)<30))=true)
  (hline:(apos.endLine==pos.line)=true)
  (h:wpAny M A (eval o env) (fun ov s₁=>∀ pl,wpAny M A (getMethod ov name pl) (fun r sq2=>wpAny M A (callWith pos r.1 r.2 (backTo pos (starEach args env)) []) Q E sq2) E s₁) E s) :
  wpAny M A (eval (.Call (.Attribute o name apos) args [] pos) env) Q E s:=by
 rw [arm_eval_Call,hbase]
 refine ZB (wpAny_mono h (fun ov s₁ h₁=>?_) fun _ _ e=>e)
 refine ZB (wpAny_standAt ?_)
 have hform:methodCallForm (args.length+([]:List Keyword).length) (backTo pos (starEach args env)) (backToKw pos (keywordEach [] env))=true:=hfew
 have hpos:methodCallPos true o env apos pos=pure pos:=by unfold methodCallPos; simp [hline]
 unfold methodCall
 rw [hform]
 refine ZB (wpAny_holding (wpAny_mono (h₁ _) (fun r sq2 h₂=>?_) fun _ _ e=>e))
 exact ZB (wpAny_of_eq hpos h₂)
def cT (c:Addr) (m:DC) (d:D) (ds:DL):D:=fun dp f H k=>d dp f H fun ov H=>tO c ov H fun _ _=>ds dp f H fun vs H=>m (ov :: vs) dp H k
theorem bU {o:Ex} {name:Str} {apos pos:Pos} {args:List Ex} {c fa:Addr} {m:DC} {d:D} {ds:DL} (hc:ClsOK C c)
  (hbase:∀ env,attributeBase o name env (eval o env)=eval o env)
  (hfew:∀ env,((backTo pos (starEach args env)).all (fun x=>!x.1)&&(backToKw pos (keywordEach [] env)).all (fun x=>x.1.isSome)&&decide (args.length+([]:List Keyword).length+(if ([]:List Keyword).isEmpty then 0 else 1)<30))=true)
  (hline:(apos.endLine==pos.line)=true) (hs:∀ env,(backTo pos (starEach args env)).any (·.1)=false)
  (hf:findIn C.K (.ref c) name=some (some (.ref fa))) (hK:∃ cls dct fd sl,C.K.lookup fa=some ⟨cls,dct,.func fd,sl⟩∧cls = .type "function") (hn:name ∉ attrTab)
  (hd:SE C X o d) (ha:SL C X pos args ds) (hm:SC C (.ref fa) (args.length+1) m) :
  SE C X (.Call (.Attribute o name apos) args [] pos) (cT c m d ds):=by
 intro dp f H k A env B ρ Z s hd' hA ok Q E hQ
 refine pY (hbase env) (hfew env) hline (hd _ _ _ _ _ _ _ _ _ _ hd' hA ok _ _ fun ρ₁ Z₁ H₁ s₁ a va e₁ ok₁ r₁ hdq1 pl=>?_)
 nomatch ay (gu hdq1),hdq1
 intro j es zq2 hj hdq1
 subst zq2
 nomatch Ze4 (kW ok₁ r₁ hj),hj
 intro x dx o mm zw0
 nomatch Za4 zw0,zw0
 intro zq4 g1 g2 g3 zw1
 nomatch Za2 zw1,zw1
 intro g4 g5 g6
 subst zq4
 nomatch Ze4 hK,hK
 intro cls dct fd sl zw0
 nomatch Za1 zw0,zw0
 intro hK zq5
 subst zq5
 refine method_fn ok₁.K g3 hc.ga hc.gk hf (by show (C.K.lookup fa).map _=_; rw [hK]; rfl) (by show Option.map _ (lookIn name o)=_; rw [g4,g6.2 _ hn]; rfl) ?_
 refine callWith_function (o:=⟨.type "function",dct,.func fd,sl⟩) (fd:=fd) (bv (hs env) ?_)
 exact ha _ _ _ _ _ _ _ _ _ _ hdq1 hA ok₁ _ _ fun ρ2 Z₂ H₂ sq2 vs vvs e₂ ok₂ r₂ hdq2=>⟨⟨ok₂.K _ _ hK,rfl⟩,hm _ _ _ _ _ _ _ _ _ _ _ _ _ hdq2 hA ok₂ (.cons (r₁.ext e₂) r₂.1) (by simp [r₂.2]) _ _ fun ρ3 Z3 H3 s₃ b vb e₃ ok₃ r₃ hk=>hQ _ _ _ _ _ _ ((e₁.trans e₂).trans e₃) ok₃ r₃ hk⟩
theorem pH {prog:Program} {w:World} {E:Value->Shared->Prop} {K:Frag} {x c:Addr} {ox:Obj} {od:Option Obj} {name:Str} {pl:Sem Bool} {Q:Value × List Value->Shared->Prop} {fa:Addr} (X:K.In s.heap) (I:InstAt s.heap x ox c od)
  (hga:findIn K (.ref c) "__getattribute__" = some (some (.builtin "object.__getattribute__"))) (hk:findIn K (.ref c) "__getattr__" = some none)
  (hf:findIn K (.ref c) name=some (some (.ref fa))) (ht:typeIn K (.ref fa)=some (.type "function")) (hs:shadowIn od name=some true)
  (h:wpAny (model prog w) A (getAttr (.ref x) name) (fun v=>Q (v,[])) E s):wpAny (model prog w) A (getMethod (.ref x) name pl) Q E s:=by
 have hcan:=PySem.F.canon_object_ga
 have u:wpAny (model prog w) A (do return (← getAttr (.ref x) name,([]:List Value))) Q E s:=ZB (wpAny_mono h (fun _ _ z=>ZP z) fun _ _ z=>z)
 unfold getMethod specialOf
 refine ZB (ZB (I.type.here ((looks_findIn X hga).here ?_)))
 dsimp only
 rw [hcan,if_neg (by decide)]
 refine ZB (ZB (I.type.here ((looks_findIn X hk).here ?_)))
 refine ZB (ZB (I.type.here ((looks_findIn X hf).here (ZB ((looks_typeIn X ht).here ?_)))))
 rw [if_neg (by decide +kernel)]
 refine ZB (wpAny_loadPart I.at_ ?_)
 have hd:=I.dict
 induction e:ox.dict using Option.casesOn with
 | none =>
  induction od using Option.casesOn with
  | none=>injections hs
  | some o=>rw [e] at hd; exact hd.elim
 | some dx =>
  induction od using Option.casesOn with
  | none=>rw [e] at hd; exact hd.elim
  | some o =>
   rw [e] at hd
   refine ad (Option.map_eq_some_iff.mp hs) fun r a b=>?_
   refine ZB (ZB (wpAny_loadPart hd ?_))
   rw [nsLook_of a]
   refine ZP ?_
   rw [b]
   exact u
noncomputable def qu (K:Frag) (c:Addr) (name:Str):Bool:=match findIn K (.ref c) name with
 | some none=>true
 | some (some (.ref fa))=>typeIn K (.ref fa)==some (.type "function")
 | _=>false
def jZ (p:P1) (m:DCv) (d:D) (ds:DL):D:=fun dp f H k=>d dp f H fun ov H=>p ov H fun fv H=>ds dp f H fun vs H=>m fv vs dp H k
theorem gT {o:Ex} {name:Str} {apos pos:Pos} {args:List Ex} {c:Addr} {i:Nat} {m:DCv} {d:D} {ds:DL} (hc:ClsOK C c)
  (hbase:∀ env,attributeBase o name env (eval o env)=eval o env)
  (hfew:∀ env,((backTo pos (starEach args env)).all (fun x=>!x.1)&&(backToKw pos (keywordEach [] env)).all (fun x=>x.1.isSome)&&decide (args.length+([]:List Keyword).length+(if ([]:List Keyword).isEmpty then 0 else 1)<30))=true)
  (hline:(apos.endLine==pos.line)=true) (hs:∀ env,(backTo pos (starEach args env)).any (·.1)=false)
  (hi:anm i=name) (hl:i<attrTab.length) (hf:cy C.K c name=true) (hf2:qu C.K c name=true)
  (hd:SE C X o d) (ha:SL C X pos args ds) (hm:CV C args.length m) :
  SE C X (.Call (.Attribute o name apos) args [] pos) (jZ (bs c i) m d ds):=by
 intro dp f H k A env B ρ Z s hd' hA ok Q E hQ
 refine pY (hbase env) (hfew env) hline (hd _ _ _ _ _ _ _ _ _ _ hd' hA ok _ _ fun ρ₁ Z₁ H₁ s₁ a va e₁ ok₁ r₁ hdq1 pl=>?_)
 have key:wpAny (model C.prog C.w) A (getAttr va name) (fun v sq2=>wpAny (model C.prog C.w) A (callWith pos v [] (backTo pos (starEach args env)) []) Q E sq2) E s₁:=by
  refine aR hc hi hl hf _ _ _ _ _ _ _ _ _ _ _ _ _ hdq1 hA ok₁ r₁ _ _ fun ρ2 Z₂ H₂ sq2 fv vfv e₂ ok₂ r₂ hdq2=>mD (hs env) ?_
  refine ha _ _ _ _ _ _ _ _ _ _ hdq2 hA ok₂ _ _ fun ρ3 Z3 H3 s₃ vs vvs e₃ ok₃ r₃ hdq3=>?_
  refine Za1 (hm _ _ _ _ _ _ _ _ _ _ _ fv vfv vs vvs hdq3 hA ok₃ (r₂.ext e₃) r₃.1 r₃.2) fun q1 q2=>?_
  exact ⟨q1,q2 _ _ fun ρ4 Z4 H4 s4 b vb e₄ ok₄ rq4 hk=>hQ _ _ _ _ _ _ (((e₁.trans e₂).trans e₃).trans e₄) ok₄ rq4 hk⟩
 nomatch ay (gu hdq1),hdq1
 intro j es zq2 hj hdq1
 subst zq2
 nomatch ad (al hdq1),hdq1
 intro w h1 hdq1
 nomatch Ze4 (kW ok₁ r₁ hj),hj
 intro x dx o mm zw0
 nomatch Za4 zw0,zw0
 intro zq4 g1 g2 g3 zw1
 nomatch Za2 zw1,zw1
 intro g4 g5 g6
 clear r₁
 subst zq4
 have hsome:shadowIn (some o) name=some true:=by
  refine (?_:Option.map _ (lookIn name o)=_)
  rw [g4,← hi]
  rcases g6.1 i hl with ⟨e,_⟩ | ⟨y,u,_,e2,_⟩
  ·rw [h1] at e; exact noS e.symm
  ·rw [e2]; rfl
 unfold qu at hf2
 split at hf2
 ·rename_i e
  exact method_usual ok₁.K g3 hc.ga hc.gk e rfl key
 ·rename_i fa e
  exact pH ok₁.K g3 hc.ga hc.gk e (beq_iff_eq.mp hf2) hsome key
 ·exact ffE hf2
end
theorem D6 (x:Str) (t:Tok) (y:Value):checkBoundCall "str.join" ⟨[.str x t,y],[]⟩=pure ():=by kernel_rfl
theorem qO:isSubtype (.type "list") (.type "module")=pure false:=by rw [isSubtype_type]; kernel_rfl
theorem uR:Manifest.signature? "list.append" = some ⟨.oneArg, "list.append", "append",.self,[⟨"object",.posOnly,true⟩]⟩:=by kernel_rfl
theorem tD:builtinKind "list.append" = some .method:=by kernel_rfl
theorem tE:(toString (Bind.lastOf "list")++toString "."++toString (Bind.lastOf "list.append"):String) = "list.append":=by kernel_rfl
theorem yj {M:Model} {A:Around} {E:Value->Shared->Prop} {s:Shared} {l:Addr} {x:Value} {Q:Unit->Shared->Prop} (hq:Q () s):wpAny M A (Bind.checkArgs "list.append" ⟨.oneArg, "list.append", "append",.self,[⟨"object",.posOnly,true⟩]⟩ ⟨[.ref l,x],[]⟩) Q E s:=by
 unfold Bind.checkArgs
 dsimp only
 refine ZB (m:=Bind.printed "list.append" true _ _) (PyProof.Rows.printed_name (by decide) ?_)
 refine ZB (m:=Bind.printed "append" false _ _) (PyProof.Rows.printed_name (by decide) ?_)
 have hrn:(Manifest.Receiver.self==Manifest.Receiver.none)=false:=by decide
 have hn:(if (Manifest.Receiver.self==Manifest.Receiver.none)=true then [Value.ref l,x].length else [Value.ref l,x].length-1)=1:=by simp [hrn]
 rw [hn]
 simp only [List.map_nil]
 have hc:Bind.check ⟨.oneArg, "list.append", "append",.self,[⟨"object",.posOnly,true⟩]⟩ "list.append" "append" 1 []=pure ():=by kernel_rfl
 rw [hc]
 exact ZP hq
theorem xF {M:Model} {h:Heap} {l:Addr} {x:Value} {vs:Array Value} {ep:Nat} (hl:IsL h l vs ep):Looks M h (checkBoundCall "list.append" ⟨[.ref l,x],[]⟩) ():=by
 intro A Q E s k q
 have T:Looks M h (typeOf (.ref l)) (.type "list"):=(Looks.ld hl).andThen .now
 unfold checkBoundCall
 rw [uR]
 dsimp only
 rw [tD]
 dsimp only
 rw [if_neg (by decide)]
 refine ZB (T.andThen (Looks.of_pure qO) A _ E s k ?_)
 rw [if_neg (by rw [show (Manifest.varargsMethods.contains "list.append")=false from by kernel_rfl]; decide)]
 refine ZB (ZB (Looks.ld hl A _ E s k (ZP ?_)))
 rw [if_neg (show ¬ (false=true) from Bool.false_ne_true)]
 refine ZB (T A _ E s k ?_)
 dsimp only
 rw [tE]
 exact yj q
def y5 (v:AV) (k:Addr->AV->Bool):Bool:=@AV.rec (fun _=>(Addr->AV->Bool)->Bool) (fun k=>false) (fun b k=>false) (fun i k=>false) (fun s k=>false) (fun j k=>false) (fun v k=>false) (fun l _ k=>false) (fun k=>false) (fun _ _ _ _ k=>false) (fun c j k=>false) (fun f self _ k=>k f self) (fun _ _ _ k=>false) (fun a b c k=>false) (fun a b c _ _ _ k=>false) (fun _ k=>false) (fun _ _ k=>false) (fun _ _ _ k=>false) (fun k=>false) (fun _ k=>false) (fun _ _ k=>false) (fun _ k=>false) (fun _ k=>false) (fun _ k=>false) v k
theorem sT {v:AV} {k:Addr->AV->Bool} (h:y5 v k=true):∃ f s,v = .meth f s∧k f s=true:=by
 induction v using AV.casesOn<;>first | (exact (dj _ _ rfl h)) | exact ffE h
def vT (v:AV) (k:Nat->AV->Bool):Bool:=@AV.rec (fun _=>(Nat->AV->Bool)->Bool) (fun k=>false) (fun b k=>false) (fun i k=>false) (fun s k=>false) (fun j k=>false) (fun v k=>false) (fun l _ k=>false) (fun k=>false) (fun _ _ _ _ k=>false) (fun c j k=>false) (fun _ _ _ k=>false) (fun id self _ k=>k id self) (fun a b c k=>false) (fun a b c _ _ _ k=>false) (fun _ k=>false) (fun _ _ k=>false) (fun _ _ _ k=>false) (fun k=>false) (fun _ k=>false) (fun _ _ k=>false) (fun _ k=>false) (fun _ k=>false) (fun _ k=>false) v k
theorem qX {v:AV} {k:Nat->AV->Bool} (h:vT v k=true):∃ i s,v = .bmeth i s∧k i s=true:=by
 induction v using AV.casesOn<;>first | (exact (dj _ _ rfl h)) | exact ffE h
def Ce (v:AV) (k:Value->Bool):Bool:=@AV.rec (fun _=>(Value->Bool)->Bool) (fun k=>false) (fun b k=>false) (fun i k=>false) (fun s k=>false) (fun j k=>false) (fun v k=>k v) (fun l _ k=>false) (fun k=>false) (fun _ _ _ _ k=>false) (fun c j k=>false) (fun _ _ _ k=>false) (fun _ _ _ k=>false) (fun a b c k=>false) (fun a b c _ _ _ k=>false) (fun _ k=>false) (fun _ _ k=>false) (fun _ _ _ k=>false) (fun k=>false) (fun _ k=>false) (fun _ _ k=>false) (fun _ k=>false) (fun _ k=>false) (fun _ k=>false) v k
theorem nG {v:AV} {k:Value->Bool} (h:Ce v k=true):∃ w,v = .con w∧k w=true:=by
 induction v using AV.casesOn<;>first | (exact (am _ rfl h)) | exact ffE h
noncomputable def ux (a:Addr):Value->Bool
 | .ref b=>Nat.beq b a
 | _=>false
theorem pU {a:Addr} {v:Value} (h:ux a v=true):v = .ref a:=by
 induction v using PySem.Value.casesOn<;>first | (rw [ZbE h]) | exact ffE h
section
variable {C:Cx} {X:Sc} {B:Bz} {f:Fm} {env:Env} {ρ:List Addr} {Z:Fz} {H H':HP} {s:Shared} {A:Around}
def AT (fa:Addr) (m:DC):DCv:=fun fav args dp H k=>y5 fav fun f' self=>aB (Nat.beq f' fa) (m (self :: args) dp H k)
theorem ED {fa:Addr} {n:Nat} {m:DC} (hfn:fnIn C.K fa=true) (hm:SCc C (.ref fa) (n+1) (fun vs=>⟨vs,[]⟩) m):CV C n (AT fa m):=by
 intro X dp f H k A env B ρ Z s fav fv args vals hc hA ok r hv hlen
 nomatch aE (sT hc),hc
 intro f' self zq2 hc1
 subst zq2
 refine Za1 (af hc1) fun h1 hc2=>?_
 have:=ZbE h1
 clear hc1 h1
 subst this
 refine ay r.inv fun sv a zq2 hz hs=>?_
 clear r
 subst zq2
 refine ⟨keeps_M hfn s.heap ⟨ok.g.z _ _ hz,ok.K⟩,fun Q E hQ=>wpAny_call (method_call (ok.g.z _ _ hz) ?_)⟩
 exact hm _ _ _ _ _ _ _ _ _ _ _ (self :: args) (sv :: vals) hc2 hA ok (.cons hs hv) (by simp [hlen]) Q E hQ
def CH (fa:Addr) (m:DC):DCv:=fun fav args dp H k=>Ce fav fun v=>aB (ux fa v) (m args dp H k)
theorem Bl {fa:Addr} {n:Nat} {m:DC} (hK:∃ cls dct fd sl,C.K.lookup fa=some ⟨cls,dct,.func fd,sl⟩) (hm:SC C (.ref fa) n m):CV C n (CH fa m):=by
 intro X dp f H k A env B ρ Z s fav fv args vals hc hA ok r hv hlen
 nomatch ad (nG hc),hc
 intro v zq1 hc1
 subst zq1
 refine Za1 (af hc1) fun h1 hc2=>?_
 have:=pU h1
 clear hc1 h1
 subst this
 nomatch Ze4 hK,hK
 intro cls dct fd sl hK
 obtain rfl:=r.inv
 exact ⟨(am .frame (.inl rfl) ((Looks.ld (part:=none) (ok.K _ _ hK)).andThen .now)),hm _ _ _ _ _ _ _ _ _ _ _ _ _ hc2 hA ok hv hlen⟩
theorem uF {prog:Program} {w:World} {a:Addr} {id:String} {sv:Value} {dct:Option Addr} {sl:Array (Option Value)} {vals:List Value} {R:Result->Shared->Prop} (ho:s.heap.get? a=some ⟨.type "builtin_function_or_method",dct,.fields #[.builtin id,sv],sl⟩)
  (hch:Looks (model prog w) s.heap (checkBoundCall id ⟨sv :: vals,[]⟩) ()) (hq:(Code.builtin id ⟨sv :: vals,[]⟩).quiet=true) (h:codeAny (model prog w) A (.builtin id ⟨sv :: vals,[]⟩) R s):codeAny (model prog w) A (.call (.ref a) ⟨vals,[]⟩) R s:=by
 refine codeAny_of_tree ?_
 refine (?_:wpAny _ _ (callAny (.ref a) _) _ _ _)
 refine nd_load ho (nd_bind (nd_pure ?_))
 dsimp only
 rw [if_pos (by decide)]
 refine (?_:wpAny _ _ (if (Value.type "builtin_function_or_method" != Value.type "method")=true then _ else _) _ _ _)
 rw [if_pos (by decide)]
 refine ZB (hch.here ?_)
 exact ZP ⟨hq,h⟩
theorem sC {id:String} {b:Builtin} {n:Nat} {m:DC} (hb:BM C b (n+1) m) (hentry:entryFor table id=some b) (hplain:plainId id=true) {dp:Nat} {k:AV->HP->Bool} {self:AV} {sv:Value} {args:List AV} {vals:List Value} {a:Addr} {dct:Option Addr} {sl:Array (Option Value)}
  (hc:m (self :: args) dp H k=true) (hA:AOk dp A) (ok:OK C X B f env ρ Z H s) (ho:s.heap.get? a=some ⟨.type "builtin_function_or_method",dct,.fields #[.builtin id,sv],sl⟩) (hs:VRel C.σ ρ Z self sv) (hv:VRs C.σ ρ Z args vals) (hlen:args.length=n)
  (hch:Looks (model C.prog C.w) s.heap (checkBoundCall id ⟨sv :: vals,[]⟩) ()) :
  (∃ kp,(kp=Keeper.frame∨kp=Keeper.machine∨kp=Keeper.boundFrame)∧Looks (model C.prog C.w) s.heap (keeperOf (.ref a)) kp)∧Wp C X B f env (RV C) ρ Z A (call (.ref a) vals) s k:=by
 refine ⟨(am .machine (.inr (.inl rfl)) ((Looks.ld (part:=none) ho).andThen .now)),fun Q E hQ=>wpAny_call (uF ho hch (plainId_quiet hplain _) (codeAny_builtin hentry ?_))⟩
 rw [Around.under_plainId hplain]
 exact hb _ _ _ _ _ _ _ _ _ _ _ (self :: args) (sv :: vals) hc hA ok (.cons hs hv) (by simp [hlen]) Q E hQ
def fG:DCv:=fun fav args dp H k=>vT fav fun i self=>aB (Nat.beq i 0) (b7 (self :: args) dp H k)
theorem q0:plainId "list.append" = true:=by decide +kernel
theorem uf:plainId "str.join" = true:=by decide +kernel
theorem fq:CV C 1 fG:=by
 intro X dp f H k A env B ρ Z s fav fv args vals hc hA ok r hv hlen
 nomatch aE (qX hc),hc
 intro i self zq2 hc1
 subst zq2
 nomatch Za1 (af hc1),hc1
 intro h1 hc2
 have:=ZbE h1
 clear h1
 subst this
 nomatch ay r.inv,r
 intro sv a zq2 hz hs
 subst zq2
 refine aE (cE hc2 (by simp [hlen])) fun o x e h2=>?_
 injection e with e1 e2
 subst e1 e2
 refine bM (aG h2) fun j n rx zq3 hj _=>?_
 clear h2
 subst zq3
 nomatch da (bg ok hs hj),hj
 intro l vs ep zq3 hρ hl _
 subst zq3
 refine ad hv.one fun w zq1 _=>?_
 subst zq1
 exact sC xS F.entry_list_append q0 hc2 hA ok (ok.g.z _ _ hz) hs hv rfl (xF hl)
def wp (a:Addr):DCv:=fun fav args dp H k=>Ce fav fun v=>aB (ux a v) (o8 (.str [] :: args) dp H k)
theorem AI {a:Addr} {t:Tok} {dct:Option Addr} {sl:Array (Option Value)} (hK:C.K.lookup a=some ⟨.type "builtin_function_or_method",dct,.fields #[.builtin "str.join",.str "" t],sl⟩):CV C 1 (wp a):=by
 intro X dp f H k A env B ρ Z s fav fv args vals hc hA ok r hv hlen
 nomatch ad (nG hc),hc
 intro v zq1 hc1
 subst zq1
 nomatch Za1 (af hc1),hc1
 intro h1 hc2
 have:=pU h1
 clear h1
 subst this
 obtain rfl:=r.inv
 refine ad (bD (k:=fun _=>true) (args:=args) (by induction args using List.casesOn with | nil=>cases hlen | cons _ _=>rfl) hlen) fun x zq1 _=>?_
 subst zq1
 refine ad hv.one fun w zq1 _=>?_
 subst zq1
 have hs:VRel C.σ ρ Z (.str []) (.str "" t):=.str [] t
 exact sC D8 F.entry_str_join uf hc2 hA ok (ok.K _ _ hK) hs hv hlen (Looks.of_pure (D6 _ _ _))
def BO (c fa:Addr):P1:=fun v H k=>tO c v H fun _ _=>k (.meth fa v) H
theorem Co {c fa:Addr} {name:Str} {expr:Bool} (hc:ClsOK C c) (hf:findIn C.K (.ref c) name=some (some (.ref fa))) (ht:typeIn C.K (.ref fa)=some (.type "function"))
  (hg:specialIn C.K (.ref fa) "__get__" = some (some (.builtin "function.__get__"))) (hk:takesIn C.K (.ref fa)=some false) (hcp:copiedNames.contains name=false) (hn:name ∉ attrTab):Bn C (fun v=>getAttr v name expr) (BO c fa):=by
 intro X dp f H k A env B ρ Z s a va hd hA ok ra Q E hQ
 nomatch ay (gu hd),hd
 intro j es zq2 hj hd
 subst zq2
 nomatch Ze4 (kW ok ra hj),hj
 intro x dx o m zw0
 nomatch Za4 zw0,zw0
 intro zq4 g1 g2 g3 zw1
 nomatch Za2 zw1,zw1
 intro g4 g5 g6
 subst zq4
 have hl:lookIn name o=some none:=by rw [g4,g6.2 _ hn]
 refine get_bind ok.K g3 hc.ga (findObj_fn hc.hd hf hg hk hcp hl) hc.gk (wpAny_call (fn_get (s:={ s with toks:=s.toks+1 }) (ok.tok (s.toks+1)).K ht (handed_on rfl ?_)))
 have ok':=OK.freeze (ok.tok (s.toks+1)) (o:=methodObj (.ref fa) (.ref x)) rfl
 exact hQ _ _ _ _ _ _ Ext.fz ok' (.meth Fz.add_here (ra.ext Ext.fz)) hd
end
end Mine
namespace Mine
open PySem PySem.W PySem.Calls PyProof.Rows MeetsSeq Builtin Builtin.ObjectAttr
theorem slot_mdget:Slot "method_descriptor" "__get__" "method_descriptor.__get__" :=
 .of (owner:="method_descriptor") (n:="__get__") (by rw [typeLookup_type,builtinLookup_eq_fast]; kernel_rfl) (by decide +kernel) (by decide +kernel) (by decide +kernel)
  (by first | exact .inl (by decide +kernel) | exact .inr (by decide +kernel)) (by rw [isSubtype_type]; kernel_rfl)
theorem ti:entryFor table "method_descriptor.__get__" = some Builtin.«method_descriptor.__get__»:=entryFor_of_tree (by kernel_rfl)
theorem vG (a b c:Value):argsOk "method_descriptor.__get__" ⟨[a,b,c],[]⟩:=by unfold argsOk; kernel_rfl
theorem yD:typeLookup (.type "list") "append" = pure (some (.builtin "list.append")):=F.slot_list_append.lookup
theorem pB:isSubtype (.type "list") (.type "list")=pure true:=by rw [isSubtype_type]; kernel_rfl
theorem pV:typeOf (.builtin "list.append")=pure (.type "method_descriptor"):=F.type_list_append
theorem De (n:Str) (i:n = "__set__"∨n = "__delete__"):typeLookup (.type "method_descriptor") n=pure none:=by rcases i with rfl | rfl<;>(rw [typeLookup_type,builtinLookup_eq_fast]; kernel_rfl)
theorem G5 {M:Model} {A:Around} {l:Addr} {vs:Array Value} {ep:Nat} {E:Value->Shared->Prop} {Q:Fin->Shared->Prop} {h:Heap} {g d t os} (hl:IsL h l vs ep)
  (q:Q (.done (.ret (.ref h.objs.size))) ⟨h.push { cls:=.type "builtin_function_or_method",data:=.fields #[.builtin "list.append",.ref l] },g,d,t,os⟩):wpAny M A (Builtin.«method_descriptor.__get__» ⟨[.builtin "list.append",.ref l,.type "list"],[]⟩) Q E ⟨h,g,d,t,os⟩:=by
 have T:Looks M h (typeOf (.ref l)) (.type "list"):=(Looks.ld hl).andThen .now
 have I:Looks M h (isInstance (.ref l) (.type "list")) true:=T.andThen (Looks.of_pure pB)
 unfold Builtin.«method_descriptor.__get__»
 repeat lk
 exact q
theorem tK {M:Model} {h:Heap} {l:Addr} {vs:Array Value} {ep:Nat} (hl:IsL h l vs ep):Looks M h (find (.ref l) (.type "list") "append") (.bind (.builtin "method_descriptor.__get__") (.builtin "list.append")):=by
 have S:∀ n:Str,n = "__set__"∨n = "__delete__"->Looks M h (specialOf (.builtin "list.append") n) none:=fun n i=>(Looks.of_pure pV).andThen (Looks.of_pure (De n i))
 have T:Looks M h (takesStores (.builtin "list.append")) false:=(S "__set__" (.inl rfl)).andThen ((S "__delete__" (.inr rfl)).andThen .now)
 have O:Looks M h (inOwnDict "append" (.ref l)) none:=by
  intro A Q E s k q
  refine ZB (ZB (wpAny_loadPart (k _ _ hl) ?_))
  unfold instanceDict
  refine ZB (wpAny_loadPart (k _ _ hl) ?_)
  exact ZP (ZP q)
 refine (Looks.of_pure yD).andThen ?_
 refine Looks.andThen (a:=some (.builtin "method_descriptor.__get__")) (show Looks M h (getOf (some (.builtin "list.append"))) _ from (Looks.of_pure pV).andThen (Looks.of_pure slot_mdget.lookup)) ?_
 refine Looks.andThen (a:=none) (show Looks M h (dataDescriptor? (some (.builtin "list.append")) (some (.builtin "method_descriptor.__get__"))) none from T.andThen .now) ?_
 exact O.andThen (Looks.andThen (a:=()) (Looks.of_pure (by kernel_rfl)) (Looks.tag .now))
theorem ut {prog:Program} {w:World} {A:Around} {l:Addr} {vs:Array Value} {ep:Nat} {E:Value->Shared->Prop} {Q:Fin->Shared->Prop} {h:Heap} {g d t os} {u:Tok} (hl:IsL h l vs ep)
  (q:Q (.done (.ret (.ref h.objs.size))) ⟨h.push { cls:=.type "builtin_function_or_method",data:=.fields #[.builtin "list.append",.ref l] },g,d,t,os⟩):wpAny (model prog w) A (Builtin.«object.__getattribute__» ⟨[.ref l,.str "append" u],[]⟩) Q E ⟨h,g,d,t,os⟩:=by
 have T:Looks (model prog w) h (typeOf (.ref l)) (.type "list"):=(Looks.ld hl).andThen .now
 unfold Builtin.«object.__getattribute__»
 refine ZB (ZP (ZB (ZP (ZB (T.at (ZB ((tK hl).at ?_)))))))
 refine (?_:wpAny _ _ (bindTo _ _ _ _) _ _ _)
 unfold bindTo
 refine ZB (wpAny_holding ?_)
 refine (?_:wpAny _ _ (call (.builtin "method_descriptor.__get__") [.builtin "list.append",.ref l,.type "list"]) _ _ _)
 refine wpAny_call (codeAny_call_builtin slot_mdget.plain ti (slot_mdget.check _ _ _ _ _ _ _ _ F.type_list_append (vG _ _ _) (G5 hl ?_)))
 exact ZP q
theorem lE (l:Addr) (vs:Array Value) (ep:Nat) (u:Tok):Meets (Builtin.«object.__getattribute__» ⟨[.ref l,.str "append" u],[]⟩) (fun A R s=>IsL s.heap l vs ep∧R (.ok (.ret (.ref s.heap.objs.size))) { s with heap:=s.heap.push { cls:=.type "builtin_function_or_method",data:=.fields #[.builtin "list.append",.ref l] } }) :=
 fun prog w A R s hs=>by
  obtain ⟨hp,g,d,tk,os⟩:=s
  exact ut hs.1 hs.2
theorem nX {prog:Program} {w:World} {A:Around} {E:Value->Shared->Prop} {s:Shared} {l:Addr} {vs:Array Value} {ep:Nat} {Q:Value->Shared->Prop} (hl:IsL s.heap l vs ep)
  (q:Q (.ref s.heap.objs.size) { s with heap:=s.heap.push { cls:=.type "builtin_function_or_method",data:=.fields #[.builtin "list.append",.ref l] },toks:=s.toks+1 }):wpAny (model prog w) A (getAttr (.ref l) "append" true) Q E s:=by
 obtain ⟨hp,g,d,tk,os⟩:=s
 have hT:∀ tk',(⟨hp,g,d,tk',os⟩:Shared).TypeIs (.ref l) "list":=fun _=>⟨_,hl,rfl⟩
 have f3:=F.slot_list_getattribute.lookup
 have f4:=F.slot_list_getattribute.bind (.ref l)
 have T:Looks (model prog w) hp (typeOf (.ref l)) (.type "list"):=(Looks.ld hl).andThen .now
 have G:Looks (model prog w) hp (typeLookup (.type "list") "__getattribute__") (some (.builtin "list.__getattribute__")):=Looks.of_pure f3
 have HB:hookBefore (.type "list")=pure none:=rfl
 refine ZB (wpAny_mkText (wpAny_holding (ZB (T.at (ZB (G.at ?_))))))
 dsimp only
 rw [show (onTheHeap (.type "list")&&Value.builtin "list.__getattribute__" == Value.builtin "object.__getattribute__")=false from rfl,if_neg (by decide)]
 unfold getAttrByItsOwn
 rw [HB]
 refine ZB (ZP (ZB (wpAny_attempt (wpAny_holding ?_))))
 unfold callGetattribute
 rw [show (true&&onTheHeap (Value.builtin "list.__getattribute__"))=false from rfl,if_neg (by decide)]
 unfold boundAndCalled
 rw [f4]
 refine ZB (ZP ?_)
 refine (?_:wpAny _ _ (call (.builtin "list.__getattribute__") [.ref l,.str "append" tk]) _ _ _)
 exact call_meets F.slot_list_getattribute (hT _) am_entry_list_getattribute (F.args_list_getattribute_2 _ _) (lE l vs ep tk) ⟨hl,handed_on rfl q⟩
section
variable {C:Cx} {X:Sc} {B:Bz} {f:Fm} {env:Env} {ρ:List Addr} {Z:Fz} {H H':HP} {s:Shared} {A:Around}
def qb:P1:=fun v H k=>bP H v fun j _ _=>k (.bmeth 0 (.ref j)) H
theorem sU:Bn C (fun v=>getAttr v "append" true) qb:=by
 intro X dp f H k A env B ρ Z s a va hd hA ok ra Q E hQ
 refine bM (aG hd) fun j n rx zq3 hj h=>?_
 clear hd
 subst zq3
 nomatch da (bg ok ra hj),hj
 intro a vs ep zq3 hρ hl _
 subst zq3
 refine nX hl ?_
 have ok':=OK.freeze ok (o:={ cls:=.type "builtin_function_or_method",data:=.fields #[.builtin "list.append",.ref a] }) rfl
 exact hQ _ _ _ _ _ _ Ext.fz (ok'.tok _) (.bmeth (id:=0) Fz.add_here (ra.ext Ext.fz)) h
def jw (v:AV) (k:Bool):Bool:=@AV.rec (fun _=>(Bool)->Bool) (fun k=>k) (fun b k=>false) (fun i k=>false) (fun s k=>false) (fun j k=>false) (fun v k=>false) (fun l _ k=>false) (fun k=>false) (fun _ _ _ _ k=>false) (fun c j k=>false) (fun _ _ _ k=>false) (fun _ _ _ k=>false) (fun a b c k=>false) (fun a b c _ _ _ k=>false) (fun _ k=>false) (fun _ _ k=>false) (fun _ _ _ k=>false) (fun k=>false) (fun _ k=>false) (fun _ _ k=>false) (fun _ k=>false) (fun _ k=>false) (fun _ k=>false) v k
theorem fV {v:AV} {k:Bool} (h:jw v k=true):v = .none∧k=true:=by
 induction v using AV.casesOn<;>first | (exact ⟨rfl,h⟩) | exact ffE h
def DE (c:Addr) (m:DC):DC:=fun args dp H k=>nr false (fun dp=>H.push (.attrs []) fun j H=>m (.inst c j :: args) dp H fun r H=>jw r (k (.inst c j) H)) dp
theorem AOk.under {dp:Nat} (h:AOk (dp+1) A) {c:Addr} {rest:List Value} {kw:List (Str × Value)}:AOk dp (A.under (.builtin "type.__call__" ⟨.ref c :: rest,kw⟩)):=by
 have e1:(Code.builtin "type.__call__" ⟨.ref c :: rest,kw⟩).weight=1:=by kernel_rfl
 have e2:(Code.builtin "type.__call__" ⟨.ref c :: rest,kw⟩).cUnits=1:=by kernel_rfl
 refine ⟨h.hd,?_,?_⟩
 ·have:=h.dep
  refine (?_:A.depth+(Code.builtin "type.__call__" ⟨.ref c :: rest,kw⟩).weight+4 * dp+20≤1000)
  omega
 ·have:=h.un
  refine (?_:A.units+(Code.builtin "type.__call__" ⟨.ref c :: rest,kw⟩).cUnits+20 * dp+100≤9900)
  omega
theorem zQ {c fI:Addr} {n:Nat} {mk mk':List Value->Args} {m:DC} {dp:Nat} {k:AV->HP->Bool} {args:List AV} {vals:List Value} (hmk:∀ x vs,mk (x :: vs)=⟨x :: (mk' vs).pos,(mk' vs).kw⟩)
  (hm:makesIn C.K c=true) (hi:findIn C.K (.ref c) "__init__" = some (some (.ref fI))) (hf:typeIn C.K (.ref fI)=some (.type "function")) (hc:SCc C (.ref fI) (n+1) mk m)
  (hd:DE c m args dp H k=true) (hA:AOk dp A) (ok:OK C X B f env ρ Z H s) (hv:VRs C.σ ρ Z args vals) (hlen:args.length=n) {Q:Value->Shared->Prop} {E:Value->Shared->Prop}
  (hQ:∀ ρ' Z' H' s' b a,Ext ρ Z ρ' Z'->OK C X B f env ρ' Z' H' s'->VRel C.σ ρ' Z' b a->k b H'=true->Q a s'):wpAny (model C.prog C.w) A (call (.ref c) (mk' vals).pos (mk' vals).kw) Q E s:=by
 induction dp using Nat.casesAuxOn with
 | zero=>exact ffE hd
 | succ dp =>
  change H.push (.attrs []) (fun j H=>m (.inst c j :: args) dp H fun r H=>jw r (k (.inst c j) H))=true at hd
  nomatch aU (HP.push_spec hd),hd
  intro H' h1 h2 h3
  have ok1:OK C X B f env (ρ++[s.heap.objs.size]) Z H' { s with heap:=s.heap.push emptyDict } :=
   ok.push h2 h3 (o:=emptyDict) (ao:=.attrs []) ⟨#[],0,fun _=>none,rfl,fun e he=>absurd he (by simp),List.Pairwise.nil,fun _=>rfl,fun i hi=>.inl ⟨rfl,rfl⟩,fun _ _=>rfl⟩
  have ok2:=ok1.freeze (o:=instObj c s.heap.objs.size) rfl
  have hsz:(s.heap.push emptyDict).objs.size=s.heap.objs.size+1:=Heap.size_push ..
  have hj:(ρ++[s.heap.objs.size])[H.n]?=some s.heap.objs.size:=by rw [List.getElem?_append_right (by rw [ok.g.len]; omega),ok.g.len]; simp
  have e1:Ext ρ Z (ρ++[s.heap.objs.size]) (Z.add (s.heap.push emptyDict).objs.size (instObj c s.heap.objs.size)):=Ext.snoc.trans Ext.fz
  have hx:VRel C.σ (ρ++[s.heap.objs.size]) (Z.add (s.heap.push emptyDict).objs.size (instObj c s.heap.objs.size)) (.inst c H.n) (.ref (s.heap.objs.size+1)):=.inst (hsz ▸ Fz.add_here) hj
  refine wpAny_call ?_
  refine make_core (h:=s.heap) (g:=s.gens) (d:=s.drawn) (t:=s.toks) (os:=s.os) (makes_of (M:=model C.prog C.w) ok.K hm) (looks_findIn ok.K hi) (fun self=>bind_fn ok.K self hf) (.inl rfl) ?_
  have key:=hc _ _ _ _ _ _ _ _ _ _ _ (.inst c H.n :: args) (.ref (s.heap.objs.size+1) :: vals) h1 (hA.under (c:=c) (rest:=(mk' vals).pos) (kw:=(mk' vals).kw)) ok2 (.cons hx (hv.ext e1)) (by simp [hlen])
   (fun r s'=>r = .none∧Q (.ref (s.heap.objs.size+1)) s') E fun ρ' Z' H' s' b a e2 ok3 r3 hk=>by
    nomatch Za1 (fV hk),hk
    intro zq0 hk
    subst zq0
    obtain rfl:=r3.inv
    exact ⟨rfl,hQ _ _ _ _ _ _ (e1.trans e2) ok3 (hx.ext e2) hk⟩
  rw [hmk] at key
  refine codeAny_mono key fun r s' z=>?_
  rcases r with e | (v | _ | _ | _)<;>first | exact z | exact z.elim
theorem GY {x:Str} {p pos:Pos} {e0 e1 e2 e3:Ex} {n1 n2 n3:Str} {p1 p2 p3:Pos} {c fI:Addr} {m:DC} {d0 d1 d2 d3:D} (hk:X.sc.kind = .function) (hl:X.sc.names.lookup x=some .globalImplicit) (hg:C.GlobV x (.ref c)) (hd:(x==("__debug__" : Str))=false)
  (hm:makesIn C.K c=true) (hi:findIn C.K (.ref c) "__init__" = some (some (.ref fI))) (hf:typeIn C.K (.ref fI)=some (.type "function")) (hkp:keepIn C.K (.ref c)=true)
  (h0:SE C X e0 d0) (h1:SE C X e1 d1) (h2:SE C X e2 d2) (h3:SE C X e3 d3) (he:∀ env,starEach [e0] env=[(false,eval e0 env)])
  (hc:SCc C (.ref fI) 5 (fun vs=>⟨vs.take 2,([n1,n2,n3]).zip (vs.drop 2)⟩) m) :
  SE C X (.Call (.Name x p) [e0] [⟨some n1,e1,p1⟩,⟨some n2,e2,p2⟩,⟨some n3,e3,p3⟩] pos) (fun dp f H k=>d0 dp f H fun a0 H=>d1 dp f H fun a1 H=>d2 dp f H fun a2 H=>d3 dp f H fun a3 H=>DE c m [a0,a1,a2,a3] dp H k):=by
 intro dp f H k A env B ρ Z s hd' hA ok Q E hQ
 refine wpAny_Call_Name_kw (dg hk hl hg hd ok ?_)
 refine callWith_of (P:=C.K.In) (by rw [he]; rfl) (keeps_K hkp) ?_
 refine evalArgs_kw2 rfl (ac (ds:=an) h0 ah he _ _ _ (fun vs H=>gY vs fun a0=>d1 dp f H fun a1 H=>d2 dp f H fun a2 H=>d3 dp f H fun a3 H=>DE c m [a0,a1,a2,a3] dp H k) _ _ _ _ _ _ hd' hA ok _ _ fun ρ₁ Z₁ H₁ s₁ vs vvs e₁ ok₁ r₁ hdq1=>?_) (he env)
 nomatch ad (bD hdq1 r₁.2),hdq1
 intro a0 zq1 hdq1
 subst zq1
 refine ad r₁.1.one fun v0 zq1 r0=>?_
 clear r₁
 subst zq1
 refine kwAll_cons (h1 _ _ _ _ _ _ _ _ _ _ hdq1 hA ok₁ _ _ fun ρ2 Z₂ H₂ sq2 a1 v1 e₂ ok₂ r₂ hdq2=>?_)
 refine kwAll_cons (h2 _ _ _ _ _ _ _ _ _ _ hdq2 hA ok₂ _ _ fun ρ3 Z3 H3 s₃ a2 v2 e₃ ok₃ r₃ hdq3=>?_)
 refine kwAll_cons (h3 _ _ _ _ _ _ _ _ _ _ hdq3 hA ok₃ _ _ fun ρ4 Z4 H4 s4 a3 v3 e₄ ok₄ rq4 hdq4=>?_)
 refine kwAll_nil ⟨ok₄.K,?_⟩
 exact zQ (n:=4) (mk:=fun vs=>⟨vs.take 2,([n1,n2,n3]).zip (vs.drop 2)⟩) (mk':=fun vs=>⟨vs.take 1,([n1,n2,n3]).zip (vs.drop 1)⟩) (vals:=[v0,v1,v2,v3]) (fun x vs=>rfl) hm hi hf hc hdq4 hA ok₄
  (.cons (((r0.ext e₂).ext e₃).ext e₄) (.cons ((r₂.ext e₃).ext e₄) (.cons (r₃.ext e₄) (.cons rq4 .nil)))) rfl fun ρ5 Z5 H5 s₅ b vb eq5 ok₅ rq5 hk=>hQ _ _ _ _ _ _ ((((e₁.trans e₂).trans e₃).trans e₄).trans eq5) ok₅ rq5 hk
end
end Mine
namespace Mine
open PySem PySem.W PySem.Calls PyProof.Rows MeetsSeq
def G7 (ao:AO) (k:List SS->Bool):Bool:=@AO.rec (fun _=>(List SS->Bool)->Bool) (fun _ _ k=>false) (fun _ k=>false) (fun _ k=>false) (fun xs k=>k xs) (fun _ k=>false) (fun _ k=>false) ao k
def Gz (ao:AO) (k:List (SS × AV)->Bool):Bool:=@AO.rec (fun _=>(List (SS × AV)->Bool)->Bool) (fun _ _ k=>false) (fun _ k=>false) (fun es k=>k es) (fun _ k=>false) (fun _ k=>false) (fun _ k=>false) ao k
def Gs (H:HP) (v:AV) (k:Nat->List SS->Bool):Bool:=hU v fun j=>H.getK j fun ao=>G7 ao fun xs=>k j xs
def kG (H:HP) (v:AV) (k:Nat->List (SS × AV)->Bool):Bool:=hU v fun j=>H.getK j fun ao=>Gz ao fun es=>k j es
theorem pL {H:HP} {v:AV} {k:Nat->List SS->Bool} (h:Gs H v k=true):∃ j xs,v = .ref j∧H.get j=some (.set xs)∧k j xs=true:=by
 refine ad (cF h) fun j zq1 h2=>?_
 clear h
 subst zq1
 nomatch ad (HP.getK_true h2),h2
 intro ao h3 h4
 induction ao using AO.casesOn with
 | set xs=>exact (aK j xs rfl h3 h4)
 | _=>exact ffE h4
theorem dZ {H:HP} {v:AV} {k:Nat->List (SS × AV)->Bool} (h:kG H v k=true):∃ j es,v = .ref j∧H.get j=some (.dict es)∧k j es=true:=by
 refine ad (cF h) fun j zq1 h2=>?_
 clear h
 subst zq1
 nomatch ad (HP.getK_true h2),h2
 intro ao h3 h4
 induction ao using AO.casesOn with
 | dict es=>exact (aK j es rfl h3 h4)
 | _=>exact ffE h4
theorem txtS_inj {σ:Sig} {x y:SS}:aw σ x=aw σ y↔txt σ x=txt σ y:=by
 constructor
 ·intro h
  have:=congrArg (fun s=>s.cps.toList) h
  simpa [aw] using this
 ·intro h; unfold aw; rw [h]
def z7 (x:SS) (xs:List SS):(Bool->Bool)->Bool:=@List.rec SS (fun _=>(Bool->Bool)->Bool) (fun k=>k false) (fun y _ ih k=>sEq x y fun c=>br (ih k) (k true) c) xs
section
variable {C:Cx} {X:Sc} {B:Bz} {f:Fm} {env:Env} {ρ:List Addr} {Z:Fz} {H H':HP} {s:Shared} {A:Around}
theorem lL {x:SS} {xs:List SS}:∀ {k:Bool->Bool},z7 x xs k=true->k (decide (aw C.σ x∈xs.map (aw C.σ)))=true:=by
 induction xs with
 | nil=>intro k h; have e:z7 x [] k=k false:=rfl; rw [e] at h; simpa using h
 | cons y xs ih =>
  intro k h
  have h2:=fy C.wf _ _ _ h
  by_cases e:txt C.σ x=txt C.σ y
  ·rw [decide_eq_true e] at h2
   rw [decide_eq_true (by rw [List.map_cons]; exact List.mem_cons.mpr (.inl (txtS_inj.mpr e)))]
   exact h2
  ·rw [decide_eq_false e] at h2
   have h3:=ih h2
   have:decide (aw C.σ x∈(y :: xs).map (aw C.σ))=decide (aw C.σ x∈xs.map (aw C.σ)):=by
    apply decide_eq_decide.mpr
    rw [List.map_cons,List.mem_cons]
    exact ⟨fun h=>h.resolve_left fun z=>e (txtS_inj.mp z),.inr⟩
   rw [this]; exact h3
theorem rC (ok:OK C X B f env ρ Z H s) {j:Nat} {v:Value} {xs:List SS} (r:VRel C.σ ρ Z (.ref j) v) (h:H.get j=some (.set xs)) :
  ∃ a o S,v = .ref a∧ρ[j]?=some a∧s.heap.get? a=some o∧o.SetObjOf (PySem.strKind C.prog C.w) S xs.length∧∀ k,S k=true↔k∈xs.map (aw C.σ):=by
 refine ad r.ref_inv fun a zq1 e=>?_
 clear r
 subst zq1
 nomatch ay (ok.g.obj j a e),ok
 intro ao o e1 e2 e3
 rw [h] at e1
 injections e1
 refine ad e3 fun S h1 h2=>?_
 exact ⟨a,o,S,rfl,e,e2,h1,h2⟩
theorem fX (ok:OK C X B f env ρ Z H s) {j:Nat} {v:Value} {es:List (SS × AV)} (r:VRel C.σ ρ Z (.ref j) v) (h:H.get j=some (.dict es)) :
  ∃ a kvs,v = .ref a∧ρ[j]?=some a∧s.heap.DictOf (PySem.strKind C.prog C.w) a kvs∧Zip (mM C ρ Z) es kvs∧(a==sysModules)=false:=by
 refine ad r.ref_inv fun a zq1 e=>?_
 clear r
 subst zq1
 refine ay (ok.g.obj j a e) fun ao o e1 e2 e3=>?_
 rw [h] at e1
 injections e1
 refine ad e3 fun kvs h1 h2=>?_
 exact (iP a kvs rfl e (Heap.dictOf_iff.mpr (am o e2 h1)) h2 (beq_eq_false_iff_ne.mpr (ok.g.no1 (ZbM e))))
def j8 (x:SS) (es:List (SS × AV)) (kn:Bool):(AV->Bool)->Bool:=@List.rec (SS × AV) (fun _=>(AV->Bool)->Bool) (fun _=>kn) (fun e _ ih k=>@Prod.rec SS AV (fun _=>Bool) (fun y v=>sEq x y fun c=>br (ih k) (k v) c) e) es
theorem eB {x:SS} {kn:Bool}:∀ {es:List (SS × AV)} {kvs:List (Str × Value)} {k:AV->Bool},j8 x es kn k=true->Zip (mM C ρ Z) es kvs ->
  (valueAt kvs (aw C.σ x)=none∧kn=true)∨∃ v w,valueAt kvs (aw C.σ x)=some w∧VRel C.σ ρ Z v w∧k v=true:=by
 intro es
 induction es with
 | nil =>
  intro kvs k h z
  have:kvs=[]:=List.length_eq_zero_iff.mp z.1.symm
  clear z
  subst this
  exact .inl ⟨rfl,h⟩
 | cons e es ih =>
  intro kvs k h z
  induction kvs using List.casesOn with
  | nil=>exact absurd z.1 (by simp)
  | cons p kvs =>
   obtain ⟨y,v⟩:=e
   refine Za1 (z.2 0 (y,v) p rfl rfl) fun q1 q2=>?_
   have z':Zip (mM C ρ Z) es kvs:=⟨by simpa using z.1,fun i a b c d=>z.2 (i+1) a b (by simpa using c) (by simpa using d)⟩
   have h2:=fy C.wf _ _ _ h
   unfold valueAt
   rw [List.find?_cons]
   by_cases e:txt C.σ x=txt C.σ y
   ·rw [decide_eq_true e] at h2
    have e2:p.1=aw C.σ x:=q1.trans (txtS_inj.mpr e).symm
    rw [decide_eq_true e2]
    exact .inr (aK v p.2 rfl q2 h2)
   ·rw [decide_eq_false e] at h2
    have e2:¬ p.1=aw C.σ x:=fun z=>e (txtS_inj.mp (z.symm.trans q1))
    rw [decide_eq_false e2]
    exact ih h2 z'
theorem fm (w:World) (prog:Program) (x:Str) (t:Tok):(PySem.strKind prog w).is x (.str x t)=true:=strKind_is prog w x t
def inD (x:SS) (H:HP) (j:Nat) (k:Bool->Bool):Bool:=H.getK j fun ao=>@AO.rec (fun _=>Bool) (fun _ _=>false) (fun _=>false) (fun es=>j8 x es (k false) fun _=>k true) (fun xs=>aB (Nat.ble xs.length 1000) (z7 x xs k)) (fun _=>false) (fun _=>false) ao
def pIn:P2:=fun a b H k=>bO a fun x=>hU b fun j=>inD x H j fun c=>k (.bool c) H
def vA:P2:=fun a b H k=>bO a fun x=>hU b fun j=>inD x H j fun c=>k (.bool (br true false c)) H
theorem wA {x:SS} {H:HP} {j:Nat} {k:Bool->Bool} (h:inD x H j k=true):(∃ xs,H.get j=some (.set xs)∧xs.length≤1000∧z7 x xs k=true)∨∃ es,H.get j=some (.dict es)∧j8 x es (k false) (fun _=>k true)=true:=by
 nomatch ad (HP.getK_true h),h
 intro ao h1 h2
 induction ao using AO.casesOn with
 | set xs=>(refine Za1 (af h2) fun h3 h4=>?_); exact .inl (bA xs h1 (ZbL h3) h4)
 | dict es=>exact .inr (am es h1 h2)
 | _=>exact ffE h2
theorem DG (c:Bool):br true false c = !c:=by induction c using Bool.casesOn<;>rfl
theorem HN:cK C (fun a b=>compareOp .In a b) pIn:=by
 intro X dp f H k A env B ρ Z s a b va vb hd hA ok ra rb Q E hQ
 refine ad (aC hd) fun x ia h0=>?_
 refine ad (cF h0) fun j zq1 h1=>?_
 clear hd h0
 subst zq1
 refine Ze1 (aA ia ra) fun t zq1=>?_
 clear ra
 subst zq1
 rcases wA h1 with ⟨xs,hj,hl,h⟩ | ⟨es,hj,h⟩
 ·nomatch fH (rC ok rb hj),hj
  intro a o S zq3 g1 g2 g3 g4
  clear rb
  subst zq3
  have h2:=lL (C:=C) h
  have e:S (aw C.σ x)=decide (aw C.σ x∈xs.map (aw C.σ)):=by rw [Bool.eq_iff_iff,g4]; simp
  refine wpAny_inSet_of (fm C.w C.prog _ t) rfl (g3.setOf g2 (by show _<4096; omega)) ?_
  rw [e]
  exact hQ _ _ _ _ _ _ (Ext.refl ..) (ok.tok _) (.bool ..) h2
 ·nomatch dO (fX ok rb hj),hj
  intro a kvs zq2 g1 g2 g3 g4
  clear rb
  subst zq2
  refine wpAny_in_of (fm C.w C.prog _ t) g4 g2.mapOf ?_
  rcases eB (C:=C) h g3 with ⟨e,h2⟩ | ⟨v,w,e,_,h2⟩
  ·rw [e]; exact hQ _ _ _ _ _ _ (Ext.refl ..) (ok.tok _) (.bool ..) h2
  ·rw [e]; exact hQ _ _ _ _ _ _ (Ext.refl ..) (ok.tok _) (.bool ..) h2
theorem th:cK C (fun a b=>compareOp .NotIn a b) vA:=by
 intro X dp f H k A env B ρ Z s a b va vb hd hA ok ra rb Q E hQ
 refine ad (aC hd) fun x ia h0=>?_
 refine ad (cF h0) fun j zq1 h1=>?_
 clear hd h0
 subst zq1
 refine Ze1 (aA ia ra) fun t zq1=>?_
 clear ra
 subst zq1
 rcases wA h1 with ⟨xs,hj,hl,h⟩ | ⟨es,hj,h⟩
 ·nomatch fH (rC ok rb hj),hj
  intro a o S zq3 g1 g2 g3 g4
  clear rb
  subst zq3
  have h2:=lL (C:=C) h
  have e:S (aw C.σ x)=decide (aw C.σ x∈xs.map (aw C.σ)):=by rw [Bool.eq_iff_iff,g4]; simp
  refine wpAny_notInSet_of (fm C.w C.prog _ t) rfl (g3.setOf g2 (by show _<4096; omega)) ?_
  rw [e]
  rw [DG] at h2
  exact hQ _ _ _ _ _ _ (Ext.refl ..) (ok.tok _) (.bool ..) h2
 ·nomatch dO (fX ok rb hj),hj
  intro a kvs zq2 g1 g2 g3 g4
  clear rb
  subst zq2
  refine wpAny_notIn_of (fm C.w C.prog _ t) g4 g2.mapOf ?_
  rcases eB (C:=C) h g3 with ⟨e,h2⟩ | ⟨v,w,e,_,h2⟩
  ·rw [e]; exact hQ _ _ _ _ _ _ (Ext.refl ..) (ok.tok _) (.bool ..) h2
  ·rw [e]; exact hQ _ _ _ _ _ _ (Ext.refl ..) (ok.tok _) (.bool ..) h2
def FQ:DC:=fun args _ H k=>H.push (.set []) fun j H=>k (.ref j) H
theorem Cf (ok:OK C X B f env ρ Z H s) {a:Addr}:VRel C.σ (ρ++[a]) Z (.ref H.n) (.ref a):=.ref (by rw [List.getElem?_append_right (by rw [ok.g.len]; omega),ok.g.len]; simp)
theorem C4:SC C (.type "set") 0 FQ:=by
 intro X dp f H k A env B ρ Z s args vals hc hA ok hv hlen Q E hQ
 have:args=[]:=List.length_eq_zero_iff.mp hlen
 clear hlen
 subst this
 rw [hv.nil_inv]
 refine aU (HP.push_spec hc) fun H' h1 h2 h3=>?_
 refine call_set_0 fun led=>hQ _ _ _ _ _ _ Ext.snoc (ok.push h2 h3 (ao:=.set []) ⟨_,setObjOf_fresh led,fun k=>by simp⟩) (Cf ok) h1
def EX (v:AV) (H:HP):Bool:=Gs H v fun _ _=>true
theorem Cq (ok:OK C X B f env ρ Z H s) {av:AV} {v:Value} (h:EX av H=true) (r:VRel C.σ ρ Z av v):s.TypeIs v "set"∧∀ a,v = .ref a->∃ ob,s.heap.get? a=some ob∧ob.dict=none:=by
 refine ay (pL h) fun j xs zq2 hj _=>?_
 clear h
 subst zq2
 nomatch fH (rC ok r hj),ok,hj
 intro a o S zq3 g1 g2 g3 g4
 clear r
 subst zq3
 exact ⟨⟨o,g2,g3.1.1⟩,fun b e=>by cases e; exact (am o g2 g3.1.2.1)⟩
def Ir:DC:=fun args _ H k=>nI args fun o v=>Gs H o fun j xs=>bO v fun x=>aB (Nat.ble xs.length 1000) (z7 x xs fun c=>br (H.set j (.set (x :: xs)) fun H=>k .none H) false c)
theorem GS:SC C (.builtin "set.add") 2 Ir:=by
 intro X dp f H k A env B ρ Z s args vals hc hA ok hv hlen Q E hQ
 nomatch aE (cE hc hlen),hc
 intro a b zq2 h
 subst zq2
 nomatch ay hv.two,hv
 intro va vb zq2 ra rb
 subst zq2
 nomatch ay (pL h),h
 intro j xs zq2 hj h
 subst zq2
 nomatch ad (aC h),h
 intro x ib h
 nomatch Za1 (af h),h
 intro hl h
 have hl:=ZbL hl
 have h2:=lL (C:=C) h
 refine Ze1 (aA ib rb) fun t zq1=>?_
 clear rb
 subst zq1
 nomatch fH (rC ok ra hj),hj
 intro a o S zq3 g1 g2 g3 g4
 clear ra
 subst zq3
 have e:S (aw C.σ x)=decide (aw C.σ x∈xs.map (aw C.σ)):=by rw [Bool.eq_iff_iff,g4]; simp
 induction q:decide (aw C.σ x∈xs.map (aw C.σ)) using Bool.casesOn with
 | true=>rw [q] at h2; exact ffE h2
 | false =>
  rw [q] at h2 e
  refine aU (HP.set_spec h2) fun H' h3 h4 h5=>?_
  refine call_set_add (fm C.w C.prog _ t) rfl (g3.setOf g2 (by show _<4096; omega)) (by show _<4096; omega) fun h' hs hS'=>?_
  refine ad hS'.objOf fun o' ho' hso=>?_
  rw [e,if_neg Bool.false_ne_true] at hso
  refine hQ _ _ _ _ _ _ (Ext.refl ..) ((OK.update ok h4 h5 g1 hs ho' ⟨_,hso,fun k'=>?_⟩).tok _) .none h3
  rw [Bool.or_eq_true,g4,decide_eq_true_eq,List.map_cons,List.mem_cons]
  exact Or.comm
def jH:D:=fun _ _ H k=>H.push (.dict []) fun j H=>k (.ref j) H
theorem gU {pos:Pos} (he:∀ env,eval (.Dict [] [] pos) env=(do standAt pos; newDict)):SE C X (.Dict [] [] pos) jH:=by
 intro dp f H k A env B ρ Z s hd hA ok Q E hQ
 refine aU (HP.push_spec hd) fun H' h1 h2 h3=>?_
 refine (?_:wpAny _ _ (eval (.Dict [] [] pos) env) _ _ _)
 rw [he]
 refine ZB (wpAny_standAt ?_)
 refine ZB (wpAny_alloc (ZP ?_))
 have hz:Obj.IsDictOf (PySem.strKind C.prog C.w) emptyDict []:=by
  nomatch ad (Heap.dictOf_iff.mp (Heap.DictOf.new (knd:=PySem.strKind C.prog C.w) s.heap)),hd
  intro o ho hd
  rw [Heap.get?_push_size _ rfl] at ho
  injections ho
  exact hd
 exact hQ _ _ _ _ _ _ Ext.snoc (ok.push h2 h3 (ao:=.dict []) ⟨[],hz,rfl,fun i x y e=>by simp at e⟩) (Cf ok) h1
end
section
variable {C:Cx} {X:Sc} {B:Bz} {f:Fm} {env:Env} {ρ:List Addr} {Z:Fz} {H H':HP} {s:Shared} {A:Around}
def FA:P2:=fun a b H k=>kG H a fun j es=>bO b fun x=>j8 x es false fun v=>k v H
theorem Ia:gx C FA:=by
 intro X dp f H k A env B ρ Z s a b va vb hd hA ok ra rb
 refine ay (dZ hd) fun j es zq2 hj h=>?_
 clear hd
 subst zq2
 nomatch ad (aC h),h
 intro x ib h0
 nomatch Ze1 (aA ib rb),ib
 intro t zq1
 clear rb
 subst zq1
 nomatch dO (fX ok ra hj),hj
 intro a kvs zq2 g1 g2 g3 g4
 clear ra
 subst zq2
 refine (aK ("dict") ("dict.__getitem__") g2.typeIs slot_dict_getitem.lookup (fun Q E hQ=>?_))
 rcases eB (C:=C) h0 g3 with ⟨_,h2⟩ | ⟨v,w,e,r,h2⟩
 ·exact ffE h2
 ·exact wpAny_getItem_of (fm C.w C.prog _ t) g2.mapOf e (hQ _ _ _ _ _ _ (Ext.refl ..) (ok.tok _) r h2)
def mY (v:AV) (H:HP):Bool:=kG H v fun _ _=>true
def CK (c:AV->HP->Bool) (p q:P2):P2:=fun a b H k=>br (q a b H k) (p a b H k) (c a H)
theorem BB {c:AV->HP->Bool} {p q:P2} (h1:gx C p) (h2:gx C q):gx C (CK c p q):=by
 intro X dp f H k A env B ρ Z s a b va vb hd
 unfold CK at hd
 induction e:c a H using Bool.casesOn with
 | true=>rw [e] at hd; exact h1 X dp f H k A env B ρ Z s a b va vb hd
 | false=>rw [e] at hd; exact h2 X dp f H k A env B ρ Z s a b va vb hd
def dU:P2:=dX lw pSS (CK mY FA fJ)
theorem eG:gx C dU:=jL GX (BB Ia fR)
def apD (x:SS) (v:AV) (es:List (SS × AV)):(List (SS × AV)->Bool)->Bool:=@List.rec (SS × AV) (fun _=>(List (SS × AV)->Bool)->Bool) (fun k=>k [(x,v)]) (fun e _ ih k=>ih fun r=>k (e :: r)) es
theorem zZ (x:SS) (v:AV) (es:List (SS × AV)):∀ k,apD x v es k=k (es++[(x,v)]):=by
 induction es with
 | nil=>intro k; rfl
 | cons e es ih=>intro k; exact ih fun r=>k (e :: r)
def Fo:P3:=fun a b c H k=>kG H a fun j es=>bO b fun x=>aB (Nat.ble es.length 1000) (j8 x es (apD x c es fun es=>H.set j (.dict es) k) fun _=>false)
theorem o7 {kvs:List (Str × Value)} {x:Str} {v:Value} (h:valueAt kvs x=none):stored kvs x v=kvs++[(x,v)]:=by
 unfold stored
 rw [if_neg]
 intro q
 refine ad (List.any_eq_true.mp q) fun p hp e=>?_
 unfold valueAt at h
 rw [Option.map_eq_none_iff,List.find?_eq_none] at h
 exact h p hp e
theorem IL:yk C Fo:=by
 intro X dp f H k A env B ρ Z s a b c va vb vc hd hA ok ra rb rc Q E hQ
 refine ay (dZ hd) fun j es zq2 hj h=>?_
 clear hd
 subst zq2
 nomatch ad (aC h),h
 intro x ib h0
 nomatch Za1 (af h0),h0
 intro hl h1
 have hl:=ZbL hl
 refine Ze1 (aA ib rb) fun t zq1=>?_
 clear rb
 subst zq1
 nomatch dO (fX ok ra hj),hj
 intro a kvs zq2 g1 g2 g3 g4
 clear ra
 subst zq2
 rcases eB (C:=C) h1 g3 with ⟨e,h2⟩ | ⟨v,w,e,r,h2⟩
 ·rw [zZ] at h2
  nomatch aU (HP.set_spec h2),h2
  intro H' h3 h4 h5
  refine wpAny_setItem_pairs (fm C.w C.prog _ t) g2 (fun h' hm hs=>?_) (by rw [← g3.1,sizeLine_eq]; omega)
  nomatch ad (Heap.dictOf_iff.mp hm),hm
  intro o' ho' hd'
  rw [o7 e] at hd'
  refine hQ _ _ _ _ (Ext.refl ..) ((OK.update ok h4 h5 g1 hs ho' ⟨_,hd',by simp [g3.1],fun i y p q1 q2=>?_⟩).tok _) h3
  by_cases hi:i<es.length
  ·rw [List.getElem?_append_left hi] at q1
   rw [List.getElem?_append_left (by rw [← g3.1]; exact hi)] at q2
   exact g3.2 i y p q1 q2
  ·rw [List.getElem?_append_right (by omega)] at q1
   rw [List.getElem?_append_right (by rw [← g3.1]; omega),← g3.1] at q2
   have hi0:i-es.length=0:=by
    have:=(ZbS q1).1; simp at this; omega
   rw [hi0] at q1 q2
   injections q1; injections q2
   exact ⟨rfl,rc⟩
 ·exact ffE h2
def B0:P3:=fun a b c H k=>br (vR a b c H k) (Fo a b c H k) (mY a H)
theorem HU:yk C B0:=by
 intro X dp f H k A env B ρ Z s a b c va vb vc hd
 unfold B0 at hd
 induction e:mY a H using Bool.casesOn with
 | true=>rw [e] at hd; exact IL X dp f H k A env B ρ Z s a b c va vb vc hd
 | false=>rw [e] at hd; exact zl X dp f H k A env B ρ Z s a b c va vb vc hd
def Cy (ix:Nat) (p:P3) (dv dq1 dq2:D):DS:=fun dp f H kn kr=>dv dp f H fun v H=>lM ix v f fun f=>dq1 dp f H fun a H=>dq2 dp f H fun b H=>p a b v H fun H=>kn f H
theorem EP {x:Str} {px:Pos} {o i value:Ex} {pos' pos:Pos} {ix:Nat} {p:P3} {dv dq1 dq2:D} (hk:X.sc.kind = .function) (hl:X.sc.names.lookup x=some .local) (hi:X.tab[ix]?=some x) (hn:X.tab.Nodup) (hv:SE C X value dv) (h1:SE C X o dq1) (h2:SE C X i dq2) (hp:yk C p)
  (he:∀ env,(assignEach [.Name x px,.Subscript o i pos'] env).map (·.2)=[assign (.Name x px) env,assign (.Subscript o i pos') env])
  (hw:∀ env,swappedStores [.Name x px,.Subscript o i pos'] value env=pure none) :
  S1 C X (.Assign [.Name x px,.Subscript o i pos'] value pos) (Cy ix p dv dq1 dq2):=by
 intro dp f H kn kr A env B ρ Z s hd hA ok Q E hn' hr
 refine wpAny_Assign_two (hv _ _ _ _ _ _ _ _ _ _ hd hA ok _ _ fun ρ₁ Z₁ H₁ s₁ v vv e₁ ok₁ r₁ hdq1=>?_) (he env) (hw env)
 refine wpAny_assign_Name (fj hk hl hi hn hdq1 ok₁ r₁ fun sq2 fq2 ok₂ hdq2=>?_)
 refine (?_:wpAny _ _ (assign (.Subscript o i pos') env vv) _ _ _)
 rw [assign_Subscript]
 refine ZB (wpAny_holding (h1 _ _ _ _ _ _ _ _ _ _ hdq2 hA ok₂ _ _ fun ρ3 Z3 H3 s₃ a va e₃ ok₃ r₃ hdq3=>?_))
 refine ZB (wpAny_holding (h2 _ _ _ _ _ _ _ _ _ _ hdq3 hA ok₃ _ _ fun ρ4 Z4 H4 s4 b vb e₄ ok₄ rq4 hdq4=>?_))
 refine ZB (wpAny_standAt (ZB (wpAny_holding ?_)))
 exact hp _ _ _ _ _ _ _ _ _ _ _ _ _ _ _ _ _ hdq4 hA ok₄ (r₃.ext e₄) rq4 (r₁.ext (e₃.trans e₄)) _ _ fun ρ5 Z5 H5 s₅ eq5 ok₅ hdq5=>wpAny_release (hn' _ _ _ _ _ (((e₁.trans e₃).trans e₄).trans eq5) ok₅ hdq5)
def uD (v:AV) (H:HP):Bool:=kG H v fun _ _=>true
theorem pQ (ok:OK C X B f env ρ Z H s) {av:AV} {v:Value} (h:uD av H=true) (r:VRel C.σ ρ Z av v):s.TypeIs v "dict"∧∀ a,v = .ref a->∃ ob,s.heap.get? a=some ob∧ob.dict=none:=by
 refine ay (dZ h) fun j xs zq2 hj _=>?_
 clear h
 subst zq2
 nomatch dO (fX ok r hj),ok,hj
 intro a kvs zq2 g1 g2 g3 g4
 clear r
 subst zq2
 refine bM (id g2) fun o es ep ho hx _=>?_
 exact ⟨g2.typeIs,fun b e=>by cases e; exact (am o ho hx.2.1)⟩
def FM:DC:=fun args _ H k=>nI args fun d b=>kG H d fun j es=>bO b fun x=>j8 x es (k .none H) fun v=>k v H
theorem DH:SC C (.builtin "dict.get") 2 FM:=by
 intro X dp f H k A env B ρ Z s args vals hc hA ok hv hlen Q E hQ
 nomatch aE (cE hc hlen),hc,hlen
 intro a b zq2 h
 subst zq2
 nomatch ay hv.two,hv
 intro va vb zq2 ra rb
 subst zq2
 refine ay (dZ h) fun j es zq2 hj h0=>?_
 clear h
 subst zq2
 nomatch ad (aC h0),h0
 intro x ib h1
 nomatch Ze1 (aA ib rb),ib
 intro t zq1
 clear rb
 subst zq1
 nomatch dO (fX ok ra hj),hj
 intro a kvs zq2 g1 g2 g3 g4
 clear ra
 subst zq2
 refine call_meetsIn F.slot_dict_get g2.typeIs F.entry_dict_get (F.args_dict_get_2 _ _) (meets_dict_get (PySem.strKind C.prog C.w) a (fm C.w C.prog _ t) g4) (am _ g2.mapOf (?_))
 rcases eB (C:=C) h1 g3 with ⟨e,h2⟩ | ⟨v,w,e,r,h2⟩
 ·rw [e]; exact hQ _ _ _ _ _ _ (Ext.refl ..) (ok.tok _) .none h2
 ·rw [e]; exact hQ _ _ _ _ _ _ (Ext.refl ..) (ok.tok _) r h2
def lf (es:List (SS × AV)) (c:Nat):Bool:=j8 (lit [c]) es (Nat.beq (bJ c).length 1) fun v=>bO v fun y=>sEq y (lit (bJ c)) fun b=>b
def Fx (es:List (SS × AV)):Bool:=aB (lf es 38) (aB (lf es 60) (aB (lf es 62) (aB (lf es 13) (aB (lf es 120) (aB (lf es 10) (aB (lf es 34) (lf es 9)))))))
def BC (v:AV) (k:Nat->Bool):Bool:=bO v fun x=>@List.rec SA (fun _=>Bool) false (fun a r _=>@List.rec SA (fun _=>Bool) (@SA.rec (fun _=>Bool) (fun _=>false) (fun j=>k j) (fun _=>false) (fun _=>false) (fun _=>false) a) (fun _ _ _=>false) r) x
theorem oJ {v:AV} {k:Nat->Bool} (h:BC v k=true):∃ j,(v = .str [.sgn j]∨v = .lit [.sgn j])∧k j=true:=by
 nomatch ad (aC h),h
 intro x hx h
 induction x using List.casesOn with
 | nil=>exact ffE h
 | cons a r =>
  induction r using List.casesOn with
  | cons _ _=>exact ffE h
  | nil=>induction a using SA.casesOn<;>first | exact (am _ hx h) | exact ffE h
def AW:DC:=fun args _ H k=>wS args fun d b c=>kG H d fun j es=>BC b fun i=>BC c fun i'=>aB (Nat.beq i i') (aB (Fx es) (k (.str [.spl i]) H))
theorem Cm {es:List (SS × AV)} (h:Fx es=true) {c:Nat} (hc:c∈[38,60,62,13,120,10,34,9]):lf es c=true:=by
 nomatch Za1 (af h),h
 intro h1 h
 nomatch Za1 (af h),h
 intro h2 h
 nomatch Za1 (af h),h
 intro h3 h
 nomatch Za1 (af h),h
 intro h4 h
 nomatch Za1 (af h),h
 intro h5 h
 nomatch Za1 (af h),h
 intro h6 h
 refine Za1 (af h) fun h7 h8=>?_
 simp only [List.mem_cons,List.not_mem_nil,or_false] at hc
 rcases hc with rfl | rfl | rfl | rfl | rfl | rfl | rfl | rfl<;>assumption
theorem CP:SC C (.builtin "dict.get") 3 AW:=by
 intro X dp f H k A env B ρ Z s args vals hc hA ok hv hlen Q E hQ
 nomatch eH (gV hc hlen),hc
 intro a b c zq3 h
 subst zq3
 nomatch da hv.three,hv
 intro va vb vc zq3 ra rb rc
 subst zq3
 refine ay (dZ h) fun j es zq2 hj h0=>?_
 clear h
 subst zq2
 nomatch ad (oJ h0),h0
 intro i ib h1
 nomatch ad (oJ h1),h1
 intro i' ic h2
 refine Za1 (af h2) fun h3 h4=>?_
 have:=ZbE h3
 clear h2 h3
 subst this
 nomatch Za1 (af h4),h4
 intro h5 h6
 refine Ze1 (aA ib rb) fun t zq1=>?_
 clear rb
 subst zq1
 refine Ze1 (aA ic rc) fun u zq1=>?_
 clear rc
 subst zq1
 nomatch dO (fX ok ra hj),hj
 intro a kvs zq2 g1 g2 g3 g4
 clear ra
 subst zq2
 refine call_meetsIn F.slot_dict_get g2.typeIs F.entry_dict_get (F.args_dict_get_3 _ _ _) (meets_dict_get_default (PySem.strKind C.prog C.w) a (fm C.w C.prog _ t) g4 _) (am _ g2.mapOf (?_))
 have hsg:=C.wf.sg i
 have h7:=Cm h5 hsg
 have ek:aw C.σ (lit [C.σ.sg i])=aw C.σ [.sgn i]:=by unfold aw; rw [fu]; rfl
 have ev:aw C.σ (lit (bJ (C.σ.sg i)))=aw C.σ [.spl i]:=by unfold aw; rw [fu]; show _=(⟨(bJ (C.σ.sg i)++[]).toArray⟩:Str); rw [List.append_nil]
 rcases eB (C:=C) h7 g3 with ⟨e,h8⟩ | ⟨v,w,e,r,h8⟩
 ·rw [ek] at e
  rw [e]
  have e1:bJ (C.σ.sg i)=[C.σ.sg i]:=by
   have h9:=ZbE h8
   revert h9
   simp only [List.mem_cons,List.not_mem_nil,or_false] at hsg
   rcases hsg with q | q | q | q | q | q | q | q<;>rw [q]<;>first | (intro _; rfl) | (intro z; exact absurd z (by decide))
  have e2:aw C.σ [.sgn i]=aw C.σ [.spl i]:=by rw [← ev,e1,ek]
  refine (?_:Q (.str (aw C.σ [.sgn i]) u) _)
  rw [e2]
  exact hQ _ _ _ _ _ _ (Ext.refl ..) (ok.tok _) (.str ..) h6
 ·rw [ek] at e
  rw [e]
  nomatch ad (aC h8),h8
  intro y iy h9
  have h10:=fy C.wf _ _ _ h9
  nomatch Ze1 (aA iy r),iy
  intro t' zq1
  clear e r
  subst zq1
  have e3:aw C.σ y=aw C.σ [.spl i]:=by rw [← ev]; exact txtS_inj.mpr (of_decide_eq_true h10)
  refine (?_:Q (.str (aw C.σ y) t') _)
  rw [e3]
  exact hQ _ _ _ _ _ _ (Ext.refl ..) (ok.tok _) (.str ..) h6
def Fd:DC:=fun args _ H k=>gY args fun a=>kG H a fun j es=>jO es 0 fun n=>aB (Nat.ble n 1000) (k (.int (.ofNat n)) H)
theorem EG:SC C (.builtin "len") 1 Fd:=by
 intro X dp f H k A env B ρ Z s args vals hc hA ok hv hlen Q E hQ
 nomatch ad (bD hc hlen),hc
 intro a zq1 h
 subst zq1
 nomatch ad hv.one,hv
 intro va zq1 ra
 subst zq1
 refine ay (dZ h) fun j es zq2 hj h0=>?_
 clear h
 subst zq2
 rw [dL,Nat.add_zero] at h0
 nomatch Za1 (af h0),h0
 intro h1 h2
 have hl:=ZbL h1
 nomatch dO (fX ok ra hj),hj
 intro a kvs zq2 g1 g2 g3 g4
 clear ra
 subst zq2
 refine call_len_dict g4 g2 (by rw [← g3.1]; omega) ?_
 rw [← g3.1]
 exact hQ _ _ _ _ _ _ (Ext.refl ..) (ok.tok _) (.int ..) h2
def FB:DC:=fun args _ H k=>gY args fun a=>bO a fun x=>jO x 0 fun n=>aB (Nat.ble n 100000) (k (.slen x) H)
theorem D2:SC C (.builtin "len") 1 FB:=by
 intro X dp f H k A env B ρ Z s args vals hc hA ok hv hlen Q E hQ
 refine ad (bD hc hlen) fun a zq1 h=>?_
 clear hc hlen
 subst zq1
 nomatch ad hv.one,hv
 intro va zq1 ra
 subst zq1
 nomatch ad (aC h),h
 intro x ix h0
 rw [dL,Nat.add_zero] at h0
 nomatch Za1 (af h0),h0
 intro h1 h2
 have hl:=ZbL h1
 refine Ze1 (aA ix ra) fun t zq1=>?_
 clear ra
 subst zq1
 have hb:=nE C.σ C.wf x
 refine PySem.P.len_str (by rw [bX]; omega) ?_
 rw [bX]
 exact hQ _ _ _ _ _ _ (Ext.refl ..) (ok.tok _) (.slen ..) h2
def Fl (c:AV->HP->Bool) (p q:DC):DC:=fun args dp H k=>@List.rec AV (fun _=>Bool) false (fun a _ _=>br (q args dp H k) (p args dp H k) (c a H)) args
theorem EJ {fv:Value} {n:Nat} {c:AV->HP->Bool} {p q:DC} (h1:SC C fv n p) (h2:SC C fv n q):SC C fv n (Fl c p q):=by
 intro X dp f H k A env B ρ Z s args vals hc
 induction args using List.casesOn with
 | nil=>exact ffE hc
 | cons a r =>
  change br (q (a :: r) dp H k) (p (a :: r) dp H k) (c a H)=true at hc
  induction e:c a H using Bool.casesOn with
  | true=>rw [e] at hc; exact h1 X dp f H k A env B ρ Z s (a :: r) vals hc
  | false=>rw [e] at hc; exact h2 X dp f H k A env B ρ Z s (a :: r) vals hc
def sY:DC:=rP lw FB (Fl mY Fd FU)
theorem mW:SC C (.builtin "len") 1 sY:=qh D2 (EJ EG yU)
end
section
variable {C:Cx} {X:Sc} {B:Bz} {f:Fm} {env:Env} {ρ:List Addr} {Z:Fz} {H H':HP} {s:Shared} {A:Around}
theorem wn (items:Array Value) (p:Int->Int->Int->Nat->Bool) (hp:∀ k,k<items.size->p 0 items.size 1 k=true):(items.toList.zipIdx.filterMap fun (x,k)=>if p 0 items.size 1 k then none else some x).toArray = #[]:=by
 have:(items.toList.zipIdx.filterMap fun ((x,k):Value × Nat)=>if p 0 items.size 1 k then none else some x)=[]:=by
  rw [List.filterMap_eq_nil_iff]
  rintro ⟨x,k⟩ hx
  have hk:=(List.mem_zipIdx hx).2.1
  simp at hk
  simp [hp k hk]
 rw [this]
theorem vW {n k:Nat} (hk:k<n) {b:Bool}:(if (1:Int) > 0 then (decide ((0:Int)≤k)&&decide ((k:Int)<(n:Int))&&((k:Int)-0) % 1==0) else b)=true:=by
 rw [if_pos (by decide)]; simp; omega
theorem Bp {prog:Program} {w:World} {E:Value->Shared->Prop} {l sl:Addr} {items:Array Value} {n:Nat} {Q:Unit->Shared->Prop} (hl:IsL s.heap l items n) (hs:s.heap.IsSliceOf sl .none .none .none) (hsz:items.size≤100000)
  (h:∀ g:Array Value->Array Value,g items = #[]->Q () { s with heap:=s.heap.update l (Obj.mapSeq g) }):wpAny (model prog w) A (delItem (.ref l) (.ref sl)) Q E s:=by
 refine aU (id hs) fun os hos hcs hds=>?_
 have hTs:s.TypeIs (.ref sl) "slice":=⟨os,hos,hcs⟩
 refine wpAny_delItem_slot ⟨_,hl,rfl⟩ (by decide) F.slot_list_delitem (wpAny_call_entry F.slot_list_delitem ⟨_,hl,rfl⟩ F.entry_list_delitem ?_ (F.args_list_delitem_2 _ _))
 refine (?_:wpAny _ _ (Builtin.List.listSubscript? (.ref sl) >>= _) _ _ s)
 refine ZB ?_
 unfold Builtin.List.listSubscript?
 refine ZB (wpAny_specialOf hTs slice_no_index ?_)
 simp only [Option.isNone_none,if_true]
 refine ZP ?_
 refine (?_:wpAny _ _ (typeOf (.ref sl) >>= _) _ _ s)
 refine ZB (wpAny_typeOf hTs ?_)
 rw [if_neg (by decide)]
 rw [listSliceParts_eq]
 refine ZB (ZB (wpAny_field hos hds (x:=.none) rfl (ZB (wpAny_listPart (k:=none) .none ?_))))
 rw [if_neg (show ¬ ((rawPart none==rawInt 0)=true) from Bool.false_ne_true)]
 refine ZB (wpAny_field hos hds (x:=.none) rfl (ZB (wpAny_listPart (k:=none) .none ?_)))
 refine ZB (wpAny_field hos hds (x:=.none) rfl (ZB (wpAny_listPart (k:=none) .none (ZP ?_))))
 refine ZB (PyProof.Rows.listItems_at hl rfl ?_)
 have e:(sliceBounds none none none items.size)=(0,(items.size:Int),1):=by unfold sliceBounds; simp
 refine ZB (wpAny_of_eq ((sliceIndices_raw none none none items.size (by simp)).trans (congrArg pure e)) ?_)
 refine ZB (wpAny_rule ?_)
 refine ZB (PyProof.Rows.listUpdate_at hl rfl ?q (by rw [sizeLine_eq]; omega) ?z)
 case z =>
  refine Nat.le_trans (Nat.le_of_eq (congrArg Array.size (wn items _ fun k hk=>?_))) (Nat.zero_le _)
  exact vW hk
 case q =>
  refine ZB (wpAny_letGo (ZP (am _ rfl (h _ (wn items _ fun k hk=>?_)))))
  exact vW hk
def Fn:P2u:=fun a b H k=>bP H a fun j n rx=>aB (Nat.ble n 100000) (l4 b fun lo hi st=>jw lo (jw hi (jw st (H.set j (.list 0 []) k))))
theorem IP:FR C Fn:=by
 intro X dp f H k A env B ρ Z s a b va vb hd hA ok ra rb Q E hQ
 nomatch bM (aG hd),hd
 intro j n rx zq3 hj x1
 subst zq3
 nomatch Za1 (af x1),x1
 intro h1 x2
 nomatch eH (gq x2),x2
 intro lo hi st zq3 x3
 subst zq3
 nomatch Za1 (fV x3),x3
 intro zq0 x4
 subst zq0
 nomatch Za1 (fV x4),x4
 intro zq0 x5
 subst zq0
 refine Za1 (fV x5) fun zq0 x6=>?_
 clear x5
 subst zq0
 nomatch aU (HP.set_spec x6),x6
 intro H' g4 g5 g6
 nomatch bS (bg ok ra hj),hj
 intro a vs ep zq3 hρ hl hv' hn hn'
 clear ra
 subst zq3
 have hsz:n≤100000:=ZbL h1
 refine Ze4 rb.inv fun _ _ _ _ zw0=>?_
 nomatch Za4 zw0,zw0
 intro zq4 hz r1 r2 r3
 clear rb
 subst zq4
 (obtain rfl:=r1.inv); (obtain rfl:=r2.inv); (obtain rfl:=r3.inv)
 refine Bp hl ⟨_,ok.g.z _ _ hz,rfl,rfl⟩ (by rw [List.size_toArray,hn]; exact hsz) fun g hg=>?_
 exact hQ _ _ _ _ (Ext.refl ..) (ok.mapSeq (ws:=[]) hρ hl (by rw [hg]) g5 g6 .nil rfl) g4
theorem zt {prog:Program} {w:World} {E:Value->Shared->Prop} {a:Addr} {vs:List Value} {n:Nat} {P:PySem.Fin->Shared->Prop} (ho:s.heap.get? a=some (seqObj "list" vs.toArray n)) (h2:vs.length<2)
  (h:P (.done (.ret .none)) { s with heap:=sortedHeap s.heap a vs vs.toArray }):wpAny (model prog w) A (Builtin.«list.sort» ⟨[.ref a],[]⟩) P E s:=by
 rw [list_sort_plain]
 have ha:a<s.heap.objs.size:=Heap.lt_size ho
 refine ZB (PyProof.Rows.listItems_at ho rfl ?_)
 refine ZB (PyProof.Rows.listUpdate_at ho rfl ?_ (by rw [List.size_toArray,sizeLine_eq]; omega) (Nat.zero_le _))
 have zh9:∃ e1,(s.heap.update a (Obj.mapSeq fun _=>#[])).get? a=some (seqObj "list" #[] e1):=⟨_,get?_update_seq ho (fun _=>#[])⟩
 refine Ze1 zh9 fun e1 ho1=>?_
 refine ZB (PyProof.Rows.seqEpoch_at ho1 rfl ?_)
 refine ZB (wpAny_newTuple ?_ (by show vs.length≤_; rw [sizeLine_eq]; omega))
 refine ZB (wpAny_newList ?_ (Nat.zero_le _))
 refine wpAny_holding ?_
 have ho6:(((s.heap.update a (Obj.mapSeq fun _=>#[])).push (seqObj "tuple" vs.toArray 0)).push (seqObj "list" #[] 0)).get? a=some (seqObj "list" #[] e1):=by
  rw [Heap.get?_push_ne _ _ _ (by rw [PyProof.Rows.size_push',Heap.size_update]; exact Nat.ne_of_lt (Nat.lt_succ_of_lt ha)),Heap.get?_push_ne _ _ _ (by rw [Heap.size_update]; exact Nat.ne_of_lt ha)]
  exact ho1
 refine (?_:wpAny (model prog w) A _ P E { s with heap:=((s.heap.update a (Obj.mapSeq fun _=>#[])).push (seqObj "tuple" vs.toArray 0)).push (seqObj "list" #[] 0) })
 dsimp only
 have h3:vs.toArray.size<2:=by rw [List.size_toArray]; exact h2
 rw [if_pos h3,if_pos h3]
 refine ZB (ZP ?_)
 rw [StateT.run_pure]
 refine ZB (ZP ?_)
 dsimp only
 refine ZB (PyProof.Rows.seqEpoch_at ho6 rfl ?_)
 have hm:(vs.toArray.zip vs.toArray).map (·.2)=vs.toArray:=by
  apply Array.ext'
  have:List.map (fun x:Value × Value=>x.snd) (vs.zip vs)=vs:=List.map_snd_zip (Nat.le_refl _)
  simpa using this
 refine ZB (PyProof.Rows.listUpdate_at ho6 rfl ?_ (Nat.zero_le _) ?_)
 ·refine (?_:wpAny (model prog w) A (if ((e1 != e1)=true) then _ else _) _ _ _)
  rw [bne_self_eq_false,if_neg Bool.false_ne_true]
  refine ZP ?_
  refine (?_:P _ { s with heap:=Heap.update _ a (Obj.mapSeq fun _=>(vs.toArray.zip vs.toArray).map (·.2)) })
  rw [hm]
  exact h
 ·refine (?_:((vs.toArray.zip vs.toArray).map (·.2)).size≤_)
  rw [hm,List.size_toArray,sizeLine_eq]
  omega
def Bt:DC:=fun args _ H k=>gY args fun o=>bP H o fun j n rx=>aB (Nat.blt n 2) (H.set j (.list 0 []) fun H=>H.set j (.list n rx) fun H=>k .none H)
theorem Cg:SC C (.builtin "list.sort") 1 Bt:=by
 intro X dp f H k A env B ρ Z s args vals hc hA ok hv hlen Q E hQ
 nomatch ad (bD hc hlen),hc
 intro a zq1 h
 subst zq1
 nomatch ad hv.one,hv
 intro va zq1 ra
 subst zq1
 refine bM (aG h) fun j n rx zq3 hj x1=>?_
 clear h
 subst zq3
 nomatch Za1 (af x1),x1
 intro h1 x2
 rw [cW] at h1
 have h1:=of_decide_eq_true h1
 nomatch aU (HP.set_spec x2),x2
 intro H₁ x3 g1 g2
 nomatch aU (HP.set_spec x3),x3
 intro H₂ x4 g3 g4
 nomatch bS (bg ok ra hj),hj
 intro a vs ep zq3 hρ hl hv' hn hn'
 clear ra
 subst zq3
 refine wpAny_call_entry F.slot_list_sort ⟨_,hl,rfl⟩ F.entry_list_sort (zt (n:=ep) hl (by omega) (am _ rfl (?_))) (F.args_list_sort_1 _)
 have ok1:=ok.mapSeq (ws:=[]) (g:=fun _=>#[]) hρ hl rfl g1 g2 .nil rfl
 have ok2:=(ok1.waste (seqObj "tuple" vs.toArray 0)).waste (seqObj "list" #[] 0)
 have hl1:=((IsL.update hl fun _=>(#[]:Array Value)).push (seqObj "tuple" vs.toArray 0)).push (seqObj "list" #[] 0)
 have ok3:=OK.mapSeq ok2 (vs:=[]) (ws:=vs) (g:=fun _=>vs.toArray) hρ hl1 rfl g3 g4 hv' hn'
 exact hQ _ _ _ _ _ _ (Ext.refl ..) ok3 .none x4
def FK (as:List DA):DA:=fun v f H k=>bP H v fun _ _ rx=>gO rx [] fun xs=>aB (Nat.beq xs.length as.length) (z9 as xs f H k)
theorem C9 {elts:List Ex} {n:Nat} {pos:Pos} {ts:List (Env->Value->Sem Unit)} {as:List DA} (hs:ASs C X ts as) (he:∀ env,assignEach elts env=ts.map fun t=>(false,t env)) (hl:as.length=ts.length) :
  AS C X (assign (.Tuple elts n pos)) (FK as):=by
 intro dp f H k A env B ρ Z s av v hd hA ok r Q E hQ
 refine bM (aG hd) fun j m rx zq3 hj hd1=>?_
 clear hd
 subst zq3
 rw [dY,List.append_nil] at hd1
 nomatch Za1 (af hd1),hd1
 intro hc hd2
 have hc:=ZbE hc
 nomatch bS (bg ok r hj),hj
 intro a vs ep zq3 hρ hL hv hn hn'
 clear r
 subst zq3
 have hlen:(assignEach elts env).length=vs.toArray.size:=by rw [he,List.length_map,← hl,← hc,hv.1,List.size_toArray]
 have hstar:(assignEach elts env).findIdx? (·.1)=none:=by rw [he]; simp [List.findIdx?_eq_none_iff]
 rw [assign_Tuple]
 refine ZB (wpAny_standAt ?_)
 unfold unpack
 rw [hlen,hstar]
 refine ZB (wpAny_holding (kun_itemsOf hA.hd hL.isList fun h' hx=>?_))
 rw [he]
 simp only [List.map_map]
 exact iQ ts as hs _ _ _ _ _ _ _ _ _ _ _ _ hd2 hA (ok.extNew hx) hv _ _ hQ
def iY (as:List DA):DA:=fun v f H k=>br (yW as v f H k) (FK as v f H k) (jm v)
theorem f5 {elts:List Ex} {n:Nat} {pos:Pos} {ts:List (Env->Value->Sem Unit)} {as:List DA} (hs:ASs C X ts as) (he:∀ env,assignEach elts env=ts.map fun t=>(false,t env)) (hl:as.length=ts.length) :
  AS C X (assign (.Tuple elts n pos)) (iY as):=by
 intro dp f H k A env B ρ Z s av v hd
 unfold iY at hd
 induction e:jm av using Bool.casesOn with
 | true=>rw [e] at hd; exact C9 hs he hl dp f H k A env B ρ Z s av v hd
 | false=>rw [e] at hd; exact qP hs he hl dp f H k A env B ρ Z s av v hd
noncomputable def Fz.addL (Z:Fz) (L:List (Addr × Obj)):Fz:=⟨fun b o=>Z.ob b o∨(b,o)∈L,Z.tk⟩
theorem Fz.le_addL {Z:Fz} {L:List (Addr × Obj)}:Z.le (Z.addL L):=⟨fun _ _ e=>.inl e,fun _ _ e=>e⟩
theorem OK.adoptZs (ok:OK C X B f env ρ Z H s) {L:List (Addr × Obj)} (h:∀ p∈L,s.heap.get? p.1=some p.2∧p.1 ∉ ρ∧(∀ o,¬ B p.1 o)∧p.1 ≠ env.locals):OK C X B f env ρ (Z.addL L) H s:=by
 have hρ:ρ <+: ρ:=List.prefix_refl _
 have hZ:Z.le (Z.addL L):=Fz.le_addL
 refine ⟨⟨ok.g.base,ok.g.b,?_,ok.g.len,fun j b e=>?_,ok.g.nd1,ok.g.ab,?_,ok.g.lρ,ok.g.lb,?_,?_,ok.g.ls,ok.g.same,ok.g.tk,ok.g.tkb,ok.g.tkf,ok.g.tabs⟩,⟨ok.f.sc,ok.f.gl,ok.f.bl,ok.f.cd,ok.f.qual,?_,ok.f.ce⟩⟩
 ·rintro b o' (e | e)
  ·exact ok.g.z b o' e
  ·exact (h _ e).1
 ·refine ay (ok.g.obj j b e) fun ao' o' e1 e2 e3=>?_
  exact (aK ao' o' e1 e2 (e3.mono hρ hZ))
 ·rintro b hb o' (e | e)
  ·exact ok.g.az b hb o' e
  ·exact (h _ e).2.1 hb
 ·rintro o' (e | e)
  ·exact ok.g.lz o' e
  ·exact (h _ e).2.2.2 rfl
 ·rintro b o' o'' (e | e) hb
  ·exact ok.g.zb b o' o'' e hb
  ·exact (h _ e).2.2.1 _ hb
 ·refine ad ok.f.ns fun m h1 h2=>?_
  exact (am m h1 (fun k x v p q=>(h2 k x v p q).mono hρ hZ))
def jd (es:List (SS × SS)):List AV:=es.map fun p=>.tup (.tcons (.str p.1) (.tcons (.str p.2) .tnil))
def CX (es:List (SS × SS)):D:=fun _ _ H k=>mP (jd es) H k
theorem vr {d:Addr} {kvs:List (Str × Value)} {ep:Nat} {es:List (SS × SS)} {dp:Nat} {k:AV->HP->Bool} (hd:mP (jd es) H k=true) (hA:AOk dp A) (ok:OK C X B f env ρ Z H s) (h1:(d==sysModules)=false) (hm:s.heap.DictAt (PySem.strKind C.prog C.w) d kvs ep)
  (he:kvs.length=es.length∧∀ (i:Nat) (p:SS × SS) (q:Str × Value),es[i]?=some p->kvs[i]?=some q->q.1=aw C.σ p.1∧∃ t,q.2 = .str (aw C.σ p.2) t) {Q:Value->Shared->Prop} {E:Value->Shared->Prop}
  (hQ:∀ ρ' Z' H' s' b a,Ext ρ Z ρ' Z'->OK C X B f env ρ' Z' H' s'->VRel C.σ ρ' Z' b a->k b H'=true->Q a s') :
  wpAny (model C.prog C.w) A (call (.builtin "dict.items") [.ref d]) (fun v s'=>wpAny (model C.prog C.w) A (call (.type "list") [v]) Q E s') E s:=by
 refine dO (id hm) fun oq0 es0 a1 a2 a3 a4 zw0=>?_
 nomatch Za1 zw0,zw0
 intro a5 a6
 have hD:s.heap.DictOf (PySem.strKind C.prog C.w) d kvs:=⟨oq0,es0,ep,a1,a2,a3,a4,a5,a6⟩
 refine call_meetsIn F.slot_dict_items hD.typeIs F.entry_dict_items (F.args_dict_items_1 _) (meets_dict_items _ d h1) ⟨⟨kvs,hD⟩,?_⟩
 have ok1:=ok.waste { cls:=.type "dict_items",data:=.fields #[.ref d] }
 nomatch cJ (eI hd),hd
 intro H' c1 c2 c3 c4
 have hlen:(jd es).length=es.length:=by simp [jd]
 refine wpAny_with_toks (n:=s.toks) (Nat.le_refl _) (kdx_call (s:={ s with heap:=s.heap.push { cls:=.type "dict_items",data:=.fields #[.ref d] } }) (knd:=PySem.strKind C.prog C.w) hA.hd ⟨_,Heap.get?_push_size _ rfl,rfl,rfl⟩ (hm.push _) (by rw [he.1,← hlen,sizeLine_eq]; omega) fun h' tk acc c as hk hS hl hG hacc ht=>?_)
 have ok2:=ok1.grown (t:=tk) hk ht
 let L:List (Addr × Obj):=as.filterMap fun a=>(h'.get? a).map fun o=>(a,o)
 have hbig:∀ a∈as,s.heap.objs.size≤a:=fun a ha=>by
  have:=hG.above a ha
  rw [Heap.size_push] at this
  exact Nat.le_of_lt (Nat.lt_of_succ_lt this)
 have hL:∀ p∈L,h'.get? p.1=some p.2∧p.1 ∉ ρ∧(∀ o,¬ B p.1 o)∧p.1 ≠ env.locals:=by
  intro p hp
  refine ad (List.mem_filterMap.mp hp) fun a ha e=>?_
  refine ad (Option.map_eq_some_iff.mp e) fun o ho e2=>?_
  clear hp e
  subst e2
  refine Za3 (ok.fresh (hbig a ha)) fun f1 f2 f3 f4=>?_
  exact ⟨ho,f1,f2,f4⟩
 have ok3:=OK.adoptZs ok2 (L:=L) hL
 have hr:VRs C.σ ρ (Z.addL L) (jd es) (as.map Value.ref):=by
  refine ⟨by rw [hlen,List.length_map,hl,he.1],fun i x v e1 e2=>?_⟩
  rw [jd,List.getElem?_map,Option.map_eq_some_iff] at e1
  rw [List.getElem?_map,Option.map_eq_some_iff] at e2
  nomatch ad e1,e1
  intro p p1 zq2
  subst zq2
  nomatch ad e2,e2
  intro a p2 zq2
  subst zq2
  nomatch bM (hG.pairs i a p2),hG
  intro key kk x q1 q2 q3
  nomatch Za1 (he.2 i p (kk,x) p1 q1),p1
  intro r1 zw0
  nomatch Ze1 zw0,zw0
  intro t r2
  refine Ze1 (Value.isStrOf_shape q2) fun u zq1=>?_
  clear q2
  subst zq1
  dsimp only at r1 r2
  clear q1
  subst r1 r2
  refine .tup (n:=0) (vs:=[.str (aw C.σ p.1) u,.str (aw C.σ p.2) t]) (.inr (List.mem_filterMap.mpr (am a (ZbM p2) (by rw [q3]; rfl)))) rfl fun n x v s1 s2=>?_
  match n with
  | 0=>injections s1; injections s2; exact .str ..
  | 1=>injections s1; injections s2; exact .str ..
  | n+2=>exact noS s1
 have hac:acc=(as.map Value.ref).toArray:=by apply Array.ext'; simpa using hacc
 rw [hac] at hS
 obtain ⟨o1,o2⟩:=ok3.adoptL (vs:=as.map Value.ref) (ep:=c) (n:=(jd es).length) (rx:=(jd es).reverse) hS (by
   refine Za3 (ok1.fresh (Nat.le_refl _)) fun f1 f2 f3 f4=>?_
   refine ⟨f1,f2,?_,f4⟩
   rintro o' (e | e)
   ·exact f3 _ e
   ·refine ad (List.mem_filterMap.mp e) fun a ha e2=>?_
    refine ad (Option.map_eq_some_iff.mp e2) fun o _ e3=>?_
    have:=hG.above a ha
    have e4:a=(s.heap.push { cls:=.type "dict_items",data:=.fields #[.ref d] }).objs.size:=congrArg Prod.fst e3
    exact Nat.lt_irrefl _ (e4 ▸ this)) (ok1.g.fresh1 (Nat.le_refl _)) c3 c4 (by rw [List.reverse_reverse]; exact hr) (by simp)
 exact hQ _ _ _ _ _ _ ⟨List.prefix_append ..,Fz.le_addL⟩ o1 o2 c2
end
theorem BI (elt t1 i1 t2 i2:Ex) (scope:Scope) (pos:Pos) (it acc:Value) (env:Env) :
  compTurn (.ListComp elt [⟨t1,i1,[],0⟩,⟨t2,i2,[],0⟩] scope pos) 1 it acc env=(standAt i2.pos >>= fun _=>pyNext it >>= fun r=>match r with
   | none=>pure (.done .next)
   | some v=>letOwnedTupleGo t2 it v >>= fun _=>assign t2 env v >>= fun _ =>
    (eval elt env >>= fun x=>call (.builtin "list.append") [acc,x] >>= fun _=>pure ()) >>= fun _ =>
     again (.compLoop (.ListComp elt [⟨t1,i1,[],0⟩,⟨t2,i2,[],0⟩] scope pos) 1 it acc env)):=by rfl
theorem wY (elt t1 i1 t2 i2:Ex) (scope:Scope) (pos:Pos) (it acc:Value) (env:Env) :
  compTurn (.ListComp elt [⟨t1,i1,[],0⟩,⟨t2,i2,[],0⟩] scope pos) 0 it acc env=(standAt i1.pos >>= fun _=>pyNext it >>= fun r=>match r with
   | none=>pure (.done .next)
   | some v=>letOwnedTupleGo t1 it v >>= fun _=>assign t1 env v >>= fun _ =>
    eval i2 env >>= fun x=>standAt i2.pos >>= fun _=>foldedSetIterable i2 env x >>= fun x=>(holding [x] (pyIter x)) >>= fun it2 =>
     runOwn (.compStart (.ListComp elt [⟨t1,i1,[],0⟩,⟨t2,i2,[],0⟩] scope pos) 1 it2 acc env) env >>= fun _ =>
     again (.compLoop (.ListComp elt [⟨t1,i1,[],0⟩,⟨t2,i2,[],0⟩] scope pos) 0 it acc env)):=by rfl
theorem ya {prog:Program} {w:World} {A:Around} {R:Result->Shared->Prop} {s:Shared} {elt t1 i1 t2 i2:Ex} {scope:Scope} {pos:Pos} {it acc:Value} {env:Env}
  (h0:codeAny (model prog w) A (.compLoop (.ListComp elt [⟨t1,i1,[],0⟩,⟨t2,i2,[],0⟩] scope pos) 1 it acc env) R s)
  (h:wpAny (model prog w) A (pyIter it) (fun it' s'=>codeAny (model prog w) A (.compLoop (.ListComp elt [⟨t1,i1,[],0⟩,⟨t2,i2,[],0⟩] scope pos) 1 it' acc env) R s')
   (notedBy (model prog w) A env fun x s'=>R (.error x) s') s) :
  codeAny (model prog w) A (.compStart (.ListComp elt [⟨t1,i1,[],0⟩,⟨t2,i2,[],0⟩] scope pos) 1 it acc env) R s:=by
 refine codeAny_of_tree ?_
 show wpAny _ _ ((compStart (.ListComp elt [⟨t1,i1,[],0⟩,⟨t2,i2,[],0⟩] scope pos) 1 it acc env).onRaise (fun x=>do noteFrame x env; standAt theWindowsPlace)) _ _ s
 refine wpAny_notedAt ?_
 unfold compStart
 refine (?_:wpAny _ _ (ask >>= _) _ _ s)
 refine ZB (wpAny_askSetting (wpAny_ite ?_))
 split
 ·first
   | exact ZB (ZP (ZP (And.intro rfl h0)))
   | exact ZP (And.intro rfl h0)
 ·first
   | exact ZB (wpAny_rule (ZB (wpAny_standAt (ZB (wpAny_mono h (fun it' s' h'=>ZP (And.intro rfl h')) fun _ _ x=>x)))))
   | (refine ZB (wpAny_rule ?_); show wpAny _ _ (standAt i2.pos >>= _) _ _ s; exact ZB (wpAny_standAt (ZB (wpAny_mono h (fun it' s' h'=>ZP (And.intro rfl h')) fun _ _ x=>x))))
section
variable {C:Cx} {X X':Sc} {B B':Bz} {f:Fm} {env cenv:Env} {ρ:List Addr} {Z:Fz} {H H':HP} {s s':Shared} {A:Around}
noncomputable abbrev iJ (vs:List Value) (ep:Nat):Obj:={ cls:=.type "list",data:=.seq vs.toArray ep }
def Gg {I:Type} (nx:I->HP->(AV->I->HP->Bool)->(HP->Bool)->Bool) (a:DA) (de:D) (dp:Nat) (k:Fm->List AV->HP->Bool) (fuel:Nat):I->Fm->HP->List AV->Bool :=
 @Nat.rec (fun _=>I->Fm->HP->List AV->Bool) (fun _ _ _ _=>false) (fun _ ih i f H rx=>nx i H (fun v i H=>a v f H fun f H=>de dp f H fun x H=>ih i f H (x :: rx)) (fun H=>k f rx H)) fuel
def tS {I J:Type} (nx:I->HP->(AV->I->HP->Bool)->(HP->Bool)->Bool) (a:DA) (di:Nat->Fm->HP->(J->HP->Bool)->Bool) (nx2:J->HP->(AV->J->HP->Bool)->(HP->Bool)->Bool) (a2:DA) (de:D) (dp:Nat) (k:List AV->HP->Bool) (fuel:Nat):I->Fm->HP->List AV->Bool :=
 @Nat.rec (fun _=>I->Fm->HP->List AV->Bool) (fun _ _ _ _=>false) (fun _ ih i f H rx=>nx i H (fun v i H=>a v f H fun f H=>di dp f H fun j H=>Gg nx2 a2 de dp (fun f rx H=>ih i f H rx) 100 j f H rx) (fun H=>k rx H)) fuel
theorem uJ {J:Type} {rel:J->List Addr->Fz->Value->List (Addr × Obj)->Prop} {nx:J->HP->(AV->J->HP->Bool)->(HP->Bool)->Bool} {elt t1 i1 t2 i2:Ex} {scope:Scope} {pos:Pos} {a:DA} {de:D}
  (hI:ItOK C rel nx) (ha:AS C X' (assign t2) a) (he:SE C X' elt de) {dp:Nat} {k:Fm->List AV->HP->Bool} {it:Value} {D:Addr} {R:Result->Shared->Prop} {N:Nat} (hN:N≤100000)
  {ρ₀:List Addr} {Z₀:Fz} (hR:∀ ρ' Z' f' rx H' s' vs ep,Ext ρ₀ Z₀ ρ' Z'->OK C X' B' f' cenv ρ' Z' H' s'->Pv B' cenv.locals ρ' Z' s' [(D,iJ vs ep)]->VRs C.σ ρ' Z' rx.reverse vs->rx.length≤N->k f' rx H'=true->R (.ok .next) s')
  {n:Nat} {j:J} {f':Fm} {rx:List AV} {vs:List Value} {ep:Nat} {P:List (Addr × Obj)} (hd:Gg nx a de dp k n j f' H rx=true) (hA:AOk dp A) (eq0:Ext ρ₀ Z₀ ρ Z) (ok:OK C X' B' f' cenv ρ Z H s) (hD:Pv B' cenv.locals ρ Z s [(D,iJ vs ep)])
  (hP:Pv (BP B' [(D,iJ vs ep)]) cenv.locals ρ Z s P) (hr:rel j ρ Z it P) (hv:VRs C.σ ρ Z rx.reverse vs) (hlen:rx.length+n≤N) :
  codeAny (model C.prog C.w) A (.compLoop (.ListComp elt [⟨t1,i1,[],0⟩,⟨t2,i2,[],0⟩] scope pos) 1 it (.ref D) cenv) R s:=by
 refine codeAny_loop rfl (fun n s'=>∃ i f' H' ρ' Z' P' rx vs ep,Gg nx a de dp k n i f' H' rx=true∧Ext ρ₀ Z₀ ρ' Z'∧OK C X' B' f' cenv ρ' Z' H' s'∧Pv B' cenv.locals ρ' Z' s' [(D,iJ vs ep)] ∧
  Pv (BP B' [(D,iJ vs ep)]) cenv.locals ρ' Z' s' P'∧rel i ρ' Z' it P'∧VRs C.σ ρ' Z' rx.reverse vs∧rx.length+n≤N) ?_ n (vH j f' H ρ Z P rx vs ep hd eq0 ok hD hP hr hv hlen)
 intro n s₁ zr23_2
 nomatch Ze4 zr23_2,zr23_2,hlen
 intro i fq1 H₁ ρ₁ zw0
 nomatch Ze4 zw0,zw0
 intro Z₁ Pq1 rx vs zw1
 nomatch cJ zw1,zw1
 intro ep hdq1 e₁ ok₁ zw2
 nomatch Za4 zw2,zw2
 intro hDq1 hP1 hrq1 hv₁ hlen
 show wpAny _ A ((compTurn (.ListComp elt [⟨t1,i1,[],0⟩,⟨t2,i2,[],0⟩] scope pos) 1 it (.ref D) cenv).onRaise (fun x=>do noteFrame x cenv; theTreesLotGoes x)) _ _ s₁
 refine wpAny_noted ?_
 rw [BI]
 induction n using Nat.casesAuxOn with
 | zero=>exact ffE hdq1
 | succ n =>
  generalize hob:iJ vs ep=ob at hDq1 hP1
  have okD:=ok₁.priv hDq1
  have hDm:=hDq1 _ (List.mem_singleton.mpr rfl)
  have unD:∀ {f ρ Z H s},OK C X' (BP B' [(D,ob)]) f cenv ρ Z H s->OK C X' B' f cenv ρ Z H s∧Pv B' cenv.locals ρ Z s [(D,ob)]:=fun h=>h.unpriv ok₁.g.base fun p hp o=>(hDq1 p hp).2.2.1 o
  refine ZB (wpAny_standAt (ZB ?_))
  refine hI.next _ _ _ _ _ _ _ _ _ _ _ _ _ _ _ hdq1 hA okD hP1 hrq1 _ _ (fun sq2 ok₂ hdq2=>?_) (fun ρ2 Z₂ H₂ sq2 i' P' av v e₂ ok₂ hp2 hr₂ rv2 hdq2=>?_)
  ·refine Za1 (unD ok₂) fun u1 u2=>?_
   clear hDq1 hP1 okD hDm unD ok₂
   subst hob
   exact ZP (hR _ _ _ _ _ _ vs ep e₁ u1 u2 hv₁ (by omega) hdq2)
  ·refine da (hI.own hr₂) fun a' o' nm q1 q2 q3 q4=>?_
   clear hr hrq1
   subst q1
   refine ZB (kX (hp2 _ q2).1 q3 q4 ?_)
   have okp:=ok₂.priv hp2
   refine ZB (ha _ _ _ _ _ _ _ _ _ _ _ _ hdq2 hA okp rv2 _ _ fun fq3 H3 s₃ ok₃ hdq3=>?_)
   refine ZB (ZB (he _ _ _ _ _ _ _ _ _ _ hdq3 hA ok₃ _ _ fun ρ5 Z5 H5 s₅ x y eq5 ok₅ rq5 hdq5=>?_))
   refine Za1 (ok₅.unpriv okD.g.base fun p hp o=>(hp2 p hp).2.2.1 o) fun u1 u2=>?_
   refine Za1 (unD u1) fun u3 u4=>?_
   refine Za4 (u4 _ (List.mem_singleton.mpr rfl)) fun d1 d2 d3 d4 d5=>?_
   clear hDq1 hP1 okD hDm unD ok₂ hp2 okp ok₃ ok₅ u1 u4
   subst hob
   have hvl:vs.length=rx.length:=by rw [← hv₁.1,List.length_reverse]
   refine ZB (call_meets F.slot_list_append ⟨_,d1,rfl⟩ F.entry_list_append (F.args_list_append_2 _ _) (list_append D vs.toArray ep y (by rw [List.size_toArray,hvl,sizeLine_eq]; omega)) ⟨d1,?_⟩)
   have hup:IsL (s₅.heap.update D (Obj.mapSeq (·.push y))) D (vs++[y]).toArray (ep+1):=by
    have:=IsL.update d1 (·.push y)
    simpa using this
   have u5:OK C X' B' fq3 cenv ρ5 Z5 H5 { s₅ with heap:=s₅.heap.update D (Obj.mapSeq (·.push y)) }:=u3.extBut (Heap.SameBut.update ..).extBut d2 d3 d4 d5
   refine ZP (ZP ⟨rfl,n,Nat.lt_succ_self _,i',fq3,H5,ρ5,Z5,P',x :: rx,vs++[y],ep+1,hdq5,(e₁.trans e₂).trans eq5,u5,fun p hp=>?_,fun p hp=>?_,hI.mono eq5 hr₂,?_,by simp only [List.length_cons]; omega⟩)
   ·rw [List.mem_singleton.mp hp]
    exact ⟨hup,d2,d3,d4,d5⟩
   ·nomatch Za4 (u2 p hp),u2,hp
    intro x1 x2 x3 x4 x5
    have hpD:p.1 ≠ D:=fun e=>x3 (iJ vs ep) (.inr (by rw [e]; exact List.mem_singleton.mpr rfl))
    refine ⟨(Heap.get?_update_other _ _ (Ne.symm hpD)).trans x1,x2,fun o hb=>?_,x4,x5⟩
    rcases hb with hb | hb
    ·exact x3 o (.inl hb)
    ·have:=List.mem_singleton.mp hb
     cases this
     exact hpD rfl
   ·rw [List.reverse_cons]
    exact (hv₁.ext (e₂.trans eq5)).append (.cons rq5 .nil)
theorem Pv.weak {L:Addr} {P Q:List (Addr × Obj)} (h:Pv (BP B Q) L ρ Z s P):Pv B L ρ Z s P:=fun p hp=>let ⟨a,b,c,d,e⟩:=h p hp; ⟨a,b,fun o x=>c o (.inl x),d,e⟩
theorem Pv.off {L:Addr} {P Q:List (Addr × Obj)} (h:Pv B L ρ Z s P) (hq:∀ p∈P,∀ q∈Q,p.1 ≠ q.1):Pv (BP B Q) L ρ Z s P:=fun p hp=>by
 nomatch Za4 (h p hp),h
 intro a b c d e
 refine ⟨a,b,fun o x=>?_,d,e⟩
 rcases x with x | x
 ·exact c o x
 ·exact hq p hp _ x rfl
theorem Pv.apart {L:Addr} {P Q:List (Addr × Obj)} (h:Pv (BP B Q) L ρ Z s P):∀ p∈P,∀ q∈Q,p.1 ≠ q.1:=fun p hp q hq e=>(h p hp).2.2.1 q.2 (.inr (by rw [e]; exact hq))
theorem uS {I J:Type} {rel1:I->List Addr->Fz->Value->List (Addr × Obj)->Prop} {nx1:I->HP->(AV->I->HP->Bool)->(HP->Bool)->Bool} {rel:J->List Addr->Fz->Value->List (Addr × Obj)->Prop} {nx:J->HP->(AV->J->HP->Bool)->(HP->Bool)->Bool}
  {elt t1 i1 t2 i2:Ex} {scope:Scope} {pos:Pos} {aq1 a:DA} {di:Nat->Fm->HP->(J->HP->Bool)->Bool} {de:D}
  (hI₁:ItOK C rel1 nx1) (ha1:AS C X' (assign t1) aq1) (hdi:SI C X' rel i2 di) (hI:ItOK C rel nx) (ha:AS C X' (assign t2) a) (he:SE C X' elt de) (hf:∀ env x,foldedSetIterable i2 env x=pure x)
  {dp:Nat} {k:List AV->HP->Bool} {i:I} {f':Fm} {it:Value} {P:List (Addr × Obj)} {D:Addr} {R:Result->Shared->Prop}
  (hd:tS nx1 aq1 di nx a de dp k 100 i f' H []=true) (hA:AOk dp A) (ok:OK C X' B' f' cenv ρ Z H s) (hD:Pv B' cenv.locals ρ Z s [(D,iJ [] 0)]) (hP:Pv (BP B' [(D,iJ [] 0)]) cenv.locals ρ Z s P) (hr:rel1 i ρ Z it P)
  (hR:∀ ρ' Z' f' rx H' s' vs ep,Ext ρ Z ρ' Z'->OK C X' B' f' cenv ρ' Z' H' s'->Pv B' cenv.locals ρ' Z' s' [(D,iJ vs ep)]->VRs C.σ ρ' Z' rx.reverse vs->rx.length≤20000->k rx H'=true->R (.ok .next) s') :
  codeAny (model C.prog C.w) A (.compLoop (.ListComp elt [⟨t1,i1,[],0⟩,⟨t2,i2,[],0⟩] scope pos) 0 it (.ref D) cenv) R s:=by
 refine codeAny_loop rfl (fun n s'=>∃ i f' H' ρ' Z' P' rx vs ep,tS nx1 aq1 di nx a de dp k n i f' H' rx=true∧Ext ρ Z ρ' Z'∧OK C X' B' f' cenv ρ' Z' H' s'∧Pv B' cenv.locals ρ' Z' s' [(D,iJ vs ep)] ∧
  Pv (BP B' [(D,iJ vs ep)]) cenv.locals ρ' Z' s' P'∧rel1 i ρ' Z' it P'∧VRs C.σ ρ' Z' rx.reverse vs∧rx.length+100 * n≤20000) ?_ 100 (vH i f' H ρ Z P ([]) ([]) 0 hd (Ext.refl ..) ok hD hP hr .nil (by simp))
 intro n s₁ zr24_2
 nomatch Ze4 zr24_2,zr24_2
 intro i fq1 H₁ ρ₁ zw0
 nomatch Ze4 zw0,zw0
 intro Z₁ Pq1 rx vs zw1
 nomatch cJ zw1,zw1
 intro ep hdq1 e₁ ok₁ zw2
 nomatch Za4 zw2,zw2
 intro hDq1 hP1 hrq1 hv₁ hlen
 show wpAny _ A ((compTurn (.ListComp elt [⟨t1,i1,[],0⟩,⟨t2,i2,[],0⟩] scope pos) 0 it (.ref D) cenv).onRaise (fun x=>do noteFrame x cenv; theTreesLotGoes x)) _ _ s₁
 refine wpAny_noted ?_
 rw [wY]
 induction n using Nat.casesAuxOn with
 | zero=>exact ffE hdq1
 | succ n =>
  have okD:=ok₁.priv hDq1
  have unD:∀ {f ρ Z H s},OK C X' (BP B' [(D,iJ vs ep)]) f cenv ρ Z H s->OK C X' B' f cenv ρ Z H s∧Pv B' cenv.locals ρ Z s [(D,iJ vs ep)]:=fun h=>h.unpriv ok₁.g.base fun p hp o=>(hDq1 p hp).2.2.1 o
  refine ZB (wpAny_standAt (ZB ?_))
  refine hI₁.next _ _ _ _ _ _ _ _ _ _ _ _ _ _ _ hdq1 hA okD hP1 hrq1 _ _ (fun sq2 ok₂ hdq2=>?_) (fun ρ2 Z₂ H₂ sq2 i' P' av v e₂ ok₂ hp2 hr₂ rv2 hdq2=>?_)
  ·refine Za1 (unD ok₂) fun u1 u2=>?_
   exact ZP (hR _ _ _ _ _ _ vs ep e₁ u1 u2 hv₁ (by omega) hdq2)
  ·refine da (hI₁.own hr₂) fun a' o' nm q1 q2 q3 q4=>?_
   clear hr hrq1
   subst q1
   refine ZB (kX (hp2 _ q2).1 q3 q4 ?_)
   have okp:=ok₂.priv hp2
   refine ZB (ha1 _ _ _ _ _ _ _ _ _ _ _ _ hdq2 hA okp rv2 _ _ fun fq3 H3 s₃ ok₃ hdq3=>?_)
   refine ZB (wpAny_mono (hdi _ _ _ _ _ _ _ _ _ _ hdq3 hA ok₃ _ _ fun ρ4 Z4 H4 s4 j P2 it2 e₄ ok₄ hp4 hr4 hdq4=>?_) (fun x s4 h₄=>ZB (wpAny_standAt (ZB (wpAny_of_eq (hf cenv x) (ZB (wpAny_holding h₄)))))) fun _ _ e=>e)
   refine Za1 (ok₄.unpriv okD.g.base fun p hp o=>(hp2 p hp).2.2.1 o) ?_
   clear okD hp2 ok₄
   intro u1 u2
   nomatch Za1 (unD u1),unD,u1
   intro u3 u4
   have okI:=u3.priv u2.weak
   have hDI:Pv (BP B' P') cenv.locals ρ4 Z4 s4 [(D,iJ vs ep)]:=u4.off fun p hp q hq=>(Pv.apart u2 q hq p hp).symm
   have hPI:Pv (BP (BP B' P') [(D,iJ vs ep)]) cenv.locals ρ4 Z4 s4 P2:=fun p hp=>by
    nomatch Za4 (hp4 p hp),hp4,hp
    intro x1 x2 x3 x4 x5
    refine ⟨x1,x2,fun o x=>?_,x4,x5⟩
    rcases x with (x | x) | x
    ·exact x3 o (.inl (.inl x))
    ·exact x3 o (.inr x)
    ·exact x3 o (.inl (.inr x))
   refine ZB (wpAny_runOwn ?_)
   have loop:=uJ (t1:=t1) (i1:=i1) (i2:=i2) (scope:=scope) (pos:=pos) (it:=it2) (N:=rx.length+100) (ρ₀:=ρ4) (Z₀:=Z4) (n:=100) (R:=fun r s'=>match r with
     | .ok f=>wpAny (model C.prog C.w) (A.under (.compLoop (.ListComp elt [⟨t1,i1,[],0⟩,⟨t2,i2,[],0⟩] scope pos) 0 (.ref a') (.ref D) cenv)) (again (.compLoop (.ListComp elt [⟨t1,i1,[],0⟩,⟨t2,i2,[],0⟩] scope pos) 0 (.ref a') (.ref D) cenv)) (fun fin s'=>match fin with
      | .done f=>R (.ok f) s'
      | .again c'=>c'=(.compLoop (.ListComp elt [⟨t1,i1,[],0⟩,⟨t2,i2,[],0⟩] scope pos) 0 (.ref a') (.ref D) cenv)∧∃ m,m<n+1∧∃ i f' H' ρ' Z' P' rx vs ep,tS nx1 aq1 di nx a de dp k m i f' H' rx=true∧Ext ρ Z ρ' Z'∧OK C X' B' f' cenv ρ' Z' H' s'∧Pv B' cenv.locals ρ' Z' s' [(D,iJ vs ep)] ∧
       Pv (BP B' [(D,iJ vs ep)]) cenv.locals ρ' Z' s' P'∧rel1 i ρ' Z' (.ref a') P'∧VRs C.σ ρ' Z' rx.reverse vs∧rx.length+100 * m≤20000) (notedBy (model C.prog C.w) A cenv fun e s'=>R (.error e) s') s'
     | .error e=>cameBackBy (model C.prog C.w) A cenv (notedBy (model C.prog C.w) A cenv fun e s'=>R (.error e) s') e s') hI ha he (by omega) (fun ρ5 Z5 fq5 rx5 H5 s₅ vsq5 ep5 eq5 ok₅ hD₅ hv5 hl5 hk5=>?_) hdq4 hA (Ext.refl ..) okI hDI hPI hr4 (hv₁.ext (e₂.trans e₄)) (by omega)
   ·exact ya loop (hI.self hr4 _ _ _ _ (fun p hp=>(hp4 p hp).1) loop)
   ·refine Za1 (ok₅.unpriv u3.g.base fun p hp o=>(u2.weak p hp).2.2.1 o) fun w1 w2=>?_
    refine ZP ⟨rfl,n,Nat.lt_succ_self _,i',fq5,H5,ρ5,Z5,P',rx5,vsq5,ep5,hk5,((e₁.trans e₂).trans e₄).trans eq5,w1,hD₅.weak,w2.off fun p hp q hq=>(Pv.apart hD₅ q hq p hp).symm,hI₁.mono (e₄.trans eq5) hr₂,hv5,by omega⟩
structure Done2 (C:Cx) (X':Sc) (B':Bz) (cenv:Env) (D:Addr) (ρ:List Addr) (Z:Fz) (rx:List AV) (H':HP) (s':Shared):Prop where
 ex:∃ ρ' Z' f' vs ep,Ext ρ Z ρ' Z'∧OK C X' B' f' cenv ρ' Z' H' s'∧Pv B' cenv.locals ρ' Z' s' [(D,{ cls:=.type "list",data:=.seq (vs:List Value).toArray ep })]∧VRs C.σ ρ' Z' rx.reverse vs∧rx.length≤20000
theorem sE {I J:Type} {rel:I->List Addr->Fz->Value->List (Addr × Obj)->Prop} {nx:I->HP->(AV->I->HP->Bool)->(HP->Bool)->Bool} {rel2:J->List Addr->Fz->Value->List (Addr × Obj)->Prop} {nxq2:J->HP->(AV->J->HP->Bool)->(HP->Bool)->Bool} {elt t1 i1 t2 i2:Ex} {scope:Scope} {pos:Pos} {a aq2:DA} {di:Nat->Fm->HP->(J->HP->Bool)->Bool} {de:D}
  {tab ctab:List Str} {clay cel:List Nat} {nl:List (Option AV)} (hC:CompOK X scope ctab clay) (hnl:∀ (k:Nat) v,nl[k]?=some v->v=none)
  (hI:ItOK C rel nx) (ha:AS C ⟨ba scope X.sc,tab,ctab,X.cd,X.qual⟩ (assign t1) a) (hdi:SI C ⟨ba scope X.sc,tab,ctab,X.cd,X.qual⟩ rel2 i2 di) (hIq2:ItOK C rel2 nxq2) (ha2:AS C ⟨ba scope X.sc,tab,ctab,X.cd,X.qual⟩ (assign t2) aq2) (hf:∀ env x,foldedSetIterable i2 env x=pure x) (he:SE C ⟨ba scope X.sc,tab,ctab,X.cd,X.qual⟩ elt de)
  {dp:Nat} {k:List AV->HP->Bool} {i:I} {it:Value} {P:List (Addr × Obj)} {RR:Value->Addr->Result->Shared->Prop} {E:Value->Shared->Prop}
  (hd:tS nx a di nxq2 aq2 de dp k 100 i ⟨nl,cel⟩ H []=true) (hA:AOk dp A) (ok:OK C X B f env ρ Z H s) (hP:Pv B env.locals ρ Z s P) (hr:rel i ρ Z it P) (hcel:cel.length=clay.length∧∀ (n i j:Nat),clay[n]?=some i->cel[n]?=some j->f.cel[i]?=some j)
  {o:Obj} (ho:s.heap.get? env.locals=some o)
  (hRR:∀ D rx H' s' L,D ≠ 1->Done2 C ⟨ba scope X.sc,tab,ctab,X.cd,X.qual⟩ (B.add env.locals o) (compEnvC scope (dr env scope.names) L env) D ρ Z rx H' s'->k rx H'=true->RR (.ref D) L (.ok .next) s') :
  wpAny (model C.prog C.w) A (newList []) (fun acc s₃=>wpAny (model C.prog C.w) A (newFunctionEnv scope env.globals (dr env scope.names) [] env.qual none .none (some env)) (fun cenv s4 =>
   codeAny (model C.prog C.w) A (.compStart (.ListComp elt [⟨t1,i1,[],0⟩,⟨t2,i2,[],0⟩] scope pos) 0 it acc { cenv with scope:=relabel scope env }) (RR acc cenv.locals) s4) E s₃) E s:=by
 refine wpAny_newObj_type (wpAny_newFunctionEnv hC.nocell (by intro y hy; simp at hy) (fun h₁ hns1 hsb₁=>?_) hC.kind)
 dsimp only at hns1 hsb₁ ⊢
 generalize hH2:s.heap.push { cls:=.type "list",dict:=none,data:=.seq ([]:List Value).toArray } = H2 at hns1 hsb₁ ⊢
 have hCL:H2.objs.size=s.heap.objs.size+1:=by rw [← hH2,Heap.size_push]
 have hDC:s.heap.objs.size ≠ H2.objs.size:=by rw [hCL]; exact Nat.ne_of_lt (Nat.lt_succ_self _)
 have old:∀ b o,s.heap.get? b=some o->h₁.get? b=some o:=fun b o e=>hsb₁.extBut b o (by rw [hCL]; exact Nat.ne_of_lt (Nat.lt_succ_of_lt (Heap.lt_size e))) (Heap.get?_push_of_some _ (hH2 ▸ Heap.get?_push_of_some _ e))
 have hacc:IsL h₁ s.heap.objs.size #[] 0:=hsb₁.extBut _ _ hDC (Heap.get?_push_of_some _ (hH2 ▸ Heap.get?_push_size _ rfl))
 have ok₁:=ok.enterC (tab:=tab) (ctab:=ctab) (nl:=nl) (cel:=cel) (t:=s.toks+([]:List (Str × Value)).length) hC ho hcel hnl (L:=H2.objs.size) (by rw [hCL]; exact Nat.le_succ _) old (Nat.le_add_right _ _) hns1
 refine Za3 (ok.fresh (Nat.le_refl s.heap.objs.size)) fun f1 f2 f3 f4=>?_
 have hDP:Pv (B.add env.locals o) H2.objs.size ρ Z { s with heap:=h₁,toks:=s.toks+([]:List (Str × Value)).length } [(s.heap.objs.size,{ cls:=.type "list",data:=.seq #[] })]:=by
  intro p hp
  rw [List.mem_singleton.mp hp]
  refine ⟨hacc,f1,?_,f3,hDC⟩
  rintro o' (e | ⟨e,rfl⟩)
  ·exact f2 _ e
  ·exact f4 e
 have hPP:Pv (BP (B.add env.locals o) [(s.heap.objs.size,{ cls:=.type "list",data:=.seq #[] })]) H2.objs.size ρ Z { s with heap:=h₁,toks:=s.toks+([]:List (Str × Value)).length } P:=by
  intro p hp
  nomatch Za4 (hP p hp),hP,hp
  intro p1 p2 p3 p4 p5
  have hlt:=Heap.lt_size p1
  refine ⟨old _ _ p1,p2,?_,p4,by rw [hCL]; exact Nat.ne_of_lt (Nat.lt_succ_of_lt hlt)⟩
  rintro o' ((e | ⟨e,rfl⟩) | e)
  ·exact p3 _ e
  ·exact p5 e
  ·have:=List.mem_singleton.mp e
   have e2:p.1=s.heap.objs.size:=congrArg Prod.fst this
   exact Nat.ne_of_lt hlt e2
 have loop:codeAny (model C.prog C.w) A (.compLoop (.ListComp elt [⟨t1,i1,[],0⟩,⟨t2,i2,[],0⟩] scope pos) 0 it (.ref s.heap.objs.size) (compEnvC scope (dr env scope.names) H2.objs.size env)) (RR (.ref s.heap.objs.size) H2.objs.size) { s with heap:=h₁,toks:=s.toks+([]:List (Str × Value)).length } :=
  uS (cenv:=compEnvC scope (dr env scope.names) H2.objs.size env) hI ha hdi hIq2 ha2 he hf hd hA ok₁ hDP hPP hr fun ρ' Z' f' rx H' s' vs ep e₁ ok₂ hD2 hvq2 hlq2 hk=>hRR _ rx H' s' _ (ok.g.fresh1 (Nat.le_refl _)) (.mk<|zm ρ' Z' f' vs ep e₁ ok₂ hD2 hvq2 hlq2) hk
 exact codeAny_compStart_list loop (hI.self hr _ _ _ _ (fun p hp=>(hPP p hp).1) loop)
theorem Done2.back {tab ctab:List Str} {scope:Scope} {o:Obj} (ok:OK C X B f env ρ Z H s) (ho:s.heap.get? env.locals=some o) {D L:Addr} {rx:List AV}
  (hd:Done2 C X' (B.add env.locals o) (compEnvC scope (dr env scope.names) L env) D ρ Z rx H' s') :
  ∃ ρ' Z' vs ep m,Ext ρ Z ρ' Z'∧OK C X B f env ρ' Z' H' s'∧s'.heap.Ns L m∧(L ∉ ρ'∧(∀ o,¬ B L o)∧(∀ o,¬ Z'.ob L o)∧L ≠ env.locals)∧IsL s'.heap D (vs:List Value).toArray ep∧(D ∉ ρ'∧(∀ o,¬ B D o)∧(∀ o,¬ Z'.ob D o)∧D ≠ env.locals)∧D ≠ L∧VRs C.σ ρ' Z' rx.reverse vs:=by
 refine Ze4 hd.ex fun ρ' Z' f' vs zw0=>?_
 refine cJ zw0 fun ep e ok' hD zw1=>?_
 refine Za1 zw1 fun hv _=>?_
 refine ad ok'.f.ns fun m hm _=>?_
 refine Za4 (hD _ (List.mem_singleton.mpr rfl)) fun d1 d2 d3 d4 d5=>?_
 have hLl:L ≠ env.locals:=fun h=>ok'.g.lb o (h ▸ Bz.add_here)
 exact (qv ρ' Z' vs ep m e (ok.leave ho e.p e.z ok'.g) hm ⟨ok'.g.lρ,fun o' hb=>ok'.g.lb o' (.inl hb),ok'.g.lz,hLl⟩ d1 ⟨d2,fun o' hb=>d3 o' (.inl hb),d4,fun h=>d3 o (h ▸ Bz.add_here)⟩ d5 hv)
def CR {I J:Type} (nx:I->HP->(AV->I->HP->Bool)->(HP->Bool)->Bool) (dq1:Nat->Fm->HP->(I->HP->Bool)->Bool) (nl:List (Option AV)) (clay:List Nat) (a:DA) (di:Nat->Fm->HP->(J->HP->Bool)->Bool) (nxq2:J->HP->(AV->J->HP->Bool)->(HP->Bool)->Bool) (aq2:DA) (de:D):D :=
 fun dp f H k=>lO clay f.cel fun cel=>dq1 dp f H fun i H=>tS nx a di nxq2 aq2 de dp (fun rx H=>jO rx 0 fun n=>H.push (.list n rx) fun j H=>k (.ref j) H) 100 i ⟨nl,cel⟩ H []
theorem B5 {I J:Type} {rel:I->List Addr->Fz->Value->List (Addr × Obj)->Prop} {nx:I->HP->(AV->I->HP->Bool)->(HP->Bool)->Bool} {rel2:J->List Addr->Fz->Value->List (Addr × Obj)->Prop} {nxq2:J->HP->(AV->J->HP->Bool)->(HP->Bool)->Bool} {elt t1 i1 t2 i2:Ex} {scope:Scope} {pos:Pos} {a aq2:DA} {de:D}
  {dq1:Nat->Fm->HP->(I->HP->Bool)->Bool} {di:Nat->Fm->HP->(J->HP->Bool)->Bool} {tab ctab:List Str} {clay:List Nat} {nl:List (Option AV)} (hC:CompOK X scope ctab clay) (hnl:∀ (k:Nat) v,nl[k]?=some v->v=none)
  (hI:ItOK C rel nx) (hi:SI C X rel i1 dq1) (ha:AS C ⟨ba scope X.sc,tab,ctab,X.cd,X.qual⟩ (assign t1) a) (hdi:SI C ⟨ba scope X.sc,tab,ctab,X.cd,X.qual⟩ rel2 i2 di) (hIq2:ItOK C rel2 nxq2) (ha2:AS C ⟨ba scope X.sc,tab,ctab,X.cd,X.qual⟩ (assign t2) aq2) (he:SE C ⟨ba scope X.sc,tab,ctab,X.cd,X.qual⟩ elt de)
  (hs:∀ env x,foldedSetIterable i1 env x=pure x) (hf:∀ env x,foldedSetIterable i2 env x=pure x):SE C X (.ListComp elt [⟨t1,i1,[],0⟩,⟨t2,i2,[],0⟩] scope pos) (CR nx dq1 nl clay a di nxq2 aq2 de):=by
 intro dp f H k A env B ρ Z s hd hA ok Q E hQ
 refine ad (eK hd) fun cel hd' hcel=>?_
 refine (?_:wpAny _ _ (eval (.ListComp elt [⟨t1,i1,[],0⟩,⟨t2,i2,[],0⟩] scope pos) env) _ _ _)
 rw [eval_ListComp]
 refine wpAny_comprehension_free (use:=none) rfl (hs env) (fU ok hC hcel) hC.kind hC.loc ?_
 refine hi _ _ _ _ _ _ _ _ _ _ hd' hA ok _ _ fun ρ₁ Z₁ H₁ s₁ i P it e₁ ok₁ hp1 hrq1 hdq1=>?_
 refine Ze1 ok₁.localsObj fun o ho=>?_
 refine sE hC hnl hI ha hdi hIq2 ha2 hf he hdq1 hA ok₁ hp1 hrq1 hcel ho fun D rx H₂ sq2 L hD1 hdone hk=>?_
 refine Ze4 (hdone.back (tab:=tab) (ctab:=ctab) ok₁ ho) fun ρ2 Z₂ vs ep zw0=>?_
 refine cJ zw0 fun m e₂ ok₂ hm zw1=>?_
 refine Za4 zw1 fun hL hDl hDf hDL hv=>?_
 refine ⟨m,hm,fun h' hs'=>?_⟩
 have ok₃:=ok₂.extBut hs'.extBut hL.1 hL.2.1 hL.2.2.1 hL.2.2.2
 rw [dL,Nat.add_zero] at hk
 refine aU (HP.push_spec hk) fun H' g1 g2 g3=>?_
 refine Za1 (ok₃.adoptL (n:=rx.length) (rx:=rx) (hs'.extBut _ _ hDL hDl) hDf hD1 g2 g3 hv rfl) fun o1 o2=>?_
 exact hQ _ _ _ _ _ _ ((e₁.trans e₂).trans Ext.snoc) o1 o2 g1
end
end Mine
namespace Mine
open PySem PySem.W PySem.Calls PyProof.Rows MeetsSeq Builtin.Str
section
variable {C:Cx} {X:Sc} {B:Bz} {f:Fm} {env:Env} {ρ:List Addr} {Z:Fz} {H H':HP} {s:Shared} {A:Around}
theorem FL {n:Nat} (h:n<10):Str.ofString (toString (n:Int))=⟨#[48+n]⟩ :=
 (by decide +kernel:∀ n,n<10->Str.ofString (toString ((n:Nat):Int))=⟨#[48+n]⟩) n h
theorem nO {n:Nat} (h:n<10):((n:Int).natAbs).log2<1920 :=
 (by decide +kernel:∀ n,n<10->(((n:Nat):Int).natAbs).log2<1920) n h
def vM (v:AV) (k:Nat->Bool):Bool:=bk (bq v) fun i=>bk (natOf i) fun n=>aB (Nat.blt n 10) (aZ (Nat.add 48 n) k)
theorem nF {v:AV} {k:Nat->Bool} {w:Value} (h:vM v k=true) (r:VRel C.σ ρ Z v w):∃ (n:Nat) (t:Tok),w = .int (n:Int) t∧n<10∧k (48+n)=true:=by
 nomatch ad (al h),h
 intro i h1 h2
 nomatch ad (al h2),h2
 intro n h3 h4
 nomatch Za1 (af h4),h4
 intro h5 h6
 rw [aP] at h6
 rw [cW] at h5
 nomatch Ze1 (ar h1 r),r,h1
 intro t zq1
 subst zq1
 have:=aQ h3
 subst this
 exact (aK n t rfl (of_decide_eq_true h5) h6)
theorem jS (σ:Sig) (n:Nat):aw σ [.c n]=⟨#[n]⟩:=rfl
def Fs:DC:=fun args _ H k=>gY args fun a=>vM a fun d=>k (.str [.c d]) H
theorem DD:SC C (.type "str") 1 Fs:=by
 intro X dp f H k A env B ρ Z s args vals hc hA ok hv hlen Q E hQ
 nomatch ad (bD hc hlen),hc,hlen
 intro a zq1 h
 subst zq1
 nomatch ad hv.one,hv
 intro va zq1 ra
 subst zq1
 nomatch ay (nF h ra),h,ra
 intro n t zq2 hn h2
 subst zq2
 refine PySem.P.str_of_int (nO hn) ?_
 refine (?_:Q (.str (Str.ofString (toString (n:Int))) _) _)
 rw [FL hn,← jS C.σ]
 exact hQ _ _ _ _ _ _ (Ext.refl ..) (ok.tok _) (.str ..) h2
def IV (v:AV) (H:HP) (k:AV->HP->Bool):Bool:=orD (bq v) (bO v fun x=>jO x 0 fun n=>aB (Nat.ble n 100000) (k (.str x) H)) fun _=>vM v fun d=>k (.str [.c d]) H
def mL (d:D):D:=fun dp f H k=>d dp f H fun v H=>IV v H k
theorem gn {e:Ex} {pos:Pos} {d:D} (h:SE C X e d):SE C X (.FormattedValue e (-1) none pos) (mL d) :=
 fun dp f H k A env B ρ Z s hd hA ok Q E hQ=>FormattedValue_plain (h _ _ _ _ _ _ _ _ _ _ hd hA ok _ _ fun ρ₁ Z₁ H₁ s₁ v w e₁ ok₁ r₁ hdq1=>by
  change orD (bq v) (bO v fun x=>jO x 0 fun n=>aB (Nat.ble n 100000) (k (.str x) H₁)) (fun _=>vM v fun d=>k (.str [.c d]) H₁)=true at hdq1
  induction hi:bq v using Option.casesOn with
  | some i =>
   rw [hi] at hdq1
   nomatch ay (nF hdq1 r₁),r₁,hdq1
   intro n t zq2 hn h2
   subst zq2
   refine wpAny_formatField_int (nO hn) ?_
   refine (?_:Q (.str (Str.ofString (toString (n:Int))) _) _)
   rw [FL hn,← jS C.σ]
   exact hQ _ _ _ _ _ _ e₁ (ok₁.tok _) (.str ..) h2
  | none =>
   rw [hi] at hdq1
   nomatch ad (aC hdq1),hdq1
   intro x ix h0
   rw [dL,Nat.add_zero] at h0
   nomatch Za1 (af h0),h0
   intro h1 h2
   nomatch Ze1 (aA ix r₁),r₁,ix
   intro t zq1
   subst zq1
   refine wpAny_with_toks (n:=s₁.toks) (Nat.le_refl _) (formatField_str (fun t' tk ht=>hQ _ _ _ _ _ _ e₁ (ok₁.tok _ ht) (.str ..) h2) (u8 C (ZbL h1))))
noncomputable abbrev DJ:=Nat->Fm->HP->SS->(AV->HP->Bool)->Bool
noncomputable def SJ (C:Cx) (X:Sc) (es:List Ex) (d:DJ):Prop :=
 ∀ dp f H acc k A env B ρ Z s,d dp f H acc k=true->AOk dp A->OK C X B f env ρ Z H s->Wp C X B f env (RV C) ρ Z A (joinParts (aw C.σ acc) (evalEach es env)) s k
def mI:DJ:=fun _ _ H acc k=>tg acc k H
def cH (d:D) (r:DJ):DJ:=fun dp f H acc k=>d dp f H fun v H=>bO v fun y=>D9 acc y fun acc=>jO acc 0 fun n=>aB (Nat.ble n 100000) (r dp f H acc k)
theorem j4:SJ C X [] mI:=fun dp f H acc k A env B ρ Z s hd hA ok Q E hQ=>by
 refine Za1 (f9 hd) fun h1 h2=>?_
 exact joinParts_nil (hQ _ _ _ _ _ _ (Ext.refl ..) (ok.tok _) (.str ..) h2) (u8 C h1)
theorem b5 {e:Ex} {es:List Ex} {d:D} {r:DJ} (h1:SE C X e d) (h2:SJ C X es r) (he:∀ env,evalEach (e :: es) env=eval e env :: evalEach es env):SJ C X (e :: es) (cH d r) :=
 fun dp f H acc k A env B ρ Z s hd hA ok Q E hQ=>by
  rw [he]
  refine joinParts_cons (h1 _ _ _ _ _ _ _ _ _ _ hd hA ok _ _ fun ρ₁ Z₁ H₁ s₁ v w e₁ ok₁ r₁ hdq1=>?_)
  nomatch ad (aC hdq1),hdq1
  intro y iy h0
  rw [nC,dL,Nat.add_zero] at h0
  nomatch Za1 (af h0),h0
  intro h3 h4
  nomatch Ze1 (aA iy r₁),r₁,iy
  intro t zq1
  subst zq1
  refine (?_:(aw C.σ acc++aw C.σ y).length≤sizeLine∧_)
  rw [← eM]
  exact ⟨u8 C (ZbL h3),h2 _ _ _ _ _ _ _ _ _ _ _ h4 hA ok₁ Q E fun ρ2 Z₂ H₂ sq2 b a e₂ ok₂ r₂ hk=>hQ _ _ _ _ _ _ (e₁.trans e₂) ok₂ r₂ hk⟩
def gJ (d:DJ):D:=fun dp f H k=>d dp f H [] k
theorem fg {vq1 vq2:Ex} {rest:List Ex} {pos:Pos} {d:DJ} (h:SJ C X (vq1 :: vq2 :: rest) d):SE C X (.JoinedStr (vq1 :: vq2 :: rest) pos) (gJ d) :=
 fun dp f H k A env B ρ Z s hd hA ok Q E hQ=>JoinedStr_many (h _ _ _ _ _ _ _ _ _ _ _ hd hA ok Q E hQ)
def EM (m:Nat) (x:SS):(Bool->Bool)->Bool:=@List.rec SA (fun _=>(Bool->Bool)->Bool) (fun k=>k false) (fun a _ ih k=>@SA.rec (fun _=>Bool) (fun n=>br (ih k) (k true) (Nat.beq m n)) (fun _=>false) (fun _=>false) (fun _=>false) (fun _=>false) a) x
theorem yg {m:Nat} {x:SS}:∀ {k:Bool->Bool},EM m x k=true->k (decide (m∈txt C.σ x))=true:=by
 induction x with
 | nil=>intro k h; have e:EM m [] k=k false:=rfl; rw [e] at h; simpa [txt] using h
 | cons a x ih =>
  intro k h
  induction a using SA.casesOn with
  | c n =>
   change br (EM m x k) (k true) (Nat.beq m n)=true at h
   rw [eA] at h
   by_cases e:m=n
   ·rw [decide_eq_true e] at h
    rw [decide_eq_true (by rw [cP]; exact List.mem_append_left _ (by rw [e]; exact List.mem_singleton.mpr rfl))]
    exact h
   ·rw [decide_eq_false e] at h
    have h3:=ih h
    have:decide (m∈txt C.σ (SA.c n :: x))=decide (m∈txt C.σ x):=by
     apply decide_eq_decide.mpr
     rw [cP,List.mem_append]
     exact ⟨fun q=>q.resolve_left fun z=>e (List.mem_singleton.mp z),.inr⟩
    rw [this]; exact h3
  | _=>exact ffE h
def HK:P2:=fun a b H k=>jj a fun m=>bO b fun x=>EM m x fun c=>k (.bool c) H
theorem Gb:cK C (fun a b=>compareOp .In a b) HK:=by
 intro X dp f H k A env B ρ Z s a b va vb hd hA ok ra rb Q E hQ
 nomatch ad (dw hd),hd
 intro m zq1 h
 subst zq1
 nomatch ad (aC h),h
 intro x ix h0
 have h1:=yg (C:=C) h0
 nomatch Ze1 (aA ix rb),rb
 intro t zq1
 subst zq1
 nomatch Ze1 (aA (.inr rfl) ra),ra
 intro u zq1
 subst zq1
 refine PySem.P.in_str ?_
 rw [jS,StrLaws.found_one]
 have:decide (m∈(aw C.σ x).cps.toList)=decide (m∈txt C.σ x):=by unfold aw; simp
 rw [this]
 exact hQ _ _ _ _ _ _ (Ext.refl ..) ok (.bool ..) h1
def jQ:P2:=fun a b H k=>br (pIn a b H k) (HK a b H k) (lw b)
theorem ff:cK C (fun a b=>compareOp .In a b) jQ:=by
 intro X dp f H k A env B ρ Z s a b va vb hd
 unfold jQ at hd
 induction e:lw b using Bool.casesOn with
 | true=>rw [e] at hd; exact Gb X dp f H k A env B ρ Z s a b va vb hd
 | false=>rw [e] at hd; exact HN X dp f H k A env B ρ Z s a b va vb hd
def Fb (v:AV) (k:SS->Bool):Bool:=@AV.rec (fun _=>(SS->Bool)->Bool) (fun k=>false) (fun b k=>false) (fun i k=>false) (fun s k=>false) (fun j k=>false) (fun v k=>false) (fun l _ k=>false) (fun k=>false) (fun _ _ _ _ k=>false) (fun c j k=>false) (fun _ _ _ k=>false) (fun _ _ _ k=>false) (fun a b c k=>false) (fun a b c _ _ _ k=>false) (fun _ k=>false) (fun _ _ k=>false) (fun _ _ _ k=>false) (fun k=>false) (fun _ k=>false) (fun _ _ k=>false) (fun _ k=>false) (fun _ k=>false) (fun s k=>k s) v k
theorem u0 {v:AV} {k:SS->Bool} (h:Fb v k=true):∃ s,v = .lit s∧k s=true:=by
 induction v using AV.casesOn<;>first | (exact (am _ rfl h)) | exact ffE h
def HS (x:SS) (k:Nat->Bool):Bool:=@List.rec SA (fun _=>Bool) false (fun a r _=>@List.rec SA (fun _=>Bool) (@SA.rec (fun _=>Bool) (fun n=>k n) (fun _=>false) (fun _=>false) (fun _=>false) (fun _=>false) a) (fun _ _ _=>false) r) x
theorem yE {x:SS} {k:Nat->Bool} (h:HS x k=true):∃ n,x=[.c n]∧k n=true:=by
 induction x using List.casesOn with
 | nil=>exact ffE h
 | cons a r =>
  induction r using List.casesOn with
  | cons _ _=>exact ffE h
  | nil=>induction a using SA.casesOn<;>first | exact (am _ rfl h) | exact ffE h
noncomputable def zJ (m:Nat):Bool:=Nat.beq m 38 || (Nat.beq m 60 || (Nat.beq m 62 || Nat.beq m 13))
def ji:DC:=fun args _ H k=>wS args fun a b c=>bO a fun x=>HS x fun m=>jj b fun m'=>Fb c fun z=>aB (Nat.beq m m') (aB (zJ m) (sEq z (lit (bJ m)) fun q=>br false (k (.str z) H) q))
theorem ub {m:Nat} (h:zJ m=true):Txt.replace ⟨#[m]⟩ ⟨#[m]⟩ ⟨(bJ m).toArray⟩=⟨(bJ m).toArray⟩∧((⟨#[m]⟩:Str) == ⟨(bJ m).toArray⟩)=false∧(⟨(bJ m).toArray⟩:Str).length≤14:=by
 have:m=38∨m=60∨m=62∨m=13:=by
  unfold zJ at h
  simp only [Bool.or_eq_true,eA,decide_eq_true_eq] at h
  exact h
 rcases this with rfl | rfl | rfl | rfl<;>refine ⟨?_,?_,?_⟩<;>decide +kernel
theorem fw (q1:C.t1):SC C (.builtin "str.replace") 3 ji:=by
 intro X dp f H k A env B ρ Z s args vals hc hA ok hv hlen Q E hQ
 nomatch eH (gV hc hlen),hc
 intro a b c zq3 h
 subst zq3
 nomatch da hv.three,hv
 intro va vb vc zq3 ra rb rc
 subst zq3
 nomatch ad (aC h),h
 intro x ix h0
 nomatch ad (yE h0),h0
 intro m zq1 h1
 subst zq1
 nomatch ad (dw h1),h1
 intro m' zq1 h2
 subst zq1
 nomatch ad (u0 h2),h2
 intro z zq1 h3
 subst zq1
 nomatch Za1 (af h3),h3
 intro h4 h5
 have:=ZbE h4
 subst this
 nomatch Za1 (af h5),h5
 intro h6 h7
 have h8:=fy C.wf _ _ _ h7
 nomatch Ze1 (aA ix ra),ra
 intro t zq1
 subst zq1
 induction q:decide (txt C.σ z=txt C.σ (lit (bJ m))) using Bool.casesOn with
 | false=>rw [q] at h8; exact ffE h8
 | true =>
  rw [q] at h8
  have ez:aw C.σ z=⟨(bJ m).toArray⟩:=by
   have:=of_decide_eq_true q
   unfold aw
   rw [this,fu]
  nomatch Za2 (ub h6),h6
  intro g1 g2 g3
  nomatch ad rb.inv,rb
  intro u zq1 hu
  subst zq1
  nomatch ad rc.inv,rc
  intro v zq1 hv'
  subst zq1
  have n1:=(ok.g.tkb _ _ hu).1 q1
  have n2:=(ok.g.tkb _ _ hv').1 q1
  have n3:u ≠ v:=by
   intro e
   subst e
   have e2:=ok.g.tkf _ _ _ hu hv'
   injection e2 with e3
   rw [ez,jS] at e3
   rw [e3] at g2
   simp at g2
  refine wpAny_with_toks (n:=s.toks) (Nat.le_refl _) (SC.replaceW n1 n2 n3 (by rw [jS,ez]; exact g2) (by rw [jS]; show 1≤1048576; decide) (by rw [ez]; exact g3) fun t' tk ht=>?_)
  rw [jS,ez,g1,← ez]
  exact hQ _ _ _ _ _ _ (Ext.refl ..) (ok.tok _ ht) (.str ..) h8
noncomputable def rsB (x a r:Str):Bool:=!(decide (x.length<(⟨#[125]⟩:Str).length) || decide (strKind x<strKind ⟨#[125]⟩)) && !(occurrencesFromRight x ⟨#[125]⟩ (limitOf x 1)).isEmpty&&decide (partsBetween x (occurrencesFromRight x ⟨#[125]⟩ (limitOf x 1)) 1=[a,r])&&decide (x.length≤5)
noncomputable def spB (x a r:Str):Bool:=!(decide (x.length<(⟨#[125]⟩:Str).length) || decide (strKind x<strKind ⟨#[125]⟩)) && !(occurrences x ⟨#[125]⟩ 0 x.length (limitOf x 1)).isEmpty&&decide (partsBetween x (occurrences x ⟨#[125]⟩ 0 x.length (limitOf x 1)) 1=[a,r])&&decide (x.length≤5)
theorem I4 {r:List Nat} (h:r∈[[97],[98],[97,98]]):rsB ⟨(117 :: 125 :: r).toArray⟩ ⟨#[117]⟩ ⟨r.toArray⟩=true:=by
 simp only [List.mem_cons,List.not_mem_nil,or_false] at h
 rcases h with rfl | rfl | rfl<;>decide +kernel
theorem IY:rsB ⟨#[118,125,114]⟩ ⟨#[118]⟩ ⟨#[114]⟩=true:=by decide +kernel
theorem IZ {r:List Nat} (h:r∈[[97],[98],[97,98]]):spB ⟨(123 :: 117 :: 125 :: r).toArray⟩ ⟨#[123,117]⟩ ⟨r.toArray⟩=true:=by
 simp only [List.mem_cons,List.not_mem_nil,or_false] at h
 rcases h with rfl | rfl | rfl<;>decide +kernel
theorem IT:spB ⟨#[123,118,125,114]⟩ ⟨#[123,118]⟩ ⟨#[114]⟩=true:=by decide +kernel
def B8 (p:Nat) (x:SS) (k:Bool):Bool:=@List.rec SA (fun _=>Bool) false (fun a r _=>@List.rec SA (fun _=>Bool) (@SA.rec (fun _=>Bool) (fun n=>aB (Nat.beq n 114) (aB (Nat.beq p 118) k)) (fun _=>false) (fun _=>false) (fun _=>false) (fun j=>aB (Nat.beq p 117) k) a) (fun _ _ _=>false) r) x
theorem oH {p:Nat} {x:SS} {k:Bool} (h:B8 p x k=true):((p=118∧x=[.c 114])∨p=117∧∃ j,x=[.nam j])∧k=true:=by
 induction x using List.casesOn with
 | nil=>exact ffE h
 | cons a r =>
  induction r using List.casesOn with
  | cons _ _=>exact ffE h
  | nil =>
   induction a using SA.casesOn with
   | c n =>
    refine Za1 (af h) fun h1 h2=>?_
    refine Za1 (af h2) fun h3 h4=>?_
    exact ⟨.inl ⟨ZbE h3,by rw [ZbE h1]⟩,h4⟩
   | nam j =>
    refine Za1 (af h) fun h1 h2=>?_
    exact ⟨.inr ⟨ZbE h1,j,rfl⟩,h2⟩
   | _=>exact ffE h
noncomputable def hdC (x:SS) (k:Nat->SS->Bool):Bool:=@List.rec SA (fun _=>Bool) false (fun a r _=>@SA.rec (fun _=>Bool) (fun n=>k n r) (fun _=>false) (fun _=>false) (fun _=>false) (fun _=>false) a) x
theorem fC {x:SS} {k:Nat->SS->Bool} (h:hdC x k=true):∃ n r,x = .c n :: r∧k n r=true:=by
 induction x using List.casesOn with
 | nil=>exact ffE h
 | cons a r=>induction a using SA.casesOn<;>first | exact (dj _ _ rfl h) | exact ffE h
def wy:DC:=fun args _ H k=>wS args fun a b c=>bO a fun x=>jj b fun m=>bk (bq c) fun i=>aB (Nat.beq m 125) (aB (ieq i 1) (hdC x fun p r=>hdC r fun q r=>aB (Nat.beq q 125) (B8 p r (mP [.str [.c p],.str r] H k))))
def wB:DC:=fun args _ H k=>wS args fun a b c=>bO a fun x=>jj b fun m=>bk (bq c) fun i=>aB (Nat.beq m 125) (aB (ieq i 1) (hdC x fun o r=>aB (Nat.beq o 123) (hdC r fun p r=>hdC r fun q r=>aB (Nat.beq q 125) (B8 p r (mP [.str [.c 123,.c p],.str r] H k)))))
theorem wk {p:Nat} {x:SS} (h:(p=118∧x=[.c 114])∨p=117∧∃ j,x=[.nam j]):rsB (aw C.σ (.c p :: .c 125 :: x)) (aw C.σ [.c p]) (aw C.σ x)=true∧spB (aw C.σ (.c 123 :: .c p :: .c 125 :: x)) (aw C.σ [.c 123,.c p]) (aw C.σ x)=true:=by
 rcases h with ⟨rfl,rfl⟩ | ⟨rfl,j,rfl⟩
 ·exact ⟨IY,IT⟩
 ·have e1:aw C.σ (.c 117 :: .c 125 :: [.nam j])=⟨(117 :: 125 :: C.σ.nm j).toArray⟩:=by unfold aw; simp [txt,SA.val]
  have e2:aw C.σ (.c 123 :: .c 117 :: .c 125 :: [.nam j])=⟨(123 :: 117 :: 125 :: C.σ.nm j).toArray⟩:=by unfold aw; simp [txt,SA.val]
  have e3:aw C.σ [.nam j]=⟨(C.σ.nm j).toArray⟩:=by unfold aw; simp [txt,SA.val]
  rw [e1,e2,e3]
  exact ⟨I4 (C.wf.nm j),IZ (C.wf.nm j)⟩
theorem zf {i:Int} (h:ieq i 1=true):i=1:=by rw [ig] at h; exact of_decide_eq_true h
theorem wJ:SC C (.builtin "str.rsplit") 3 wy:=by
 intro X dp f H k A env B ρ Z s args vals hc hA ok hv hlen Q E hQ
 nomatch eH (gV hc hlen),hc
 intro a b c zq3 h
 subst zq3
 nomatch da hv.three,hv
 intro va vb vc zq3 ra rb rc
 subst zq3
 nomatch ad (aC h),h
 intro x ix h0
 nomatch ad (dw h0),h0
 intro m zq1 h1
 subst zq1
 nomatch ad (al h1),h1
 intro i hi h2
 nomatch Za1 (af h2),h2
 intro h3 h4
 have:=ZbE h3
 subst this
 nomatch Za1 (af h4),h4
 intro h5 h6
 have:=zf h5
 subst this
 nomatch aE (fC h6),h6
 intro p r zq2 h7
 subst zq2
 nomatch aE (fC h7),h7
 intro q r zq2 h8
 subst zq2
 nomatch Za1 (af h8),h8
 intro h9 h10
 have:=ZbE h9
 subst this
 nomatch Za1 (oH h10),h10
 intro ht h11
 nomatch Ze1 (aA ix ra),ra
 intro t zq1
 subst zq1
 nomatch Ze1 (aA (.inr rfl) rb),rb
 intro u zq1
 subst zq1
 nomatch Ze1 (ar hi rc),rc,hi
 intro v zq1
 subst zq1
 have hz:=(wk (C:=C) ht).1
 unfold rsB at hz
 simp only [Bool.and_eq_true,Bool.not_eq_true',decide_eq_true_eq] at hz
 nomatch Za1 hz,hz
 intro zt46_0 z4
 nomatch Za1 zt46_0,zt46_0
 intro zt2_0 z3
 obtain ⟨z1,z2⟩:=zt2_0
 refine cJ (eI h11) fun H' g1 g2 g3 g4=>?_
 have e:partsBetween (aw C.σ (.c p :: .c 125 :: r)) (occurrencesFromRight (aw C.σ (.c p :: .c 125 :: r)) (aw C.σ [.c 125]) (limitOf (aw C.σ (.c p :: .c 125 :: r)) 1)) (aw C.σ [.c 125]).length=[aw C.σ [.c p],aw C.σ r]:=z3
 refine call_meets F.slot_str_rsplit (typeIs_str _ _ _) F.entry_str_rsplit (F.args_str_rsplit_3 _ _ _) (meets_str_rsplit_sep_max _ _ 1 t u v (by decide) z1 rfl z2 (by rw [sizeLine_eq]; omega) (by rw [e]; show 2≤sizeLine; rw [sizeLine_eq]; decide)) ?_
 refine (?_:wants Q E _ { s with toks:=_,heap:=s.heap.push { cls:=.type "list",data:=.seq (strsFrom s.toks (partsBetween _ _ 1)).toArray } })
 first | rw [e] | (have e':=e; change partsBetween _ _ 1=_ at e'; rw [e'])
 have ok1:=ok.tok (s.toks+2)
 refine Za1 (ok1.newList (xs:=[.str [.c p],.str r]) (vs:=strsFrom s.toks [aw C.σ [.c p],aw C.σ r]) (.cons (.str ..) (.cons (.str ..) .nil)) g3 g4) fun o1 o2=>?_
 first | rw [e] | (have e':=e; change partsBetween _ _ 1=_ at e'; rw [e'])
 exact hQ _ _ _ _ _ _ Ext.snoc o1 o2 g2
theorem xu:SC C (.builtin "str.split") 3 wB:=by
 intro X dp f H k A env B ρ Z s args vals hc hA ok hv hlen Q E hQ
 nomatch eH (gV hc hlen),hc
 intro a b c zq3 h
 subst zq3
 nomatch da hv.three,hv
 intro va vb vc zq3 ra rb rc
 subst zq3
 nomatch ad (aC h),h
 intro x ix h0
 nomatch ad (dw h0),h0
 intro m zq1 h1
 subst zq1
 nomatch ad (al h1),h1
 intro i hi h2
 nomatch Za1 (af h2),h2
 intro h3 h4
 have:=ZbE h3
 subst this
 nomatch Za1 (af h4),h4
 intro h5 h6
 have:=zf h5
 subst this
 nomatch aE (fC h6),h6
 intro o r zq2 h6
 subst zq2
 nomatch Za1 (af h6),h6
 intro h12 h13
 have:=ZbE h12
 subst this
 nomatch aE (fC h13),h13
 intro p r zq2 h7
 subst zq2
 nomatch aE (fC h7),h7
 intro q r zq2 h8
 subst zq2
 nomatch Za1 (af h8),h8
 intro h9 h10
 have:=ZbE h9
 subst this
 nomatch Za1 (oH h10),h10
 intro ht h11
 nomatch Ze1 (aA ix ra),ra
 intro t zq1
 subst zq1
 nomatch Ze1 (aA (.inr rfl) rb),rb
 intro u zq1
 subst zq1
 nomatch Ze1 (ar hi rc),rc,hi
 intro v zq1
 subst zq1
 have hz:=(wk (C:=C) ht).2
 unfold spB at hz
 simp only [Bool.and_eq_true,Bool.not_eq_true',decide_eq_true_eq] at hz
 nomatch Za1 hz,hz
 intro zt65_0 z4
 nomatch Za1 zt65_0,zt65_0
 intro zt3_0 z3
 obtain ⟨z1,z2⟩:=zt3_0
 refine cJ (eI h11) fun H' g1 g2 g3 g4=>?_
 have e:partsBetween (aw C.σ (.c 123 :: .c p :: .c 125 :: r)) (occurrences (aw C.σ (.c 123 :: .c p :: .c 125 :: r)) (aw C.σ [.c 125]) 0 (aw C.σ (.c 123 :: .c p :: .c 125 :: r)).length (limitOf (aw C.σ (.c 123 :: .c p :: .c 125 :: r)) 1)) (aw C.σ [.c 125]).length=[aw C.σ [.c 123,.c p],aw C.σ r]:=z3
 refine call_meets F.slot_str_split (typeIs_str _ _ _) F.entry_str_split (F.args_str_split_3 _ _ _) (meets_str_split_sep_max _ _ 1 t u v (by decide) z1 rfl z2 (by rw [sizeLine_eq]; omega) (by rw [e]; show 2≤sizeLine; rw [sizeLine_eq]; decide)) ?_
 first | rw [e] | (have e':=e; change partsBetween _ _ 1=_ at e'; rw [e'])
 have ok1:=ok.tok (s.toks+2)
 refine Za1 (ok1.newList (xs:=[.str [.c 123,.c p],.str r]) (vs:=strsFrom s.toks [aw C.σ [.c 123,.c p],aw C.σ r]) (.cons (.str ..) (.cons (.str ..) .nil)) g3 g4) fun o1 o2=>?_
 exact hQ _ _ _ _ _ _ Ext.snoc o1 o2 g2
theorem FO {body:List Stmt} {hq0:ExceptHandler} {hs:List ExceptHandler} {pos:Pos} {d:DS} (h:S C X body d):S1 C X (.Try body (hq0 :: hs) [] [] pos) d :=
 fun dp f H kn kr A env B ρ Z s hd hA ok Q E hn hr=>wpAny_Try_except (h _ _ _ _ _ _ _ _ _ _ _ hd hA ok _ _ (fun ρ₁ Z₁ H₁ s₁ fq1 e₁ ok₁ hdq1=>wpAny_execs_nil (hn _ _ _ _ _ e₁ ok₁ hdq1)) fun ρ₁ Z₁ H₁ s₁ fq1 av v e₁ ok₁ r hdq1=>hr _ _ _ _ _ _ _ e₁ ok₁ r hdq1)
end
end Mine
namespace Mine
open PySem PySem.W PySem.Calls PyProof.Rows MeetsSeq
theorem qN (led:Bool) (h:Int) (x:Value):layNew (SetTable.fresh 0 0 led) #[] h x=(#[(h,x)],{ (SetTable.fresh 0 0 led) with place:=#[SetTable.bits h % 8] },false,false):=by rfl
noncomputable abbrev j7 (led:Bool):Obj:={ cls:=.type "set",dict:=none,data:=.set #[] 0 (.fresh 0 0 led) }
noncomputable abbrev nP (led:Bool) (h:Int) (v:Value) (i:Nat):Obj:={ cls:=.type "set",dict:=none,data:=.set #[(h,v)] 1 { (SetTable.fresh 0 0 led) with place:=#[i],plain:=false } }
section
variable {prog:Program} {w:World} {A:Around} {E:Value->Shared->Prop} {s:Shared}
theorem wX {led:Bool} {sa:Addr} {x:Str} {t:Tok} {Q:Bool->Shared->Prop} (ho:s.heap.get? sa=some (j7 led))
  (h:∀ h' hh i,Heap.SameBut sa s.heap h'->h'.get? sa=some (nP led hh (.str x t) i)->Q true { s with heap:=h',toks:=s.toks+1 }):wpAny (model prog w) A (setAdd sa (.str x t)) Q E s:=by
 unfold setAdd
 refine wpAny_holding (ZB ((PySem.strKind prog w).pyHash (fm w prog x t) ?_))
 unfold setAddHashed setAddHashedIn
 refine wpAny_holding (ZB (wpAny_setState_of (s:={ s with toks:=s.toks+1 }) ho rfl rfl ?_))
 dsimp only
 rw [byScan_of (knd:=PySem.strKind prog w) (x:=Value.str x t) (es:=#[]) rfl (by decide) (fun e he=>absurd he (by simp))]
 simp only [↓reduceIte]
 unfold setAddByScan
 refine ZB ?_
 refine ZB (wpAny_rule ?_)
 refine ZB (wpAny_setScan_of (knd:=PySem.strKind prog w) (k:=x) (fm w prog x t) (s:={ s with toks:=s.toks+1 }) ho rfl rfl (fun e he=>absurd he (by simp)) ?_)
 dsimp only
 rw [show List.findIdx? (fun e:Int × Value=>(PySem.strKind prog w).is x e.2) (#[]:Array (Int × Value)).toList=none from rfl]
 dsimp only
 rw [qN]
 dsimp only
 refine ZB (ZP ?_)
 refine (?_:wpAny _ _ (hashByValue 8 (Value.str x t) >>= _) _ _ _)
 rw [hashByValue_scannable 8 (x:=Value.str x t) rfl]
 refine ZB (ZP ?_)
 have hz:(#[((PySem.strKind prog w).hash x,Value.str x t)]:Array (Int × Value)).size≤sizeLine:=by show 1≤sizeLine; rw [sizeLine_eq]; decide
 refine ZB (wpAny_storeSet_of ho rfl ?_ hz)
 refine (?_:wpAny _ _ (pure (some true)) _ _ _)
 refine ZP (ZP (h _ ((PySem.strKind prog w).hash x) (SetTable.bits ((PySem.strKind prog w).hash x) % 8) (Heap.SameBut.update _ _ _) ?_))
 exact Heap.get?_update_self _ ho rfl
theorem xT {sa d:Addr} {K:Type} [DecidableEq K] {knd:KeyKind prog w K} {led:Bool} {hh:Int} {v:Value} {i ep:Nat} {Q:Unit->Shared->Prop} (hA:A.handled=none) (hsd:sa ≠ d) (h1:d ≠ 1) (ho:s.heap.get? sa=some (nP led hh v i)) (hd:s.heap.DictAt knd d [] ep)
  (hT:s.TypeIs (.ref d) "dict") (h:∀ h' tk,s.toks≤tk->Heap.ExtBut s.heap.objs.size s.heap h'->Q () { s with heap:=h',toks:=tk }):wpAny (model prog w) A (setDisplayStar sa (.ref d)) Q E s:=by
 have hm:(d==sysModules)=false:=by
  induction q:d==sysModules using Bool.casesOn with
  | false=>rfl
  | true=>exact absurd (eq_of_beq q) h1
 unfold setDisplayStar
 dsimp only
 refine ZB (wpAny_isInstance (b:=false) hT (by rw [isSubtype_type]; kernel_rfl) ?_)
 rw [if_neg Bool.false_ne_true]
 refine ZB (wpAny_isInstance (b:=false) hT (by rw [isSubtype_type]; kernel_rfl) ?_)
 refine ZB (wpAny_askSetting ?_)
 have hm2:s.heap.DictAt knd d [] ep:=hd
 refine dO (id hd) fun o es hod hcls hdat hk zw0=>?_
 nomatch Za1 zw0,zw0
 intro hp hn
 have hes:es = #[]:=by
  have:=hp.length
  apply Array.ext'
  exact List.length_eq_zero_iff.mp this
 clear hk hp
 subst hes
 induction hb:(⟨(model prog w).prog,(model prog w).w.params⟩:Setting).params.followText "set-display-star-reads-storage" using Bool.casesOn with
 | true =>
  try dsimp only
  rw [if_pos rfl]
  refine ZB (wpAny_pyIter_dict hm hd ?_)
  refine ZB (wpAny_runValue (codeAny_builtin PyProof.Rows.F.entry_set_update_loop ?_))
  rw [Around.under_plainId PyProof.Rows.F.plain_set_update_loop _]
  refine (?_:wpAny _ A.in1 (pyNext (.ref s.heap.objs.size) >>= _) _ _ _)
  have hd':(s.heap.push { cls:=.type "dict_keyiterator",data:=.fields #[.ref d,.int 0 0,.int ([]:List (K × Value)).length 0,.int ep 0] }).DictAt knd d [] ep:=hd.push _
  refine ZB (wpAny_pyNext_dict_end (knd:=knd) (kvs:=[]) (i:=0) hA ⟨_,Heap.get?_push_size _ rfl,rfl,rfl⟩ hd' rfl fun h' hx=>?_)
  refine ZP (ZP (h h' s.toks (Nat.le_refl _) fun b o hb e=>hx b o hb (Heap.get?_push_of_some _ e)))
 | false =>
  try dsimp only
  rw [if_neg Bool.false_ne_true]
  refine ZB (wpAny_typeOf hT ?_)
  rw [if_pos (by rfl)]
  refine ZB (wpAny_rule ?_)
  rw [if_neg (by rw [hm]; exact Bool.false_ne_true)]
  refine ZB (wpAny_dictEpoch hod hdat ?_)
  refine ZB (wpAny_dictEntries hod hdat ?_)
  refine ZB ?_
  unfold setRoomFor
  refine ZB (wpAny_setState_of ho rfl rfl ?_)
  refine ZP ?_
  rw [show [:(#[]:Array DictEntry).size]=[:0] from rfl,Std.Legacy.Range.forIn_eq_forIn_range']
  refine ZB (ZP ?_)
  exact ZP (h s.heap s.toks (Nat.le_refl _) fun _ _ _ e=>e)
end
section
variable {C:Cx} {X:Sc} {B:Bz} {f:Fm} {env:Env} {ρ:List Addr} {Z:Fz} {H H':HP} {s:Shared} {A:Around}
theorem i0 {P:Addr × Obj} {L:Addr} (h:Pv B L ρ Z s [P]):s.heap.get? P.1=some P.2∧Own B L ρ Z P.1:=by
 refine Za4 (h P (.head _)) fun h1 h2 h3 h4 h5=>?_
 exact ⟨h1,h2,h3,h4,h5⟩
theorem Pv.of {a:Addr} {o:Obj} {L:Addr} (h1:s.heap.get? a=some o) (h2:Own B L ρ Z a):Pv B L ρ Z s [(a,o)]:=fun p hp=>by
 rw [List.mem_singleton.mp hp]
 exact ⟨h1,h2.1,h2.2.1,h2.2.2.1,h2.2.2.2⟩
def sO (d1 d2:D):D:=fun dp f H k=>d1 dp f H fun v H=>bO v fun x=>d2 dp f H fun w H=>kG H w fun _ es=>@List.rec (SS × AV) (fun _=>Bool) (k (.tcons (.str x) .tnil) H) (fun _ _ _=>false) es
theorem t9 {e1 e2:Ex} {p2 pos:Pos} {d1 d2:D} (hcd:kdsCode C.K X.cd=true) (h1:SE C X e1 d1) (h2:SE C X e2 d2) (he:∀ env,starEach [e1,.Starred e2 p2] env=[(false,eval e1 env),(true,eval e2 env)]):SE C X (.Set [e1,.Starred e2 p2] 0 pos) (sO d1 d2):=by
 intro dp f H k A env B ρ Z s hd hA ok Q E hQ
 refine (?_:wpAny _ _ (eval (.Set [e1,.Starred e2 p2] 0 pos) env) _ _ _)
 rw [arm_eval_Set]
 refine ZB (wpAny_standAt ?_)
 refine ZB (kds_main ok.K (by rw [ok.f.cd]; exact hcd) fun b=>?_)
 rw [he]
 unfold setDisplay
 rw [show (displayRoad 0 [e1,.Starred e2 p2]==DisplayRoad.constants)=false from rfl,if_neg Bool.false_ne_true]
 try dsimp only
 refine ZB ?_
 unfold newSet setsByText
 refine ZB (ZB (wpAny_askSetting (ZP ?_)))
 dsimp only
 simp only [newObj]
 refine ZB (wpAny_alloc (ZP ?_))
 refine Za1 (ok.own (j7 (!C.w.params.followText "set-order")) rfl) fun ok1 hP=>?_
 have hP0:=i0 hP
 refine (?_:wpAny _ _ (holding [Value.ref s.heap.objs.size] _ >>= _) _ _ { s with heap:=s.heap.push (j7 (!C.w.params.followText "set-order")) })
 generalize hs1:({ s with heap:=s.heap.push (j7 (!C.w.params.followText "set-order")) }:Shared)=s1 at *
 generalize s.heap.objs.size=S at *
 refine ZB (wpAny_holding ?_)
 refine ZB ?_
 show wpAny _ _ (evalAll [(do let v ← eval e1 env; standAt pos; pure v)]) _ _ _
 refine wpAny_evalAll_cons (ZB (h1 _ _ _ _ _ _ _ _ _ _ hd hA (ok1.priv hP) _ _ fun ρ₁ Z₁ H₁ s₁ v w e₁ ok₁ r₁ hdq1=>ZB (wpAny_standAt (ZP (wpAny_evalAll_nil ?_)))))
 nomatch ad (aC hdq1),hdq1
 intro x ix hdq1
 refine Ze1 (aA ix r₁) fun t zq1=>?_
 clear r₁
 subst zq1
 nomatch Za1 (ok₁.unpriv (fun a o e=>ok.g.base a o e) (fun p hp o=>by rw [List.mem_singleton.mp hp]; exact hP0.2.2.1 o)),ok₁
 intro ok₁ hP1
 nomatch Za1 (i0 hP1),hP1
 intro hSq1 hO1
 refine ZB (wpAny_holding ?_)
 rw [List.forIn_cons]
 refine ZB (ZB (ZB (wX hSq1 fun h' hh i hs hg=>ZP ?_)))
 have ok₂:OK C X B f env ρ₁ Z₁ H₁ { s₁ with heap:=h' }:=ok₁.extBut (it:=S) hs.extBut hO1.1 hO1.2.1 hO1.2.2.1 hO1.2.2.2
 have ok₃:=ok₂.tok (s₁.toks+1)
 refine (?_:wpAny _ _ (forIn [] PUnit.unit _) _ _ _)
 rw [List.forIn_nil]
 refine ZP ?_
 rw [show (displayRoad 0 [e1,.Starred e2 p2]==DisplayRoad.unsure)=false from rfl,if_neg Bool.false_ne_true]
 refine ZP ?_
 show wpAny _ _ (forIn [(true,(do let v ← eval e2 env; standAt pos; pure v))] PUnit.unit _ >>= _) _ _ _
 rw [List.forIn_cons]
 have hOq3:Own B env.locals ρ₁ Z₁ S:=hO1
 have hP3:Pv B env.locals ρ₁ Z₁ { s₁ with heap:=h',toks:=s₁.toks+1 } [(S,nP (!C.w.params.followText "set-order") hh (.str (aw C.σ x) t) i)]:=Pv.of hg hOq3
 refine ZB (ZB (ZB (ZB (h2 _ _ _ _ _ _ _ _ _ _ hdq1 hA (ok₃.priv hP3) _ _ fun ρ2 Z₂ H₂ sq2 y w e₂ ok₄ r₂ hdq2=>ZB (wpAny_standAt (ZP ?_))))))
 nomatch ay (dZ hdq2),hdq2
 intro j es zq2 hj hdq2
 subst zq2
 nomatch Za1 (ok₄.unpriv (fun a o e=>ok.g.base a o e) (fun p hp o=>by rw [List.mem_singleton.mp hp]; exact hO1.2.1 o)),ok₄
 intro ok₄ hP4
 nomatch Za1 (i0 hP4),hP4
 intro hSq4 hO4
 induction es using List.casesOn with
 | cons _ _=>exact ffE hdq2
 | nil =>
  nomatch dO (fX ok₄ r₂ hj),hj
  intro a kvs zq2 hρ hD hz hm
  clear r₂
  subst zq2
  have:kvs=[]:=List.length_eq_zero_iff.mp hz.1.symm
  clear hz
  subst this
  refine Ze1 hD.dictAt fun ep hDA=>?_
  have ham:a∈ρ2:=ZbM hρ
  rw [if_pos rfl]
  refine ZB (wpAny_holding (xT hA.hd (fun e=>hO4.1 (e ▸ ham)) (ok₄.g.no1 ham) hSq4 hDA hD.typeIs fun h'' tk ht hx=>ZP ?_))
  refine (?_:wpAny _ _ (forIn [] PUnit.unit _) _ _ _)
  rw [List.forIn_nil]
  refine ZP (ZP (ZP ?_))
  have ok₅:=(ok₄.extNew hx).tok tk ht
  have hS5:h''.get? S=some (nP (!C.w.params.followText "set-order") hh (.str (aw C.σ x) t) i):=hx _ _ (Nat.ne_of_lt (Heap.lt_size hSq4)) hSq4
  have ok₆:=OK.adoptZ ok₅ (o:=nP (!C.w.params.followText "set-order") hh (.str (aw C.σ x) t) i) hS5 hO4
  refine hQ _ _ _ _ _ _ ((e₁.trans e₂).trans Ext.fz) ok₆ (.set1 Fz.add_here ⟨hh,t,1,i,_,rfl,?_⟩) hdq2
  rw [C.hbt]
  induction C.w.params.followText "set-order" using Bool.casesOn<;>simp
end
theorem slot_setit_next:Slot "set_iterator" "__next__" "set_iterator.__next__" :=
 .of (owner:="set_iterator") (n:="__next__") (by rw [typeLookup_type,builtinLookup_eq_fast]; kernel_rfl) (by decide +kernel) (by decide +kernel) (by decide +kernel)
  (by first | exact .inl (by decide +kernel) | exact .inr (by decide +kernel)) (by rw [isSubtype_type]; kernel_rfl)
theorem gQ:entryFor table "set_iterator.__next__" = some Builtin.«set_iterator.__next__»:=entryFor_of_tree (by kernel_rfl)
theorem iI (a:Value):argsOk "set_iterator.__next__" ⟨[a],[]⟩:=by unfold argsOk; kernel_rfl
theorem nS:entryFor table "set.__iter__" = some Builtin.«frozenset.__iter__»:=entryFor_alias (id':="frozenset.__iter__") (by kernel_rfl) rfl (by decide +kernel) (by kernel_rfl)
noncomputable abbrev jB (slot i:Nat) (S:Addr) (ep:Nat):Obj:={ cls:=.type "set_iterator",data:=.fields #[rawInt slot,rawInt i,.ref S,rawInt 1,rawInt ep] }
noncomputable abbrev j2 (led:Bool) (h:Int) (v:Value) (ep i:Nat):Obj:={ cls:=.type "set",dict:=none,data:=.set #[(h,v)] ep { (SetTable.fresh 0 0 led) with place:=#[i],plain:=false } }
section
variable {prog:Program} {w:World} {A:Around} {E:Value->Shared->Prop} {s:Shared}
theorem sJ {S:Addr} {led:Bool} {hh:Int} {v:Value} {ep i:Nat} {Q:Value->Shared->Prop} (ho:s.heap.get? S=some (j2 led hh v ep i))
  (h:Q (.ref s.heap.objs.size) { s with heap:=s.heap.push (jB 0 0 S ep) }):wpAny (model prog w) A (pyIter (.ref S)) Q E s:=by
 have hT:s.TypeIs (.ref S) "set":=⟨_,ho,rfl⟩
 refine wpAny_pyIter_slot hT F.slot_set_iter (wpAny_call_entry F.slot_set_iter hT nS ?_ (F.args_set_iter_1 _))
 unfold Builtin.«frozenset.__iter__»
 refine ZB (m:=Builtin.Frozenset.slot0 _ _) (ZP ?_)
 refine ZB ?_
 unfold Builtin.Frozenset.sizeOf
 refine ZB (wpAny_setEntries_of ho rfl rfl (ZP ?_))
 refine ZB ?_
 unfold setDrawn
 refine ZB (wpAny_setState_of ho rfl rfl ?_)
 dsimp only
 unfold setsByText
 refine ZB (ZB (wpAny_askSetting (ZP (ZP ?_))))
 rw [if_neg (by induction (⟨(model prog w).prog,(model prog w).w.params⟩:Setting).params.followText "set-order" using Bool.casesOn<;>exact Bool.false_ne_true)]
 refine ZB (ZP ?_)
 refine (?_:wpAny _ _ (setEpoch S >>= _) _ _ _)
 refine ZB (wpAny_setEpoch_of ho rfl rfl ?_)
 refine ZB (wpAny_newObj_type (ZP ⟨_,rfl, "set_iterator",_,⟨_,Heap.get?_push_size _ rfl,rfl⟩,slot_setit_next.lookup,?_⟩))
 exact h
theorem yY {α:Type} (f:Nat->Nat) (x:α):pickOrder f #[x] = #[x]:=by simp [pickOrder,pickOrder.go,Nat.mod_one]
theorem uk (i:Nat):SetTable.below #[i] 0=0:=by simp [SetTable.below,SetTable.below.go]
theorem uh (i:Nat):SetTable.below #[i] (i+1)=1:=by simp [SetTable.below,SetTable.below.go]
theorem l9 {S:Addr} {led:Bool} {hh:Int} {v:Value} {ep i:Nat} {Q:Array (Int × Value)->Shared->Prop} (hb:w.params.followText "set-order" = true) (ho:s.heap.get? S=some (j2 led hh v ep i)) (h:Q #[(hh,v)] s):wpAny (model prog w) A (setWalk S) Q E s:=by
 unfold setWalk
 refine ZB (wpAny_setState_of ho rfl rfl ?_)
 dsimp only
 unfold setsByText
 refine ZB (ZB (wpAny_askSetting (ZP ?_)))
 rw [if_pos (show (⟨(model prog w).prog,(model prog w).w.params⟩:Setting).params.followText "set-order" = true from hb)]
 refine ZB (wpAny_askSetting (ZP ?_))
 rw [yY]
 exact h
theorem yu {I S:Addr} {led:Bool} {hh:Int} {v:Value} {ep i:Nat} {Q:Option Value->Shared->Prop} (hl:led=true∨w.params.followText "set-order" = true) (hI:s.heap.get? I=some (jB 0 0 S ep)) (ho:s.heap.get? S=some (j2 led hh v ep i))
  (h:∀ h' slot,Heap.SameBut I s.heap h'->(slot=0∧w.params.followText "set-order" = true∨slot=i+1∧w.params.followText "set-order" = false)->h'.get? I=some (jB slot 1 S ep)->Q (some v) { s with heap:=h' }):wpAny (model prog w) A (pyNext (.ref I)) Q E s:=by
 have hT:s.TypeIs (.ref I) "set_iterator":=⟨_,hI,rfl⟩
 unfold pyNext
 refine ZB (wpAny_attempt (wpAny_callSpecial?_slot (name:=Str.ofString "__next__") hT slot_setit_next
  (wpAny_call_entry slot_setit_next hT gQ ?_ (iI _))))
 unfold Builtin.«set_iterator.__next__»
 refine ZB (ZP ?_)
 refine ZB (wpAny_fieldsOf hI rfl ?_)
 refine (?_:wpAny _ _ (setEntries S >>= _) _ _ _)
 refine ZB (wpAny_setEntries_of ho rfl rfl ?_)
 rw [if_neg (by simp)]
 refine (?_:wpAny _ _ (setNext S 0 0 ep >>= _) _ _ _)
 refine ZB ?_
 unfold setNext
 refine ZB (wpAny_setState_of ho rfl rfl ?_)
 dsimp only
 unfold setsByText
 refine ZB (ZB (wpAny_askSetting (ZP ?_)))
 have fin:∀ slot:Nat,(slot=0∧w.params.followText "set-order" = true∨slot=i+1∧w.params.followText "set-order" = false)->wpAny (model prog w) A.in1 (setField (.ref I) 0 (rawInt slot) >>= fun _=>setField (.ref I) 1 (rawInt 1) >>= fun _=>ret v)
   (fun fin s'=>∃ v,fin=Fin.done (Flow.ret v)∧wpAny (model prog w) A (pure (some v)) Q E s')
   (fun e s'=>wpAny (model prog w) A (do if (← isInstance e (.type "StopIteration"))=true then pure none else throw e) Q E s') s:=by
  intro slot hs
  refine ZB (wpAny_setField hI rfl (by simp) ?_)
  have hI1:=Heap.get?_update_self (Obj.mapFields (·.setIfInBounds 0 (rawInt slot))) hI rfl
  refine ZB (wpAny_setField (s:={ s with heap:=s.heap.update I (Obj.mapFields (·.setIfInBounds 0 (rawInt slot))) }) hI1 rfl (by simp) ?_)
  refine ZP (am _ rfl (ZP (h _ slot ((Heap.SameBut.update ..).trans (Heap.SameBut.update ..)) hs ?_)))
  exact Heap.get?_update_self _ hI1 rfl
 induction hb:(⟨(model prog w).prog,(model prog w).w.params⟩:Setting).params.followText "set-order" using Bool.casesOn with
 | true =>
  rw [if_pos rfl,if_neg (by simp)]
  refine ZB (l9 hb ho (ZP ?_))
  exact fin 0 (.inl ⟨rfl,hb⟩)
 | false =>
  have hled:led=true:=hl.resolve_right fun e=>by rw [show w.params.followText "set-order" = false from hb] at e; exact ffE e
  clear hl ho
  subst hled
  rw [if_neg Bool.false_ne_true,if_neg (by exact Bool.false_ne_true),uk]
  refine ZB (ZP (ZP ?_))
  exact fin (i+1) (.inr ⟨rfl,hb⟩)
theorem u6:isSubtype (.type "StopIteration") (.type "StopIteration")=pure true:=by rw [isSubtype_type]; kernel_rfl
theorem pE {I S:Addr} {led:Bool} {hh:Int} {v:Value} {ep i slot:Nat} {Q:Option Value->Shared->Prop} (hA:A.handled=none) (hl:led=true∨w.params.followText "set-order" = true) (hI:s.heap.get? I=some (jB slot 1 S ep)) (ho:s.heap.get? S=some (j2 led hh v ep i))
  (hs:slot=0∧w.params.followText "set-order" = true∨slot=i+1∧w.params.followText "set-order" = false) (h:∀ h',Heap.ExtBut I s.heap h'->Q none { s with heap:=h' }):wpAny (model prog w) A (pyNext (.ref I)) Q E s:=by
 have hT:s.TypeIs (.ref I) "set_iterator":=⟨_,hI,rfl⟩
 unfold pyNext
 refine ZB (wpAny_attempt (wpAny_callSpecial?_slot (name:=Str.ofString "__next__") hT slot_setit_next
  (wpAny_call_entry slot_setit_next hT gQ ?_ (iI _))))
 unfold Builtin.«set_iterator.__next__»
 refine ZB (ZP ?_)
 refine ZB (wpAny_fieldsOf hI rfl ?_)
 refine (?_:wpAny _ _ (setEntries S >>= _) _ _ _)
 refine ZB (wpAny_setEntries_of ho rfl rfl ?_)
 rw [if_neg (by simp)]
 refine (?_:wpAny _ _ (setNext S slot 1 ep >>= _) _ _ _)
 refine ZB ?_
 unfold setNext
 refine ZB (wpAny_setState_of ho rfl rfl ?_)
 dsimp only
 unfold setsByText
 refine ZB (ZB (wpAny_askSetting (ZP ?_)))
 have fin:wpAny (model prog w) A.in1 (setField (.ref I) 2 .none >>= fun _=>newExc (.type "StopIteration") [] >>= fun e=>raiseNew e)
   (fun fin s'=>∃ v,fin=Fin.done (Flow.ret v)∧wpAny (model prog w) A (pure (some v)) Q E s')
   (fun e s'=>wpAny (model prog w) A (do if (← isInstance e (.type "StopIteration"))=true then pure none else throw e) Q E s') s:=by
  refine ZB (wpAny_setField hI rfl (by simp) ?_)
  refine ZB ?_
  simp only [newExc,newTuple]
  refine ZB (wpAny_newObj_type ?_ (by size_fits))
  refine ZB (m:=firstArgMember _ _) (wpAny_of_eq (a:=Value.none) (by first | rfl | (simp only [firstArgMember]; rfl)) ?_)
  refine wpAny_newObj_type ?_ (by size_fits)
  simp only [raiseNew]
  refine ZB (wpAny_handled ?_)
  rw [show A.in1.handled=none from hA]
  refine ZB (ZP (wpAny_throw ?_))
  refine ZB (wpAny_isInstance (T:="StopIteration") (b:=true) ⟨_,Heap.get?_push_size _ rfl,rfl⟩ u6 ?_)
  rw [if_pos rfl]
  exact ZP (h _ (((Heap.SameBut.update ..).extBut.push _).push _))
 induction hb:(⟨(model prog w).prog,(model prog w).w.params⟩:Setting).params.followText "set-order" using Bool.casesOn with
 | true =>
  rw [if_pos rfl,if_neg (by simp)]
  refine ZB (l9 hb ho (ZP ?_))
  exact fin
 | false =>
  have hled:led=true:=hl.resolve_right fun e=>by rw [show w.params.followText "set-order" = false from hb] at e; exact ffE e
  clear hl ho
  subst hled
  have hsl:slot=i+1:=hs.elim (fun e=>by rw [show w.params.followText "set-order" = false from hb] at e; exact ffE e.2) (fun e=>e.1)
  clear hI hs
  subst hsl
  rw [if_neg Bool.false_ne_true,if_neg (by exact Bool.false_ne_true),uh]
  refine ZB (ZP (ZP ?_))
  exact fin
end
theorem iG:Slot "set_iterator" "__iter__" "set_iterator.__iter__" :=
 .of (owner:="set_iterator") (n:="__iter__") (by rw [typeLookup_type,builtinLookup_eq_fast]; kernel_rfl) (by decide +kernel) (by decide +kernel) (by decide +kernel)
  (by first | exact .inl (by decide +kernel) | exact .inr (by decide +kernel)) (by rw [isSubtype_type]; kernel_rfl)
theorem ly:entryFor table "set_iterator.__iter__" = some Builtin.«dict_keyiterator.__iter__»:=entryFor_alias (id':="dict_keyiterator.__iter__") (by kernel_rfl) rfl (by decide +kernel) (by kernel_rfl)
theorem mO (a:Value):argsOk "set_iterator.__iter__" ⟨[a],[]⟩:=by unfold argsOk; kernel_rfl
theorem Dz:typeLookup (.type "set") "__len__" = pure (some (.builtin "set.__len__")):=by rw [typeLookup_type,builtinLookup_eq_fast]; kernel_rfl
section
variable {prog:Program} {w:World} {A:Around} {E:Value->Shared->Prop} {s:Shared}
theorem t5 (hh:A.handled=none) (I S:Addr) (hne:S ≠ I) {led:Bool} (hl:led=true∨w.params.followText "set-order" = true) (hs:Int) (v:Value) (ep i:Nat) :
  Walks prog w A I [I,S] [I] 1 (fun _ x=>x=v) (fun k h=>(∃ slot,h.get? I=some (jB slot k S ep)∧(k=0∧slot=0∨k=1∧(slot=0∧w.params.followText "set-order" = true∨slot=i+1∧w.params.followText "set-order" = false)))∧h.get? S=some (j2 led hs v ep i)) where
 sub:=fun b hb=>by simp at hb; simp [hb]
 frame:=fun _ _ _ ⟨⟨slot,a,b⟩,c⟩ hk=>⟨⟨slot,hk I (by simp) _ a,b⟩,hk S (by simp) _ c⟩
 item:=fun k s Q E hk st hQ=>by
  have:k=0:=by omega
  clear hk
  subst this
  nomatch Za1 st,st
  intro zt0_0 c
  nomatch ad zt0_0,zt0_0
  intro slot a b
  rcases b with ⟨_,rfl⟩ | ⟨e,_⟩
  ·refine yu hl a c fun h' slot' hsb hc hI=>?_
   exact hQ v h' s.toks rfl ⟨⟨slot',hI,.inr ⟨rfl,hc⟩⟩,hsb.extBut S _ hne c⟩ fun b o hb e=>hsb.extBut b o (fun h=>hb (by simp [h])) e
  ·cases e
 done:=fun s Q E st hQ=>by
  nomatch Za1 st,st
  intro zt1_0 c
  nomatch ad zt1_0,zt1_0
  intro slot a b
  rcases b with ⟨e,_⟩ | ⟨_,b⟩
  ·cases e
  ·exact pE hh hl a c b fun h' he=>hQ h' s.toks fun b o hb e=>he b o (fun h=>hb (by simp [h])) e
 self:=fun k s Q E st hQ=>by
  refine Za1 st fun zt2_0 c=>?_
  refine ad zt2_0 fun slot a b=>?_
  have hT:s.TypeIs (.ref I) "set_iterator":=⟨_,a,rfl⟩
  refine wpAny_pyIter_slot hT iG (wpAny_call_entry iG hT ly ?_ (mO _))
  refine (?_:wpAny _ _ (ret (.ref I)) _ _ s)
  exact ZP ⟨_,rfl, "set_iterator",_,hT,slot_setit_next.lookup,hQ⟩
theorem qx {S:Addr} {led:Bool} {hs:Int} {v:Value} {ep i:Nat} {Q:List Value->Shared->Prop} (hh:A.handled=none) (hl:led=true∨w.params.followText "set-order" = true) (ho:s.heap.get? S=some (j2 led hs v ep i))
  (hQ:∀ h' tk,s.toks≤tk->(∀ b o,s.heap.get? b=some o->h'.get? b=some o)->Q [v] { s with heap:=h',toks:=tk }):wpAny (model prog w) A (collect (.ref S)) Q E s:=by
 have hSlt:=Heap.lt_size ho
 have hT:s.TypeIs (.ref S) "set":=⟨_,ho,rfl⟩
 unfold collect
 refine ZB (wpAny_runValue (codeAny_builtin PySem.F.entry_proto_collect ?_))
 rw [Around.under_plainId PySem.F.plain_proto_collect _]
 refine (?_:wpAny _ A.in1 (newList [] >>= fun l=>again (.builtin "list.__iadd__" ⟨[l,.ref S],[]⟩)) _ _ s)
 refine ZB (wpAny_newObj_type ?_)
 refine ZP ⟨plainId_quiet PySem.F.plain_list_iadd _,codeAny_builtin PySem.F.entry_list_iadd ?_⟩
 rw [Around.under_plainId PySem.F.plain_list_iadd _]
 have ho1:(s.heap.push { cls:=.type "list",data:=.seq ([]:List Value).toArray }).get? S=some (j2 led hs v ep i):=Heap.get?_push_of_some _ ho
 have hL1:(s.heap.push { cls:=.type "list",data:=.seq ([]:List Value).toArray }).get? s.heap.objs.size=some { cls:=.type "list",data:=.seq ([]:List Value).toArray }:=Heap.get?_push_size _ rfl
 have h1:Builtin.List.listSameRef (.ref s.heap.objs.size) (.ref S)=false:=by simp [Builtin.List.listSameRef,Nat.ne_of_gt hSlt]
 refine (?_:wpAny _ A.in1 (Builtin.List.listExtendWith (.ref s.heap.objs.size) (.ref S) (.ref s.heap.objs.size)) _ _ _)
 unfold Builtin.List.listExtendWith
 refine ZB (wpAny_typeOf (T:="set") ⟨_,ho1,rfl⟩ ?_)
 rw [if_neg (by rw [h1]; decide)]
 refine ZB (sJ ho1 ?_)
 refine ZB (wpAny_holding ?_)
 unfold Builtin.List.listLengthHint
 have ho2:=Heap.get?_push_of_some (jB 0 0 S ep) ho1
 refine ZB (wpAny_specialOf (T:="set") ⟨_,ho2,rfl⟩ Dz ?_)
 (generalize hid:("set.__len__" : String)=id0; (fail_if_success (clear hid id0)); wp_delta; rw [show splitId id0=some ("set", "__len__") from by subst hid; decide +kernel]; subst hid)
 refine ZB (wpAny_isInstance (T:="set") (b:=true) ⟨_,ho2,rfl⟩ (by rw [isSubtype_type]; kernel_rfl) ?_)
 refine ZB (wpAny_typeOf (T:="set") ⟨_,ho2,rfl⟩ ?_)
 refine ZP ?_
 rw [if_pos (by rfl)]
 refine ZB (wpAny_rule ?_)
 refine ZB ?_
 unfold Builtin.List.listTouch
 have hL2:((s.heap.push { cls:=.type "list",data:=.seq ([]:List Value).toArray }).push (jB 0 0 S ep)).get? s.heap.objs.size=some { cls:=.type "list",data:=.seq (#[]:Array Value) }:=Heap.get?_push_of_some _ hL1
 refine ZB (listUpdate_at hL2 rfl ?_ (Nat.zero_le _) (by show 1≤_; omega))
 have hL3:=Heap.get?_update_self (Obj.mapSeq (·.push .none)) hL2 rfl
 refine listUpdate_at (xs:=#[.none]) (n:=1) hL3 rfl ?_ (by show 1≤_; rw [sizeLine_eq]; decide) (Nat.zero_le _)
 have hL4:=Heap.get?_update_self (Obj.mapSeq (·.pop)) hL3 rfl
 have hI2:((s.heap.push { cls:=.type "list",data:=.seq ([]:List Value).toArray }).push (jB 0 0 S ep)).get? (s.heap.push { cls:=.type "list",data:=.seq ([]:List Value).toArray }).objs.size=some (jB 0 0 S ep):=Heap.get?_push_size _ rfl
 have hsz:(s.heap.push { cls:=.type "list",data:=.seq ([]:List Value).toArray }).objs.size=s.heap.objs.size+1:=Heap.size_push ..
 rw [hsz] at hI2
 have u:=(Heap.SameBut.update ((s.heap.push { cls:=.type "list",data:=.seq ([]:List Value).toArray }).push (jB 0 0 S ep)) s.heap.objs.size (Obj.mapSeq (·.push .none))).trans (Heap.SameBut.update _ s.heap.objs.size (Obj.mapSeq (·.pop)))
 have hI4:=u.extBut (s.heap.objs.size+1) _ (Nat.succ_ne_self _) hI2
 have hS4:=u.extBut S _ (Nat.ne_of_lt hSlt) ho2
 refine ZP ⟨plainId_quiet PySem.F.plain_extend_loop _,?_⟩
 rw [show (Value.ref ({ s with heap:=s.heap.push { cls:=.type "list",data:=.seq ([]:List Value).toArray } }:Shared).heap.objs.size) = .ref (s.heap.objs.size+1) from congrArg Value.ref hsz]
 refine codeAny_extend_loopS (t5 (A:=A.in1) hh (s.heap.objs.size+1) S (Nat.ne_of_lt (Nat.lt_succ_of_lt hSlt)) hl hs v ep i).toS (by rw [sizeLine_eq]; decide) s.heap.objs.size (by intro hm; rcases List.mem_cons.mp hm with e | hm; exact absurd e (Nat.ne_of_lt (Nat.lt_succ_self _)); exact absurd (List.mem_singleton.mp hm) (Nat.ne_of_gt hSlt)) _ 1 0 _ #[] 2 rfl (Nat.zero_le _) ⟨(am 0 hI4 (.inl ⟨rfl,rfl⟩)),hS4⟩ hL4 (ItemsOf.nil _) fun s' acc' c' hm hS' hacc=>?_
 refine (?_:wpAny _ A (load s.heap.objs.size >>= _) _ _ s')
 refine ZB (wpAny_load hS' ?_)
 have:acc'.toList=[v]:=by
  have h0:=hacc.1
  have:acc' = #[acc'[0]]:=by
   apply Array.ext
   ·simp [h0]
   ·intro k h1 h2
    have:k=0:=by omega
    subst this; rfl
  rw [this]
  have:=hacc.2 0 (acc'[0]) (by simp [h0])
  simp [this]
 refine (?_:wpAny _ _ (pure acc'.toList) _ _ _)
 rw [this]
 obtain ⟨hp,g,d,tk,os⟩:=s'
 have e1:g=s.gens:=hm.gens
 have e2:d=s.drawn:=hm.drawn
 have e3:os=s.os:=hm.os
 subst e1; subst e2; subst e3
 refine ZP (hQ hp tk hm.toks fun b o hb=>?_)
 have hlt:=Heap.lt_size hb
 refine hm.heap b o (fun hm'=>?_) (u.extBut b o (Nat.ne_of_lt hlt) (Heap.get?_push_of_some _ (Heap.get?_push_of_some _ hb)))
 rcases List.mem_cons.mp hm' with e | hm'
 ·exact absurd e (Nat.ne_of_lt hlt)
 ·exact absurd (List.mem_singleton.mp hm') (Nat.ne_of_lt (Nat.lt_succ_of_lt hlt))
end
section
variable {C:Cx} {X:Sc} {B:Bz} {f:Fm} {env:Env} {ρ:List Addr} {Z:Fz} {H H':HP} {s:Shared} {A:Around}
theorem AOk.in2 {dp:Nat} (h:AOk (dp+1) A):AOk dp A.in1.in1:=⟨h.hd,by have:=h.dep; show A.depth+4 * dp+20≤1000; omega,by have:=h.un; show A.units+1+1+20 * dp+100≤9900; omega⟩
def Fp (v:AV) (k:SS->Bool):Bool:=@AV.rec (fun _=>(SS->Bool)->Bool) (fun k=>false) (fun b k=>false) (fun i k=>false) (fun s k=>false) (fun j k=>false) (fun v k=>false) (fun l _ k=>false) (fun k=>false) (fun a b _ _ k=>bO a fun x=>@AV.rec (fun _=>Bool) false (fun b=>false) (fun i=>false) (fun s=>false) (fun j=>false) (fun v=>false) (fun l _=>false) (k x) (fun a b _ _=>false) (fun c j=>false) (fun _ _ _=>false) (fun _ _ _=>false) (fun a b c=>false) (fun a b c _ _ _=>false) (fun _=>false) (fun _ _=>false) (fun _ _ _=>false) false (fun _=>false) (fun _ _=>false) (fun _=>false) (fun _=>false) (fun _=>false) b) (fun c j k=>false) (fun _ _ _ k=>false) (fun _ _ _ k=>false) (fun a b c k=>false) (fun a b c _ _ _ k=>false) (fun _ k=>false) (fun _ _ k=>false) (fun _ _ _ k=>false) (fun k=>false) (fun _ k=>false) (fun _ _ k=>false) (fun _ k=>false) (fun _ k=>false) (fun _ k=>false) v k
theorem t6 {v:AV} {k:SS->Bool} (h:Fp v k=true):∃ a x,v = .tcons a .tnil∧(a = .str x∨a = .lit x)∧k x=true:=by
 induction v using AV.casesOn with
 | tcons a b =>
  nomatch ad (aC (show bO a _=true from h)),h
  intro x ix h1
  induction b using AV.casesOn<;>first | exact (aK a x rfl ix h1) | exact ffE h1
 | _=>exact ffE h
def uo (c:DCv) (fav sv:AV) (dp:Nat) (H:HP) (k:AV->HP->Bool):Bool:=Fp sv fun x=>nr false (fun dp=>c fav [.str x] dp H fun _ H=>mP [.str x] H k) dp
theorem yT {c:DCv} {fav:AV} {x:SS} {q a:Addr} {v:Value} {n dp:Nat} {k:AV->HP->Bool} {P:PySem.Fin->Shared->Prop} {E:Value->Shared->Prop} (hc:SV C 1 c) (hd:c fav [.str x] dp H k=true) (hA:AOk dp A) (ok:OK C X B f env ρ Z H s) (rf:VRel C.σ ρ Z fav (.ref q)) (rv:VRel C.σ ρ Z (.str x) v)
  (hl:s.heap.get? a=some (seqObj "list" #[v] n)) (ha:Own B env.locals ρ Z a)
  (hQ:∀ ρ' Z' H' s' b e,Ext ρ Z ρ' Z'->OK C X B f env ρ' Z' H' s'->s'.heap.get? a=some (seqObj "list" #[v] e)->Own B env.locals ρ' Z' a->k b H'=true->P (.done (.ret .none)) s'):wpAny (model C.prog C.w) A (Builtin.«list.sort» ⟨[.ref a],[(Str.ofString "key",.ref q)]⟩) P E s:=by
 rw [ksk_t1]
 have halt:a<s.heap.objs.size:=Heap.lt_size hl
 unfold ksk_tree
 refine ZB (listItems_at hl rfl ?_)
 refine ZB (listUpdate_at hl rfl ?_ (by show 1≤_; rw [sizeLine_eq]; decide) (Nat.zero_le _))
 have zh4:∃ e1,(s.heap.update a (Obj.mapSeq fun _=>(#[]:Array Value))).get? a=some (seqObj "list" #[] e1):=⟨_,get?_update_seq hl fun _=>#[]⟩
 nomatch Ze1 zh4,zh4
 intro e1 ho1
 have ok1:=ok.extBut (it:=a) (Heap.SameBut.update s.heap a (Obj.mapSeq fun _=>(#[]:Array Value))).extBut ha.1 ha.2.1 ha.2.2.1 ha.2.2.2
 have hs1:(s.heap.update a (Obj.mapSeq fun _=>(#[]:Array Value))).objs.size=s.heap.objs.size:=Heap.size_update ..
 generalize s.heap.update a (Obj.mapSeq fun _=>(#[]:Array Value))=h1 at *
 refine ZB (seqEpoch_at ho1 rfl ?_)
 refine ZB (wpAny_newTuple ?_ (by show 1≤_; rw [sizeLine_eq]; decide))
 have ok2:=ok1.waste (seqObj "tuple" [v].toArray 0)
 have ho2:(h1.push (seqObj "tuple" [v].toArray 0)).get? a=some (seqObj "list" #[] e1):=Heap.get?_push_of_some _ ho1
 have hs2:(h1.push (seqObj "tuple" [v].toArray 0)).objs.size=s.heap.objs.size+1:=by rw [Heap.size_push,hs1]
 refine (?_:wpAny _ _ _ _ _ { s with heap:=h1.push (seqObj "tuple" [v].toArray 0) })
 generalize h1.push (seqObj "tuple" [v].toArray 0)=h2 at *
 refine ZB (wpAny_newList ?_ (Nat.zero_le _))
 refine (?_:wpAny _ _ _ _ _ { s with heap:=h2.push (seqObj "list" #[] 0) })
 have hK:h2.objs.size=s.heap.objs.size+1:=hs2
 nomatch Za1 (OK.own ok2 (seqObj "list" #[] 0) rfl),ok2
 intro ok3 hP
 nomatch Za1 (i0 hP),hP
 intro hS hO
 have ho3:(h2.push (seqObj "list" #[] 0)).get? a=some (seqObj "list" #[] e1):=Heap.get?_push_of_some _ ho2
 have hne:a ≠ h2.objs.size:=by rw [hK]; exact Nat.ne_of_lt (Nat.lt_succ_of_lt halt)
 refine (?_:wpAny _ _ (holding _ (ksk_rest a (.ref q) false #[v] e1 (.ref h2.objs.size))) _ _ _)
 generalize h2.objs.size=K at *
 change OK C X B f env ρ Z H { s with heap:=h2.push (seqObj "list" #[] 0) } at ok3
 change (h2.push (seqObj "list" #[] 0)).get? K=_ at hS
 change Own B env.locals ρ Z K at hO
 generalize h2.push (seqObj "list" #[] 0)=h3 at *
 refine wpAny_holding ?_
 unfold ksk_rest
 refine ZB (wpAny_rule ?_)
 rw [← Array.forIn_toList]
 refine (?_:wpAny _ _ (forIn [v] PUnit.unit _ >>= _) _ _ _)
 rw [List.forIn_cons]
 have hPP:Pv B env.locals ρ Z { s with heap:=h3 } [(a,seqObj "list" #[] e1),(K,seqObj "list" #[] 0)]:=by
  intro p hp
  rcases List.mem_cons.mp hp with rfl | hp
  ·exact ⟨ho3,ha⟩
  ·rw [List.mem_singleton.mp hp]; exact ⟨hS,hO⟩
 refine ZB (ZB (ZB (wpAny_attempt (hc _ _ _ _ _ _ _ _ _ _ _ _ _ _ _ hd hA (ok3.priv hPP) rf (.cons rv .nil) rfl _ _ fun ρ₁ Z₁ H₁ s₁ b kv e₁ ok₄ rq4 hk=>?_))))
 obtain ⟨ok₄,hP4⟩:=ok₄.unpriv (fun a o e=>ok.g.base a o e) (fun p hp o=>by
  rcases List.mem_cons.mp hp with rfl | hp
  ·exact ha.2.1 o
  ·rw [List.mem_singleton.mp hp]; exact hO.2.1 o)
 have zh7:s₁.heap.get? a=some (seqObj "list" #[] e1)∧Own B env.locals ρ₁ Z₁ a:=⟨(hP4 _ (.head _)).1,(hP4 _ (.head _)).2⟩
 refine Za1 zh7 fun ha4 hOa=>?_
 have zh8:s₁.heap.get? K=some (seqObj "list" #[] 0)∧Own B env.locals ρ₁ Z₁ K:=⟨(hP4 _ (.tail _ (.head _))).1,(hP4 _ (.tail _ (.head _))).2⟩
 refine Za1 zh8 fun hK4 hOK=>?_
 refine (?_:wpAny _ _ (Builtin.List.listUpdate (.ref K) (·.push kv) >>= _) _ _ _)
 refine ZB (listUpdate_at hK4 rfl ?_ (Nat.zero_le _) (by show 1≤_; omega))
 refine ZP ?_
 refine (?_:wpAny _ _ (forIn [] PUnit.unit _) _ _ _)
 rw [List.forIn_nil]
 refine ZP ?_
 have zh9:∃ c2,(s₁.heap.update K (Obj.mapSeq fun x=>x.push kv)).get? K=some (seqObj "list" (#[].push kv) c2):=⟨_,get?_update_seq hK4 (·.push kv)⟩
 refine Ze1 zh9 fun c2 hc2=>?_
 have sb5:=Heap.SameBut.update s₁.heap K (Obj.mapSeq fun x=>x.push kv)
 have ha5:=sb5.extBut a _ hne ha4
 have ok5:=ok₄.extBut (it:=K) sb5.extBut hOK.1 hOK.2.1 hOK.2.2.1 hOK.2.2.2
 refine (?_:wpAny _ _ _ _ _ { s₁ with heap:=s₁.heap.update K (Obj.mapSeq fun x=>x.push kv) })
 generalize s₁.heap.update K (Obj.mapSeq fun x=>x.push kv)=h5 at *
 refine ZB (listItems_at hc2 rfl ?_)
 unfold ksk_end
 try dsimp only
 rw [if_neg Bool.false_ne_true,if_pos (show (#[v]:Array Value).size<2 from Nat.lt_succ_self 1),if_pos (show (#[v]:Array Value).size<2 from Nat.lt_succ_self 1)]
 refine ZB (ZP ?_)
 rw [StateT.run_pure]
 refine ZB (ZP ?_)
 unfold ksk_tail
 try dsimp only
 refine ZB (listUpdate_at hc2 rfl ?_ (by show 1≤_; rw [sizeLine_eq]; decide) (Nat.zero_le _))
 have sb6:=Heap.SameBut.update h5 K (Obj.mapSeq fun _=>(#[]:Array Value))
 have ha6:=sb6.extBut a _ hne ha5
 have ok6:=OK.extBut ok5 (it:=K) sb6.extBut hOK.1 hOK.2.1 hOK.2.2.1 hOK.2.2.2
 refine (?_:wpAny _ _ _ _ _ { s₁ with heap:=h5.update K (Obj.mapSeq fun _=>(#[]:Array Value)) })
 generalize h5.update K (Obj.mapSeq fun _=>(#[]:Array Value))=h6 at *
 refine ZB (wpAny_letGo ?_)
 refine ZB (seqEpoch_at ha6 rfl ?_)
 simp only [Bool.false_eq_true,if_false]
 have hm:Array.map (fun x:Keyed=>x.snd) (arrOf (SortSt.mk' general' ((#[].push kv).zip #[v]) #[] 7 none)) = #[v]:=by
  refine (?_:((#[].push kv).zip #[v]).map (fun x:Value × Value=>x.snd) = #[v])
  apply Array.ext'
  simp
 rw [hm]
 refine ZB (listUpdate_at ha6 rfl ?_ (Nat.zero_le _) (by show 1≤_; omega))
 rw [bne_self_eq_false,if_neg Bool.false_ne_true]
 have zh10:∃ c7,(h6.update a (Obj.mapSeq fun _=>(#[v]:Array Value))).get? a=some (seqObj "list" #[v] c7):=⟨_,get?_update_seq ha6 fun _=>#[v]⟩
 refine Ze1 zh10 fun c7 hc7=>?_
 have ok7:=OK.extBut ok6 (it:=a) (Heap.SameBut.update h6 a (Obj.mapSeq fun _=>(#[v]:Array Value))).extBut hOa.1 hOa.2.1 hOa.2.2.1 hOa.2.2.2
 exact ZP (hQ _ _ _ { s₁ with heap:=h6.update a (Obj.mapSeq fun _=>(#[v]:Array Value)) } _ c7 e₁ ok7 hc7 hOa hk)
theorem uP {c:DCv} {fav sv:AV} {q:Addr} {w:Value} {dp:Nat} {k:AV->HP->Bool} {Q:Value->Shared->Prop} {E:Value->Shared->Prop} (hc:SV C 1 c) (hd:uo c fav sv dp H k=true) (hA:AOk dp A) (ok:OK C X B f env ρ Z H s) (rf:VRel C.σ ρ Z fav (.ref q)) (rs:VRel C.σ ρ Z sv w)
  (hQ:∀ ρ' Z' H' s' b a,Ext ρ Z ρ' Z'->OK C X B f env ρ' Z' H' s'->VRel C.σ ρ' Z' b a->k b H'=true->Q a s'):wpAny (model C.prog C.w) A (call (.builtin "sorted") [w] [(Str.ofString "key",.ref q)]) Q E s:=by
 nomatch ay (t6 hd),hd
 intro a x zq2 ix hd
 subst zq2
 induction dp using Nat.casesAuxOn with
 | zero=>exact ffE hd
 | succ dp =>
  have key:∃ S o,w = .ref S∧Z.ob S o∧Gu C.σ.bt o (aw C.σ x):=by
   clear hQ
   rcases rs.inv with ⟨x',S,o,e1,_,e2,z1,z2⟩ | ⟨e1,_,_⟩
   ·have:x'=x:=by subst e1; rcases ix with e | e<;>cases e; rfl
    subst this
    exact (aK S o e2 z1 z2)
   ·subst e1; rcases ix with e | e<;>cases e
  nomatch ay key,key,rs,ix
  intro S o zq1 z1 z2
  subst zq1
  nomatch Ze4 z2,z2
  intro hh t ep i zw0
  nomatch ad zw0,zw0
  intro led zq5 hl
  subst zq5
  rw [C.hbt] at hl
  have hS:=ok.g.z _ _ z1
  refine call_function_entry_kw kind_sorted plain_sorted entry_sorted (ksk_s1 _ _) ?_
  unfold Builtin.«sorted»
  refine ZB (m:=checkCount "sorted" 1 1 _) (ZP ?_)
  refine ZB (qx (A:=A.in1) hA.hd hl hS fun h1 tk1 ht1 hk1=>?_)
  refine ZB (wpAny_newList ?_ (by show 1≤_; rw [sizeLine_eq]; decide))
  have ok1:=ok.grown hk1 ht1
  generalize hv:(Value.str (aw C.σ x) t)=v at *
  have rv:VRel C.σ ρ Z (.str x) v:=hv ▸ .str ..
  refine Za1 (ok1.own (seqObj "list" #[v] 0) rfl) fun ok2 hP=>?_
  refine Za1 (i0 hP) fun hL hO=>?_
  change h1.push (seqObj "list" #[v] 0) |>.get? h1.objs.size |> (· = some (seqObj "list" #[v] 0)) at hL
  have h1n:h1.objs.size ≠ 1:=ok1.g.fresh1 (Nat.le_refl _)
  refine (?_:wpAny _ _ (holding [.ref h1.objs.size] (call (.builtin "list.sort") [.ref h1.objs.size] [(Str.ofString "key",.ref q)]) >>= fun _=>ret (.ref h1.objs.size)) _ _ { s with heap:=h1.push (seqObj "list" #[v] 0),toks:=tk1 })
  refine ZB (wpAny_holding (wpAny_call_entry_kw slot_list_sort ⟨_,hL,rfl⟩ entry_list_sort ?_ (ksk_l1 _ _)))
  refine yT hc hd hA.in2 ok2 rf rv hL hO fun ρ' Z' H' s' b e e1 ok3 hl3 hO3 hk=>(am _ rfl (ZP (am _ rfl (?_))))
  refine cJ (eI hk) fun H'' g1 g2 g3 g4=>?_
  refine Za1 (ok3.adoptL (vs:=[v]) (ep:=e) (n:=1) (rx:=[.str x]) hl3 ⟨hO3.1,hO3.2.1,hO3.2.2.1,hO3.2.2.2⟩ h1n g3 g4 (.cons (rv.ext e1) .nil) rfl) fun o1 o2=>?_
  exact hQ _ _ _ _ _ _ (e1.trans Ext.snoc) o1 o2 g2
end
section
variable {C:Cx} {X X':Sc} {B:Bz} {f:Fm} {env:Env} {ρ:List Addr} {Z:Fz} {H H':HP} {s:Shared} {A:Around}
structure LamOK (C:Cx) (X:Sc) (id jt:Nat) (c P:Addr) (T:FnT) (body:Ex) (pos:Pos):Prop where
 cd:X.cd = .ref c
 hd:CodeHd C.G c P
 tab:C.tabs[jt]?=some P
 fn:C.σ.fns id=some T
 line:T.line=pos.line
 col:T.col=pos.col
 notg:mainGlobals ≠ P
 qual:T.qual=X.qual++"<lambda>"
 body:T.body = .expr body
 noct:T.ctab=[]
 nof:∀ x∈T.scope.names,x.2 ≠ .free
def IG (id jt:Nat):D:=fun _ _ H k=>AA id jt [] H k
theorem GH {id jt:Nat} {c P:Addr} {T:FnT} {params:Arguments} {body:Ex} {scope:Scope} {pos:Pos} (hD:LamOK C X id jt c P T body pos) (hp:T.params=params) (hsc:T.scope=scope) (hdef:∀ env,defaultsOf params env=([],[])) :
  SE C X (.Lambda params body scope pos) (IG id jt):=by
 intro dp f H k A env B ρ Z s hd hA ok Q E hQ
 subst hp; subst hsc
 refine kla_eval (hdef env) ?_
 have hq:env.qual++Str.ofString "<lambda>" = T.qual:=by rw [ok.f.qual,hD.qual]
 have hcl:closureFor T.scope env=pure (dr env T.scope.names):=ft fun x hx hf=>absurd hf (hD.nof x hx)
 have hclos:∀ ρ':List Addr,∀ (k:Nat) (x:Str) (j:Nat),T.ctab[k]?=some x->([]:List Nat)[k]?=some j->∃ b,(dr env T.scope.names).lookup x=some b∧ρ'[j]?=some b:=fun ρ' k x j _ h=>by simp at h
 refine ad (HP.getK_true hd) fun ao h1 h2=>?_
 have hP:=ok.g.tabs jt P hD.tab
 refine ay (ok.g.obj jt P hP) fun ao' oP e1 e2 e3=>?_
 rw [h1] at e1
 injections e1
 have hCH:CodeHd s.heap c P:=hD.hd.keeps fun b o e=>ok.g.b b o (ok.g.base b o e)
 have hbm:s.heap.BuiltinsAt C.mg P:=(C.bma P (ZbM hD.tab)).keeps fun b o e=>ok.g.b b o (ok.g.base b o e)
 have hcode:env.code = .ref c:=by rw [ok.f.cd]; exact hD.cd
 refine (?_:wpAny _ _ (makeFunction "<lambda>" (env.qual++Str.ofString "<lambda>") _ _ _ _ _ _ _ _ _) _ _ _)
 rw [hq]
 have hfn:∀ (cl:List (Str × Addr)) (pm cv ct:Value),kla_fn "<lambda>" T.qual T.params body T.scope cl pm cv ct=iK T "<lambda>" cl .none pm cv ct:=by
  intro cl pm cv ct
  unfold iK
  rw [hD.body]
 induction ao using AO.casesOn with
 | tab e =>
  induction e using Option.casesOn with
  | none =>
   have hoP:oP=tabObj #[]:=e3
   clear e3
   subst hoP
   change H.set jt (.tab (some id)) (fun H=>k (.fn id []) H)=true at h2
   nomatch aU (HP.set_spec h2),h2
   intro H' g1 g2 g3
   refine wpAny_with_toks (n:=s.toks) (Nat.le_refl _) (kla_makeFunction hcl ok.f.gl ok.glob hcode hCH e2 trivial rfl hD.notg hbm fun c' ctv h' tk hx hge hlt hrec htb ht=>?_)
   nomatch Ze4 hrec,hrec
   intro cq2 oc vs t zw0
   nomatch Za3 zw0,zw0
   intro q1 q2 q3 q4
   cases q1
   have ok1:=ok.updExt (t:=tk) (j:=jt) (ao:=.tab (some id)) g2 g3 hP hx htb q2 hge ⟨T,c',oc,vs,t,hD.fn,by rw [hD.line,hD.col]; rfl,Fz.add_here,q3,q4⟩ ht
   have ok2:=ok1.freeze (o:={ cls:=.type "function",data:=.func (iK T "<lambda>" (dr env T.scope.names) .none ((C.mg "__name__").getD .none) (.ref c') ctv) }) rfl
   rw [show kla_obj "<lambda>" T.qual T.params body T.scope (dr env T.scope.names) ((C.mg "__name__").getD .none) c' ctv = { cls:=.type "function",data:=.func (iK T "<lambda>" (dr env T.scope.names) .none ((C.mg "__name__").getD .none) (.ref c') ctv) } from by rw [← hfn]]
   exact hQ ρ ((Z.add c' oc).add h'.objs.size _) H' _ (.fn id []) _ ⟨List.prefix_refl _,⟨fun a o e=>Or.inl (Or.inl e),fun t v e=>e⟩⟩ ok2 (.fn (doc:=.none) (ct:=ctv) (nm:="<lambda>") (pm:=(C.mg "__name__").getD .none) hD.fn Fz.add_here (Or.inl Fz.add_here) q3 q4 (hclos ρ)) g1
  | some i =>
   refine Za1 (af h2) fun g0 g1=>?_
   have:=ZbE g0
   clear hd h2 g0
   subst this
   nomatch Ze4 e3,e3
   intro T' c' oc vs zw0
   nomatch cJ zw0,zw0
   intro u k1 zq6 k3 zw1
   nomatch Za1 zw1,zw1
   intro k4 k5
   subst zq6
   rw [hD.fn] at k1
   injections k1
   have hf:codeAmong pos (#[rawInt T.line,rawInt T.col,.ref c']:Array Value).toList=some (.ref c'):=by
    rw [hD.line,hD.col]
    simp [codeAmong,rawInt]
   refine wpAny_with_toks (n:=s.toks) (Nat.le_refl _) (kla_makeFunctionHit hcl ok.f.gl ok.glob hcode hCH e2 trivial hf hbm fun ctv h' tk hk _ ht=>?_)
   have ok1:=ok.grown (t:=tk) hk ht
   have ok2:=ok1.freeze (o:={ cls:=.type "function",data:=.func (iK T "<lambda>" (dr env T.scope.names) .none ((C.mg "__name__").getD .none) (.ref c') ctv) }) rfl
   rw [hfn]
   exact hQ ρ (Z.add h'.objs.size _) H _ (.fn i []) _ Ext.fz ok2 (.fn (doc:=.none) (ct:=ctv) (nm:="<lambda>") (pm:=(C.mg "__name__").getD .none) hD.fn Fz.add_here (Or.inl k3) k4 k5 (hclos ρ)) g1
 | _=>exact ffE h2
def Fi (id:Nat) (lay:List (Option Nat)) (d:D):DCv:=fun fav args dp H k=>xf fav fun i cs=>aB (Nat.beq i id) (nr false (fun dp=>q7 args lay fun loc=>d dp ⟨loc,cs⟩ H k) dp)
structure CloOKE (C:Cx) (id:Nat) (T:FnT) (body:Ex) (tab:List Str) (n:Nat) (pn:List Str) (lay:List (Option Nat)):Prop where
 fn:C.σ.fns id=some T
 body:T.body = .expr body
 kind:T.scope.kind = .function
 co:T.scope.isCoroutine=false
 gen:T.scope.isGenerator=false
 nocell:∀ x∈T.scope.names,x.2 ≠ .cell
 bind:∀ nm cl doc pm cv ct (vals:List Value),vals.length=n->∀ K S,peek K S (bindArgs (iK T nm cl doc pm cv ct) ⟨vals,[]⟩)=some (pn.zip vals)
 pnd:pn.Nodup
 kinds:∀ x∈pn,T.scope.names.lookup x=some .local
 lay:∀ (k i:Nat) x,lay[k]?=some (some i)->tab[k]?=some x->pn[i]?=some x
theorem Dw {id:Nat} {T:FnT} {body:Ex} {tab:List Str} {n:Nat} {pn:List Str} {lay:List (Option Nat)} {d:D} (F:CloOKE C id T body tab n pn lay) (hd:∀ cd,SE C ⟨T.scope,tab,T.ctab,cd,T.qual++".<locals>."⟩ body d):SV C n (Fi id lay d):=by
 intro X dp f H k A env B ρ Z s fav fv args vals hc hA ok rf hv hlen Q E hQ
 nomatch aE (jq hc),hc
 intro i cs zq2 h
 subst zq2
 refine Za1 (af h) fun h0 h1=>?_
 have:=ZbE h0
 clear h h0
 subst this
 induction dp using Nat.casesAuxOn with
 | zero=>exact ffE h1
 | succ dp =>
  replace h1:=iO h1
  refine Ze4 rf.inv fun a T' nm cl zw0=>?_
  nomatch Ze4 zw0,zw0
  intro doc pm ct c zw1
  nomatch bS zw1,zw1
  intro oc vs u zq11 k1 k2 k3 k4 zw2
  nomatch Za1 zw2,zw2
  intro k5 k6
  clear rf
  subst zq11
  rw [F.fn] at k1
  injections k1
  refine Ze1 ok.localsObj fun o ho=>?_
  have hfo:=ok.g.z _ _ k2
  refine wpAny_call (kla_callFunE (body:=body) hA.room hfo rfl F.co F.gen F.body ⟨c,oc,vs,u,rfl,ok.g.z _ _ k3,k4,k5⟩ ?_)
  refine kp_binds ok.K (F.bind nm cl doc pm _ ct vals (by rw [← hv.1]; exact hlen) _) _ _ _ _ ?_
  refine wpAny_newFunctionEnv F.nocell (fun x hx=>F.kinds x.1 (List.of_mem_zip hx).1) (fun h' hn hsb=>?_) F.kind
  have old:∀ b o,s.heap.get? b=some o->h'.get? b=some o:=fun b o e=>hsb.extBut b o (Nat.ne_of_lt (Heap.lt_size e)) (Heap.get?_push_of_some _ e)
  refine ⟨ok.nolimit.keeps old,kla_codeExpr ?_⟩
  have ok':=ok.enterG (X':=⟨T.scope,tab,T.ctab,.ref c,T.qual++".<locals>."⟩) (env':=newEnv T.scope s.heap.objs.size mainGlobals cl (T.qual++".<locals>.") (some a) (.ref c) none builtinsNs) (loc:=lV args lay) (cel:=cs) (t:=s.toks+(pn.zip vals).length) ho (Nat.le_refl _) old (Nat.le_add_right _ _) hn rfl rfl rfl rfl rfl (fun k x v hx hv'=>by
    intro z hz
    subst hz
    refine ad (lQ _ _ _ _ hv') fun j h1 h2=>?_
    refine ad (hv.get h2) fun w b1 b2=>?_
    exact (am w (iV F.pnd (F.lay k j x h1 hx) b1) b2)) k6
  refine hd (.ref c) dp _ H _ _ _ _ _ _ _ h1 (hA.deeper _) ok' _ _ (fun ρ2 Z₂ H₂ sq2 av v e₂ ok₂ r hkq2=>?_)
  exact hQ _ _ _ _ _ _ e₂ (ok.leave ho e₂.p e₂.z ok₂.g) r hkq2
def AZ (d dl:D) (c:DCv):D:=fun dp f H k=>d dp f H fun sv H=>dl dp f H fun fav H=>xf fav fun id cs=>uo c (.fn id cs) sv dp H k
theorem BN {x:Str} {p pos kp:Pos} {e l:Ex} {d dl:D} {c:DCv} (hk:X.sc.kind = .function) (hl:X.sc.names.lookup x=some .globalImplicit) (hg:C.GlobV x (.builtin "sorted")) (hd:(x==("__debug__" : Str))=false)
  (h1:SE C X e d) (h2:SE C X l dl) (he:∀ env,starEach [e] env=[(false,eval e env)]) (hc:SV C 1 c):SE C X (.Call (.Name x p) [e] [⟨some "key",l,kp⟩] pos) (AZ d dl c):=by
 intro dp f H k A env B ρ Z s hd' hA ok Q E hQ
 refine wpAny_Call_Name_kw (dg hk hl hg hd ok ?_)
 refine callWith_of (P:=fun _=>True) (by rw [he]; rfl) (fun h _=>(am .machine (.inr (.inl rfl)) (Looks.of_pure rfl))) ?_
 refine evalArgs_kw2 rfl (ac (ds:=an) h1 ah he _ _ _ (fun vs H=>gY vs fun sv=>dl dp f H fun fav H=>xf fav fun id cs=>uo c (.fn id cs) sv dp H k) _ _ _ _ _ _ hd' hA ok _ _ fun ρ₁ Z₁ H₁ s₁ vs vvs e₁ ok₁ r₁ hdq1=>?_) (he env)
 nomatch ad (bD hdq1 r₁.2),hdq1
 intro a0 zq1 hdq1
 subst zq1
 refine ad r₁.1.one fun v0 zq1 r0=>?_
 clear r₁
 subst zq1
 refine kwAll_cons (h2 _ _ _ _ _ _ _ _ _ _ hdq1 hA ok₁ _ _ fun ρ2 Z₂ H₂ sq2 a1 v1 e₂ ok₂ r₂ hdq2=>?_)
 refine kwAll_nil ⟨trivial,?_⟩
 nomatch aE (jq hdq2),hdq2
 intro id cs zq2 hdq2
 subst zq2
 have r2':=r₂
 refine Ze4 r₂.inv fun a T' nm cl zw0=>?_
 nomatch Ze4 zw0,zw0
 intro doc pm ct c' zw1
 nomatch bS zw1,zw1
 intro oc vs u zq11 k1 k2 k3 k4 zw2
 nomatch Za1 zw2,zw2
 intro k5 k6
 clear r₂
 subst zq11
 exact uP hc hdq2 hA ok₂ r2' (r0.ext e₂) fun ρ3 Z3 H3 s₃ b vb e₃ ok₃ r₃ hkq3=>hQ _ _ _ _ _ _ ((e₁.trans e₂).trans e₃) ok₃ r₃ hkq3
end
end Mine
namespace Mine
open PySem PySem.W PySem.Calls PyProof.Rows
section
variable {prog:Program} {w:World} {A:Around} {E:Value->Shared->Prop} {s:Shared} {R:Result->Shared->Prop} {I:Addr} {fp wr:List Addr} {G:Array GenState->Array GenState->Prop} {n:Nat} {P:Nat->Value->Prop} {St:Nat->Shared->Prop}
theorem qT {x:Str} {t:Tok} (W:WalksS prog w A.in1 I fp wr G n P St) (S:Addr) (hSf:S ∉ fp) (hn:n=1) (hval:∀ v,P 0 v->v = .str x t) (s:Shared) (hst:St 0 s)
  (hS:s.heap.SetOf (PySem.strKind prog w) S (fun _=>false) 0) (hR:∀ s',Moved (S :: wr) G s s'->s'.heap.SetOf (PySem.strKind prog w) S (fun k'=>decide (k'=x)) 1->R (.ok (.ret .none)) s') :
  codeAny (model prog w) A (.builtin "set.update.loop" ⟨[.ref S,.ref I],[]⟩) R s:=by
 subst hn
 have hSw:S ∉ wr:=fun h=>hSf (W.sub _ h)
 have hsub:∀ b∈wr,b∈S :: wr:=fun b hb=>List.mem_cons_of_mem _ hb
 refine codeAny_builtin PyProof.Rows.F.entry_set_update_loop ?_
 rw [Around.under_plainId PyProof.Rows.F.plain_set_update_loop _]
 refine (?_:wpAny _ A.in1 (pyNext (.ref I) >>= _) _ _ s)
 refine ZB (W.item 0 s _ _ (Nat.lt_succ_self 0) hst fun v s' hP hst' hm=>?_)
 cases hval v hP
 have hS':s'.heap.SetOf (PySem.strKind prog w) S (fun _=>false) 0:=by
  refine Ze4 hS fun o es ep tb zw0=>?_
  refine Za1 zw0 fun ho rest=>?_
  exact ⟨o,es,ep,tb,hm.heap S _ hSw ho,rest⟩
 refine (?_:wpAny _ A.in1 (holding [Value.str x t] (setAdd S (.str x t)) >>= _) _ _ s')
 refine ZB (wpAny_holding ?_)
 unfold setAdd
 refine wpAny_holding ?_
 refine ZB ((PySem.strKind prog w).pyHash (k:=x) (strKind_is prog w x t) ?_)
 refine wpAny_setAddHashed_of (knd:=PySem.strKind prog w) (s:={ s' with toks:=s'.toks+1 }) (strKind_is prog w x t) rfl hS' (by decide) fun h' hsb hS2=>?_
 have hSi:h'.SetOf (PySem.strKind prog w) S (fun k'=>decide (k'=x)) 1:=by simpa using hS2
 refine ZP ⟨plainId_quiet PyProof.Rows.F.plain_set_update_loop _,codeAny_builtin PyProof.Rows.F.entry_set_update_loop ?_⟩
 rw [Around.under_plainId PyProof.Rows.F.plain_set_update_loop _]
 refine (?_:wpAny _ A.in1 (pyNext (.ref I) >>= _) _ _ _)
 have hst2:=W.frame _ s' h' (s'.toks+1) hst' (Nat.le_succ _) fun b hb o e=>by
  rw [hsb.2 b (fun h:b=S=>hSf (by rw [← h]; exact hb))]; exact e
 refine ZB (W.done _ _ _ hst2 fun s'' hm''=>?_)
 refine ZP (hR s'' (Moved.trans W.gtrans ((hm.mono hsub).then_heap (Nat.le_succ _) fun b o hb e=>?_) (hm''.mono hsub)) ?_)
 ·rw [hsb.2 b (fun h:b=S=>hb (by rw [h]; exact List.mem_cons_self))]; exact e
 ·refine Ze4 hSi fun o es ep tb zw0=>?_
  refine Za1 zw0 fun ho rest=>?_
  exact ⟨o,es,ep,tb,hm''.heap S _ hSw ho,rest⟩
theorem qQ {l:Addr} {items:Array Value} {x:Str} {t:Tok} {Q:Value->Shared->Prop}
  (hh:A.handled=none) (hl:s.heap.IsList l items) (hit:items = #[.str x t])
  (h:∀ (h':Heap) (tk:Nat),h'.SetOf (PySem.strKind prog w) s.heap.objs.size (fun k'=>decide (k'=x)) 1 ->
   (∀ b o,b<s.heap.objs.size->s.heap.get? b=some o->h'.get? b=some o)->Q (.ref s.heap.objs.size) { s with heap:=h',toks:=tk }) :
  wpAny (model prog w) A (call (.type "set") [.ref l]) Q E s:=by
 refine Ze2 PySem.F.called_set.mro fun c tl hmro=>?_
 have hmade:=PySem.F.called_set.made
 have hsub:=PySem.F.called_set.sub
 refine wpAny_call (codeAny_of_tree ?_)
 refine (?_:wpAny _ _ (callAny (.type "set") _) _ _ _)
 refine ZP ⟨Code.quiet_builtin _ (by decide +kernel),codeAny_builtin PySem.F.entry_type_call ?_⟩
 rw [Around.under_plain (weight_type_call_type "set" [.ref l] []) rfl]
 have h1:=PySem.F.called_set.notType
 have h2:=PySem.F.called_set.canCreate
 have hct:=PySem.F.typeCall_set_1 (.ref l)
 repeat (any_goals (first | assumption | wp_step))
 refine codeAny_mono (code_set_new_1 (.ref l) (E:=E) (Q₁:=fun obj s₁=>∃ led:Bool,obj = .ref s.heap.objs.size∧s₁ = { s with heap:=s.heap.push { cls:=.type "set",dict:=none,data:=.set #[] 0 (.fresh 0 0 led) } }) fun led=>(am led rfl rfl)) fun r s₁ hr=>?_
 induction r using Except.casesOn with
 | error e=>exact hr
 | ok fl =>
  induction fl using PySem.Flow.casesOn with
  | ret obj =>
   nomatch ad hr,hr
   intro led zq1 zq2
   subst zq1
   subst zq2
   have hS:(s.heap.push { cls:=.type "set",dict:=none,data:=.set #[] 0 (.fresh 0 0 led) }).get? s.heap.objs.size=some { cls:=.type "set",dict:=none,data:=.set #[] 0 (.fresh 0 0 led) }:=Heap.get?_push_size _ rfl
   have hT:Shared.TypeIs { s with heap:=s.heap.push { cls:=.type "set",dict:=none,data:=.set #[] 0 (.fresh 0 0 led) } } (.ref s.heap.objs.size) "set":=⟨_,hS,rfl⟩
   have hli:=PySem.F.called_set.init.lookup
   have hbi:=PySem.F.called_set.init.bind (.ref s.heap.objs.size)
   repeat (any_goals (first | assumption | wp_step))
   refine codeAny_mono (codeAny_call_builtin (R:=wants (fun r sq2=>r = .none∧∃ h' tk,sq2 = { s with heap:=h',toks:=tk } ∧
     h'.SetOf (PySem.strKind prog w) s.heap.objs.size (fun k'=>decide (k'=x)) 1 ∧
     (∀ b o,b<s.heap.objs.size->s.heap.get? b=some o->h'.get? b=some o)) E) PySem.F.called_set.init.plain PySem.F.entry_set_init (check_set_init_1 hT ?_)) fun r₂ sq2 hr₂=>?_
   ·nomatch aU hl,hl
    intro ol hol hcl zw0
    nomatch Ze1 zw0,zw0
    intro nl hdl
    obtain ⟨ocls,odict,odata,oslots⟩:=ol
    simp only at hcl hdl
    subst hcl; subst hdl
    have hol':(s.heap.push { cls:=.type "set",dict:=none,data:=.set #[] 0 (.fresh 0 0 led) }).get? l=some { cls:=.type "list",dict:=odict,data:=.seq items nl,slots:=oslots }:=Heap.get?_push_of_some _ hol
    have hsls:=PySem.F.sub_list_set
    have hslf:=PySem.F.sub_list_frozenset
    have hne:(Value.type "list" == Value.type "dict")=false:=by decide
    have hl1:(s.heap.push { cls:=.type "set",dict:=none,data:=.set #[] 0 (.fresh 0 0 led) }).IsList l items:=⟨_,hol',rfl,nl,rfl⟩
    unfold Builtin.«set.__init__» noKeywords Builtin.Frozenset.updateFrom
    generalize hPI:pyIter=PI
    wp_walk
    subst hPI
    refine wpAny_pyIter_list hl1 ?_
    refine ZB (wpAny_runValue ?_)
    have hlS:l<s.heap.objs.size:=Heap.lt_size hol
    have hh3:A.in1.in1.in1.handled=none:=by simp [hh]
    have hneI:l ≠ (s.heap.push { cls:=.type "set",dict:=none,data:=.set #[] 0 (.fresh 0 0 led) }).objs.size:=by
     rw [Heap.size_push]; exact Nat.ne_of_lt (Nat.lt_succ_of_lt hlS)
    have hSf:s.heap.objs.size ∉ [(s.heap.push { cls:=.type "set",dict:=none,data:=.set #[] 0 (.fresh 0 0 led) }).objs.size,l]:=by
     rw [Heap.size_push]; simp only [List.mem_cons,List.not_mem_nil,or_false,not_or]
     exact ⟨Nat.ne_of_lt (Nat.lt_succ_self _),Nat.ne_of_gt hlS⟩
    refine qT (x:=x) (t:=t) ((Walks.list hh3 _ l hneI items).toS) s.heap.objs.size hSf (by rw [hit]; rfl) (fun v hv=>by rw [hit] at hv; exact (Option.some.inj hv).symm) _
     ⟨⟨_,Heap.get?_push_size _ rfl,rfl,rfl⟩,(hl1.push _)⟩ ?hS0 ?hR
    case hS0 =>
     have hget:((s.heap.push { cls:=.type "set",dict:=none,data:=.set #[] 0 (.fresh 0 0 led) }).push { cls:=.type "list_iterator",data:=.fields #[.ref l,.int 0 0] }).get? s.heap.objs.size
       = some { cls:=.type "set",dict:=none,data:=.set #[] 0 (.fresh 0 0 led) }:=Heap.get?_push_of_some _ hS
     exact (PyProof.Rows.setObjOf_fresh (knd:=PySem.strKind prog w) led).setOf hget (by unfold scanBound; omega)
    case hR =>
     intro s' hm hS'
     obtain ⟨h',g',d',tk',os'⟩:=s'
     have eg:g'=s.gens:=hm.gens
     have ed:d'=s.drawn:=hm.drawn
     have eo:os'=s.os:=hm.os
     subst eg; subst ed; subst eo
     refine (?_:wpAny _ _ _ _ _ _)
     refine ZP ?_
     refine (?_:wpAny _ _ (ret Value.none) _ _ _)
     refine ZP ⟨rfl,h',tk',rfl,hS',fun b o hb e=>?_⟩
     have hb1:b ≠ s.heap.objs.size:=Nat.ne_of_lt hb
     have hb2:b ≠ (s.heap.push { cls:=.type "set",dict:=none,data:=.set #[] 0 (.fresh 0 0 led) }).objs.size:=by
      rw [Heap.size_push]; exact Nat.ne_of_lt (Nat.lt_succ_of_lt hb)
     exact hm.heap b o (by simp only [List.mem_cons,List.not_mem_nil,or_false,not_or]; exact ⟨hb1,hb2⟩) (Heap.get?_push_of_some _ (Heap.get?_push_of_some _ e))
   ·induction r₂ using Except.casesOn with
    | error e=>exact hr₂
    | ok fl2 =>
     induction fl2 using PySem.Flow.casesOn with
     | ret r =>
      nomatch Za1 hr₂,hr₂
      intro zq0 zw0
      nomatch ay zw0,zw0
      intro h' tk zq3 hS' hk'
      subst zq0
      subst zq3
      repeat (any_goals (first | assumption | wp_step))
      exact h _ _ hS' hk'
     | _=>exact hr₂.elim
  | _=>exact hr.elim
end
end Mine
namespace Mine
open PySem PySem.W PySem.Calls PyProof.Rows MeetsSeq
section
variable {C:Cx} {X:Sc} {B:Bz} {f:Fm} {env:Env} {ρ:List Addr} {Z:Fz} {H H':HP} {s:Shared} {A:Around}
def CL:DC:=fun args _ H k=>gY args fun a=>bP H a fun _ _ rx=>@List.rec AV (fun _=>Bool) false (fun a r _=>@List.rec AV (fun _=>Bool) (bO a fun x=>H.push (.set [x]) fun j H=>k (.ref j) H) (fun _ _ _=>false) r) rx
theorem wt:SC C (.type "set") 1 CL:=by
 intro X dp f H k A env B ρ Z s args vals hc hA ok hv hlen Q E hQ
 nomatch ad (bD hc hlen),hc
 intro a zq1 h
 subst zq1
 nomatch ad hv.one,hv
 intro va zq1 ra
 subst zq1
 nomatch bM (aG h),h
 intro j n rx zq3 hj h
 subst zq3
 nomatch bS (bg ok ra hj),hj
 intro l vs ep zq3 hρ hl hv' hn hn'
 clear ra
 subst zq3
 induction rx using List.casesOn with
 | nil=>exact ffE h
 | cons y r =>
  induction r using List.casesOn with
  | cons _ _=>exact ffE h
  | nil =>
   nomatch ad (aC (show bO y _=true from h)),h
   intro x ix h
   refine ad (VRs.one (a:=y) (show VRs C.σ ρ Z [y] vs from by simpa using hv')) fun v zq1 rv=>?_
   subst zq1
   refine Ze1 (aA ix rv) fun t zq1=>?_
   clear rv
   subst zq1
   refine aU (HP.push_spec h) fun H' h1 h2 h3=>?_
   refine wpAny_with_toks (n:=s.toks) (Nat.le_refl _) (qQ (x:=aw C.σ x) (t:=t) hA.hd hl.isList rfl fun h' tk hS hk ht=>?_)
   have ok1:=ok.grown (t:=tk) (fun b o e=>hk b o (Heap.lt_size e) e) ht
   refine ad hS.objOf fun o ho hso=>?_
   have o1:=OK.adopt ok1 (ao:=.set [x]) ho (ok.fresh (Nat.le_refl _)) (ok.g.fresh1 (Nat.le_refl _)) h2 h3 ⟨_,hso,fun k=>by simp⟩
   exact hQ _ _ _ _ _ _ Ext.snoc o1 (Cf ok) h1
end
end Mine
namespace Mine
open PySem PySem.W PySem.Calls PyProof.Rows MeetsSeq
section
variable {C:Cx} {X X':Sc} {B:Bz} {f:Fm} {env cenv:Env} {ρ:List Addr} {Z:Fz} {H H':HP} {s s':Shared} {A:Around}
def uU {I:Type} (nx:I->HP->(AV->I->HP->Bool)->(HP->Bool)->Bool) (a:DA) (dk dv:D) (dp:Nat) (k:SS->AV->HP->Bool) (i:I) (f:Fm) (H:HP):Bool :=
 nx i H (fun v i H=>a v f H fun f H=>dk dp f H fun key H=>bO key fun x=>dv dp f H fun val H=>nx i H (fun _ _ _=>false) (fun H=>k x val H)) (fun _=>false)
structure Done1 (C:Cx) (X':Sc) (B':Bz) (cenv:Env) (D:Addr) (ρ:List Addr) (Z:Fz) (x:SS) (v:AV) (H':HP) (s':Shared):Prop where
 ex:∃ ρ' Z' f' o kvs,Ext ρ Z ρ' Z'∧OK C X' B' f' cenv ρ' Z' H' s'∧Pv B' cenv.locals ρ' Z' s' [(D,o)]∧o.IsDictOf (PySem.strKind C.prog C.w) kvs∧Zip (mM C ρ' Z') [(x,v)] kvs
theorem uO {I:Type} {rel:I->List Addr->Fz->Value->List (Addr × Obj)->Prop} {nx:I->HP->(AV->I->HP->Bool)->(HP->Bool)->Bool} {kx vx iter:Ex} {y:Str} {py:Pos} {scope:Scope} {pos:Pos} {a:DA} {dk dv:D} {B':Bz} {f':Fm}
  (hI:ItOK C rel nx) (ha:AS C X' (assign (.Name y py)) a) (hk:SE C X' kx dk) (hv:SE C X' vx dv) {dp:Nat} {k:SS->AV->HP->Bool} {i:I} {it:Value} {P:List (Addr × Obj)} {D:Addr} {oD:Obj} {R:Result->Shared->Prop}
  (hd:uU nx a dk dv dp k i f' H=true) (hA:AOk dp A) (ok:OK C X' B' f' cenv ρ Z H s) (hD:Pv B' cenv.locals ρ Z s [(D,oD)]) (hoD:oD.IsDictOf (PySem.strKind C.prog C.w) []) (hP:Pv (BP B' [(D,oD)]) cenv.locals ρ Z s P) (hr:rel i ρ Z it P)
  (hR:∀ x v H' s',Done1 C X' B' cenv D ρ Z x v H' s'->k x v H'=true->R (.ok .next) s') :
  codeAny (model C.prog C.w) A (.compLoop (.DictComp kx vx [⟨.Name y py,iter,[],0⟩] scope pos) 0 it (.ref D) cenv) R s:=by
 refine codeAny_compLoop_testsD (fun n s'=>(n=1∧s'=s)∨(n=0∧∃ i' x v H' ρ' Z' f' o kvs P',Ext ρ Z ρ' Z'∧OK C X' B' f' cenv ρ' Z' H' s'∧Pv B' cenv.locals ρ' Z' s' [(D,o)]∧o.IsDictOf (PySem.strKind C.prog C.w) kvs∧Zip (mM C ρ' Z') [(x,v)] kvs ∧
  Pv (BP B' [(D,o)]) cenv.locals ρ' Z' s' P'∧rel i' ρ' Z' it P'∧nx i' H' (fun _ _ _=>false) (fun H=>k x v H)=true)) ?_ 1 (.inl ⟨rfl,rfl⟩)
 intro n s₁ zz
 rcases zz with zz | zz
 ·nomatch Za1 zz,zz
  intro zq0 zq1
  subst zq0
  subst zq1
  have okD:=ok.priv hD
  have unD:∀ {f ρ Z H s},OK C X' (BP B' [(D,oD)]) f cenv ρ Z H s->OK C X' B' f cenv ρ Z H s∧Pv B' cenv.locals ρ Z s [(D,oD)]:=fun h=>h.unpriv ok.g.base fun p hp o=>(hD p hp).2.2.1 o
  refine hI.next _ _ _ _ _ _ _ _ _ _ _ _ _ _ _ hd hA okD hP hr _ _ (fun sq2 ok₂ hdq2=>by exact ffE hdq2) (fun ρ2 Z₂ H₂ sq2 i' P' av v e₂ ok₂ hp2 hr₂ rv2 hdq2=>?_)
  have okp:=ok₂.priv hp2
  refine ha _ _ _ _ _ _ _ _ _ _ _ _ hdq2 hA okp rv2 _ _ fun fq3 H3 s₃ ok₃ hdq3=>?_
  refine (?_:wpAny _ _ (forIn [] true _) _ _ _)
  rw [List.forIn_nil]
  refine ZP ?_
  rw [if_pos rfl]
  refine hk _ _ _ _ _ _ _ _ _ _ hdq3 hA ok₃ _ _ fun ρ4 Z4 H4 s4 key kv e₄ ok₄ rk hdq4=>?_
  nomatch ad (aC hdq4),hdq4
  intro x ix hdq4
  nomatch Ze1 (aA ix rk),rk
  intro t zq1
  subst zq1
  refine hv _ _ _ _ _ _ _ _ _ _ hdq4 hA ok₄ _ _ fun ρ5 Z5 H5 s₅ val vv eq5 ok₅ rq5 hdq5=>?_
  refine Za1 (ok₅.unpriv okD.g.base fun p hp o=>(hp2 p hp).2.2.1 o) ?_
  clear okD hp2 ok₅
  intro u1 u2
  nomatch Za1 (unD u1),unD,u1
  intro u3 u4
  nomatch Za4 (u4 _ (List.mem_singleton.mpr rfl)),u4
  intro d1 d2 d3 d4 d5
  refine wpAny_with_toks (n:=s₅.toks) (Nat.le_refl _) (wpAny_dictSet_pairs (hsz:=Nat.zero_le _) (fm C.w C.prog (aw C.σ x) t) (Heap.dictOf_iff.mpr ⟨oD,d1,hoD⟩) fun hq6 hl6 hs₆ ht6=>?_)
  nomatch ad (Heap.dictOf_iff.mp hl6),hl6
  intro o' ho' hd'
  have hst:stored ([]:List (Str × Value)) (aw C.σ x) vv=[(aw C.σ x,vv)]:=rfl
  rw [hst] at hd'
  have u5:=(u3.extBut hs₆.extBut d2 d3 d4 d5).tok _ ht6
  refine ⟨0,Nat.lt_succ_self _,.inr ⟨rfl,i',x,val,H5,ρ5,Z5,fq3,o',_,P',(e₂.trans e₄).trans eq5,u5,fun p hp=>?_,hd',⟨rfl,fun j a b q1 q2=>?_⟩,fun p hp=>?_,hI.mono (e₄.trans eq5) hr₂,hdq5⟩⟩
  ·rw [List.mem_singleton.mp hp]
   exact ⟨ho',d2,d3,d4,d5⟩
  ·induction j using Nat.casesAuxOn with
   | zero=>injections q1; injections q2; exact ⟨rfl,rq5⟩
   | succ j=>simp at q1
  ·nomatch Za4 (u2 p hp),u2,hp
   intro x1 x2 x3 x4 x5
   have hpD:p.1 ≠ D:=fun e=>x3 oD (.inr (by rw [e]; exact List.mem_singleton.mpr rfl))
   refine ⟨hs₆.extBut _ _ hpD x1,x2,fun o hb=>?_,x4,x5⟩
   rcases hb with hb | hb
   ·exact x3 o (.inl hb)
   ·have:=List.mem_singleton.mp hb
    exact hpD (congrArg Prod.fst this)
 ·clear hd hD hP hr
  nomatch Za1 zz,zz
  intro zq0 zz
  subst zq0
  refine Ze4 zz fun i' x v H₁ zz=>?_
  refine Ze4 zz fun ρ₁ Z₁ fq1 o zz=>?_
  refine dO zz fun kvs Pq1 e₁ ok₁ hDq1 ho zz=>?_
  refine Za3 zz fun hz hP1 hrq1 hdq1=>?_
  have okD:=ok₁.priv hDq1
  have unD:∀ {f ρ Z H s},OK C X' (BP B' [(D,o)]) f cenv ρ Z H s->OK C X' B' f cenv ρ Z H s∧Pv B' cenv.locals ρ Z s [(D,o)]:=fun h=>h.unpriv ok₁.g.base fun p hp o=>(hDq1 p hp).2.2.1 o
  refine hI.next _ dp _ _ _ _ _ _ _ _ _ _ _ _ _ hdq1 hA okD hP1 hrq1 _ _ (fun sq2 ok₂ hdq2=>?_) (fun ρ2 Z₂ H₂ sq2 i' P' av v e₂ ok₂ hp2 hr₂ rv2 hdq2=>by exact ffE hdq2)
  refine Za1 (unD ok₂) fun u1 u2=>?_
  exact hR x v _ _ ⟨ρ₁,Z₁,fq1,o,kvs,e₁,u1,u2,ho,hz⟩ hdq2
theorem sL {I:Type} {rel:I->List Addr->Fz->Value->List (Addr × Obj)->Prop} {nx:I->HP->(AV->I->HP->Bool)->(HP->Bool)->Bool} {kx vx iter:Ex} {y:Str} {py:Pos} {scope:Scope} {pos:Pos} {a:DA} {dk dv:D}
  {tab ctab:List Str} {clay cel:List Nat} {nl:List (Option AV)} (hC:CompOK X scope ctab clay) (hnl:∀ (k:Nat) v,nl[k]?=some v->v=none)
  (hI:ItOK C rel nx) (ha:AS C ⟨ba scope X.sc,tab,ctab,X.cd,X.qual⟩ (assign (.Name y py)) a) (hk:SE C ⟨ba scope X.sc,tab,ctab,X.cd,X.qual⟩ kx dk) (hv:SE C ⟨ba scope X.sc,tab,ctab,X.cd,X.qual⟩ vx dv)
  {dp:Nat} {k:SS->AV->HP->Bool} {i:I} {it:Value} {P:List (Addr × Obj)} {RR:Value->Addr->Result->Shared->Prop} {E:Value->Shared->Prop}
  (hd:uU nx a dk dv dp k i ⟨nl,cel⟩ H=true) (hA:AOk dp A) (ok:OK C X B f env ρ Z H s) (hP:Pv B env.locals ρ Z s P) (hr:rel i ρ Z it P) (hcel:cel.length=clay.length∧∀ (n i j:Nat),clay[n]?=some i->cel[n]?=some j->f.cel[i]?=some j)
  {o:Obj} (ho:s.heap.get? env.locals=some o)
  (hRR:∀ D x v H' s' L,D ≠ 1->Done1 C ⟨ba scope X.sc,tab,ctab,X.cd,X.qual⟩ (B.add env.locals o) (compEnvC scope (dr env scope.names) L env) D ρ Z x v H' s'->k x v H'=true->RR (.ref D) L (.ok .next) s') :
  wpAny (model C.prog C.w) A newDict (fun acc s₃=>wpAny (model C.prog C.w) A (newFunctionEnv scope env.globals (dr env scope.names) [] env.qual none .none (some env)) (fun cenv s4 =>
   codeAny (model C.prog C.w) A (.compStart (.DictComp kx vx [⟨.Name y py,iter,[],0⟩] scope pos) 0 it acc { cenv with scope:=relabel scope env }) (RR acc cenv.locals) s4) E s₃) E s:=by
 refine wpAny_newObj_type (wpAny_newFunctionEnv hC.nocell (by intro y hy; simp at hy) (fun h₁ hns1 hsb₁=>?_) hC.kind)
 dsimp only at hns1 hsb₁ ⊢
 generalize hH2:s.heap.push { cls:=.type "dict",dict:=none,data:=.dict #[] } = H2 at hns1 hsb₁ ⊢
 have hCL:H2.objs.size=s.heap.objs.size+1:=by rw [← hH2,Heap.size_push]
 have hDC:s.heap.objs.size ≠ H2.objs.size:=by rw [hCL]; exact Nat.ne_of_lt (Nat.lt_succ_self _)
 have old:∀ b o,s.heap.get? b=some o->h₁.get? b=some o:=fun b o e=>hsb₁.extBut b o (by rw [hCL]; exact Nat.ne_of_lt (Nat.lt_succ_of_lt (Heap.lt_size e))) (Heap.get?_push_of_some _ (hH2 ▸ Heap.get?_push_of_some _ e))
 have hacc:h₁.get? s.heap.objs.size=some { cls:=.type "dict",dict:=none,data:=.dict #[] }:=hsb₁.extBut _ _ hDC (Heap.get?_push_of_some _ (hH2 ▸ Heap.get?_push_size _ rfl))
 have ok₁:=ok.enterC (tab:=tab) (ctab:=ctab) (nl:=nl) (cel:=cel) (t:=s.toks+([]:List (Str × Value)).length) hC ho hcel hnl (L:=H2.objs.size) (by rw [hCL]; exact Nat.le_succ _) old (Nat.le_add_right _ _) hns1
 refine Za3 (ok.fresh (Nat.le_refl s.heap.objs.size)) fun f1 f2 f3 f4=>?_
 have hDP:Pv (B.add env.locals o) H2.objs.size ρ Z { s with heap:=h₁,toks:=s.toks+([]:List (Str × Value)).length } [(s.heap.objs.size,{ cls:=.type "dict",dict:=none,data:=.dict #[] })]:=by
  intro p hp
  rw [List.mem_singleton.mp hp]
  refine ⟨hacc,f1,?_,f3,hDC⟩
  rintro o' (e | ⟨e,rfl⟩)
  ·exact f2 _ e
  ·exact f4 e
 have hPP:Pv (BP (B.add env.locals o) [(s.heap.objs.size,{ cls:=.type "dict",dict:=none,data:=.dict #[] })]) H2.objs.size ρ Z { s with heap:=h₁,toks:=s.toks+([]:List (Str × Value)).length } P:=by
  intro p hp
  nomatch Za4 (hP p hp),hP,hp
  intro p1 p2 p3 p4 p5
  have hlt:=Heap.lt_size p1
  refine ⟨old _ _ p1,p2,?_,p4,by rw [hCL]; exact Nat.ne_of_lt (Nat.lt_succ_of_lt hlt)⟩
  rintro o' ((e | ⟨e,rfl⟩) | e)
  ·exact p3 _ e
  ·exact p5 e
  ·have:=List.mem_singleton.mp e
   have e2:p.1=s.heap.objs.size:=congrArg Prod.fst this
   exact Nat.ne_of_lt hlt e2
 have hnew:Obj.IsDictOf (PySem.strKind C.prog C.w) { cls:=.type "dict",dict:=none,data:=.dict #[] } []:=by
  refine ad (Heap.dictOf_iff.mp (Heap.DictOf.new (knd:=PySem.strKind C.prog C.w) s.heap)) fun o' q1 q2=>?_
  rw [Heap.get?_push_size _ rfl] at q1
  injections q1
  exact q2
 have loop:codeAny (model C.prog C.w) A (.compLoop (.DictComp kx vx [⟨.Name y py,iter,[],0⟩] scope pos) 0 it (.ref s.heap.objs.size) (compEnvC scope (dr env scope.names) H2.objs.size env)) (RR (.ref s.heap.objs.size) H2.objs.size) { s with heap:=h₁,toks:=s.toks+([]:List (Str × Value)).length } :=
  uO (cenv:=compEnvC scope (dr env scope.names) H2.objs.size env) hI ha hk hv hd hA ok₁ hDP hnew hPP hr fun x v H' s' hdone hk=>hRR _ x v H' s' _ (ok.g.fresh1 (Nat.le_refl _)) hdone hk
 exact codeAny_compStart_dict loop (hI.self hr _ _ _ _ (fun p hp=>(hPP p hp).1) loop)
theorem Done1.back {tab ctab:List Str} {scope:Scope} {o:Obj} (ok:OK C X B f env ρ Z H s) (ho:s.heap.get? env.locals=some o) {D L:Addr} {x:SS} {v:AV}
  (hd:Done1 C X' (B.add env.locals o) (compEnvC scope (dr env scope.names) L env) D ρ Z x v H' s') :
  ∃ ρ' Z' oD kvs m,Ext ρ Z ρ' Z'∧OK C X B f env ρ' Z' H' s'∧s'.heap.Ns L m∧(L ∉ ρ'∧(∀ o,¬ B L o)∧(∀ o,¬ Z'.ob L o)∧L ≠ env.locals)∧s'.heap.get? D=some oD∧(D ∉ ρ'∧(∀ o,¬ B D o)∧(∀ o,¬ Z'.ob D o)∧D ≠ env.locals)∧D ≠ L∧oD.IsDictOf (PySem.strKind C.prog C.w) kvs∧Zip (mM C ρ' Z') [(x,v)] kvs:=by
 refine Ze4 hd.ex fun ρ' Z' f' oD zw0=>?_
 refine cJ zw0 fun kvs e ok' hD zw1=>?_
 refine Za1 zw1 fun hv hz=>?_
 refine ad ok'.f.ns fun m hm _=>?_
 refine Za4 (hD _ (List.mem_singleton.mpr rfl)) fun d1 d2 d3 d4 d5=>?_
 have hLl:L ≠ env.locals:=fun h=>ok'.g.lb o (h ▸ Bz.add_here)
 exact (qv ρ' Z' oD kvs m e (ok.leave ho e.p e.z ok'.g) hm ⟨ok'.g.lρ,fun o' hb=>ok'.g.lb o' (.inl hb),ok'.g.lz,hLl⟩ d1 ⟨d2,fun o' hb=>d3 o' (.inl hb),d4,fun h=>d3 o (h ▸ Bz.add_here)⟩ d5 ⟨hv,hz⟩)
def Bv {I:Type} (nx:I->HP->(AV->I->HP->Bool)->(HP->Bool)->Bool) (di:Nat->Fm->HP->(I->HP->Bool)->Bool) (nl:List (Option AV)) (clay:List Nat) (a:DA) (dk dv:D):D :=
 fun dp f H k=>lO clay f.cel fun cel=>di dp f H fun i H=>uU nx a dk dv dp (fun x v H=>H.push (.dict [(x,v)]) fun j H=>k (.ref j) H) i ⟨nl,cel⟩ H
theorem ul {I:Type} {rel:I->List Addr->Fz->Value->List (Addr × Obj)->Prop} {nx:I->HP->(AV->I->HP->Bool)->(HP->Bool)->Bool} {kx vx iter:Ex} {z:Str} {pz:Pos} {scope:Scope} {pos spos py:Pos} {a:DA} {dk dv:D} {y:Str} {iy:Nat}
  {di:Nat->Fm->HP->(I->HP->Bool)->Bool} {tab ctab:List Str} {clay:List Nat} {nl:List (Option AV)} (hC:CompOK X scope ctab clay) (hnl:∀ (k:Nat) v,nl[k]?=some v->v=none)
  (hk:X.sc.kind = .function) (hl:X.sc.names.lookup y=some .local) (hiy:X.tab[iy]?=some y) (hn:X.tab.Nodup)
  (hI:ItOK C rel nx) (hi:SI C X rel iter di) (ha:AS C ⟨ba scope X.sc,tab,ctab,X.cd,X.qual⟩ (assign (.Name z pz)) a) (hkx:SE C ⟨ba scope X.sc,tab,ctab,X.cd,X.qual⟩ kx dk) (hvx:SE C ⟨ba scope X.sc,tab,ctab,X.cd,X.qual⟩ vx dv)
  (hs:∀ env x,foldedSetIterable iter env x=pure x) (hsw:∀ env:Env,env.scope=X.sc->swapsWith (.DictComp kx vx [⟨.Name z pz,iter,[],0⟩] scope pos) (some (.Name y py)) spos.line env=pure true) :
  S1 C X (.Assign [.Name y py] (.DictComp kx vx [⟨.Name z pz,iter,[],0⟩] scope pos) spos) (b9 iy (Bv nx di nl clay a dk dv)):=by
 intro dp f H kn kr A env B ρ Z s hd hA ok Q E hQn hQr
 nomatch ad (eK hd),hd
 intro cel hd' hcel
 refine (?_:wpAny _ _ (exec (.Assign [.Name y py] (.DictComp kx vx [⟨.Name z pz,iter,[],0⟩] scope pos) spos) env) _ _ _)
 rw [exec_Assign_Name_used _ _ _ _ (hsw env ok.f.sc)]
 refine ZB (wpAny_standAt (ZB ?_))
 refine (?_:wpAny _ A (do let _ ← comprehension (.DictComp kx vx [⟨.Name z pz,iter,[],0⟩] scope pos) scope env _ newDict false (eval iter env) (some (assign (.Name y py) env))) _ _ s)
 refine ZB (wpAny_mono (wpAny_comprehension_free (use:=some (assign (.Name y py) env)) (Q:=fun _ s'=>Q .next s') rfl (hs env) (fU ok hC hcel) hC.kind hC.loc ?_) (fun _ s' hq=>ZP (ZP hq)) fun _ _ e=>e)
 refine hi _ _ _ _ _ _ _ _ _ _ hd' hA ok _ _ fun ρ₁ Z₁ H₁ s₁ i P it e₁ ok₁ hp1 hrq1 hdq1=>?_
 refine Ze1 ok₁.localsObj fun o ho=>?_
 refine sL (RR:=fun acc C'=>compPost (model C.prog C.w) A E (some (assign (.Name y py) env)) (fun _ s'=>Q .next s') acc C') hC hnl hI ha hkx hvx hdq1 hA ok₁ hp1 hrq1 hcel ho fun D x v H₂ sq2 L hD1 hdone hk'=>?_
 nomatch Ze4 (hdone.back (tab:=tab) (ctab:=ctab) ok₁ ho),ok₁,ho,hdone
 intro ρ2 Z₂ oD kvs zw0
 nomatch cJ zw0,zw0
 intro m e₂ ok₂ hm zw1
 nomatch Za4 zw1,zw1
 intro hL hDl hDf hDL zw2
 nomatch Za1 zw2,zw2
 intro hv hz
 nomatch aU (HP.push_spec hk'),hk'
 intro H' g1 g2 g3
 nomatch da (id hm),hm
 intro oL es epL hoL m2 m3 m4
 have hPL:Pv B env.locals ρ2 Z₂ sq2 [(L,oL)]:=fun p hp=>by rw [List.mem_singleton.mp hp]; exact ⟨hoL,hL⟩
 have okL:=ok₂.priv hPL
 have hDf':D ∉ ρ2∧(∀ o,¬ (BP B [(L,oL)]) D o)∧(∀ o,¬ Z₂.ob D o)∧D ≠ env.locals:=⟨hDf.1,fun o' hb=>by
  rcases hb with hb | hb
  ·exact hDf.2.1 _ hb
  ·exact hDL (congrArg Prod.fst (List.mem_singleton.mp hb)),hDf.2.2.1,hDf.2.2.2⟩
 have o1:=OK.adopt okL (ao:=.dict [(x,v)]) hDl hDf' hD1 g2 g3 ⟨kvs,hv,hz.imp fun p q e=>⟨e.1,e.2.mono (List.prefix_append ..) (Fz.le.rfl _)⟩⟩
 refine wpAny_assign_Name (fj hk hl hiy hn g1 o1 (Cf okL) fun s₃ fq3 ok₃ hkq3=>?_)
 refine Za1 (ok₃.unpriv ok₂.g.base fun p hp o=>by rw [List.mem_singleton.mp hp]; exact hL.2.1 o) fun u1 u2=>?_
 refine Za4 (u2 _ (List.mem_singleton.mpr rfl)) fun v1 v2 v3 v4 v5=>?_
 refine (am m ⟨oL,es,epL,v1,m2,m3,m4⟩ (fun h' hs'=>?_))
 exact hQn _ _ _ _ _ ((e₁.trans e₂).trans Ext.snoc) (u1.extBut hs'.extBut v2 v3 v4 v5) hkq3
end
section
variable {C:Cx} {X X':Sc} {B:Bz} {f:Fm} {env cenv:Env} {ρ:List Addr} {Z:Fz} {H H':HP} {s s':Shared} {A:Around}
noncomputable abbrev DP:=Nat->Fm->HP->(List (SS × AV)->HP->Bool)->Bool
noncomputable def SPr (C:Cx) (X:Sc) (ps:Env->List (Sem Value × Sem Value)) (d:DP):Prop :=
 ∀ dp f H k A env B ρ Z s,d dp f H k=true->AOk dp A->OK C X B f env ρ Z H s->∀ (Q:List (Value × Value)->Shared->Prop) (E:Value->Shared->Prop),
  (∀ ρ' Z' H' s' es vs kvs,Ext ρ Z ρ' Z'->OK C X B f env ρ' Z' H' s'->Carries (PySem.strKind C.prog C.w) vs kvs->Zip (mM C ρ' Z') es kvs->k es H'=true->Q vs s')->wpAny (model C.prog C.w) A (evalPairs (ps env)) Q E s
def zY:DP:=fun _ _ H k=>k [] H
theorem C7:SPr C X (fun _=>[]) zY:=fun dp f H k A env B ρ Z s hd hA ok Q E hQ=>evalPairs_nil (hQ _ _ _ _ [] [] [] (Ext.refl ..) ok trivial ⟨rfl,fun i x y a=>by simp at a⟩ hd)
def lr (dk dv:D) (r:DP):DP:=fun dp f H k=>dk dp f H fun key H=>bO key fun x=>dv dp f H fun v H=>r dp f H fun es H=>k ((x,v) :: es) H
theorem BY {ek ev:Ex} {pos:Pos} {dk dv:D} {ps:Env->List (Sem Value × Sem Value)} {r:DP} (hk:SE C X ek dk) (hv:SE C X ev dv) (hr:SPr C X ps r):SPr C X (fun env=>(eval ek env,do let x ← eval ev env; standAt pos; pure x) :: ps env) (lr dk dv r):=by
 intro dp f H k A env B ρ Z s hd hA ok Q E hQ
 refine evalPairs_cons (hk _ _ _ _ _ _ _ _ _ _ hd hA ok _ _ fun ρ₁ Z₁ H₁ s₁ key kv e₁ ok₁ r₁ hdq1=>?_)
 nomatch ad (aC hdq1),hdq1
 intro x ix hdq1
 refine Ze1 (aA ix r₁) fun t zq1=>?_
 clear r₁
 subst zq1
 refine ZB (hv _ _ _ _ _ _ _ _ _ _ hdq1 hA ok₁ _ _ fun ρ2 Z₂ H₂ sq2 v vv e₂ ok₂ r₂ hdq2=>ZB (wpAny_standAt (ZP ?_)))
 refine hr _ _ _ _ _ _ _ _ _ _ hdq2 hA ok₂ _ _ fun ρ3 Z3 H3 s₃ es vs kvs e₃ ok₃ hc hz hk=>?_
 refine hQ _ _ _ _ _ ((.str (aw C.σ x) t,vv) :: vs) ((aw C.σ x,vv) :: kvs) ((e₁.trans e₂).trans e₃) ok₃ ⟨fm C.w C.prog _ t,rfl,hc⟩ ⟨by simp [hz.1],fun i a b q1 q2=>?_⟩ hk
 induction i using Nat.casesAuxOn with
 | zero=>injections q1; injections q2; exact ⟨rfl,r₂.ext e₃⟩
 | succ i=>exact hz.2 i a b (by simpa using q1) (by simpa using q2)
def BE (es:List (SS × AV)):List (SS × AV)->Bool->Bool:=@List.rec (SS × AV) (fun _=>List (SS × AV)->Bool->Bool) (fun _ k=>k) (fun e _ ih acc k=>@Prod.rec SS AV (fun _=>Bool) (fun x v=>j8 x acc (apD x v acc fun acc=>ih acc k) fun _=>false) e) es
theorem uE {es:List (SS × AV)}:∀ {acc:List (SS × AV)} {kacc kvs:List (Str × Value)} {k:Bool},BE es acc k=true->Zip (mM C ρ Z) acc kacc->Zip (mM C ρ Z) es kvs->merged kacc kvs=kacc++kvs∧k=true:=by
 induction es with
 | nil =>
  intro acc kacc kvs k h z1 z2
  have:kvs=[]:=List.length_eq_zero_iff.mp z2.1.symm
  clear z2
  subst this
  exact ⟨by simp [merged],h⟩
 | cons e es ih =>
  intro acc kacc kvs k h z1 z2
  induction kvs using List.casesOn with
  | nil=>exact absurd z2.1 (by simp)
  | cons p kvs =>
   obtain ⟨x,v⟩:=e
   refine Za1 (z2.2 0 (x,v) p rfl rfl) fun q1 q2=>?_
   have z':Zip (mM C ρ Z) es kvs:=⟨by simpa using z2.1,fun i a b c d=>z2.2 (i+1) a b (by simpa using c) (by simpa using d)⟩
   obtain ⟨p1,p2⟩:=p
   dsimp only at q1 q2
   clear z2
   subst q1
   rcases eB (C:=C) (show j8 x acc (apD x v acc fun acc=>BE es acc k) (fun _=>false)=true from h) z1 with ⟨g1,g2⟩ | ⟨_,_,_,_,g2⟩
   ·rw [zZ] at g2
    have z3:Zip (mM C ρ Z) (acc++[(x,v)]) (kacc++[(aw C.σ x,p2)]):=⟨by simp [z1.1],fun i a b c d=>by
     by_cases hi:i<acc.length
     ·rw [List.getElem?_append_left hi] at c
      rw [List.getElem?_append_left (by rw [← z1.1]; exact hi)] at d
      exact z1.2 i a b c d
     ·rw [List.getElem?_append_right (by omega)] at c
      rw [List.getElem?_append_right (by rw [← z1.1]; omega),← z1.1] at d
      have hi0:i-acc.length=0:=by
       have:=(ZbS c).1; simp at this; omega
      rw [hi0] at c d
      injections c; injections d
      exact ⟨rfl,q2⟩⟩
    refine Za1 (ih g2 z3 z') fun g3 g4=>?_
    refine ⟨?_,g4⟩
    have:merged kacc ((aw C.σ x,p2) :: kvs)=merged (stored kacc (aw C.σ x) p2) kvs:=rfl
    rw [this,o7 g1,g3]
    simp
   ·exact ffE g2
def qK (d:DP):D:=fun dp f H k=>d dp f H fun es H=>BE es [] (H.push (.dict es) fun j H=>k (.ref j) H)
theorem AE {keys:List (Option Ex)} {values:List Ex} {pos:Pos} {ps:Env->List (Sem Value × Sem Value)} {d:DP} (h:SPr C X ps d) (hsh:∀ env,(evalEachOpt keys env).zip ((evalEach values env).map fun v=>do let x ← v; standAt pos; pure x)=(ps env).map fun p=>(some p.1,p.2))
  (h0:∀ env,ps env ≠ []) (hl:∀ env,(ps env).length≤15):SE C X (.Dict keys values pos) (qK d):=by
 intro dp f H k A env B ρ Z s hd hA ok Q E hQ
 refine Za1 (ok.own { cls:=.type "dict",data:=.dict #[] } rfl) fun ok1 hP=>?_
 refine Za1 (i0 hP) fun hD hO=>?_
 have h1n:=ok.g.fresh1 (Nat.le_refl s.heap.objs.size)
 refine wpAny_Dict_pairs (knd:=PySem.strKind C.prog C.w) (hsh env) (h0 env) (hl env) (h _ _ _ _ _ _ _ _ _ _ hd hA (ok1.priv hP) _ _ fun ρ₁ Z₁ H₁ s₁ es vs kvs e₁ ok₁ hc hz hk=>(bA kvs hc (?_) (fun h' hm hs=>?_)))
 ·nomatch Za1 (ok₁.unpriv (fun a o e=>ok.g.base a o e) (fun p hp o=>by rw [List.mem_singleton.mp hp]; exact hO.2.1 o)),ok₁
  intro ok₁ hP1
  nomatch Za1 (i0 hP1),hP1
  intro hDq1 hO1
  refine ad (Heap.dictOf_iff.mp (Heap.DictOf.new (knd:=PySem.strKind C.prog C.w) s.heap)) fun o' q1 q2=>?_
  rw [Heap.get?_push_size _ rfl] at q1
  injections q1
  exact Heap.dictOf_iff.mpr (am _ hDq1 q2)
 ·refine Za1 (ok₁.unpriv (fun a o e=>ok.g.base a o e) (fun p hp o=>by rw [List.mem_singleton.mp hp]; exact hO.2.1 o)) fun ok₁ hP1=>?_
  refine Za1 (i0 hP1) fun hDq1 hO1=>?_
  refine Za1 (uE (C:=C) hk (kacc:=[]) ⟨rfl,fun i x y a=>by simp at a⟩ hz) fun hmg hk=>?_
  rw [hmg,List.nil_append] at hm
  refine ad (Heap.dictOf_iff.mp hm) fun o' ho' hd'=>?_
  have ok₂:=ok₁.extBut (it:=s.heap.objs.size) hs.extBut hO1.1 hO1.2.1 hO1.2.2.1 hO1.2.2.2
  have ok₃:=OK.tok ok₂ (s₁.toks+vs.length) (Nat.le_add_right _ _)
  refine aU (HP.push_spec hk) fun H' g1 g2 g3=>?_
  have o1:=OK.adopt ok₃ (ao:=.dict es) ho' ⟨hO1.1,hO1.2.1,hO1.2.2.1,hO1.2.2.2⟩ h1n g2 g3 ⟨kvs,hd',hz.imp fun p q e=>⟨e.1,e.2.mono (List.prefix_append ..) (Fz.le.rfl _)⟩⟩
  exact hQ _ _ _ _ _ _ (e₁.trans Ext.snoc) o1 (Cf ok₃) g1
noncomputable def tN (pos:Pos) (L:List (Ex × Ex)) (env:Env):List (Sem Value × Sem Value):=L.map fun p=>(eval p.1 env,do let x ← eval p.2 env; standAt pos; pure x)
theorem zM {pos:Pos}:SPr C X (tN pos []) zY:=C7
theorem jl {ek ev:Ex} {pos:Pos} {dk dv:D} {L:List (Ex × Ex)} {r:DP} (hk:SE C X ek dk) (hv:SE C X ev dv) (hr:SPr C X (tN pos L) r):SPr C X (tN pos ((ek,ev) :: L)) (lr dk dv r):=BY hk hv hr
theorem nH (pos:Pos) (env:Env):∀ L:List (Ex × Ex),(evalEachOpt (L.map fun p=>some p.1) env).zip ((evalEach (L.map fun p=>p.2) env).map fun v=>do let x ← v; standAt pos; pure x)=(tN pos L env).map fun p=>(some p.1,p.2)
 | []=>rfl
 | (k,v) :: L=>by
  have ih:=nH pos env L
  show (some (eval k env) :: evalEachOpt (L.map fun p=>some p.1) env).zip ((eval v env :: evalEach (L.map fun p=>p.2) env).map fun v=>do let x ← v; standAt pos; pure x)=_
  rw [List.map_cons,List.zip_cons_cons,ih]
  rfl
theorem w9 {L:List (Ex × Ex)} {pos:Pos} {d:DP} (h:SPr C X (tN pos L) d) (h0:L ≠ []) (hl:L.length≤15):SE C X (.Dict (L.map fun p=>some p.1) (L.map fun p=>p.2) pos) (qK d) :=
 AE h (fun env=>nH pos env L) (fun env=>by unfold tN; simpa using h0) fun env=>by unfold tN; rw [List.length_map]; exact hl
theorem B3 {x y:Str} {px py ap ip pos:Pos} {d:Addr} {kvs:List (Str × Value)} {ep:Nat} {es:List (SS × SS)} (hk:X.sc.kind = .function) (hl:X.sc.names.lookup x=some .globalImplicit) (hg:C.GlobV x (.type "list")) (hd:(x==("__debug__" : Str))=false)
  (hly:X.sc.names.lookup y=some .globalImplicit) (hgy:C.GlobV y (.ref d)) (hdy:(y==("__debug__" : Str))=false)
  (hbase:∀ env,attributeBase (.Name y py) "items" env (eval (.Name y py) env)=eval (.Name y py) env) (hline:(ap.endLine==ip.line)=true) (hs:∀ env,(backTo pos (starEach [.Call (.Attribute (.Name y py) "items" ap) [] [] ip] env)).any (·.1)=false)
  (he:∀ env,starEach [.Call (.Attribute (.Name y py) "items" ap) [] [] ip] env=[(false,eval (.Call (.Attribute (.Name y py) "items" ap) [] [] ip) env)])
  (h1:(d==sysModules)=false) (hm:C.G.DictAt (PySem.strKind C.prog C.w) d kvs ep) (hdn:∃ o,C.G.get? d=some o∧o.dict=none)
  (hkv:kvs.length=es.length∧∀ (i:Nat) (p:SS × SS) (q:Str × Value),es[i]?=some p->kvs[i]?=some q->q.1=aw C.σ p.1∧∃ t,q.2 = .str (aw C.σ p.2) t) :
  SE C X (.Call (.Name x px) [.Call (.Attribute (.Name y py) "items" ap) [] [] ip] [] pos) (CX es):=by
 intro dp f H k A env B ρ Z s hd' hA ok Q E hQ
 refine (?_:wpAny _ _ (eval (.Call (.Name x px) [.Call (.Attribute (.Name y py) "items" ap) [] [] ip] [] pos) env) _ _ _)
 rw [dK (C:=C) (X:=X)]
 refine ZB (dg hk hl hg hd ok (fs (hs env) (bv (hs env) ?_)))
 have hm':s.heap.DictAt (PySem.strKind C.prog C.w) d kvs ep:=hm.keep fun b o e=>ok.g.b b o (ok.g.base b o e)
 nomatch ad hdn,hdn
 intro od hod hdn
 have hod':=ok.g.b d od (ok.g.base d od hod)
 rw [he]
 refine spliced_cons (wpAny_Call_method (hbase env) rfl hline F.plainAttrs_dict F.slot_dict_items F.type_dict_items (dg hk hly hgy hdy ok ?_))
 refine ⟨hm'.dictOf.typeIs,fun a e=>by cases e; exact (am od hod' hdn),callWith_builtin rfl (bv rfl (ZP ?_))⟩
 refine wpAny_mono (vr hd' hA ok h1 hm' hkv (Q:=Q) hQ) (fun v s' hq=>?_) fun _ _ e=>e
 exact ZP hq
end
end Mine
namespace Mine
open PySem PySem.W PySem.Calls PyProof.Rows
noncomputable abbrev Cx.re (C:Cx) (σ':Sig) (wf:σ'.WF) (hbt:σ'.bt=C.σ.bt):Cx:={ C with σ:=σ',wf:=wf,hbt:=hbt.trans C.hbt }
noncomputable def wN (X:Sc) (f:Fm) (m:Str->Option Value):Fm:=⟨(List.range X.tab.length).map fun k=>match f.loc[k]? with
 | some (some _)=>((X.tab[k]?).bind m).map AV.con
 | _=>none,[]⟩
section
variable {C:Cx} {X:Sc} {B:Bz} {f:Fm} {env:Env} {ρ:List Addr} {Z:Fz} {H:HP} {s:Shared}
theorem zx {m:Str->Option Value} {k:Nat} {x:Str} {v:Option AV} (hx:X.tab[k]?=some x) (h:(wN X f m).loc[k]?=some v):∀ z,v=some z->∃ y,z = .con y∧m x=some y:=by
 intro z hz
 subst hz
 unfold wN at h
 have hk:k<X.tab.length:=(ZbS hx).1
 simp only [List.getElem?_map,List.getElem?_range hk,Option.map_some,Option.some.injEq,hx,Option.bind_some] at h
 split at h
 ·refine ad (Option.map_eq_some_iff.mp h) fun y h1 h2=>?_
  exact (am y h2.symm h1)
 ·exact noS h
theorem DX {m:Str->Option Value} {k:Nat} {x:Str} {z:AV} {y:Value} (hx:X.tab[k]?=some x) (h:f.loc[k]?=some (some z)) (hy:m x=some y):(wN X f m).loc[k]?=some (some (.con y)):=by
 unfold wN
 have hk:k<X.tab.length:=(ZbS hx).1
 simp only [List.getElem?_map,List.getElem?_range hk,Option.map_some,hx,Option.bind_some,h,hy]
theorem OK.small (ok:OK C X B f env ρ Z H s) {σ':Sig} (wf:σ'.WF) (hbt:σ'.bt=C.σ.bt) {ρ₀:List Addr} {H₀:HP} (hsub:∀ a∈ρ₀,a∈ρ) (hnd:ρ₀.Nodup) (htab:∀ (k:Nat) P,C.tabs[k]?=some P->ρ₀[k]?=some P) (hlen:ρ₀.length=H₀.n)
  (hobj:∀ (j:Nat) a,ρ₀[j]?=some a->∃ ao o,H₀.get j=some ao∧s.heap.get? a=some o∧ORel (C.re σ' wf hbt) ρ₀ Z ao o) :
  ∃ Bq0 f₀,OK (C.re σ' wf hbt) X Bq0 f₀ env ρ₀ Z H₀ s∧∀ ρ₁ Z₁ H₁ s',Ext ρ₀ Z ρ₁ Z₁->OK (C.re σ' wf hbt) X Bq0 f₀ env ρ₁ Z₁ H₁ s' ->
   (∀ H',H'.n=H.n->(∀ (j:Nat) a,ρ[j]?=some a->a ∉ ρ₀->H'.get j=H.get j)->(∀ (j:Nat) a,ρ[j]?=some a->a∈ρ₀->∃ ao o,H'.get j=some ao∧s'.heap.get? a=some o∧ORel C ρ Z₁ ao o)->OK C X B f env ρ Z₁ H' s') ∧
   ∀ a∈ρ₁,a ∉ ρ₀->a ∉ ρ∧(∀ o,¬ B a o)∧a ≠ env.locals:=by
 refine ad ok.f.ns fun m hm hr=>?_
 have g:=ok.g
 let Bq0:Bz:=fun a o=>s.heap.get? a=some o∧a ∉ ρ₀∧a ≠ env.locals∧∀ o',¬ Z.ob a o'
 have hB:∀ a o,B a o->Bq0 a o:=fun a o h=>⟨g.b a o h,fun h'=>g.ab a (hsub a h') o h,fun e=>g.lb o (e ▸ h),fun o' h'=>g.zb a o' o h' h⟩
 refine (dj Bq0 (wN X f m) ⟨⟨fun a o e=>hB a o (g.base a o e),fun a o e=>e.1,g.z,hlen,hobj,?_,fun a ha o h=>h.2.1 ha,fun a ha o=>g.az a (hsub a ha) o,fun h=>g.lρ (hsub _ h),fun o h=>h.2.2.1 rfl,g.lz,fun a o o' h h'=>h'.2.2.2 o h,g.ls,g.same,g.tk,g.tkb,g.tkf,htab⟩,
  ⟨ok.f.sc,ok.f.gl,ok.f.bl,ok.f.cd,ok.f.qual,(am m hm (fun k x v hx hv z hz=>?_)),fun k x j hx hj=>?_⟩⟩ (fun ρ₁ Z₁ H₁ s' e ok₁=>⟨fun H' hn hout hin=>?_,fun a ha hna=>?_⟩))
 ·refine List.nodup_cons.mpr ⟨fun h=>g.no1 (hsub _ h) rfl,hnd⟩
 ·nomatch ad (zx hx hv z hz),hx,hv
  intro y zq1 hy
  clear hz
  subst zq1
  exact (am y hy (.con y))
 ·simp [wN] at hj
 ·have g₁:=ok₁.g
  have hob:∀ a∈ρ,a ∉ ρ₀->∃ o,Bq0 a o:=fun a ha hna=>by
   refine Ze1 (List.getElem?_of_mem ha) fun j hj=>?_
   refine ay (g.obj j a hj) fun ao o h1 h2 h3=>?_
   exact (jP o h2 hna (fun e=>g.lρ (e ▸ ha)) (fun o'=>g.az a ha o'))
  refine ⟨⟨g.base,fun a o h=>g₁.b a o (hB a o h),g₁.z,g.len.trans hn.symm,fun j a hj=>?_,g.nd1,g.ab,fun a ha o h=>?_,g.lρ,g.lb,g₁.lz,fun a o o' h h'=>g₁.zb a o o' h (hB a o' h'),g₁.ls,g₁.same,g₁.tk,g₁.tkb,g₁.tkf,g.tabs⟩,⟨ok.f.sc,ok.f.gl,ok.f.bl,ok.f.cd,ok.f.qual,?_,ok.f.ce⟩⟩
  ·by_cases ha:a∈ρ₀
   ·exact hin j a hj ha
   ·refine ay (g.obj j a hj) fun ao o h1 h2 h3=>?_
    have hm':a∈ρ:=ZbM hj
    exact (aK ao o ((hout j a hj ha).trans h1) (g₁.b a o ⟨h2,ha,fun e=>g.lρ (e ▸ hm'),fun o'=>g.az a hm' o'⟩) (h3.mono (List.prefix_refl _) e.z))
  ·by_cases h0:a∈ρ₀
   ·exact g₁.az a (e.p.subset h0) o h
   ·refine Ze1 (hob a ha h0) fun o' ho'=>?_
    exact g₁.zb a o o' h ho'
  ·nomatch ad ok₁.f.ns,ok₁
   intro m' hm' hr'
   refine (am m' hm' (fun k x v hx hv z hz=>?_))
   subst hz
   nomatch ad (hr k x _ hx hv z rfl),hr
   intro y h1 h2
   nomatch ad (hr' k x _ hx (DX hx hv h1) _ rfl),hr',hx,hv,h1
   intro y' h3 h4
   obtain rfl:=h4.inv
   exact (am _ h3 (h2.mono (List.prefix_refl _) e.z))
 ·have g₁:=ok₁.g
  refine ⟨fun h=>?_,fun o h=>g₁.ab a ha o (hB a o h),fun h=>g₁.lρ (h ▸ ha)⟩
  refine Ze1 (List.getElem?_of_mem h) fun j hj=>?_
  refine ay (g.obj j a hj) fun ao o h1 h2 h3=>?_
  exact g₁.ab a ha o ⟨h2,hna,fun e=>g.lρ (e ▸ h),fun o'=>g.az a h o'⟩
end
end Mine
namespace Mine
open PySem PySem.W PySem.Calls PyProof.Rows MeetsSeq
section
variable {C:Cx} {X X':Sc} {B:Bz} {f:Fm} {env env' cenv:Env} {ρ:List Addr} {Z:Fz} {H H':HP} {s s':Shared} {A:Around}
def kS (v:AV) (k:SS->Bool):Bool:=@AV.rec (fun _=>(SS->Bool)->Bool) (fun k=>false) (fun b k=>false) (fun i k=>false) (fun s k=>false) (fun j k=>false) (fun v k=>false) (fun l _ k=>false) (fun k=>false) (fun _ _ _ _ k=>false) (fun c j k=>false) (fun _ _ _ k=>false) (fun _ _ _ k=>false) (fun a b c k=>false) (fun a b c _ _ _ k=>false) (fun _ k=>false) (fun _ _ k=>false) (fun _ _ _ k=>false) (fun k=>false) (fun s k=>k s) (fun _ _ k=>false) (fun _ k=>false) (fun _ k=>false) (fun s k=>false) v k
theorem dz {v:AV} {k:SS->Bool} (h:kS v k=true):∃ s,v = .pos s∧k s=true:=by
 induction v using AV.casesOn<;>first | (exact (am _ rfl h)) | exact ffE h
def kR (v:AV):Bool:=@AV.rec (fun _=>Bool) false (fun b=>false) (fun i=>false) (fun s=>false) (fun j=>false) (fun v=>false) (fun l _=>false) false (fun _ _ _ _=>false) (fun c j=>false) (fun _ _ _=>false) (fun _ _ _=>false) (fun a b c=>false) (fun a b c _ _ _=>false) (fun _=>false) (fun _ _=>false) (fun _ _ _=>false) true (fun s=>false) (fun _ _=>false) (fun _=>false) (fun _=>false) (fun s=>false) v
theorem im {v:AV} (h:kR v=true):v = .page:=by induction v using AV.casesOn<;>first | rfl | exact ffE h
def qs (v:AV):Bool:=kS v fun _=>true
theorem Bc (C:Cx):(aw C.σ C.σ.page).length≤sizeLine:=by rw [bX,sizeLine_eq]; have:=C.wf.pg; omega
def FJ:DC:=fun args _ H k=>gY args fun a=>aB (kR a) (k (.pos []) H)
theorem C3:SC C (.builtin "len") 1 FJ:=by
 intro X dp f H k A env B ρ Z s args vals hc hA ok hv hlen Q E hQ
 nomatch ad (bD hc hlen),hc
 intro a zq1 h
 subst zq1
 nomatch ad hv.one,hv
 intro va zq1 ra
 subst zq1
 nomatch Za1 (af h),h
 intro h1 h2
 have:=im h1
 subst this
 nomatch Ze1 ra.inv,ra
 intro t zq1
 subst zq1
 refine P.len_str (by have:=C.wf.pg; rw [bX]; omega) ?_
 rw [bX]
 exact hQ _ _ _ _ _ _ (Ext.refl ..) (ok.tok (s.toks+2)) (.pos (s:=[]) (pre:=txt C.σ C.σ.page) (by simp [txt])) h2
def Ig:P2:=fun a b H k=>kS a fun x=>kS b fun y=>@List.rec SA (fun _=>Bool) (@List.rec SA (fun _=>Bool) (k (.bool false) H) (fun _ _ _=>k (.bool true) H) x) (fun _ _ _=>false) y
theorem GE:cK C (fun a b=>compareOp .Lt a b) Ig:=by
 intro X dp f H k A env B ρ Z s a b va vb hd hA ok ra rb Q E hQ
 nomatch ad (dz hd),hd
 intro x zq1 h
 subst zq1
 nomatch ad (dz h),h
 intro y zq1 h1
 subst zq1
 induction y using List.casesOn with
 | cons _ _=>exact ffE h1
 | nil =>
  nomatch aE ra.inv,ra
  intro p1 t zq2 e1
  subst zq2
  nomatch aE rb.inv,rb
  intro p2 u zq2 e2
  subst zq2
  refine P.lt_int ?_
  have l1:p1.length+(txt C.σ x).length=p2.length:=by
   have:=congrArg List.length (e1.symm.trans e2)
   simpa [txt] using this
  induction x using List.casesOn with
  | nil =>
   have:decide ((p1.length:Int)<(p2.length:Int))=false:=by
    have:p1.length=p2.length:=by simpa [txt] using l1
    rw [this]; simp
   rw [this]
   exact hQ _ _ _ _ _ _ (Ext.refl ..) ok (.bool ..) h1
  | cons a x =>
   have hn:0<(txt C.σ (a :: x)).length:=List.length_pos_iff.mpr (lK C.wf)
   have:decide ((p1.length:Int)<(p2.length:Int))=true:=decide_eq_true (by omega)
   rw [this]
   exact hQ _ _ _ _ _ _ (Ext.refl ..) ok (.bool ..) h1
def ES:P2:=fun a b H k=>kS a fun x=>br (uv b fun p=>jO p 0 fun n=>qc x n fun r=>aB (xX p x true) (k (.pos r) H)) (bk (bq b) fun i=>bk (natOf i) fun n=>zy x n fun r=>k (.pos r) H) (rQ b)
theorem yt {α:Type} {p r:List α} {k:List α->Bool}:qc (p++r) p.length k=k r:=by
 induction p with
 | nil=>induction r using List.casesOn<;>rfl
 | cons a p ih=>exact ih
theorem Dn:cK C (fun a b=>binaryOp .Add a b) ES:=by
 intro X dp f H k A env B ρ Z s a b va vb hd hA ok ra rb Q E hQ
 nomatch ad (dz hd),hd
 intro x zq1 h
 subst zq1
 nomatch aE ra.inv,ra
 intro p1 t zq2 e1
 subst zq2
 have fin:∀ (n:Nat) (u:Tok) (p r:SS),txt C.σ x=txt C.σ p++txt C.σ r->(txt C.σ p).length=n->k (.pos r) H=true->wpAny (model C.prog C.w) A (binaryOp .Add (.int (p1.length:Int) t) (.int (n:Int) u)) Q E s:=fun n u p r h1 h2 h3=>by
  refine add_int ?_
  have:(p1.length:Int)+(n:Int)=((p1++txt C.σ p).length:Int):=by rw [List.length_append,h2]; omega
  rw [this]
  exact hQ _ _ _ _ _ _ (Ext.refl ..) (ok.tok _) (.pos (by rw [e1,h1,List.append_assoc])) h3
 induction q:rQ b using Bool.casesOn with
 | true =>
  rw [q] at h
  nomatch ad (al h),h
  intro i g1 g2
  nomatch ad (al g2),g2
  intro n g3 g4
  nomatch ay (oE (C:=C) g4),g4
  intro p r g5 g6 g7
  nomatch Ze1 (ar g1 rb),rb,g1
  intro u zq1
  subst zq1
  have:=aQ g3
  subst this
  exact fin n u p r (by rw [g5,cG]) g6 g7
 | false =>
  rw [q] at h
  nomatch ad (l3 h),h
  intro p zq1 g1
  subst zq1
  rw [dL] at g1
  nomatch Ze1 rb.inv,rb
  intro u zq1
  subst zq1
  induction g:xX p x true using Bool.casesOn with
  | true =>
   nomatch Za1 (pP g),g
   intro zt11_0 _
   nomatch Ze1 zt11_0,zt11_0
   intro r zq1
   subst zq1
   rw [Nat.add_zero,yt] at g1
   exact fin _ u p r (by rw [cG]) rfl (af g1).2
  | false =>
   exfalso
   have z:∀ (l:SS) (n:Nat),qc l n (fun r=>aB (xX p x true) (k (.pos r) H))=true->xX p x true=true:=by
    intro l
    induction l with
    | nil=>intro n hh; exact (af hh).1
    | cons a l ih =>
     intro n hh
     induction n using Nat.casesAuxOn with
     | zero=>exact (af hh).1
     | succ n=>exact ih n hh
   rw [z _ _ g1] at g
   exact ffE g.symm
def oR:P2:=dX qs ES bY
theorem jr:cK C (fun a b=>binaryOp .Add a b) oR:=gX Dn be
def nN (p:SS):SS->Bool->Bool:=@List.rec SA (fun _=>SS->Bool->Bool) (fun x k=>@List.rec SA (fun _=>Bool) k (fun _ _ _=>false) x) (fun a _ ih x k=>@List.rec SA (fun _=>Bool) false (fun b r _=>D0 a b (ih r k) false) x) p
theorem df {p:SS}:∀ {x:SS} {k:Bool},nN p x k=true->x=p∧k=true:=by
 induction p with
 | nil =>
  intro x k h
  induction x using List.casesOn with
  | nil=>exact ⟨rfl,h⟩
  | cons _ _=>exact ffE h
 | cons a p ih =>
  intro x k h
  induction x using List.casesOn with
  | nil=>exact ffE h
  | cons b x =>
   rcases lU h with ⟨rfl,h'⟩ | ⟨_,_,_,_,_,h'⟩
   ·nomatch Za1 (ih h'),ih,h'
    intro zq0 h2
    subst zq0
    exact ⟨rfl,h2⟩
   ·exact ffE h'
def CN (n:Nat):SS->(SS->SS->Bool)->Bool:=@Nat.rec (fun _=>SS->(SS->SS->Bool)->Bool) (fun l k=>k [] l) (fun _ ih l k=>@List.rec SA (fun _=>Bool) false (fun a r _=>ih r fun p q=>k (a :: p) q) l) n
theorem tu {n:Nat}:∀ {l:SS} {k:SS->SS->Bool},CN n l k=true->∃ p q,l=p++q∧k p q=true:=by
 induction n with
 | zero=>intro l k h; exact (dj ([]) l rfl h)
 | succ n ih =>
  intro l k h
  induction l using List.casesOn with
  | nil=>exact ffE h
  | cons a r =>
   nomatch aE (ih (l:=r) (k:=fun p q=>k (a :: p) q) h),ih,h
   intro p q zq2 h2
   subst zq2
   exact (dj (a :: p) q rfl h2)
def GJ (x y:SS) (k:SS->Bool):Bool:=jO x 0 fun n=>jO y 0 fun m=>aZ (Nat.sub n m) fun j=>CN j x fun p q=>nN q y (k p)
theorem xn {x y:SS} {k:SS->Bool} (h:GJ x y k=true):∃ p,x=p++y∧k p=true:=by
 unfold GJ at h
 rw [dL] at h
 rw [dL] at h
 rw [aP] at h
 nomatch aE (tu h),h
 intro p q zq2 h2
 subst zq2
 nomatch Za1 (df h2),h2
 intro zq0 h3
 subst zq0
 exact (am p rfl h3)
def zn (x:SS) (k:SA->Bool):Bool:=@List.rec SA (fun _=>Bool) false (fun a _ _=>@SA.rec (fun _=>Bool) (fun n=>k (.c n)) (fun _=>false) (fun j=>k (.lst (Nat.succ (Nat.mul 2 j)))) (fun _=>false) (fun _=>false) a) x
def EY:P2:=fun a b H k=>aB (kR a) (br (l4 b fun lo hi st=>gA st (kS lo fun x=>gA hi (k (.str x) H) (kS hi fun y=>GJ x y fun p=>k (.str p) H)) false)
 (kS b fun x=>zn x fun a=>k (.str [a]) H) (qs b))
theorem sN {n:Nat} (h:n∈[38,60,62,13,120,10,34,9]):∃ l,bJ n=(bJ n).headD 0 :: l∧(bJ n).headD 0 ≠ 60:=by
 simp only [List.mem_cons,List.not_mem_nil,or_false] at h
 rcases h with rfl | rfl | rfl | rfl | rfl | rfl | rfl | rfl<;>exact (am _ rfl (by decide))
theorem tC {x:SS} {k:SA->Bool} (h:zn x k=true):∃ a c l,txt C.σ x=c :: l∧txt C.σ [a]=[c]∧k a=true:=by
 induction x using List.casesOn with
 | nil=>exact ffE h
 | cons b r =>
  induction b using SA.casesOn with
  | c n=>exact (u9 (.c n) n (txt C.σ r) rfl rfl h)
  | spl j =>
   refine ad (sN (C.wf.sg j)) fun l h1 h2=>?_
   refine (u9 (.lst (Nat.succ (2 * j))) ((bJ (C.σ.sg j)).headD 0) (l++txt C.σ r) (?_) (?_) h)
   ·refine (?_:bJ (C.σ.sg j)++txt C.σ r=_)
    rw [← List.cons_append,← h1]
   ·refine (?_:[nL C.σ (2 * j+1)]++[]=_)
    have e1:(2 * j+1) % 2=1:=by omega
    have e2:(2 * j+1) / 2=j:=by omega
    unfold nL
    rw [e1,e2]
    rfl
  | _=>exact ffE h
theorem IB:gx C EY:=by
 intro X dp f H k A env B ρ Z s a b va vb hd hA ok ra rb
 nomatch Za1 (af hd),hd
 intro h1 h2
 have:=im h1
 subst this
 have hsz:=Bc C
 have hlen:(aw C.σ C.σ.page).length=(txt C.σ C.σ.page).length:=bX ..
 nomatch Ze1 ra.inv,ra
 intro t zq1
 subst zq1
 refine (aK ("str") ("str.__getitem__") (typeIs_str _ _ _) F.slot_str_getitem.lookup (fun Q E hQ=>?_))
 induction q:qs b using Bool.casesOn with
 | true =>
  rw [q] at h2
  nomatch ad (dz h2),h2
  intro x zq1 h3
  subst zq1
  nomatch bM (tC (C:=C) h3),h3
  intro c n l g1 g2 g3
  nomatch aE rb.inv,rb
  intro pre u zq2 e
  subst zq2
  have hp:=C.wf.pg
  have hlt:pre.length<(txt C.σ C.σ.page).length:=by rw [e,List.length_append,g1,List.length_cons]; omega
  refine P.getItem_str (c:=n) (by
   rw [Bool.or_eq_false_iff]
   exact ⟨decide_eq_false (by omega),decide_eq_false (by omega)⟩) ?_ ?_
  ·rw [hlen,seqIndex_of (Int.natCast_nonneg _) (by omega)]
   refine (?_:(aw C.σ C.σ.page).cps[pre.length]?=some n)
   refine (?_:(txt C.σ C.σ.page).toArray[pre.length]?=some n)
   rw [e,g1]
   simp
  ·have:(⟨#[n]⟩:Str)=aw C.σ [c]:=by unfold aw; rw [g2]
   rw [this]
   exact hQ _ _ _ _ _ _ (Ext.refl ..) (ok.tok _) (.str ..) g3
 | false =>
  rw [q] at h2
  nomatch eH (gq h2),h2
  intro lo hi st zq3 h4
  subst zq3
  nomatch Ze4 rb.inv,rb
  intro _ _ _ _ zw0
  nomatch Za4 zw0,zw0
  intro zq4 hz r1 r2 r3
  subst zq4
  rcases ca h4 r3 with ⟨e,h5⟩ | ⟨_,h5⟩
  ·have:=eq_of_beq e
   subst this
   nomatch ad (dz h5),h5
   intro x zq1 h6
   subst zq1
   nomatch aE r1.inv,r1
   intro p1 u1 zq2 e1
   subst zq2
   have done:∀ (u:Option Nat) (t2:Tok) (y:SS),p1.length≤u.getD (aw C.σ C.σ.page).length->u.getD (aw C.σ C.σ.page).length≤(aw C.σ C.σ.page).length->((txt C.σ C.σ.page).drop p1.length).take (u.getD (aw C.σ C.σ.page).length-p1.length)=txt C.σ y->k (.str y) H=true ->
     (sliceMade (aw C.σ C.σ.page) t ((some p1.length).map fun n=>((n:Int),u1)) (u.map fun n=>((n:Int),t2)) none).post Q s:=fun u t2 y a1 a2 a3 a4 =>
    pW (a:=some p1.length) a1 a2 hsz fun t' tk ht=>hQ ρ Z H _ (.str y) _ (Ext.refl ..) (ok.tok tk ht) (by
     have:((aw C.σ C.σ.page).cps.toList.drop ((some p1.length).getD 0)).take (u.getD (aw C.σ C.σ.page).length-(some p1.length).getD 0)=txt C.σ y:=a3
     rw [this]; exact .str ..) a4
   rcases ca h6 r2 with ⟨e2,h7⟩ | ⟨_,h7⟩
   ·have:=eq_of_beq e2
    subst this
    refine wpAny_getItem_str_slice (l:=some ((p1.length:Int),u1)) (u:=none) (st:=none) ⟨_,ok.g.z _ _ hz,rfl,rfl⟩ rfl (done none 0 x ?_ (Nat.le_refl _) ?_ h7)
    ·refine (?_:p1.length≤(aw C.σ C.σ.page).length)
     rw [hlen,e1,List.length_append]; omega
    ·refine (?_:((txt C.σ C.σ.page).drop p1.length).take ((aw C.σ C.σ.page).length-p1.length)=_)
     rw [hlen,e1,List.drop_left,List.length_append,Nat.add_sub_cancel_left,List.take_length]
   ·nomatch ad (dz h7),h7
    intro y zq1 h8
    subst zq1
    nomatch ad (xn h8),h8
    intro p zq1 h9
    subst zq1
    cases r2 with
    | @pos _ p2 u2 e2 =>
     have e3:p2=p1++txt C.σ p:=by
      rw [e1,cG,← List.append_assoc] at e2
      exact (List.append_cancel_right e2).symm
     refine wpAny_getItem_str_slice (l:=some ((p1.length:Int),u1)) (u:=some ((p2.length:Int),u2)) (st:=none) ⟨_,ok.g.z _ _ hz,rfl,rfl⟩ rfl (done (some p2.length) u2 p ?_ ?_ ?_ h9)
     ·refine (?_:p1.length≤p2.length)
      rw [e3,List.length_append]; omega
     ·refine (?_:p2.length≤(aw C.σ C.σ.page).length)
      rw [hlen,e2,List.length_append]; omega
     ·refine (?_:((txt C.σ C.σ.page).drop p1.length).take (p2.length-p1.length)=_)
      rw [e1,List.drop_left,e3,List.length_append,Nat.add_sub_cancel_left,cG,List.take_left]
  ·exact ffE h5
def eP:P2:=dX kR EY fJ
theorem eY:gx C eP:=jL IB fR
def Fe (a b:SA) (same other both:Bool):Bool :=
 @SA.rec (fun _=>Bool)
  (fun m=>@SA.rec (fun _=>Bool) (fun n=>br other same (Nat.beq m n)) (fun _=>false) (fun _=>false) (fun _=>false) (fun _=>false) b)
  (fun i=>false) (fun i=>false)
  (fun i=>@SA.rec (fun _=>Bool) (fun n=>aB (Nat.beq n 60) (aB (Nat.beq (Nat.mod i 2) 1) other)) (fun _=>false) (fun _=>false) (fun j=>false) (fun _=>false) b)
  (fun i=>@SA.rec (fun _=>Bool) (fun _=>false) (fun _=>false) (fun _=>false) (fun _=>false) (fun j=>br both same (Nat.beq i j)) b) a
theorem vz (w:C.σ.WF) {a b:SA} {same other both:Bool} (h:Fe a b same other both=true):(a=b∧same=true)∨((∀ x y,txt C.σ (a :: x) ≠ txt C.σ (b :: y))∧other=true)∨both=true:=by
 induction a using SA.casesOn with
 | c m =>
  induction b using SA.casesOn with
  | c n =>
   change br other same (Nat.beq m n)=true at h
   induction e:Nat.beq m n using Bool.casesOn with
   | true=>rw [e] at h; exact .inl ⟨by rw [ZbE e],h⟩
   | false=>rw [e] at h; exact .inr (.inl ⟨fun x y q=>Nat.ne_of_beq_eq_false e (List.cons.inj q).1,h⟩)
  | _=>exact ffE h
 | lst i =>
  induction b using SA.casesOn with
  | c n =>
   nomatch Za1 (af h),h
   intro h1 h2
   nomatch Za1 (af h2),h2
   intro h3 h4
   have:=ZbE h1
   subst this
   have hi:i % 2=1:=ZbE h3
   refine .inr (.inl ⟨fun x y q=>?_,h4⟩)
   refine ad (sN (w.sg (i / 2))) fun l g1 g2=>?_
   have:nL C.σ i=60:=(List.cons.inj q).1
   unfold nL at this
   rw [hi] at this
   exact g2 this
  | _=>exact ffE h
 | nam i =>
  induction b using SA.casesOn with
  | nam j =>
   change br both same (Nat.beq i j)=true at h
   induction e:Nat.beq i j using Bool.casesOn with
   | true=>rw [e] at h; exact .inl ⟨by rw [ZbE e],h⟩
   | false=>rw [e] at h; exact .inr (.inr h)
  | _=>exact ffE h
 | _=>exact ffE h
def HM (a:SS):SS->(Bool->Bool)->Bool :=
 @List.rec SA (fun _=>SS->(Bool->Bool)->Bool) (fun b k=>@List.rec SA (fun _=>Bool) (k true) (fun _ _ _=>k false) b) (fun x _ ih b k=>@List.rec SA (fun _=>Bool) (k false) (fun y b _=>Fe x y (ih b k) (k false) (aB (k true) (k false))) b) a
theorem yl (w:C.σ.WF):∀ (a b:SS) (k:Bool->Bool),HM a b k=true->k (decide (txt C.σ a=txt C.σ b))=true:=by
 intro a
 induction a with
 | nil =>
  intro b k h
  induction b using List.casesOn with
  | nil=>exact h
  | cons y b =>
   rw [decide_eq_false (fun e=>lK w e.symm)]
   exact h
 | cons x a ih =>
  intro b k h
  induction b using List.casesOn with
  | nil =>
   rw [decide_eq_false (show ¬ txt C.σ (x :: a)=txt C.σ [] from fun e=>lK w e)]
   exact h
  | cons y b =>
   rcases vz (C:=C) w h with ⟨rfl,h'⟩ | ⟨hne,h'⟩ | h'
   ·have:=ih b k h'
    rw [cP,cP]
    have e:decide (x.val C.σ++txt C.σ a=x.val C.σ++txt C.σ b)=decide (txt C.σ a=txt C.σ b):=decide_eq_decide.mpr (List.append_right_inj _)
    rw [e]; exact this
   ·rw [decide_eq_false (hne a b)]
    exact h'
   ·refine Za1 (af h') fun h1 h2=>?_
    induction decide (txt C.σ (x :: a)=txt C.σ (y :: b)) using Bool.casesOn<;>assumption
def D5:P2:=fun a b H k=>bO a fun x=>bO b fun y=>HM x y fun c=>k (.bool (br true false c)) H
theorem us:cK C (fun a b=>compareOp .NotEq a b) D5:=by
 intro X dp f H k A env B ρ Z s a b va vb hd hA ok ra rb Q E hQ
 nomatch ad (aC hd),hd
 intro x ia g1
 nomatch ad (aC g1),g1
 intro y ib g2
 have h:=yl C.wf _ _ _ g2
 nomatch Ze1 (aA ia ra),ra,ia
 intro t zq1
 subst zq1
 nomatch Ze1 (aA ib rb),rb,ib
 intro u zq1
 subst zq1
 refine P.ne_str ?_
 have e:((aw C.σ x).cps.toList != (aw C.σ y).cps.toList)=br true false (decide (txt C.σ x=txt C.σ y)):=by
  rw [bne,iW]
  induction decide (txt C.σ x=txt C.σ y) using Bool.casesOn<;>rfl
 rw [e]
 exact hQ _ _ _ _ _ _ (Ext.refl ..) ok (.bool ..) h
end
end Mine
namespace Mine
open PySem PySem.W PySem.Calls PyProof.Rows MeetsSeq Builtin.Str
section
variable {C:Cx} {X X':Sc} {B:Bz} {f:Fm} {env env' cenv:Env} {ρ:List Addr} {Z:Fz} {H H':HP} {s s':Shared} {A:Around}
noncomputable def qrL:List Nat:=[113,58,114]
noncomputable def xqL:List Nat:=[120,109,108,110,115,58,113,61,34,118,34]
noncomputable def p0L:List Nat:=[112,48,58]
noncomputable def xpL:List Nat:=[120,109,108,110,115,58,112,48,61,34,117,34]
noncomputable def DZ (x:Str) (l:List Str):Bool:=!(decide (x.length<(⟨#[32]⟩:Str).length) || decide (strKind x<strKind ⟨#[32]⟩)) && !(occurrences x ⟨#[32]⟩ 0 x.length (x.length+1)).isEmpty&&decide (partsBetween x (occurrences x ⟨#[32]⟩ 0 x.length (x.length+1)) 1=l)&&decide (x.length≤100)&&decide (l.length≤100)
noncomputable def FV (x:Str):Bool:=!(decide (x.length<(⟨#[32]⟩:Str).length) || decide (strKind x<strKind ⟨#[32]⟩))&&(occurrences x ⟨#[32]⟩ 0 x.length (x.length+1)).isEmpty&&decide (x.length≤100)
theorem Iy:DZ ⟨(qrL++32 :: xqL).toArray⟩ [⟨qrL.toArray⟩,⟨xqL.toArray⟩]=true:=by decide +kernel
theorem G8 {r:List Nat} (h:r∈[[97],[98],[97,98]]):DZ ⟨(p0L++r++32 :: xpL).toArray⟩ [⟨(p0L++r).toArray⟩,⟨xpL.toArray⟩]=true:=by
 simp only [List.mem_cons,List.not_mem_nil,or_false] at h
 rcases h with rfl | rfl | rfl<;>decide +kernel
theorem HI {r:List Nat} (h:r∈[[97],[98],[97,98]]):FV ⟨(p0L++r).toArray⟩=true:=by
 simp only [List.mem_cons,List.not_mem_nil,or_false] at h
 rcases h with rfl | rfl | rfl<;>decide +kernel
def HR (x:SS) (k:Nat->SS->Bool):Bool:=@List.rec SA (fun _=>Bool) false (fun a r _=>@SA.rec (fun _=>Bool) (fun n=>false) (fun _=>false) (fun _=>false) (fun _=>false) (fun j=>k j r) a) x
theorem yA {x:SS} {k:Nat->SS->Bool} (h:HR x k=true):∃ n r,x = .nam n :: r∧k n r=true:=by
 induction x using List.casesOn with
 | nil=>exact ffE h
 | cons a r=>induction a using SA.casesOn<;>first | exact (dj _ _ rfl h) | exact ffE h
def Gm (x:SS) (y n:Bool):Bool:=@List.rec SA (fun _=>Bool) y (fun _ _ _=>n) x
def IE (x:SS) (k:List SS->Bool):Bool:=hdC x fun c r=>br
 (aB (Nat.beq c 112) (hdC r fun c1 r=>aB (Nat.beq c1 48) (hdC r fun c2 r=>aB (Nat.beq c2 58) (HR r fun j r =>
  Gm r (k [[.c 112,.c 48,.c 58,.nam j]]) (nN (.c 32 :: lit xpL) r (k [[.c 112,.c 48,.c 58,.nam j],lit xpL]))))))
 (nN (lit (qrL++32 :: xqL)) x (k [lit qrL,lit xqL])) (Nat.beq c 113)
inductive TagR:SS->List SS->Prop
 | q:TagR (lit (qrL++32 :: xqL)) [lit qrL,lit xqL]
 | p (j):TagR (.c 112 :: .c 48 :: .c 58 :: .nam j :: .c 32 :: lit xpL) [[.c 112,.c 48,.c 58,.nam j],lit xpL]
 | n (j):TagR [.c 112,.c 48,.c 58,.nam j] [[.c 112,.c 48,.c 58,.nam j]]
theorem wZ {x:SS} {k:List SS->Bool} (h:IE x k=true):∃ l,TagR x l∧k l=true:=by
 nomatch aE (fC h),h
 intro c r zq2 h1
 subst zq2
 induction q:Nat.beq c 113 using Bool.casesOn with
 | true =>
  rw [q] at h1
  have h1:nN (lit (qrL++32 :: xqL)) (.c c :: r) (k [lit qrL,lit xqL])=true:=h1
  refine Za1 (df h1) fun e h2=>?_
  exact (am _ (e ▸ TagR.q) h2)
 | false =>
  rw [q] at h1
  nomatch Za1 (af h1),h1
  intro g1 h2
  have:=ZbE g1
  subst this
  nomatch aE (fC h2),h2
  intro c1 r zq2 h3
  subst zq2
  nomatch Za1 (af h3),h3
  intro g2 h4
  have:=ZbE g2
  subst this
  nomatch aE (fC h4),h4
  intro c2 r zq2 h5
  subst zq2
  nomatch Za1 (af h5),h5
  intro g3 h6
  have:=ZbE g3
  subst this
  nomatch aE (yA h6),h6
  intro j r zq2 h7
  subst zq2
  induction r using List.casesOn with
  | nil=>exact (am _ (.n j) h7)
  | cons a r =>
   have h7:nN (.c 32 :: lit xpL) (a :: r) (k [[.c 112,.c 48,.c 58,.nam j],lit xpL])=true:=h7
   refine Za1 (df h7) fun e h8=>?_
   rw [e]
   exact (am _ (.p j) h8)
def I5 (l:List SS):List AV:=@List.rec SS (fun _=>List AV) [] (fun a _ ih=>.str a :: ih) l
def vP:DC:=fun args _ H k=>nI args fun a b=>bO a fun x=>jj b fun m=>aB (Nat.beq m 32) (IE x fun l=>mP (I5 l) H k)
theorem yB:SC C (.builtin "str.split") 2 vP:=by
 intro X dp f H k A env B ρ Z s args vals hc hA ok hv hlen Q E hQ
 nomatch aE (cE hc hlen),hc
 intro a b zq2 h
 subst zq2
 nomatch ay hv.two,hv
 intro va vb zq2 ra rb
 subst zq2
 nomatch ad (aC h),h
 intro x ix h0
 nomatch ad (dw h0),h0
 intro m zq1 h1
 subst zq1
 nomatch Za1 (af h1),h1
 intro h2 h3
 have:=ZbE h2
 subst this
 nomatch ad (wZ h3),h3
 intro l hl h4
 nomatch cJ (eI h4),h4
 intro H' g1 g2 g3 g4
 nomatch Ze1 (aA ix ra),ra
 intro t zq1
 subst zq1
 nomatch Ze1 (aA (.inr rfl) rb),rb
 intro u zq1
 subst zq1
 have two:∀ x a b:SS,DZ (aw C.σ x) [aw C.σ a,aw C.σ b]=true->(∀ i,H'.get i=if i=H.n then some (.list 2 [.str b,.str a]) else H.get i)->k (.ref H.n) H'=true->wpAny (model C.prog C.w) A (call (.builtin "str.split") [.str (aw C.σ x) t,.str (aw C.σ [.c 32]) u]) Q E s:=by
  intro x a b hz g4 g2
  unfold DZ at hz
  simp only [Bool.and_eq_true,Bool.not_eq_true',decide_eq_true_eq] at hz
  nomatch Za1 hz,hz
  intro zt18_0 z5
  nomatch Za1 zt18_0,zt18_0
  intro zt0_0 z4
  obtain ⟨⟨z1,z2⟩,z3⟩:=zt0_0
  have e:partsBetween (aw C.σ x) (occurrences (aw C.σ x) (aw C.σ [.c 32]) 0 (aw C.σ x).length ((aw C.σ x).length+1)) (aw C.σ [.c 32]).length=[aw C.σ a,aw C.σ b]:=z3
  refine call_meets F.slot_str_split (typeIs_str _ _ _) F.entry_str_split (F.args_str_split_2 _ _) (meets_str_split_sep _ _ t u z1 rfl z2 (by rw [sizeLine_eq]; omega) (by rw [e]; show 2≤sizeLine; rw [sizeLine_eq]; decide)) ?_
  refine (?_:wants Q E _ { s with toks:=_,heap:=s.heap.push { cls:=.type "list",data:=.seq (strsFrom s.toks (partsBetween _ _ 1)).toArray } })
  have e':=e
  change partsBetween _ _ 1=_ at e'
  rw [e']
  have ok1:=ok.tok (s.toks+2)
  refine Za1 (ok1.newList (xs:=[.str a,.str b]) (vs:=strsFrom s.toks [aw C.σ a,aw C.σ b]) (.cons (.str ..) (.cons (.str ..) .nil)) g3 g4) fun o1 o2=>?_
  first | rw [e] | (have e':=e; change partsBetween _ _ 1=_ at e'; rw [e'])
  exact hQ _ _ _ _ _ _ Ext.snoc o1 o2 g2
 cases hl with
 | q=>exact two _ _ _ (by rw [show aw C.σ (lit (qrL++32 :: xqL))=_ from congrArg (fun l=>(⟨l.toArray⟩:Str)) (fu C.σ _),show aw C.σ (lit qrL)=_ from congrArg (fun l=>(⟨l.toArray⟩:Str)) (fu C.σ _),show aw C.σ (lit xqL)=_ from congrArg (fun l=>(⟨l.toArray⟩:Str)) (fu C.σ _)]; exact Iy) g4 g2
 | p j =>
  refine two _ _ _ ?_ g4 g2
  have e1:aw C.σ (.c 112 :: .c 48 :: .c 58 :: .nam j :: .c 32 :: lit xpL)=⟨(p0L++C.σ.nm j++32 :: xpL).toArray⟩:=by
   unfold aw
   have:txt C.σ (.c 112 :: .c 48 :: .c 58 :: .nam j :: .c 32 :: lit xpL)=112 :: 48 :: 58 :: (C.σ.nm j++32 :: txt C.σ (lit xpL)):=by simp [txt,SA.val]
   rw [this,fu]
   simp [p0L]
  have e2:aw C.σ [.c 112,.c 48,.c 58,.nam j]=⟨(p0L++C.σ.nm j).toArray⟩:=by unfold aw; simp [txt,SA.val,p0L]
  rw [e1,e2,show aw C.σ (lit xpL)=_ from congrArg (fun l=>(⟨l.toArray⟩:Str)) (fu C.σ _)]
  exact G8 (C.wf.nm j)
 | n j =>
  have hz:FV (aw C.σ [.c 112,.c 48,.c 58,.nam j])=true:=by
   have e2:aw C.σ [.c 112,.c 48,.c 58,.nam j]=⟨(p0L++C.σ.nm j).toArray⟩:=by unfold aw; simp [txt,SA.val,p0L]
   rw [e2]; exact HI (C.wf.nm j)
  unfold FV at hz
  simp only [Bool.and_eq_true,Bool.not_eq_true',decide_eq_true_eq] at hz
  refine Za1 hz fun zt20_0 z3=>?_
  refine Za1 zt20_0 fun z1 z2=>?_
  refine call_meets F.slot_str_split (typeIs_str _ _ _) F.entry_str_split (F.args_str_split_2 _ _) (meets_str_split_not_found _ _ t u z1 rfl z2) ?_
  have ok1:=ok
  refine Za1 (ok1.newList (xs:=[.str [.c 112,.c 48,.c 58,.nam j]]) (vs:=[.str (aw C.σ [.c 112,.c 48,.c 58,.nam j]) t]) (.cons (.str ..) .nil) g3 g4) fun o1 o2=>?_
  exact hQ _ _ _ _ _ _ Ext.snoc o1 o2 g2
end
end Mine
namespace Mine
open PySem PySem.W PySem.Calls PyProof.Rows MeetsSeq
section
variable {C:Cx} {X X':Sc} {B:Bz} {f f':Fm} {env env' cenv:Env} {ρ:List Addr} {Z:Fz} {H H':HP} {s s':Shared} {A:Around}
def Fr (T:SS):D:=fun _ _ H k=>k (.pos T) H
theorem Db {T:SS} {n:Nat} {pos:Pos} (hT:C.σ.page=T):SE C X (.Constant (.int 0) n pos) (Fr T) :=
 fun dp f H k A env B ρ Z s hd hA ok Q E hQ=>wpAny_Constant_int (hQ _ _ _ _ _ _ (Ext.refl ..) (ok.tok _) (show VRel C.σ ρ Z (.pos T) (.int ((([]:List Nat).length:Nat):Int) _) from .pos (by rw [hT]; rfl)) hd)
theorem yq {σ:Sig} {x y:SS} {v:Value} (h:txt σ x=txt σ y) (r:VRel σ ρ Z (.pos x) v):VRel σ ρ Z (.pos y) v:=by
 refine aE r.inv fun _ _ zq2 e=>?_
 subst zq2
 exact .pos (by rw [e,h])
theorem OK.reword (ok:OK C X B f env ρ Z H s) (hc:f'.cel=f.cel) (h:∀ (k:Nat) v,f'.loc[k]?=some v->∃ v',f.loc[k]?=some v'∧∀ z,v=some z->∃ z',v'=some z'∧∀ y,VRel C.σ ρ Z z' y->VRel C.σ ρ Z z y):OK C X B f' env ρ Z H s:=by
 refine ad ok.f.ns fun m hm hr=>?_
 refine ⟨ok.g,ok.f.sc,ok.f.gl,ok.f.bl,ok.f.cd,ok.f.qual,(am m hm (fun k x v hx hv z hz=>?_)),by rw [hc]; exact ok.f.ce⟩
 refine ad (h k v hv) fun v' h1 h2=>?_
 refine ad (h2 z hz) fun z' h3 h4=>?_
 refine ad (hr k x v' hx h1 z' h3) fun y h5 h6=>?_
 exact (am y h5 (h4 y h6))
noncomputable def RwL (σ:Sig) (ρ:List Addr) (Z:Fz) (l' l:List (Option AV)):Prop:=∀ (k:Nat) v,l'[k]?=some v->∃ v',l[k]?=some v'∧∀ z,v=some z->∃ z',v'=some z'∧∀ y,VRel σ ρ Z z' y->VRel σ ρ Z z y
theorem RwL.nil {σ:Sig}:RwL σ ρ Z [] []:=fun k v h=>noS h
theorem RwL.cons {σ:Sig} {a a':Option AV} {l' l:List (Option AV)} (h:∀ z,a=some z->∃ z',a'=some z'∧∀ y,VRel σ ρ Z z' y->VRel σ ρ Z z y) (t:RwL σ ρ Z l' l):RwL σ ρ Z (a :: l') (a' :: l):=fun k v hv =>
 match k,hv with
 | 0,hv=>(am a' rfl (fun z hz=>h z ((Option.some.inj hv).trans hz)))
 | k+1,hv=>t k v hv
theorem RwL.same {σ:Sig} {a:Option AV} {l' l:List (Option AV)} (t:RwL σ ρ Z l' l):RwL σ ρ Z (a :: l') (a :: l):=.cons (fun z hz=>(am z hz (fun _ q=>q))) t
theorem RwL.pos {σ:Sig} {x y:SS} {l' l:List (Option AV)} (h:txt σ y=txt σ x) (t:RwL σ ρ Z l' l):RwL σ ρ Z (some (.pos x) :: l') (some (.pos y) :: l) :=
 .cons (fun z hz=>(am (.pos y) rfl (fun v q=>by rw [← Option.some.inj hz]; exact yq h q))) t
def un1 {α:Type} (l:List α) (k:α->List α->Bool):Bool:=@List.rec α (fun _=>Bool) false (fun a r _=>k a r) l
theorem cX {α:Type} {l:List α} {k:α->List α->Bool} (h:un1 l k=true):∃ a r,l=a :: r∧k a r=true:=by
 induction l using List.casesOn with
 | nil=>exact ffE h
 | cons a r=>exact (dj a r rfl h)
def un0 {α:Type} (l:List α) (k:Bool):Bool:=@List.rec α (fun _=>Bool) k (fun _ _ _=>false) l
theorem Bj {α:Type} {l:List α} {k:Bool} (h:un0 l k=true):l=[]∧k=true:=by
 induction l using List.casesOn with
 | nil=>exact ⟨rfl,h⟩
 | cons a r=>exact ffE h
def IX (x:SS) (y:Nat->SS->Bool) (n:Bool):Bool:=@List.rec SA (fun _=>Bool) n (fun a r _=>@SA.rec (fun _=>Bool) (fun _=>n) (fun _=>n) (fun j=>y j r) (fun _=>n) (fun _=>n) a) x
def Fc (v:AV):SS:=@AV.rec (fun _=>SS) [] (fun b=>[]) (fun i=>[]) (fun s=>[]) (fun j=>[]) (fun v=>[]) (fun l _=>[]) [] (fun _ _ _ _=>[]) (fun c j=>[]) (fun _ _ _=>[]) (fun _ _ _=>[]) (fun a b c=>[]) (fun a b c _ _ _=>[]) (fun _=>[]) (fun _ _=>[]) (fun _ _ _=>[]) [] (fun s=>s) (fun _ _=>[]) (fun _=>[]) (fun _=>[]) (fun s=>[]) v
def wx (dq0:DS):DS:=fun dp f H kn kr=>td f.loc 5 fun at_=>IX (Fc at_)
 (fun j r=>@Fm.rec (fun _=>Bool) (fun loc cel=>un1 loc fun o0 l=>un1 l fun o1 l=>un1 l fun o2 l=>un1 l fun o3 l=>un1 l fun o4 l=>un1 l fun o5 l=>un1 l fun o6 l=>un0 l
  (aB (qs at_) (bk o0 fun pg=>aB (kR pg) (bk o6 fun e=>kS e fun s6=>nN (.spl j :: r) s6 (nr false (fun dp=>nr false (fun _=>kn ⟨[o0,o1,o2,o3,o4,o5,some (.pos (.lst (Nat.mul 2 j) :: r))],cel⟩ H) dp) dp))))) f)
 (dq0 dp f H kn kr)
theorem Dx (σ:Sig) (j:Nat) (r:SS):txt σ (lit (bJ (σ.sg j))++r)=txt σ (.spl j :: r):=by rw [cG,fu]; rfl
theorem BF (σ:Sig) (j:Nat):nL σ (2 * j)=(bJ (σ.sg j)).getLastD 0:=by
 unfold nL
 have e1:2 * j % 2=0:=by omega
 have e2:2 * j / 2=j:=by omega
 rw [e1,e2]; rfl
open Classical in
theorem Cd {st:Stmt} {dq0:DS} (h:S1 C X st dq0)
  (hspec:∀ n,n∈[38,60,62,13,120,10,34,9]->∀ dp o1 o2 o3 o4 cel r H kn kr,dq0 (Nat.succ (Nat.succ dp)) ⟨[some .page,o1,o2,o3,o4,some (.pos (lit (bJ n)++r)),some (.pos (lit (bJ n)++r))],cel⟩ H kn kr=kn ⟨[some .page,o1,o2,o3,o4,some (.pos (lit (bJ n)++r)),some (.pos (.c ((bJ n).getLastD 0) :: r))],cel⟩ H):S1 C X st (wx dq0):=by
 intro dp f H kn kr A env B ρ Z s hd hA ok Q E hn hr
 refine ad (eJ hd) fun at_ h1 h2=>?_
 have other:dq0 dp f H kn kr=true->wpAny (model C.prog C.w) A (exec st env) Q E s:=fun h'=>h dp f H kn kr A env B ρ Z s h' hA ok Q E hn hr
 induction hp:Fc at_ using List.casesOn with
 | nil=>rw [hp] at h2; exact other h2
 | cons a r =>
  rw [hp] at h2
  induction a using SA.casesOn with
  | spl j =>
   have key:∃ o1 o2 o3 o4,∃ cel d,f=⟨[some .page,o1,o2,o3,o4,some (.pos (.spl j :: r)),some (.pos (.spl j :: r))],cel⟩∧dp=Nat.succ (Nat.succ d)∧kn ⟨[some .page,o1,o2,o3,o4,some (.pos (.spl j :: r)),some (.pos (.lst (2 * j) :: r))],cel⟩ H=true:=by
    clear other hn hr hA ok h hspec Q E hd
    obtain ⟨loc,cel⟩:=f
    nomatch aE (cX h2),h2
    intro o0 l zq2 h3
    subst zq2
    nomatch aE (cX h3),h3
    intro o1 l zq2 h4
    subst zq2
    nomatch aE (cX h4),h4
    intro o2 l zq2 h5
    subst zq2
    nomatch aE (cX h5),h5
    intro o3 l zq2 h6
    subst zq2
    nomatch aE (cX h6),h6
    intro o4 l zq2 h7
    subst zq2
    nomatch aE (cX h7),h7
    intro o5 l zq2 h8
    subst zq2
    nomatch aE (cX h8),h8
    intro o6 l zq2 h9
    subst zq2
    nomatch Za1 (Bj h9),h9
    intro zq0 h10
    subst zq0
    nomatch Za1 (af h10),h10
    intro h11 h12
    nomatch ad (dz h11),h11
    intro x zq1 _
    subst zq1
    have hx:x = .spl j :: r:=hp
    subst hx
    nomatch ad (al h12),h12
    intro pg zq1 h13
    subst zq1
    nomatch Za1 (af h13),h13
    intro h14 h15
    have:=im h14
    subst this
    nomatch ad (al h15),h15
    intro e zq1 h16
    subst zq1
    nomatch ad (dz h16),h16
    intro s6 zq1 h17
    subst zq1
    nomatch Za1 (df h17),h17
    intro zq0 h18
    subst zq0
    have ho5:o5=some (.pos (.spl j :: r)):=by simpa using h1
    subst ho5
    have zh20:∃ d,dp=Nat.succ (Nat.succ d):=by
     induction dp using Nat.casesAuxOn with
     | zero=>exact ffE h18
     | succ dp=>induction dp using Nat.casesAuxOn with
      | zero=>exact ffE h18
      | succ d=>exact ⟨d,rfl⟩
    nomatch Ze1 zh20,zh20
    intro dp zq1
    subst zq1
    exact ⟨o1,o2,o3,o4,cel,dp,rfl,rfl,h18⟩
   clear h1 h2 hp other
   nomatch Ze4 key,key
   intro o1 o2 o3 o4 key
   nomatch ay key,key
   intro cel d zq1 zq2 hk
   clear hd
   subst zq1
   subst zq2
   have eT:=Dx C.σ j r
   have ok₁:OK C X B ⟨[some .page,o1,o2,o3,o4,some (.pos (lit (bJ (C.σ.sg j))++r)),some (.pos (lit (bJ (C.σ.sg j))++r))],cel⟩ env ρ Z H s:=by
    exact ok.reword rfl (RwL.same (.same (.same (.same (.same (.pos eT.symm (.pos eT.symm .nil)))))))
   refine h (Nat.succ (Nat.succ d)) _ H (fun f' H'=>decide (f'=⟨[some .page,o1,o2,o3,o4,some (.pos (lit (bJ (C.σ.sg j))++r)),some (.pos (.c ((bJ (C.σ.sg j)).getLastD 0) :: r))],cel⟩∧H'=H)) (fun _ _=>false) A env B ρ Z s (by rw [hspec _ (C.wf.sg j)]; exact decide_eq_true ⟨rfl,rfl⟩) hA ok₁ Q E (fun ρ' Z' H' s' f' e ok' hd'=>?_) (fun ρ' Z' H' s' f' av v e ok' q hd'=>nomatch hd')
   refine Za1 (of_decide_eq_true hd') fun zq0 zq1=>?_
   subst zq0
   subst zq1
   refine hn ρ' Z' H' s' ⟨[some .page,o1,o2,o3,o4,some (.pos (.spl j :: r)),some (.pos (.lst (2 * j) :: r))],cel⟩ e (ok'.reword rfl (RwL.same (.same (.same (.same (.same (.pos eT (.pos (show [(bJ (C.σ.sg j)).getLastD 0]++txt C.σ r=[nL C.σ (2 * j)]++txt C.σ r by rw [BF]) .nil)))))))) hk
  | _=>exact other h2
end
section
variable {C:Cx} {X X':Sc} {B:Bz} {f f':Fm} {env env' cenv:Env} {ρ:List Addr} {Z:Fz} {H H':HP} {s s':Shared} {A:Around}
theorem uL {it:Addr} {x:Str} {t:Tok} {i c:Nat} {Q:Option Value->Shared->Prop} {E:Value->Shared->Prop} {prog:Program} {w:World} (hit:s.heap.IsStrIter it (strIterType x) x t i) (hx:x.cps[i]?=some c)
  (hQ:∀ h',h'.IsStrIter it (strIterType x) x t (i+1)->Heap.SameBut it s.heap h'->Q (some (.str ⟨#[c]⟩ s.toks)) { s with heap:=h',toks:=s.toks+1 }):wpAny (model prog w) A (pyNext (.ref it)) Q E s:=by
 unfold strIterType at hit hQ
 split at hit
 ·rename_i q
  rw [if_pos q] at hQ
  exact wpAny_pyNext_ascii_item hit hx hQ
 ·rename_i q
  rw [if_neg q] at hQ
  exact wpAny_pyNext_wide_item hit hx hQ
theorem ow {it:Addr} {x:Str} {t:Tok} {i:Nat} {Q:Option Value->Shared->Prop} {E:Value->Shared->Prop} {prog:Program} {w:World} (hh:A.handled=none) (hit:s.heap.IsStrIter it (strIterType x) x t i) (hx:x.cps[i]?=none)
  (hQ:∀ h',Heap.ExtBut it s.heap h'->Q none { s with heap:=h' }):wpAny (model prog w) A (pyNext (.ref it)) Q E s:=by
 unfold strIterType at hit
 split at hit
 ·exact wpAny_pyNext_ascii_end hh hit hx hQ
 ·exact wpAny_pyNext_wide_end hh hit hx hQ
theorem uM {x:Str} {v:Value} {m:Str->Option Value} {Q:Unit->Shared->Prop} {E:Value->Shared->Prop} (hk:X.sc.kind = .function) (hl:X.sc.names.lookup x=some .local) (ok:OK C X B f env ρ Z H s) (hm:s.heap.Ns env.locals m) (hf:∀ (k:Nat) w,X.tab[k]?=some x->f.loc[k]?=some w->w=none)
  (hr:∀ (k:Nat) y w,X.tab[k]?=some y->f.loc[k]?=some w->SRel C.σ ρ Z w (m y))
  (h:∀ h',OK C X B f env ρ Z H { s with heap:=h',toks:=s.toks+1 }->h'.Ns env.locals (fun y=>if y=x then some v else m y)->Heap.SameBut env.locals s.heap h'->Q () { s with heap:=h',toks:=s.toks+1 }):wpAny (model C.prog C.w) A (storeName env x v) Q E s:=by
 refine wpAny_storeName_local (by show env.scope.names.lookup x=_; rw [ok.f.sc]; exact hl) hm (fun h' hm' hs=>h h' ?_ hm' hs) (by rw [ok.f.sc,hk]; rfl)
 refine ok.store (f':=f) hs hm' rfl (fun k y w a b=>?_) (Nat.le_succ _)
 by_cases e:y=x
 ·clear hl h hm'
  subst e
  rw [hf k w a b]
  exact fun z hz=>nomatch hz
 ·have:=hr k y w a b
  simpa [e] using this
def DI (m:Nat) (x:SS):Nat->(Nat->Bool)->Bool:=@List.rec SA (fun _=>Nat->(Nat->Bool)->Bool) (fun n k=>k n) (fun a _ ih n k=>@SA.rec (fun _=>Bool) (fun c=>br (ih n k) (aZ (Nat.succ n) fun n=>ih n k) (Nat.beq c m)) (fun _=>false) (fun _=>aB (Nat.beq m 47) (ih n k)) (fun _=>false) (fun _=>aB (Nat.beq m 47) (ih n k)) a) x
theorem ua {n:Nat} (h:n∈[38,60,62,13,120,10,34,9]):(bJ n).count 47=0:=by
 simp only [List.mem_cons,List.not_mem_nil,or_false] at h
 rcases h with rfl | rfl | rfl | rfl | rfl | rfl | rfl | rfl<;>decide
theorem xC {m:Nat} {x:SS}:∀ {n:Nat} {k:Nat->Bool},DI m x n k=true->k (n+(txt C.σ x).count m)=true:=by
 induction x with
 | nil=>intro n k h; exact h
 | cons a x ih =>
  intro n k h
  induction a using SA.casesOn with
  | c c =>
   change br (DI m x n k) (aZ (Nat.succ n) fun n=>DI m x n k) (Nat.beq c m)=true at h
   rw [eA,aP] at h
   rw [cP,List.count_append]
   by_cases e:c=m
   ·rw [decide_eq_true e] at h
    have:=ih h
    have e2:(SA.val C.σ (.c c)).count m=1:=by clear ih h; subst e; simp [SA.val]
    rw [e2,← Nat.add_assoc]; exact this
   ·rw [decide_eq_false e] at h
    have:=ih h
    have e2:(SA.val C.σ (.c c)).count m=0:=by simp [SA.val,List.count_cons,e]
    rw [e2,Nat.zero_add]; exact this
  | spl j =>
   refine Za1 (af h) fun h1 h2=>?_
   have:=ZbE h1
   clear h h1
   subst this
   have:=ih h2
   rw [cP,List.count_append]
   have e2:(SA.val C.σ (.spl j)).count 47=0:=ua (C.wf.sg j)
   rw [e2,Nat.zero_add]; exact this
  | nam j =>
   refine Za1 (af h) fun h1 h2=>?_
   have:=ZbE h1
   clear h h1
   subst this
   have:=ih h2
   rw [cP,List.count_append]
   have e2:(SA.val C.σ (.nam j)).count 47=0:=by
    have hn:=C.wf.nm j
    simp only [List.mem_cons,List.not_mem_nil,or_false] at hn
    rcases hn with e | e | e<;>(show (C.σ.nm j).count 47=0; rw [e]; decide)
   rw [e2,Nat.zero_add]; exact this
  | _=>exact ffE h
def Il (ia ib ii ic:Nat):DS:=fun dp f H kn kr=>aB (vU ii f) (td f.loc ia fun a=>td f.loc ib fun b=>td f.loc ic fun c=>bk (bq c) fun z=>aB (ieq z 0) (bO a fun x=>jj b fun m=>DI m x 0 fun n=>lM ic (.int (.ofNat n)) f fun f=>kn f H))
theorem Iz (q1:C.t1) {xa xb xi xc:Str} {pa pi pc1 pc2 pb pif pj1 pj2 pb1 pb2 pos p1 p2 p3:Pos} {k1 ia ib ii ic:Nat} (hk:X.sc.kind = .function) (hla:X.sc.names.lookup xa=some .local) (hli:X.sc.names.lookup xi=some .local) (hlc:X.sc.names.lookup xc=some .local) (hlb:X.sc.names.lookup xb=some .local)
  (hia:X.tab[ia]?=some xa) (hib:X.tab[ib]?=some xb) (hii:X.tab[ii]?=some xi) (hic:X.tab[ic]?=some xc) (hn:X.tab.Nodup) (hbi:xb ≠ xi) (hbc:xb ≠ xc) (hci:xc ≠ xi) (hda:(xa==("__debug__" : Str))=false) (hdi:(xi==("__debug__" : Str))=false) (hdb:(xb==("__debug__" : Str))=false) :
  S1 C X (.For (.Name xi pi) (.Name xa pa) [.If (.BoolOp .Or [.Compare (.Name xi pj1) [.Is] [.Name xb pb1] pc1,.Compare (.Name xi pj2) [.Eq] [.Name xb pb2] pc2] pb) [.AugAssign (.Name xc p1) .Add (.Constant (.int 1) k1 p2) p3] [] pif] [] pos) (Il ia ib ii ic):=by
 intro dp f H kn kr A env B ρ Z s hd hA ok Q E hQn hQr
 refine Za1 (af hd) fun u1 hd1=>?_
 have w1:=jW u1
 obtain ⟨loc,cel⟩:=f
 refine ad (eJ (l:=loc) (n:=ia) hd1) fun a la hd3=>?_
 refine ad (eJ (l:=loc) (n:=ib) hd3) fun b lb hd4=>?_
 nomatch ad (eJ (l:=loc) (n:=ic) hd4),hd4
 intro c0 lc hd5
 nomatch ad (al hd5),hd5
 intro z hz hd6
 nomatch Za1 (af hd6),hd6
 intro hz0 hd7
 rw [ig] at hz0
 have:=of_decide_eq_true hz0
 clear hz0
 subst this
 nomatch ad (aC hd7),hd7
 intro x iax hd8
 nomatch ad (dw hd8),hd8
 intro c zq1 hd9
 subst zq1
 have hd10:=xC (C:=C) hd9
 rw [Nat.zero_add] at hd10
 refine aU (lP _ _ _ _ hd10) fun l' hk' hl1 hl2=>?_
 refine ad ok.f.ns fun m hm hmr=>?_
 nomatch ad (hmr ia xa _ hia la a rfl),hia,la
 intro va ma ra
 nomatch ad (hmr ib xb _ hib lb _ rfl),hib,lb
 intro vb mb rb
 refine ad (hmr ic xc _ hic lc _ rfl) fun vc mc rc=>?_
 refine Ze1 (aA iax ra) fun t zq1=>?_
 clear ra
 subst zq1
 refine Ze1 (ar hz rc) fun tc zq1=>?_
 clear rc
 subst zq1
 let f₀:Fm:=⟨loc.set ic none,cel⟩
 have ix:∀ {k j:Nat} {y z:Str},X.tab[k]?=some y->X.tab[j]?=some z->y=z->k=j:=fun {k j y z} h1 h2 e=>(List.getElem?_inj (ZbS h1).1 hn).mp (h1.trans (e ▸ h2.symm))
 have sub0:∀ (k:Nat) w,f₀.loc[k]?=some w->w=none∨(k ≠ ic∧loc[k]?=some w):=fun k w h=>by
  by_cases e:k=ic
  ·clear hic hd hd1 hd3 hd9 hd10 hl1 hl2
   subst e
   have:k<loc.length:=(ZbS lc).1
   rw [show f₀.loc[k]?=(loc.set k none)[k]? from rfl,List.getElem?_set_self this] at h
   injections h; exact .inl rfl
  ·rw [show f₀.loc[k]?=(loc.set ic none)[k]? from rfl,List.getElem?_set_ne (Ne.symm e)] at h
   exact .inr ⟨e,h⟩
 have ok0:OK C X B f₀ env ρ Z H s:=by
  refine ⟨ok.g,ok.f.sc,ok.f.gl,ok.f.bl,ok.f.cd,ok.f.qual,(am m hm (fun k y w h1 h2=>?_)),ok.f.ce⟩
  rcases sub0 k w h2 with rfl | ⟨_,h3⟩
  ·exact fun z hz=>nomatch hz
  ·exact hmr k y w h1 h3
 have hfi:∀ (k:Nat) w,X.tab[k]?=some xi->f₀.loc[k]?=some w->w=none:=fun k w h1 h2=>by
  rcases sub0 k w h2 with rfl | ⟨_,h3⟩
  ·rfl
  ·have:=ix h1 hii rfl
   clear hii hd u1
   subst this; exact w1 w h3
 have hfc:∀ (k:Nat) w,X.tab[k]?=some xc->f₀.loc[k]?=some w->w=none:=fun k w h1 h2=>by
  rcases sub0 k w h2 with rfl | ⟨h3,_⟩
  ·rfl
  ·exact absurd (ix h1 hic rfl) h3
 refine ad rb.inv fun tb zq1 hb=>?_
 clear rb
 subst zq1
 refine wpAny_For ?_ fun _=>rfl
 have kf:env.scope.kind = .function:=by rw [ok.f.sc]; exact hk
 refine wpAny_Name (wpAny_loadName_local kf (by show env.scope.names.lookup xa=_; rw [ok.f.sc]; exact hla) hm ma ?_) hda
 refine wpAny_pyIter_strU ?_
 nomatch Za1 (ok0.own { cls:=.type (strIterType (aw C.σ x)),data:=.fields #[.str (aw C.σ x) t,.int 0 0] } rfl),ok0
 intro ok1 hown
 have hown:=hown (s.heap.objs.size,_) (List.mem_singleton.mpr rfl)
 have hit0:(s.heap.push { cls:=.type (strIterType (aw C.σ x)),data:=.fields #[.str (aw C.σ x) t,.int 0 0] }).IsStrIter s.heap.objs.size (strIterType (aw C.σ x)) (aw C.σ x) t 0:=⟨_,Heap.get?_push_size _ rfl,rfl,rfl⟩
 generalize hits:s.heap.objs.size=it at *
 have hL:=hown.2.2.2.2
 have hm0:(s.heap.push { cls:=.type (strIterType (aw C.σ x)),data:=.fields #[.str (aw C.σ x) t,.int 0 0] }).Ns env.locals m:=hm.keeps fun b o e=>Heap.get?_push_of_some _ e
 refine fo (fun n s'=>∃ i m,n+i=(txt C.σ x).length+1∧i≤(txt C.σ x).length∧OK C X B f₀ env ρ Z H s'∧s'.heap.IsStrIter it (strIterType (aw C.σ x)) (aw C.σ x) t i∧s'.heap.Ns env.locals m∧m xb=some (.str (aw C.σ [.c c]) tb)∧(∃ u,m xc=some (.int ((((txt C.σ x).take i).count c:Nat):Int) u))∧∀ (k:Nat) y w,X.tab[k]?=some y->f₀.loc[k]?=some w->SRel C.σ ρ Z w (m y)) ?_ ((txt C.σ x).length+1)
  (iP 0 m rfl (Nat.zero_le _) ok1 hit0 ⟨hm0,mb,⟨tc,by simpa using mc⟩,(fun k y w h1 h2=>by
   rcases sub0 k w h2 with rfl | ⟨_,h3⟩
   ·exact fun z hz=>nomatch hz
   ·exact hmr k y w h1 h3)⟩)
 intro n s₁ zr18_2
 nomatch dO zr18_2,zr18_2
 intro i mq1 hni hi ok₁ hit1 zw0
 nomatch Za3 zw0,zw0
 intro hm₁ hmb zt18_2_8 hmr1
 nomatch Ze1 zt18_2_8,zt18_2_8
 intro u hmc
 have hio:it ∉ ρ∧(∀ o,¬ B it o)∧(∀ o,¬ Z.ob it o):=⟨hown.2.1,hown.2.2.1,hown.2.2.2.1⟩
 rcases Nat.lt_or_ge i (txt C.σ x).length with hlt | hge
 ·have hxi:(aw C.σ x).cps[i]?=some ((txt C.σ x)[i]):=by
   refine (?_:(txt C.σ x).toArray[i]?=_)
   rw [List.getElem?_toArray]; simp
  refine uL hit1 hxi fun h₂ hit₂ hs₂=>?_
  refine (?_:wpAny _ _ (pure ()) _ _ _)
  refine ZP ?_
  have ok₂:OK C X B f₀ env ρ Z H { s₁ with heap:=h₂,toks:=s₁.toks+1 }:=(ok₁.extBut hs₂.extBut hio.1 hio.2.1 hio.2.2 hL).tok (s₁.toks+1)
  have hm₂:h₂.Ns env.locals mq1:=hm₁.sameBut hs₂ (Ne.symm hL)
  refine lH hk hli ok₂ hm₂ hfi hmr1 fun h₃ ok₃ hm₃ hs₃=>?_
  have hmr3:∀ (k:Nat) y w,X.tab[k]?=some y->f₀.loc[k]?=some w->SRel C.σ ρ Z w (if y=xi then some (.str ⟨#[(txt C.σ x)[i]]⟩ s₁.toks) else mq1 y):=fun k y w a b=>by
   by_cases q:y=xi
   ·clear hli hii hbi hci hdi hm₃
    subst q; rw [hfi k w a b]; exact fun z hz=>nomatch hz
   ·rw [if_neg q]; exact hmr1 k y w a b
  have hit₃:h₃.IsStrIter it (strIterType (aw C.σ x)) (aw C.σ x) t (i+1):=hit₂.extBut hs₃.extBut hL
  have rd:∀ (y:Str) (v:Value) (p:Pos),X.sc.names.lookup y=some .local->(y==("__debug__" : Str))=false->(if y=xi then some (Value.str ⟨#[(txt C.σ x)[i]]⟩ s₁.toks) else mq1 y)=some v->∀ (Q:Value->Shared->Prop) (E:Value->Shared->Prop),Q v { s₁ with heap:=h₃,toks:=s₁.toks+1+1 } ->
    wpAny (model C.prog C.w) A (eval (.Name y p) env) Q E { s₁ with heap:=h₃,toks:=s₁.toks+1+1 }:=fun y v p hl hd hv Q E hq =>
   wpAny_Name (wpAny_loadName_local kf (by show env.scope.names.lookup y=_; rw [ok₃.f.sc]; exact hl) hm₃ hv hq) hd
  have hu0:s₁.toks ≠ 0:=Nat.ne_of_gt (ok₁.g.tk q1)
  have ht0:=(fun z:(C.t1->tb ≠ 0)∧tb<s₁.toks=>And.intro (z.1 q1) z.2) (ok₁.g.tkb _ _ hb)
  have hans:=Ans.chars (C:=C) (A:=A) (s:={ s₁ with heap:=h₃,toks:=s₁.toks+1+1 }) (c:=(txt C.σ x)[i]) (m:=c) hu0 ht0.1 (Nat.ne_of_gt ht0.2) ok₃.nb
  have hxb:aw C.σ [.c c]=⟨#[c]⟩:=rfl
  rw [hxb] at hmb
  have htk:((txt C.σ x).take (i+1)).count c=((txt C.σ x).take i).count c+if (txt C.σ x)[i]=c then 1 else 0:=by
   rw [List.take_succ_eq_append_getElem hlt,List.count_append]
   by_cases e:(txt C.σ x)[i]=c<;>simp [List.count_cons,e]
  refine wpAny_execs_cons (wpAny_If (wG (res:=decide ((txt C.σ x)[i]=c)) (rd xi _ _ hli hdi (if_pos rfl)) (rd xb _ _ hlb hdb (by rw [if_neg hbi]; exact hmb)) (rd xi _ _ hli hdi (if_pos rfl)) (rd xb _ _ hlb hdb (by rw [if_neg hbi]; exact hmb)) hans rfl rfl ?_))
  by_cases q:(txt C.σ x)[i]=c
  ·rw [decide_eq_true q]
   refine (?_:wpAny _ _ (execs [.AugAssign (.Name xc p1) .Add (.Constant (.int 1) k1 p2) p3] env) _ _ _)
   have hmc3:(if xc=xi then some (Value.str ⟨#[(txt C.σ x)[i]]⟩ s₁.toks) else mq1 xc)=some (.int ((((txt C.σ x).take i).count c:Nat):Int) u):=by rw [if_neg hci]; exact hmc
   refine wpAny_execs_cons (wpAny_AugAssign_Name (wpAny_loadName_local kf (by show env.scope.names.lookup xc=_; rw [ok₃.f.sc]; exact hlc) hm₃ hmc3 (wpAny_Constant_int (P.iadd_int ?_))))
   have ok₄:=ok₃.tok (s₁.toks+1+1+1+1) (by show s₁.toks+1+1≤_; omega)
   refine uM hk hlc ok₄ hm₃ hfc hmr3 fun hq5 ok₅ hm5 hs₅=>?_
   refine wpAny_execs_nil (wpAny_execs_nil (am (n-1) (by omega) (iP (i+1) _ (by omega) (by omega) ok₅ (hit₃.extBut hs₅.extBut hL) ⟨hm5,(?_),(?_),(?_)⟩)))
   ·refine (?_:(if xb=xc then _ else if xb=xi then _ else mq1 xb)=_)
    rw [if_neg hbc,if_neg hbi]; exact hmb
   ·rw [htk,if_pos q]
    exact ⟨_,if_pos rfl⟩
   ·intro k y w h1 h2
    refine (?_:SRel C.σ ρ Z w (if y=xc then _ else if y=xi then _ else mq1 y))
    by_cases e:y=xc
    ·clear hlc hic hbc hci mc hmc hmc3 hm5
     subst e; rw [hfc k w h1 h2]; exact fun z hz=>nomatch hz
    ·rw [if_neg e]; exact hmr3 k y w h1 h2
  ·rw [decide_eq_false q]
   refine (?_:wpAny _ _ (execs [] env) _ _ _)
   refine wpAny_execs_nil (wpAny_execs_nil (am (n-1) (by omega) (iP (i+1) _ (by omega) (by omega) ok₃ hit₃ ⟨hm₃,(by rw [if_neg hbi]; exact hmb),⟨u,by rw [if_neg hci,hmc,htk,if_neg q]; rfl⟩,hmr3⟩)))
 ·have hie:i=(txt C.σ x).length:=by omega
  clear hni hi hge
  subst hie
  have hxi:(aw C.σ x).cps[(txt C.σ x).length]?=none:=by
   refine (?_:(txt C.σ x).toArray[(txt C.σ x).length]?=_)
   rw [List.getElem?_toArray]; simp
  refine ow hA.hd hit1 hxi fun h₂ hxq2=>?_
  refine (?_:wpAny _ _ (execs [] env) _ _ _)
  have ok₂:OK C X B f₀ env ρ Z H { s₁ with heap:=h₂ }:=ok₁.extBut hxq2 hio.1 hio.2.1 hio.2.2 hL
  have hm₂:h₂.Ns env.locals mq1:=hm₁.at' fun o q=>hxq2 _ o (Ne.symm hL) q
  refine wpAny_execs_nil (hQn ρ Z H _ ⟨l',cel⟩ (Ext.refl ..) ⟨ok₂.g,ok₂.f.sc,ok₂.f.gl,ok₂.f.bl,ok₂.f.cd,ok₂.f.qual,(am mq1 hm₂ (fun k y w h1 h2=>?_)),ok₂.f.ce⟩ hk')
  by_cases e:k=ic
  ·clear hd hd1 hd3 lc hd9 hd10 hl2 sub0
   subst e
   have:w=some (.int (.ofNat ((txt C.σ x).count c))):=by
    have h2':l'[k]?=some w:=h2
    rw [hl1] at h2'; exact (Option.some.inj h2').symm
   clear h2
   subst this
   intro z hz
   injections hz
   have:y=xc:=Option.some.inj (h1.symm.trans hic)
   clear hlc hbc hci mc hic hfc
   subst this
   refine (am _ hmc (?_))
   rw [List.take_length]
   exact .int ..
  ·have h3:loc[k]?=some w:=(hl2 k e).symm.trans h2
   refine hmr1 k y w h1 ?_
   refine (?_:(loc.set ic none)[k]?=_)
   rw [List.getElem?_set_ne (Ne.symm e)]; exact h3
end
noncomputable def eN (vs:List Value) (k:Nat):Int:=(numsOf (slicePick vs.toArray (some (k:Int)) none (some 4)).toList).sum
noncomputable def cM:Nat->Int
 | 0=>1
 | 1=>27
 | 2=>144392
 | _=>588
noncomputable def sgTab:List Nat:=[38,60,62,13,120,10,34,9]
noncomputable def nmTab:List (List Nat):=[[97],[98],[97,98]]
structure LC (C:Cx):Prop where
 sa:∃ a vs,C.σ.scr = .ref a∧C.G.IsList a (vs:List Value).toArray∧AllInts vs.toArray∧vs.length≤100000∧∀ k,k<4->C.σ.cel k=cM k+eN vs k∧C.σ.cok k
 sg:∀ j,j<6->∃ n,n<8∧Int.fmod (Int.fdiv (C.σ.cel 2) ((8 ^ j:Nat):Int)) ((8:Nat):Int)=((n:Nat):Int)∧sgTab[n]?=some (C.σ.sg j)
 nm:∀ j,j<6->∃ n,n<3∧Int.fmod (Int.fdiv (C.σ.cel 3) ((3 ^ j:Nat):Int)) ((3:Nat):Int)=((n:Nat):Int)∧nmTab[n]?=some (C.σ.nm j)
section
variable {C:Cx} {X X':Sc} {B:Bz} {f f':Fm} {env env' cenv:Env} {ρ:List Addr} {Z:Fz} {H H':HP} {s s':Shared} {A:Around}
def zK (v:AV):Bool:=@AV.rec (fun _=>Bool) false (fun b=>false) (fun i=>false) (fun s=>false) (fun j=>false) (fun v=>false) (fun l _=>false) false (fun a _ _ _=>@AV.rec (fun _=>Bool) true (fun b=>false) (fun i=>false) (fun s=>false) (fun j=>false) (fun v=>false) (fun l _=>false) false (fun _ _ _ _=>false) (fun c j=>false) (fun _ _ _=>false) (fun _ _ _=>false) (fun a b c=>false) (fun a b c _ _ _=>false) (fun _=>false) (fun _ _=>false) (fun _ _ _=>false) false (fun _=>false) (fun _ _=>false) (fun _=>false) (fun _=>false) (fun s=>false) a) (fun c j=>false) (fun _ _ _=>false) (fun _ _ _=>false) (fun a b c=>false) (fun a b c _ _ _=>false) (fun _=>false) (fun _ _=>false) (fun _ _ _=>false) false (fun _=>false) (fun _ _=>false) (fun _=>false) (fun _=>false) (fun s=>false) v
theorem pX {v:AV} (h:zK v=true):∃ b,v = .tcons .none b:=by
 induction v using AV.casesOn with
 | tcons a b=>induction a using AV.casesOn<;>first | exact ⟨b,rfl⟩ | exact ffE h
 | _=>exact ffE h
theorem wz {b:AV} {w:Value} (r:VRel C.σ ρ Z (.tcons .none b) w):w=C.σ.scr:=by
 exact r.inv.elim (fun h=>eH h fun _ _ _ e _=>by cases e) fun h=>h.2.2
theorem o9 {items:Array Value} {lo hi st:Option Int} {v:Value} (h:v∈slicePick items lo hi st):v∈items:=by
 unfold slicePick at h
 rw [List.mem_toArray,List.mem_filterMap] at h
 refine ad h fun i _ hi=>?_
 exact Array.mem_of_getElem? hi
def CS (dq1 dsc:D) (dl:D):D:=fun dp f H K=>dq1 dp f H fun a H=>bk (bq a) fun c=>dsc dp f H fun v H=>aB (zK v) (dl dp f H fun sl H=>l4 sl fun lo hi st=>bk (bq lo) fun ki=>bk (natOf ki) fun k=>gA hi (bk (bq st) fun si=>aB (ieq si 4) (aB (Nat.blt k 4) (aB (ieq c (cM k)) (K (.cel k) H)))) false)
theorem Cc (L:LC C) {l sc lo:Ex} {xs:Str} {p1 p2 p3 pos:Pos} {dq1 dsc dl:D} (hk:X.sc.kind = .function) (hl:X.sc.names.lookup xs=some .globalImplicit) (hg:C.GlobV xs (.builtin "sum")) (hd:(xs==("__debug__" : Str))=false)
  (h1:SE C X l dq1) (h2:SE C X sc dsc) (h3:SE C X lo dl) (hs:∀ o i,∃ ops,subscripted lo false o i=operate ops (getItem o i)) (hst:∀ env,(backTo p3 (starEach [.Subscript sc lo p2] env))=[(false,eval (.Subscript sc lo p2) env)]) :
  SE C X (.BinOp l .Add (.Call (.Name xs p1) [.Subscript sc lo p2] [] p3) pos) (CS dq1 dsc dl):=by
 intro dp f H k A env B ρ Z s hd' hA ok Q E hQ
 refine wpAny_BinOp (h1 _ _ _ _ _ _ _ _ _ _ hd' hA ok _ _ fun ρ₁ Z₁ H₁ s₁ a va e₁ ok₁ r₁ hdq1=>?_)
 nomatch ad (al hdq1),hdq1
 intro c hc hdq1
 nomatch Ze1 (ar hc r₁),r₁
 intro tc zq1
 subst zq1
 refine (?_:wpAny _ _ (eval (.Call (.Name xs p1) [.Subscript sc lo p2] [] p3) env) _ _ _)
 rw [dK (C:=C) (X:=X)]
 rw [hst]
 refine ZB (dg hk hl hg hd ok₁ (callWith_builtin rfl (bv rfl ?_)))
 refine spliced_cons ?_
 refine Subscript_ (h2 _ _ _ _ _ _ _ _ _ _ hdq1 hA ok₁ _ _ fun ρ2 Z₂ H₂ sq2 b vb e₂ ok₂ r₂ hdq2=>?_)
 nomatch Za1 (af hdq2),hdq2
 intro hb hdq2
 refine Ze1 (pX hb) fun b' zq1=>?_
 clear hb
 subst zq1
 have hvb:=wz r₂
 clear r₂
 subst hvb
 refine h3 _ _ _ _ _ _ _ _ _ _ hdq2 hA ok₂ _ _ fun ρ3 Z3 H3 s₃ sl vsl e₃ ok₃ r₃ hdq3=>?_
 nomatch eH (gq hdq3),hdq3
 intro lo' hi' st' zq3 hdq3
 subst zq3
 nomatch ad (al hdq3),hdq3
 intro ki hki hdq3
 nomatch ad (al hdq3),hdq3
 intro kk hkk hdq3
 have:=aQ hkk
 clear hkk
 subst this
 nomatch Ze1 (hs C.σ.scr vsl),hs
 intro ops q4
 nomatch dO L.sa,L
 intro sa vs esa hL hall hlen hcel
 refine Ze4 r₃.inv fun _ _ _ _ zw0=>?_
 nomatch Za4 zw0,zw0
 intro zq4 hz ra rb rc
 clear r₃
 subst zq4
 rcases ca hdq3 rb with ⟨e,h5⟩ | ⟨_,h5⟩
 ·have:=eq_of_beq e
  clear rb e
  subst this
  refine ad (al h5) fun si hsi g5=>?_
  nomatch Za1 (af g5),g5
  intro h6 g6
  refine Za1 (af g6) fun h7' g7=>?_
  refine Za1 (af g7) fun h8 h9=>?_
  rw [cW] at h7'
  have h7:=of_decide_eq_true h7'
  rw [ig] at h6 h8
  have e6:=of_decide_eq_true h6
  have e8:=of_decide_eq_true h8
  clear h6
  subst e6
  clear hc hdq1 hdq2 hdq3 h5 g6 g7 h8
  subst e8
  nomatch Ze1 (ar hki ra),hki
  intro ta zq1
  clear ra
  subst zq1
  nomatch Ze1 (ar hsi rc),hsi
  intro tt zq1
  clear rc
  subst zq1
  have hL₃:s₃.heap.IsList sa vs.toArray:=let ⟨o,q1,q2⟩:=hL; ⟨o,ok₃.g.b _ o (ok₃.g.base _ o q1),q2⟩
  rw [esa] at q4 ⊢
  have hsz:vs.toArray.size≤sizeLine:=by rw [List.size_toArray,sizeLine_eq]; omega
  refine tail_any hL₃.typeIs slot_list_getitem.lookup (wpAny_getItem_list_slice hL₃ ⟨_,ok₃.g.z _ _ hz,rfl,rfl⟩ (.int (kk:Int) ta) .none (.int 4 tt) (by simp) ?_ hsz) q4
  refine spliced_nil ?_
  refine Ze1 (AllInts.items (vs:=slicePick vs.toArray (some (kk:Int)) none (some 4)) fun v hv=>hall v (o9 hv)) fun xs hxs=>?_
  have ok₄:=ok₃.waste { cls:=.type "list",data:=.seq (slicePick vs.toArray (some (kk:Int)) none (some 4)) }
  refine wpAny_with_toks (n:=s₃.toks) (Nat.le_refl _) (sum_intListG (xs:=xs) hA.hd ⟨_,Heap.get?_push_size _ rfl,rfl,_,by rw [hxs]⟩ fun h' tk t' hkeep ht=>?_)
  have ok₅:=ok₄.grown (t:=tk) hkeep ht
  refine add_int ?_
  have hv:cM kk+preSum (numAt xs) xs.size=C.σ.cel kk:=by
   rw [(hcel kk h7).1]
   unfold eN
   rw [hxs,nums_intItems,preSum_eq,List.take_of_length_le (by simp)]
  rw [hv]
  exact hQ _ _ _ _ _ _ ((e₁.trans e₂).trans e₃) (ok₅.tok _) (.cel kk _ (hcel kk h7).2) h9
 ·exact ffE h5
end
section
variable {C:Cx} {X X':Sc} {B:Bz} {f f':Fm} {env env' cenv:Env} {ρ:List Addr} {Z:Fz} {H H':HP} {s s':Shared} {A:Around}
def vg (v:AV) (k:Nat->Nat->Nat->Bool):Bool:=@AV.rec (fun _=>(Nat->Nat->Nat->Bool)->Bool) (fun k=>false) (fun b k=>false) (fun i k=>false) (fun s k=>false) (fun j k=>false) (fun v k=>false) (fun l _ k=>false) (fun k=>false) (fun _ _ _ _ k=>false) (fun c j k=>false) (fun _ _ _ k=>false) (fun _ _ _ k=>false) (fun a b c k=>false) (fun a b c _ _ _ k=>false) (fun _ k=>false) (fun _ _ k=>false) (fun a b c k=>k a b c) (fun k=>false) (fun _ k=>false) (fun _ _ k=>false) (fun _ k=>false) (fun _ k=>false) (fun s k=>false) v k
theorem tH {v:AV} {k:Nat->Nat->Nat->Bool} (h:vg v k=true):∃ a b c,v = .dig a b c∧k a b c=true:=by
 induction v using AV.casesOn<;>first | (exact (lA _ _ _ rfl h)) | exact ffE h
def zA (v:AV):Bool:=vg v fun _ _ _=>true
def oA (xs:List AV):List SS->Bool->Bool:=@List.rec AV (fun _=>List SS->Bool->Bool) (fun ys k=>@List.rec SS (fun _=>Bool) k (fun _ _ _=>false) ys) (fun x _ ih ys k=>@List.rec SS (fun _=>Bool) false (fun y ys _=>bO x fun s=>nN s y (ih ys k)) ys) xs
theorem iD {xs:List AV}:∀ {ys:List SS} {k:Bool},oA xs ys k=true->k=true∧∀ (i:Nat) x,xs[i]?=some x->∃ y,ys[i]?=some y∧(x = .str y∨x = .lit y):=by
 induction xs with
 | nil =>
  intro ys k h
  induction ys using List.casesOn with
  | nil=>exact ⟨h,fun i x hx=>by simp at hx⟩
  | cons _ _=>exact ffE h
 | cons x xs ih =>
  intro ys k h
  induction ys using List.casesOn with
  | nil=>exact ffE h
  | cons y ys =>
   nomatch ad (aC h),h
   intro s hs h2
   refine Za1 (df h2) fun zq0 h3=>?_
   clear h2
   subst zq0
   nomatch Za1 (ih h3),ih,h3
   intro h4 h5
   refine ⟨h4,fun i z hz=>?_⟩
   induction i using Nat.casesAuxOn with
   | zero=>simp at hz; subst hz; exact (am y rfl hs)
   | succ i=>exact h5 i z (by simpa using hz)
def Bh (b d:Nat) (k:Nat->Bool):Bool:=@List.rec Nat (fun _=>Bool) false (fun j _ ih=>br ih (k j) (Nat.beq (Nat.pow b j) d)) [0,1,2,3,4,5]
theorem nR {b d:Nat} {k:Nat->Bool} (h:Bh b d k=true):∃ j,j<6∧d=b ^ j∧k j=true:=by
 have step:∀ l:List Nat,(∀ j∈l,j<6)->@List.rec Nat (fun _=>Bool) false (fun j _ ih=>br ih (k j) (Nat.beq (Nat.pow b j) d)) l=true->∃ j,j<6∧d=b ^ j∧k j=true:=by
  intro l
  induction l with
  | nil=>intro _ h; exact ffE h
  | cons j l ih =>
   intro hl h
   change br (@List.rec Nat (fun _=>Bool) false (fun j _ ih=>br ih (k j) (Nat.beq (Nat.pow b j) d)) l) (k j) (Nat.beq (Nat.pow b j) d)=true at h
   induction e:Nat.beq (Nat.pow b j) d using Bool.casesOn with
   | true=>rw [e] at h; exact (bA j (hl j List.mem_cons_self) ((ZbE e).symm) h)
   | false=>rw [e] at h; exact ih (fun j hj=>hl j (List.mem_cons_of_mem _ hj)) h
 exact step [0,1,2,3,4,5] (by decide) h
noncomputable def AY:List SS:=[[.c 38],[.c 60],[.c 62],[.c 13],[.c 120],[.c 10],[.c 34],[.c 9]]
noncomputable def yM:List SS:=[[.c 97],[.c 98],[.c 97,.c 98]]
def Fj:P2:=fun a b H k=>bP H a fun _ n rx=>gO rx [] fun xs=>vg b fun c d m=>br
 (aB (Nat.beq c 3) (aB (Nat.beq m 3) (oA xs yM (Bh 3 d fun j=>k (.str [.nam j]) H))))
 (aB (Nat.beq m 8) (oA xs AY (Bh 8 d fun j=>k (.str [.sgn j]) H))) (Nat.beq c 2)
theorem CQ (L:LC C):gx C Fj:=by
 intro X dp f H k A env B ρ Z s a b va vb hd hA ok ra rb
 nomatch bM (aG hd),hd
 intro j n rx zq3 hj h
 subst zq3
 rw [dY,List.append_nil] at h
 refine eH (tH h) fun c d m zq3 hh=>?_
 subst zq3
 nomatch bS (bg ok ra hj),hj
 intro aL vs ep zq3 hρ hl hv hn hn'
 clear ra
 subst zq3
 refine (aK ("list") ("list.__getitem__") hl.isList.typeIs slot_list_getitem.lookup (fun Q E hQ=>?_))
 have done:∀ (i:Nat) (t:Tok) (row:List SS) (y r:SS),(∀ (i:Nat) x,rx.reverse[i]?=some x->∃ y,row[i]?=some y∧(x = .str y∨x = .lit y))->i<8->i<rx.reverse.length->row[i]?=some y->txt C.σ y=txt C.σ r->k (.str r) H=true ->
   wpAny (model C.prog C.w) A (getItem (.ref aL) (.int (i:Int) t)) Q E s:=fun i t row y r h1 h2 h3 h4 h5 h6=>by
  have zh6:∃ x,rx.reverse[i]?=some x:=⟨_,ZbG h3⟩
  nomatch Ze1 zh6,zh6
  intro x hx
  nomatch ad (h1 i x hx),h1
  intro y' hy' hxy
  rw [h4] at hy'
  injections hy'
  nomatch ad (hv.get hx),hv,hx
  intro w hw hr
  refine Ze1 (aA hxy hr) fun u zq1=>?_
  clear hr
  subst zq1
  refine wpAny_getItem_list hl.isList (Int.natCast_nonneg i) (by show (i:Int)<2 ^ 63; omega) (by simpa using hw) ?_
  have e:aw C.σ y=aw C.σ r:=by unfold aw; rw [h5]
  rw [e]
  exact hQ _ _ _ _ _ _ (Ext.refl ..) ok (.str ..) h6
 induction q:Nat.beq c 2 using Bool.casesOn with
 | true =>
  rw [q] at hh
  have:=ZbE q
  clear q
  subst this
  change aB (Nat.beq m 8) _=true at hh
  nomatch Za1 (af hh),hh
  intro h1 h2
  have:=ZbE h1
  clear h1
  subst this
  refine Za1 (iD h2) fun h3 h4=>?_
  refine aU (nR h3) fun e g1 zq2 g2=>?_
  subst zq2
  nomatch aU (L.sg e g1),L
  intro i q1 q2 q3
  refine Ze1 rb.inv fun t zq1=>?_
  clear rb
  subst zq1
  rw [q2]
  have hlen:rx.reverse.length=8:=by
   have:∀ (xs:List AV) (ys:List SS) (k:Bool),oA xs ys k=true->xs.length=ys.length:=by
    intro xs
    induction xs with
    | nil=>intro ys k h; induction ys using List.casesOn with
     | nil=>rfl
     | cons _ _=>exact ffE h
    | cons x xs ih=>intro ys k h; induction ys using List.casesOn with
     | nil=>exact ffE h
     | cons y ys =>
      refine ad (aC h) fun s _ h2=>?_
      refine Za1 (df h2) fun _ h3=>?_
      simp [ih _ _ h3]
   exact this _ _ _ h2
  refine done i t AY [.c (C.σ.sg e)] [.sgn e] h4 q1 (by rw [hlen]; exact q1) ?_ rfl g2
  have key:∀ i<8,∀ n,sgTab[i]?=some n->AY[i]?=some [.c n]:=by
   intro i hi n hn
   match i,hi with
   | 0,_=>injections hn; rfl
   | 1,_=>injections hn; rfl
   | 2,_=>injections hn; rfl
   | 3,_=>injections hn; rfl
   | 4,_=>injections hn; rfl
   | 5,_=>injections hn; rfl
   | 6,_=>injections hn; rfl
   | 7,_=>injections hn; rfl
  exact key i q1 _ q3
 | false =>
  rw [q] at hh
  change aB (Nat.beq c 3) _=true at hh
  nomatch Za1 (af hh),hh
  intro h0 hh2
  have:=ZbE h0
  clear q h0
  subst this
  nomatch Za1 (af hh2),hh2
  intro h1 h2
  have:=ZbE h1
  clear h1
  subst this
  refine Za1 (iD h2) fun h3 h4=>?_
  refine aU (nR h3) fun e g1 zq2 g2=>?_
  subst zq2
  nomatch aU (L.nm e g1),L
  intro i q1 q2 q3
  refine Ze1 rb.inv fun t zq1=>?_
  clear rb
  subst zq1
  rw [q2]
  have hlen:rx.reverse.length=3:=by
   have:∀ (xs:List AV) (ys:List SS) (k:Bool),oA xs ys k=true->xs.length=ys.length:=by
    intro xs
    induction xs with
    | nil=>intro ys k h; induction ys using List.casesOn with
     | nil=>rfl
     | cons _ _=>exact ffE h
    | cons x xs ih=>intro ys k h; induction ys using List.casesOn with
     | nil=>exact ffE h
     | cons y ys =>
      refine ad (aC h) fun s _ h2=>?_
      refine Za1 (df h2) fun _ h3=>?_
      simp [ih _ _ h3]
   exact this _ _ _ h2
  refine done i t yM ((C.σ.nm e).map .c) [.nam e] h4 (by omega) (by rw [hlen]; exact q1) ?_ ?_ g2
  ·have key:∀ i<3,∀ n,nmTab[i]?=some n->yM[i]?=some (n.map .c):=by
    intro i hi n hn
    match i,hi with
    | 0,_=>injections hn; rfl
    | 1,_=>injections hn; rfl
    | 2,_=>injections hn; rfl
   exact key i q1 _ q3
  ·refine (?_:txt C.σ (lit (C.σ.nm e))=C.σ.nm e++[])
   rw [fu,List.append_nil]
def i4:P2:=fun a b H k=>br (fJ a b H k) (Fj a b H k) (zA b)
theorem kH (L:LC C):gx C i4:=by
 intro X dp f H k A env B ρ Z s a b va vb hd
 unfold i4 at hd
 induction e:zA b using Bool.casesOn with
 | true=>rw [e] at hd; exact CQ L X dp f H k A env B ρ Z s a b va vb hd
 | false=>rw [e] at hd; exact fR X dp f H k A env B ρ Z s a b va vb hd
end
noncomputable def tq:Nat->Nat
 | 0=>24
 | 1=>120
 | _=>720
section
variable {C:Cx} {X X':Sc} {B:Bz} {f f':Fm} {env env' cenv:Env} {ρ:List Addr} {Z:Fz} {H H':HP} {s s':Shared} {A:Around}
def zp (v:AV):Bool:=@AV.rec (fun _=>Bool) false (fun b=>false) (fun i=>false) (fun s=>false) (fun j=>false) (fun v=>false) (fun l _=>false) false (fun _ _ _ _=>false) (fun c j=>false) (fun _ _ _=>false) (fun _ _ _=>false) (fun a b c=>false) (fun a b c _ _ _=>false) (fun _=>true) (fun _ _=>false) (fun a b c=>false) false (fun _=>false) (fun _ _=>false) (fun _=>false) (fun _=>false) (fun s=>false) v
def l5 (r0 r1:Nat):P2:=fun a b H k=>br (DY a b H k) (bk (je a) fun i=>bk (bq b) fun y=>bk (natOf y) fun m=>nr (aB (Nat.beq m 3) (k (.int (.ofNat r0)) H)) (fun i=>nr (aB (Nat.beq m (tq r0)) (k (.int (.ofNat r1)) H)) (fun _=>false) i) i) (zp a)
theorem jp {r0 r1:Nat} (h0:Int.fmod (C.σ.cel 0) 3=(r0:Int)) (h1:Int.fmod (C.σ.cel 1) (tq r0:Int)=(r1:Int)):cK C (fun a b=>binaryOp .Mod a b) (l5 r0 r1):=by
 intro X dp f H k A env B ρ Z s a b va vb hd
 unfold l5 at hd
 induction e:zp a using Bool.casesOn with
 | false=>rw [e] at hd; exact tX X dp f H k A env B ρ Z s a b va vb hd
 | true =>
  rw [e] at hd
  intro hA ok ra rb Q E hQ
  nomatch ad (al hd),hd
  intro i hi hd
  have:a = .cel i:=by induction a using AV.casesOn<;>simp_all [je]
  clear e hi
  subst this
  nomatch ad (al hd),hd
  intro y hy hd
  nomatch Ze1 (ar hy rb),rb,hy
  intro u zq1
  subst zq1
  nomatch ad (al hd),hd
  intro m hm hd
  have:=aQ hm
  subst this
  refine ad ra.inv fun t zq1 _=>?_
  clear ra
  subst zq1
  match i,hd with
  | 0,hd =>
   refine Za1 (af hd) fun g1 g2=>?_
   have:=ZbE g1
   clear hd g1
   subst this
   refine mod_int' (by omega) ?_
   rw [show ((3:Nat):Int)=3 from rfl,h0]
   exact hQ _ _ _ _ _ _ (Ext.refl ..) (ok.tok _) (.int ..) g2
  | 1,hd =>
   refine Za1 (af hd) fun g1 g2=>?_
   have:=ZbE g1
   clear hd g1
   subst this
   refine mod_int' (by unfold tq; split<;>omega) ?_
   rw [h1]
   exact hQ _ _ _ _ _ _ (Ext.refl ..) (ok.tok _) (.int ..) g2
  | i+2,hd=>exact ffE hd
def ER (i:Int):D:=fun _ _ H k=>k (.tin i) H
theorem DU {i:Int} {n:Nat} {pos:Pos}:SE C X (.Constant (.int i) n pos) (ER i) :=
 fun dp f H k A env B ρ Z s hd hA ok Q E hQ=>wpAny_Constant_int (hQ _ _ _ _ _ _ ⟨List.prefix_refl _,Fz.le_tick⟩ ((ok.tick (.int i s.toks)).tok _) (.tin (.inr ⟨rfl,rfl⟩)) hd)
end
end Mine
namespace Mine
open PySem PySem.W PySem.Calls PyProof.Rows
def i9 (p:Params) (a:Addr):List Stmt:=match (hd.heap_1 p).lookup a with
 | some ⟨_,_,.func fd,_⟩=>(match fd.body with | .stmts b=>b | _=>[])
 | _=>[]
noncomputable def ql (sts:List Stmt) (i:Nat) (qual:Str) (ctab:List Str):FnT:=match sts[i]? with
 | some (.FunctionDef _ args body _ _ _ scope _ _ pos)=>⟨args,.stmts body,scope,qual,ctab,pos.line,pos.col⟩
 | _=>⟨default,.stmts [],default,qual,ctab,0,0⟩
noncomputable def Ip (sts:List Stmt) (i:Nat) (qual:Str):FnT:=match sts[i]? with
 | some (.Assign _ (.DictComp _ _ [⟨_,.Call _ _ [⟨_,.Lambda args body scope pos,_⟩] _,_,_⟩] _ _) _)=>⟨args,.expr body,scope,qual,[],pos.line,pos.col⟩
 | _=>⟨default,.stmts [],default,qual,[],0,0⟩
noncomputable def qy:{ T:FnT // ∀ p,Ip (i9 p 126) 6 "C14NWriterTarget._start.<locals>.<lambda>" = T }:=⟨⟨_,_,_,_,_,_,_⟩,fun p=>rfl⟩
structure PC0 (C:Cx):Prop where
 K:C.K=hd.heap_1 C.w.params
 bi:∀ x:Str,x ≠ "__name__"->C.mb x=bootBuiltins x
 tabs:C.tabs=[184,191,123]
 hd0:CodeHd C.G 188 184
 hd1:CodeHd C.G 195 191
 hd2:CodeHd C.G 125 123
 fn0:C.σ.fns 0=some (ql (i9 C.w.params 189) 1 "_int2digits.<locals>.inner" ["a_digits", "inner", "n"])
 fn1:C.σ.fns 1=some (ql (i9 C.w.params 196) 0 "_digits2int.<locals>.inner" ["digits", "inner", "n"])
 fn2:C.σ.fns 2=some qy.1
structure PC (C:Cx):Prop extends PC0 C where
 t1:C.t1
theorem PC0.look {C:Cx} (P:PC0 C) {a:Addr} {o:Obj} (h:(hd.heap_1 C.w.params).lookup a=some o):C.K.lookup a=some o:=P.K ▸ h
noncomputable def DF (lay:List (Option Nat)) (tab pn:List Str) (nm:List (Str × NameKind)):Bool:=(lay.zip tab).all fun z=>match z.1 with
 | none=>true
 | some i=>decide (pn[i]?=some z.2)&&decide (nm.lookup z.2=some .local)
noncomputable def zC (clay:List (Option Nat)) (ctab pn:List Str) (nm:List (Str × NameKind)):Bool:=decide (clay.length=ctab.length)&&(clay.zip ctab).all fun z=>match z.1 with
 | none=>!pn.contains z.2
 | some i=>decide (pn[i]?=some z.2)&&decide (nm.lookup z.2 ≠ some .local)
noncomputable def pnB (pn ctab:List Str) (nm:List (Str × NameKind)):Bool:=pn.all fun x=>decide (nm.lookup x=some .local) || (decide (nm.lookup x=some .cell)&&ctab.contains x)
theorem rL {lay:List (Option Nat)} {tab pn:List Str} {nm:List (Str × NameKind)} (h:DF lay tab pn nm=true) (k i:Nat) (x:Str) (h1:lay[k]?=some (some i)) (h2:tab[k]?=some x):pn[i]?=some x∧nm.lookup x=some .local:=by
 have hm:(some i,x)∈lay.zip tab:=ZbM (i:=k) (by rw [List.getElem?_zip_eq_some]; exact ⟨h1,h2⟩)
 have:=List.all_eq_true.mp h _ hm
 simpa using this
theorem kP {clay:List (Option Nat)} {ctab pn:List Str} {nm:List (Str × NameKind)} (h:zC clay ctab pn nm=true):clay.length=ctab.length∧∀ (k:Nat) x,ctab[k]?=some x->(clay[k]?=some none∧x ∉ pn)∨∃ i,clay[k]?=some (some i)∧pn[i]?=some x∧nm.lookup x ≠ some .local:=by
 nomatch Za1 (Bool.and_eq_true_iff.mp h),h
 intro h0 h1
 have h0:=of_decide_eq_true h0
 refine ⟨h0,fun k x hx=>?_⟩
 have hk:=(ZbS hx).1
 have hm:(clay[k]'(h0 ▸ hk),x)∈clay.zip ctab:=ZbM (i:=k) (by rw [List.getElem?_zip_eq_some]; exact ⟨by simp [h0,hk],hx⟩)
 have:=List.all_eq_true.mp h1 _ hm
 have hk':k<clay.length:=h0 ▸ hk
 have hc:clay[k]?=some clay[k]:=by simp [hk']
 rw [hc]
 induction e:clay[k] using Option.casesOn with
 | none=>rw [e] at this; exact .inl ⟨rfl,by simpa using this⟩
 | some i=>rw [e] at this; exact .inr (am i rfl (by simpa using this))
theorem vl {pn ctab:List Str} {nm:List (Str × NameKind)} (h:pnB pn ctab nm=true):∀ x∈pn,nm.lookup x=some .local∨(nm.lookup x=some .cell∧x∈ctab):=by
 intro x hx
 have:=List.all_eq_true.mp h _ hx
 simpa using this
noncomputable def Bind (C:Cx) (fd:FuncData) (n:Nat) (pn:List Str) (dvv:List Value):Prop:=∀ vals:List Value,vals.length=n->∀ S,peek C.K S (bindArgs fd ⟨vals,[]⟩)=some (pn.zip (vals++dvv))
theorem j9 {C:Cx} (P:PC0 C) {fd:FuncData} {pn:List Str} {dvv:List Value} (h:∀ a S,peek (hd.heap_1 C.w.params) S (bindArgs fd ⟨[a],[]⟩)=some (pn.zip ([a]++dvv))):Bind C fd 1 pn dvv:=by
 intro vals hv S; refine aE (fP hv) ?_; clear hv; intro a vals zq hv; subst zq; rw [List.length_eq_zero_iff.mp hv,P.K]; exact h a S
theorem gh {C:Cx} (P:PC0 C) {fd:FuncData} {pn:List Str} {dvv:List Value} (h:∀ a b S,peek (hd.heap_1 C.w.params) S (bindArgs fd ⟨[a,b],[]⟩)=some (pn.zip ([a,b]++dvv))):Bind C fd 2 pn dvv:=by
 intro vals hv S; refine aE (fP hv) ?_; clear hv; intro a vals zq hv; subst zq; refine aE (fP hv) ?_; clear hv; intro b vals zq hv; subst zq; rw [List.length_eq_zero_iff.mp hv,P.K]; exact h a b S
theorem v7 {C:Cx} (P:PC0 C) {fd:FuncData} {pn:List Str} {dvv:List Value} (h:∀ a b c S,peek (hd.heap_1 C.w.params) S (bindArgs fd ⟨[a,b,c],[]⟩)=some (pn.zip ([a,b,c]++dvv))):Bind C fd 3 pn dvv:=by
 intro vals hv S; refine aE (fP hv) ?_; clear hv; intro a vals zq hv; subst zq; refine aE (fP hv) ?_; clear hv; intro b vals zq hv; subst zq; refine aE (fP hv) ?_; clear hv; intro c vals zq hv; subst zq; rw [List.length_eq_zero_iff.mp hv,P.K]; exact h a b c S
theorem EU {C:Cx} (P:PC0 C) {fd:FuncData} {pn:List Str} {dvv:List Value} (h:∀ a b c d S,peek (hd.heap_1 C.w.params) S (bindArgs fd ⟨[a,b,c,d],[]⟩)=some (pn.zip ([a,b,c,d]++dvv))):Bind C fd 4 pn dvv:=by
 intro vals hv S; refine aE (fP hv) ?_; clear hv; intro a vals zq hv; subst zq; refine aE (fP hv) ?_; clear hv; intro b vals zq hv; subst zq; refine aE (fP hv) ?_; clear hv; intro c vals zq hv; subst zq; refine aE (fP hv) ?_; clear hv; intro d vals zq hv; subst zq; rw [List.length_eq_zero_iff.mp hv,P.K]; exact h a b c d S
theorem cL {C:Cx} (P:PC0 C) {fa:Addr} {n:Nat} {tab ctab pn:List Str} {lay clay:List (Option Nat)} {dv:List AV} {dvv:List Value} {d:DS} {cls:Value} {dct:Option Addr} {sl:Array (Option Value)} {fd:FuncData} {body:List Stmt}
  (hK:(hd.heap_1 C.w.params).lookup fa=some ⟨cls,dct,.func fd,sl⟩) (hb:fd.body = .stmts body) (h1:fd.closure=[]) (h2:fd.globals=mainGlobals) (h3:fd.builtins=builtinsNs)
  (h4:codeIn (hd.heap_1 C.w.params) fd.code fd.qualname=true) (h5:fd.scope.kind = .function) (h6:fd.scope.isCoroutine=false) (h7:fd.scope.isGenerator=false)
  (h8:∀ b,cellsFrom b fd.scope.names []=((ctab.zipIdx).map fun y=>(y.1,b+y.2)).reverse) (h9:ctab.Nodup) (h10:pn.Nodup) (h11:pnB pn ctab fd.scope.names=true) (h12:Bind C fd n pn dvv) (h13:∀ ρ Z,VRs C.σ ρ Z dv dvv)
  (h14:DF lay tab pn fd.scope.names=true) (h15:zC clay ctab pn fd.scope.names=true) (hd:S C ⟨fd.scope,tab,ctab,fd.code,fd.qualname++".<locals>."⟩ body d):SC C (.ref fa) n (dFn lay clay dv d) :=
 (uK ⟨⟨_,_,_,P.look hK⟩,hb,h1,h2,h3,P.K ▸ h4,rfl,rfl,rfl,h5,h6,h7,h8,h9,h10,vl h11,h12,fun ρ Z _ _ hv _=>hv.append (h13 ρ Z),rL h14,(kP h15).1,(kP h15).2⟩ hd).sc
theorem gD {C:Cx} (P:PC C) {fa:Addr} {n:Nat} {tab ctab pn:List Str} {lay clay:List (Option Nat)} {dv:List AV} {dvv:List Value} {d:DS} {cls:Value} {dct:Option Addr} {sl:Array (Option Value)} {fd:FuncData} {body:List Stmt}
  (hK:(hd.heap_1 C.w.params).lookup fa=some ⟨cls,dct,.func fd,sl⟩) (hb:fd.body = .stmts body) (h1:fd.closure=[]) (h2:fd.globals=mainGlobals) (h3:fd.builtins=builtinsNs)
  (h4:codeIn (hd.heap_1 C.w.params) fd.code fd.qualname=true) (h5:fd.scope.kind = .function) (h6:fd.scope.isCoroutine=false) (h7:fd.scope.isGenerator=false)
  (h8:∀ b,cellsFrom b fd.scope.names []=((ctab.zipIdx).map fun y=>(y.1,b+y.2)).reverse) (h9:ctab.Nodup) (h10:pn.Nodup) (h11:pnB pn ctab fd.scope.names=true) (h12:Bind C fd n pn dvv) (h13:∀ ρ Z,VRs C.σ ρ Z dv dvv)
  (h14:DF lay tab pn fd.scope.names=true) (h15:zC clay ctab pn fd.scope.names=true) (hd:S C ⟨fd.scope,tab,ctab,fd.code,fd.qualname++".<locals>."⟩ body d):SCc C (.ref fa) n (fun vs=>⟨vs,[]⟩) (dFn lay clay dv d) :=
 uK ⟨⟨_,_,_,P.look hK⟩,hb,h1,h2,h3,P.K ▸ h4,rfl,rfl,rfl,h5,h6,h7,h8,h9,h10,vl h11,h12,fun ρ Z _ _ hv _=>hv.append (h13 ρ Z),rL h14,(kP h15).1,(kP h15).2⟩ hd
theorem PC0.glob {C:Cx} (P:PC0 C) {x:Str} {v:Value} (h:nsIn (hd.heap_1 C.w.params) mainGlobals x=some (some v)):C.GlobV x v:=.inl (mg_of C.KI C.g (P.K ▸ h))
theorem PC0.blt {C:Cx} (P:PC0 C) {x:Str} {v:Value} (h:nsIn (hd.heap_1 C.w.params) mainGlobals x=some none) (hv:bootBuiltins x=some v) (hn:x ≠ "__name__"):C.GlobV x v:=.inr ⟨mg_none_of C.KI C.g (P.K ▸ h),(P.bi x hn).trans hv⟩
theorem PC0.fn {C:Cx} (P:PC0 C) {fa:Addr} {cls:Value} {dct:Option Addr} {fd:FuncData} {sl:Array (Option Value)} (h:(hd.heap_1 C.w.params).lookup fa=some ⟨cls,dct,.func fd,sl⟩):∃ cls dct fd sl,C.K.lookup fa=some ⟨cls,dct,.func fd,sl⟩:=⟨_,_,_,_,P.look h⟩
theorem vk {elt:Ex} {gens:List Comprehension} {scope:Scope} {pos:Pos} {t:Str} {tp:Pos} {line:Nat} {sc:Scope} (h:(sc.names.lookup t==some .local)=false) (env:Env) (he:env.scope=sc):swapsWith (.ListComp elt gens scope pos) (some (.Name t tp)) line env=pure false:=by
 unfold swapsWith
 have:(env.kindOf t==some .local)=false:=by unfold Env.kindOf; rw [he]; exact h
 simp only [this,Bool.and_false,Bool.false_and]
theorem i5 {elt:Ex} {gens:List Comprehension} {scope:Scope} {pos:Pos} {t:Str} {tp:Pos} {line:Nat} {sc:Scope} (h:(sc.names.lookup t==some .local)=true) (hk:sc.kind = .function) (hl:(tp.line==(PySem.Expr.ListComp elt gens scope pos).pos.line)=true) (hn:(!(scope.names.any fun (n,k)=>n==t&&(k==.local || k==.cell)))=true) (env:Env) (he:env.scope=sc):swapsWith (.ListComp elt gens scope pos) (some (.Name t tp)) line env=pure true:=by
 unfold swapsWith
 have h1:(env.kindOf t==some .local)=true:=by unfold Env.kindOf; rw [he]; exact h
 have h2:(env.blockKind==.function)=true:=by unfold Env.blockKind; rw [he,hk]; rfl
 simp only [h1,h2,hl,hn,Bool.and_true,Bool.true_and]
theorem uA {kx vx:Ex} {gens:List Comprehension} {scope:Scope} {pos:Pos} {t:Str} {tp:Pos} {line:Nat} {sc:Scope} (h:(sc.names.lookup t==some .local)=true) (hk:sc.kind = .function) (hl:(tp.line==(PySem.Expr.DictComp kx vx gens scope pos).pos.line)=true) (hn:(!(scope.names.any fun (n,k)=>n==t&&(k==.local || k==.cell)))=true) (env:Env) (he:env.scope=sc):swapsWith (.DictComp kx vx gens scope pos) (some (.Name t tp)) line env=pure true:=by
 unfold swapsWith
 have h1:(env.kindOf t==some .local)=true:=by unfold Env.kindOf; rw [he]; exact h
 have h2:(env.blockKind==.function)=true:=by unfold Env.blockKind; rw [he,hk]; rfl
 simp only [h1,h2,hl,hn,Bool.and_true,Bool.true_and]
noncomputable def Fg (X:Sc) (scope:Scope) (ctab:List Str) (clay:List Nat):Bool :=
 decide (scope.kind = .function)&&scope.names.all (fun x=>decide (x.2 ≠ .cell))&&scope.names.all (fun x=>!decide (x.2 = .local) || decide (scope.names.lookup x.1=some .local))&&scope.names.all (fun x=>!decide (x.2 = .free) || ctab.contains x.1) &&
  ctab.all (fun x=>decide ((x,NameKind.free)∈scope.names))&&decide (clay.length=ctab.length)&&(ctab.zip clay).all fun z=>decide (X.ctab[z.2]?=some z.1)
theorem cY {X:Sc} {scope:Scope} {ctab:List Str} {clay:List Nat} (h:Fg X scope ctab clay=true):CompOK X scope ctab clay:=by
 unfold Fg at h
 simp only [Bool.and_eq_true,List.all_eq_true,decide_eq_true_eq,Bool.or_eq_true,Bool.not_eq_true',decide_eq_false_iff_not] at h
 nomatch Za1 h,h
 intro zt1_0 h7
 nomatch Za1 zt1_0,zt1_0
 intro zt0_0 h6
 obtain ⟨⟨⟨⟨h1,h2⟩,h3⟩,h4⟩,h5⟩:=zt0_0
 refine ⟨h1,h2,fun x hx hl=>(h3 x hx).resolve_left (fun n=>n hl),fun x hx hf=>?_,h5,h6,fun k x i hx hi=>?_⟩
 ·have:=(h4 x hx).resolve_left (fun n=>n hf)
  simpa using this
 ·exact h7 (x,i) (ZbM (i:=k) (by rw [List.getElem?_zip_eq_some]; exact ⟨hx,hi⟩))
theorem gF {n:Nat} (k:Nat) (v:Option AV) (h:(List.replicate n (none:Option AV))[k]?=some v):v=none:=List.eq_of_mem_replicate (ZbM h)
noncomputable def HH (sc:Scope):Env:={ scope:=sc,locals:=0,globals:=0,cells:=[] }
theorem j1 {ts:List Ex} {v:Ex} {sc:Scope} {r:Option (List Str)} (h:swappedStores ts v (HH sc)=pure r) (env:Env) (he:env.scope=sc):swappedStores ts v env=pure r:=by
 rw [← h]
 unfold swappedStores Env.blockKind Env.kindOf HH
 rw [he]
noncomputable def EZ (T:FnT) (clay:List Nat) (octab:List Str):Bool :=
 T.scope.names.all (fun x=>!decide (x.2 = .free) || T.ctab.contains x.1)&&T.ctab.all (fun x=>decide ((x,NameKind.free)∈T.scope.names))&&decide (clay.length=T.ctab.length)&&(T.ctab.zip clay).all fun z=>decide (octab[z.2]?=some z.1)
theorem y8 {C:Cx} {X:Sc} {name:Str} {args:Arguments} {body:List Stmt} {scope:Scope} {pos:Pos} {id jt ic:Nat} {c P:Addr} {T:FnT} {clay:List Nat} {nk:NameKind} (hD:DefOK C X id jt c P T name pos) (hp:T.params=args) (hb:T.body = .stmts body) (hsc:T.scope=scope) (hdoc:docOf body=none)
  (hB:EZ T clay X.ctab=true) (hk:X.sc.kind = .function) (hl:X.sc.names.lookup name=some nk) (hn:nk = .cell∨nk = .free) (hic:X.ctab[ic]?=some name) (hdef:∀ env,defaultsOf args env=([],[])) (hann:∀ env,annTrees args none env=[]) :
  S1 C X (.FunctionDef name args body [] none [] scope none name pos) (C6 id jt ic clay):=by
 unfold EZ at hB
 simp only [Bool.and_eq_true,List.all_eq_true,decide_eq_true_eq,Bool.or_eq_true,Bool.not_eq_true',decide_eq_false_iff_not] at hB
 nomatch Za1 hB,hB
 intro zt2_0 h4
 nomatch Za1 zt2_0,zt2_0
 intro zt1_0 h3
 obtain ⟨h1,h2⟩:=zt1_0
 refine HT hD hp hb hsc hdoc (fun x hx hf=>?_) h2 h3 (fun k x i hx hi=>?_) hk hl hn hic hdef hann
 ·have:=(h1 x hx).resolve_left (fun n=>n hf)
  simpa using this
 ·exact h4 (x,i) (ZbM (i:=k) (by rw [List.getElem?_zip_eq_some]; exact ⟨hx,hi⟩))
theorem GV {T:FnT} {pn:List Str} (h:∀ nm cl doc pm cv ct a b K S,peek K S (bindArgs (iK T nm cl doc pm cv ct) ⟨[a,b],[]⟩)=some (pn.zip [a,b])):∀ nm cl doc pm cv ct (vals:List Value),vals.length=2->∀ K S,peek K S (bindArgs (iK T nm cl doc pm cv ct) ⟨vals,[]⟩)=some (pn.zip vals):=by
 intro nm cl doc pm cv ct vals hv K S; refine aE (fP hv) ?_; clear hv; intro a vals zq hv; subst zq; refine aE (fP hv) ?_; clear hv; intro b vals zq hv; subst zq; rw [List.length_eq_zero_iff.mp hv]; exact h ..
theorem F6 {T:FnT} {pn:List Str} (h:∀ nm cl doc pm cv ct a b c K S,peek K S (bindArgs (iK T nm cl doc pm cv ct) ⟨[a,b,c],[]⟩)=some (pn.zip [a,b,c])):∀ nm cl doc pm cv ct (vals:List Value),vals.length=3->∀ K S,peek K S (bindArgs (iK T nm cl doc pm cv ct) ⟨vals,[]⟩)=some (pn.zip vals):=by
 intro nm cl doc pm cv ct vals hv K S; refine aE (fP hv) ?_; clear hv; intro a vals zq hv; subst zq; refine aE (fP hv) ?_; clear hv; intro b vals zq hv; subst zq; refine aE (fP hv) ?_; clear hv; intro c vals zq hv; subst zq; rw [List.length_eq_zero_iff.mp hv]; exact h ..
noncomputable def Ij (T:FnT) (tab:List Str) (pn:List Str) (lay:List (Option Nat)):Bool:=decide (T.scope.kind = .function) && !T.scope.isCoroutine && !T.scope.isGenerator&&T.scope.names.all (fun x=>decide (x.2 ≠ .cell))&&decide pn.Nodup&&pn.all (fun x=>decide (T.scope.names.lookup x=some .local)) &&
 (lay.zip tab).all fun z=>match z.1 with | none=>true | some i=>decide (pn[i]?=some z.2)
theorem tr {C:Cx} {id:Nat} {T:FnT} {body:List Stmt} {tab:List Str} {n:Nat} {pn:List Str} {lay:List (Option Nat)} (fn:C.σ.fns id=some T) (hb:T.body = .stmts body)
  (bind:∀ nm cl doc pm cv ct (vals:List Value),vals.length=n->∀ K S,peek K S (bindArgs (iK T nm cl doc pm cv ct) ⟨vals,[]⟩)=some (pn.zip vals)) (h:Ij T tab pn lay=true):CloOK C id T body tab n pn lay:=by
 unfold Ij at h
 simp only [Bool.and_eq_true,List.all_eq_true,decide_eq_true_eq,Bool.not_eq_true'] at h
 nomatch Za1 h,h
 intro zt3_0 h7
 nomatch Za1 zt3_0,zt3_0
 intro zt2_0 h6
 obtain ⟨⟨⟨⟨h1,h2⟩,h3⟩,h4⟩,h5⟩:=zt2_0
 refine ⟨fn,hb,h1,h2,h3,h4,bind,h5,h6,fun k i x hx hi=>?_⟩
 have:=h7 (some i,x) (ZbM (i:=k) (by rw [List.getElem?_zip_eq_some]; exact ⟨hx,hi⟩))
 simpa using this
theorem vX {C:Cx} {n:Nat}:SV C n fun _ _ _ _ _=>false:=fun X dp f H k A env B ρ Z s fav fv args vals h=>nomatch h
theorem Cn {C:Cx} {X:Sc} {x:Str} {pos:Pos} {i:Int} (h:∃ tk,C.GlobV x (.int i tk)) (hk:X.sc.kind = .function) (hl:X.sc.names.lookup x=some .globalImplicit) (hd:(x==("__debug__" : Str))=false):SE C X (.Name x pos) (Br (.int i)) :=
 let ⟨tk,h⟩:=h
 wo hk hl ⟨_,h,fun _ _=>.int ..⟩ hd
theorem qD {C:Cx} {a:Addr} {cls:Value} {dct:Option Addr} {sl:Array (Option Value)} {fd:FuncData} {body ib:List Stmt} {i id:Nat} {name bind qual:Str} {args:Arguments} {scope:Scope} {pos:Pos} {ctab:List Str} (h:C.σ.fns id=some (ql (i9 C.w.params a) i qual ctab))
  (hK:(hd.heap_1 C.w.params).lookup a=some ⟨cls,dct,.func fd,sl⟩) (hb:fd.body = .stmts body) (hi:body[i]?=some (.FunctionDef name args ib [] none [] scope none bind pos)):C.σ.fns id=some ⟨args,.stmts ib,scope,qual,ctab,pos.line,pos.col⟩:=by
 rw [h]
 unfold ql i9
 rw [hK]
 simp only [hb,hi]
theorem nd {l:List Str} (h:decide l.Nodup=true):l.Nodup:=of_decide_eq_true h
noncomputable def Cw (X:Sc) (scope:Scope) (x:Str) (ctab:List Str) (clay:List Nat):Bool :=
 decide (scope.kind = .function)&&scope.names.all (fun x=>!decide (x.2 = .local) || decide (scope.names.lookup x.1=some .local))&&scope.names.all (fun x=>!decide (x.2 = .free) || ctab.contains x.1) &&
  ctab.all (fun x=>decide ((x,NameKind.free)∈scope.names))&&decide (clay.length=ctab.length)&&(ctab.zip clay).all (fun z=>decide (X.ctab[z.2]?=some z.1)) && !ctab.contains x
theorem xW {X:Sc} {scope:Scope} {x:Str} {ctab:List Str} {clay:List Nat} (h:Cw X scope x ctab clay=true) (cf:∀ n acc,cellsFrom n scope.names acc=(x,n) :: acc) (pc:∀ h,PySem.pushCells h scope.names=h.push { cls:=.type "cell",data:=.cell none }):CompOK1 X scope x ctab clay:=by
 unfold Cw at h
 simp only [Bool.and_eq_true,List.all_eq_true,decide_eq_true_eq,Bool.or_eq_true,Bool.not_eq_true',decide_eq_false_iff_not] at h
 nomatch Za1 h,h
 intro zt4_0 h8
 nomatch Za1 zt4_0,zt4_0
 intro zt3_0 h7
 obtain ⟨⟨⟨⟨h1,h3⟩,h4⟩,h5⟩,h6⟩:=zt3_0
 refine ⟨h1,fun x hx hl=>(h3 x hx).resolve_left (fun n=>n hl),fun x hx hf=>?_,h5,h6,fun k x i hx hi=>?_,by simpa using h8,cf,pc⟩
 ·have:=(h4 x hx).resolve_left (fun n=>n hf)
  simpa using this
 ·exact h7 (x,i) (ZbM (i:=k) (by rw [List.getElem?_zip_eq_some]; exact ⟨hx,hi⟩))
theorem bf {C:Cx} (P:PC C):ClsOK C 150:=⟨P.K ▸ (by kernel_rfl),P.K ▸ (by kernel_rfl),P.K ▸ (by kernel_rfl),P.K ▸ (by kernel_rfl),P.K ▸ (by kernel_rfl)⟩
theorem GZ {C:Cx} (P:PC C):makesIn C.K 150=true:=P.K ▸ (by kernel_rfl)
theorem F9 {C:Cx} (P:PC C):keepIn C.K (.ref 150)=true:=P.K ▸ (by kernel_rfl)
theorem BJ {C:Cx} (P:PC C):kdsCode C.K (.ref 125)=true:=P.K ▸ (by kernel_rfl)
noncomputable def nsL:List ((String × Nat) × String × Nat):=[(("http://www.w3.org/XML/1998/namespace",329), "xml",330),(("http://www.w3.org/1999/xhtml",331), "html",332),(("http://www.w3.org/1999/02/22-rdf-syntax-ns#",333), "rdf",334),(("http://schemas.xmlsoap.org/wsdl/",335), "wsdl",336),
 (("http://www.w3.org/2001/XMLSchema",337), "xs",338),(("http://www.w3.org/2001/XMLSchema-instance",339), "xsi",340),(("http://purl.org/dc/elements/1.1/",341), "dc",342)]
def nsMap:List (SS × SS):=[(lit [104,116,116,112,58,47,47,119,119,119,46,119,51,46,111,114,103,47,88,77,76,47,49,57,57,56,47,110,97,109,101,115,112,97,99,101],lit [120,109,108]),(lit [104,116,116,112,58,47,47,119,119,119,46,119,51,46,111,114,103,47,49,57,57,57,47,120,104,116,109,108],lit [104,116,109,108]),(lit [104,116,116,112,58,47,47,119,119,119,46,119,51,46,111,114,103,47,49,57,57,57,47,48,50,47,50,50,45,114,100,102,45,115,121,110,116,97,120,45,110,115,35],lit [114,100,102]),(lit [104,116,116,112,58,47,47,115,99,104,101,109,97,115,46,120,109,108,115,111,97,112,46,111,114,103,47,119,115,100,108,47],lit [119,115,100,108]),(lit [104,116,116,112,58,47,47,119,119,119,46,119,51,46,111,114,103,47,50,48,48,49,47,88,77,76,83,99,104,101,109,97],lit [120,115]),(lit [104,116,116,112,58,47,47,119,119,119,46,119,51,46,111,114,103,47,50,48,48,49,47,88,77,76,83,99,104,101,109,97,45,105,110,115,116,97,110,99,101],lit [120,115,105]),(lit [104,116,116,112,58,47,47,112,117,114,108,46,111,114,103,47,100,99,47,101,108,101,109,101,110,116,115,47,49,46,49,47],lit [100,99])]
noncomputable def nsKv:List (Str × Value):=nsL.map fun q=>(Str.ofString q.1.1,.str (Str.ofString q.2.1) q.2.2)
noncomputable def IU (p:Params):List DictEntry:=nsL.map fun q=>{ hash:=PyData.keyHash p (Str.ofString q.1.1),key:=.str (Str.ofString q.1.1) q.1.2,val:=.str (Str.ofString q.2.1) q.2.2 }
theorem oY (p:Params):(hd.heap_1 p).lookup 44=some { cls:=.type "dict",data:=.dict (IU p).toArray 7 }:=rfl
theorem BU {C:Cx} (l:List ((String × Nat) × String × Nat)):Pairs (PySem.strKind C.prog C.w) (l.map fun q=>{ hash:=PyData.keyHash C.w.params (Str.ofString q.1.1),key:=.str (Str.ofString q.1.1) q.1.2,val:=.str (Str.ofString q.2.1) q.2.2 }) (l.map fun q=>(Str.ofString q.1.1,Value.str (Str.ofString q.2.1) q.2.2)):=by
 induction l with
 | nil=>exact .nil
 | cons q l ih=>exact .cons (strKind_is C.prog C.w _ _) rfl ih
theorem zd {C:Cx} (P:PC C):C.G.DictAt (PySem.strKind C.prog C.w) 44 nsKv 7:=by
 refine ⟨_,_,C.KI _ _ (P.look (oY _)),⟨rfl,rfl,rfl⟩,rfl,fun e he=>?_,?_,by decide +kernel⟩
 ·rw [List.mem_toArray] at he
  refine ad (List.mem_map.mp he) fun q hq zq2=>?_
  clear he
  subst zq2
  exact (am (Str.ofString q.1.1) (strKind_is C.prog C.w _ _) rfl)
 ·exact BU nsL
theorem uT {C:Cx} (P:PC C):∃ o,C.G.get? 44=some o∧o.dict=none:=(am _ (C.KI _ _ (P.look (oY _))) rfl)
theorem AM (C:Cx):nsKv.length=nsMap.length∧∀ (i:Nat) (p:SS × SS) (q:Str × Value),nsMap[i]?=some p->nsKv[i]?=some q->q.1=aw C.σ p.1∧∃ t,q.2 = .str (aw C.σ p.2) t:=by
 refine ⟨rfl,fun i p q h1 h2=>?_⟩
 match i with
 | 0=>injections h1; injections h2; exact ⟨rfl,_,rfl⟩
 | 1=>injections h1; injections h2; exact ⟨rfl,_,rfl⟩
 | 2=>injections h1; injections h2; exact ⟨rfl,_,rfl⟩
 | 3=>injections h1; injections h2; exact ⟨rfl,_,rfl⟩
 | 4=>injections h1; injections h2; exact ⟨rfl,_,rfl⟩
 | 5=>injections h1; injections h2; exact ⟨rfl,_,rfl⟩
 | 6=>injections h1; injections h2; exact ⟨rfl,_,rfl⟩
 | i+7=>exact noS h1
section
local macro_rules | `(⟨⟩)=>`(fun _=>rfl)
theorem tQ {C:Cx} (P:PC C):∃ tk,C.GlobV "_DIV_LIMIT" (.int 4000 tk):=⟨_,P.glob rfl⟩
theorem kY {C:Cx} (P:PC C):C.GlobV "_digits2int" (.ref 196):=P.glob (by kernel_rfl)
theorem yo {C:Cx} (P:PC C):C.GlobV "_div2n1n" (.ref 175):=P.glob (by kernel_rfl)
theorem kT {C:Cx} (P:PC C):C.GlobV "_divmod_pos" (.ref 203):=P.glob (by kernel_rfl)
theorem kU {C:Cx} (P:PC C):C.GlobV "_int2digits" (.ref 189):=P.glob (by kernel_rfl)
theorem y1 {C:Cx} (P:PC C):C.GlobV "add" (.ref 210):=P.glob (by kernel_rfl)
theorem qq {C:Cx} (P:PC C):C.GlobV "delitem" (.ref 238):=P.glob (by kernel_rfl)
theorem AL {C:Cx} (P:PC C):C.GlobV "divmod" (.builtin "divmod"):=P.blt (by kernel_rfl) (by kernel_rfl) (by decide)
theorem rX {C:Cx} (P:PC C):C.GlobV "enumerate" (.type "enumerate"):=P.blt (by kernel_rfl) (by kernel_rfl) (by decide)
theorem qd {C:Cx} (P:PC C):C.GlobV "getitem" (.ref 245):=P.glob (by kernel_rfl)
theorem pT {C:Cx} (P:PC C):C.GlobV "indexOf" (.ref 252):=P.glob (by kernel_rfl)
theorem gS {C:Cx} (P:PC C):C.GlobV "len" (.builtin "len"):=P.blt (by kernel_rfl) (by kernel_rfl) (by decide)
theorem qw {C:Cx} (P:PC C):C.GlobV "list" (.type "list"):=P.blt (by kernel_rfl) (by kernel_rfl) (by decide)
theorem BZ {C:Cx} (P:PC C):C.GlobV "lshift" (.ref 217):=P.glob (by kernel_rfl)
theorem IK {C:Cx} (P:PC C):C.GlobV "max" (.builtin "max"):=P.blt (by kernel_rfl) (by kernel_rfl) (by decide)
theorem IA {C:Cx} (P:PC C):C.GlobV "min" (.builtin "min"):=P.blt (by kernel_rfl) (by kernel_rfl) (by decide)
theorem dN {C:Cx} (P:PC0 C):C.GlobV "range" (.type "range"):=P.blt (by kernel_rfl) (by kernel_rfl) (by decide)
theorem oh {C:Cx} (P:PC C):C.GlobV "reversed" (.type "reversed"):=P.blt (by kernel_rfl) (by kernel_rfl) (by decide)
def HW:DS :=
 (aq (dq (aJ bY (ak 0) (ak 1)))
 aH)
def wq:DC:=dFn [some 0,some 1] [] [] HW
theorem uC {C:Cx} (P:PC C):SC C (.ref 210) 2 wq :=
 cL P.toPC0 (tab:=["a", "b"]) (ctab:=[]) (pn:=["a", "b"]) (dvv:=[]) rfl rfl rfl rfl rfl rfl rfl rfl rfl ⟨⟩ (by decide) (by decide) (by decide) (gh P.toPC0 fun _ _ _=>rfl) (fun _ _=>.nil) (by decide) (by decide)
 (ag (cj (aD nofun nofun be))
 ax)
def CY:DS :=
 (aq (dq (aJ zG (ak 0) (ak 1)))
 aH)
def sG:DC:=dFn [some 0,some 1] [] [] CY
theorem wO {C:Cx} (P:PC C):SC C (.ref 217) 2 sG :=
 cL P.toPC0 (tab:=["a", "b"]) (ctab:=[]) (pn:=["a", "b"]) (dvv:=[]) rfl rfl rfl rfl rfl rfl rfl rfl rfl ⟨⟩ (by decide) (by decide) (by decide) (gh P.toPC0 fun _ _ _=>rfl) (fun _ _=>.nil) (by decide) (by decide)
 (ag (cj (aD nofun nofun qS))
 ax)
def Ix:DS :=
 (aq (dq (aJ lT (ak 0) (ak 1)))
 aH)
def EQ:DC:=dFn [some 0,some 1] [] [] Ix
theorem Gx {C:Cx} (P:PC C):SC C (.ref 224) 2 EQ :=
 cL P.toPC0 (tab:=["a", "b"]) (ctab:=[]) (pn:=["a", "b"]) (dvv:=[]) rfl rfl rfl rfl rfl rfl rfl rfl rfl ⟨⟩ (by decide) (by decide) (by decide) (gh P.toPC0 fun _ _ _=>rfl) (fun _ _=>.nil) (by decide) (by decide)
 (ag (cj (aD nofun nofun iB))
 ax)
def xB:DS :=
 (aq (dq (aJ fJ (ak 0) (ak 1)))
 aH)
def ln:DC:=dFn [some 0,some 1] [] [] xB
theorem oI {C:Cx} (P:PC C):SC C (.ref 245) 2 ln :=
 cL P.toPC0 (tab:=["a", "b"]) (ctab:=[]) (pn:=["a", "b"]) (dvv:=[]) rfl rfl rfl rfl rfl rfl rfl rfl rfl ⟨⟩ (by decide) (by decide) (by decide) (gh P.toPC0 fun _ _ _=>rfl) (fun _ _=>.nil) (by decide) (by decide)
 (ag (cj (aX nofun nofun fR fun _ _=>⟨_,rfl⟩))
 ax)
def wK:DS :=
 (aq (F7 FP (ak 0) (ak 1))
 aH)
def lJ:DC:=dFn [some 0,some 1] [] [] wK
theorem om {C:Cx} (P:PC C):SC C (.ref 238) 2 lJ :=
 cL P.toPC0 (tab:=["a", "b"]) (ctab:=[]) (pn:=["a", "b"]) (dvv:=[]) rfl rfl rfl rfl rfl rfl rfl rfl rfl ⟨⟩ (by decide) (by decide) (by decide) (gh P.toPC0 fun _ _ _=>rfl) (fun _ _=>.nil) (by decide) (by decide)
 (ag (Fk nofun nofun HL)
 ax)
theorem lY:(["order", "place", "ring", "step"]:List Str).Nodup:=by decide
def uZ:DS :=
 (aq (b9 2 (cg (ae (ak 1) an)))
 (aq (rU nxR (dW mkR (a9 eQ (ae (a9 kQ (ae (ak 0) an)) an))) (bB 3)
 (aq (bV (bF cc b7 (ak 2) (ae (aJ fJ (ak 0) (aJ fJ (ak 2) dn)) an)))
 aH))
 (aq (dq (fK (ae (a9 (wD ilt) (ae (ak 2) an)) (ae (a9 (wD fun a b=>ilt b a) (ae (ak 2) an)) an))))
 aH)))
def oM:DC:=dFn [some 0,some 1,none,none] [] [] uZ
theorem sH {C:Cx} (P:PC C):SC C (.ref 281) 2 oM :=
 cL P.toPC0 (tab:=["order", "place", "ring", "step"]) (ctab:=[]) (pn:=["order", "place"]) (dvv:=[]) rfl rfl rfl rfl rfl rfl rfl rfl rfl ⟨⟩ (by decide) (by decide) (by decide) (gh P.toPC0 fun _ _ _=>rfl) (fun _ _=>.nil) (by decide) (by decide)
 (ag (bE rfl rfl rfl lY (bn (ac nofun ah ⟨⟩)) ⟨⟩)
 (ag (oT dE (eF dF (bT rfl rfl (dN P.toPC0) rfl (ac (ck rfl rfl (gS P) rfl (ac nofun ah ⟨⟩) ⟨⟩ gI) ah ⟨⟩) ⟨⟩ dd)) (bb rfl rfl rfl lY)
 (ag (bw rfl (aI ⟨⟩ ⟨⟩ rfl F.plainAttrs_list F.slot_list_append F.type_list_append ⟨⟩ nofun (fun ok h r=>bh ok h r) (ac (aX nofun (aX nofun cD fR fun _ _=>⟨_,rfl⟩) fR fun _ _=>⟨_,rfl⟩) ah ⟨⟩) bL) ⟨⟩)
 ax) fun _ _=>rfl)
 (ag (cj (cz (ac (ck rfl rfl (IA P) rfl (ac nofun ah ⟨⟩) ⟨⟩ Gv) (ac (ck rfl rfl (IK P) rfl (ac nofun ah ⟨⟩) ⟨⟩ GI) ah ⟨⟩) ⟨⟩) rfl))
 ax)))
theorem jD:(["number"]:List Str).Nodup:=by decide
def qY:DS :=
 (aq (b9 0 (bx 0))
 (aq (rU nxR (dW mkR (a9 rF (ae (aJ lT (a9 kQ (ae (bK 0) an)) (bx 1)) (ae dn (ae dn an))))) (EH 1)
 (aq (b9 0 (aJ bY (aJ qa (ak 0) (aJ lT (a9 kQ (ae (bK 0) an)) (bK 1))) (a9 kQ (ae (hW nxL (dW mkL (aJ fJ (bK 0) (fO (bK 1) bR bR))) (List.replicate 1 none) [1,0] (bB 0) (bp pLt (ak 0) (aJ fJ (bK 1) (bK 0))) (ak 0)) an))))
 aH))
 (aq (dq (ak 0))
 aH)))
def kC:DC:=dFn [none] [some 0,none] [] qY
theorem pI {C:Cx} (P:PC C):SC C (.ref 269) 1 kC :=
 cL P.toPC0 (tab:=["number"]) (ctab:=["order", "k"]) (pn:=["order"]) (dvv:=[]) rfl rfl rfl rfl rfl rfl rfl rfl rfl ⟨⟩ (by decide) (by decide) (by decide) (j9 P.toPC0 fun _ _=>rfl) (fun _ _=>.nil) (by decide) (by decide)
 (ag (bE rfl rfl rfl jD aF ⟨⟩)
 (ag (oT dE (eF dF (bT rfl rfl (dN P.toPC0) rfl (ac (aD (ck rfl rfl (gS P) rfl (ac (aM rfl rfl (.inl rfl) rfl rfl) ah ⟨⟩) ⟨⟩ gI) aF iB) (ac cD (ac cD ah ⟨⟩) ⟨⟩) ⟨⟩) ⟨⟩ qg)) (ui rfl rfl (.inl rfl) rfl)
 (ag (bE rfl rfl rfl jD (aD (aD nofun (aD (ck rfl rfl (gS P) rfl (ac (aM rfl rfl (.inl rfl) rfl rfl) ah ⟨⟩) ⟨⟩ gI) (aM rfl rfl (.inl rfl) rfl rfl) iB) lg) (ck rfl rfl (gS P) rfl (ac (gH (tab:=["place"]) (ctab:=["k", "order"]) (clay:=[1,0]) (cY rfl) gF fY (eF dI (aX (aM rfl rfl (.inl rfl) rfl rfl) (dA (dH (aM rfl rfl (.inl rfl) rfl rfl)) cu cu) fR fun _ _=>⟨_,rfl⟩)) (bb rfl rfl rfl (nd rfl)) (qI (aY nofun (aX (aM rfl rfl (.inl rfl) rfl rfl) (aM rfl rfl (.inl rfl) rfl rfl) fR fun _ _=>⟨_,rfl⟩) Fy rfl)) nofun fun _ _=>rfl) ah ⟨⟩) ⟨⟩ gI) be) ⟨⟩)
 ax) fun _ _=>rfl)
 (ag (cj nofun)
 ax)))
def gw (ih:DCv):DS :=
 (aq (dIf (bp pEq (aJ bY (ak 1) (bx 1)) (ak 2))
 (aq (wF vR (ak 0) (bK 0) (ak 1))
 (aq qp
 aH))
 aH)
 (aq (b9 3 (aJ C8 (aJ bY (ak 1) (ak 2)) (bx 1)))
 (aq (b9 4 (aJ qa (aJ lT (ak 3) (ak 1)) (bK 2)))
 (aq (b9 5 (aJ C8 (ak 0) (ak 4)))
 (aq (b9 6 (aJ Ib (ak 0) (aJ zG (ak 5) (ak 4))))
 (aq (bV (jX ih (bK 1) (ae (ak 6) (ae (ak 1) (ae (ak 3) an)))))
 (aq (bV (jX ih (bK 1) (ae (ak 5) (ae (ak 3) (ae (ak 2) an)))))
 aH)))))))
def f7 (m:Nat):DCv:=@Nat.rec (fun _=>DCv) (fun _ _ _ _ _=>false) (fun _ ih=>y6 0 [some 0,some 1,some 2,none,none,none,none] (gw ih)) m
theorem iN {C:Cx} (P:PC C) {ih:DCv} (hih:SV C 3 ih):SV C 3 (y6 0 [some 0,some 1,some 2,none,none,none,none] (gw ih)) :=
 Bk (tab:=["x", "L", "R", "mid", "shift", "upper", "lower"]) (tr (qD P.fn0 rfl rfl rfl) rfl (F6 (pn:=["x", "L", "R"]) fun _ _ _ _ _ _ _ _ _ _ _=>rfl) rfl) fun _ =>
 (ag (b4 (aY (aD nofun aF be) nofun gC rfl)
 (ag (B9 nofun (aM rfl rfl (.inr ⟨rfl,rfl⟩) rfl rfl) nofun zl ⟨⟩)
 (ag oU
 ax))
 ax)
 (ag (bE rfl rfl rfl (nd rfl) (aD (aD nofun nofun be) aF vp) ⟨⟩)
 (ag (bE rfl rfl rfl (nd rfl) (aD (aD nofun nofun iB) (aM rfl rfl (.inr ⟨rfl,rfl⟩) rfl rfl) lg) ⟨⟩)
 (ag (bE rfl rfl rfl (nd rfl) (aD nofun nofun vp) ⟨⟩)
 (ag (bE rfl rfl rfl (nd rfl) (aD nofun (aD nofun nofun qS) Gq) ⟨⟩)
 (ag (bw rfl (hE (aM rfl rfl (.inr ⟨rfl,rfl⟩) rfl rfl) (ac nofun (ac nofun (ac nofun ah ⟨⟩) ⟨⟩) ⟨⟩) ⟨⟩ hih) ⟨⟩)
 (ag (bw rfl (hE (aM rfl rfl (.inr ⟨rfl,rfl⟩) rfl rfl) (ac nofun (ac nofun (ac nofun ah ⟨⟩) ⟨⟩) ⟨⟩) ⟨⟩ hih) ⟨⟩)
 ax)))))))
theorem jx {C:Cx} (P:PC C) (m:Nat):SV C 3 (f7 m):=by
 induction m with
 | zero=>exact vX
 | succ m ih=>exact iN P ih
def rJ:DS :=
 (aq (gK 1 (aJ qa (cg (ae (bx 0) an)) (aJ EC (aJ lT (aJ bY (bF v8 vY (ak 0) an) (bK 0)) (bx 1)) (bK 0))))
 (aq (C6 0 0 2 [1,2,0])
 (aq (dIf (b8 (ak 0))
 (aq (bV (jX (f7 8) (bK 2) (ae (ak 0) (ae (bx 0) (ae (a9 kQ (ae (bK 1) an)) an)))))
 aH)
 aH)
 (aq (dq (bK 1))
 aH))))
def iq:DC:=dFn [some 0] [some 1,none,none] [] rJ
theorem jA {C:Cx} (P:PC C):SC C (.ref 189) 2 iq :=
 cL P.toPC0 (tab:=["a"]) (ctab:=["n", "a_digits", "inner"]) (pn:=["a", "n"]) (dvv:=[]) rfl rfl rfl rfl rfl rfl rfl rfl rfl ⟨⟩ (by decide) (by decide) (by decide) (gh P.toPC0 fun _ _ _=>rfl) (fun _ _=>.nil) (by decide) (by decide)
 (ag (gr rfl rfl (.inl rfl) rfl (aD (bn (ac aF ah ⟨⟩)) (aD (aD (aD (aI ⟨⟩ ⟨⟩ rfl F.plainAttrs_int F.slot_int_bit_length F.type_int_bit_length ⟨⟩ nofun (fun ok h r=>oF ok h r) ah qr) (aM rfl rfl (.inl rfl) rfl rfl) be) aF iB) (aM rfl rfl (.inl rfl) rfl rfl) uy) lg) fun _ _=>rfl)
 (ag (y8 (clay:=[1,2,0]) ⟨rfl,P.hd0,(P.tabs ▸ rfl),(qD P.fn0 rfl rfl rfl),rfl,rfl,by decide,rfl⟩ rfl rfl rfl rfl rfl rfl rfl (.inl rfl) rfl ⟨⟩ ⟨⟩)
 (ag (b4 (bG nofun fun _ _=>rfl)
 (ag (bw rfl (hE (aM rfl rfl (.inl rfl) rfl rfl) (ac nofun (ac aF (ac (ck rfl rfl (gS P) rfl (ac (aM rfl rfl (.inl rfl) rfl rfl) ah ⟨⟩) ⟨⟩ gI) ah ⟨⟩) ⟨⟩) ⟨⟩) ⟨⟩ (jx P 8)) ⟨⟩)
 ax)
 ax)
 (ag (cj (aM rfl rfl (.inl rfl) rfl rfl))
 ax))))
def gv (ih:DCv):DS :=
 (aq (dIf (bp pEq (aJ bY (ak 0) (bx 1)) (ak 1))
 (aq (dq (aJ fJ (bK 0) (ak 0)))
 aH)
 aH)
 (aq (b9 2 (aJ C8 (aJ bY (ak 0) (ak 1)) (bx 1)))
 (aq (b9 3 (aJ qa (aJ lT (ak 2) (ak 0)) (bK 2)))
 (aq (dq (aJ bY (aJ zG (jX ih (bK 1) (ae (ak 2) (ae (ak 1) an))) (ak 3)) (jX ih (bK 1) (ae (ak 0) (ae (ak 2) an)))))
 aH))))
def f8 (m:Nat):DCv:=@Nat.rec (fun _=>DCv) (fun _ _ _ _ _=>false) (fun _ ih=>y6 1 [some 0,some 1,none,none] (gv ih)) m
theorem jb {C:Cx} (P:PC C) {ih:DCv} (hih:SV C 2 ih):SV C 2 (y6 1 [some 0,some 1,none,none] (gv ih)) :=
 Bk (tab:=["L", "R", "mid", "shift"]) (tr (qD P.fn1 rfl rfl rfl) rfl (GV (pn:=["L", "R"]) fun _ _ _ _ _ _ _ _ _ _=>rfl) rfl) fun _ =>
 (ag (b4 (aY (aD nofun aF be) nofun gC rfl)
 (ag (cj (aX (aM rfl rfl (.inr ⟨rfl,rfl⟩) rfl rfl) nofun fR fun _ _=>⟨_,rfl⟩))
 ax)
 ax)
 (ag (bE rfl rfl rfl (nd rfl) (aD (aD nofun nofun be) aF vp) ⟨⟩)
 (ag (bE rfl rfl rfl (nd rfl) (aD (aD nofun nofun iB) (aM rfl rfl (.inr ⟨rfl,rfl⟩) rfl rfl) lg) ⟨⟩)
 (ag (cj (aD (aD (hE (aM rfl rfl (.inr ⟨rfl,rfl⟩) rfl rfl) (ac nofun (ac nofun ah ⟨⟩) ⟨⟩) ⟨⟩ hih) nofun qS) (hE (aM rfl rfl (.inr ⟨rfl,rfl⟩) rfl rfl) (ac nofun (ac nofun ah ⟨⟩) ⟨⟩) ⟨⟩ hih) be))
 ax))))
theorem jz {C:Cx} (P:PC C) (m:Nat):SV C 2 (f8 m):=by
 induction m with
 | zero=>exact vX
 | succ m ih=>exact jb P ih
def rK:DS :=
 (aq (C6 1 1 2 [0,2,1])
 (aq (dq (kK (b8 (bK 0)) (jX (f8 8) (bK 2) (ae (bx 0) (ae (a9 kQ (ae (bK 0) an)) an))) (bx 0)))
 aH))
def iw:DC:=dFn [] [some 0,some 1,none] [] rK
theorem jC {C:Cx} (P:PC C):SC C (.ref 196) 2 iw :=
 cL P.toPC0 (tab:=[]) (ctab:=["digits", "n", "inner"]) (pn:=["digits", "n"]) (dvv:=[]) rfl rfl rfl rfl rfl rfl rfl rfl rfl ⟨⟩ (by decide) (by decide) (by decide) (gh P.toPC0 fun _ _ _=>rfl) (fun _ _=>.nil) (by decide) (by decide)
 (ag (y8 (clay:=[0,2,1]) ⟨rfl,P.hd1,(P.tabs ▸ rfl),(qD P.fn1 rfl rfl rfl),rfl,rfl,by decide,rfl⟩ rfl rfl rfl rfl rfl rfl rfl (.inl rfl) rfl ⟨⟩ ⟨⟩)
 (ag (cj (fe (bG (aM rfl rfl (.inl rfl) rfl rfl) fun _ _=>rfl) (hE (aM rfl rfl (.inl rfl) rfl rfl) (ac aF (ac (ck rfl rfl (gS P) rfl (ac (aM rfl rfl (.inl rfl) rfl rfl) ah ⟨⟩) ⟨⟩ gI) ah ⟨⟩) ⟨⟩) ⟨⟩ (jz P 8)) aF))
 ax))
def xq:DS :=
 (aq (dIf (bp pLe (aJ lT (bF v8 vY (ak 0) an) (ak 2)) (Br (.int 4000)))
 (aq (dq (a9 vZ (ae (ak 0) (ae (ak 1) an))))
 aH)
 aH)
 (aq cx
 (aq cx
 (aq cx
 (aq cx
 (aq cx
 (aq cx
 (aq cx
 (aq cx
 (aq cx
 aH))))))))))
def pS:DC:=dFn [some 0,some 1,some 2,none,none,none,none,none,none,none,none] [] [] xq
theorem vf {C:Cx} (P:PC C):SC C (.ref 175) 3 pS :=
 cL P.toPC0 (tab:=["a", "b", "n", "pad", "half_n", "mask", "b1", "b2", "q1", "r", "q2"]) (ctab:=[]) (pn:=["a", "b", "n"]) (dvv:=[]) rfl rfl rfl rfl rfl rfl rfl rfl rfl ⟨⟩ (by decide) (by decide) (by decide) (v7 P.toPC0 fun _ _ _ _=>rfl) (fun _ _=>.nil) (by decide) (by decide)
 (ag (b4 (aY (aD (aI ⟨⟩ ⟨⟩ rfl F.plainAttrs_int F.slot_int_bit_length F.type_int_bit_length ⟨⟩ nofun (fun ok h r=>oF ok h r) ah qr) nofun iB) (Cn (tQ P) rfl rfl rfl) IM rfl)
 (ag (cj (ck rfl rfl (AL P) rfl (ac nofun (ac nofun ah ⟨⟩) ⟨⟩) ⟨⟩ xw))
 ax)
 ax)
 (ag eW
 (ag eW
 (ag eW
 (ag eW
 (ag eW
 (ag eW
 (ag eW
 (ag eW
 (ag eW
 ax))))))))))
theorem cA:(["a", "b", "n", "a_digits", "r", "q_digits", "a_digit", "q_digit", "q"]:List Str).Nodup:=by decide
def rH:DS :=
 (aq (b9 2 (bF v8 vY (ak 1) an))
 (aq (b9 3 (a9 iq (ae (ak 0) (ae (ak 2) an))))
 (aq (b9 4 (bx 0))
 (aq (b9 5 (cg an))
 (aq (rU nxV (FY (ak 3)) (bB 6)
 (aq (kJ (a9 pS (ae (aJ bY (aJ zG (ak 4) (ak 2)) (ak 6)) (ae (ak 1) (ae (ak 2) an)))) (yW [(bB 7),(bB 4)]))
 (aq (bV (bF cc b7 (ak 5) (ae (ak 7) an)))
 aH)))
 (aq (bV (bF cc tm (ak 5) an))
 (aq (b9 8 (a9 iw (ae (ak 5) (ae (ak 2) an))))
 (aq (dq (fK (ae (ak 8) (ae (ak 4) an))))
 aH))))))))
def fW:DC:=dFn [some 0,some 1,none,none,none,none,none,none,none] [] [] rH
theorem gN {C:Cx} (P:PC C):SC C (.ref 203) 2 fW :=
 cL P.toPC0 (tab:=["a", "b", "n", "a_digits", "r", "q_digits", "a_digit", "q_digit", "q"]) (ctab:=[]) (pn:=["a", "b"]) (dvv:=[]) rfl rfl rfl rfl rfl rfl rfl rfl rfl ⟨⟩ (by decide) (by decide) (by decide) (gh P.toPC0 fun _ _ _=>rfl) (fun _ _=>.nil) (by decide) (by decide)
 (ag (bE rfl rfl rfl cA (aI ⟨⟩ ⟨⟩ rfl F.plainAttrs_int F.slot_int_bit_length F.type_int_bit_length ⟨⟩ nofun (fun ok h r=>oF ok h r) ah qr) ⟨⟩)
 (ag (bE rfl rfl rfl cA (bc rfl rfl (kU P) rfl (P.fn rfl) (ac nofun (ac nofun ah ⟨⟩) ⟨⟩) ⟨⟩ (jA P)) ⟨⟩)
 (ag (bE rfl rfl rfl cA aF ⟨⟩)
 (ag (bE rfl rfl rfl cA (bn ah) ⟨⟩)
 (ag (oT it_rev (BW rfl rfl (oh P) rfl nofun ⟨⟩ ⟨⟩) (bb rfl rfl rfl cA)
 (ag (iZ (bc rfl rfl (yo P) rfl (P.fn rfl) (ac (aD (aD nofun nofun qS) nofun be) (ac nofun (ac nofun ah ⟨⟩) ⟨⟩) ⟨⟩) ⟨⟩ (vf P)) (qP (ts:=[assign (.Name "q_digit" ⟨279,8,279,15⟩),assign (.Name "r" ⟨279,17,279,18⟩)]) ⟨(bb rfl rfl rfl cA),(bb rfl rfl rfl cA),trivial⟩ ⟨⟩ rfl) ⟨⟩ (fun _ _=>rfl))
 (ag (bw rfl (aI ⟨⟩ ⟨⟩ rfl F.plainAttrs_list F.slot_list_append F.type_list_append ⟨⟩ nofun (fun ok h r=>bh ok h r) (ac nofun ah ⟨⟩) bL) ⟨⟩)
 ax)) fun _ _=>rfl)
 (ag (bw rfl (aI ⟨⟩ ⟨⟩ rfl F.plainAttrs_list F.slot_list_reverse F.type_list_reverse ⟨⟩ nofun (fun ok h r=>bh ok h r) ah vm) ⟨⟩)
 (ag (bE rfl rfl rfl cA (bc rfl rfl (kY P) rfl (P.fn rfl) (ac nofun (ac nofun ah ⟨⟩) ⟨⟩) ⟨⟩ (jC P)) ⟨⟩)
 (ag (cj (cz (ac nofun (ac nofun ah ⟨⟩) ⟨⟩) rfl))
 ax))))))))
theorem dJ:(["number", "n", "row", "free", "order", "signs", "k", "rest"]:List Str).Nodup:=by decide
def sB (cd:DC):DS :=
 (aq (rE (fK (ae (a9 vK (ae (a9 eQ (ae (ak 1) an)) an)) (ae (cg an) (ae (cg an) an)))) [bB 5,bB 4,bB 3])
 (aq (rU nxR (dW mkR (a9 rF (ae (ak 1) (ae (bx 0) (ae dn an))))) (bB 6)
 (aq (kJ (a9 cd (ae (ak 0) (ae (ak 6) an))) (yW [(bB 0),(bB 7)]))
 (aq (bV (bF cc b7 (ak 4) (ae (a9 ln (ae (ak 3) (ae (ak 7) an))) an)))
 (aq (bV (bF cc b7 (ak 5) (ae (a9 ln (ae (ak 2) (ae (ak 7) an))) an)))
 (aq (dIf (jy (bp gp (a9 lJ (ae (ak 3) (ae (ak 7) an))) bR) (jy (bp gp (a9 lJ (ae (ak 2) (ae (ak 7) an))) bR) jc))
 (aq (dq (fK (ae (cg an) (ae (cg an) an))))
 aH)
 aH)
 aH)))))
 (aq (dq (fK (ae (ak 4) (ae (ak 5) an))))
 aH)))
def mH (cd:DC):DC:=dFn [some 0,some 1,some 2,none,none,none,none,none] [] [] (sB cd)
theorem rR {C:Cx} (P:PC C) {cd:DC} (hcd:SC C (.ref 203) 2 cd):SC C (.ref 264) 3 (mH cd) :=
 cL P.toPC0 (tab:=["number", "n", "row", "free", "order", "signs", "k", "rest"]) (ctab:=[]) (pn:=["number", "n", "row"]) (dvv:=[]) rfl rfl rfl rfl rfl rfl rfl rfl rfl ⟨⟩ (by decide) (by decide) (by decide) (v7 P.toPC0 fun _ _ _ _=>rfl) (fun _ _=>.nil) (by decide) (by decide)
 (ag (rD (names:=["free", "order", "signs"]) (cz (ac (bT rfl rfl (qw P) rfl (ac (bT rfl rfl (dN P.toPC0) rfl (ac nofun ah ⟨⟩) ⟨⟩ dd) ah ⟨⟩) ⟨⟩ rT) (ac (bn ah) (ac (bn ah) ah ⟨⟩) ⟨⟩) ⟨⟩) rfl) rfl ⟨iC rfl rfl rfl dJ,iC rfl rfl rfl dJ,iC rfl rfl rfl dJ,trivial⟩ ⟨⟩ (j1 rfl))
 (ag (oT dE (eF dF (bT rfl rfl (dN P.toPC0) rfl (ac nofun (ac aF (ac cD ah ⟨⟩) ⟨⟩) ⟨⟩) ⟨⟩ qg)) (bb rfl rfl rfl dJ)
 (ag (iZ (bc rfl rfl (kT P) rfl (P.fn rfl) (ac nofun (ac nofun ah ⟨⟩) ⟨⟩) ⟨⟩ hcd) (qP (ts:=[assign (.Name "number" ⟨314,8,314,14⟩),assign (.Name "rest" ⟨314,16,314,20⟩)]) ⟨(bb rfl rfl rfl dJ),(bb rfl rfl rfl dJ),trivial⟩ ⟨⟩ rfl) ⟨⟩ (fun _ _=>rfl))
 (ag (bw rfl (aI ⟨⟩ ⟨⟩ rfl F.plainAttrs_list F.slot_list_append F.type_list_append ⟨⟩ nofun (fun ok h r=>bh ok h r) (ac (bc rfl rfl (qd P) rfl (P.fn rfl) (ac nofun (ac nofun ah ⟨⟩) ⟨⟩) ⟨⟩ (oI P)) ah ⟨⟩) bL) ⟨⟩)
 (ag (bw rfl (aI ⟨⟩ ⟨⟩ rfl F.plainAttrs_list F.slot_list_append F.type_list_append ⟨⟩ nofun (fun ok h r=>bh ok h r) (ac (bc rfl rfl (qd P) rfl (P.fn rfl) (ac nofun (ac nofun ah ⟨⟩) ⟨⟩) ⟨⟩ (oI P)) ah ⟨⟩) bL) ⟨⟩)
 (ag (b4 (cV (eE (aY (bc rfl rfl (qq P) rfl (P.fn rfl) (ac nofun (ac nofun ah ⟨⟩) ⟨⟩) ⟨⟩ (om P)) ch dV rfl) (eE (aY (bc rfl rfl (qq P) rfl (P.fn rfl) (ac nofun (ac nofun ah ⟨⟩) ⟨⟩) ⟨⟩ (om P)) ch dV rfl) eC)))
 (ag (cj (cz (ac (bn ah) (ac (bn ah) ah ⟨⟩) ⟨⟩) rfl))
 ax)
 ax)
 ax)))) fun _ _=>rfl)
 (ag (cj (cz (ac nofun (ac nofun ah ⟨⟩) ⟨⟩) rfl))
 ax)))
theorem vD:(["a", "b", "i", "j"]:List Str).Nodup:=by decide
def xy:DS :=
 (aq (FN 0 1 2 3)
 aH)
def lG:DC:=dFn [some 0,some 1,none,none] [] [] xy
theorem oe {C:Cx} (P:PC C):SC C (.ref 252) 2 lG :=
 cL P.toPC0 (tab:=["a", "b", "i", "j"]) (ctab:=[]) (pn:=["a", "b"]) (dvv:=[]) rfl rfl rfl rfl rfl rfl rfl rfl rfl ⟨⟩ (by decide) (by decide) (by decide) (gh P.toPC0 fun _ _ _=>rfl) (fun _ _=>.nil) (by decide) (by decide)
 (ag (Go P.t1 rfl rfl rfl rfl rfl (ia:=0) (ib:=1) (ii:=2) (ij:=3) rfl rfl rfl rfl vD (by decide) (by decide) (by decide) rfl rfl rfl rfl rfl (rX P) rfl)
 ax)
theorem dC:(["n", "back", "quotient", "rest", "turned"]:List Str).Nodup:=by decide
def pC:DS :=
 (aq (b9 0 (a9 kQ (ae (bK 0) an)))
 (aq (b9 1 (hW nxR (dW mkR (a9 eQ (ae (ak 0) an))) (List.replicate 1 none) [0] (bB 0) dTt (a9 lG (ae (bK 0) (ae (ak 0) an)))))
 (aq (kJ (a9 fW (ae (a9 iw (ae (ak 1) (ae (bx 3) an))) (ae (bx 8) an))) (yW [(bB 2),(bB 3)]))
 (aq (b9 4 (a9 iq (ae (a9 wq (ae (ak 2) (ae (a9 sG (ae (a9 wq (ae (ak 3) (ae (bx 8) an))) (ae (aJ qa (bx 3) (aJ lT (ak 0) (bx 1))) an))) an))) (ae (bx 3) an))))
 (aq (dq (kK (bp pEq (aJ fJ (ak 4) (fO (ak 0) bR bR)) (cg (ae (bx 1) an))) (aJ fJ (ak 4) (fO bR (ak 0) bR)) (cg an)))
 aH)))))
def jF:DC:=dFn [none,none,none,none,none] [some 0] [] pC
theorem nU {C:Cx} (P:PC C):SC C (.ref 274) 1 jF :=
 cL P.toPC0 (tab:=["n", "back", "quotient", "rest", "turned"]) (ctab:=["order"]) (pn:=["order"]) (dvv:=[]) rfl rfl rfl rfl rfl rfl rfl rfl rfl ⟨⟩ (by decide) (by decide) (by decide) (j9 P.toPC0 fun _ _=>rfl) (fun _ _=>.nil) (by decide) (by decide)
 (ag (bE rfl rfl rfl dC (ck rfl rfl (gS P) rfl (ac (aM rfl rfl (.inl rfl) rfl rfl) ah ⟨⟩) ⟨⟩ gI) ⟨⟩)
 (ag (ll (tab:=["place"]) (ctab:=["order"]) (clay:=[0]) (cY rfl) gF rfl rfl rfl dC dE (eF dF (bT rfl rfl (dN P.toPC0) rfl (ac nofun ah ⟨⟩) ⟨⟩ dd)) (bb rfl rfl rfl (nd rfl)) fZ (bc rfl rfl (pT P) rfl (P.fn rfl) (ac (aM rfl rfl (.inl rfl) rfl rfl) (ac nofun ah ⟨⟩) ⟨⟩) ⟨⟩ (oe P)) (fun _ _=>rfl) (i5 rfl rfl rfl rfl))
 (ag (iZ (bc rfl rfl (kT P) rfl (P.fn rfl) (ac (bc rfl rfl (kY P) rfl (P.fn rfl) (ac nofun (ac aF ah ⟨⟩) ⟨⟩) ⟨⟩ (jC P)) (ac aF ah ⟨⟩) ⟨⟩) ⟨⟩ (gN P)) (qP (ts:=[assign (.Name "quotient" ⟨328,4,328,12⟩),assign (.Name "rest" ⟨328,14,328,18⟩)]) ⟨(bb rfl rfl rfl dC),(bb rfl rfl rfl dC),trivial⟩ ⟨⟩ rfl) ⟨⟩ (fun _ _=>rfl))
 (ag (bE rfl rfl rfl dC (bc rfl rfl (kU P) rfl (P.fn rfl) (ac (bc rfl rfl (y1 P) rfl (P.fn rfl) (ac nofun (ac (bc rfl rfl (BZ P) rfl (P.fn rfl) (ac (bc rfl rfl (y1 P) rfl (P.fn rfl) (ac nofun (ac aF ah ⟨⟩) ⟨⟩) ⟨⟩ (uC P)) (ac (aD aF (aD nofun aF iB) lg) ah ⟨⟩) ⟨⟩) ⟨⟩ (wO P)) ah ⟨⟩) ⟨⟩) ⟨⟩ (uC P)) (ac aF ah ⟨⟩) ⟨⟩) ⟨⟩ (jA P)) ⟨⟩)
 (ag (cj (fe (aY (aX nofun (dA (dH nofun) cu cu) fR fun _ _=>⟨_,rfl⟩) (bn (ac aF ah ⟨⟩)) gC rfl) (aX nofun (dA cu (dH nofun) cu) fR fun _ _=>⟨_,rfl⟩) (bn ah)))
 ax)))))
def tL:DS :=
 (aq (gK 1 (a9 kQ (ae (bK 0) an)))
 (aq (dq (Ct nxR (dW mkR (a9 eQ (ae (bK 1) an))) (List.replicate 0 none) [0,1] (EH 0) dTt (aJ fJ (hW nxR (dW mkR (a9 wh (ae (aJ bY (bK 0) (bx 1)) (ae (aJ bY (aJ bY (bK 0) (bK 2)) (bx 1)) an)))) (List.replicate 1 none) [0,1,2] (bB 0) (bp pEq (aJ fJ (bK 1) (aJ DY (ak 0) (bK 2))) (aJ fJ (bK 1) (bK 0))) (aJ DY (ak 0) (bK 2))) (bx 0))))
 aH))
def iT:DC:=dFn [] [some 0,none] [] tL
theorem kE {C:Cx} (P:PC C):SC C (.ref 296) 1 iT :=
 cL P.toPC0 (tab:=[]) (ctab:=["keys", "n"]) (pn:=["keys"]) (dvv:=[]) rfl rfl rfl rfl rfl rfl rfl rfl rfl ⟨⟩ (by decide) (by decide) (by decide) (j9 P.toPC0 fun _ _=>rfl) (fun _ _=>.nil) (by decide) (by decide)
 (ag (gr rfl rfl (.inl rfl) rfl (ck rfl rfl (gS P) rfl (ac (aM rfl rfl (.inl rfl) rfl rfl) ah ⟨⟩) ⟨⟩ gI) fun _ _=>rfl)
 (ag (cj (za (x:="i") (tab:=[]) (ctab:=["keys", "n"]) (clay:=[0,1]) (xW rfl (fun _ _=>rfl) ⟨⟩) gF dE (eF dF (bT rfl rfl (dN P.toPC0) rfl (ac (aM rfl rfl (.inl rfl) rfl rfl) ah ⟨⟩) ⟨⟩ dd)) (ui rfl rfl (.inl rfl) rfl) fZ (aX (gH (tab:=["j"]) (ctab:=["i", "keys", "n"]) (clay:=[0,1,2]) (cY rfl) gF dE (eF dF (bT rfl rfl (dN P.toPC0) rfl (ac (aD (aM rfl rfl (.inl rfl) rfl rfl) aF be) (ac (aD (aD (aM rfl rfl (.inl rfl) rfl rfl) (aM rfl rfl (.inl rfl) rfl rfl) be) aF be) ah ⟨⟩) ⟨⟩) ⟨⟩ ym)) (bb rfl rfl rfl (nd rfl)) (qI (aY (aX (aM rfl rfl (.inl rfl) rfl rfl) (aD nofun (aM rfl rfl (.inl rfl) rfl rfl) tX) fR fun _ _=>⟨_,rfl⟩) (aX (aM rfl rfl (.inl rfl) rfl rfl) (aM rfl rfl (.inl rfl) rfl rfl) fR fun _ _=>⟨_,rfl⟩) gC rfl)) (aD nofun (aM rfl rfl (.inl rfl) rfl rfl) tX) fun _ _=>rfl) aF fR fun _ _=>⟨_,rfl⟩) fun _ _=>rfl))
 ax))
end
section
local macro_rules | `(⟨⟩)=>`(fun _=>rfl)
theorem jU {C:Cx} (P:PC C):C.GlobV "C14NWriterTarget" (.ref 150):=P.glob (by kernel_rfl)
theorem iR {C:Cx} (P:PC C):C.GlobV "_escape_attrib_c14n" (.ref 168):=P.glob (by kernel_rfl)
theorem fS {C:Cx} (P:PC C):C.GlobV "_escape_cdata_c14n" (.ref 161):=P.glob (by kernel_rfl)
theorem uN {C:Cx} (P:PC C):C.GlobV "_law_ends" (.ref 281):=P.glob (by kernel_rfl)
theorem vB {C:Cx} (P:PC C):C.GlobV "_law_walk" (.ref 286):=P.glob (by kernel_rfl)
theorem mQ {C:Cx} (P:PC C):C.GlobV "_namespace_map" (.ref 44):=P.glob (by kernel_rfl)
theorem Cs {C:Cx} (P:PC C):C.GlobV "set" (.type "set"):=P.blt (by kernel_rfl) (by kernel_rfl) (by decide)
theorem AX {C:Cx} (P:PC C):C.GlobV "sorted" (.builtin "sorted"):=P.blt (by kernel_rfl) (by kernel_rfl) (by decide)
theorem It {C:Cx} (P:PC C):C.GlobV "str" (.type "str"):=P.blt (by kernel_rfl) (by kernel_rfl) (by decide)
theorem EO {C:Cx} (P:PC C):findIn C.K (.ref 150) "__init__" = some (some (.ref 67)):=P.K ▸ (by kernel_rfl)
theorem EN {C:Cx} (P:PC C):typeIn C.K (.ref 67)=some (.type "function"):=P.K ▸ (by kernel_rfl)
theorem kD {C:Cx} (P:PC C):findIn C.K (.ref 150) "_flush" = some (some (.ref 106)):=P.K ▸ (by kernel_rfl)
theorem kA {C:Cx} (P:PC C):∃ cls dct fd sl,C.K.lookup 106=some ⟨cls,dct,.func fd,sl⟩∧cls = .type "function":=⟨_,_,_,_,P.look rfl,rfl⟩
theorem tj {C:Cx} (P:PC C):findIn C.K (.ref 150) "_qname" = some (some (.ref 90)):=P.K ▸ (by kernel_rfl)
theorem CT {C:Cx} (P:PC C):typeIn C.K (.ref 90)=some (.type "function"):=P.K ▸ (by kernel_rfl)
theorem zR {C:Cx} (P:PC C):∃ cls dct fd sl,C.K.lookup 90=some ⟨cls,dct,.func fd,sl⟩∧cls = .type "function":=⟨_,_,_,_,P.look rfl,rfl⟩
theorem yF {C:Cx} (P:PC C):findIn C.K (.ref 150) "_start" = some (some (.ref 126)):=P.K ▸ (by kernel_rfl)
theorem xU {C:Cx} (P:PC C):∃ cls dct fd sl,C.K.lookup 126=some ⟨cls,dct,.func fd,sl⟩∧cls = .type "function":=⟨_,_,_,_,P.look rfl,rfl⟩
theorem nM {C:Cx} (P:PC C):findIn C.K (.ref 150) "comment" = some (some (.ref 140)):=P.K ▸ (by kernel_rfl)
theorem nQ {C:Cx} (P:PC C):∃ cls dct fd sl,C.K.lookup 140=some ⟨cls,dct,.func fd,sl⟩∧cls = .type "function":=⟨_,_,_,_,P.look rfl,rfl⟩
theorem ww {C:Cx} (P:PC C):findIn C.K (.ref 150) "data" = some (some (.ref 97)):=P.K ▸ (by kernel_rfl)
theorem v9 {C:Cx} (P:PC C):∃ cls dct fd sl,C.K.lookup 97=some ⟨cls,dct,.func fd,sl⟩∧cls = .type "function":=⟨_,_,_,_,P.look rfl,rfl⟩
theorem qz {C:Cx} (P:PC C):findIn C.K (.ref 150) "end" = some (some (.ref 133)):=P.K ▸ (by kernel_rfl)
theorem q6 {C:Cx} (P:PC C):∃ cls dct fd sl,C.K.lookup 133=some ⟨cls,dct,.func fd,sl⟩∧cls = .type "function":=⟨_,_,_,_,P.look rfl,rfl⟩
theorem kB {C:Cx} (P:PC C):findIn C.K (.ref 150) "start" = some (some (.ref 120)):=P.K ▸ (by kernel_rfl)
theorem kN {C:Cx} (P:PC C):∃ cls dct fd sl,C.K.lookup 120=some ⟨cls,dct,.func fd,sl⟩∧cls = .type "function":=⟨_,_,_,_,P.look rfl,rfl⟩
theorem l8 {C:Cx} (P:PC C):findIn C.K (.ref 150) "start_ns" = some (some (.ref 113)):=P.K ▸ (by kernel_rfl)
theorem mF {C:Cx} (P:PC C):∃ cls dct fd sl,C.K.lookup 113=some ⟨cls,dct,.func fd,sl⟩∧cls = .type "function":=⟨_,_,_,_,P.look rfl,rfl⟩
theorem Cp {C:Cx} (P:PC C):specialIn C.K (.ref 90) "__get__" = some (some (.builtin "function.__get__")):=P.K ▸ (by kernel_rfl)
theorem Ch {C:Cx} (P:PC C):takesIn C.K (.ref 90)=some false:=P.K ▸ (by kernel_rfl)
theorem zc {C:Cx} (P:PC C):fnIn C.K 90=true:=P.K ▸ (by kernel_rfl)
theorem gG {C:Cx} (P:PC C):cy C.K 150 "_data" = true:=P.K ▸ (by kernel_rfl)
theorem bW {C:Cx} (P:PC C):cy C.K 150 "_declared_ns_stack" = true:=P.K ▸ (by kernel_rfl)
theorem gZ {C:Cx} (P:PC C):cy C.K 150 "_exclude_attrs" = true:=P.K ▸ (by kernel_rfl)
theorem fM {C:Cx} (P:PC C):cy C.K 150 "_exclude_tags" = true:=P.K ▸ (by kernel_rfl)
theorem dP {C:Cx} (P:PC C):cy C.K 150 "_find_qname_aware_attrs" = true:=P.K ▸ (by kernel_rfl)
theorem bC {C:Cx} (P:PC C):cy C.K 150 "_ignored_depth" = true:=P.K ▸ (by kernel_rfl)
theorem eD {C:Cx} (P:PC C):cy C.K 150 "_iter_namespaces" = true:=P.K ▸ (by kernel_rfl)
theorem dB {C:Cx} (P:PC C):cy C.K 150 "_ns_stack" = true:=P.K ▸ (by kernel_rfl)
theorem gW {C:Cx} (P:PC C):cy C.K 150 "_pending_start" = true:=P.K ▸ (by kernel_rfl)
theorem dT {C:Cx} (P:PC C):cy C.K 150 "_prefix_map" = true:=P.K ▸ (by kernel_rfl)
theorem cw {C:Cx} (P:PC C):cy C.K 150 "_preserve_space" = true:=P.K ▸ (by kernel_rfl)
theorem dR {C:Cx} (P:PC C):cy C.K 150 "_qname_aware_tags" = true:=P.K ▸ (by kernel_rfl)
theorem fQ {C:Cx} (P:PC C):cy C.K 150 "_rewrite_prefixes" = true:=P.K ▸ (by kernel_rfl)
theorem il {C:Cx} (P:PC C):cy C.K 150 "_root_done" = true:=P.K ▸ (by kernel_rfl)
theorem eX {C:Cx} (P:PC C):cy C.K 150 "_root_seen" = true:=P.K ▸ (by kernel_rfl)
theorem jE {C:Cx} (P:PC C):cy C.K 150 "_strip_text" = true:=P.K ▸ (by kernel_rfl)
theorem ie {C:Cx} (P:PC C):cy C.K 150 "_with_comments" = true:=P.K ▸ (by kernel_rfl)
theorem hY {C:Cx} (P:PC C):cy C.K 150 "_write" = true:=P.K ▸ (by kernel_rfl)
theorem kZ {C:Cx} (P:PC C):qu C.K 150 "_write" = true:=P.K ▸ (by kernel_rfl)
theorem gm {C:Cx} (P:PC C):qu C.K 150 "_iter_namespaces" = true:=P.K ▸ (by kernel_rfl)
def t4:DS :=
 (aq (dq (CR nxV (FY (ak 0)) (List.replicate 2 none) [] (bB 0) (dW mkL (ak 0)) nxL (bB 1) (ak 1)))
 aH)
def jT:DC:=dFn [some 0] [] [] t4
theorem mB {C:Cx} (P:PC C):SC C (.ref 286) 1 jT :=
 cL P.toPC0 (tab:=["levels"]) (ctab:=[]) (pn:=["levels"]) (dvv:=[]) rfl rfl rfl rfl rfl rfl rfl rfl rfl ⟨⟩ (by decide) (by decide) (by decide) (j9 P.toPC0 fun _ _=>rfl) (fun _ _=>.nil) (by decide) (by decide)
 (ag (cj (B5 (tab:=["level", "pair"]) (ctab:=[]) (clay:=[]) (cY rfl) gF it_rev (BW rfl rfl (oh P) rfl nofun ⟨⟩ ⟨⟩) (bb rfl rfl rfl (nd rfl)) (eF dI nofun) fY (bb rfl rfl rfl (nd rfl)) nofun (fun _ _=>rfl) fun _ _=>rfl))
 ax)
theorem mT:(["text"]:List Str).Nodup:=by decide
def GF:DS :=
 (aq (aq (dIf (bp jQ (aV (lit [38])) (ak 0))
 (aq (b9 0 (bF eZ ji (ak 0) (ae (aV (lit [38])) (ae (aV (lit [38,97,109,112,59])) an))))
 aH)
 aH)
 (aq (dIf (bp jQ (aV (lit [60])) (ak 0))
 (aq (b9 0 (bF eZ ji (ak 0) (ae (aV (lit [60])) (ae (aV (lit [38,108,116,59])) an))))
 aH)
 aH)
 (aq (dIf (bp jQ (aV (lit [62])) (ak 0))
 (aq (b9 0 (bF eZ ji (ak 0) (ae (aV (lit [62])) (ae (aV (lit [38,103,116,59])) an))))
 aH)
 aH)
 (aq (dIf (bp jQ (aV (lit [13])) (ak 0))
 (aq (b9 0 (bF eZ ji (ak 0) (ae (aV (lit [13])) (ae (aV (lit [38,35,120,68,59])) an))))
 aH)
 aH)
 (aq (dq (ak 0))
 aH)))))
 aH)
def ud:DC:=dFn [some 0] [] [] GF
theorem wu {C:Cx} (P:PC C):SC C (.ref 161) 1 ud :=
 cL P.toPC0 (tab:=["text"]) (ctab:=[]) (pn:=["text"]) (dvv:=[]) rfl rfl rfl rfl rfl rfl rfl rfl rfl ⟨⟩ (by decide) (by decide) (by decide) (j9 P.toPC0 fun _ _=>rfl) (fun _ _=>.nil) (by decide) (by decide)
 (ag (FO (ag (b4 (aY (au (l:=lit [38]) rfl) nofun ff rfl)
 (ag (bE rfl rfl rfl mT (aI ⟨⟩ ⟨⟩ rfl F.plainAttrs_str F.slot_str_replace F.type_str_replace ⟨⟩ nofun (fun ok h r=>cq ok h r) (ac (au (l:=lit [38]) rfl) (ac (au (l:=lit [38,97,109,112,59]) rfl) ah ⟨⟩) ⟨⟩) (fw P.t1)) ⟨⟩)
 ax)
 ax)
 (ag (b4 (aY (au (l:=lit [60]) rfl) nofun ff rfl)
 (ag (bE rfl rfl rfl mT (aI ⟨⟩ ⟨⟩ rfl F.plainAttrs_str F.slot_str_replace F.type_str_replace ⟨⟩ nofun (fun ok h r=>cq ok h r) (ac (au (l:=lit [60]) rfl) (ac (au (l:=lit [38,108,116,59]) rfl) ah ⟨⟩) ⟨⟩) (fw P.t1)) ⟨⟩)
 ax)
 ax)
 (ag (b4 (aY (au (l:=lit [62]) rfl) nofun ff rfl)
 (ag (bE rfl rfl rfl mT (aI ⟨⟩ ⟨⟩ rfl F.plainAttrs_str F.slot_str_replace F.type_str_replace ⟨⟩ nofun (fun ok h r=>cq ok h r) (ac (au (l:=lit [62]) rfl) (ac (au (l:=lit [38,103,116,59]) rfl) ah ⟨⟩) ⟨⟩) (fw P.t1)) ⟨⟩)
 ax)
 ax)
 (ag (b4 (aY (au (l:=lit [13]) rfl) nofun ff rfl)
 (ag (bE rfl rfl rfl mT (aI ⟨⟩ ⟨⟩ rfl F.plainAttrs_str F.slot_str_replace F.type_str_replace ⟨⟩ nofun (fun ok h r=>cq ok h r) (ac (au (l:=lit [13]) rfl) (ac (au (l:=lit [38,35,120,68,59]) rfl) ah ⟨⟩) ⟨⟩) (fw P.t1)) ⟨⟩)
 ax)
 ax)
 (ag (cj nofun)
 ax))))))
 ax)
def Dy (s:SS):Option Nat:=@List.rec SA (fun _=>Option Nat) none (fun a r _=>@List.rec SA (fun _=>Option Nat) (@SA.rec (fun _=>Option Nat) (fun _=>none) (fun j=>some j) (fun _=>none) (fun _=>none) (fun _=>none) a) (fun _ _ _=>none) r) s
def y2 (v:AV):Option Nat:=@AV.rec (fun _=>Option Nat) none (fun b=>none) (fun i=>none) (fun s=>Dy s) (fun j=>none) (fun v=>none) (fun l _=>none) none (fun _ _ _ _=>none) (fun c j=>none) (fun _ _ _=>none) (fun _ _ _=>none) (fun a b c=>none) (fun a b c _ _ _=>none) (fun _=>none) (fun _ _=>none) (fun _ _ _=>none) none (fun _=>none) (fun _ _=>none) (fun _=>none) (fun _=>none) (fun s=>Dy s) v
theorem wL {s:SS} {j:Nat} (h:Dy s=some j):s=[.sgn j]:=by
 induction s using List.casesOn with
 | nil=>exact noS h
 | cons a r =>
  induction r using List.casesOn with
  | cons _ _=>exact noS h
  | nil=>induction a using SA.casesOn<;>first | (cases h; rfl) | exact noS h
theorem uB {v:AV} {j:Nat} (h:y2 v=some j):v = .str [.sgn j]∨v = .lit [.sgn j]:=by
 induction v using AV.casesOn<;>first | (rw [wL (show Dy _=some j from h)]; first | exact .inl rfl | exact .inr rfl) | exact noS h
def dS:DC:=fun args dp H k=>gY args fun a=>@Option.rec Nat (fun _=>Bool) (ud args dp H k) (fun j=>nr false (fun _=>k (.str [.spl j]) H) dp) (y2 a)
open Classical in
theorem jh {C:Cx} (P:PC C) {n:Nat} {R:SS} (h:∀ dp H (k:AV->HP->Bool),ud [.str [.c n]] (Nat.succ dp) H k=k (.str R) H) (hR:txt C.σ R=bJ n) {X:Sc} {dp:Nat} {f:Fm} {H:HP} {A:Around} {env:Env} {B:Bz} {ρ:List Addr} {Z:Fz} {s:Shared} {t:Tok} {k:AV->HP->Bool} {av:AV} (hav:∀ ρ Z t,VRel C.σ ρ Z av (.str ⟨(bJ n).toArray⟩ t)) (hk:k av H=true) (hA:AOk (Nat.succ dp) A) (ok:OK C X B f env ρ Z H s) :
  Wp C X B f env (RV C) ρ Z A (call (.ref 161) [.str ⟨#[n]⟩ t]) s k:=fun Q E hQ =>
 wu P X (Nat.succ dp) f H (fun v H'=>decide (v = .str R∧H'=H)) A env B ρ Z s [.str [.c n]] [.str ⟨#[n]⟩ t] (by rw [h]; exact decide_eq_true ⟨rfl,rfl⟩) hA ok (.cons (show VRel C.σ ρ Z (.str [.c n]) _ from .str [.c n] t) .nil) rfl Q E fun ρ' Z' H' s' b a e ok' r hd=>by
  refine Za1 (of_decide_eq_true hd) fun zq0 zq1=>?_
  subst zq0
  subst zq1
  refine Ze1 r.inv fun u zq1=>?_
  subst zq1
  have:aw C.σ R=⟨(bJ n).toArray⟩:=by unfold aw; rw [hR]
  rw [this]
  exact hQ _ _ _ _ _ _ e ok' (hav _ _ _) hk
theorem fA {C:Cx} (P:PC C):SC C (.ref 161) 1 dS:=by
 intro X dp f H k A env B ρ Z s args vals hc hA ok hv hlen
 refine ad (bD hc hlen) fun a zq1 h=>?_
 subst zq1
 induction e:y2 a using Option.casesOn with
 | none=>rw [e] at h; exact wu P X dp f H k A env B ρ Z s [a] vals h hA ok hv rfl
 | some j =>
  rw [e] at h
  refine ad hv.one fun va zq1 ra=>?_
  subst zq1
  induction dp using Nat.casesAuxOn with
  | zero=>exact ffE h
  | succ dp =>
   have zh3:∃ t,va = .str ⟨#[C.σ.sg j]⟩ t:=by
    rcases uB e with rfl | rfl
    ·exact aA (.inl rfl) ra
    ·exact aA (.inr rfl) ra
   nomatch Ze1 zh3,zh3
   intro t zq1
   subst zq1
   have hav:∀ n,C.σ.sg j=n->∀ ρ Z t,VRel C.σ ρ Z (.str [.spl j]) (.str ⟨(bJ n).toArray⟩ t):=fun n hn ρ Z t=>by
    have:aw C.σ [.spl j]=⟨(bJ n).toArray⟩:=by unfold aw txt; simp [SA.val,hn]
    rw [← this]
    exact .str ..
   have hw:=C.wf.sg j
   simp only [List.mem_cons,List.not_mem_nil,or_false] at hw
   have hk:k (.str [.spl j]) H=true:=h
   rcases hw with q | q | q | q | q | q | q | q<;>rw [q]
   ·exact jh P (R:=lit [38,97,109,112,59]) (fun _ _ _=>rfl) rfl (hav _ q) hk hA ok
   ·exact jh P (R:=lit [38,108,116,59]) (fun _ _ _=>rfl) rfl (hav _ q) hk hA ok
   ·exact jh P (R:=lit [38,103,116,59]) (fun _ _ _=>rfl) rfl (hav _ q) hk hA ok
   ·exact jh P (R:=lit [38,35,120,68,59]) (fun _ _ _=>rfl) rfl (hav _ q) hk hA ok
   ·exact jh P (R:=[.c 120]) (fun _ _ _=>rfl) rfl (hav _ q) hk hA ok
   ·exact jh P (R:=[.c 10]) (fun _ _ _=>rfl) rfl (hav _ q) hk hA ok
   ·exact jh P (R:=[.c 34]) (fun _ _ _=>rfl) rfl (hav _ q) hk hA ok
   ·exact jh P (R:=[.c 9]) (fun _ _ _=>rfl) rfl (hav _ q) hk hA ok
theorem bN:(["text"]:List Str).Nodup:=by decide
def i6:DS :=
 (aq (aq (dIf (bp jQ (aV (lit [38])) (ak 0))
 (aq (b9 0 (bF eZ ji (ak 0) (ae (aV (lit [38])) (ae (aV (lit [38,97,109,112,59])) an))))
 aH)
 aH)
 (aq (dIf (bp jQ (aV (lit [60])) (ak 0))
 (aq (b9 0 (bF eZ ji (ak 0) (ae (aV (lit [60])) (ae (aV (lit [38,108,116,59])) an))))
 aH)
 aH)
 (aq (dIf (bp jQ (aV (lit [34])) (ak 0))
 (aq (b9 0 (bF eZ ji (ak 0) (ae (aV (lit [34])) (ae (aV (lit [38,113,117,111,116,59])) an))))
 aH)
 aH)
 (aq (dIf (bp jQ (aV (lit [9])) (ak 0))
 (aq (b9 0 (bF eZ ji (ak 0) (ae (aV (lit [9])) (ae (aV (lit [38,35,120,57,59])) an))))
 aH)
 aH)
 (aq (dIf (bp jQ (aV (lit [10])) (ak 0))
 (aq (b9 0 (bF eZ ji (ak 0) (ae (aV (lit [10])) (ae (aV (lit [38,35,120,65,59])) an))))
 aH)
 aH)
 (aq (dIf (bp jQ (aV (lit [13])) (ak 0))
 (aq (b9 0 (bF eZ ji (ak 0) (ae (aV (lit [13])) (ae (aV (lit [38,35,120,68,59])) an))))
 aH)
 aH)
 (aq (dq (ak 0))
 aH)))))))
 aH)
def fE:DC:=dFn [some 0] [] [] i6
theorem iL {C:Cx} (P:PC C):SC C (.ref 168) 1 fE :=
 cL P.toPC0 (tab:=["text"]) (ctab:=[]) (pn:=["text"]) (dvv:=[]) rfl rfl rfl rfl rfl rfl rfl rfl rfl ⟨⟩ (by decide) (by decide) (by decide) (j9 P.toPC0 fun _ _=>rfl) (fun _ _=>.nil) (by decide) (by decide)
 (ag (FO (ag (b4 (aY (au (l:=lit [38]) rfl) nofun ff rfl)
 (ag (bE rfl rfl rfl bN (aI ⟨⟩ ⟨⟩ rfl F.plainAttrs_str F.slot_str_replace F.type_str_replace ⟨⟩ nofun (fun ok h r=>cq ok h r) (ac (au (l:=lit [38]) rfl) (ac (au (l:=lit [38,97,109,112,59]) rfl) ah ⟨⟩) ⟨⟩) (fw P.t1)) ⟨⟩)
 ax)
 ax)
 (ag (b4 (aY (au (l:=lit [60]) rfl) nofun ff rfl)
 (ag (bE rfl rfl rfl bN (aI ⟨⟩ ⟨⟩ rfl F.plainAttrs_str F.slot_str_replace F.type_str_replace ⟨⟩ nofun (fun ok h r=>cq ok h r) (ac (au (l:=lit [60]) rfl) (ac (au (l:=lit [38,108,116,59]) rfl) ah ⟨⟩) ⟨⟩) (fw P.t1)) ⟨⟩)
 ax)
 ax)
 (ag (b4 (aY (au (l:=lit [34]) rfl) nofun ff rfl)
 (ag (bE rfl rfl rfl bN (aI ⟨⟩ ⟨⟩ rfl F.plainAttrs_str F.slot_str_replace F.type_str_replace ⟨⟩ nofun (fun ok h r=>cq ok h r) (ac (au (l:=lit [34]) rfl) (ac (au (l:=lit [38,113,117,111,116,59]) rfl) ah ⟨⟩) ⟨⟩) (fw P.t1)) ⟨⟩)
 ax)
 ax)
 (ag (b4 (aY (au (l:=lit [9]) rfl) nofun ff rfl)
 (ag (bE rfl rfl rfl bN (aI ⟨⟩ ⟨⟩ rfl F.plainAttrs_str F.slot_str_replace F.type_str_replace ⟨⟩ nofun (fun ok h r=>cq ok h r) (ac (au (l:=lit [9]) rfl) (ac (au (l:=lit [38,35,120,57,59]) rfl) ah ⟨⟩) ⟨⟩) (fw P.t1)) ⟨⟩)
 ax)
 ax)
 (ag (b4 (aY (au (l:=lit [10]) rfl) nofun ff rfl)
 (ag (bE rfl rfl rfl bN (aI ⟨⟩ ⟨⟩ rfl F.plainAttrs_str F.slot_str_replace F.type_str_replace ⟨⟩ nofun (fun ok h r=>cq ok h r) (ac (au (l:=lit [10]) rfl) (ac (au (l:=lit [38,35,120,65,59]) rfl) ah ⟨⟩) ⟨⟩) (fw P.t1)) ⟨⟩)
 ax)
 ax)
 (ag (b4 (aY (au (l:=lit [13]) rfl) nofun ff rfl)
 (ag (bE rfl rfl rfl bN (aI ⟨⟩ ⟨⟩ rfl F.plainAttrs_str F.slot_str_replace F.type_str_replace ⟨⟩ nofun (fun ok h r=>cq ok h r) (ac (au (l:=lit [13]) rfl) (ac (au (l:=lit [38,35,120,68,59]) rfl) ah ⟨⟩) ⟨⟩) (fw P.t1)) ⟨⟩)
 ax)
 ax)
 (ag (cj nofun)
 ax))))))))
 ax)
theorem I6 {C:Cx} (P:PC C) {X:Sc} {body:Ex} {pos:Pos} (h1:X.cd = .ref 125) (h2:X.qual++"<lambda>" = "C14NWriterTarget._start.<locals>.<lambda>") (h3:qy.1.body = .expr body) (h4:qy.1.line=pos.line) (h5:qy.1.col=pos.col):LamOK C X 2 2 125 123 qy.1 body pos :=
 ⟨h1,P.hd2,P.tabs ▸ rfl,P.fn2,h4,h5,by decide,h2.symm,h3,rfl,fun x hx=>of_decide_eq_true (List.all_eq_true.mp (show qy.1.scope.names.all (fun x=>decide (x.2 ≠ NameKind.free))=true from rfl) x hx)⟩
def IN:D:=(bF eZ wB (ak 0) (ae (aV (lit [125])) (ae (bx 1) an)))
def FD:DCv:=Fi 2 [some 0] IN
theorem GU {C:Cx} (P:PC C):SV C 1 FD :=
 Dw (tab:=["n"]) (pn:=["n"]) ⟨P.fn2,rfl,rfl,rfl,rfl,(fun x hx=>of_decide_eq_true (List.all_eq_true.mp (show qy.1.scope.names.all (fun x=>decide (x.2 ≠ NameKind.cell))=true from rfl) x hx)),(fun nm cl doc pm cv ct vals hv K S=>by match vals,hv with | [a],_=>rfl),by decide,(fun x hx=>of_decide_eq_true (List.all_eq_true.mp (show (["n"]:List Str).all (fun x=>decide (qy.1.scope.names.lookup x=some NameKind.local))=true from rfl) x hx)),fun k i x h1 h2=>by
  match k,h1,h2 with
  | 0,h1,h2=>injections h1; injections h2; rfl⟩ fun _=>(aI ⟨⟩ ⟨⟩ rfl F.plainAttrs_str F.slot_str_split F.type_str_split ⟨⟩ nofun (fun ok h r=>cq ok h r) (ac (au (l:=lit [125]) rfl) (ac aF ah ⟨⟩) ⟨⟩) xu)
theorem cR:(["self", "qname", "uri", "tag", "prefixes_seen", "u", "prefix"]:List Str).Nodup:=by decide
def CE:DS :=
 (aq (dIf (bp Ds (ak 2) bR)
 (aq (kJ (kK (bp pEq (aJ dU (ak 1) (fO bR (bx 1) bR)) (aV (lit [123]))) (bF eZ wy (aJ dU (ak 1) (fO (bx 1) bR bR)) (ae (aV (lit [125])) (ae (bx 1) an))) (fK (ae (aV (lit [])) (ae (ak 1) an)))) (iY [(bB 2),(bB 3)]))
 aH)
 (aq (b9 3 (ak 1))
 aH))
 (aq (b9 4 (a9 FQ an))
 (aq (rU nxL (dW mkL (jZ (bs 150 17) (CH 286 jT) (ak 0) (ae (dUn (bs 150 9) (ak 0)) an))) (iY [(bB 5),(bB 6)])
 (aq (dIf (eR (bp pEq (ak 5) (ak 2)) (eR (bp vA (ak 6) (ak 4)) fx))
 (aq (dq (fK (ae (kK (b8 (ak 6)) (gJ (cH (mL (ak 6)) (cH (aV (lit [58])) (cH (mL (ak 3)) mI)))) (ak 3)) (ae (ak 3) (ae (ak 2) an)))))
 aH)
 aH)
 (aq (bV (bF EX Ir (ak 4) (ae (ak 6) an)))
 aH)))
 (aq (dIf (b8 (dUn (bs 150 6) (ak 0)))
 (aq (dIf (bp jQ (ak 2) (dUn (bs 150 11) (ak 0)))
 (aq (b9 6 (aJ dU (dUn (bs 150 11) (ak 0)) (ak 2)))
 aH)
 (aq (Cy 6 B0 (gJ (cH (aV (lit [110])) (cH (mL (a9 sY (ae (dUn (bs 150 11) (ak 0)) an))) mI))) (dUn (bs 150 11) (ak 0)) (ak 2))
 aH))
 (aq (bV (bF cc b7 (aJ dU (dUn (bs 150 9) (ak 0)) dn) (ae (fK (ae (ak 2) (ae (ak 6) an))) an)))
 (aq (dq (fK (ae (gJ (cH (mL (ak 6)) (cH (aV (lit [58])) (cH (mL (ak 3)) mI)))) (ae (ak 3) (ae (ak 2) an)))))
 aH)))
 aH)
 (aq (dIf (eR (oz (b8 (ak 2))) (eR (bp vA (aV (lit [])) (ak 4)) fx))
 (aq (dq (fK (ae (ak 3) (ae (ak 3) (ae (ak 2) an)))))
 aH)
 aH)
 (aq (rU nxL (dW mkL (jZ (bs 150 17) (CH 286 jT) (ak 0) (ae (dUn (bs 150 10) (ak 0)) an))) (iY [(bB 5),(bB 6)])
 (aq (dIf (bp pEq (ak 5) (ak 2))
 (aq (bV (bF cc b7 (aJ dU (dUn (bs 150 9) (ak 0)) dn) (ae (fK (ae (ak 2) (ae (ak 6) an))) an)))
 (aq (dq (fK (ae (kK (b8 (ak 6)) (gJ (cH (mL (ak 6)) (cH (aV (lit [58])) (cH (mL (ak 3)) mI)))) (ak 3)) (ae (ak 3) (ae (ak 2) an)))))
 aH))
 aH)
 aH))
 (aq cx
 (aq cx
 aH))))))))
def kI:DC:=dFn [some 0,some 1,some 2,none,none,none,none] [] [.none] CE
theorem qi {C:Cx} (P:PC C):SCc C (.ref 90) 2 (fun vs=>⟨vs,[]⟩) kI :=
 gD P (tab:=["self", "qname", "uri", "tag", "prefixes_seen", "u", "prefix"]) (ctab:=[]) (pn:=["self", "qname", "uri"]) (dvv:=[.none]) rfl rfl rfl rfl rfl rfl rfl rfl rfl ⟨⟩ (by decide) (by decide) (by decide) (gh P.toPC0 fun _ _ _=>rfl) (fun _ _=>.cons .none .nil) (by decide) (by decide)
 (ag (b4 (aY nofun ch t3 rfl)
 (ag (iZ (fe (aY (aX nofun (dA cu (dH aF) cu) eG fun _ _=>⟨_,rfl⟩) (au (l:=lit [123]) rfl) gC rfl) (aI ⟨⟩ ⟨⟩ rfl F.plainAttrs_str F.slot_str_rsplit F.type_str_rsplit ⟨⟩ (aX nofun (dA (dH aF) cu cu) eG fun _ _=>⟨_,rfl⟩) (fun ok h r=>cq ok h r) (ac (au (l:=lit [125]) rfl) (ac aF ah ⟨⟩) ⟨⟩) wJ) (cz (ac (au (l:=lit []) rfl) (ac nofun ah ⟨⟩) ⟨⟩) rfl)) (f5 (ts:=[assign (.Name "uri" ⟨55,12,55,15⟩),assign (.Name "tag" ⟨55,17,55,20⟩)]) ⟨(bb rfl rfl rfl cR),(bb rfl rfl rfl cR),trivial⟩ ⟨⟩ rfl) ⟨⟩ (fun _ _=>rfl))
 ax)
 (ag (bE rfl rfl rfl cR nofun ⟨⟩)
 ax))
 (ag (bE rfl rfl rfl cR (bT rfl rfl (Cs P) rfl ah ⟨⟩ C4) ⟨⟩)
 (ag (oT fY (eF dI (gT (bf P) ⟨⟩ ⟨⟩ rfl ⟨⟩ rfl (by decide) (eD P) (gm P) nofun (ac (aW nofun (aR (bf P) rfl (by decide) (bW P)) ⟨⟩) ah ⟨⟩) (Bl (P.fn rfl) (mB P)))) (f5 (ts:=[assign (.Name "u" ⟨59,12,59,13⟩),assign (.Name "prefix" ⟨59,15,59,21⟩)]) ⟨(bb rfl rfl rfl cR),(bb rfl rfl rfl cR),trivial⟩ ⟨⟩ rfl)
 (ag (b4 (cV (cI (aY nofun nofun gC rfl) (cI (aY nofun nofun th rfl) cQ)))
 (ag (cj (cz (ac (fe (bG nofun fun _ _=>rfl) (fg (b5 (gn nofun) (b5 (au (l:=lit [58]) rfl) (b5 (gn nofun) j4 ⟨⟩) ⟨⟩) ⟨⟩)) nofun) (ac nofun (ac nofun ah ⟨⟩) ⟨⟩) ⟨⟩) rfl))
 ax)
 ax)
 (ag (bw rfl (aI ⟨⟩ ⟨⟩ rfl F.plainAttrs_set F.slot_set_add F.type_set_add ⟨⟩ nofun (fun ok h r=>Cq ok h r) (ac nofun ah ⟨⟩) GS) ⟨⟩)
 ax)) fun _ _=>rfl)
 (ag (b4 (bG (aW nofun (aR (bf P) rfl (by decide) (fQ P)) ⟨⟩) fun _ _=>rfl)
 (ag (b4 (aY nofun (aW nofun (aR (bf P) rfl (by decide) (dT P)) ⟨⟩) ff rfl)
 (ag (bE rfl rfl rfl cR (aX (aW nofun (aR (bf P) rfl (by decide) (dT P)) ⟨⟩) nofun eG fun _ _=>⟨_,rfl⟩) ⟨⟩)
 ax)
 (ag (EP rfl rfl rfl cR (fg (b5 (au (l:=lit [110]) rfl) (b5 (gn (ck rfl rfl (gS P) rfl (ac (aW nofun (aR (bf P) rfl (by decide) (dT P)) ⟨⟩) ah ⟨⟩) ⟨⟩ mW)) j4 ⟨⟩) ⟨⟩)) (aW nofun (aR (bf P) rfl (by decide) (dT P)) ⟨⟩) nofun HU ⟨⟩ ⟨⟩)
 ax))
 (ag (bw rfl (aI ⟨⟩ ⟨⟩ rfl F.plainAttrs_list F.slot_list_append F.type_list_append ⟨⟩ (aX (aW nofun (aR (bf P) rfl (by decide) (bW P)) ⟨⟩) cD eG fun _ _=>⟨_,rfl⟩) (fun ok h r=>bh ok h r) (ac (cz (ac nofun (ac nofun ah ⟨⟩) ⟨⟩) rfl) ah ⟨⟩) bL) ⟨⟩)
 (ag (cj (cz (ac (fg (b5 (gn nofun) (b5 (au (l:=lit [58]) rfl) (b5 (gn nofun) j4 ⟨⟩) ⟨⟩) ⟨⟩)) (ac nofun (ac nofun ah ⟨⟩) ⟨⟩) ⟨⟩) rfl))
 ax)))
 ax)
 (ag (b4 (cV (cI (lD (bG nofun fun _ _=>rfl)) (cI (aY (au (l:=lit []) rfl) nofun th rfl) cQ)))
 (ag (cj (cz (ac nofun (ac nofun (ac nofun ah ⟨⟩) ⟨⟩) ⟨⟩) rfl))
 ax)
 ax)
 (ag (oT fY (eF dI (gT (bf P) ⟨⟩ ⟨⟩ rfl ⟨⟩ rfl (by decide) (eD P) (gm P) nofun (ac (aW nofun (aR (bf P) rfl (by decide) (dB P)) ⟨⟩) ah ⟨⟩) (Bl (P.fn rfl) (mB P)))) (f5 (ts:=[assign (.Name "u" ⟨72,12,72,13⟩),assign (.Name "prefix" ⟨72,15,72,21⟩)]) ⟨(bb rfl rfl rfl cR),(bb rfl rfl rfl cR),trivial⟩ ⟨⟩ rfl)
 (ag (b4 (aY nofun nofun gC rfl)
 (ag (bw rfl (aI ⟨⟩ ⟨⟩ rfl F.plainAttrs_list F.slot_list_append F.type_list_append ⟨⟩ (aX (aW nofun (aR (bf P) rfl (by decide) (bW P)) ⟨⟩) cD eG fun _ _=>⟨_,rfl⟩) (fun ok h r=>bh ok h r) (ac (cz (ac nofun (ac nofun ah ⟨⟩) ⟨⟩) rfl) ah ⟨⟩) bL) ⟨⟩)
 (ag (cj (cz (ac (fe (bG nofun fun _ _=>rfl) (fg (b5 (gn nofun) (b5 (au (l:=lit [58]) rfl) (b5 (gn nofun) j4 ⟨⟩) ⟨⟩) ⟨⟩)) nofun) (ac nofun (ac nofun ah ⟨⟩) ⟨⟩) ⟨⟩) rfl))
 ax))
 ax)
 ax) fun _ _=>rfl)
 (ag eW
 (ag eW
 ax))))))))
theorem x9 {C:Cx} (P:PC C):SC C (.ref 90) 2 kI:=(qi P).sc
def Dt:DS :=
 (aq (dIf (oz (b8 (dUn (bs 150 16) (ak 0))))
 (aq (bV (bF cc b7 (dUn (bs 150 1) (ak 0)) (ae (ak 1) an)))
 aH)
 aH)
 aH)
def mZ:DC:=dFn [some 0,some 1] [] [] Dt
theorem CZ {C:Cx} (P:PC C):SCc C (.ref 97) 2 (fun vs=>⟨vs,[]⟩) mZ :=
 gD P (tab:=["self", "data"]) (ctab:=[]) (pn:=["self", "data"]) (dvv:=[]) rfl rfl rfl rfl rfl rfl rfl rfl rfl ⟨⟩ (by decide) (by decide) (by decide) (gh P.toPC0 fun _ _ _=>rfl) (fun _ _=>.nil) (by decide) (by decide)
 (ag (b4 (lD (bG (aW nofun (aR (bf P) rfl (by decide) (bC P)) ⟨⟩) fun _ _=>rfl))
 (ag (bw rfl (aI ⟨⟩ ⟨⟩ rfl F.plainAttrs_list F.slot_list_append F.type_list_append ⟨⟩ (aW nofun (aR (bf P) rfl (by decide) (gG P)) ⟨⟩) (fun ok h r=>bh ok h r) (ac nofun ah ⟨⟩) bL) ⟨⟩)
 ax)
 ax)
 ax)
theorem sA {C:Cx} (P:PC C):SC C (.ref 97) 2 mZ:=(CZ P).sc
theorem cZ:(["tag", "attrs", "new_namespaces", "qname_text", "k", "v", "qnames", "resolved_names", "qname", "qattrs", "attr_name", "value", "parsed_qnames", "uri", "attr_list", "attr_qname", "space_behaviour", "write"]:List Str).Nodup:=by decide
def xz:DS :=
 (aq (dIf (eR (bp gp (dUn (bs 150 4) (bK 0)) bR) (eR (b8 (ak 1)) fx))
 cx
 aH)
 (aq (b9 6 (sO (ak 0) (ak 1)))
 (aq (b9 7 jH)
 (aq (dIf (bp gp (ak 3) bR)
 cx
 aH)
 (aq (dIf (eR (bp gp (dUn (bs 150 8) (bK 0)) bR) (eR (b8 (ak 1)) fx))
 cx
 (aq (b9 9 bR)
 aH))
 (aq (gK 1 (dUn (BO 150 90) (bK 0)))
 (aq (b9 12 (Bv nxL (dW mkL (AZ (ak 6) (IG 2 2) FD)) (List.replicate 1 none) [1] (bB 0) (ak 0) (fun dp f H k=>(bK 0) dp f H fun fv H=>(ae (ak 0) an) dp f H fun vs H=>(AT 90 kI) fv vs dp H k)))
 (aq (dIf (b8 (ak 2))
 (aq (b9 14 (hW nxL (dW mkL (ak 2)) (List.replicate 2 none) [] (iY [(bB 0),(bB 1)]) dTt (fK (ae (kK (b8 (ak 1)) (aJ bY (aV (lit [120,109,108,110,115,58])) (ak 1)) (aV (lit [120,109,108,110,115]))) (ae (ak 0) an)))))
 (aq (bV (bF cc Bt (ak 14) an))
 aH))
 (aq (b9 14 (cg an))
 aH))
 (aq (dIf (b8 (ak 1))
 cx
 aH)
 (aq (b9 16 (bF uD FM (ak 1) (ae (aV (lit [123,104,116,116,112,58,47,47,119,119,119,46,119,51,46,111,114,103,47,88,77,76,47,49,57,57,56,47,110,97,109,101,115,112,97,99,101,125,115,112,97,99,101])) an)))
 (aq (bV (bF cc b7 (dUn (bs 150 12) (bK 0)) (ae (kK (b8 (ak 16)) (aJ pEq (ak 16) (aV (lit [112,114,101,115,101,114,118,101]))) (aJ dU (dUn (bs 150 12) (bK 0)) dn)) an)))
 (aq (b9 17 (dUn (bs 150 0) (bK 0)))
 (aq (bV (fun dp f H k=>(ak 17) dp f H fun fv H=>(ae (aJ bY (aV (lit [60])) (aJ dU (aJ dU (ak 12) (ak 0)) (bx 0))) an) dp f H fun vs H=>fG fv vs dp H k))
 (aq (dIf (b8 (ak 14))
 (aq (bV (fun dp f H k=>(ak 17) dp f H fun fv H=>(ae (bF eZ o8 (aV (lit [])) (ae (hW nxL (dW mkL (ak 14)) (List.replicate 2 none) [] (iY [(bB 0),(bB 1)]) dTt (gJ (cH (aV (lit [32])) (cH (mL (ak 0)) (cH (aV (lit [61,34])) (cH (mL (a9 fE (ae (ak 1) an))) (cH (aV (lit [34])) mI))))))) an)) an) dp f H fun vs H=>fG fv vs dp H k))
 aH)
 aH)
 (aq (bV (fun dp f H k=>(ak 17) dp f H fun fv H=>(ae (aV (lit [62])) an) dp f H fun vs H=>fG fv vs dp H k))
 (aq (dIf (bp gp (ak 3) bR)
 cx
 aH)
 (aq (bQ (dy 150 14) (iH true) (bK 0))
 (aq (bV (bF cc b7 (dUn (bs 150 10) (bK 0)) (ae (cg an) an)))
 aH))))))))))))))))))
def lp:DC:=dFn [some 1,some 2,some 3,some 4,none,none,none,none,none,none,none,none,none,none,none,none,none,none] [some 0,none] [.none] xz
theorem uV {C:Cx} (P:PC C):SCc C (.ref 126) 4 (fun vs=>⟨vs,[]⟩) lp:=by refine_lift' ((gD P (tab:=["tag", "attrs", "new_namespaces", "qname_text", "k", "v", "qnames", "resolved_names", "qname", "qattrs", "attr_name", "value", "parsed_qnames", "uri", "attr_list", "attr_qname", "space_behaviour", "write"]) (ctab:=["self", "parse_qname"]) (pn:=["self", "tag", "attrs", "new_namespaces", "qname_text"]) (dvv:=[.none])) rfl rfl rfl rfl rfl rfl rfl rfl rfl ⟨⟩ (by decide) (by decide) (by decide) (EU P.toPC0 fun _ _ _ _ _=>rfl) (fun _ _=>.cons .none .nil) (by decide) (by decide) (ag (b4 (cV (cI (aY (aW (aM rfl rfl (.inl rfl) rfl rfl) (aR (bf P) rfl (by decide) (gZ P)) ⟨⟩) ch dV rfl) (cI (bG nofun fun _ _=>rfl) cQ))) fL ax) (ag (bE rfl rfl rfl cZ (t9 (BJ P) nofun nofun ⟨⟩) ⟨⟩) (ag (bE rfl rfl rfl cZ (gU ⟨⟩) ⟨⟩) (ag (b4 (aY nofun ch dV rfl) fL ax) (ag (b4 (cV (cI (aY (aW (aM rfl rfl (.inl rfl) rfl rfl) (aR (bf P) rfl (by decide) (dP P)) ⟨⟩) ch dV rfl) (cI (bG nofun fun _ _=>rfl) cQ))) fL (ag (bE rfl rfl rfl cZ ch ⟨⟩) ax)) (ag (gr rfl rfl (.inl rfl) rfl (aW (aM rfl rfl (.inl rfl) rfl rfl) (Co (bf P) (tj P) (CT P) (Cp P) (Ch P) rfl (by decide)) ⟨⟩) fun _ _=>rfl) (ag ((ul (tab:=["n"]) (ctab:=["parse_qname"]) (clay:=[1])) (cY rfl) gF rfl rfl rfl cZ fY (eF dI (BN rfl rfl (AX P) rfl nofun (GH (I6 P rfl rfl rfl rfl rfl) rfl rfl ⟨⟩) ⟨⟩ (GU P))) (bb rfl rfl rfl (nd rfl)) nofun (jg (aM rfl rfl (.inl rfl) rfl rfl) (ac nofun ah ⟨⟩) ⟨⟩ (ED (zc P) (qi P))) (fun _ _=>rfl) (uA rfl rfl rfl rfl)) (ag (b4 (bG nofun fun _ _=>rfl) (ag ((ll (tab:=["uri", "prefix"]) (ctab:=[]) (clay:=[])) (cY rfl) gF rfl rfl rfl cZ fY (eF dI nofun) ((f5 (ts:=[assign (.Name "uri" ⟨141,77,141,80⟩),assign (.Name "prefix" ⟨141,82,141,88⟩)])) ⟨(bb rfl rfl rfl (nd rfl)),(bb rfl rfl rfl (nd rfl)),trivial⟩ ⟨⟩ rfl) fZ (cz (ac (fe (bG nofun (fun _ _=>rfl)) (aD ((au (l:=lit [120,109,108,110,115,58])) rfl) nofun be) ((au (l:=lit [120,109,108,110,115])) rfl)) (ac nofun ah ⟨⟩) ⟨⟩) rfl) (fun _ _=>rfl) (i5 rfl rfl rfl rfl)) (ag (bw rfl (aI ⟨⟩ ⟨⟩ rfl F.plainAttrs_list F.slot_list_sort F.type_list_sort ⟨⟩ nofun (fun ok h r=>bh ok h r) ah Cg) ⟨⟩) ax)) (ag (bE rfl rfl rfl cZ (bn ah) ⟨⟩) ax)) (ag (b4 (bG nofun fun _ _=>rfl) fL ax) (ag (bE rfl rfl rfl cZ (aI ⟨⟩ ⟨⟩ rfl F.plainAttrs_dict F.slot_dict_get F.type_dict_get ⟨⟩ nofun (fun ok h r=>pQ ok h r) (ac ((au (l:=lit [123,104,116,116,112,58,47,47,119,119,119,46,119,51,46,111,114,103,47,88,77,76,47,49,57,57,56,47,110,97,109,101,115,112,97,99,101,125,115,112,97,99,101])) rfl) ah ⟨⟩) DH) ⟨⟩) (ag (bw rfl (aI ⟨⟩ ⟨⟩ rfl F.plainAttrs_list F.slot_list_append F.type_list_append ⟨⟩ (aW (aM rfl rfl (.inl rfl) rfl rfl) (aR (bf P) rfl (by decide) (cw P)) ⟨⟩) (fun ok h r=>bh ok h r) (ac (fe (bG nofun fun _ _=>rfl) (q8 nofun ((au (l:=lit [112,114,101,115,101,114,118,101])) rfl) gC rfl) (aX (aW (aM rfl rfl (.inl rfl) rfl rfl) (aR (bf P) rfl (by decide) (cw P)) ⟨⟩) cD eG fun _ _=>⟨_,rfl⟩)) ah ⟨⟩) bL) ⟨⟩) (ag (bE rfl rfl rfl cZ (aW (aM rfl rfl (.inl rfl) rfl rfl) (aR (bf P) rfl (by decide) (hY P)) ⟨⟩) ⟨⟩) (ag (bw rfl (jg nofun (ac (aD ((au (l:=lit [60])) rfl) (aX (aX nofun nofun eG fun _ _=>⟨_,rfl⟩) aF eG fun _ _=>⟨_,rfl⟩) be) ah ⟨⟩) ⟨⟩ fq) ⟨⟩) (ag (b4 (bG nofun fun _ _=>rfl) (ag (bw rfl (jg nofun (ac (aI ⟨⟩ ⟨⟩ rfl F.plainAttrs_str F.slot_str_join F.type_str_join ⟨⟩ ((au (l:=lit [])) rfl) (fun ok h r=>cq ok h r) (ac ((gH (tab:=["k", "v"]) (ctab:=[]) (clay:=[])) (cY rfl) gF fY (eF dI nofun) ((f5 (ts:=[assign (.Name "k" ⟨156,66,156,67⟩),assign (.Name "v" ⟨156,69,156,70⟩)])) ⟨(bb rfl rfl rfl (nd rfl)),(bb rfl rfl rfl (nd rfl)),trivial⟩ ⟨⟩ rfl) fZ (fg (b5 ((au (l:=lit [32])) rfl) (b5 (gn nofun) (b5 ((au (l:=lit [61,34])) rfl) (b5 (gn (bc rfl rfl (iR P) rfl (P.fn rfl) (ac nofun ah ⟨⟩) ⟨⟩ (iL P))) (b5 ((au (l:=lit [34])) rfl) j4 ⟨⟩) ⟨⟩) ⟨⟩) ⟨⟩) ⟨⟩)) fun _ _=>rfl) ah ⟨⟩) nB) ah ⟨⟩) ⟨⟩ fq) ⟨⟩) ax) ax) (ag (bw rfl (jg nofun (ac ((au (l:=lit [62])) rfl) ah ⟨⟩) ⟨⟩ fq) ⟨⟩) (ag (b4 (aY nofun ch dV rfl) fL ax) (ag (bH eO (aM rfl rfl (.inl rfl) rfl rfl) (b6 (bf P) rfl (by decide) (eX P)) ⟨⟩) (ag (bw rfl (aI ⟨⟩ ⟨⟩ rfl F.plainAttrs_list F.slot_list_append F.type_list_append ⟨⟩ (aW (aM rfl rfl (.inl rfl) rfl rfl) (aR (bf P) rfl (by decide) (dB P)) ⟨⟩) (fun ok h r=>bh ok h r) (ac (bn ah) ah ⟨⟩) bL) ⟨⟩) ax)))))))))))))))))))
theorem t7 {C:Cx} (P:PC C):SC C (.ref 126) 4 lp:=(uV P).sc
theorem uW:(["self", "_join_text", "data", "args", "qname_text"]:List Str).Nodup:=by decide
def Bd:DS :=
 (aq (b9 2 (fun dp f H k=>(ak 1) dp f H fun fv H=>(ae (dUn (bs 150 1) (ak 0)) an) dp f H fun vs H=>(wp 98) fv vs dp H k))
 (aq (F7 Fn (dUn (bs 150 1) (ak 0)) (fO bR bR bR))
 (aq (dIf (eR (b8 (dUn (bs 150 3) (ak 0))) (eR (oz (b8 (aJ dU (dUn (bs 150 12) (ak 0)) dn))) fx))
 cx
 aH)
 (aq (dIf (bp gp (dUn (bs 150 13) (ak 0)) bR)
 cx
 aH)
 (aq (dIf (eR (b8 (ak 2)) (eR (b8 (dUn (bs 150 14) (ak 0))) fx))
 (aq (bV (jZ (bs 150 0) fG (ak 0) (ae (a9 dS (ae (ak 2) an)) an)))
 aH)
 aH)
 aH)))))
def gR:DC:=dFn [some 0,some 1,none,none,none] [] [(.con (.ref 98))] Bd
theorem xA {C:Cx} (P:PC C):SCc C (.ref 106) 1 (fun vs=>⟨vs,[]⟩) gR :=
 gD P (tab:=["self", "_join_text", "data", "args", "qname_text"]) (ctab:=[]) (pn:=["self", "_join_text"]) (dvv:=[(.ref 98)]) rfl rfl rfl rfl rfl rfl rfl rfl rfl ⟨⟩ (by decide) (by decide) (by decide) (j9 P.toPC0 fun _ _=>rfl) (fun _ _=>.cons (.con _) .nil) (by decide) (by decide)
 (ag (bE rfl rfl rfl uW (jg nofun (ac (aW nofun (aR (bf P) rfl (by decide) (gG P)) ⟨⟩) ah ⟨⟩) ⟨⟩ (AI (P.look rfl))) ⟨⟩)
 (ag (Fk (aW nofun (aR (bf P) rfl (by decide) (gG P)) ⟨⟩) (dA cu cu cu) IP)
 (ag (b4 (cV (cI (bG (aW nofun (aR (bf P) rfl (by decide) (jE P)) ⟨⟩) fun _ _=>rfl) (cI (lD (bG (aX (aW nofun (aR (bf P) rfl (by decide) (cw P)) ⟨⟩) cD eG fun _ _=>⟨_,rfl⟩) fun _ _=>rfl)) cQ)))
 fL
 ax)
 (ag (b4 (aY (aW nofun (aR (bf P) rfl (by decide) (gW P)) ⟨⟩) ch dV rfl)
 fL
 ax)
 (ag (b4 (cV (cI (bG nofun fun _ _=>rfl) (cI (bG (aW nofun (aR (bf P) rfl (by decide) (eX P)) ⟨⟩) fun _ _=>rfl) cQ)))
 (ag (bw rfl (gT (bf P) ⟨⟩ ⟨⟩ rfl ⟨⟩ rfl (by decide) (hY P) (kZ P) nofun (ac (bc rfl rfl (fS P) rfl (P.fn rfl) (ac nofun ah ⟨⟩) ⟨⟩ (fA P)) ah ⟨⟩) fq) ⟨⟩)
 ax)
 ax)
 ax)))))
theorem jk {C:Cx} (P:PC C):SC C (.ref 106) 1 gR:=(xA P).sc
def tG:DS :=
 (aq (dIf (b8 (dUn (bs 150 16) (ak 0)))
 (aq qp
 aH)
 aH)
 (aq (dIf (b8 (dUn (bs 150 1) (ak 0)))
 (aq (bV (cT 150 gR (ak 0) an))
 aH)
 aH)
 (aq (bV (bF cc b7 (aJ dU (dUn (bs 150 10) (ak 0)) dn) (ae (fK (ae (ak 2) (ae (ak 1) an))) an)))
 aH)))
def gz:DC:=dFn [some 0,some 1,some 2] [] [] tG
theorem qV {C:Cx} (P:PC C):SCc C (.ref 113) 3 (fun vs=>⟨vs,[]⟩) gz :=
 gD P (tab:=["self", "prefix", "uri"]) (ctab:=[]) (pn:=["self", "prefix", "uri"]) (dvv:=[]) rfl rfl rfl rfl rfl rfl rfl rfl rfl ⟨⟩ (by decide) (by decide) (by decide) (v7 P.toPC0 fun _ _ _ _=>rfl) (fun _ _=>.nil) (by decide) (by decide)
 (ag (b4 (bG (aW nofun (aR (bf P) rfl (by decide) (bC P)) ⟨⟩) fun _ _=>rfl)
 (ag oU
 ax)
 ax)
 (ag (b4 (bG (aW nofun (aR (bf P) rfl (by decide) (gG P)) ⟨⟩) fun _ _=>rfl)
 (ag (bw rfl (bU (bf P) ⟨⟩ ⟨⟩ rfl ⟨⟩ (kD P) (kA P) (by decide) nofun ah (jk P)) ⟨⟩)
 ax)
 ax)
 (ag (bw rfl (aI ⟨⟩ ⟨⟩ rfl F.plainAttrs_list F.slot_list_append F.type_list_append ⟨⟩ (aX (aW nofun (aR (bf P) rfl (by decide) (dB P)) ⟨⟩) cD eG fun _ _=>⟨_,rfl⟩) (fun ok h r=>bh ok h r) (ac (cz (ac nofun (ac nofun ah ⟨⟩) ⟨⟩) rfl) ah ⟨⟩) bL) ⟨⟩)
 ax)))
theorem kV {C:Cx} (P:PC C):SC C (.ref 113) 3 gz:=(qV P).sc
theorem ur:(["self", "tag", "attrs", "new_namespaces"]:List Str).Nodup:=by decide
def B1:DS :=
 (aq (dIf (eR (bp gp (dUn (bs 150 5) (ak 0)) bR) (eR (jy (b8 (dUn (bs 150 16) (ak 0))) (jy (bp jQ (ak 1) (dUn (bs 150 5) (ak 0))) jc)) fx))
 (aq (oN (bs 150 16) fk (dy 150 16) (ak 0) (bx 1))
 (aq qp
 aH))
 aH)
 (aq (dIf (b8 (dUn (bs 150 1) (ak 0)))
 (aq (bV (cT 150 gR (ak 0) an))
 aH)
 aH)
 (aq (b9 3 (cg an))
 (aq (bV (bF cc b7 (dUn (bs 150 9) (ak 0)) (ae (ak 3) an)))
 (aq (dIf (eR (bp gp (dUn (bs 150 7) (ak 0)) bR) (eR (bp jQ (ak 1) (dUn (bs 150 7) (ak 0))) fx))
 cx
 aH)
 (aq (bV (cT 150 lp (ak 0) (ae (ak 1) (ae (ak 2) (ae (ak 3) an)))))
 aH))))))
def hM:DC:=dFn [some 0,some 1,some 2,none] [] [] B1
theorem wT {C:Cx} (P:PC C):SCc C (.ref 120) 3 (fun vs=>⟨vs,[]⟩) hM :=
 gD P (tab:=["self", "tag", "attrs", "new_namespaces"]) (ctab:=[]) (pn:=["self", "tag", "attrs"]) (dvv:=[]) rfl rfl rfl rfl rfl rfl rfl rfl rfl ⟨⟩ (by decide) (by decide) (by decide) (v7 P.toPC0 fun _ _ _ _=>rfl) (fun _ _=>.nil) (by decide) (by decide)
 (ag (b4 (cV (cI (aY (aW nofun (aR (bf P) rfl (by decide) (fM P)) ⟨⟩) ch dV rfl) (cI (cV (eE (bG (aW nofun (aR (bf P) rfl (by decide) (bC P)) ⟨⟩) fun _ _=>rfl) (eE (aY nofun (aW nofun (aR (bf P) rfl (by decide) (fM P)) ⟨⟩) ff rfl) eC))) cQ)))
 (ag (qj nofun (aR (bf P) rfl (by decide) (bC P)) aF dc (b6 (bf P) rfl (by decide) (bC P)))
 (ag oU
 ax))
 ax)
 (ag (b4 (bG (aW nofun (aR (bf P) rfl (by decide) (gG P)) ⟨⟩) fun _ _=>rfl)
 (ag (bw rfl (bU (bf P) ⟨⟩ ⟨⟩ rfl ⟨⟩ (kD P) (kA P) (by decide) nofun ah (jk P)) ⟨⟩)
 ax)
 ax)
 (ag (bE rfl rfl rfl ur (bn ah) ⟨⟩)
 (ag (bw rfl (aI ⟨⟩ ⟨⟩ rfl F.plainAttrs_list F.slot_list_append F.type_list_append ⟨⟩ (aW nofun (aR (bf P) rfl (by decide) (bW P)) ⟨⟩) (fun ok h r=>bh ok h r) (ac nofun ah ⟨⟩) bL) ⟨⟩)
 (ag (b4 (cV (cI (aY (aW nofun (aR (bf P) rfl (by decide) (dR P)) ⟨⟩) ch dV rfl) (cI (aY nofun (aW nofun (aR (bf P) rfl (by decide) (dR P)) ⟨⟩) ff rfl) cQ)))
 fL
 ax)
 (ag (bw rfl (bU (bf P) ⟨⟩ ⟨⟩ rfl ⟨⟩ (yF P) (xU P) (by decide) nofun (ac nofun (ac nofun (ac nofun ah ⟨⟩) ⟨⟩) ⟨⟩) (t7 P)) ⟨⟩)
 ax))))))
theorem jv {C:Cx} (P:PC C):SC C (.ref 120) 3 hM:=(wT P).sc
def G3:DS :=
 (aq (dIf (b8 (dUn (bs 150 16) (ak 0)))
 (aq (oN (bs 150 16) lT (dy 150 16) (ak 0) (bx 1))
 (aq qp
 aH))
 aH)
 (aq (dIf (b8 (dUn (bs 150 1) (ak 0)))
 (aq (bV (cT 150 gR (ak 0) an))
 aH)
 aH)
 (aq (bV (jZ (bs 150 0) fG (ak 0) (ae (gJ (cH (aV (lit [60,47])) (cH (mL (aJ dU (cT 150 kI (ak 0) (ae (ak 1) an)) (bx 0))) (cH (aV (lit [62])) mI)))) an)))
 (aq (bV (bF cc CA (dUn (bs 150 12) (ak 0)) an))
 (aq (bQ (dy 150 15) (aJ pEq (a9 sY (ae (dUn (bs 150 12) (ak 0)) an)) (bx 1)) (ak 0))
 (aq (bV (bF cc CA (dUn (bs 150 9) (ak 0)) an))
 (aq (bV (bF cc CA (dUn (bs 150 10) (ak 0)) an))
 aH)))))))
def li:DC:=dFn [some 0,some 1] [] [] G3
theorem Dl {C:Cx} (P:PC C):SCc C (.ref 133) 2 (fun vs=>⟨vs,[]⟩) li :=
 gD P (tab:=["self", "tag"]) (ctab:=[]) (pn:=["self", "tag"]) (dvv:=[]) rfl rfl rfl rfl rfl rfl rfl rfl rfl ⟨⟩ (by decide) (by decide) (by decide) (gh P.toPC0 fun _ _ _=>rfl) (fun _ _=>.nil) (by decide) (by decide)
 (ag (b4 (bG (aW nofun (aR (bf P) rfl (by decide) (bC P)) ⟨⟩) fun _ _=>rfl)
 (ag (qj nofun (aR (bf P) rfl (by decide) (bC P)) aF wH (b6 (bf P) rfl (by decide) (bC P)))
 (ag oU
 ax))
 ax)
 (ag (b4 (bG (aW nofun (aR (bf P) rfl (by decide) (gG P)) ⟨⟩) fun _ _=>rfl)
 (ag (bw rfl (bU (bf P) ⟨⟩ ⟨⟩ rfl ⟨⟩ (kD P) (kA P) (by decide) nofun ah (jk P)) ⟨⟩)
 ax)
 ax)
 (ag (bw rfl (gT (bf P) ⟨⟩ ⟨⟩ rfl ⟨⟩ rfl (by decide) (hY P) (kZ P) nofun (ac (fg (b5 (au (l:=lit [60,47]) rfl) (b5 (gn (aX (bU (bf P) ⟨⟩ ⟨⟩ rfl ⟨⟩ (tj P) (zR P) (by decide) nofun (ac nofun ah ⟨⟩) (x9 P)) aF eG fun _ _=>⟨_,rfl⟩)) (b5 (au (l:=lit [62]) rfl) j4 ⟨⟩) ⟨⟩) ⟨⟩)) ah ⟨⟩) fq) ⟨⟩)
 (ag (bw rfl (aI ⟨⟩ ⟨⟩ rfl F.plainAttrs_list F.slot_list_pop F.type_list_pop ⟨⟩ (aW nofun (aR (bf P) rfl (by decide) (cw P)) ⟨⟩) (fun ok h r=>bh ok h r) ah qJ) ⟨⟩)
 (ag (bH (q8 (ck rfl rfl (gS P) rfl (ac (aW nofun (aR (bf P) rfl (by decide) (cw P)) ⟨⟩) ah ⟨⟩) ⟨⟩ mW) aF gC rfl) nofun (b6 (bf P) rfl (by decide) (il P)) ⟨⟩)
 (ag (bw rfl (aI ⟨⟩ ⟨⟩ rfl F.plainAttrs_list F.slot_list_pop F.type_list_pop ⟨⟩ (aW nofun (aR (bf P) rfl (by decide) (bW P)) ⟨⟩) (fun ok h r=>bh ok h r) ah qJ) ⟨⟩)
 (ag (bw rfl (aI ⟨⟩ ⟨⟩ rfl F.plainAttrs_list F.slot_list_pop F.type_list_pop ⟨⟩ (aW nofun (aR (bf P) rfl (by decide) (dB P)) ⟨⟩) (fun ok h r=>bh ok h r) ah qJ) ⟨⟩)
 ax)))))))
theorem mV {C:Cx} (P:PC C):SC C (.ref 133) 2 li:=(Dl P).sc
def ug:DS :=
 (aq (dIf (oz (b8 (dUn (bs 150 2) (ak 0))))
 cx
 aH)
 (aq (dIf (b8 (dUn (bs 150 16) (ak 0)))
 (aq qp
 aH)
 aH)
 (aq (dIf (b8 (dUn (bs 150 15) (ak 0)))
 (aq (bV (jZ (bs 150 0) fG (ak 0) (ae (aV (lit [10])) an)))
 aH)
 (aq (dIf (eR (b8 (dUn (bs 150 14) (ak 0))) (eR (b8 (dUn (bs 150 1) (ak 0))) fx))
 (aq (bV (cT 150 gR (ak 0) an))
 aH)
 aH)
 aH))
 (aq (bV (jZ (bs 150 0) fG (ak 0) (ae (gJ (cH (aV (lit [60,33,45,45])) (cH (mL (a9 dS (ae (ak 1) an))) (cH (aV (lit [45,45,62])) mI)))) an)))
 (aq (dIf (oz (b8 (dUn (bs 150 14) (ak 0))))
 cx
 aH)
 aH)))))
def iA:DC:=dFn [some 0,some 1] [] [] ug
theorem tV {C:Cx} (P:PC C):SCc C (.ref 140) 2 (fun vs=>⟨vs,[]⟩) iA :=
 gD P (tab:=["self", "text"]) (ctab:=[]) (pn:=["self", "text"]) (dvv:=[]) rfl rfl rfl rfl rfl rfl rfl rfl rfl ⟨⟩ (by decide) (by decide) (by decide) (gh P.toPC0 fun _ _ _=>rfl) (fun _ _=>.nil) (by decide) (by decide)
 (ag (b4 (lD (bG (aW nofun (aR (bf P) rfl (by decide) (ie P)) ⟨⟩) fun _ _=>rfl))
 fL
 ax)
 (ag (b4 (bG (aW nofun (aR (bf P) rfl (by decide) (bC P)) ⟨⟩) fun _ _=>rfl)
 (ag oU
 ax)
 ax)
 (ag (b4 (bG (aW nofun (aR (bf P) rfl (by decide) (il P)) ⟨⟩) fun _ _=>rfl)
 (ag (bw rfl (gT (bf P) ⟨⟩ ⟨⟩ rfl ⟨⟩ rfl (by decide) (hY P) (kZ P) nofun (ac (au (l:=lit [10]) rfl) ah ⟨⟩) fq) ⟨⟩)
 ax)
 (ag (b4 (cV (cI (bG (aW nofun (aR (bf P) rfl (by decide) (eX P)) ⟨⟩) fun _ _=>rfl) (cI (bG (aW nofun (aR (bf P) rfl (by decide) (gG P)) ⟨⟩) fun _ _=>rfl) cQ)))
 (ag (bw rfl (bU (bf P) ⟨⟩ ⟨⟩ rfl ⟨⟩ (kD P) (kA P) (by decide) nofun ah (jk P)) ⟨⟩)
 ax)
 ax)
 ax))
 (ag (bw rfl (gT (bf P) ⟨⟩ ⟨⟩ rfl ⟨⟩ rfl (by decide) (hY P) (kZ P) nofun (ac (fg (b5 (au (l:=lit [60,33,45,45]) rfl) (b5 (gn (bc rfl rfl (fS P) rfl (P.fn rfl) (ac nofun ah ⟨⟩) ⟨⟩ (fA P))) (b5 (au (l:=lit [45,45,62]) rfl) j4 ⟨⟩) ⟨⟩) ⟨⟩)) ah ⟨⟩) fq) ⟨⟩)
 (ag (b4 (lD (bG (aW nofun (aR (bf P) rfl (by decide) (eX P)) ⟨⟩) fun _ _=>rfl))
 fL
 ax)
 ax)))))
theorem mE {C:Cx} (P:PC C):SC C (.ref 140) 2 iA:=(tV P).sc
def Gl:DS :=
 (aq (bQ (dy 150 0) (ak 1) (ak 0))
 (aq (bQ (dy 150 1) (cg an) (ak 0))
 (aq (bQ (dy 150 2) (ak 2) (ak 0))
 (aq (bQ (dy 150 3) (ak 3) (ak 0))
 (aq (bQ (dy 150 4) (kK (b8 (ak 7)) (a9 CL (ae (ak 7) an)) bR) (ak 0))
 (aq (bQ (dy 150 5) (kK (b8 (ak 8)) (a9 CL (ae (ak 8) an)) bR) (ak 0))
 (aq (bQ (dy 150 6) (ak 4) (ak 0))
 (aq (dIf (b8 (ak 5))
 cx
 (aq (bQ (dy 150 7) bR (ak 0))
 aH))
 (aq (dIf (b8 (ak 6))
 cx
 (aq (bQ (dy 150 8) bR (ak 0))
 aH))
 (aq (bQ (dy 150 9) (cg (ae (cg (ae (fK (ae (aV (lit [104,116,116,112,58,47,47,119,119,119,46,119,51,46,111,114,103,47,88,77,76,47,49,57,57,56,47,110,97,109,101,115,112,97,99,101])) (ae (aV (lit [120,109,108])) an))) an)) an)) (ak 0))
 (aq (bQ (dy 150 10) (cg an) (ak 0))
 (aq (dIf (oz (b8 (ak 4)))
 (aq (bV (bF cc b7 (dUn (bs 150 10) (ak 0)) (ae (CX nsMap) an)))
 aH)
 aH)
 (aq (bV (bF cc b7 (dUn (bs 150 10) (ak 0)) (ae (cg an) an)))
 (aq (bQ (dy 150 11) jH (ak 0))
 (aq (bQ (dy 150 12) (cg (ae (iH false) an)) (ak 0))
 (aq (bQ (dy 150 13) bR (ak 0))
 (aq (bQ (dy 150 14) (iH false) (ak 0))
 (aq (bQ (dy 150 15) (iH false) (ak 0))
 (aq (bQ (dy 150 16) (bx 0) (ak 0))
 aH)))))))))))))))))))
def HF (l:List AV):List AV:=@List.rec AV (fun _=>List AV) [] (fun a l _=>@List.rec AV (fun _=>List AV) [] (fun b l _=>@List.rec AV (fun _=>List AV) [] (fun c l _=>@List.rec AV (fun _=>List AV) [] (fun d l _=>@List.rec AV (fun _=>List AV) [] (fun e _ _=>[a,b,c,.bool false,d,.none,.none,.none,e]) l) l) l) l) l
def CG:DC:=Dp [some 0,some 1,some 2,some 3,some 4,some 5,some 6,some 7,some 8] [] HF Gl
noncomputable def I7 (l:List Value):List Value:=match l with | [a,b,c,d,e]=>[a,b,c,.bool false,d,.none,.none,.none,e] | _=>[]
theorem zH {C:Cx} (P:PC C) {fa:Addr} {tab pn:List Str} {lay:List (Option Nat)} {d:DS} {cls:Value} {dct:Option Addr} {sl:Array (Option Value)} {fd:FuncData} {body:List Stmt}
  (hK:(hd.heap_1 C.w.params).lookup fa=some ⟨cls,dct,.func fd,sl⟩) (hb:fd.body = .stmts body) (h1:fd.closure=[]) (h2:fd.globals=mainGlobals) (h3:fd.builtins=builtinsNs)
  (h4:codeIn (hd.heap_1 C.w.params) fd.code fd.qualname=true) (h5:fd.scope.kind = .function) (h6:fd.scope.isCoroutine=false) (h7:fd.scope.isGenerator=false)
  (h8:∀ b,cellsFrom b fd.scope.names []=[]) (h10:pn.Nodup) (h11:pnB pn [] fd.scope.names=true)
  (h12:∀ a b c d e S,peek (hd.heap_1 C.w.params) S (bindArgs fd ⟨[a,b],[("with_comments",c),("rewrite_prefixes",d),("exclude_tags",e)]⟩)=some (pn.zip [a,b,c,.bool false,d,.none,.none,.none,e]))
  (h14:DF lay tab pn fd.scope.names=true) (hd:S C ⟨fd.scope,tab,[],fd.code,fd.qualname++".<locals>."⟩ body d):SCc C (.ref fa) 5 (fun vs=>⟨vs.take 2,(["with_comments", "rewrite_prefixes", "exclude_tags"]:List Str).zip (vs.drop 2)⟩) (Dp lay [] HF d) :=
 uK (arr:=I7) (X':=⟨fd.scope,tab,[],fd.code,fd.qualname++".<locals>."⟩) ⟨⟨_,_,_,P.look hK⟩,hb,h1,h2,h3,P.K ▸ h4,rfl,rfl,rfl,h5,h6,h7,h8,List.nodup_nil,h10,vl h11,fun vals hv S=>by
  nomatch aE (fP hv),hv
  intro a vals zq hv
  subst zq
  nomatch aE (fP hv),hv
  intro b vals zq hv
  subst zq
  nomatch aE (fP hv),hv
  intro c vals zq hv
  subst zq
  nomatch aE (fP hv),hv
  intro d vals zq hv
  subst zq
  nomatch aE (fP hv),hv
  intro e vals zq hv
  subst zq
  rw [List.length_eq_zero_iff.mp hv,P.K]; exact h12 a b c d e S,fun ρ Z xs vs hv hl=>by
   nomatch aE (fP hl),hl
   intro a xs zq hl
   subst zq
   nomatch aE (fP hl),hl
   intro b xs zq hl
   subst zq
   nomatch aE (fP hl),hl
   intro c xs zq hl
   subst zq
   nomatch aE (fP hl),hl
   intro d xs zq hl
   subst zq
   nomatch aE (fP hl),hl
   intro e xs zq hl
   subst zq
   have zq:=List.length_eq_zero_iff.mp hl
   clear hl
   subst zq
   nomatch ay hv.head,hv
   intro va vs1 zq2 r1 hv
   subst zq2
   nomatch ay hv.head,hv
   intro vb vs2 zq2 r2 hv
   subst zq2
   nomatch ay hv.head,hv
   intro vc vs3 zq2 r3 hv
   subst zq2
   nomatch ay hv.head,hv
   intro vd vs4 zq2 r4 hv
   subst zq2
   nomatch ay hv.head,hv
   intro ve vs5 zq2 r5 hv
   subst zq2
   rw [hv.nil_inv]
   exact .cons r1 (.cons r2 (.cons r3 (.cons (.bool false) (.cons r4 (.cons .none (.cons .none (.cons .none (.cons r5 .nil)))))))),rL h14,rfl,fun k x h=>by simp at h⟩ hd
theorem EI {C:Cx} (P:PC C):SCc C (.ref 67) 5 (fun vs=>⟨vs.take 2,(["with_comments", "rewrite_prefixes", "exclude_tags"]:List Str).zip (vs.drop 2)⟩) CG:=by refine_lift' ((zH P (tab:=["self", "write", "with_comments", "strip_text", "rewrite_prefixes", "qname_aware_tags", "qname_aware_attrs", "exclude_attrs", "exclude_tags"]) (pn:=["self", "write", "with_comments", "strip_text", "rewrite_prefixes", "qname_aware_tags", "qname_aware_attrs", "exclude_attrs", "exclude_tags"])) rfl rfl rfl rfl rfl rfl rfl rfl rfl ⟨⟩ (by decide) (by decide) (fun _ _ _ _ _ _=>rfl) (by decide) (ag (bH nofun nofun (b6 (bf P) rfl (by decide) (hY P)) ⟨⟩) (ag (bH (bn ah) nofun (b6 (bf P) rfl (by decide) (gG P)) ⟨⟩) (ag (bH nofun nofun (b6 (bf P) rfl (by decide) (ie P)) ⟨⟩) (ag (bH nofun nofun (b6 (bf P) rfl (by decide) (jE P)) ⟨⟩) (ag (bH (fe (bG nofun fun _ _=>rfl) (bT rfl rfl (Cs P) rfl (ac nofun ah ⟨⟩) ⟨⟩ wt) ch) nofun (b6 (bf P) rfl (by decide) (gZ P)) ⟨⟩) (ag (bH (fe (bG nofun fun _ _=>rfl) (bT rfl rfl (Cs P) rfl (ac nofun ah ⟨⟩) ⟨⟩ wt) ch) nofun (b6 (bf P) rfl (by decide) (fM P)) ⟨⟩) (ag (bH nofun nofun (b6 (bf P) rfl (by decide) (fQ P)) ⟨⟩) (ag (b4 (bG nofun fun _ _=>rfl) fL (ag (bH ch nofun (b6 (bf P) rfl (by decide) (dR P)) ⟨⟩) ax)) (ag (b4 (bG nofun fun _ _=>rfl) fL (ag (bH ch nofun (b6 (bf P) rfl (by decide) (dP P)) ⟨⟩) ax)) (ag (bH (bn (ac (bn (ac (cz (ac ((au (l:=lit [104,116,116,112,58,47,47,119,119,119,46,119,51,46,111,114,103,47,88,77,76,47,49,57,57,56,47,110,97,109,101,115,112,97,99,101])) rfl) (ac ((au (l:=lit [120,109,108])) rfl) ah ⟨⟩) ⟨⟩) rfl) ah ⟨⟩)) ah ⟨⟩)) nofun (b6 (bf P) rfl (by decide) (bW P)) ⟨⟩) (ag (bH (bn ah) nofun (b6 (bf P) rfl (by decide) (dB P)) ⟨⟩) (ag (b4 (lD (bG nofun fun _ _=>rfl)) (ag (bw rfl (aI ⟨⟩ ⟨⟩ rfl F.plainAttrs_list F.slot_list_append F.type_list_append ⟨⟩ (aW nofun (aR (bf P) rfl (by decide) (dB P)) ⟨⟩) (fun ok h r=>bh ok h r) (ac (B3 rfl rfl (qw P) rfl rfl (mQ P) rfl ⟨⟩ rfl ⟨⟩ ⟨⟩ rfl (zd P) (uT P) (AM C)) ah ⟨⟩) bL) ⟨⟩) ax) ax) (ag (bw rfl (aI ⟨⟩ ⟨⟩ rfl F.plainAttrs_list F.slot_list_append F.type_list_append ⟨⟩ (aW nofun (aR (bf P) rfl (by decide) (dB P)) ⟨⟩) (fun ok h r=>bh ok h r) (ac (bn ah) ah ⟨⟩) bL) ⟨⟩) (ag (bH (gU ⟨⟩) nofun (b6 (bf P) rfl (by decide) (dT P)) ⟨⟩) (ag (bH (bn (ac eO ah ⟨⟩)) nofun (b6 (bf P) rfl (by decide) (cw P)) ⟨⟩) (ag (bH ch nofun (b6 (bf P) rfl (by decide) (gW P)) ⟨⟩) (ag (bH eO nofun (b6 (bf P) rfl (by decide) (eX P)) ⟨⟩) (ag (bH eO nofun (b6 (bf P) rfl (by decide) (il P)) ⟨⟩) (ag (bH aF nofun (b6 (bf P) rfl (by decide) (bC P)) ⟨⟩) ax))))))))))))))))))))
theorem bd:(["order", "signs", "names", "rewritten", "spelled", "pieces", "writer", "told", "outer", "inner", "plain", "depth", "place", "least", "greatest", "sign"]:List Str).Nodup:=by decide
def vE (ce:DC):DS :=
 (aq (b9 4 (qK (lr (aV (lit [38])) (aV (lit [38,97,109,112,59])) (lr (aV (lit [60])) (aV (lit [38,108,116,59])) (lr (aV (lit [62])) (aV (lit [38,103,116,59])) (lr (aV (lit [13])) (aV (lit [38,35,120,68,59])) zY))))))
 (aq (b9 5 (cg an))
 (aq (b9 6 (fun dp f H k=>(dUn qb (ak 5)) dp f H fun a0 H=>(iH true) dp f H fun a1 H=>(ak 3) dp f H fun a2 H=>(cg (ae (aV (lit [120])) an)) dp f H fun a3 H=>DE 150 CG [a0,a1,a2,a3] dp H k))
 (aq (bQ (dy 150 17) (Br (.con (.ref 286))) (ak 6))
 (aq (b9 7 (cg (ae (cT 150 gz (ak 6) (ae (aV (lit [113])) (ae (aV (lit [118])) an))) (ae (cT 150 hM (ak 6) (ae (aV (lit [123,118,125,114])) (ae jH an))) (ae (cT 150 hM (ak 6) (ae (aV (lit [120])) (ae jH an))) (ae (cT 150 hM (ak 6) (ae (aV (lit [121])) (ae jH an))) an))))))
 (aq (mK fk 7 (cg (ae (cT 150 mZ (ak 6) (ae (aV (lit [47])) an)) (ae (cT 150 li (ak 6) (ae (aV (lit [121])) an)) (ae (cT 150 li (ak 6) (ae (aV (lit [120])) an)) an)))))
 (aq (kJ (kK (b8 (ak 3)) (fK (ae (aV (lit [110,48])) (ae (aV (lit [110,49])) an))) (fK (ae (aV (lit [113])) (ae (aV (lit [112,48])) an)))) (iY [(bB 8),(bB 9)]))
 (aq (rE (fK (ae (aJ bY (aJ bY (aJ bY (aJ bY (aV (lit [60])) (ak 8)) (aV (lit [58,114,32,120,109,108,110,115,58]))) (ak 8)) (aV (lit [61,34,118,34,62]))) (ae (bx 0) an))) [bB 11,bB 10])
 (aq (rU nxR (dW mkR (a9 eQ (ae (a9 sY (ae (ak 0) an)) an))) (bB 12)
 (aq (kJ (a9 ce (ae (ak 0) (ae (ak 12) an))) (iY [(bB 13),(bB 14)]))
 (aq (dIf (bp pEq (ak 12) (ak 13))
 (aq (mK fk 7 (cg (ae (cT 150 gz (ak 6) (ae (aJ bY (aV (lit [112])) (a9 Fs (ae (ak 12) an))) (ae (aV (lit [117])) an))) (ae (cT 150 hM (ak 6) (ae (aJ bY (aV (lit [123,117,125])) (aJ dU (ak 2) (ak 13))) (ae jH an))) an))))
 (aq (mK fk 10 (aJ bY (aJ bY (aJ bY (aJ bY (aV (lit [60])) (ak 9)) (aV (lit [58]))) (aJ dU (ak 2) (ak 13))) (kK (bp pGt (ak 11) (bx 0)) (aV (lit [62])) (aJ bY (aJ bY (aV (lit [32,120,109,108,110,115,58])) (ak 9)) (aV (lit [61,34,117,34,62]))))))
 (aq (mK fk 11 (bx 1))
 aH)))
 aH)
 (aq (bV (bF cc b7 (ak 7) (ae (cT 150 mZ (ak 6) (ae (aJ dU (ak 1) (ak 12)) an)) an)))
 (aq (dIf (bp pNe (bF eZ o8 (aV (lit [])) (ae (ak 5) an)) (ak 10))
 (aq (dq bR)
 aH)
 aH)
 (aq (b9 15 (bF uD AW (ak 4) (ae (aJ dU (ak 1) (ak 12)) (ae (aJ dU (ak 1) (ak 12)) an))))
 (aq (mK fk 10 (ak 15))
 (aq (dIf (bp pEq (ak 12) (ak 14))
 (aq (bV (bF cc b7 (ak 7) (ae (cT 150 li (ak 6) (ae (aJ bY (aV (lit [123,117,125])) (aJ dU (ak 2) (ak 13))) an)) an)))
 (aq (mK fk 10 (aJ bY (aJ bY (aJ bY (aJ bY (aV (lit [60,47])) (ak 9)) (aV (lit [58]))) (aJ dU (ak 2) (ak 13))) (aV (lit [62]))))
 (aq (mK lT 11 (bx 1))
 aH)))
 aH)
 (aq (bV (bF cc b7 (ak 7) (ae (cT 150 iA (ak 6) (ae (aJ dU (ak 1) (ak 12)) an)) an)))
 (aq (mK fk 10 (aJ bY (aJ bY (aV (lit [60,33,45,45])) (ak 15)) (aV (lit [45,45,62]))))
 aH))))))))))
 (aq (mK fk 7 (cg (ae (cT 150 li (ak 6) (ae (aV (lit [123,118,125,114])) an)) (ae (cT 150 iA (ak 6) (ae (aV (lit [120])) an)) an))))
 (aq (mK fk 10 (aJ bY (aJ bY (aV (lit [60,47])) (ak 8)) (aV (lit [58,114,62]))))
 (aq (dIf (jy (bp pNe (bF eZ o8 (aV (lit [])) (ae (ak 5) an)) (aJ bY (ak 10) (aV (lit [10,60,33,45,45,120,45,45,62])))) (jy (bp pNe (hW nxL (dW mkL (ak 7)) (List.replicate 1 none) [] (bB 0) (bp gp (ak 0) bR) (ak 0)) (cg an)) jc))
 (aq (dq bR)
 aH)
 aH)
 (aq (dq (aJ dU (bF eZ o8 (aV (lit [])) (ae (ak 5) an)) (fO bR (a9 sY (ae (ak 10) an)) bR)))
 aH)))))))))))))
def nZ (ce:DC):DC:=dFn [some 0,some 1,some 2,some 3,none,none,none,none,none,none,none,none,none,none,none,none] [] [] (vE ce)
theorem z0 {C:Cx} {X:Sc} {k0 k1 k2 k3 v0 v1 v2 v3:Ex} {pos:Pos} {d:DP} (h:SPr C X (tN pos [(k0,v0),(k1,v1),(k2,v2),(k3,v3)]) d):SE C X (.Dict [some k0,some k1,some k2,some k3] [v0,v1,v2,v3] pos) (qK d):=w9 h (List.cons_ne_nil _ _) (ZbL rfl)
theorem tP {C:Cx} (P:PC C) {ce:DC} (hce:SC C (.ref 281) 2 ce):SC C (.ref 291) 4 (nZ ce):=by refine_lift' ((cL P.toPC0 (tab:=["order", "signs", "names", "rewritten", "spelled", "pieces", "writer", "told", "outer", "inner", "plain", "depth", "place", "least", "greatest", "sign"]) (ctab:=[]) (pn:=["order", "signs", "names", "rewritten"]) (dvv:=[])) rfl rfl rfl rfl rfl rfl rfl rfl rfl ⟨⟩ (by decide) (by decide) (by decide) (EU P.toPC0 fun _ _ _ _ _=>rfl) (fun _ _=>.nil) (by decide) (by decide) (ag (bE rfl rfl rfl bd (z0 (jl (au (l:=lit [38]) rfl) (au (l:=lit [38,97,109,112,59]) rfl) (jl (au (l:=lit [60]) rfl) (au (l:=lit [38,108,116,59]) rfl) (jl (au (l:=lit [62]) rfl) (au (l:=lit [38,103,116,59]) rfl) (jl (au (l:=lit [13]) rfl) (au (l:=lit [38,35,120,68,59]) rfl) zM))))) ⟨⟩) (ag (bE rfl rfl rfl bd (bn ah) ⟨⟩) (ag (bE rfl rfl rfl bd (GY rfl rfl (jU P) rfl (GZ P) (EO P) (EN P) (F9 P) (aW nofun sU ⟨⟩) eO nofun (bn (ac ((au (l:=lit [120])) rfl) ah ⟨⟩)) ⟨⟩ (EI P)) ⟨⟩) (ag (bH (Be rfl rfl (vB P) rfl) nofun (b6 (bf P) rfl (by decide) (eD P)) ⟨⟩) (ag (bE rfl rfl rfl bd (bn (ac (bU (bf P) ⟨⟩ ⟨⟩ rfl ⟨⟩ (l8 P) (mF P) (by decide) nofun (ac ((au (l:=lit [113])) rfl) (ac ((au (l:=lit [118])) rfl) ah ⟨⟩) ⟨⟩) (kV P)) (ac (bU (bf P) ⟨⟩ ⟨⟩ rfl ⟨⟩ (kB P) (kN P) (by decide) nofun (ac ((au (l:=lit [123,118,125,114])) rfl) (ac (gU ⟨⟩) ah ⟨⟩) ⟨⟩) (jv P)) (ac (bU (bf P) ⟨⟩ ⟨⟩ rfl ⟨⟩ (kB P) (kN P) (by decide) nofun (ac ((au (l:=lit [120])) rfl) (ac (gU ⟨⟩) ah ⟨⟩) ⟨⟩) (jv P)) (ac (bU (bf P) ⟨⟩ ⟨⟩ rfl ⟨⟩ (kB P) (kN P) (by decide) nofun (ac ((au (l:=lit [121])) rfl) (ac (gU ⟨⟩) ah ⟨⟩) ⟨⟩) (jv P)) ah ⟨⟩) ⟨⟩) ⟨⟩) ⟨⟩)) ⟨⟩) (ag (iS rfl rfl rfl bd (bn (ac (bU (bf P) ⟨⟩ ⟨⟩ rfl ⟨⟩ (ww P) (v9 P) (by decide) nofun (ac ((au (l:=lit [47])) rfl) ah ⟨⟩) (sA P)) (ac (bU (bf P) ⟨⟩ ⟨⟩ rfl ⟨⟩ (qz P) (q6 P) (by decide) nofun (ac ((au (l:=lit [121])) rfl) ah ⟨⟩) (mV P)) (ac (bU (bf P) ⟨⟩ ⟨⟩ rfl ⟨⟩ (qz P) (q6 P) (by decide) nofun (ac ((au (l:=lit [120])) rfl) ah ⟨⟩) (mV P)) ah ⟨⟩) ⟨⟩) ⟨⟩)) dc) (ag (iZ (fe (bG nofun fun _ _=>rfl) (cz (ac ((au (l:=lit [110,48])) rfl) (ac ((au (l:=lit [110,49])) rfl) ah ⟨⟩) ⟨⟩) rfl) (cz (ac ((au (l:=lit [113])) rfl) (ac ((au (l:=lit [112,48])) rfl) ah ⟨⟩) ⟨⟩) rfl)) ((f5 (ts:=[assign (.Name "outer" ⟨345,4,345,9⟩),assign (.Name "inner" ⟨345,11,345,16⟩)])) ⟨(bb rfl rfl rfl bd),(bb rfl rfl rfl bd),trivial⟩ ⟨⟩ rfl) ⟨⟩ (fun _ _=>rfl)) (ag ((rD (names:=["plain", "depth"])) (cz (ac (aD (aD (aD (aD ((au (l:=lit [60])) rfl) nofun be) ((au (l:=lit [58,114,32,120,109,108,110,115,58])) rfl) be) nofun be) ((au (l:=lit [61,34,118,34,62])) rfl) be) (ac aF ah ⟨⟩) ⟨⟩) rfl) rfl ⟨iC rfl rfl rfl bd,iC rfl rfl rfl bd,trivial⟩ ⟨⟩ (j1 rfl)) (ag (oT dE (eF dF (bT rfl rfl (dN P.toPC0) rfl (ac (ck rfl rfl (gS P) rfl (ac nofun ah ⟨⟩) ⟨⟩ mW) ah ⟨⟩) ⟨⟩ dd)) (bb rfl rfl rfl bd) (ag (iZ (bc rfl rfl (uN P) rfl (P.fn rfl) (ac nofun (ac nofun ah ⟨⟩) ⟨⟩) ⟨⟩ hce) ((f5 (ts:=[assign (.Name "least" ⟨348,8,348,13⟩),assign (.Name "greatest" ⟨348,15,348,23⟩)])) ⟨(bb rfl rfl rfl bd),(bb rfl rfl rfl bd),trivial⟩ ⟨⟩ rfl) ⟨⟩ (fun _ _=>rfl)) (ag (b4 (aY nofun nofun gC rfl) (ag (iS rfl rfl rfl bd (bn (ac (bU (bf P) ⟨⟩ ⟨⟩ rfl ⟨⟩ (l8 P) (mF P) (by decide) nofun (ac (aD ((au (l:=lit [112])) rfl) (bT rfl rfl (It P) rfl (ac nofun ah ⟨⟩) ⟨⟩ DD) be) (ac ((au (l:=lit [117])) rfl) ah ⟨⟩) ⟨⟩) (kV P)) (ac (bU (bf P) ⟨⟩ ⟨⟩ rfl ⟨⟩ (kB P) (kN P) (by decide) nofun (ac (aD ((au (l:=lit [123,117,125])) rfl) (aX nofun nofun eG fun _ _=>⟨_,rfl⟩) be) (ac (gU ⟨⟩) ah ⟨⟩) ⟨⟩) (jv P)) ah ⟨⟩) ⟨⟩)) dc) (ag (iS rfl rfl rfl bd (aD (aD (aD (aD ((au (l:=lit [60])) rfl) nofun be) ((au (l:=lit [58])) rfl) be) (aX nofun nofun eG fun _ _=>⟨_,rfl⟩) be) (fe (aY nofun aF IQ rfl) ((au (l:=lit [62])) rfl) (aD (aD ((au (l:=lit [32,120,109,108,110,115,58])) rfl) nofun be) ((au (l:=lit [61,34,117,34,62])) rfl) be)) be) dc) (ag (iS rfl rfl rfl bd aF dc) ax))) ax) (ag (bw rfl (aI ⟨⟩ ⟨⟩ rfl F.plainAttrs_list F.slot_list_append F.type_list_append ⟨⟩ nofun (fun ok h r=>bh ok h r) (ac (bU (bf P) ⟨⟩ ⟨⟩ rfl ⟨⟩ (ww P) (v9 P) (by decide) nofun (ac (aX nofun nofun eG fun _ _=>⟨_,rfl⟩) ah ⟨⟩) (sA P)) ah ⟨⟩) bL) ⟨⟩) (ag (b4 (aY (aI ⟨⟩ ⟨⟩ rfl F.plainAttrs_str F.slot_str_join F.type_str_join ⟨⟩ ((au (l:=lit [])) rfl) (fun ok h r=>cq ok h r) (ac nofun ah ⟨⟩) nB) nofun lZ rfl) (ag (cj ch) ax) ax) (ag (bE rfl rfl rfl bd (aI ⟨⟩ ⟨⟩ rfl F.plainAttrs_dict F.slot_dict_get F.type_dict_get ⟨⟩ nofun (fun ok h r=>pQ ok h r) (ac (aX nofun nofun eG fun _ _=>⟨_,rfl⟩) (ac (aX nofun nofun eG fun _ _=>⟨_,rfl⟩) ah ⟨⟩) ⟨⟩) CP) ⟨⟩) (ag (iS rfl rfl rfl bd nofun dc) (ag (b4 (aY nofun nofun gC rfl) (ag (bw rfl (aI ⟨⟩ ⟨⟩ rfl F.plainAttrs_list F.slot_list_append F.type_list_append ⟨⟩ nofun (fun ok h r=>bh ok h r) (ac (bU (bf P) ⟨⟩ ⟨⟩ rfl ⟨⟩ (qz P) (q6 P) (by decide) nofun (ac (aD ((au (l:=lit [123,117,125])) rfl) (aX nofun nofun eG fun _ _=>⟨_,rfl⟩) be) ah ⟨⟩) (mV P)) ah ⟨⟩) bL) ⟨⟩) (ag (iS rfl rfl rfl bd (aD (aD (aD (aD ((au (l:=lit [60,47])) rfl) nofun be) ((au (l:=lit [58])) rfl) be) (aX nofun nofun eG fun _ _=>⟨_,rfl⟩) be) ((au (l:=lit [62])) rfl) be) dc) (ag (iS rfl rfl rfl bd aF wH) ax))) ax) (ag (bw rfl (aI ⟨⟩ ⟨⟩ rfl F.plainAttrs_list F.slot_list_append F.type_list_append ⟨⟩ nofun (fun ok h r=>bh ok h r) (ac (bU (bf P) ⟨⟩ ⟨⟩ rfl ⟨⟩ (nM P) (nQ P) (by decide) nofun (ac (aX nofun nofun eG fun _ _=>⟨_,rfl⟩) ah ⟨⟩) (mE P)) ah ⟨⟩) bL) ⟨⟩) (ag (iS rfl rfl rfl bd (aD (aD ((au (l:=lit [60,33,45,45])) rfl) nofun be) ((au (l:=lit [45,45,62])) rfl) be) dc) ax))))))))) fun _ _=>rfl) (ag (iS rfl rfl rfl bd (bn (ac (bU (bf P) ⟨⟩ ⟨⟩ rfl ⟨⟩ (qz P) (q6 P) (by decide) nofun (ac ((au (l:=lit [123,118,125,114])) rfl) ah ⟨⟩) (mV P)) (ac (bU (bf P) ⟨⟩ ⟨⟩ rfl ⟨⟩ (nM P) (nQ P) (by decide) nofun (ac ((au (l:=lit [120])) rfl) ah ⟨⟩) (mE P)) ah ⟨⟩) ⟨⟩)) dc) (ag (iS rfl rfl rfl bd (aD (aD ((au (l:=lit [60,47])) rfl) nofun be) ((au (l:=lit [58,114,62])) rfl) be) dc) (ag (b4 (cV (eE (aY (aI ⟨⟩ ⟨⟩ rfl F.plainAttrs_str F.slot_str_join F.type_str_join ⟨⟩ ((au (l:=lit [])) rfl) (fun ok h r=>cq ok h r) (ac nofun ah ⟨⟩) nB) (aD nofun ((au (l:=lit [10,60,33,45,45,120,45,45,62])) rfl) be) lZ rfl) (eE (aY ((gH (tab:=["one"]) (ctab:=[]) (clay:=[])) (cY rfl) gF fY (eF dI nofun) (bb rfl rfl rfl (nd rfl)) (qI (aY nofun ch dV rfl)) nofun fun _ _=>rfl) (bn ah) lZ rfl) eC))) (ag (cj ch) ax) ax) (ag (cj (aX (aI ⟨⟩ ⟨⟩ rfl F.plainAttrs_str F.slot_str_join F.type_str_join ⟨⟩ ((au (l:=lit [])) rfl) (fun ok h r=>cq ok h r) (ac nofun ah ⟨⟩) nB) (dA cu (dH (ck rfl rfl (gS P) rfl (ac nofun ah ⟨⟩) ⟨⟩ mW)) cu) eG fun _ _=>⟨_,rfl⟩)) ax))))))))))))))
end
section
local macro_rules | `(⟨⟩)=>`(fun _=>rfl)
theorem mA {C:Cx} (P:PC C):C.GlobV "_law_round" (.ref 296):=P.glob (by kernel_rfl)
theorem cN:(["page", "stack", "inner", "gaps", "count", "at", "end"]:List Str).Nodup:=by decide
def FH:DS :=
 (dIf (jy (bp CF (aJ eP (ak 0) (ak 5)) (aV (lit [60]))) (jy (bp CF (aJ eP (ak 0) (ak 5)) (aV (lit [38]))) jc))
 (aq (b9 6 (aJ oR (ak 5) (a9 lG (ae (aJ eP (ak 0) (fO (ak 5) bR bR)) (ae (kK (bp CF (aJ eP (ak 0) (ak 5)) (aV (lit [60]))) (aV (lit [62])) (aV (lit [59]))) an)))))
 aH)
 aH)
theorem zg:∀ n,n∈[38,60,62,13,120,10,34,9]->∀ dp o1 o2 o3 o4 cel r H kn kr,FH (Nat.succ (Nat.succ dp)) ⟨[some .page,o1,o2,o3,o4,some (.pos (lit (bJ n)++r)),some (.pos (lit (bJ n)++r))],cel⟩ H kn kr=kn ⟨[some .page,o1,o2,o3,o4,some (.pos (lit (bJ n)++r)),some (.pos (.c ((bJ n).getLastD 0) :: r))],cel⟩ H:=by
 intro n hn
 simp only [List.mem_cons,List.not_mem_nil,or_false] at hn
 rcases hn with rfl | rfl | rfl | rfl | rfl | rfl | rfl | rfl<;>(intros; rfl)
def vy (T:SS):DS :=
 (aq (kJ (fK (ae (cg an) (ae (cg an) (ae (cg an) (ae (bx 0) (ae (Fr T) an)))))) (iY [(bB 1),(bB 2),(bB 3),(bB 4),(bB 5)]))
 (aq (vF (bp Ig (ak 5) (a9 FJ (ae (ak 0) an))) (aq (b9 6 (ak 5))
 (aq (wx FH)
 (aq (dIf (bp D5 (aJ eP (ak 0) (ak 5)) (aV (lit [60])))
 (aq (wE fJ fk vR (aJ eP (ak 1) dn) (bx 2) (bx 1))
 (aq (bV (bF cc b7 (ak 2) (ae (aJ eP (aJ eP (ak 1) dn) (bx 1)) an)))
 aH))
 (aq (dIf (bp CF (aJ eP (ak 0) (aJ oR (ak 5) (bx 1))) (aV (lit [33])))
 (aq (bV (bF cc b7 (ak 3) (ae (fK (ae (aJ eP (aJ eP (ak 1) dn) (bx 1)) (ae (aJ eP (aJ eP (ak 1) dn) (bx 2)) an))) an)))
 aH)
 (aq (dIf (bp D5 (aJ eP (ak 0) (aJ oR (ak 5) (bx 1))) (aV (lit [47])))
 (aq (mK fk 4 (bx 1))
 (aq (bV (bF cc b7 (ak 1) (ae (cg (ae (aJ eP (bF eZ vP (aJ eP (ak 0) (fO (aJ oR (ak 5) (bx 1)) (ak 6) bR)) (ae (aV (lit [32])) an)) (bx 0)) (ae (ak 4) (ae (bx 0) an)))) an)))
 aH))
 (aq (dIf (bp D5 (aJ eP (bF cc CA (ak 1) an) (bx 0)) (aJ eP (ak 0) (fO (aJ oR (ak 5) (bx 2)) (ak 6) bR)))
 (aq (dq (fK (ae (cg an) (ae (cg an) an))))
 aH)
 aH)
 aH))
 aH))
 aH))
 (aq (b9 5 (aJ oR (ak 6) (bx 1)))
 aH)))) 100)
 (aq (dq (fK (ae (a9 iT (ae (ak 2) an)) (ae (a9 iT (ae (ak 3) an)) an))))
 aH)))
def nK (T:SS):DC:=dFn [some 0,none,none,none,none,none,none] [] [] (vy T)
theorem tn {C:Cx} (P:PC C) {T:SS} (hT:C.σ.page=T):SC C (.ref 303) 1 (nK T):=by refine_lift' ((cL P.toPC0 (tab:=["page", "stack", "inner", "gaps", "count", "at", "end"]) (ctab:=[]) (pn:=["page"]) (dvv:=[])) rfl rfl rfl rfl rfl rfl rfl rfl rfl ⟨⟩ (by decide) (by decide) (by decide) (j9 P.toPC0 fun _ _=>rfl) (fun _ _=>.nil) (by decide) (by decide) (ag (iZ (cz (ac (bn ah) (ac (bn ah) (ac (bn ah) (ac aF (ac (Db hT) ah ⟨⟩) ⟨⟩) ⟨⟩) ⟨⟩) ⟨⟩) rfl) ((f5 (ts:=[assign (.Name "stack" ⟨373,4,373,9⟩),assign (.Name "inner" ⟨373,11,373,16⟩),assign (.Name "gaps" ⟨373,18,373,22⟩),assign (.Name "count" ⟨373,24,373,29⟩),assign (.Name "at" ⟨373,31,373,33⟩)])) ⟨(bb rfl rfl rfl cN),(bb rfl rfl rfl cN),(bb rfl rfl rfl cN),(bb rfl rfl rfl cN),(bb rfl rfl rfl cN),trivial⟩ ⟨⟩ rfl) ⟨⟩ (fun _ _=>rfl)) (ag (DW (aY nofun (ck rfl rfl (gS P) rfl (ac nofun ah ⟨⟩) ⟨⟩ C3) GE rfl) (ag (bE rfl rfl rfl cN nofun ⟨⟩) (ag (Cd (b4 (cV (eE (aY (aX nofun nofun eY fun _ _=>⟨_,rfl⟩) ((au (l:=lit [60])) rfl) qt rfl) (eE (aY (aX nofun nofun eY fun _ _=>⟨_,rfl⟩) ((au (l:=lit [38])) rfl) qt rfl) eC))) (ag (bE rfl rfl rfl cN (aD nofun (bc rfl rfl (pT P) rfl (P.fn rfl) (ac (aX nofun (dA (dH nofun) cu cu) eY fun _ _=>⟨_,rfl⟩) (ac (fe (aY (aX nofun nofun eY fun _ _=>⟨_,rfl⟩) ((au (l:=lit [60])) rfl) qt rfl) ((au (l:=lit [62])) rfl) ((au (l:=lit [59])) rfl)) ah ⟨⟩) ⟨⟩) ⟨⟩ (oe P)) jr) ⟨⟩) ax) ax) zg) (ag (b4 (aY (aX nofun nofun eY fun _ _=>⟨_,rfl⟩) ((au (l:=lit [60])) rfl) us rfl) (ag (yZ (aX nofun cD eY fun _ _=>⟨_,rfl⟩) aF fR aF dc zl fun _ _ _=>rfl) (ag (bw rfl (aI ⟨⟩ ⟨⟩ rfl F.plainAttrs_list F.slot_list_append F.type_list_append ⟨⟩ nofun (fun ok h r=>bh ok h r) (ac (aX (aX nofun cD eY fun _ _=>⟨_,rfl⟩) aF eY fun _ _=>⟨_,rfl⟩) ah ⟨⟩) bL) ⟨⟩) ax)) (ag (b4 (aY (aX nofun (aD nofun aF jr) eY fun _ _=>⟨_,rfl⟩) ((au (l:=lit [33])) rfl) qt rfl) (ag (bw rfl (aI ⟨⟩ ⟨⟩ rfl F.plainAttrs_list F.slot_list_append F.type_list_append ⟨⟩ nofun (fun ok h r=>bh ok h r) (ac (cz (ac (aX (aX nofun cD eY fun _ _=>⟨_,rfl⟩) aF eY fun _ _=>⟨_,rfl⟩) (ac (aX (aX nofun cD eY fun _ _=>⟨_,rfl⟩) aF eY fun _ _=>⟨_,rfl⟩) ah ⟨⟩) ⟨⟩) rfl) ah ⟨⟩) bL) ⟨⟩) ax) (ag (b4 (aY (aX nofun (aD nofun aF jr) eY fun _ _=>⟨_,rfl⟩) ((au (l:=lit [47])) rfl) us rfl) (ag (iS rfl rfl rfl cN aF dc) (ag (bw rfl (aI ⟨⟩ ⟨⟩ rfl F.plainAttrs_list F.slot_list_append F.type_list_append ⟨⟩ nofun (fun ok h r=>bh ok h r) (ac (bn (ac (aX (aI ⟨⟩ ⟨⟩ rfl F.plainAttrs_str F.slot_str_split F.type_str_split ⟨⟩ (aX nofun (dA (dH (aD nofun aF jr)) (dH nofun) cu) eY fun _ _=>⟨_,rfl⟩) (fun ok h r=>cq ok h r) (ac ((au (l:=lit [32])) rfl) ah ⟨⟩) yB) aF eY fun _ _=>⟨_,rfl⟩) (ac nofun (ac aF ah ⟨⟩) ⟨⟩) ⟨⟩)) ah ⟨⟩) bL) ⟨⟩) ax)) (ag (b4 (aY (aX (aI ⟨⟩ ⟨⟩ rfl F.plainAttrs_list F.slot_list_pop F.type_list_pop ⟨⟩ nofun (fun ok h r=>bh ok h r) ah qJ) aF eY fun _ _=>⟨_,rfl⟩) (aX nofun (dA (dH (aD nofun aF jr)) (dH nofun) cu) eY fun _ _=>⟨_,rfl⟩) us rfl) (ag (cj (cz (ac (bn ah) (ac (bn ah) ah ⟨⟩) ⟨⟩) rfl)) ax) ax) ax)) ax)) ax)) (ag (bE rfl rfl rfl cN (aD nofun aF jr) ⟨⟩) ax))))) (ag (cj (cz (ac (bc rfl rfl (mA P) rfl (P.fn rfl) (ac nofun ah ⟨⟩) ⟨⟩ (kE P)) (ac (bc rfl rfl (mA P) rfl (P.fn rfl) (ac nofun ah ⟨⟩) ⟨⟩ (kE P)) ah ⟨⟩) ⟨⟩) rfl)) ax))))
end
end Mine
namespace Mine
open PySem
def fN {α:Type} (n:Nat) (k:Nat->α):α:=nr (k 0) (fun i=>k (Nat.succ i)) n
theorem wj {α:Type} (n:Nat) (k:Nat->α):fN n k=k n:=by induction n using Nat.casesAuxOn<;>rfl
def fF (l:List Nat):Nat->Nat:=@List.rec Nat (fun _=>Nat->Nat) (fun _=>0) (fun x _ ih i=>nr x (fun i=>ih i) i) l
def oC {α:Type} (l:List α):Nat:=@List.rec α (fun _=>Nat) 0 (fun _ _ ih=>Nat.succ ih) l
def EK (o:List Nat) (fuel:Nat):Nat->Nat->Nat->Nat:=@Nat.rec (fun _=>Nat->Nat->Nat->Nat) (fun x lo hi=>Nat.add lo (Nat.mul 8 hi)) (fun _ ih x lo hi=>fN (fF o x) fun y=>ih y (br y lo (Nat.ble lo y)) (br y hi (Nat.ble y hi))) fuel
def ci (o:List Nat):List Nat:=fN (oC o) fun n=>@List.rec Nat (fun _=>Nat->List Nat) (fun _=>[]) (fun _ _ ih p=>fN (EK o n p p p) fun c=>c :: ih (Nat.succ p)) o 0
def yK (cs:List Nat):List Nat:=@List.rec Nat (fun _=>Nat->List Nat) (fun _=>[]) (fun c _ ih p=>fN (Nat.add (br 0 1 (Nat.beq (Nat.mod c 8) p)) (br 0 (Nat.mul 2 (Nat.succ (Nat.mod c 8))) (Nat.beq (Nat.div c 8) p))) fun a=>a :: ih (Nat.succ p)) cs 0
def apK (x y:SS):SS:=@List.rec SA (fun _=>SS) y (fun a _ ih=>a :: ih) x
def F4 (rw:Bool):SS:=br [.c 113] [.c 110,.c 48] rw
def inT (rw:Bool):SS:=br [.c 112,.c 48] [.c 110,.c 49] rw
def HV (rw:Bool) (ps:List Nat):Nat->Nat->SS:=@List.rec Nat (fun _=>Nat->Nat->SS) (fun _ _=>.c 60 :: .c 47 :: apK (F4 rw) [.c 58,.c 114,.c 62])
 (fun c _ ih p d =>
  let rest:Nat->SS:=fun d=>.spl p :: nr (.c 60 :: .c 33 :: .c 45 :: .c 45 :: .spl p :: .c 45 :: .c 45 :: .c 62 :: fN d fun d=>ih (Nat.succ p) d) (fun l=>.c 60 :: .c 47 :: apK (inT rw) (.c 58 :: .nam l :: .c 62 :: .c 60 :: .c 33 :: .c 45 :: .c 45 :: .spl p :: .c 45 :: .c 45 :: .c 62 :: fN (Nat.pred d) fun d=>ih (Nat.succ p) d)) (Nat.div c 2)
  br (rest d) (.c 60 :: apK (inT rw) (.c 58 :: .nam p :: nr (.c 32 :: .c 120 :: .c 109 :: .c 108 :: .c 110 :: .c 115 :: .c 58 :: apK (inT rw) (.c 61 :: .c 34 :: .c 117 :: .c 34 :: .c 62 :: rest 1)) (fun e=>.c 62 :: rest (Nat.succ (Nat.succ e))) d)) (Nat.beq (Nat.mod c 2) 1)) ps
def eU (rw:Bool) (ps:List Nat):SS:=.c 60 :: apK (F4 rw) (.c 58 :: .c 114 :: .c 32 :: .c 120 :: .c 109 :: .c 108 :: .c 110 :: .c 115 :: .c 58 :: apK (F4 rw) (.c 61 :: .c 34 :: .c 118 :: .c 34 :: .c 62 :: HV rw ps 0 0))
def iE (x:SS):(SS->Bool)->Bool:=@List.rec SA (fun _=>(SS->Bool)->Bool) (fun k=>k []) (fun a _ ih k=>@SA.rec (fun _=>Bool) (fun n=>aZ n fun n=>ih fun r=>k (.c n :: r)) (fun j=>aZ j fun j=>ih fun r=>k (.sgn j :: r)) (fun j=>aZ j fun j=>ih fun r=>k (.spl j :: r)) (fun j=>aZ j fun j=>ih fun r=>k (.lst j :: r)) (fun j=>aZ j fun j=>ih fun r=>k (.nam j :: r)) a) x
theorem lv (x:SS):∀ k,iE x k=k x:=by
 induction x with
 | nil=>intro k; rfl
 | cons a x ih =>
  intro k
  induction a using SA.casesOn with
  | c n=>show (aZ n fun n=>iE x fun r=>k (.c n :: r))=_; rw [aP,ih]
  | sgn n=>show (aZ n fun n=>iE x fun r=>k (.sgn n :: r))=_; rw [aP,ih]
  | spl n=>show (aZ n fun n=>iE x fun r=>k (.spl n :: r))=_; rw [aP,ih]
  | lst n=>show (aZ n fun n=>iE x fun r=>k (.lst n :: r))=_; rw [aP,ih]
  | nam n=>show (aZ n fun n=>iE x fun r=>k (.nam n :: r))=_; rw [aP,ih]
structure El where
 num:Nat
 cnt:Nat
 nm:Nat
def mN {α:Type} (z:α) (s:List El) (k:Nat->Nat->Nat->List El->α):α:=@List.rec El (fun _=>α) z (fun e r _=>@El.rec (fun _=>α) (fun a b c=>k a b c r) e) s
def fD (ps:List Nat):Nat->Nat->List El->List Nat->List Nat->Bool->(List Nat->List Nat->Bool->Bool)->Bool :=
 @List.rec Nat (fun _=>Nat->Nat->List El->List Nat->List Nat->Bool->(List Nat->List Nat->Bool->Bool)->Bool) (fun _ _ _ inn gaps cr k=>k inn gaps cr)
  (fun c _ ih p count st inn gaps cr k =>
   (fun (go:Nat->List El->Bool)=>br (go count st) (aZ (Nat.succ count) fun n=>go n (⟨n,0,p⟩ :: st)) (Nat.beq (Nat.mod c 2) 1))
   fun count st=>mN false st fun a b nm r=>aZ (Nat.succ b) fun b=>nr
    (ih (Nat.succ p) count (⟨a,b,nm⟩ :: r) (a :: inn) (Nat.add a (Nat.mul 64 b) :: gaps) cr k)
    (fun l=>mN false r fun a' b' _ _=>ih (Nat.succ p) count r (a :: inn) (Nat.add a' (Nat.mul 64 b') :: gaps) (br true cr (Nat.beq l nm)) k) (Nat.div c 2)) ps
def Iv (ks:List Nat) (n key:Nat) (fuel:Nat):Nat->Nat:=@Nat.rec (fun _=>Nat->Nat) (fun _=>0) (fun _ ih j=>fN (Nat.mod j n) fun m=>br (ih (Nat.succ j)) m (Nat.beq (fF ks m) key)) fuel
def yS (ks:List Nat):List Nat:=fN (oC ks) fun n=>@List.rec Nat (fun _=>Nat->List Nat) (fun _=>[]) (fun key _ ih i=>fN (Iv ks n key n (Nat.succ i)) fun j=>j :: ih (Nat.succ i)) ks 0
def pG (l:List Nat):List Nat->List Nat:=@List.rec Nat (fun _=>List Nat->List Nat) (fun a=>a) (fun x _ ih a=>ih (x :: a)) l
def gL (l:List Nat):(List Nat->Bool)->Bool:=@List.rec Nat (fun _=>(List Nat->Bool)->Bool) (fun k=>k []) (fun a _ ih k=>aZ a fun a=>ih fun r=>k (a :: r)) l
theorem ju (l:List Nat):∀ k,gL l k=k l:=by
 induction l with
 | nil=>intro k; rfl
 | cons a l ih=>intro k; show (aZ a fun a=>gL l fun r=>k (a :: r))=_; rw [aP,ih]
def wC (ps:List Nat) (k:List Nat->List Nat->Bool->Bool):Bool:=fD ps 0 1 [⟨1,0,99⟩] [] [] false fun inn gaps cr=>gL (yS (pG inn [])) fun a=>gL (yS (pG gaps [])) fun b=>k a b cr
def GP (a:List Nat):List Nat->Bool:=@List.rec Nat (fun _=>List Nat->Bool) (fun b=>@List.rec Nat (fun _=>Bool) true (fun _ _ _=>false) b) (fun x _ ih b=>@List.rec Nat (fun _=>Bool) false (fun y b _=>br false (ih b) (Nat.beq x y)) b) a
theorem xR {a:List Nat}:∀ {b:List Nat},GP a b=true->a=b:=by
 induction a with
 | nil=>intro b h; induction b using List.casesOn with
  | nil=>rfl
  | cons _ _=>exact ffE h
 | cons x a ih=>intro b h; induction b using List.casesOn with
  | nil=>exact ffE h
  | cons y b =>
   change br false (GP a b) (Nat.beq x y)=true at h
   induction e:Nat.beq x y using Bool.casesOn with
   | false=>rw [e] at h; exact ffE h
   | true=>rw [e] at h; rw [ZbE e,ih h]
def mkH (aos:List AO):HP->(HP->Bool)->Bool:=@List.rec AO (fun _=>HP->(HP->Bool)->Bool) (fun H k=>k H) (fun ao _ ih H k=>H.push ao fun _ H=>ih H k) aos
theorem ze (aos:List AO):∀ (H:HP) (k:HP->Bool),mkH aos H k=true->∃ H':HP,k H'=true∧H'.n=H.n+aos.length∧∀ i,H'.get i=if i<H.n then H.get i else if i<H.n+aos.length then aos[i-H.n]? else H.get i:=by
 induction aos with
 | nil =>
  intro H k h
  refine (bA H h rfl (fun i=>?_))
  by_cases e:i<H.n
  ·rw [if_pos e]
  ·rw [if_neg e,if_neg (by simpa using e)]
 | cons ao aos ih =>
  intro H k h
  refine aU (HP.push_spec (H:=H) (x:=ao) (k:=fun _ H=>mkH aos H k) h) fun H₁ h1 h2 h3=>?_
  refine aU (ih H₁ k h1) fun H₂ g1 g2 g3=>?_
  refine (bA H₂ g1 (by rw [g2,h2,List.length_cons]; omega) (fun i=>?_))
  rw [g3,h2]
  by_cases e1:i<H.n
  ·rw [if_pos (by clear g2 h2; omega),if_pos e1,h3,if_neg (by clear g2 h2; omega)]
  ·rw [if_neg e1]
   by_cases e2:i=H.n
   ·subst e2
    rw [if_pos (by omega),h3,if_pos rfl,if_pos (by rw [List.length_cons]; omega)]
    simp
   ·rw [if_neg (by clear g2 h2; omega)]
    by_cases e3:i<H.n+1+aos.length
    ·rw [if_pos e3,if_pos (by rw [List.length_cons]; clear e2 e1 g2 h2; omega)]
     have zh2:∃ d,i=H.n+1+d:=⟨i-(H.n+1),by clear e3 g2 h2; omega⟩
     nomatch Ze1 zh2,zh2
     intro d zq1
     subst zq1
     rw [show H.n+1+d-(H.n+1)=d by omega,show H.n+1+d-H.n=d+1 by omega]
     rfl
    ·rw [if_neg e3,if_neg (by rw [List.length_cons]; clear e2 e1 g2 h2; omega),h3,if_neg (by omega)]
def emptyH:HP:=⟨0,.nil⟩
theorem G4 {aos:List AO} {k:HP->Bool} (h:mkH aos emptyH k=true):∃ H':HP,k H'=true∧H'.n=aos.length∧∀ i,H'.get i=aos[i]?:=by
 refine aU (ze aos emptyH k h) fun H' h1 h2 h3=>?_
 have hn:emptyH.n=0:=rfl
 refine (bA H' h1 (by rw [h2,hn,Nat.zero_add]) (fun i=>?_))
 rw [h3,hn,if_neg (Nat.not_lt_zero i),Nat.zero_add,Nat.sub_zero]
 by_cases e:i<aos.length
 ·rw [if_pos e]
 ·rw [if_neg e,List.getElem?_eq_none (by omega)]; rfl
def gM (xs:List AV):AO:=.list (oC xs) (@List.rec AV (fun _=>List AV->List AV) (fun a=>a) (fun x _ ih a=>ih (x :: a)) xs [])
theorem qL {α:Type} (l:List α):oC l=l.length:=by induction l with
 | nil=>rfl
 | cons a l ih=>show Nat.succ (oC l)=_; rw [ih]; rfl
theorem f6 (xs:List AV):gM xs = .list xs.length xs.reverse:=by
 unfold gM
 rw [qL]
 congr 1
 have:∀ (xs a:List AV),@List.rec AV (fun _=>List AV->List AV) (fun a=>a) (fun x _ ih a=>ih (x :: a)) xs a=xs.reverse++a:=by
  intro xs
  induction xs with
  | nil=>intro a; rfl
  | cons x xs ih=>intro a; show @List.rec AV (fun _=>List AV->List AV) (fun a=>a) (fun x _ ih a=>ih (x :: a)) xs (x :: a)=_; rw [ih]; simp
 rw [this,List.append_nil]
def io {α:Type} (g:Nat->Nat->α) (o:List Nat):Nat->List α:=@List.rec Nat (fun _=>Nat->List α) (fun _=>[]) (fun x _ ih p=>g p x :: ih (Nat.succ p)) o
theorem nV {α:Type} (g:Nat->Nat->α) (o:List Nat):∀ (p i:Nat),(io g o p)[i]?=o[i]?.map (g (p+i)):=by
 induction o with
 | nil=>intro p i; simp [io]
 | cons x o ih =>
  intro p i
  refine (?_:(g p x :: io g o (Nat.succ p))[i]?=_)
  induction i using Nat.casesAuxOn with
  | zero=>rfl
  | succ i=>rw [List.getElem?_cons_succ,ih]; show _=Option.map _ o[i]?; rw [show p.succ+i=p+(i+1) by omega]
end Mine
namespace Mine
open PySem PySem.W PySem.Calls PyProof.Rows
section
local macro_rules | `(⟨⟩)=>`(fun _=>rfl)
theorem sS {C:Cx} (P:PC0 C):C.GlobV "_law_cells" (.ref 257):=P.glob (by kernel_rfl)
theorem tB {C:Cx} (P:PC C):C.GlobV "_law_dealt" (.ref 264):=P.glob (by kernel_rfl)
theorem qG {C:Cx} (P:PC C):C.GlobV "_law_number" (.ref 269):=P.glob (by kernel_rfl)
theorem ou {C:Cx} (P:PC C):C.GlobV "_law_page" (.ref 291):=P.glob (by kernel_rfl)
theorem pJ {C:Cx} (P:PC C):C.GlobV "_law_partner" (.ref 274):=P.glob (by kernel_rfl)
theorem ot {C:Cx} (P:PC C):C.GlobV "_law_read" (.ref 303):=P.glob (by kernel_rfl)
theorem qn {C:Cx} (P:PC C):C.GlobV "countOf" (.ref 231):=P.glob (by kernel_rfl)
theorem wV {C:Cx} (P:PC C):C.GlobV "sorted" (.builtin "sorted"):=P.blt (by kernel_rfl) (by kernel_rfl) (by decide)
theorem Ii {C:Cx} (P:PC C):C.GlobV "sub" (.ref 224):=P.glob (by kernel_rfl)
theorem II {C:Cx} (P:PC0 C):C.GlobV "sum" (.builtin "sum"):=P.blt (by kernel_rfl) (by kernel_rfl) (by decide)
theorem oq:(["a", "b", "count", "i"]:List Str).Nodup:=by decide
def yb:DS :=
 (aq (b9 2 (bx 0))
 (aq (Il 0 1 3 2)
 (aq (dq (ak 2))
 aH)))
def lF:DC:=dFn [some 0,some 1,none,none] [] [] yb
theorem oy {C:Cx} (P:PC C):SC C (.ref 231) 2 lF :=
 cL P.toPC0 (tab:=["a", "b", "count", "i"]) (ctab:=[]) (pn:=["a", "b"]) (dvv:=[]) rfl rfl rfl rfl rfl rfl rfl rfl rfl ⟨⟩ (by decide) (by decide) (by decide) (gh P.toPC0 fun _ _ _=>rfl) (fun _ _=>.nil) (by decide) (by decide)
 (ag (bE rfl rfl rfl oq aF ⟨⟩)
 (ag (Iz P.t1 rfl rfl rfl rfl rfl (ia:=0) (ib:=1) (ii:=3) (ic:=2) rfl rfl rfl rfl oq (by decide) (by decide) (by decide) rfl rfl rfl)
 (ag (cj nofun)
 ax)))
def sI:DS :=
 (aq (gK 1 (cg (ae (ER 1) (ae (bx 27) (ae (bx 144392) (ae (bx 588) an))))))
 (aq (dq (hW nxR (dW mkR (a9 eQ (ae (bx 4) an))) (List.replicate 1 none) [0,1] (bB 0) dTt (CS (aJ fJ (bK 1) (ak 0)) (bK 0) (fO (ak 0) bR (bx 4)))))
 aH))
def lW:DC:=dFn [] [some 0,none] [] sI
theorem qU {C:Cx} (P:PC0 C) (L:LC C):SC C (.ref 257) 1 lW :=
 cL P (tab:=[]) (ctab:=["script", "starts"]) (pn:=["script"]) (dvv:=[]) rfl rfl rfl rfl rfl rfl rfl rfl rfl ⟨⟩ (by decide) (by decide) (by decide) (j9 P fun _ _=>rfl) (fun _ _=>.nil) (by decide) (by decide)
 (ag (gr rfl rfl (.inl rfl) rfl (bn (ac DU (ac aF (ac aF (ac aF ah ⟨⟩) ⟨⟩) ⟨⟩) ⟨⟩)) fun _ _=>rfl)
 (ag (cj (gH (tab:=["k"]) (ctab:=["script", "starts"]) (clay:=[0,1]) (cY rfl) gF dE (eF dF (bT rfl rfl (dN P) rfl (ac aF ah ⟨⟩) ⟨⟩ dd)) (bb rfl rfl rfl (nd rfl)) fZ (Cc L rfl rfl (II P) rfl (aX (aM rfl rfl (.inl rfl) rfl rfl) nofun fR fun _ _=>⟨_,rfl⟩) (aM rfl rfl (.inl rfl) rfl rfl) (dA (dH nofun) cu (dH aF)) (fun _ _=>⟨_,rfl⟩) ⟨⟩) fun _ _=>rfl))
 ax))
theorem jN:(["script", "number", "names", "signs", "partner", "page", "other", "lack"]:List Str).Nodup:=by decide
def yR:DS:=(gK 0 (a9 lW (ae (ak 0) an)))
def Bs (r0 r1:Nat) (ce cp cr:DC):DS :=
 (aq (gK 1 (aJ bY (bx 4) (aJ (l5 r0 r1) (aJ i4 (bK 0) (bx 0)) (bx 3))))
 (aq (b9 1 (aJ (l5 r0 r1) (aJ i4 (bK 0) (bx 1)) (aJ i4 (cg (ae (bx 24) (ae (bx 120) (ae (bx 720) an)))) (aJ lT (bK 1) (bx 4)))))
 (aq (gK 2 (hW nxR (dW mkR (a9 eQ (ae (bK 1) an))) (List.replicate 1 none) [0] (bB 0) dTt (aJ i4 (cg (ae (aV (lit [38])) (ae (aV (lit [60])) (ae (aV (lit [62])) (ae (aV (lit [13])) (ae (aV (lit [120])) (ae (aV (lit [10])) (ae (aV (lit [34])) (ae (aV (lit [9])) an))))))))) (aJ (l5 r0 r1) (aJ EC (aJ i4 (bK 0) (bx 2)) (aJ G2 (bx 8) (ak 0))) (bx 8)))))
 (aq (b9 2 (hW nxR (dW mkR (a9 eQ (ae (bK 1) an))) (List.replicate 1 none) [0] (bB 0) dTt (aJ i4 (cg (ae (aV (lit [97])) (ae (aV (lit [98])) (ae (aV (lit [97,98])) an)))) (aJ (l5 r0 r1) (aJ EC (aJ i4 (bK 0) (bx 3)) (aJ G2 (bx 3) (ak 0))) (bx 3)))))
 (aq (kJ (a9 (mH ce) (ae (ak 1) (ae (bK 1) (ae (a9 vK (ae (bK 2) an)) an)))) (iY [(EH 3),(bB 3)]))
 (aq (dIf (jy (bp pNe (a9 vL (ae (bK 3) an)) (a9 vK (ae (a9 eQ (ae (bK 1) an)) an))) (jy (bp pNe (a9 kC (ae (bK 3) an)) (ak 1)) (jy (bp pNe (ak 3) (hW nxL (dW mkL (bK 3)) (List.replicate 1 none) [2] (bB 0) dTt (aJ i4 (bK 0) (ak 0)))) jc)))
 (aq (dq (iH false))
 aH)
 aH)
 (aq (b9 4 (a9 jF (ae (bK 3) an)))
 (aq (dIf (bp pNe (ak 4) (hW nxR (dW mkR (a9 eQ (ae (bK 1) an))) (List.replicate 1 none) [1,3] (bB 0) dTt (bF cc CU (bK 1) (ae (aJ (l5 r0 r1) (aJ bY (ak 0) (bx 1)) (bK 0)) an))))
 (aq (dq (iH false))
 aH)
 aH)
 (aq (rE (fK (ae (a9 cp (ae (bK 3) (ae (ak 3) (ae (ak 2) (ae (iH false) an))))) (ae (a9 cp (ae (ak 4) (ae (ak 3) (ae (ak 2) (ae (iH true) an))))) an))) [bB 6,bB 5])
 (aq (dIf (jy (bp Ds (ak 5) bR) (jy (bp Ds (ak 6) bR) jc))
 (aq (dq (iH false))
 aH)
 aH)
 (aq (b9 7 (a9 EQ (ae (aJ bY (bK 1) (bx 3)) (ae (a9 wq (ae (a9 lF (ae (ak 5) (ae (aV (lit [47])) an))) (ae (a9 lF (ae (ak 6) (ae (aV (lit [47])) an))) an))) an))))
 (aq (dIf (jy (bp pLt (ak 7) (bx 0)) (jy (bp pEq (aJ (l5 r0 r1) (ak 7) (bx 2)) (bx 1)) jc))
 (aq (dq (iH false))
 aH)
 aH)
 (aq (dq (kK (bp pEq (ak 7) (bx 0)) (aJ pEq (a9 cr (ae (ak 5) an)) (fK (ae (bK 3) (ae (ak 4) an)))) (aJ pNe (aJ i4 (a9 cr (ae (ak 5) an)) (bx 0)) (bK 3))))
 aH)))))))))))))
def Dj (p:Params) (a:Addr):Scope:=match (hd.heap_1 p).lookup a with
 | some ⟨_,_,.func fd,_⟩=>fd.scope
 | _=>default
noncomputable def sF:{ q:Scope × Stmt × List Stmt // ∀ p,Dj p 308=q.1∧i9 p 308=q.2.1 :: q.2.2 }:=⟨(_,_,_),fun p=>⟨rfl,rfl⟩⟩
theorem EE {C:Cx} (P:PC0 C) (L:LC C) {cd:Value} {q:Str}:S1 C ⟨sF.1.1,["script", "number", "names", "signs", "partner", "page", "other", "lack"],["cells", "n", "row", "order"],cd,q⟩ sF.1.2.1 yR :=
 (gr rfl rfl (.inl rfl) rfl (bc rfl rfl (sS P) rfl (P.fn rfl) (ac nofun ah ⟨⟩) ⟨⟩ (qU P L)) fun _ _=>rfl)
theorem D4 {C:Cx} (P:PC C) (L:LC C) {r0 r1:Nat} (h0:Int.fmod (C.σ.cel 0) 3=(r0:Int)) (h1:Int.fmod (C.σ.cel 1) (tq r0:Int)=(r1:Int)) {ce cp cr:DC} (he:SC C (.ref 203) 2 ce) (hp:SC C (.ref 291) 4 cp) (hr:SC C (.ref 303) 1 cr) {cd:Value} {q:Str}:S C ⟨sF.1.1,["script", "number", "names", "signs", "partner", "page", "other", "lack"],["cells", "n", "row", "order"],cd,q⟩ sF.1.2.2 (Bs r0 r1 ce cp cr):=by refine_lift' ((ag (gr rfl rfl (.inl rfl) rfl (aD aF (aD (aX (aM rfl rfl (.inl rfl) rfl rfl) aF (kH L) fun _ _=>⟨_,rfl⟩) aF (jp h0 h1)) be) fun _ _=>rfl) (ag (bE rfl rfl rfl jN (aD (aX (aM rfl rfl (.inl rfl) rfl rfl) aF (kH L) fun _ _=>⟨_,rfl⟩) (aX (bn (ac aF (ac aF (ac aF ah ⟨⟩) ⟨⟩) ⟨⟩)) (aD (aM rfl rfl (.inl rfl) rfl rfl) aF iB) (kH L) fun _ _=>⟨_,rfl⟩) (jp h0 h1)) ⟨⟩) (ag (gr rfl rfl (.inl rfl) rfl ((gH (tab:=["j"]) (ctab:=["cells"]) (clay:=[0])) (cY rfl) gF dE (eF dF (bT rfl rfl (dN P.toPC0) rfl (ac (aM rfl rfl (.inl rfl) rfl rfl) ah ⟨⟩) ⟨⟩ dd)) (bb rfl rfl rfl (nd rfl)) fZ (aX (bn (ac ((au (l:=lit [38])) rfl) (ac ((au (l:=lit [60])) rfl) (ac ((au (l:=lit [62])) rfl) (ac ((au (l:=lit [13])) rfl) (ac ((au (l:=lit [120])) rfl) (ac ((au (l:=lit [10])) rfl) (ac ((au (l:=lit [34])) rfl) (ac ((au (l:=lit [9])) rfl) ah ⟨⟩) ⟨⟩) ⟨⟩) ⟨⟩) ⟨⟩) ⟨⟩) ⟨⟩) ⟨⟩)) (aD (aD (aX (aM rfl rfl (.inl rfl) rfl rfl) aF (kH L) fun _ _=>⟨_,rfl⟩) (aD aF nofun AB) uy) aF (jp h0 h1)) (kH L) fun _ _=>⟨_,rfl⟩) fun _ _=>rfl) (vk rfl)) (ag ((ll (tab:=["j"]) (ctab:=["cells"]) (clay:=[0])) (cY rfl) gF rfl rfl rfl jN dE (eF dF (bT rfl rfl (dN P.toPC0) rfl (ac (aM rfl rfl (.inl rfl) rfl rfl) ah ⟨⟩) ⟨⟩ dd)) (bb rfl rfl rfl (nd rfl)) fZ (aX (bn (ac ((au (l:=lit [97])) rfl) (ac ((au (l:=lit [98])) rfl) (ac ((au (l:=lit [97,98])) rfl) ah ⟨⟩) ⟨⟩) ⟨⟩)) (aD (aD (aX (aM rfl rfl (.inl rfl) rfl rfl) aF (kH L) fun _ _=>⟨_,rfl⟩) (aD aF nofun AB) uy) aF (jp h0 h1)) (kH L) fun _ _=>⟨_,rfl⟩) (fun _ _=>rfl) (i5 rfl rfl rfl rfl)) (ag (iZ (bc rfl rfl (tB P) rfl (P.fn rfl) (ac nofun (ac (aM rfl rfl (.inl rfl) rfl rfl) (ac (bT rfl rfl (qw P) rfl (ac (aM rfl rfl (.inl rfl) rfl rfl) ah ⟨⟩) ⟨⟩ rT) ah ⟨⟩) ⟨⟩) ⟨⟩) ⟨⟩ (rR P he)) ((f5 (ts:=[assign (.Name "order" ⟨396,4,396,9⟩),assign (.Name "signs" ⟨396,11,396,16⟩)])) ⟨(ui rfl rfl (.inl rfl) rfl),(bb rfl rfl rfl jN),trivial⟩ ⟨⟩ rfl) ⟨⟩ (fun _ _=>rfl)) (ag (b4 (cV (eE (aY (ck rfl rfl (wV P) rfl (ac (aM rfl rfl (.inl rfl) rfl rfl) ah ⟨⟩) ⟨⟩ xx) (bT rfl rfl (qw P) rfl (ac (bT rfl rfl (dN P.toPC0) rfl (ac (aM rfl rfl (.inl rfl) rfl rfl) ah ⟨⟩) ⟨⟩ dd) ah ⟨⟩) ⟨⟩ rT) lZ rfl) (eE (aY (bc rfl rfl (qG P) rfl (P.fn rfl) (ac (aM rfl rfl (.inl rfl) rfl rfl) ah ⟨⟩) ⟨⟩ (pI P)) nofun lZ rfl) (eE (aY nofun ((gH (tab:=["place"]) (ctab:=["row"]) (clay:=[2])) (cY rfl) gF fY (eF dI (aM rfl rfl (.inl rfl) rfl rfl)) (bb rfl rfl rfl (nd rfl)) fZ (aX (aM rfl rfl (.inl rfl) rfl rfl) nofun (kH L) fun _ _=>⟨_,rfl⟩) fun _ _=>rfl) lZ rfl) eC)))) (ag (cj eO) ax) ax) (ag (bE rfl rfl rfl jN (bc rfl rfl (pJ P) rfl (P.fn rfl) (ac (aM rfl rfl (.inl rfl) rfl rfl) ah ⟨⟩) ⟨⟩ (nU P)) ⟨⟩) (ag (b4 (aY nofun ((gH (tab:=["place"]) (ctab:=["n", "order"]) (clay:=[1,3])) (cY rfl) gF dE (eF dF (bT rfl rfl (dN P.toPC0) rfl (ac (aM rfl rfl (.inl rfl) rfl rfl) ah ⟨⟩) ⟨⟩ dd)) (bb rfl rfl rfl (nd rfl)) fZ (aI ⟨⟩ ⟨⟩ rfl F.plainAttrs_list F.slot_list_index F.type_list_index ⟨⟩ (aM rfl rfl (.inl rfl) rfl rfl) (fun ok h r=>bh ok h r) (ac (aD (aD nofun aF be) (aM rfl rfl (.inl rfl) rfl rfl) (jp h0 h1)) ah ⟨⟩) Ba) fun _ _=>rfl) lZ rfl) (ag (cj eO) ax) ax) (ag ((rD (names:=["page", "other"])) (cz (ac (bc rfl rfl (ou P) rfl (P.fn rfl) (ac (aM rfl rfl (.inl rfl) rfl rfl) (ac nofun (ac nofun (ac eO ah ⟨⟩) ⟨⟩) ⟨⟩) ⟨⟩) ⟨⟩ hp) (ac (bc rfl rfl (ou P) rfl (P.fn rfl) (ac nofun (ac nofun (ac nofun (ac eO ah ⟨⟩) ⟨⟩) ⟨⟩) ⟨⟩) ⟨⟩ hp) ah ⟨⟩) ⟨⟩) rfl) rfl ⟨iC rfl rfl rfl jN,iC rfl rfl rfl jN,trivial⟩ ⟨⟩ (j1 rfl)) (ag (b4 (cV (eE (aY nofun ch t3 rfl) (eE (aY nofun ch t3 rfl) eC))) (ag (cj eO) ax) ax) (ag (bE rfl rfl rfl jN (bc rfl rfl (Ii P) rfl (P.fn rfl) (ac (aD (aM rfl rfl (.inl rfl) rfl rfl) aF be) (ac (bc rfl rfl (y1 P) rfl (P.fn rfl) (ac (bc rfl rfl (qn P) rfl (P.fn rfl) (ac nofun (ac ((au (l:=lit [47])) rfl) ah ⟨⟩) ⟨⟩) ⟨⟩ (oy P)) (ac (bc rfl rfl (qn P) rfl (P.fn rfl) (ac nofun (ac ((au (l:=lit [47])) rfl) ah ⟨⟩) ⟨⟩) ⟨⟩ (oy P)) ah ⟨⟩) ⟨⟩) ⟨⟩ (uC P)) ah ⟨⟩) ⟨⟩) ⟨⟩ (Gx P)) ⟨⟩) (ag (b4 (cV (eE (aY nofun aF Fy rfl) (eE (aY (aD nofun aF (jp h0 h1)) aF gC rfl) eC))) (ag (cj eO) ax) ax) (ag (cj (fe (aY nofun aF gC rfl) (q8 (bc rfl rfl (ot P) rfl (P.fn rfl) (ac nofun ah ⟨⟩) ⟨⟩ hr) (cz (ac (aM rfl rfl (.inl rfl) rfl rfl) (ac nofun ah ⟨⟩) ⟨⟩) rfl) gC rfl) (q8 (aX (bc rfl rfl (ot P) rfl (P.fn rfl) (ac nofun ah ⟨⟩) ⟨⟩ hr) aF (kH L) fun _ _=>⟨_,rfl⟩) (aM rfl rfl (.inl rfl) rfl rfl) lZ rfl))) ax))))))))))))))
end
section
variable {C:Cx} {X:Sc} {B:Bz} {f:Fm} {env:Env} {ρ:List Addr} {Z:Fz} {H:HP} {s:Shared} {A:Around}
theorem AOk.less {dp d:Nat} (h:AOk dp A) (hd:d≤dp):AOk d A:=⟨h.hd,by have:=h.dep; omega,by have:=h.un; omega⟩
theorem iu (ok:OK C X B f env ρ Z H s) {d:Nat} (hA:AOk d A) {σ':Sig} (wf:σ'.WF) (hbt:σ'.bt=C.σ.bt) {fv:Value} {n:Nat} {c:DC} (hc:SC (C.re σ' wf hbt) fv n c) {ρ₀:List Addr} {aos:List AO} {args:List AV} {vals:List Value} {kq0:AV->HP->Bool}
  (hrun:mkH aos emptyH (fun H=>c args d H kq0)=true) (hsub:∀ a∈ρ₀,a∈ρ) (hnd:ρ₀.Nodup) (htab:∀ (k:Nat) P,C.tabs[k]?=some P->ρ₀[k]?=some P) (hlen:ρ₀.length=aos.length)
  (hobj:∀ (j:Nat) a ao,ρ₀[j]?=some a->aos[j]?=some ao->∃ o,s.heap.get? a=some o∧ORel (C.re σ' wf hbt) ρ₀ Z ao o) (hv:VRs σ' ρ₀ Z args vals) (hn:args.length=n)
  (Q:Value->Shared->Prop) (E:Value->Shared->Prop)
  (hQ:∀ ρ₁ Z₁ H₁ s' b a,Ext ρ₀ Z ρ₁ Z₁->(∀ (j:Nat) a,ρ₁[j]?=some a->∃ ao o,H₁.get j=some ao∧s'.heap.get? a=some o∧ORel (C.re σ' wf hbt) ρ₁ Z₁ ao o)->VRel σ' ρ₁ Z₁ b a->kq0 b H₁=true->ρ₁.Nodup ->
   (∀ H',H'.n=H.n->(∀ (j:Nat) a,ρ[j]?=some a->a ∉ ρ₀->H'.get j=H.get j)->(∀ (j:Nat) a,ρ[j]?=some a->a∈ρ₀->∃ ao o,H'.get j=some ao∧s'.heap.get? a=some o∧ORel C ρ Z₁ ao o)->OK C X B f env ρ Z₁ H' s') ->
   (∀ a∈ρ₁,a ∉ ρ₀->a ∉ ρ∧(∀ o,¬ B a o)∧a ≠ env.locals∧(∀ o,¬ Z₁.ob a o)∧a ≠ 1)->Q a s'):wpAny (model C.prog C.w) A (call fv vals) Q E s:=by
 nomatch aU (G4 hrun),hrun
 intro H₀ h1 h2 h3
 obtain ⟨Bq0,f₀,okq0,back⟩:=ok.small (H₀:=H₀) wf hbt hsub hnd htab (hlen.trans h2.symm) fun j a hj=>by
  have hj':j<aos.length:=hlen ▸ (ZbS hj).1
  refine ad (hobj j a aos[j] hj (by simp [hj'])) fun o q1 q2=>?_
  exact (aK (aos[j]) o (by rw [h3]; simp [hj']) q1 q2)
 refine hc X d f₀ H₀ kq0 A env Bq0 ρ₀ Z s args vals h1 hA okq0 hv hn Q E fun ρ₁ Z₁ H₁ s' b a e ok₁ r hk=>?_
 refine Za1 (back ρ₁ Z₁ H₁ s' e ok₁) fun b1 b2=>?_
 exact hQ ρ₁ Z₁ H₁ s' b a e ok₁.g.obj r hk ok₁.g.nd b1 fun a ha hna=>⟨(b2 a ha hna).1,(b2 a ha hna).2.1,(b2 a ha hna).2.2,ok₁.g.az a ha,ok₁.g.no1 ha⟩
inductive Flat:AV->Prop
 | none:Flat .none
 | bool (b):Flat (.bool b)
 | int (i):Flat (.int i)
 | tin (i):Flat (.tin i)
 | tup {l}:(∀ x∈l.items,Flat x)->Flat (.tup l)
theorem ORel.tab_free {C C':Cx} (hf:C'.σ.fns=C.σ.fns) {ρ ρ':List Addr} {Z:Fz} {e:Option Nat} {o:Obj} (h:ORel C' ρ Z (.tab e) o):ORel C ρ' Z (.tab e) o:=by
 induction e using Option.casesOn with
 | none=>exact h
 | some i=>(refine Ze4 h ?_; clear h; intro T c oc vs zw0; refine ad zw0 ?_; clear zw0; intro u h1 h2); exact ⟨T,c,oc,vs,u,hf ▸ h1,h2⟩
def ue (ao:AO) (k:Option Nat->Bool):Bool:=@AO.rec (fun _=>Bool) (fun _ _=>false) (fun _=>false) (fun _=>false) (fun _=>false) (fun _=>false) (fun e=>k e) ao
theorem tI {ao:AO} {k:Option Nat->Bool} (h:ue ao k=true):∃ e,ao = .tab e∧k e=true:=by
 induction ao using AO.casesOn<;>first | exact (am _ rfl h) | exact ffE h
def HX (a b:Option Nat) (k:Bool):Bool:=@Option.rec Nat (fun _=>Bool) (@Option.rec Nat (fun _=>Bool) k (fun _=>false) b) (fun x=>@Option.rec Nat (fun _=>Bool) false (fun y=>br false k (Nat.beq x y)) b) a
theorem xN {a b:Option Nat} {k:Bool} (h:HX a b k=true):a=b∧k=true:=by
 induction a using Option.casesOn with
 | none=>induction b using Option.casesOn with
  | none=>exact ⟨rfl,h⟩
  | some _=>exact ffE h
 | some x=>induction b using Option.casesOn with
  | none=>exact ffE h
  | some y =>
   change br false k (Nat.beq x y)=true at h
   induction e:Nat.beq x y using Bool.casesOn with
   | false=>rw [e] at h; exact ffE h
   | true=>rw [e] at h; exact ⟨by rw [ZbE e],h⟩
def DQ (H:HP) (i:Nat) (e:Option Nat) (k:Bool):Bool:=H.getK i fun ao=>ue ao fun t=>HX t e k
theorem lq {i:Nat} {e:Option Nat} {k:Bool} (h:DQ H i e k=true):H.get i=some (.tab e)∧k=true:=by
 refine ad (HP.getK_true h) fun ao h1 h2=>?_
 nomatch ad (tI h2),h2
 intro t zq1 h3
 subst zq1
 refine Za1 (xN h3) fun zq0 h4=>?_
 clear h h3
 subst zq0
 exact ⟨h1,h4⟩
def fh (H:HP) (a b c:Option Nat) (k:Bool):Bool:=DQ H 0 a (DQ H 1 b (DQ H 2 c k))
theorem cC {a b c:Option Nat} {k:Bool} (h:fh H a b c k=true):H.get 0=some (.tab a)∧H.get 1=some (.tab b)∧H.get 2=some (.tab c)∧k=true:=by
 refine Za1 (lq h) fun h1 h2=>?_
 refine Za1 (lq h2) fun h3 h4=>?_
 refine Za1 (lq h4) fun h5 h6=>?_
 exact ⟨h1,h3,h5,h6⟩
def cS (xs:List AV):List Nat->Bool->Bool:=@List.rec AV (fun _=>List Nat->Bool->Bool) (fun ys k=>@List.rec Nat (fun _=>Bool) k (fun _ _ _=>false) ys) (fun x _ ih ys k=>@List.rec Nat (fun _=>Bool) false (fun y ys _=>bk (bq x) fun i=>bk (natOf i) fun m=>br false (ih ys k) (Nat.beq m y)) ys) xs
theorem fB {xs:List AV}:∀ {ys:List Nat} {k:Bool},cS xs ys k=true->xs.length=ys.length∧k=true∧∀ (i:Nat) x,xs[i]?=some x->∃ y,ys[i]?=some y∧bq x=some (y:Int):=by
 induction xs with
 | nil =>
  intro ys k h
  induction ys using List.casesOn with
  | nil=>exact ⟨rfl,h,fun i x hx=>by simp at hx⟩
  | cons _ _=>exact ffE h
 | cons x xs ih =>
  intro ys k h
  induction ys using List.casesOn with
  | nil=>exact ffE h
  | cons y ys =>
   refine ad (al h) fun i h1 h2=>?_
   nomatch ad (al h2),h2
   intro m h3 h4
   have:=aQ h3
   clear h3
   subst this
   induction e:Nat.beq m y using Bool.casesOn with
   | false=>rw [e] at h4; exact ffE h4
   | true =>
    rw [e] at h4
    have:=ZbE e
    clear h e
    subst this
    nomatch Za2 (ih h4),ih,h4
    intro g1 g2 g3
    refine ⟨by simp [g1],g2,fun i z hz=>?_⟩
    induction i using Nat.casesAuxOn with
    | zero=>simp at hz; subst hz; exact (am m rfl h1)
    | succ i=>exact g3 i z (by simpa using hz)
def ir (o:List Nat):List AV:=io (fun _ x=>.int (.ofNat x)) o 0
def kF (H:HP) (j:Nat) (k:Nat->List AV->Bool):Bool:=H.getK j fun ao=>onL ao fun n rx=>gO rx [] fun xs=>k n xs
theorem dG {j:Nat} {k:Nat->List AV->Bool} (h:kF H j k=true):∃ n xs,H.get j=some (.list n xs.reverse)∧k n xs=true:=by
 nomatch ad (HP.getK_true h),h
 intro ao h1 h2
 induction ao using AO.casesOn with
 | list n rx =>
  change gO rx [] (fun xs=>k n xs)=true at h2
  rw [dY,List.append_nil] at h2
  exact (dj n rx.reverse (by rw [List.reverse_reverse]; exact h1) h2)
 | _=>exact ffE h2
end
def HC:List AO:=[.tab (some 0),.tab (some 1),.tab (some 2)]
def pA (p:Nat):AV:=.cel (Nat.add 4 p)
def knA (p c:Nat):AV:=.cel (Nat.add 16 (Nat.add p (Nat.mul 8 c)))
def Im (cs:List Nat) (h:Nat):Bool:=@List.rec Nat (fun _=>Bool) false (fun c _ ih=>br ih true (Nat.beq (Nat.div c 8) h)) cs
def rZ (cs:List Nat) (p:Nat) (f:Nat->Bool) (m:Nat):Nat->Bool:=@Nat.rec (fun _=>Nat->Bool) (fun _=>true) (fun _ ih h=>br (aB (aZ (Nat.add p (Nat.mul 8 h)) f) (ih (Nat.succ h))) (ih (Nat.succ h)) (Im cs h)) m
def oO (cs:List Nat) (p:Nat) (f:Nat->Bool):Nat->Bool:=@List.rec Nat (fun _=>Nat->Bool) (fun _=>true) (fun c _ ih q=>br (ih (Nat.succ q)) (br (ih (Nat.succ q)) (aB (f c) (ih (Nat.succ q))) (Nat.blt p (Nat.div c 8))) (Nat.beq (Nat.mod c 8) q)) cs
def pF (cs:List Nat) (n p:Nat) (f:Nat->Bool):Bool:=@List.rec Nat (fun _=>Bool) (aB (rZ cs p f (Nat.sub n p) p) (oO cs p f 0)) (fun c _ ih=>br ih (f c) (Nat.beq (Nat.div c 8) p)) cs
theorem nA {a a' b b' c:Bool} (h1:a=true->a'=true) (h2:b=true->b'=true):br a b c=true->br a' b' c=true:=by induction c using Bool.casesOn; exact h1; exact h2
theorem lN {a a' b b':Bool} (h1:a=true->a'=true) (h2:b=true->b'=true) (h:aB a b=true):aB a' b'=true:=by
 refine Za1 (af h) fun x y=>?_
 rw [h1 x,h2 y]; rfl
theorem xv {cs:List Nat} {n p:Nat} {f g:Nat->Bool} (h:∀ c,f c=true->g c=true):pF cs n p f=true->pF cs n p g=true:=by
 have h1:∀ (m q:Nat),rZ cs p f m q=true->rZ cs p g m q=true:=by
  intro m
  induction m with
  | zero=>intro q _; rfl
  | succ m ih=>intro q; exact nA (lN (by rw [aP,aP]; exact h _) (ih _)) (ih _)
 have h2:∀ (ds:List Nat) (q:Nat),oO ds p f q=true->oO ds p g q=true:=by
  intro ds
  induction ds with
  | nil=>intro q _; rfl
  | cons d ds ih=>intro q; exact nA (ih _) (nA (ih _) (lN (h _) (ih _)))
 have h3:∀ ds:List Nat,@List.rec Nat (fun _=>Bool) (aB (rZ cs p f (Nat.sub n p) p) (oO cs p f 0)) (fun c _ ih=>br ih (f c) (Nat.beq (Nat.div c 8) p)) ds=true->@List.rec Nat (fun _=>Bool) (aB (rZ cs p g (Nat.sub n p) p) (oO cs p g 0)) (fun c _ ih=>br ih (g c) (Nat.beq (Nat.div c 8) p)) ds=true:=by
  intro ds
  induction ds with
  | nil=>exact lN (h1 _ _) (h2 _ _)
  | cons d ds ih=>exact nA ih (h _)
 exact h3 cs
theorem Cj {cs:List Nat} {n p code:Nat} {f:Nat->Bool} (hm:pF cs n p (fun c=>br true false (Nat.beq c code))=false) (h:pF cs n p f=true):f code=true:=by
 induction e:f code using Bool.casesOn with
 | true=>rfl
 | false =>
  have:=xv (g:=fun c=>br true false (Nat.beq c code)) (fun c hc=>by
   induction q:Nat.beq c code using Bool.casesOn with
   | false=>rfl
   | true=>have:=ZbE q; subst this; rw [e] at hc; exact ffE hc) h
  rw [hm] at this; exact ffE this
def qC (xs:List AV):Nat->Nat->(List Nat->Bool)->Bool:=@List.rec AV (fun _=>Nat->Nat->(List Nat->Bool)->Bool) (fun _ r k=>nr (k []) (fun _=>false) r)
 (fun x _ ih q r k=>bk (je x) fun c=>nr (aB (Nat.beq c (Nat.add 4 q)) (ih (Nat.succ q) 0 fun cs=>k [])) (fun r=>aZ (Nat.div (Nat.sub c 16) 8) fun code=>aB (Nat.beq c (Nat.add 16 (Nat.add q (Nat.mul 8 code)))) (ih (Nat.succ q) r fun cs=>k (code :: cs))) r) xs
theorem mJ {xs:List AV}:∀ {q r:Nat} {k:List Nat->Bool},qC xs q r k=true->∃ cs,k cs=true∧cs.length=r∧r≤xs.length∧∀ (i:Nat) x,xs[i]?=some x->(i<r∧∃ c,cs[i]?=some c∧x=knA (q+i) c)∨(r≤i∧x=pA (q+i)):=by
 induction xs with
 | nil =>
  intro q r k h
  induction r using Nat.casesAuxOn with
  | zero=>exact (jP ([]) h rfl (Nat.le_refl _) (fun i x hx=>by simp at hx))
  | succ r=>exact ffE h
 | cons x xs ih =>
  intro q r k h
  refine ad (al h) fun c h1 h2=>?_
  have hx:x = .cel c:=by induction x using AV.casesOn<;>simp_all [je]
  subst hx
  induction r using Nat.casesAuxOn with
  | zero =>
   nomatch Za1 (af h2),h2
   intro h3 h4
   have:=ZbE h3
   subst this
   nomatch cJ (ih h4),ih,h4
   intro cs g1 g2 g3 g4
   refine (jP ([]) g1 rfl (Nat.zero_le _) (fun i z hz=>?_))
   induction i using Nat.casesAuxOn with
   | zero=>simp at hz; subst hz; exact .inr ⟨Nat.le_refl _,rfl⟩
   | succ i =>
    rcases g4 i z (by simpa using hz) with ⟨q1,_⟩ | ⟨q1,q2⟩
    ·omega
    ·exact .inr ⟨Nat.zero_le _,by rw [q2]; unfold pA; show AV.cel (4+(q+1+i))=AV.cel (4+(q+(i+1))); congr 1; omega⟩
  | succ r =>
   change aZ (Nat.div (Nat.sub c 16) 8) (fun code=>aB (Nat.beq c (Nat.add 16 (Nat.add q (Nat.mul 8 code)))) (qC xs (Nat.succ q) r fun cs=>k (code :: cs)))=true at h2
   rw [aP] at h2
   generalize Nat.div (Nat.sub c 16) 8=code at h2
   nomatch Za1 (af h2),h2
   intro h3 h4
   have:=ZbE h3
   subst this
   nomatch cJ (ih (k:=fun cs=>k (code :: cs)) h4),ih,h4
   intro cs g1 g2 g3 g4
   refine (jP (code :: cs) g1 (by simp [g2]) (by simpa using g3) (fun i z hz=>?_))
   induction i using Nat.casesAuxOn with
   | zero=>simp at hz; subst hz; exact .inl ⟨Nat.succ_pos _,code,rfl,rfl⟩
   | succ i =>
    rcases g4 i z (by simpa using hz) with ⟨q1,c',q2,q3⟩ | ⟨q1,q2⟩
    ·exact .inl ⟨by omega,c',by simpa using q2,by rw [q3]; unfold knA; show AV.cel (16+(q+1+i+8 * c'))=AV.cel (16+(q+(i+1)+8 * c')); congr 1; omega⟩
    ·exact .inr ⟨by omega,by rw [q2]; unfold pA; show AV.cel (4+(q+1+i))=AV.cel (4+(q+(i+1))); congr 1; omega⟩
def FT (g p c:Nat) (x:Bool):Bool:=br true x (br true (Nat.beq (Nat.mod (Nat.div c 8) 6) g) (Nat.beq p 0))
theorem xQ {g p c:Nat} {x:Bool} (hg:p=0->Nat.mod (Nat.div c 8) 6=g) (h:FT g p c x=true):x=true:=by
 unfold FT at h
 by_cases e:p=0
 ·rw [hg e,e,Nat.beq_refl,Nat.beq_refl] at h; exact h
 ·rw [show Nat.beq p 0=false from by cases p with | zero=>exact absurd rfl e | succ p=>rfl] at h; exact h
def Bo (N g:Nat):DC:=fun args dp H k=>aB (Nat.ble 3 dp) (nI args fun a b=>bP H a fun j n rx=>bk (bq b) fun i=>bk (natOf i) fun p=>aB (aB (Nat.beq n N) (Nat.blt p N)) (fh H (some 0) (some 1) (some 2) (gO rx [] fun xs=>qC xs 0 p fun cs=>pF cs n p fun c=>FT g p c <|
 BG (knA p c) rx (Nat.sub (Nat.sub n 1) p) fun rx'=>H.set j (.list n rx') fun H'=>aZ (Nat.mod c 8) fun lo=>aZ (Nat.div c 8) fun hi=>k (.tup (.tcons (.int (.ofNat lo)) (.tcons (.int (.ofNat hi)) .tnil))) H')))
def rG (v:AV):Bool:=@AV.rec (fun _=>Bool) false (fun b=>false) (fun i=>false) (fun s=>false) (fun j=>false) (fun v=>false) (fun l _=>false) true (fun _ _ _ _=>false) (fun c j=>false) (fun _ _ _=>false) (fun _ _ _=>false) (fun a b c=>false) (fun a b c _ _ _=>false) (fun _=>false) (fun _ _=>false) (fun a b c=>false) false (fun _=>false) (fun _ _=>false) (fun _=>false) (fun _=>false) (fun s=>false) v
theorem iX {v:AV} (h:rG v=true):v = .tnil:=by induction v using AV.casesOn<;>first | rfl | exact ffE h
def DN (o:List Nat) (c:Nat):AV->HP->Bool:=fun r H=>jG r fun l=>gf l fun a l=>gf l fun b l=>aB (rG l) (cS [a,b] [Nat.mod c 8,Nat.div c 8] (fh H (some 0) (some 1) (some 2) (kF H 3 fun m xs=>aB (Nat.beq m (oC o)) (cS xs o true))))
def nD (o:List Nat) (p c:Nat):Bool:=mkH [.tab (some 0),.tab (some 1),.tab (some 2),gM (ir o)] emptyH fun H=>oM [.ref 3,.int (.ofNat p)] 3 H (DN o c)
def gy (o:List Nat):Bool:=gL (ci o) fun cs=>@List.rec Nat (fun _=>Nat->List Nat->Bool) (fun _ _=>true) (fun c _ ih p done=>aB (nD o p c) (aB (br true false (pF (pG done []) (oC o) p fun c'=>br true false (Nat.beq c' c))) (ih (Nat.succ p) (c :: done)))) cs 0 []
structure Ord (o:List Nat):Prop where
 len:(ci o).length=o.length
 run:∀ (p:Nat) c,(ci o)[p]?=some c->nD o p c=true
 way:∀ (p:Nat) c,(ci o)[p]?=some c->pF ((ci o).take p) o.length p (fun c'=>br true false (Nat.beq c' c))=false
theorem qR (l a:List Nat):pG l a=l.reverse++a:=by
 induction l generalizing a with
 | nil=>rfl
 | cons x l ih=>show pG l (x :: a)=_; rw [ih]; simp
theorem tv (o:List Nat):(ci o).length=o.length:=by
 unfold ci
 rw [wj]
 have:∀ (n:Nat) (l:List Nat) (p:Nat),(@List.rec Nat (fun _=>Nat->List Nat) (fun _=>[]) (fun _ _ ih p=>fN (EK o n p p p) fun c=>c :: ih (Nat.succ p)) l p).length=l.length:=by
  intro n l
  induction l with
  | nil=>intro p; rfl
  | cons x l ih=>intro p; show (fN (EK o n p p p) fun c=>c :: @List.rec Nat (fun _=>Nat->List Nat) (fun _=>[]) (fun _ _ ih p=>fN (EK o n p p p) fun c=>c :: ih (Nat.succ p)) l (Nat.succ p)).length=_; rw [wj,List.length_cons,ih,List.length_cons]
 exact this _ o 0
theorem wU {o:List Nat} (h:gy o=true):Ord o:=by
 unfold gy at h
 rw [ju] at h
 have key:∀ (l:List Nat) (p:Nat) (done:List Nat),@List.rec Nat (fun _=>Nat->List Nat->Bool) (fun _ _=>true) (fun c _ ih p done=>aB (nD o p c) (aB (br true false (pF (pG done []) (oC o) p fun c'=>br true false (Nat.beq c' c))) (ih (Nat.succ p) (c :: done)))) l p done=true ->
   ∀ (i:Nat) c,l[i]?=some c->nD o (p+i) c=true∧pF (done.reverse++l.take i) o.length (p+i) (fun c'=>br true false (Nat.beq c' c))=false:=by
  intro l
  induction l with
  | nil=>intro p done _ i c hc; simp at hc
  | cons x l ih =>
   intro p done h i c hc
   nomatch Za1 (af h),h
   intro h1 h2
   nomatch Za1 (af h2),h2
   intro h3 h4
   induction i using Nat.casesAuxOn with
   | zero =>
    simp at hc
    subst hc
    refine ⟨h1,?_⟩
    rw [qR,List.append_nil,qL] at h3
    induction e:pF done.reverse o.length p (fun c'=>br true false (Nat.beq c' x)) using Bool.casesOn with
    | false=>simpa using e
    | true=>rw [e] at h3; exact ffE h3
   | succ i =>
    refine Za1 (ih _ _ h4 i c (by simpa using hc)) fun g1 g2=>?_
    rw [show p.succ+i=p+(i+1) by omega] at g1 g2
    refine ⟨g1,?_⟩
    rw [List.reverse_cons,List.append_assoc] at g2
    exact g2
 refine ⟨tv o,fun p c hc=>?_,fun p c hc=>?_⟩
 ·have:=(key _ _ _ h p c hc).1
  rwa [Nat.zero_add] at this
 ·have:=(key _ _ _ h p c hc).2
  simpa using this
structure OSig (σ:Sig) (o:List Nat):Prop where
 unk:∀ (p:Nat) x,o[p]?=some x->σ.cel (Nat.add 4 p)=(x:Int)∧σ.cok (Nat.add 4 p)
 kn:∀ (p c:Nat) x,o[p]?=some x->σ.cel (Nat.add 16 (Nat.add p (Nat.mul 8 c)))=(x:Int)
 kok:∀ (p c:Nat) x,o[p]?=some x->(σ.cok (Nat.add 16 (Nat.add p (Nat.mul 8 c)))↔(ci o)[p]?=some c)
theorem vh {t0 t1 t2 a:Addr} {ρ:List Addr} (hn:ρ.Nodup) {j:Nat} (h0:ρ[0]?=some t0) (h1:ρ[1]?=some t1) (h2:ρ[2]?=some t2) (hj:ρ[j]?=some a) (h3:3≤j):[t0,t1,t2,a].Nodup:=by
 have ne:∀ {i k:Nat} {x y:Addr},ρ[i]?=some x->ρ[k]?=some y->i ≠ k->x ≠ y:=fun {i k x y} hx hy hik e=>hik ((List.getElem?_inj (ZbS hx).1 hn).mp (hx.trans (e ▸ hy.symm)))
 simp only [List.nodup_cons,List.mem_cons,List.not_mem_nil,or_false,not_or,List.nodup_nil,and_true]
 exact ⟨⟨ne h0 h1 (by omega),ne h0 h2 (by omega),ne h0 hj (by omega)⟩,⟨ne h1 h2 (by omega),ne h1 hj (by omega)⟩,ne h2 hj (by omega),fun h=>h⟩
section
variable {C:Cx} {X:Sc} {B:Bz} {f:Fm} {env:Env} {ρ:List Addr} {Z:Fz} {H:HP} {s:Shared} {A:Around}
theorem yw (P:PC C) {N γ:Nat} {o:List Nat} (O:Ord o) (S:OSig C.σ o) (ho:o.length=N) (hγ:∀ c,(ci o)[0]?=some c->Nat.mod (Nat.div c 8) 6=γ):SC C (.ref 281) 2 (Bo N γ):=by
 intro X dp f H k A env B ρ Z s args vals hc hA ok hv hlen Q E hQ
 nomatch Za1 (af hc),hc
 intro hdp hc1
 nomatch aE (cE hc1 hlen),hc1
 intro a b zq2 hc2
 subst zq2
 nomatch ay hv.two,hv
 intro va vb zq2 ra rb
 subst zq2
 nomatch bM (aG hc2),hc2
 intro j n rx zq3 hj hc3
 subst zq3
 nomatch ad (al hc3),hc3
 intro i hi hc4
 nomatch ad (al hc4),hc4
 intro p hp hc5
 have hpi:=aQ hp
 subst hpi
 nomatch Za1 (af hc5),hc5
 intro hnp hc6
 nomatch Za1 (af hnp),hnp
 intro hn0 hp0
 have hnN:=ZbE hn0
 rw [cW] at hp0
 have hpN:=of_decide_eq_true hp0
 nomatch Za3 (cC hc6),hc6
 intro T0 T1 T2 hc7
 rw [dY,List.append_nil] at hc7
 nomatch cJ (mJ hc7),hc7
 intro cs hc8 hcl hpl hitem
 nomatch bS (bg ok ra hj),ra
 intro aL vs ep zq3 hρ hL hvs hn1 hn2
 subst zq3
 nomatch Ze1 (ar hi rb),rb
 intro tp zq1
 subst zq1
 have g:=ok.g
 have t0:ρ[0]?=some 184:=g.tabs 0 184 (by rw [P.tabs]; rfl)
 have t1:ρ[1]?=some 191:=g.tabs 1 191 (by rw [P.tabs]; rfl)
 have t2:ρ[2]?=some 123:=g.tabs 2 123 (by rw [P.tabs]; rfl)
 have j3:3≤j:=by
  match j,hj with
  | 0,hj=>rw [T0] at hj; injections hj
  | 1,hj=>rw [T1] at hj; injections hj
  | 2,hj=>rw [T2] at hj; injections hj
  | j+3,_=>clear hlen hn2 hn1 hpl hcl hpN hnN ho; omega
 have hon:o.length=n:=by rw [ho,hnN]
 have hxl:rx.reverse.length=n:=by rw [List.length_reverse]; exact hn2
 have item:∀ (i:Nat) x,rx.reverse[i]?=some x->∃ y,o[i]?=some y∧((i<p∧∃ c,cs[i]?=some c∧x=knA i c)∨(p≤i∧x=pA i)):=fun i x hx=>by
  have hlt:i<o.length:=by rw [hon,← hxl]; exact (ZbS hx).1
  refine (am (o[i]) (by simp [hlt]) (?_))
  have:=hitem i x hx
  rw [Nat.zero_add] at this
  exact this
 have val:∀ (i:Nat) x v,rx.reverse[i]?=some x->vs[i]?=some v->∃ y t,o[i]?=some y∧v = .int (y:Int) t∧∀ c,x=knA i c->(ci o)[i]?=some c:=fun i x v hx hv'=>by
  nomatch ad (item i x hx),item
  intro y hy h
  have r:=hvs.2 i x v hx hv'
  rcases h with ⟨_,c,_,rfl⟩ | ⟨_,rfl⟩
  ·nomatch ad r.inv,r
   intro t zq1 hk
   subst zq1
   exact (aK y t hy (by rw [S.kn i c y hy]) (fun c' e=>by
   have:c'=c:=by unfold knA at e; injection e with e; change 16+(i+8 * c)=16+(i+8 * c') at e; clear hxl hon j3 hn2 hn1 hpl hcl hpN hnN hlen ho; omega
   subst this; exact (S.kok i c' y hy).mp hk))
  ·nomatch ad r.inv,r
   intro t zq1 hk
   subst zq1
   exact (aK y t hy (by rw [(S.unk i y hy).1]) (fun c' e=>by
   unfold knA pA at e
   injection e with e
   change 4+i=16+(i+8 * c') at e
   clear hxl hon j3 hn2 hn1 hpl hcl hpN hnN hlen ho; omega))
 have hcs:cs=(ci o).take p:=by
  apply List.ext_getElem?
  intro i
  by_cases hip:i<p
  ·have hlt:i<rx.reverse.length:=by rw [hxl,hnN]; clear hxl hon j3 hn2 hn1 hpl hcl hnN hlen ho; omega
   have zh22:∃ x,rx.reverse[i]?=some x:=⟨_,ZbG hlt⟩
   nomatch Ze1 zh22,zh22
   intro x hx
   nomatch ad (item i x hx),item
   intro y hy h
   rcases h with ⟨_,c,q1,q2⟩ | ⟨q1,_⟩
   ·refine ad (hvs.get hx) fun v hv' _=>?_
    refine ay (val i x v hx hv') fun _ _ _ _ q3=>?_
    rw [q1,List.getElem?_take_of_lt hip,q3 c q2]
   ·clear hlt hxl hon j3 hn2 hn1 hpl hcl hpN hnN hlen ho; omega
  ·rw [List.getElem?_eq_none (by clear hxl hon j3 hn2 hn1 hpl hpN hnN hlen ho; omega),List.getElem?_take_eq_none (by clear hxl hon j3 hn2 hn1 hpl hcl hpN hnN hlen ho; omega)]
 have zh26:∃ c,(ci o)[p]?=some c:=⟨_,ZbG (by rw [O.len,ho]; exact hpN)⟩
 nomatch Ze1 zh26,zh26
 intro c hcp
 rw [hcs] at hc8
 have hway:=O.way p c hcp
 rw [hon] at hway
 have hf:=xQ (fun e=>hγ c (by rw [← e]; exact hcp)) (Cj hway hc8)
 nomatch aU (lP _ _ _ _ hf),hf
 intro rx' k1 k2 k3
 nomatch aU (HP.set_spec k1),k1
 intro H' k4 k5 k6
 simp only [aP] at k4
 have nd:=vh g.nd t0 t1 t2 hρ j3
 have mem0:∀ a∈[184,191,123,aL],a∈ρ:=fun a ha=>by
  simp only [List.mem_cons,List.not_mem_nil,or_false] at ha
  rcases ha with rfl | rfl | rfl | rfl
  ·exact ZbM t0
  ·exact ZbM t1
  ·exact ZbM t2
  ·exact ZbM hρ
 have tabO:∀ (i:Nat) (t:Addr) e,ρ[i]?=some t->H.get i=some (.tab e)->∃ ob,s.heap.get? t=some ob∧ORel C ρ Z (.tab e) ob:=fun i t e h1 h2=>by
  nomatch ay (g.obj i t h1),g,h1
  intro ao ob q1 q2 q3
  rw [h2] at q1
  injections q1
  exact (am ob q2 q3)
 have ivs:VRs C.σ [184,191,123,aL] Z (ir o) vs:=by
  have hil:(ir o).length=vs.length:=by
   have:(ir o).length=o.length:=by
    have:∀ (l:List Nat) (q:Nat),(io (fun _ x=>AV.int (.ofNat x)) l q).length=l.length:=by
     intro l
     induction l with
     | nil=>intro q; rfl
     | cons x l ih=>intro q; show List.length (_ :: io _ l (Nat.succ q))=_; rw [List.length_cons,ih]; rfl
    exact this o 0
   rw [this,hon,hn1]
  refine ⟨hil,fun i x v hx hv'=>?_⟩
  unfold ir at hx
  rw [nV] at hx
  nomatch ad (Option.map_eq_some_iff.mp hx),hx
  intro y hy zq2
  subst zq2
  have hlt:i<rx.reverse.length:=by rw [hxl,← hn1]; exact (ZbS hv').1
  refine ay (val i _ v (ZbG hlt) hv') ?_
  clear val hv'
  intro y' t h1 zq3 _
  subst zq3
  rw [hy] at h1
  injections h1
  exact .int ..
 refine iu ok (hA.less (ZbL hdp)) (σ':=C.σ) C.wf rfl (sH P) (O.run p c hcp) mem0 nd (fun k P' hk=>at3 (by rw [P.tabs] at hk; exact hk)) rfl (atC (ad (tabO 0 _ _ t0 T0) fun ob q1 q2=>am ob q1 (q2.tab_free rfl)) (atC (ad (tabO 1 _ _ t1 T1) fun ob q1 q2=>am ob q1 (q2.tab_free rfl)) (atC (ad (tabO 2 _ _ t2 T2) fun ob q1 q2=>am ob q1 (q2.tab_free rfl)) (atC (by refine am _ hL ?_; rw [f6]; exact ⟨by simp,vs,ep,rfl,by rw [List.reverse_reverse]; exact ivs⟩) atN)))) (.cons (.ref rfl) (.cons (.int ..) .nil)) rfl Q E fun ρ₁ Z₁ H₁ s' b v e obj r hk ndq1 back fresh=>?_
 nomatch ad (dD hk),hk
 intro l zq1 d1
 subst zq1
 nomatch aE (cB d1),d1
 intro x l' zq2 d2
 subst zq2
 nomatch aE (cB d2),d2
 intro y l'' zq2 d3
 subst zq2
 nomatch Za1 (af d3),d3
 intro d4 d5
 have:=iX d4
 subst this
 nomatch Za2 (fB d5),d5
 intro _ d6 d7
 nomatch Za3 (cC d6),d6
 intro U0 U1 U2 d8
 nomatch aE (dG d8),d8
 intro m xs V3 d9
 nomatch Za1 (af d9),d9
 intro d10 d11
 have hm:=ZbE d10
 nomatch Za2 (fB d11),d11
 intro e1 _ e2
 refine ad (d7 0 x rfl) fun _ hx1 hx2=>?_
 injections hx1
 nomatch ad (d7 1 y rfl),d7
 intro _ hy1 hy2
 injections hy1
 have pre:∀ (i:Nat) a,[184,191,123,aL][i]?=some a->ρ₁[i]?=some a:=fun i a h=>bz e.p h
 have ores:VRel C.σ ρ Z₁ (.tup (.tcons (.int (.ofNat (Nat.mod c 8))) (.tcons (.int (.ofNat (Nat.div c 8))) .tnil))) v:=by
  nomatch da r.inv,r
  intro ws a' n' zq3 h1 h2 h3
  subst zq3
  refine .tup h1 h2 fun i z w hz hw=>?_
  match i,hz with
  | 0,hz=>injections hz; (refine Ze1 (ar hx2 (h3 0 x w rfl hw)) fun t zq1=>?_; subst zq1); exact .int ..
  | 1,hz=>injections hz; (refine Ze1 (ar hy2 (h3 1 y w rfl hw)) fun t zq1=>?_; subst zq1); exact .int ..
  | i+2,hz=>simp [AV.items] at hz
 have okF:=back H' k5 (fun i a hi hna=>by rw [k6,if_neg]; intro q; subst q; rw [hρ] at hi; injections hi; exact hna (by simp)) fun i a hi ha=>by
  have idx:∀ {k:Nat} {b:Addr},ρ[k]?=some b->a=b->i=k:=fun {k b} h1 h2=>(List.getElem?_inj (ZbS hi).1 g.nd).mp (hi.trans (h2 ▸ h1.symm))
  have tabF:∀ (k:Nat) (b:Addr) e,k<3->ρ[k]?=some b->[184,191,123,aL][k]?=some b->H.get k=some (.tab e)->H₁.get k=some (.tab e)->a=b->∃ ao o,H'.get i=some ao∧s'.heap.get? a=some o∧ORel C ρ Z₁ ao o:=fun k b e' hk3 h1 h2 h3 h4 h5=>by
   have:=idx h1 h5
   subst this
   subst h5
   nomatch ay (obj i a (pre i a h2)),obj,pre,h2
   intro ao ob q1 q2 q3
   rw [h4] at q1
   injections q1
   exact (aK _ ob (by rw [k6,if_neg (by clear e1 hm k5 hxl hon hn2 hn1 hpl hcl hpN hnN hlen ho; omega)]; exact h3) q2 (q3.tab_free rfl))
  simp only [List.mem_cons,List.not_mem_nil,or_false] at ha
  rcases ha with h | h | h | h
  ·exact tabF 0 _ _ (by clear h e1 hm k5 hxl hon j3 hn2 hn1 hpl hcl hpN hnN hlen ho; omega) t0 rfl T0 U0 h
  ·exact tabF 1 _ _ (by clear h e1 hm k5 hxl hon j3 hn2 hn1 hpl hcl hpN hnN hlen ho; omega) t1 rfl T1 U1 h
  ·exact tabF 2 _ _ (by clear h e1 hm k5 hxl hon j3 hn2 hn1 hpl hcl hpN hnN hlen ho; omega) t2 rfl T2 U2 h
  ·have:=idx hρ h
   subst this
   subst h
   nomatch ay (obj 3 a (pre 3 a rfl)),obj,pre
   intro ao ob q1 q2 q3
   rw [V3] at q1
   injections q1
   nomatch Za1 q3,q3
   intro w1 zw0
   nomatch aE zw0,zw0
   intro vs' ep' w2 w3
   rw [List.reverse_reverse] at w3
   refine ⟨.list n rx',ob,by rw [k6,if_pos rfl],q2,?_,vs',ep',w2,?_⟩
   ·have hl:rx'.length=rx.length:=by
     apply Nat.le_antisymm
     ·apply Nat.le_of_not_lt
      intro hlt
      have h1:rx'[rx.length]?=some rx'[rx.length]:=by simp [hlt]
      by_cases q:rx.length=Nat.sub (Nat.sub n 1) p
      ·have:Nat.sub (Nat.sub n 1) p=n-1-p:=rfl
       clear w1 j3 hlen e1 hm k5 hxl hon hn1 hpl hcl ho; omega
      ·rw [k3 _ q] at h1
       simp at h1
     ·apply Nat.le_of_not_lt
      intro hlt
      have h1:rx'[rx'.length]?=none:=by simp
      by_cases q:rx'.length=Nat.sub (Nat.sub n 1) p
      ·rw [q,k2] at h1; exact noS h1.symm
      ·rw [k3 _ q] at h1
       simp at h1
       clear q w1 j3 hlen e1 hm k5 hxl hon hn2 hn1 hpl hcl hpN hnN ho; omega
    rw [hl]; exact hn2
   ·have hl2:rx'.length=n:=by
     have hl:rx'.length=rx.length:=by
      apply Nat.le_antisymm
      ·apply Nat.le_of_not_lt
       intro hlt
       have h1:rx'[rx.length]?=some rx'[rx.length]:=by simp [hlt]
       by_cases q:rx.length=Nat.sub (Nat.sub n 1) p
       ·have:Nat.sub (Nat.sub n 1) p=n-1-p:=rfl
        clear w1 j3 hlen e1 hm k5 hxl hon hn1 hpl hcl ho; omega
       ·rw [k3 _ q] at h1
        simp at h1
      ·apply Nat.le_of_not_lt
       intro hlt
       have h1:rx'[rx'.length]?=none:=by simp
       by_cases q:rx'.length=Nat.sub (Nat.sub n 1) p
       ·rw [q,k2] at h1; exact noS h1.symm
       ·rw [k3 _ q] at h1
        simp at h1
        clear q w1 j3 hlen e1 hm k5 hxl hon hn2 hn1 hpl hcl hpN hnN ho; omega
     rw [hl]; exact hn2
    refine ⟨by rw [List.length_reverse,hl2,← w3.1,e1,hon],fun q z w hz hw=>?_⟩
    have hq:q<n:=by rw [← hl2,← List.length_reverse]; exact (ZbS hz).1
    rw [gB hl2 hq] at hz
    have hqx:q<xs.length:=by rw [e1,hon]; exact hq
    have hxq:xs[q]?=some xs[q]:=by simp [hqx]
    nomatch ad (e2 q _ hxq),hy2
    intro y hy1 hy2
    nomatch Ze1 (ar hy2 (w3.2 q _ w hxq hw)),w3,hw,hxq,hy2
    intro t zq1
    subst zq1
    by_cases hqp:q=p
    ·subst hqp
     rw [show n-1-q=Nat.sub (Nat.sub n 1) q from rfl,k2] at hz
     injections hz
     unfold knA
     rw [← S.kn q c y hy1]
     exact .cel _ t ((S.kok q c y hy1).mpr hcp)
    ·rw [k3 _ (by show n-1-q ≠ n-1-p; clear hqx hl2 w1 j3 hlen e1 hm k5 hxl hon hn2 hn1 hpl hcl ho; omega),← gB hn2 hq] at hz
     nomatch ad (item q z hz),item
     intro y' hy' h
     nomatch ad (hvs.get hz),hvs,hz
     intro v0 hv0 r0
     rcases h with ⟨_,c',_,rfl⟩ | ⟨_,rfl⟩
     ·nomatch ad r0.inv,t0
      intro t0 zq1 hk0
      subst zq1
      unfold knA
      rw [← S.kn q c' y hy1]
      exact .cel _ t hk0
     ·unfold pA
      rw [← (S.unk q y hy1).1]
      exact .cel _ t (S.unk q y hy1).2
 exact hQ ρ Z₁ H' s' _ v ⟨List.prefix_refl _,e.z⟩ okF ores k4
end
def t8 (n:Nat):Nat:=fF [0,1,2,6,24,120] n
def mG (a b:Nat):Bool:=mkH [.tab (some 0),.tab (some 1),.tab none] emptyH fun H=>fW [.int (.ofNat a),.int (.ofNat b)] 30 H fun r H=>jG r fun l=>gf l fun x l=>gf l fun y l=>aB (rG l) (cS [x,y] [Nat.div a b,Nat.mod a b] (fh H (some 0) (some 1) none true))
def Bw:DC:=fun args dp H k=>nI args fun a b=>bk (bq a) fun i=>bk (bq b) fun j=>bk (natOf i) fun m=>bk (natOf j) fun n=>aZ m fun m=>aZ n fun n =>
 br (fW args dp H k) (fh H (some 0) (some 1) none (aB (Nat.ble 30 dp) (aZ (Nat.div m n) fun q=>aZ (Nat.mod m n) fun r=>k (.tup (.tcons (.int (.ofNat q)) (.tcons (.int (.ofNat r)) .tnil))) H))) (br false (H.getK 0 fun ao=>ue ao fun e=>@Option.rec Nat (fun _=>Bool) false (fun _=>true) e) (Nat.blt m (t8 n)))
section
variable {C:Cx}
theorem yy (P:PC C) (hR:∀ a b,a<t8 b->mG a b=true):SC C (.ref 203) 2 Bw:=by
 intro X dp f H k A env B ρ Z s args vals hc hA ok hv hlen Q E hQ
 nomatch aE (cE hc hlen),hc
 intro a b zq2 hc2
 subst zq2
 refine ad (al hc2) fun i hi hc3=>?_
 refine ad (al hc3) fun j hj hc4=>?_
 refine ad (al hc4) fun m hm hc5=>?_
 refine ad (al hc5) fun n hn hc6=>?_
 clear hc2 hc3 hc4 hc5
 rw [aP,aP] at hc6
 have:=aQ hm
 subst this
 have:=aQ hn
 subst this
 generalize hcd:br false _ (Nat.blt m (t8 n))=cd at hc6
 induction cd using Bool.casesOn with
 | false=>exact gN P X dp f H k A env B ρ Z s _ vals hc6 hA ok hv rfl Q E hQ
 | true =>
  have lt:m<t8 n:=by
   induction e:Nat.blt m (t8 n) using Bool.casesOn with
   | false=>rw [e] at hcd; exact ffE hcd
   | true=>rw [cW] at e; exact of_decide_eq_true e
  clear hcd
  have hc6:fh H (some 0) (some 1) none (aB (Nat.ble 30 dp) (aZ (Nat.div m n) fun q=>aZ (Nat.mod m n) fun r=>k (.tup (.tcons (.int (.ofNat q)) (.tcons (.int (.ofNat r)) .tnil))) H))=true:=hc6
  refine Za3 (cC hc6) fun T0 T1 T2 hc7=>?_
  refine Za1 (af hc7) fun hdp hc8=>?_
  clear hc6 hc7
  simp only [aP] at hc8
  nomatch ay hv.two,hv
  intro va vb zq2 ra rb
  subst zq2
  nomatch Ze1 (ar hi ra),ra
  intro ta zq1
  subst zq1
  nomatch Ze1 (ar hj rb),rb
  intro tb zq1
  subst zq1
  have g:=ok.g
  have t0:ρ[0]?=some 184:=g.tabs 0 184 (by rw [P.tabs]; rfl)
  have t1:ρ[1]?=some 191:=g.tabs 1 191 (by rw [P.tabs]; rfl)
  have t2:ρ[2]?=some 123:=g.tabs 2 123 (by rw [P.tabs]; rfl)
  have mem0:∀ a∈[184,191,123],a∈ρ:=fun a ha=>by
   simp only [List.mem_cons,List.not_mem_nil,or_false] at ha
   rcases ha with rfl | rfl | rfl
   ·exact ZbM t0
   ·exact ZbM t1
   ·exact ZbM t2
  have tabO:∀ (i:Nat) (t:Addr) e,ρ[i]?=some t->H.get i=some (.tab e)->∃ ob,s.heap.get? t=some ob∧ORel C ρ Z (.tab e) ob:=fun i t e h1 h2=>by
   nomatch ay (g.obj i t h1),g,h1
   intro ao ob q1 q2 q3
   rw [h2] at q1
   injections q1
   exact (am ob q2 q3)
  refine iu ok (hA.less (ZbL hdp)) (σ':=C.σ) C.wf rfl (gN P) (hR m n lt) mem0 (by decide) (fun k P' hk=>at3 (by rw [P.tabs] at hk; exact hk)) rfl (atC (ad (tabO 0 _ _ t0 T0) fun ob q1 q2=>am ob q1 (q2.tab_free rfl)) (atC (ad (tabO 1 _ _ t1 T1) fun ob q1 q2=>am ob q1 (q2.tab_free rfl)) (atC (ad (tabO 2 _ _ t2 T2) fun ob q1 q2=>am ob q1 (q2.tab_free rfl)) atN))) (.cons (.int ..) (.cons (.int ..) .nil)) rfl Q E fun ρ₁ Z₁ H₁ s' b v e obj r hk hnd back fresh=>?_
  nomatch ad (dD hk),hk
  intro l zq1 d1
  subst zq1
  nomatch aE (cB d1),d1
  intro x l' zq2 d2
  subst zq2
  nomatch aE (cB d2),d2
  intro y l'' zq2 d3
  subst zq2
  nomatch Za1 (af d3),d3
  intro d4 d5
  have:=iX d4
  subst this
  nomatch Za2 (fB d5),d5
  intro _ d6 d7
  nomatch Za3 (cC d6),d6
  intro U0 U1 U2 _
  refine ad (d7 0 x rfl) fun _ hx1 hx2=>?_
  injections hx1
  nomatch ad (d7 1 y rfl),d7
  intro _ hy1 hy2
  injections hy1
  have pre:∀ (i:Nat) a,[184,191,123][i]?=some a->ρ₁[i]?=some a:=fun i a h=>bz e.p h
  have ores:VRel C.σ ρ Z₁ (.tup (.tcons (.int (.ofNat (Nat.div m n))) (.tcons (.int (.ofNat (Nat.mod m n))) .tnil))) v:=by
   nomatch da r.inv,r
   intro ws a' n' zq3 h1 h2 h3
   subst zq3
   refine .tup h1 h2 fun i z w hz hw=>?_
   match i,hz with
   | 0,hz=>injections hz; (refine Ze1 (ar hx2 (h3 0 x w rfl hw)) fun t zq1=>?_; subst zq1); exact .int ..
   | 1,hz=>injections hz; (refine Ze1 (ar hy2 (h3 1 y w rfl hw)) fun t zq1=>?_; subst zq1); exact .int ..
   | i+2,hz=>simp [AV.items] at hz
  have okF:=back H rfl (fun i a hi hna=>rfl) fun i a hi ha=>by
   have idx:∀ {k:Nat} {b:Addr},ρ[k]?=some b->a=b->i=k:=fun {k b} h1 h2=>(List.getElem?_inj (ZbS hi).1 g.nd).mp (hi.trans (h2 ▸ h1.symm))
   have tabF:∀ (k:Nat) (b:Addr) e,ρ[k]?=some b->[184,191,123][k]?=some b->H.get k=some (.tab e)->H₁.get k=some (.tab e)->a=b->∃ ao o,H.get i=some ao∧s'.heap.get? a=some o∧ORel C ρ Z₁ ao o:=fun k b e' h1 h2 h3 h4 h5=>by
    have:=idx h1 h5
    subst this
    subst h5
    nomatch ay (obj i a (pre i a h2)),obj,pre,h2
    intro ao ob q1 q2 q3
    rw [h4] at q1
    injections q1
    exact (aK _ ob h3 q2 (q3.tab_free rfl))
   simp only [List.mem_cons,List.not_mem_nil,or_false] at ha
   rcases ha with h | h | h
   ·exact tabF 0 _ _ t0 rfl T0 U0 h
   ·exact tabF 1 _ _ t1 rfl T1 U1 h
   ·exact tabF 2 _ _ t2 rfl T2 U2 h
  exact hQ ρ Z₁ H s' _ v ⟨List.prefix_refl _,e.z⟩ okF ores hc8
end
def uH (x:Nat) (l:List Nat):Bool:=@List.rec Nat (fun _=>Bool) false (fun y _ ih=>br ih true (Nat.beq x y)) l
def gE (n m:Nat):List Nat->(List Nat->Bool)->Bool:=@Nat.rec (fun _=>List Nat->(List Nat->Bool)->Bool) (fun acc f=>f (pG acc [])) (fun _ ih acc f=>bu (fun x=>br (ih (x :: acc) f) true (uH x acc)) n) m
def ja (n:Nat) (o:List Nat):List Nat->Bool:=@List.rec Nat (fun _=>List Nat->Bool) (fun _=>true) (fun x _ ih acc=>aB (Nat.blt x n) (br (ih (x :: acc)) false (uH x acc))) o
theorem oZ {n:Nat} {f:List Nat->Bool}:∀ (o acc:List Nat),ja n o acc=true->gE n o.length acc f=true->f (acc.reverse++o)=true:=by
 intro o
 induction o with
 | nil=>intro acc _ h; have h':f (pG acc [])=true:=h; rwa [qR] at h'
 | cons x o ih =>
  intro acc h1 h2
  nomatch Za1 (af h1),h1
  intro h3 h4
  rw [cW] at h3
  have hx:=of_decide_eq_true h3
  have h5:=dM (p:=fun x=>br (gE n o.length (x :: acc) f) true (uH x acc)) h2 x hx
  have h5:br (gE n o.length (x :: acc) f) true (uH x acc)=true:=h5
  have h4:br (ja n o (x :: acc)) false (uH x acc)=true:=h4
  induction e:uH x acc using Bool.casesOn with
  | true=>rw [e] at h4; exact ffE h4
  | false =>
   rw [e] at h4 h5
   have:=ih (x :: acc) h4 h5
   simpa using this
def lR (n:Nat):List Nat:=@List.rec Nat (fun _=>Nat->List Nat) (fun _=>[]) (fun x _ ih m=>nr [] (fun m=>x :: ih m) m) [0,1,2,3,4,5] n
def Iq (rw:Bool):Option Nat:=br none (some 2) rw
def GW (n:Nat) (rw:Bool):List AO:=[.tab (some 0),.tab (some 1),.tab (Iq rw),gM (io (fun p _=>pA p) (lR n) 0),gM (io (fun p _=>.str [.sgn p]) (lR n) 0),gM (io (fun p _=>.str [.nam p]) (lR n) 0)]
def IF (n:Nat) (rw:Bool):AV->HP->Bool:=fun r H=>bO r fun S=>fh H (some 0) (some 1) (some 2) (kF H 3 fun m xs=>aB (Nat.beq m n) (qC xs 0 n fun cs=>nN (eU rw (yK cs)) S
 (kF H 4 fun m ys=>aB (Nat.beq m n) (oA ys (io (fun p _=>[.sgn p]) (lR n) 0) (kF H 5 fun m zs=>aB (Nat.beq m n) (oA zs (io (fun p _=>[.nam p]) (lR n) 0) true))))))
def bI (n:Nat) (rw:Bool) (g:Nat):Bool:=mkH (GW n rw) emptyH fun H=>nZ (Bo n g) [.ref 3,.ref 4,.ref 5,.bool rw] 30 H (IF n rw)
def ID (args:List AV) (k:AV->AV->AV->AV->Bool):Bool:=un1 args fun a r=>un1 r fun b r=>un1 r fun c r=>un1 r fun d _=>k a b c d
theorem yn {args:List AV} {k:AV->AV->AV->AV->Bool} (h:ID args k=true) (hl:args.length=4):∃ a b c d,args=[a,b,c,d]∧k a b c d=true:=by
 nomatch aE (cX h),h
 intro a r zq2 h1
 subst zq2
 nomatch aE (cX h1),h1
 intro b r zq2 h2
 subst zq2
 nomatch aE (cX h2),h2
 intro c r zq2 h3
 subst zq2
 nomatch aE (cX h3),h3
 intro d r zq2 h4
 subst zq2
 simp at hl
 subst hl
 exact (uz a b c d rfl h4)
def EW (xs:List AV):(List Nat->Bool)->Bool:=@List.rec AV (fun _=>(List Nat->Bool)->Bool) (fun k=>k []) (fun x _ ih k=>bk (bq x) fun i=>bk (natOf i) fun m=>ih fun r=>k (m :: r)) xs
theorem uI {xs:List AV}:∀ {k:List Nat->Bool},EW xs k=true->∃ o,k o=true∧o.length=xs.length∧∀ (i:Nat) x,xs[i]?=some x->∃ y,o[i]?=some y∧bq x=some (y:Int):=by
 induction xs with
 | nil=>intro k h; exact (bA ([]) h rfl (fun i x hx=>by simp at hx))
 | cons x xs ih =>
  intro k h
  nomatch ad (al h),h
  intro i h1 h2
  refine ad (al h2) fun m h3 h4=>?_
  have:=aQ h3
  clear h2 h3
  subst this
  nomatch aU (ih (k:=fun r=>k (m :: r)) h4),ih,h4
  intro o g1 g2 g3
  refine (bA (m :: o) g1 (by simp [g2]) (fun i z hz=>?_))
  induction i using Nat.casesAuxOn with
  | zero=>simp at hz; subst hz; exact (am m rfl h1)
  | succ i=>exact g3 i z (by simpa using hz)
def CI (s:SS) (k:Nat->Bool):Bool:=@List.rec SA (fun _=>Bool) false (fun a r _=>@List.rec SA (fun _=>Bool) (@SA.rec (fun _=>Bool) (fun _=>false) (fun j=>k j) (fun _=>false) (fun _=>false) (fun _=>false) a) (fun _ _ _=>false) r) s
theorem sM {s:SS} {k:Nat->Bool} (h:CI s k=true):∃ j,s=[.sgn j]∧k j=true:=by
 induction s using List.casesOn with
 | nil=>exact ffE h
 | cons a r =>
  induction r using List.casesOn with
  | cons _ _=>exact ffE h
  | nil=>induction a using SA.casesOn<;>first | exact (am _ rfl h) | exact ffE h
def v6 (v:AV):Option SS:=@AV.rec (fun _=>Option SS) none (fun b=>none) (fun i=>none) (fun s=>some s) (fun j=>none) (fun v=>none) (fun l _=>none) none (fun _ _ _ _=>none) (fun c j=>none) (fun _ _ _=>none) (fun _ _ _=>none) (fun a b c=>none) (fun a b c _ _ _=>none) (fun _=>none) (fun _ _=>none) (fun a b c=>none) none (fun _=>none) (fun _ _=>none) (fun _=>none) (fun _=>none) (fun s=>none) v
theorem jK {v:AV} {s:SS} (h:v6 v=some s):v = .str s:=by induction v using AV.casesOn<;>first | (cases h; rfl) | exact noS h
def ET (xs:List AV):(List Nat->Bool)->Bool:=@List.rec AV (fun _=>(List Nat->Bool)->Bool) (fun k=>k []) (fun x _ ih k=>bk (v6 x) fun s=>CI s fun j=>ih fun r=>k (j :: r)) xs
theorem uc {xs:List AV}:∀ {k:List Nat->Bool},ET xs k=true->∃ g,k g=true∧g.length=xs.length∧∀ (i:Nat) x,xs[i]?=some x->∃ y,g[i]?=some y∧x = .str [.sgn y]:=by
 induction xs with
 | nil=>intro k h; exact (bA ([]) h rfl (fun i x hx=>by simp at hx))
 | cons x xs ih =>
  intro k h
  nomatch ad (al h),h
  intro s h1 h2
  have:=jK h1
  subst this
  refine ad (sM h2) fun j zq1 h4=>?_
  clear h2
  subst zq1
  nomatch aU (ih (k:=fun r=>k (j :: r)) h4),ih,h4
  intro o g1 g2 g3
  refine (bA (j :: o) g1 (by simp [g2]) (fun i z hz=>?_))
  induction i using Nat.casesAuxOn with
  | zero=>simp at hz; subst hz; exact (am j rfl rfl)
  | succ i=>exact g3 i z (by simpa using hz)
def FI (xs:List AV) (k:Bool):Nat->Bool:=@List.rec AV (fun _=>Nat->Bool) (fun _=>k) (fun x _ ih p=>bk (v6 x) fun s=>nN [.nam p] s (ih (Nat.succ p))) xs
theorem um {xs:List AV} {k:Bool}:∀ {p:Nat},FI xs k p=true->k=true∧∀ (i:Nat) x,xs[i]?=some x->x = .str [.nam (p+i)]:=by
 induction xs with
 | nil=>intro p h; exact ⟨h,fun i x hx=>by simp at hx⟩
 | cons x xs ih =>
  intro p h
  nomatch ad (al h),h
  intro s h1 h2
  have:=jK h1
  subst this
  refine Za1 (df h2) fun zq0 h3=>?_
  clear h2
  subst zq0
  nomatch Za1 (ih h3),ih,h3
  intro h4 h5
  refine ⟨h4,fun i z hz=>?_⟩
  induction i using Nat.casesAuxOn with
  | zero=>simp at hz; exact hz.symm
  | succ i=>rw [h5 i z (by simpa using hz)]; rw [show p.succ+i=p+(i+1) by omega]
def dQ (g:List Nat) (x:SS):SS:=@List.rec SA (fun _=>SS) [] (fun a _ ih=>@SA.rec (fun _=>SS) (fun n=>.c n :: ih) (fun j=>fN (fF g j) fun j=>.sgn j :: ih) (fun j=>fN (fF g j) fun j=>.spl j :: ih) (fun j=>.lst (2 * fF g (j / 2)+j % 2) :: ih) (fun j=>.nam j :: ih) a) x
def uu (a b c:Nat) (k:Bool):Bool:=br (br (br k false (Nat.beq b c)) false (Nat.beq a c)) false (Nat.beq a b)
theorem tA {a b c:Nat} {k:Bool} (h:uu a b c k=true):a ≠ b∧a ≠ c∧b ≠ c∧k=true:=by
 unfold uu at h
 induction e1:Nat.beq a b using Bool.casesOn with
 | true=>rw [e1] at h; exact ffE h
 | false =>
  rw [e1] at h
  have h:br (br k false (Nat.beq b c)) false (Nat.beq a c)=true:=h
  induction e2:Nat.beq a c using Bool.casesOn with
  | true=>rw [e2] at h; exact ffE h
  | false =>
   rw [e2] at h
   have h:br k false (Nat.beq b c)=true:=h
   induction e3:Nat.beq b c using Bool.casesOn with
   | true=>rw [e3] at h; exact ffE h
   | false=>rw [e3] at h; exact ⟨Nat.ne_of_beq_eq_false e1,Nat.ne_of_beq_eq_false e2,Nat.ne_of_beq_eq_false e3,h⟩
def BK:DC:=fun args dp H k=>aB (Nat.ble 30 dp) (ID args fun a b c d=>bP H a fun jo n rx=>bP H b fun js m ry=>bP H c fun jn l rz=>oa d fun rw=>aB (Nat.beq m n) (aB (Nat.beq l n) (uu jo js jn (fh H (some 0) (some 1) (Iq rw)
 (gO rx [] fun xs=>gO ry [] fun ys=>gO rz [] fun zs=>EW xs fun o=>ET ys fun g=>aB (aB (Nat.ble 4 n) (Nat.ble n 6)) (aB (ja n o []) (FI zs (gL (yK (ci o)) fun ps=>iE (dQ g (eU rw ps)) fun T =>
  H.set 2 (.tab (some 2)) fun H=>H.set jo (gM (ir o)) fun H=>k (.str T) H) 0)))))))
def eV (σ:Sig) (o g:List Nat):Sig:={ σ with sg:=fun p=>σ.sg (fF g p),cel:=fun k=>if k<16 then ((fF o (k-4):Nat):Int) else ((fF o ((k-16) % 8):Nat):Int),cok:=fun k=>k<16∨(ci o)[(k-16) % 8]?=some ((k-16) / 8),page:=[] }
theorem qB (l:List Nat):∀ i,fF l i=(l[i]?).getD 0:=by
 induction l with
 | nil=>intro i; rfl
 | cons x l ih =>
  intro i
  induction i using Nat.casesAuxOn with
  | zero=>rfl
  | succ i=>exact ih i
theorem yV {σ:Sig} (w:σ.WF) (o g:List Nat):(eV σ o g).WF:=⟨fun j=>w.sg _,w.nm,Nat.zero_le _⟩
theorem DV {σ:Sig} {o g:List Nat} (ho:o.length≤6):OSig (eV σ o g) o:=by
 have lt:∀ (p:Nat) x,o[p]?=some x->p<6:=fun p x h=>Nat.lt_of_lt_of_le (ZbS h).1 ho
 refine ⟨fun p x h=>?_,fun p c x h=>?_,fun p c x h=>?_⟩
 ·have hp:=lt p x h
  have e:Nat.add 4 p=4+p:=rfl
  refine ⟨?_,.inl (by rw [e]; clear e ho; omega)⟩
  refine (?_:(if Nat.add 4 p<16 then _ else _)=_)
  rw [if_pos (by rw [e]; clear e ho; omega),qB,e,show 4+p-4=p by omega,h]
  rfl
 ·have hp:=lt p x h
  have e:Nat.add 16 (Nat.add p (Nat.mul 8 c))=16+(p+8 * c):=rfl
  refine (?_:(if Nat.add 16 (Nat.add p (Nat.mul 8 c))<16 then _ else _)=_)
  rw [if_neg (by rw [e]; clear e hp ho; omega),qB,e,show (16+(p+8 * c)-16) % 8=p by clear e ho; omega,h]
  rfl
 ·have hp:=lt p x h
  have e:Nat.add 16 (Nat.add p (Nat.mul 8 c))=16+(p+8 * c):=rfl
  refine (?_:(Nat.add 16 (Nat.add p (Nat.mul 8 c))<16∨(ci o)[(Nat.add 16 (Nat.add p (Nat.mul 8 c))-16) % 8]?=some ((Nat.add 16 (Nat.add p (Nat.mul 8 c))-16) / 8))↔_)
  rw [e,show (16+(p+8 * c)-16) % 8=p by clear e ho; omega,show (16+(p+8 * c)-16) / 8=c by omega]
  constructor
  ·rintro (h | h)
   ·clear e hp ho; omega
   ·exact h
  ·exact .inr
theorem pN {σ σ':Sig} {g:List Nat} (hs:∀ p,σ'.sg p=σ.sg (fF g p)) (hn:σ'.nm=σ.nm) (x:SS):txt σ' x=txt σ (dQ g x):=by
 induction x with
 | nil=>rfl
 | cons a x ih =>
  induction a using SA.casesOn with
  | c n=>show [n]++txt σ' x=[n]++txt σ (dQ g x); rw [ih]
  | sgn j =>
   have e:dQ g (.sgn j :: x) = .sgn (fF g j) :: dQ g x:=wj (fF g j) fun j=>SA.sgn j :: dQ g x
   rw [e]
   refine (?_:[σ'.sg j]++txt σ' x=[σ.sg (fF g j)]++txt σ (dQ g x))
   rw [ih,hs]
  | spl j =>
   have e:dQ g (.spl j :: x) = .spl (fF g j) :: dQ g x:=wj (fF g j) fun j=>SA.spl j :: dQ g x
   rw [e]
   refine (?_:bJ (σ'.sg j)++txt σ' x=bJ (σ.sg (fF g j))++txt σ (dQ g x))
   rw [ih,hs]
  | lst j =>
   refine (?_:[nL σ' j]++txt σ' x=[nL σ (2 * fF g (j / 2)+j % 2)]++txt σ (dQ g x))
   rw [ih]
   congr 2
   unfold nL
   have h1:(2 * fF g (j / 2)+j % 2) % 2=j % 2:=by omega
   have h2:(2 * fF g (j / 2)+j % 2) / 2=fF g (j / 2):=by omega
   rw [h1,h2,hs]
  | nam j=>show σ'.nm j++txt σ' x=σ.nm j++txt σ (dQ g x); rw [ih,hn]
theorem PC.re {C:Cx} (P:PC C) {σ':Sig} (wf:σ'.WF) (hbt:σ'.bt=C.σ.bt) (hf:σ'.fns=C.σ.fns):PC (C.re σ' wf hbt) :=
 ⟨⟨P.K,P.bi,P.tabs,P.hd0,P.hd1,P.hd2,by show σ'.fns 0=_; rw [hf]; exact P.fn0,by show σ'.fns 1=_; rw [hf]; exact P.fn1,by show σ'.fns 2=_; rw [hf]; exact P.fn2⟩,P.t1⟩
theorem sX:∀ n,n≤6->(lR n).length=n∧∀ i,i<n->(lR n)[i]?=some i:=by
 intro n hn
 match n,hn with
 | 0,_=>exact ⟨rfl,fun i h=>by omega⟩
 | 1,_=>exact ⟨rfl,fun i h=>by match i,h with | 0,_=>rfl⟩
 | 2,_=>exact ⟨rfl,fun i h=>by match i,h with | 0,_=>rfl | 1,_=>rfl⟩
 | 3,_=>exact ⟨rfl,fun i h=>by match i,h with | 0,_=>rfl | 1,_=>rfl | 2,_=>rfl⟩
 | 4,_=>exact ⟨rfl,fun i h=>by match i,h with | 0,_=>rfl | 1,_=>rfl | 2,_=>rfl | 3,_=>rfl⟩
 | 5,_=>exact ⟨rfl,fun i h=>by match i,h with | 0,_=>rfl | 1,_=>rfl | 2,_=>rfl | 3,_=>rfl | 4,_=>rfl⟩
 | 6,_=>exact ⟨rfl,fun i h=>by match i,h with | 0,_=>rfl | 1,_=>rfl | 2,_=>rfl | 3,_=>rfl | 4,_=>rfl | 5,_=>rfl⟩
theorem tF {α:Type} (g:Nat->Nat->α) (o:List Nat):∀ p,(io g o p).length=o.length:=by
 induction o with
 | nil=>intro p; rfl
 | cons x o ih=>intro p; show (g p x :: io g o (Nat.succ p)).length=_; rw [List.length_cons,ih,List.length_cons]
theorem yN {α:Type} (g:Nat->α) {n i:Nat} (hn:n≤6) (hi:i<n):(io (fun p _=>g p) (lR n) 0)[i]?=some (g i):=by
 rw [nV,(sX n hn).2 i hi,Nat.zero_add]; rfl
theorem ne3 {i j:Nat} (h:3≤j) (hi:i<3):i ≠ j:=fun e=>Nat.not_lt_of_le h (e ▸ hi)
theorem nd6 {a b c:Nat} (ha:3≤a) (hb:3≤b) (hc:3≤c) (h1:a ≠ b) (h2:a ≠ c) (h3:b ≠ c):[0,1,2,a,b,c].Nodup:=by
 have l:∀ {i},i<3->i ≠ a∧i ≠ b∧i ≠ c:=fun h=>⟨ne3 ha h,ne3 hb h,ne3 hc h⟩
 simp only [List.nodup_cons,List.mem_cons,List.not_mem_nil,or_false,not_or,List.nodup_nil,and_true]
 exact ⟨⟨by decide,by decide,l (by decide)⟩,⟨by decide,l (by decide)⟩,l (by decide),⟨h1,h2⟩,h3,fun h=>h⟩
theorem sZ {ρ:List Addr} (hn:ρ.Nodup):∀ (is:List Nat) (as:List Addr),is.Nodup->is.length=as.length->(∀ (k i:Nat) a,is[k]?=some i->as[k]?=some a->ρ[i]?=some a)->as.Nodup:=by
 intro is
 induction is with
 | nil=>intro as _ hl _; rw [List.length_eq_zero_iff.mp hl.symm]; exact .nil
 | cons i is ih =>
  intro as h1 hl h
  induction as using List.casesOn with
  | nil=>simp at hl
  | cons a as =>
   refine Za1 (List.nodup_cons.mp h1) fun h2 h3=>?_
   refine List.nodup_cons.mpr ⟨fun hm=>?_,ih as h3 (by simpa using hl) fun k i' a' q1 q2=>h (k+1) i' a' (by simpa using q1) (by simpa using q2)⟩
   refine Ze1 (List.getElem?_of_mem hm) fun k hk=>?_
   have hk':k<is.length:=by
    have:=(ZbS hk).1
    simp at hl; omega
   have e1:=h (k+1) is[k] a (by simp [hk']) (by simpa using hk)
   have e2:=h 0 i a rfl rfl
   have:is[k]=i:=(List.getElem?_inj (ZbS e1).1 hn).mp (e1.trans e2.symm)
   exact h2 (this ▸ List.getElem_mem hk')
section
variable {C:Cx} {X:Sc} {B:Bz} {f:Fm} {env:Env} {ρ:List Addr} {Z:Fz} {H:HP} {s:Shared} {A:Around}
theorem VRs.of {σ:Sig} {ρ:List Addr} {Z:Fz} {xs:List AV} {vs:List Value} (hl:xs.length=vs.length) (h:∀ (i:Nat) x v,xs[i]?=some x->vs[i]?=some v->VRel σ ρ Z x v):VRs σ ρ Z xs vs:=⟨hl,h⟩
theorem tW (o:List Nat):(ir o).length=o.length:=tF _ o 0
theorem sW {o:List Nat} {i:Nat} {x:AV} (h:(ir o)[i]?=some x):∃ y,o[i]?=some y∧x = .int (y:Int):=by
 unfold ir at h
 rw [nV] at h
 nomatch ad (Option.map_eq_some_iff.mp h),h
 intro y hy zq2
 subst zq2
 exact (am y hy rfl)
theorem xI (P:PC C) (hp:∀ n rw g,4≤n->n≤6->g<6->bI n rw g=true) (hO:∀ n o,4≤n->n≤6->o.length=n->ja n o []=true->Ord o):SC C (.ref 291) 4 BK:=by
 intro X dp f H k A env B ρ Z s args vals hc hA ok hv hlen Q E hQ
 nomatch Za1 (af hc),hc
 intro hdp hc1
 nomatch Ze4 (yn hc1 hlen),hc1
 intro a b c d zw0
 nomatch Za1 zw0,zw0
 intro zq4 hc2
 subst zq4
 nomatch ay hv.head,hv
 intro va ws zq2 ra hv
 subst zq2
 nomatch ay hv.head,hv
 intro vb ws zq2 rb hv
 subst zq2
 nomatch ay hv.head,hv
 intro vc ws zq2 rc hv
 subst zq2
 nomatch ay hv.head,hv
 intro vd ws zq2 rd hv
 subst zq2
 have:=hv.nil_inv
 subst this
 nomatch bM (aG hc2),hc2
 intro jo n rx zq3 hjo hc3
 subst zq3
 nomatch bM (aG hc3),hc3
 intro js m ry zq3 hjs hc4
 subst zq3
 nomatch bM (aG hc4),hc4
 intro jn l rz zq3 hjn hc5
 subst zq3
 nomatch ad (i7 hc5),hc5
 intro rw' zq1 hc6
 subst zq1
 nomatch Za1 (af hc6),hc6
 intro e1 hc7
 have:=ZbE e1
 subst this
 nomatch Za1 (af hc7),hc7
 intro e2 hc8
 have:=ZbE e2
 subst this
 nomatch Za3 (tA hc8),hc8
 intro nos non nsn hc9
 nomatch Za3 (cC hc9),hc9
 intro T0 T1 T2 hc10
 simp only [dY,List.append_nil] at hc10
 nomatch aU (uI hc10),hc10
 intro o hc11 ol oi
 nomatch aU (uc hc11),hc11
 intro g hc12 gl gi
 nomatch Za1 (af hc12),hc12
 intro hn46 hc13
 nomatch Za1 (af hn46),hn46
 intro hn4 hn6
 have hn4:=ZbL hn4
 have hn6:=ZbL hn6
 nomatch Za1 (af hc13),hc13
 intro hperm hc14
 nomatch Za1 (um hc14),hc14
 intro hc15 ni
 rw [ju,lv] at hc15
 nomatch aU (HP.set_spec hc15),hc15
 intro H₂ g1 g2 g3
 nomatch aU (HP.set_spec g1),g1
 intro H' k1 k2 k3
 nomatch bS (bg ok ra hjo),ra
 intro aO vsO epO zq3 hρO hLO hvO hlO hlO'
 subst zq3
 nomatch bS (bg ok rb hjs),rb
 intro aS vsS epS zq3 hρS hLS hvS hlS hlS'
 subst zq3
 nomatch bS (bg ok rc hjn),rc
 intro aN vsN epN zq3 hρN hLN hvN hlN hlN'
 subst zq3
 have gd:=ok.g
 have t0:ρ[0]?=some 184:=gd.tabs 0 184 (by rw [P.tabs]; rfl)
 have t1:ρ[1]?=some 191:=gd.tabs 1 191 (by rw [P.tabs]; rfl)
 have t2:ρ[2]?=some 123:=gd.tabs 2 123 (by rw [P.tabs]; rfl)
 have ge3:∀ {j nn:Nat} {r:List AV},H.get j=some (.list nn r)->3≤j:=fun {j nn r} h=>by
  match j,h with
  | 0,h=>rw [T0] at h; injections h
  | 1,h=>rw [T1] at h; injections h
  | 2,h=>rw [T2] at h; injections h
  | j+3,_=>clear hlN' hlN hlS' hlS hlO' hlO k2 g2 hn6 hn4 gl ol nsn non nos hlen; omega
 have o3:=ge3 hjo
 have s3:=ge3 hjs
 have n3:=ge3 hjn
 have hol:o.length=l:=by rw [ol,List.length_reverse]; omega
 have hgl:g.length=l:=by rw [gl,List.length_reverse]; omega
 have hOrd:=hO l o hn4 hn6 hol hperm
 have wf':=yV C.wf o g
 have P':=P.re (σ':=eV C.σ o g) wf' rfl rfl
 have hS:OSig (eV C.σ o g) o:=DV (by clear hgl n3 s3 o3 hlN' hlN hlS' hlS hlO' hlO k2 g2 hn4 gl ol nsn non nos hlen; omega)
 have sg':∀ p,(eV C.σ o g).sg p=C.σ.sg (fF g p):=fun _=>rfl
 have gat:∀ (i y:Nat),g[i]?=some y->fF g i=y:=fun i y h=>by rw [qB,h]; rfl
 have nd:=sZ gd.nd [0,1,2,jo,js,jn] [184,191,123,aO,aS,aN] (nd6 o3 s3 n3 nos non nsn) rfl (atC t0 (atC t1 (atC t2 (atC hρO (atC hρS (atC hρN atN))))))
 have mem0:∀ a∈[184,191,123,aO,aS,aN],a∈ρ:=fun a ha=>by
  simp only [List.mem_cons,List.not_mem_nil,or_false] at ha
  rcases ha with rfl | rfl | rfl | rfl | rfl | rfl
  ·exact ZbM t0
  ·exact ZbM t1
  ·exact ZbM t2
  ·exact ZbM hρO
  ·exact ZbM hρS
  ·exact ZbM hρN
 have tabO:∀ (i:Nat) (t:Addr) e,ρ[i]?=some t->H.get i=some (.tab e)->∃ ob,s.heap.get? t=some ob∧ORel C ρ Z (.tab e) ob:=fun i t e h1 h2=>by
  nomatch ay (gd.obj i t h1),gd,h1
  intro ao ob q1 q2 q3
  rw [h2] at q1
  injections q1
  exact (am ob q2 q3)
 have hil:=sX l hn6
 have vO:∀ (i:Nat) v,vsO[i]?=some v->∃ y t,o[i]?=some y∧v = .int (y:Int) t:=fun i v hv'=>by
  have hlt:i<rx.reverse.length:=by rw [List.length_reverse]; have:=(ZbS hv').1; clear hil hgl hol n3 s3 o3 hlN' hlN hlS' hlS k2 g2 hn6 hn4 gl ol nsn non nos hlen; omega
  refine ad (oi i _ (ZbG hlt)) ?_
  clear oi
  intro y hy hx
  refine Ze1 (ar hx (hvO.2 i _ v (ZbG hlt) hv')) ?_
  clear hvO hv' hx
  intro t zq1
  subst zq1
  exact (dj y t hy rfl)
 have vS:∀ (i:Nat) v,vsS[i]?=some v->∃ y t,g[i]?=some y∧v = .str (aw C.σ [.sgn y]) t:=fun i v hv'=>by
  have hlt:i<ry.reverse.length:=by rw [List.length_reverse]; have:=(ZbS hv').1; clear hil hgl hol n3 s3 o3 hlN' hlN hlO' hlO k2 g2 hn6 hn4 gl ol nsn non nos hlen; omega
  refine ad (gi i _ (ZbG hlt)) ?_
  clear gi
  intro y hy hx
  have r:=hvS.2 i _ v (ZbG hlt) hv'
  rw [hx] at r
  nomatch Ze1 (aA (.inl rfl) r),r
  intro t zq1
  subst zq1
  exact (dj y t hy rfl)
 have vN:∀ (i:Nat) v,vsN[i]?=some v->∃ t,v = .str (aw C.σ [.nam i]) t:=fun i v hv'=>by
  have hlt:i<rz.reverse.length:=by rw [List.length_reverse]; have:=(ZbS hv').1; clear hil hgl hol n3 s3 o3 hlS' hlS hlO' hlO k2 g2 hn6 hn4 gl ol nsn non nos hlen; omega
  have hx:=ni i _ (ZbG hlt)
  have r:=hvN.2 i _ v (ZbG hlt) hv'
  rw [hx,Nat.zero_add] at r
  nomatch Ze1 (aA (.inl rfl) r),r
  intro t zq1
  subst zq1
  exact ⟨t,rfl⟩
 have esg:∀ (i y:Nat),g[i]?=some y->aw (eV C.σ o g) [.sgn i]=aw C.σ [.sgn y]:=fun i y h=>by
  refine (?_:(⟨[(eV C.σ o g).sg i].toArray⟩:Str)=⟨[C.σ.sg y].toArray⟩)
  rw [sg',gat i y h]
 have ml:∀ {α:Type} (gg:Nat->α),(io (fun p _=>gg p) (lR l) 0).length=l:=fun gg=>by rw [tF,hil.1]
 have mg:∀ {α:Type} (gg:Nat->α) (i:Nat) x,(io (fun p _=>gg p) (lR l) 0)[i]?=some x->x=gg i:=fun gg i x h=>by
  have hi:i<l:=by rw [← ml gg]; exact (ZbS h).1
  rw [yN gg hn6 hi] at h
  exact (Option.some.inj h).symm
 have rO:VRs (eV C.σ o g) [184,191,123,aO,aS,aN] Z (io (fun p _=>pA p) (lR l) 0) vsO:=.of (by rw [ml]; omega) fun i x v hx hv'=>by
  rw [mg pA i x hx]
  nomatch aE (vO i v hv'),vO,hv'
  intro y t hy zq3
  subst zq3
  unfold pA
  rw [← (hS.unk i y hy).1]
  exact .cel _ t (hS.unk i y hy).2
 have rS:VRs (eV C.σ o g) [184,191,123,aO,aS,aN] Z (io (fun p _=>AV.str [.sgn p]) (lR l) 0) vsS:=.of (by rw [ml]; clear hil hgl hol n3 s3 o3 hlN' hlN hlS' hlO' hlO k2 g2 hn6 hn4 gl ol nsn non nos hlen; omega) fun i x v hx hv'=>by
  rw [mg (fun p=>AV.str [.sgn p]) i x hx]
  nomatch aE (vS i v hv'),vS,hv'
  intro y t hy zq3
  subst zq3
  rw [← esg i y hy]
  exact .str ..
 have rN:VRs (eV C.σ o g) [184,191,123,aO,aS,aN] Z (io (fun p _=>AV.str [.nam p]) (lR l) 0) vsN:=.of (by rw [ml]; clear hil hgl hol n3 s3 o3 hlN' hlS' hlS hlO' hlO k2 g2 hn6 hn4 gl ol nsn non nos hlen; omega) fun i x v hx hv'=>by
  rw [mg (fun p=>AV.str [.nam p]) i x hx]
  nomatch Ze1 (vN i v hv'),vN,hv'
  intro t zq1
  subst zq1
  exact .str (σ:=eV C.σ o g) [.nam i] t
 refine iu ok (hA.less (ZbL hdp)) (σ':=eV C.σ o g) wf' rfl (tP P' (yw P' hOrd hS hol fun c h=>by rw [h]; rfl)) (hp l rw' (Nat.mod (Nat.div ((ci o)[0]?.getD 0) 8) 6) hn4 hn6 (Nat.mod_lt _ (by decide))) mem0 nd (fun k P'' hk=>at3 (by rw [P.tabs] at hk; exact hk)) rfl (atC (ad (tabO 0 _ _ t0 T0) fun ob q1 q2=>am ob q1 (ORel.tab_free (C:=C.re (eV C.σ o g) wf' rfl) (C':=C) rfl q2)) (atC (ad (tabO 1 _ _ t1 T1) fun ob q1 q2=>am ob q1 (ORel.tab_free (C:=C.re (eV C.σ o g) wf' rfl) (C':=C) rfl q2)) (atC (ad (tabO 2 _ _ t2 T2) fun ob q1 q2=>am ob q1 (ORel.tab_free (C:=C.re (eV C.σ o g) wf' rfl) (C':=C) rfl q2)) (atC (by refine am _ hLO ?_; rw [f6]; exact ⟨by simp,vsO,epO,rfl,by rw [List.reverse_reverse]; exact rO⟩) (atC (by refine am _ hLS ?_; rw [f6]; exact ⟨by simp,vsS,epS,rfl,by rw [List.reverse_reverse]; exact rS⟩) (atC (by refine am _ hLN ?_; rw [f6]; exact ⟨by simp,vsN,epN,rfl,by rw [List.reverse_reverse]; exact rN⟩) atN)))))) (.cons (.ref rfl) (.cons (.ref rfl) (.cons (.ref rfl) (.cons (by rw [rd.bool_inv]; exact .bool _) .nil)))) rfl Q E fun ρ₁ Z₁ H₁ s' b v e obj r hk ndq1 back fresh=>?_
 refine ad (aC hk) fun S hS1 d1=>?_
 nomatch Za3 (cC d1),d1
 intro U0 U1 U2 d2
 nomatch aE (dG d2),d2
 intro m3 xs V3 d3
 nomatch Za1 (af d3),d3
 intro em3 d4
 have em3:=ZbE em3
 subst em3
 nomatch cJ (mJ d4),d4
 intro cs d5 csl csle cit
 nomatch Za1 (df d5),d5
 intro eS d6
 subst eS
 nomatch aE (dG d6),d6
 intro m4 ys V4 d7
 nomatch Za1 (af d7),d7
 intro em4 d8
 have em4:=ZbE em4
 subst em4
 nomatch Za1 (iD d8),d8
 intro d9 yit
 nomatch aE (dG d9),d9
 intro m5 zs V5 d10
 nomatch Za1 (af d10),d10
 intro em5 d11
 have em5:=ZbE em5
 subst em5
 nomatch Za1 (iD d11),d11
 intro _ zit
 have pre:∀ (i:Nat) a,[184,191,123,aO,aS,aN][i]?=some a->ρ₁[i]?=some a:=fun i a h=>bz e.p h
 have lst:∀ (i:Nat) (a:Addr) (m:Nat) (xs:List AV),ρ₁[i]?=some a->H₁.get i=some (.list m xs.reverse)->∃ ob vs ep,s'.heap.get? a=some ob∧xs.length=m∧ob = { cls:=.type "list",data:=.seq (vs:List Value).toArray ep }∧VRs (eV C.σ o g) ρ₁ Z₁ xs vs:=fun i a m xs h1 h2=>by
  nomatch ay (obj i a h1),obj,h1
  intro ao ob q1 q2 q3
  rw [h2] at q1
  injections q1
  refine Za1 q3 fun w1 zw0=>?_
  refine aE zw0 fun vs' ep' w2 w3=>?_
  rw [List.reverse_reverse] at w3
  exact (jY ob vs' ep' q2 (by simpa using w1) w2 w3)
 nomatch da (lst 3 aO _ xs (pre 3 aO rfl) V3),V3
 intro obO vO' epO' pO1 pO2 pO3 pO4
 nomatch da (lst 4 aS _ ys (pre 4 aS rfl) V4),V4
 intro obS vS' epS' pS1 pS2 pS3 pS4
 nomatch da (lst 5 aN _ zs (pre 5 aN rfl) V5),V5,lst
 intro obN vN' epN' pN1 pN2 pN3 pN4
 have cO:∀ (i:Nat) v,vO'[i]?=some v->∃ y t c,o[i]?=some y∧v = .int (y:Int) t∧cs[i]?=some c∧(ci o)[i]?=some c:=fun i v hv'=>by
  have hlt:i<xs.length:=by have:=(ZbS hv').1; rw [pO4.1]; exact this
  have hx:xs[i]?=some xs[i]:=ZbG hlt
  have hio:i<o.length:=by clear pN2 pS2 csle csl hil hgl hlN' hlN hlS' hlS hlO' hlO hn6 hn4 hS1 n3 s3 o3 k2 g2 gl ol nsn non nos hlen; omega
  have hy:o[i]?=some o[i]:=ZbG hio
  rcases cit i _ hx with ⟨q1,c,q2,q3⟩ | ⟨q1,_⟩
  ·rw [Nat.zero_add] at q3
   have r':=pO4.2 i _ v hx hv'
   rw [q3] at r'
   nomatch ad r'.inv,hk
   intro t zq1 hk
   subst zq1
   exact (jY (o[i]) t c hy (by rw [hS.kn i c _ hy]) q2 ((hS.kok i c _ hy).mp hk))
  ·omega
 have hcs:cs=ci o:=by
  apply List.ext_getElem?
  intro i
  by_cases hi:i<cs.length
  ·have hlt:i<vO'.length:=by rw [← pO4.1]; omega
   refine da (cO i _ (ZbG hlt)) fun _ _ c _ _ q1 q2=>?_
   rw [q1,q2]
  ·rw [List.getElem?_eq_none (by omega),List.getElem?_eq_none (by rw [hOrd.len]; omega)]
 subst hcs
 have ores:VRel C.σ ρ Z₁ (.str (dQ g (eU rw' (yK (ci o))))) v:=by
  nomatch Ze1 (aA hS1 r),r,hS1
  intro t zq1
  subst zq1
  have:aw (eV C.σ o g) (eU rw' (yK (ci o)))=aw C.σ (dQ g (eU rw' (yK (ci o)))):=by
   unfold aw; rw [pN sg' rfl]
  rw [this]
  exact .str ..
 have hH2:∀ i,i ≠ 2->i ≠ jo->H'.get i=H.get i:=fun i h1 h2=>by rw [k3,if_neg h2,g3,if_neg h1]
 have okF:=back H' (k2.trans g2) (fun i a hi hna=>by
   refine hH2 i (fun q=>?_) fun q=>?_
   ·subst q; rw [t2] at hi; injections hi; exact hna (by simp)
   ·subst q; rw [hρO] at hi; injections hi; exact hna (by simp)) fun i a hi ha=>by
  have idx:∀ {k:Nat} {b:Addr},ρ[k]?=some b->a=b->i=k:=fun {k b} h1 h2=>(List.getElem?_inj (ZbS hi).1 gd.nd).mp (hi.trans (h2 ▸ h1.symm))
  have tabF:∀ (k:Nat) (b:Addr) e,ρ[k]?=some b->[184,191,123,aO,aS,aN][k]?=some b->H'.get k=some (.tab e)->H₁.get k=some (.tab e)->a=b->∃ ao o,H'.get i=some ao∧s'.heap.get? a=some o∧ORel C ρ Z₁ ao o:=fun k b e' h1 h2 h3 h4 h5=>by
   have:=idx h1 h5
   subst this
   subst h5
   nomatch ay (obj i a (pre i a h2)),obj,pre,h2
   intro ao ob q1 q2 q3
   rw [h4] at q1
   injections q1
   exact (aK _ ob h3 q2 (ORel.tab_free (C:=C) (C':=C.re (eV C.σ o g) wf' rfl) rfl q3))
  simp only [List.mem_cons,List.not_mem_nil,or_false] at ha
  rcases ha with h | h | h | h | h | h
  ·exact tabF 0 _ _ t0 rfl (by rw [hH2 0 (by decide) (ne3 o3 (by decide))]; exact T0) U0 h
  ·exact tabF 1 _ _ t1 rfl (by rw [hH2 1 (by decide) (ne3 o3 (by decide))]; exact T1) U1 h
  ·exact tabF 2 _ _ t2 rfl (by rw [k3,if_neg (ne3 o3 (by decide)),g3,if_pos rfl]) U2 h
  ·have:=idx hρO h
   subst this
   subst h
   refine (aK _ obO (by rw [k3,if_pos rfl]) pO1 (?_))
   rw [f6]
   refine ⟨by simp,vO',epO',pO3,?_⟩
   rw [List.reverse_reverse]
   refine .of (by rw [tW,← pO4.1]; omega) fun q z w hz hw=>?_
   nomatch ad (sW hz),hz
   intro y hy zq2
   subst zq2
   nomatch bM (cO q w hw),cO,hw
   intro y' t _ h1 zq4 _
   subst zq4
   rw [hy] at h1
   injections h1
   exact .int ..
  ·have:=idx hρS h
   subst this
   subst h
   refine ⟨.list _ ry,obS,by rw [hH2 i (ne3 s3 (by decide)).symm (fun q=>nos q.symm)]; exact hjs,pS1,by omega,vS',epS',pS3,?_⟩
   refine .of (by rw [List.length_reverse,← pS4.1]; omega) fun q z w hz hw=>?_
   nomatch ad (gi q z hz),gi,hz
   intro y hy zq2
   subst zq2
   have hlt:q<ys.length:=by rw [pS4.1]; exact (ZbS hw).1
   have hyq:ys[q]?=some ys[q]:=ZbG hlt
   nomatch ad (yit q _ hyq),yit
   intro u hu1 hu2
   have hu3:=mg (fun p=>([.sgn p]:SS)) q u hu1
   subst hu3
   nomatch Ze1 (aA hu2 (pS4.2 q _ w hyq hw)),pS4,hw,hyq,hu2
   intro t zq1
   subst zq1
   refine (?_:VRel C.σ ρ Z₁ (.str [.sgn y]) (.str (aw (eV C.σ o g) [.sgn q]) t))
   rw [esg q y hy]
   exact .str ..
  ·have:=idx hρN h
   subst this
   subst h
   refine ⟨.list _ rz,obN,by rw [hH2 i (ne3 n3 (by decide)).symm (fun q=>non q.symm)]; exact hjn,pN1,by omega,vN',epN',pN3,?_⟩
   refine .of (by rw [List.length_reverse,← pN4.1]; omega) fun q z w hz hw=>?_
   have hz':=ni q z hz
   subst hz'
   rw [Nat.zero_add]
   have hlt:q<zs.length:=by rw [pN4.1]; exact (ZbS hw).1
   have hyq:zs[q]?=some zs[q]:=ZbG hlt
   nomatch ad (zit q _ hyq),zit
   intro u hu1 hu2
   have hu3:=mg (fun p=>([.nam p]:SS)) q u hu1
   subst hu3
   nomatch Ze1 (aA hu2 (pN4.2 q _ w hyq hw)),pN4,hw,hyq,hu2
   intro t zq1
   subst zq1
   exact .str (σ:=C.σ) [.nam q] t
 exact hQ ρ Z₁ H' s' _ v ⟨List.prefix_refl _,e.z⟩ okF ores k1
end
def rmN (x:Nat) (l:List Nat):List Nat:=@List.rec Nat (fun _=>List Nat) [] (fun y _ ih=>br (y :: ih) ih (Nat.beq x y)) l
def C0 (l:List Nat):Bool:=@List.rec Nat (fun _=>Bool) true (fun _ _ _=>false) l
def tR (p c:Nat) (op:List Nat):Option (List Nat):=br (br (nr (some op) (fun l=>br none (some (rmN l op)) (uH l op)) (Nat.div c 2)) none (C0 op)) (nr (some (p :: op)) (fun l=>br none (some op) (Nat.beq l p)) (Nat.div c 2)) (Nat.beq (Nat.mod c 2) 1)
def orS {α β:Type} (o:Option α) (z:β) (k:α->β):β:=@Option.rec α (fun _=>β) z k o
def jM (ps:List Nat):Nat->List Nat->Bool:=@List.rec Nat (fun _=>Nat->List Nat->Bool) (fun _ op=>C0 op) (fun c _ ih p op=>aB (Nat.blt c 14) (orS (tR p c op) false fun op=>ih (Nat.succ p) op)) ps
def fT (f:List Nat->Bool) (m:Nat):Nat->List Nat->List Nat->Bool:=@Nat.rec (fun _=>Nat->List Nat->List Nat->Bool) (fun _ op acc=>br true (f (pG acc [])) (C0 op)) (fun _ ih p op acc=>bu (fun c=>orS (tR p c op) true fun op=>gL op fun op=>ih (Nat.succ p) op (c :: acc)) 14) m
theorem sP {f:List Nat->Bool}:∀ (ps:List Nat) (p:Nat) (op acc:List Nat),jM ps p op=true->fT f ps.length p op acc=true->f (acc.reverse++ps)=true:=by
 intro ps
 induction ps with
 | nil =>
  intro p op acc h1 h2
  have h1:C0 op=true:=h1
  have h2:br true (f (pG acc [])) (C0 op)=true:=h2
  rw [h1,qR] at h2
  exact h2
 | cons c ps ih =>
  intro p op acc h1 h2
  nomatch Za1 (af h1),h1
  intro h3 h4
  rw [cW] at h3
  have hc:=of_decide_eq_true h3
  have h2':bu (fun c=>orS (tR p c op) true fun op=>gL op fun op=>fT f ps.length (Nat.succ p) op (c :: acc)) 14=true:=h2
  have h5:=dM h2' c hc
  have h5:orS (tR p c op) true (fun op=>gL op fun op=>fT f ps.length (Nat.succ p) op (c :: acc))=true:=h5
  induction e:tR p c op using Option.casesOn with
  | none=>rw [e] at h4; exact ffE h4
  | some op' =>
   rw [e] at h4 h5
   have h5:gL op' (fun op=>fT f ps.length (Nat.succ p) op (c :: acc))=true:=h5
   rw [ju] at h5
   have:=ih (Nat.succ p) op' (c :: acc) h4 h5
   simpa using this
def tZ (x:SS):Nat->Nat->Nat->Nat->(List Nat->List Nat->Bool)->Bool:=@List.rec SA (fun _=>Nat->Nat->Nat->Nat->(List Nat->List Nat->Bool)->Bool) (fun ph _ _ _ k=>nr (k [] []) (fun _=>false) ph)
 (fun a _ ih ph s b g k=>@SA.rec (fun _=>Bool) (fun _=>ih ph s b g k) (fun _=>false)
  (fun j=>nr (ih 1 s 0 j k) (fun _=>aZ (Nat.add s (Nat.mul 2 b)) fun c=>ih 0 0 0 0 fun ps gs=>k (c :: ps) (g :: gs)) ph) (fun _=>false)
  (fun j=>nr (ih 0 1 b g k) (fun _=>ih 1 s (Nat.succ j) g k) ph) a) x
def noB (b:Bool):Bool:=br true false b
def qH (l:List AV):Bool:=@List.rec AV (fun _=>Bool) true (fun _ _ _=>false) l
def Iu (ps:List Nat):AV->HP->Bool:=fun r H=>fh H (some 0) (some 1) (some 2) (wC ps fun a b cr=>jG r fun l=>gf l fun x l=>gf l fun y l=>aB (rG l) (hU x fun i=>hU y fun j=>aB (noB (Nat.beq i j)) (kF H i fun m xs=>kF H j fun m' ys =>
 br (cS xs a (cS ys b true)) (br (cS xs a (cS ys b true)) (aB cr (qH ys)) (qH xs)) cr)))
def kO (ps:List Nat):Bool:=iE (eU false ps) fun T=>mkH HC emptyH fun H=>nK T [.page] 12 H (Iu ps)
def Du (a b:List Nat) (H:HP) (k:AV->HP->Bool):Bool:=H.push (gM (ir a)) fun i H=>H.push (gM (ir b)) fun j H=>k (.tup (.tcons (.ref i) (.tcons (.ref j) .tnil))) H
def B7:DC:=fun args dp H k=>aB (Nat.ble 12 dp) (gY args fun v=>bk (v6 v) fun T'=>fh H (some 0) (some 1) (some 2) (tZ T' 0 0 0 0 fun ps g=>iE (eU false ps) fun T=>nN (dQ g T) T' (aB (aB (Nat.ble (oC T) 20000) (aB (Nat.ble 4 (oC ps)) (Nat.ble (oC ps) 6))) (aB (jM ps 0 [])
 (wC ps fun a b cr=>aB (Du a b H k) (br true (Du [] [] H k) cr))))))
section
variable {C:Cx} {X:Sc} {B:Bz} {f:Fm} {env:Env} {ρ:List Addr} {Z:Fz} {H:HP} {s:Shared} {A:Around}
def iF (σ:Sig) (g:List Nat) (T:SS):Sig:={ σ with sg:=fun p=>σ.sg (fF g p),page:=T }
theorem Cu {σ:Sig} (w:σ.WF) (g:List Nat) {T:SS} (h:T.length≤20000):(iF σ g T).WF:=by
 refine ⟨fun j=>w.sg _,w.nm,?_⟩
 have w0:({ σ with sg:=fun p=>σ.sg (fF g p),page:=[] }:Sig).WF:=⟨fun j=>w.sg _,w.nm,Nat.zero_le _⟩
 have:=nE _ w0 T
 refine (?_:(txt ({ σ with sg:=fun p=>σ.sg (fF g p),page:=[] }:Sig) T).length≤100000)
 omega
theorem yf {ps:List Nat} {k k':List Nat->List Nat->Bool->Bool} (h:wC ps k=true) (h':wC ps k'=true):∃ a b c,k a b c=true∧k' a b c=true:=by
 have key:∀ (l:List Nat) (p n:Nat) (st:List El) (i g:List Nat) (c:Bool) (K K':List Nat->List Nat->Bool->Bool),fD l p n st i g c K=true->fD l p n st i g c K'=true->∃ a b d,K a b d=true∧K' a b d=true:=by
  intro l
  induction l with
  | nil=>intro p n st i g c K K' h h'; exact (lA i g c h h')
  | cons x l ih =>
   intro p n st i g c K K' h h'
   have go:∀ (n:Nat) (st:List El),(mN false st fun a b nm r=>aZ (Nat.succ b) fun b=>nr
      (fD l (Nat.succ p) n (⟨a,b,nm⟩ :: r) (a :: i) (Nat.add a (Nat.mul 64 b) :: g) c K)
      (fun m=>mN false r fun a' b' _ _=>fD l (Nat.succ p) n r (a :: i) (Nat.add a' (Nat.mul 64 b') :: g) (br true c (Nat.beq m nm)) K) (Nat.div x 2))=true ->
     (mN false st fun a b nm r=>aZ (Nat.succ b) fun b=>nr
      (fD l (Nat.succ p) n (⟨a,b,nm⟩ :: r) (a :: i) (Nat.add a (Nat.mul 64 b) :: g) c K')
      (fun m=>mN false r fun a' b' _ _=>fD l (Nat.succ p) n r (a :: i) (Nat.add a' (Nat.mul 64 b') :: g) (br true c (Nat.beq m nm)) K') (Nat.div x 2))=true->∃ a b d,K a b d=true∧K' a b d=true:=by
    intro n st h h'
    induction st using List.casesOn with
    | nil=>exact ffE h
    | cons e r =>
     obtain ⟨a,b,nm⟩:=e
     have h:(aZ (Nat.succ b) fun b=>nr (fD l (Nat.succ p) n (⟨a,b,nm⟩ :: r) (a :: i) (Nat.add a (Nat.mul 64 b) :: g) c K) (fun m=>mN false r fun a' b' _ _=>fD l (Nat.succ p) n r (a :: i) (Nat.add a' (Nat.mul 64 b') :: g) (br true c (Nat.beq m nm)) K) (Nat.div x 2))=true:=h
     have h':(aZ (Nat.succ b) fun b=>nr (fD l (Nat.succ p) n (⟨a,b,nm⟩ :: r) (a :: i) (Nat.add a (Nat.mul 64 b) :: g) c K') (fun m=>mN false r fun a' b' _ _=>fD l (Nat.succ p) n r (a :: i) (Nat.add a' (Nat.mul 64 b') :: g) (br true c (Nat.beq m nm)) K') (Nat.div x 2))=true:=h'
     rw [aP] at h h'
     induction q:Nat.div x 2 using Nat.casesAuxOn with
     | zero=>rw [q] at h h'; exact ih _ _ _ _ _ _ _ _ h h'
     | succ m =>
      rw [q] at h h'
      induction r using List.casesOn with
      | nil=>exact ffE h
      | cons e r=>obtain ⟨a',b',nm'⟩:=e; exact ih _ _ _ _ _ _ _ _ h h'
   induction q:Nat.beq (Nat.mod x 2) 1 using Bool.casesOn with
   | true =>
    have e1:∀ K,fD (x :: l) p n st i g c K=aZ (Nat.succ n) fun n=>(mN false (⟨n,0,p⟩ :: st) fun a b nm r=>aZ (Nat.succ b) fun b=>nr
      (fD l (Nat.succ p) n (⟨a,b,nm⟩ :: r) (a :: i) (Nat.add a (Nat.mul 64 b) :: g) c K)
      (fun m=>mN false r fun a' b' _ _=>fD l (Nat.succ p) n r (a :: i) (Nat.add a' (Nat.mul 64 b') :: g) (br true c (Nat.beq m nm)) K) (Nat.div x 2)):=fun K=>by
     refine (?_:br _ _ (Nat.beq (Nat.mod x 2) 1)=_)
     rw [q]; rfl
    rw [e1,aP] at h h'
    exact go _ _ h h'
   | false =>
    have e1:∀ K,fD (x :: l) p n st i g c K=(mN false st fun a b nm r=>aZ (Nat.succ b) fun b=>nr
      (fD l (Nat.succ p) n (⟨a,b,nm⟩ :: r) (a :: i) (Nat.add a (Nat.mul 64 b) :: g) c K)
      (fun m=>mN false r fun a' b' _ _=>fD l (Nat.succ p) n r (a :: i) (Nat.add a' (Nat.mul 64 b') :: g) (br true c (Nat.beq m nm)) K) (Nat.div x 2)):=fun K=>by
     refine (?_:br _ _ (Nat.beq (Nat.mod x 2) 1)=_)
     rw [q]; rfl
    rw [e1] at h h'
    exact go _ _ h h'
 refine eH (key ps 0 1 [⟨1,0,99⟩] [] [] false _ _ h h') fun i g c h1 h2=>?_
 simp only [ju] at h1 h2
 exact (lA _ _ c h1 h2)
theorem xh {a b:List Nat} {k:AV->HP->Bool} (h:Du a b H k=true):∃ H₁ H₂:HP,k (.tup (.tcons (.ref H.n) (.tcons (.ref (H.n+1)) .tnil))) H₂=true∧H₁.n=H.n+1∧(∀ i,H₁.get i=if i=H.n then some (.list (ir a).length (ir a).reverse) else H.get i)∧H₂.n=H₁.n+1∧∀ i,H₂.get i=if i=H₁.n then some (.list (ir b).length (ir b).reverse) else H₁.get i:=by
 refine aU (HP.push_spec (H:=H) (k:=fun i H=>H.push (gM (ir b)) fun j H=>k (.tup (.tcons (.ref i) (.tcons (.ref j) .tnil))) H) h) fun H₁ h1 h2 h3=>?_
 refine aU (HP.push_spec (H:=H₁) (k:=fun j H'=>k (.tup (.tcons (.ref H.n) (.tcons (.ref j) .tnil))) H') h1) fun H₂ g1 g2 g3=>?_
 rw [h2] at g1
 simp only [f6] at h3 g3
 exact (iP H₁ H₂ g1 h2 h3 g2 g3)
theorem qf {l:List AV} (h:qH l=true):l=[]:=by induction l using List.casesOn with
 | nil=>rfl
 | cons _ _=>exact ffE h
theorem ye (P:PC C) (hR:∀ ps,4≤ps.length->ps.length≤6->jM ps 0 []=true->kO ps=true):SC C (.ref 303) 1 B7:=by
 intro X dp f H k A env B ρ Z s args vals hc hA ok hv hlen Q E hQ
 nomatch Za1 (af hc),hc
 intro hdp hc1
 nomatch ad (bD hc1 hlen),hc1
 intro a zq1 hc2
 subst zq1
 nomatch ad hv.one,hv
 intro va zq1 ra
 subst zq1
 nomatch ad (al hc2),hc2
 intro T' hT' hc3
 have:=jK hT'
 subst this
 nomatch Za3 (cC hc3),hc3
 intro T0 T1 T2 hc4
 have par:∀ (x:SS) (a b c d:Nat) (K:List Nat->List Nat->Bool),tZ x a b c d K=true->∃ ps g,K ps g=true:=by
  intro x
  induction x with
  | nil =>
   intro a b c d K h
   induction a using Nat.casesAuxOn with
   | zero=>exact (lx ([]) ([]) h)
   | succ a=>exact ffE h
  | cons y x ih =>
   intro a b c d K h
   induction y using SA.casesOn with
   | c n=>exact ih a b c d K h
   | spl j =>
    induction a using Nat.casesAuxOn with
    | zero=>exact ih 1 b 0 j K h
    | succ a =>
     have h:(aZ (Nat.add b (Nat.mul 2 c)) fun e=>tZ x 0 0 0 0 fun ps gs=>K (e :: ps) (d :: gs))=true:=h
     rw [aP] at h
     refine Ze2 (ih 0 0 0 0 _ h) fun ps g h=>?_
     exact (lx _ _ h)
   | nam j =>
    induction a using Nat.casesAuxOn with
    | zero=>exact ih 0 1 c d K h
    | succ a=>exact ih 1 b (Nat.succ j) d K h
   | _=>exact ffE h
 nomatch Ze2 (par _ _ _ _ _ _ hc4),hc4,par
 intro ps g hc5
 rw [lv] at hc5
 nomatch Za1 (df hc5),hc5
 intro eT hc6
 nomatch Za1 (af hc6),hc6
 intro hb hc7
 nomatch Za1 (af hb),hb
 intro hb1 hb2
 nomatch Za1 (af hb2),hb2
 intro hb3 hb4
 rw [qL] at hb1 hb3 hb4
 have hb1:=ZbL hb1
 have hb3:=ZbL hb3
 have hb4:=ZbL hb4
 nomatch Za1 (af hc7),hc7
 intro hsh hc8
 have run:=hR ps hb3 hb4 hsh
 unfold kO at run
 rw [lv] at run
 have wf':=Cu C.wf g hb1
 have P':=P.re (σ':=iF C.σ g (eU false ps)) wf' rfl rfl
 have gd:=ok.g
 have t0:ρ[0]?=some 184:=gd.tabs 0 184 (by rw [P.tabs]; rfl)
 have t1:ρ[1]?=some 191:=gd.tabs 1 191 (by rw [P.tabs]; rfl)
 have t2:ρ[2]?=some 123:=gd.tabs 2 123 (by rw [P.tabs]; rfl)
 have nd:=sZ gd.nd [0,1,2] [184,191,123] (by decide) rfl (atC t0 (atC t1 (atC t2 atN)))
 have mem0:∀ a∈([184,191,123]:List Addr),a∈ρ:=fun a ha=>by
  simp only [List.mem_cons,List.not_mem_nil,or_false] at ha
  rcases ha with rfl | rfl | rfl
  ·exact ZbM t0
  ·exact ZbM t1
  ·exact ZbM t2
 have tabO:∀ (i:Nat) (t:Addr) e,ρ[i]?=some t->H.get i=some (.tab e)->∃ ob,s.heap.get? t=some ob∧ORel C ρ Z (.tab e) ob:=fun i t e h1 h2=>by
  nomatch ay (gd.obj i t h1),gd,h1
  intro ao ob q1 q2 q3
  rw [h2] at q1
  injections q1
  exact (am ob q2 q3)
 nomatch Ze1 (aA (.inl rfl) ra),ra
 intro t zq1
 subst zq1
 have etx:aw C.σ T'=aw (iF C.σ g (eU false ps)) (iF C.σ g (eU false ps)).page:=by
  rw [eT]
  unfold aw
  rw [← pN (σ':=iF C.σ g (eU false ps)) (fun _=>rfl) rfl]
  rfl
 refine iu ok (hA.less (ZbL hdp)) (σ':=iF C.σ g (eU false ps)) wf' rfl (tn P' (T:=eU false ps) rfl) run mem0 nd (fun k P'' hk=>by rw [P.tabs] at hk; exact hk) rfl (atC (ad (tabO 0 _ _ t0 T0) fun ob q1 q2=>am ob q1 (ORel.tab_free (C:=C.re (iF C.σ g (eU false ps)) wf' rfl) (C':=C) rfl q2)) (atC (ad (tabO 1 _ _ t1 T1) fun ob q1 q2=>am ob q1 (ORel.tab_free (C:=C.re (iF C.σ g (eU false ps)) wf' rfl) (C':=C) rfl q2)) (atC (ad (tabO 2 _ _ t2 T2) fun ob q1 q2=>am ob q1 (ORel.tab_free (C:=C.re (iF C.σ g (eU false ps)) wf' rfl) (C':=C) rfl q2)) atN))) (.cons (by rw [etx]; exact .page t) .nil) rfl Q E fun ρ₁ Z₁ H₁ s' b v e obj r hk ndq1 back fresh=>?_
 nomatch Za3 (cC hk),hk
 intro U0 U1 U2 d1
 nomatch eH (yf d1 hc8),hc8,d1
 intro la lb cr d2 hc9
 nomatch ad (dD d2),d2
 intro l zq1 d3
 subst zq1
 nomatch aE (cB d3),d3
 intro x l' zq2 d4
 subst zq2
 nomatch aE (cB d4),d4
 intro y l'' zq2 d5
 subst zq2
 nomatch Za1 (af d5),d5
 intro d6 d7
 have:=iX d6
 subst this
 nomatch ad (cF d7),d7
 intro i zq1 d8
 subst zq1
 nomatch ad (cF d8),d8
 intro j zq1 d9
 subst zq1
 nomatch Za1 (af d9),d9
 intro dij d10
 nomatch aE (dG d10),d10
 intro m xs Vi d11
 nomatch aE (dG d11),d11
 intro m' ys Vj d12
 have hij:i ≠ j:=fun q=>by
  subst q
  have:Nat.beq i i=true:=Nat.beq_refl i
  rw [this] at dij; exact ffE dij
 have pre:∀ (i:Nat) a,([184,191,123]:List Addr)[i]?=some a->ρ₁[i]?=some a:=fun i a h=>bz e.p h
 have ge3:∀ {j nn:Nat} {r:List AV},H₁.get j=some (.list nn r)->3≤j:=fun {j nn r} h=>by
  match j,h with
  | 0,h=>rw [U0] at h; injections h
  | 1,h=>rw [U1] at h; injections h
  | 2,h=>rw [U2] at h; injections h
  | j+3,_=>omega
 have i3:=ge3 Vi
 have j3:=ge3 Vj
 nomatch da r.inv,r
 intro ws aT nT zq3 hT1 hT2 hT3
 subst zq3
 have zh32:∃ w,ws[0]?=some w:=⟨_,ZbG (by rw [← hT2]; simp [AV.items])⟩
 nomatch Ze1 zh32,zh32
 intro w0 hw0
 have zh33:∃ w,ws[1]?=some w:=⟨_,ZbG (by rw [← hT2]; simp [AV.items])⟩
 nomatch Ze1 zh33,zh33
 intro w1 hw1
 refine ad ((hT3 0 _ w0 rfl hw0).ref_inv) fun ai zq1 hai=>?_
 subst zq1
 nomatch ad ((hT3 1 _ w1 rfl hw1).ref_inv),hT3
 intro aj zq1 haj
 subst zq1
 have notIn:∀ {k:Nat} {b:Addr},3≤k->ρ₁[k]?=some b->b ∉ ([184,191,123]:List Addr):=fun {k b} h1 h2 hm=>by
  refine Ze1 (List.getElem?_of_mem hm) fun q hq=>?_
  have hq3:q<3:=(ZbS hq).1
  have:=(List.getElem?_inj (ZbS h2).1 ndq1).mp (h2.trans (pre q b hq).symm)
  clear hT2 j3 i3 hij hb4 hb3 hb1 hlen; omega
 refine Za4 (fresh ai (ZbM hai) (notIn i3 hai)) fun fi1 fi2 fi3 fi4 fi5=>?_
 nomatch Za4 (fresh aj (ZbM haj) (notIn j3 haj)),fresh,notIn
 intro fj1 fj2 fj3 fj4 fj5
 have hne:aj ≠ ai:=fun q=>hij ((List.getElem?_inj (ZbS hai).1 ndq1).mp (hai.trans (q ▸ haj.symm)))
 have lst:∀ (i:Nat) (a:Addr) (m:Nat) (xs:List AV),ρ₁[i]?=some a->H₁.get i=some (.list m xs.reverse)->∃ vs ep,IsL s'.heap a (vs:List Value).toArray ep∧xs.length=m∧VRs (iF C.σ g (eU false ps)) ρ₁ Z₁ xs vs:=fun i a m xs h1 h2=>by
  nomatch ay (obj i a h1),obj,h1
  intro ao ob q1 q2 q3
  rw [h2] at q1
  injections q1
  nomatch Za1 q3,q3
  intro w1 zw0
  nomatch aE zw0,zw0
  intro vs' ep' zq3 w3
  subst zq3
  rw [List.reverse_reverse] at w3
  exact (aK vs' ep' q2 (by simpa using w1) w3)
 nomatch ay (lst i ai m xs hai Vi),Vi,hai
 intro vi epi pi1 pi2 pi3
 nomatch ay (lst j aj m' ys haj Vj),Vj,haj,lst
 intro vj epj pj1 pj2 pj3
 have ok₁:=back H rfl (fun _ _ _ _=>rfl) fun i a hi ha=>by
  have idx:∀ {k:Nat} {b:Addr},ρ[k]?=some b->a=b->i=k:=fun {k b} h1 h2=>(List.getElem?_inj (ZbS hi).1 gd.nd).mp (hi.trans (h2 ▸ h1.symm))
  have tabF:∀ (k:Nat) (b:Addr) e,ρ[k]?=some b->([184,191,123]:List Addr)[k]?=some b->H.get k=some (.tab e)->H₁.get k=some (.tab e)->a=b->∃ ao o,H.get i=some ao∧s'.heap.get? a=some o∧ORel C ρ Z₁ ao o:=fun k b e' h1 h2 h3 h4 h5=>by
   have:=idx h1 h5
   subst this
   subst h5
   nomatch ay (obj i a (pre i a h2)),obj,pre,h2
   intro ao ob q1 q2 q3
   rw [h4] at q1
   injections q1
   exact (aK _ ob h3 q2 (ORel.tab_free (C:=C) (C':=C.re (iF C.σ g (eU false ps)) wf' rfl) rfl q3))
  simp only [List.mem_cons,List.not_mem_nil,or_false] at ha
  rcases ha with h | h | h
  ·exact tabF 0 _ _ t0 rfl T0 U0 h
  ·exact tabF 1 _ _ t1 rfl T1 U1 h
  ·exact tabF 2 _ _ t2 rfl T2 U2 h
 have fin:∀ (a' b':List Nat),cS xs a' true=true->cS ys b' true=true->Du a' b' H k=true->Q (.ref aT) s':=fun a' b' hx hy ho=>by
  nomatch dO (xh ho),ho
  intro H₂ H3 k1 k2 k3 k4 k5
  have rel:∀ (zs:List AV) (ws:List Value) (o:List Nat) (ρ':List Addr),cS zs o true=true->VRs (iF C.σ g (eU false ps)) ρ₁ Z₁ zs ws->VRs C.σ ρ' Z₁ (ir o) ws:=fun zs ws o ρ' h1 h2=>by
   nomatch Za2 (fB h1),h1
   intro e1 _ e2
   refine .of (by rw [tW,← h2.1,e1]) fun q z w hz hw=>?_
   nomatch ad (sW hz),hy
   intro y hy zq2
   subst zq2
   have hlt:q<zs.length:=by rw [h2.1]; exact (ZbS hw).1
   have hzq:zs[q]?=some zs[q]:=ZbG hlt
   nomatch ad (e2 q _ hzq),e2
   intro y' hy1 hy2
   rw [hy] at hy1
   injections hy1
   nomatch Ze1 (ar hy2 (h2.2 q _ w hzq hw)),h2,hw,hzq,hy2
   intro t zq1
   subst zq1
   exact .int ..
  nomatch Za1 (ok₁.adoptL (a:=ai) (vs:=vi) (rx:=(ir a').reverse) pi1 ⟨fi1,fi2,fi4,fi3⟩ fi5 k2 (by simpa using k3) (by rw [List.reverse_reverse]; exact rel xs vi a' ρ hx pi3) (by simp)),fi2,fi4,pi1,ok₁
  intro okA rA
  obtain ⟨okB,rB⟩:=okA.adoptL (a:=aj) (vs:=vj) (rx:=(ir b').reverse) pj1 ⟨fun hm=>by
    rcases List.mem_append.mp hm with h | h
    ·exact fj1 h
    ·exact hne (List.mem_singleton.mp h),fj2,fj4,fj3⟩ fj5 k4 (by simpa using k5) (by rw [List.reverse_reverse]; exact rel ys vj b' _ hy pj3) (by simp)
  refine hQ _ Z₁ H3 s' _ (.ref aT) ⟨(List.prefix_append ..).trans (List.prefix_append ..),e.z⟩ okB (.tup hT1 (by simpa [AV.items] using hT2) fun q z w hz hw=>?_) k1
  match q,hz with
  | 0,hz =>
   injections hz
   rw [hw0] at hw
   injections hw
   exact rA.mono (List.prefix_append ..) (Fz.le.rfl _)
  | 1,hz =>
   injections hz
   rw [hw1] at hw
   injections hw
   rw [k2] at rB
   exact rB
  | q+2,hz=>simp [AV.items] at hz
 nomatch Za1 (af hc9),hc9
 intro ho1 ho2
 have both:cS xs la (cS ys lb true)=true->cS xs la true=true∧cS ys lb true=true:=fun h=>by
  refine Za2 (fB h) fun _ h2 _=>?_
  refine ⟨?_,h2⟩
  rw [h2] at h; exact h
 have d13:br (cS xs la (cS ys lb true)) (br (cS xs la (cS ys lb true)) (aB cr (qH ys)) (qH xs)) cr=true:=d12
 induction cr using Bool.casesOn with
 | false =>
  refine Za1 (both d13) fun q1 q2=>?_
  exact fin la lb q1 q2 ho1
 | true =>
  have d14:br (cS xs la (cS ys lb true)) (aB true (qH ys)) (qH xs)=true:=d13
  induction q:qH xs using Bool.casesOn with
  | false =>
   rw [q] at d14
   refine Za1 (both d14) fun q1 q2=>?_
   exact fin la lb q1 q2 ho1
  | true =>
   rw [q] at d14
   nomatch Za1 (af (show aB true (qH ys)=true from d14)),d14
   intro _ q2
   have:=qf q
   subst this
   have:=qf q2
   subst this
   exact fin [] [] rfl rfl ho2
end
def f0:Fm:=⟨[some (.tcons .none .tnil),none,none,none,none,none,none,none],[3,4,5,6]⟩
def HZ:List AO:=[.tab none,.tab none,.tab none,.cell none,.cell none,.cell none,.cell none]
def HD:List AO:=[.tab none,.tab none,.tab none,.cell (some (.ref 7)),.cell none,.cell none,.cell none,.list 4 [.cel 3,.cel 2,.cel 1,.cel 0]]
def vC (ao:AO) (k:Option AV->Bool):Bool:=@AO.rec (fun _=>Bool) (fun _ _=>false) (fun _=>false) (fun _=>false) (fun _=>false) (fun v=>k v) (fun e=>false) ao
theorem l6 {ao:AO} {k:Option AV->Bool} (h:vC ao k=true):∃ e,ao = .cell e∧k e=true:=by
 induction ao using AO.casesOn<;>first | exact (am _ rfl h) | exact ffE h
def Ie (o:Option AV) (k:Bool):Bool:=@Option.rec AV (fun _=>Bool) k (fun _=>false) o
def vV (H:HP) (j:Nat) (k:Bool):Bool:=H.getK j fun ao=>vC ao fun v=>Ie v k
theorem j6 {H:HP} {j:Nat} {k:Bool} (h:vV H j k=true):H.get j=some (.cell none)∧k=true:=by
 nomatch ad (HP.getK_true h),h
 intro ao h1 h2
 nomatch ad (l6 h2),h2
 intro e zq1 h3
 subst zq1
 induction e using Option.casesOn with
 | none=>exact ⟨h1,h3⟩
 | some _=>exact ffE h3
def BQ (xs:List AV) (k:Bool):Nat->Bool:=@List.rec AV (fun _=>Nat->Bool) (fun n=>br false k (Nat.beq n 4)) (fun x _ ih n=>bk (je x) fun c=>br false (ih (Nat.succ n)) (Nat.beq c n)) xs
theorem u7 {xs:List AV} {k:Bool}:∀ {n:Nat},BQ xs k n=true->k=true∧n+xs.length=4∧∀ (i:Nat) x,xs[i]?=some x->x = .cel (n+i):=by
 induction xs with
 | nil =>
  intro n h
  have h:br false k (Nat.beq n 4)=true:=h
  induction e:Nat.beq n 4 using Bool.casesOn with
  | false=>rw [e] at h; exact ffE h
  | true=>rw [e] at h; exact ⟨h,ZbE e,fun i x hx=>by simp at hx⟩
 | cons x xs ih =>
  intro n h
  refine ad (al h) fun c h1 h2=>?_
  have hx:x = .cel c:=by induction x using AV.casesOn<;>simp_all [je]
  subst hx
  have h2:br false (BQ xs k (Nat.succ n)) (Nat.beq c n)=true:=h2
  induction e:Nat.beq c n using Bool.casesOn with
  | false=>rw [e] at h2; exact ffE h2
  | true =>
   rw [e] at h2
   have:=ZbE e
   subst this
   nomatch Za2 (ih h2),ih,h2
   intro g1 g2 g3
   refine ⟨g1,by rw [List.length_cons]; omega,fun i z hz=>?_⟩
   induction i using Nat.casesAuxOn with
   | zero=>simp at hz; exact hz.symm
   | succ i=>rw [g3 i z (by simpa using hz)]; congr 1; omega
def I2 (H:HP) (j:Nat):Bool:=aB (Nat.blt j H.n) (kF H j fun _ xs=>un1 xs fun x _=>bk (we x) fun _=>true)
def IR (w:Nat) (f:Fm) (H:HP):Bool:=un1 f.loc fun o _=>bk o fun v=>aB (zK v) (aB (GP f.cel [3,4,5,6]) (fh H none none none (vV H 4 (vV H 5 (vV H 6 (H.getK 3 fun ao=>vC ao fun v=>bk v fun v=>hU v fun j=>kF H j fun n xs=>BQ xs (I2 H w) 0))))))
def HY (w:Nat):Bool:=mkH HZ emptyH fun H=>yR 40 f0 H (IR w) (fun _ _=>false)
def qZ (r0 r1:Nat):Bool:=mkH HD emptyH fun H=>Bs r0 r1 Bw BK B7 40 f0 H (fun _ _=>false) (fun v H=>oa v fun b=>aB b (fh H (some 0) (some 1) (some 2) true))
noncomputable def noZ:Fz:=⟨fun _ _=>False,fun _ _=>False⟩
theorem Fa {C:Cx} {X:Sc} {env:Env} {s:Shared} {ρ:List Addr} {aos:List AO} {H:HP} {f:Fm} (hG:∀ a o,C.G.get? a=some o->s.heap.get? a=some o) (hn:H.n=aos.length) (hH:∀ i,H.get i=aos[i]?) (hlen:ρ.length=aos.length)
  (hobj:∀ (j:Nat) a ao,ρ[j]?=some a->aos[j]?=some ao->∃ o,s.heap.get? a=some o∧ORel C ρ noZ ao o) (hnd:(1 :: ρ).Nodup) (hab:∀ a∈ρ,C.G.get? a=none) (hL:env.locals ∉ ρ) (hLG:C.G.get? env.locals=none)
  (hls:env.locals<s.heap.objs.size) (same:∃ h t,s = { C.s₀ with heap:=h,toks:=t }) (tk:C.t1->1≤s.toks) (tabs:∀ (k:Nat) P,C.tabs[k]?=some P->ρ[k]?=some P) (fr:FrOK C X ρ noZ f env s.heap) :
  OK C X (fun a o=>C.G.get? a=some o) f env ρ noZ H s :=
 ⟨⟨fun a o h=>h,fun a o h=>hG a o h,fun a o h=>False.elim h,hlen.trans hn.symm,(fun j a hj=>by
   have hj':j<aos.length:=hlen ▸ (ZbS hj).1
   refine ad (hobj j a aos[j] hj (by simp [hj'])) fun o q1 q2=>?_
   exact (aK (aos[j]) o (by rw [hH]; simp [hj']) q1 q2)),hnd,(fun a ha o h=>by rw [hab a ha] at h; exact noS h),(fun a _ o h=>False.elim h),hL,(fun o h=>by rw [hLG] at h; exact noS h),(fun o h=>False.elim h),(fun a o o' h=>False.elim h),hls,same,tk,(fun t v h=>False.elim h),(fun t v w h=>False.elim h),tabs⟩,fr⟩
def z6 (w:World) (sa:Addr) (vs:List Value):Sig :=
 {
  fns:=fun i=>match i with
   | 0=>some (ql (i9 w.params 189) 1 "_int2digits.<locals>.inner" ["a_digits", "inner", "n"])
   | 1=>some (ql (i9 w.params 196) 0 "_digits2int.<locals>.inner" ["digits", "inner", "n"])
   | 2=>some qy.1
   | _=>none
  sg:=fun j=>(sgTab[(Int.fmod (Int.fdiv (cM 2+eN vs 2) ((8 ^ j:Nat):Int)) ((8:Nat):Int)).toNat]?).getD 38
  nm:=fun j=>(nmTab[(Int.fmod (Int.fdiv (cM 3+eN vs 3) ((3 ^ j:Nat):Int)) ((3:Nat):Int)).toNat]?).getD [97]
  cel:=fun k=>cM k+eN vs k
  scr:=.ref sa
  bt:=w.params.followText "set-order" }
theorem yx (w:World) (sa:Addr) (vs:List Value):(z6 w sa vs).WF:=by
 refine ⟨fun j=>?_,fun j=>?_,Nat.zero_le _⟩
 ·show (sgTab[_]?).getD 38∈_
  induction h:sgTab[(Int.fmod (Int.fdiv (cM 2+eN vs 2) ((8 ^ j:Nat):Int)) ((8:Nat):Int)).toNat]? using Option.casesOn with
  | none=>simp
  | some n=>exact ZbM h
 ·show (nmTab[_]?).getD [97]∈_
  induction h:nmTab[(Int.fmod (Int.fdiv (cM 3+eN vs 3) ((3 ^ j:Nat):Int)) ((3:Nat):Int)).toNat]? using Option.casesOn with
  | none=>simp
  | some n=>exact ZbM h
theorem fig {x:Int} {m:Nat} (hm:0<m):∃ n,n<m∧Int.fmod x (m:Int)=((n:Nat):Int)∧(Int.fmod x (m:Int)).toNat=n:=by
 have h1:0≤Int.fmod x (m:Int):=Int.fmod_nonneg_of_pos _ (by omega)
 have h2:Int.fmod x (m:Int)<m:=Int.fmod_lt_of_pos _ (by omega)
 exact (bA ((Int.fmod x (m:Int)).toNat) (by omega) (by omega) rfl)
structure Runs:Prop where
 pg:∀ n rw g,4≤n->n≤6->g<6->bI n rw g=true
 od:∀ n o,4≤n->n≤6->o.length=n->ja n o []=true->Ord o
 rd:∀ ps,4≤ps.length->ps.length≤6->jM ps 0 []=true->kO ps=true
 dm:∀ a b,a<t8 b->mG a b=true
 l1:∃ w,HY w=true
 l2:∀ r0 r1,r0<3->r1<tq r0->qZ r0 r1=true
structure Start (w:World) (mg mb:Str->Option Value) (G h:Heap) (sa:Addr) (vs:List Value) (L:Nat):Prop where
 K:(hd.heap_1 w.params).In G
 g:G.Ns mainGlobals mg
 b:G.Ns builtinsNs mb
 nl:G.NoLimit
 bi:∀ x:Str,x ≠ "__name__"->mb x=bootBuiltins x
 bm:∃ bm ob,mg "__builtins__" = some (.ref bm)∧bm ≠ builtinsNs∧G.get? bm=some ob∧ob.cls = .type "module"∧ob.dict=some builtinsNs∧ob.data = .plain
 h0:CodeHd G 188 184
 h1:CodeHd G 195 191
 h2:CodeHd G 125 123
 scrL:G.IsList sa vs.toArray
 scrI:AllInts vs.toArray
 scrN:vs.length≤100000
 keep:∀ b o,G.get? b=some o->h.get? b=some o
 above:G.objs.size≤L
 lt:L<h.objs.size
 big:191<L
 tab:∀ P∈([184,191,123]:List Addr),h.get? P=some (tabObj #[])∧G.get? P=none
 cel:∀ i:Nat,i<4->∃ o,h.get? (L+1+i)=some o∧o.data = .cell none∧G.get? (L+1+i)=none
theorem D7 {K:Frag} {h:Heap} {m:Str->Option Value} {a:Addr} {n:Str} (X:K.In h) (G:h.Ns a m) (e:nsIn K a n=some none):m n=none:=by
 nomatch da G,G
 intro o es ep ho hdt _ hf
 rw [← hf]
 induction hl:K.lookup a using Option.casesOn with
 | none=>unfold nsIn at e; rw [hl] at e; exact noS e
 | some o' =>
  have h1:=X a o' hl
  rw [ho] at h1
  injections h1
  obtain ⟨c,d,dt,sl⟩:=o
  cases hdt
  unfold nsIn at e
  rw [hl] at e
  dsimp only at e
  induction hq:es.toList.find? (·.key.isStr n) using Option.casesOn with
  | some x=>rw [hq] at e; injections e
  | none =>
   show ((es.find? fun x=>x.key.isStr n).map (·.val))=none
   rw [← Array.find?_toList,hq]
   rfl
theorem qM (p:Params):nsIn (hd.heap_1 p) cStatics sharingNotToldKey=some none:=by kernel_rfl
def wa (prog:Program) (w:World) (mg mb:Str->Option Value) (G h:Heap) (sa:Addr) (vs:List Value) (L:Nat) (sh:Shared) (t:Prop) (S:Start w mg mb G h sa vs L):Cx :=
 {
  prog:=prog,w:=w,σ:=z6 w sa vs,K:=hd.heap_1 w.params,G:=G,s₀:=sh,mg:=mg,mb:=mb,KI:=S.K,g:=S.g,b:=S.b,nolimit:=S.nl,wf:=yx w sa vs,tabs:=[184,191,123],
  bma:=fun P hP=>by
   refine dO S.bm fun bm ob h1 h2 h3 h4 zw0=>?_
   nomatch Za1 zw0,zw0
   intro h5 h6
   refine ⟨bm,ob,h1,h2,fun q=>?_,fun q=>?_,h3,h4,h5,h6⟩
   ·subst q
    nomatch bM S.g,S
    intro o es ep q1 q2 _
    rw [h3] at q1
    injections q1
    rw [h6] at q2
    cases q2
   ·subst q
    rw [(S.tab bm hP).2] at h3
    exact noS h3
  nb:=by
   refine ad S.nl fun mc q _=>?_
   exact ⟨mc,q,D7 S.K q (qM w.params)⟩
  hbt:=rfl,t1:=t }
noncomputable abbrev jV (L:Nat) (fa:Addr) (cd:Value):Env:=envOfC "law" sF.1.1 L fa cd
noncomputable abbrev GK (cd:Value):Sc:=⟨sF.1.1,["script", "number", "names", "signs", "partner", "page", "other", "lack"],["cells", "n", "row", "order"],cd, "law"++".<locals>."⟩
theorem qF (L:Nat) (fa:Addr) (cd:Value) (k:Nat) (x:Str) (j:Nat) (h1:(["cells", "n", "row", "order"]:List Str)[k]?=some x) (h2:[3,4,5,6][k]?=some j):(jV L fa cd).cells.lookup x=some (L+1+(j-3)):=by
 match k,h1,h2 with
 | 0,h1,h2=>injections h1; injections h2; rfl
 | 1,h1,h2=>injections h1; injections h2; rfl
 | 2,h1,h2=>injections h1; injections h2; rfl
 | 3,h1,h2=>injections h1; injections h2; rfl
 | k+4,h1,_=>simp at h1
theorem zL {prog:Program} {w:World} {mg mb:Str->Option Value} {G h:Heap} {sa:Addr} {vs:List Value} {L:Nat} {sh:Shared} {t:Prop} (S:Start w mg mb G h sa vs L):PC0 (wa prog w mg mb G h sa vs L sh t S) :=
 ⟨rfl,S.bi,rfl,S.h0,S.h1,S.h2,rfl,rfl,rfl⟩
theorem Fh {prog:Program} {w:World} {mg mb:Str->Option Value} {G h:Heap} {sa:Addr} {vs:List Value} {L:Nat} {sh:Shared} {t:Prop} (S:Start w mg mb G h sa vs L):LC (wa prog w mg mb G h sa vs L sh t S):=by
 refine ⟨(iP sa vs rfl S.scrL S.scrI S.scrN (fun k _=>⟨rfl,trivial⟩)),fun j _=>?_,fun j _=>?_⟩
 ·refine aU (fig (x:=Int.fdiv (cM 2+eN vs 2) ((8 ^ j:Nat):Int)) (m:=8) (by omega)) fun n h1 h2 h3=>?_
  refine (bA n h1 h2 (?_))
  show sgTab[n]?=some ((sgTab[(Int.fmod (Int.fdiv (cM 2+eN vs 2) ((8 ^ j:Nat):Int)) ((8:Nat):Int)).toNat]?).getD 38)
  rw [h3]
  have:n<sgTab.length:=h1
  rw [ZbG this]
  rfl
 ·refine aU (fig (x:=Int.fdiv (cM 3+eN vs 3) ((3 ^ j:Nat):Int)) (m:=3) (by omega)) fun n h1 h2 h3=>?_
  refine (bA n h1 h2 (?_))
  show nmTab[n]?=some ((nmTab[(Int.fmod (Int.fdiv (cM 3+eN vs 3) ((3 ^ j:Nat):Int)) ((3:Nat):Int)).toNat]?).getD [97])
  rw [h3]
  have:n<nmTab.length:=h1
  rw [ZbG this]
  rfl
theorem xE {C:Cx} {ρ:List Addr} {Z:Fz} {e:Option Nat} {o:Obj} (h:ORel C ρ Z (.tab e) o):∃ ps,o=tabObj ps:=by
 induction e using Option.casesOn with
 | none=>exact ⟨#[],h⟩
 | some i=>(refine Ze4 h ?_; clear h; intro T c oc vs zw0; refine aU zw0 ?_; clear zw0; intro u _ h2 _); exact ⟨_,h2⟩
theorem law_walk (R:Runs) {prog:Program} {w:World} {mg mb:Str->Option Value} {G h:Heap} {sa:Addr} {vs:List Value} {L:Nat} {fa:Addr} {cd:Value} {sh:Shared} (S:Start w mg mb G h sa vs L) (hsh:sh.heap=h) {m:Str->Option Value} (hm:h.Ns L m) (hsc:m "script" = some (.ref sa))
  {Q:Flow->Shared->Prop} {E:Value->Shared->Prop}
  (hQ:∀ s' m',(∀ b o,G.get? b=some o->s'.heap.get? b=some o)->(∃ h t,s' = { sh with heap:=h,toks:=t })->(∀ P∈([184,191,123]:List Addr),GrownAt P s'.heap)->s'.heap.Ns L m'->Q (.ret (.bool true)) s') :
  wpAny (model prog w) (callerA.deeper (jV L fa cd)) (execs (sF.1.2.1 :: sF.1.2.2) (jV L fa cd)) Q E sh:=by
 subst hsh
 refine Ze1 R.l1 fun wi hl1=>?_
 nomatch aU (G4 hl1),hl1
 intro H₁ hd1 n1 g1
 have hA:AOk 40 (callerA.deeper (jV L fa cd)):=⟨rfl,ZbL rfl,ZbL rfl⟩
 let Cq1:=wa prog w mg mb G sh.heap sa vs L sh False S
 let ρ:List Nat:=[184,191,123,L+1,L+2,L+3,L+4]
 have big:=S.big
 have hcel:∀ i:Nat,i<4->∃ o,sh.heap.get? (L+1+i)=some o∧o.data = .cell none∧G.get? (L+1+i)=none:=S.cel
 have GL:∀ a:Nat,L≤a->G.get? a=none:=fun a ha=>by
  induction q:G.get? a using Option.casesOn with
  | none=>rfl
  | some o=>exact absurd (Heap.lt_size q) (Nat.not_lt.mpr (Nat.le_trans S.above ha))
 have hab:∀ a∈ρ,G.get? a=none:=fun a ha=>by
  simp only [ρ,List.mem_cons,List.not_mem_nil,or_false] at ha
  rcases ha with rfl | rfl | rfl | rfl | rfl | rfl | rfl
  ·exact (S.tab 184 (by simp)).2
  ·exact (S.tab 191 (by simp)).2
  ·exact (S.tab 123 (by simp)).2
  all_goals exact GL _ (Nat.le_add_right L _)
 have cells1:∀ (k:Nat) x (j:Nat),(["cells", "n", "row", "order"]:List Str)[k]?=some x->[3,4,5,6][k]?=some j->∃ a,(jV L fa cd).cells.lookup x=some a∧ρ[j]?=some a:=fun k x j h1 h2=>by
  refine ⟨_,qF L fa cd k x j h1 h2,?_⟩
  match k,h2 with
  | 0,h2=>injections h2; rfl
  | 1,h2=>injections h2; rfl
  | 2,h2=>injections h2; rfl
  | 3,h2=>injections h2; rfl
  | k+4,h2=>simp at h2
 have sc0:∀ (σ:Sig) (ρ:List Addr) (Z:Fz) (m:Str->Option Value),σ.scr = .ref sa->m "script" = some (.ref sa)->∀ (k:Nat) x v,(GK cd).tab[k]?=some x->f0.loc[k]?=some v->SRel σ ρ Z v (m x):=fun σ ρ Z m h1 h2 k x v hx hv z hz=>by
  match k,hx,hv with
  | 0,hx,hv =>
   injections hx; injections hv; injections hz
   exact ⟨_,h2,h1 ▸ .scr⟩
  | 1,hx,hv=>injections hv; exact noS hz
  | 2,hx,hv=>injections hv; exact noS hz
  | 3,hx,hv=>injections hv; exact noS hz
  | 4,hx,hv=>injections hv; exact noS hz
  | 5,hx,hv=>injections hv; exact noS hz
  | 6,hx,hv=>injections hv; exact noS hz
  | 7,hx,hv=>injections hv; exact noS hz
  | k+8,hx,hv=>simp [f0] at hv
 have low:∀ a∈[1,184,191,123],a≤191:=by decide
 have top:∀ a∈List.range' (L+1) 4,L<a:=fun a h=>(List.mem_range'_1.mp h).1
 have nd:(1 :: ρ).Nodup:=List.nodup_append.mpr (show (([1,184,191,123]:List Nat).Nodup∧(List.range' (L+1) 4).Nodup∧_) from ⟨by decide,List.nodup_range',fun a ha b hb q=>Nat.not_lt_of_le (Nat.le_trans (low a ha) (Nat.le_of_lt big)) (q ▸ top b hb)⟩)
 have okA:OK Cq1 (GK cd) (fun a o=>G.get? a=some o) f0 (jV L fa cd) ρ noZ H₁ sh:=by
  refine Fa S.keep n1 g1 rfl (fun j a ao ha hao=>?_) nd hab ?_ (GL L (Nat.le_refl _)) S.lt ⟨sh.heap,sh.toks,rfl⟩ (fun h=>h.elim) (fun k P hk=>at3 hk) ⟨rfl,rfl,rfl,rfl,rfl,⟨m,hm,sc0 _ _ _ m rfl hsc⟩,cells1⟩
  ·have cl:∀ i:Nat,i<4->∃ o,sh.heap.get? (L+1+i)=some o∧ORel Cq1 ρ noZ (.cell none) o:=fun i hi=>by
    refine aU (hcel i hi) fun o q1 q2 _=>?_
    exact ⟨o,q1,.inl ⟨q2,rfl⟩⟩
   refine atC (R:=fun a ao=>∃ o,sh.heap.get? a=some o∧ORel Cq1 ρ noZ ao o) ?_ (atC ?_ (atC ?_ (atC ?_ (atC ?_ (atC ?_ (atC ?_ atN)))))) j a ao ha hao
   ·exact ⟨_,(S.tab 184 (by simp)).1,rfl⟩
   ·exact ⟨_,(S.tab 191 (by simp)).1,rfl⟩
   ·exact ⟨_,(S.tab 123 (by simp)).1,rfl⟩
   ·exact cl 0 (by decide)
   ·exact cl 1 (by decide)
   ·exact cl 2 (by decide)
   ·exact cl 3 (by decide)
  ·exact fun h=>(List.mem_append.mp (show L∈[184,191,123]++List.range' (L+1) 4 from h)).elim (fun h=>Nat.not_lt_of_le (low L (List.mem_cons_of_mem 1 h)) big) (fun h=>Nat.lt_irrefl L (top L h))
 refine wpAny_execs_cons ?_
 refine EE (cd:=cd) (q:="law"++".<locals>.") (zL S) (Fh S) 40 f0 H₁ (IR wi) (fun _ _=>false) _ _ _ ρ noZ sh hd1 hA okA _ _ (fun ρ' Z' H' s' f' e ok' hk=>?_) (fun ρ' Z' H' s' f' av v e ok' r hk=>nomatch hk)
 refine aE (cX hk) fun o0 lrest hloc c1=>?_
 nomatch ad (al c1),c1
 intro v0 zq1 c2
 subst zq1
 nomatch Za1 (af c2),c2
 intro c3 c4
 nomatch Ze1 (pX c3),c3
 intro b0 hb0
 nomatch Za1 (af c4),c4
 intro c5 c6
 have ecel:=xR c5
 nomatch Za3 (cC c6),c6
 intro U0 U1 U2 c7
 nomatch Za1 (j6 c7),c7
 intro V4 c8
 nomatch Za1 (j6 c8),c8
 intro V5 c9
 nomatch Za1 (j6 c9),c9
 intro V6 c10
 nomatch ad (HP.getK_true c10),c10
 intro ao3 V3 c11
 nomatch ad (l6 c11),c11
 intro v3 zq1 c12
 subst zq1
 nomatch ad (al c12),c12
 intro v3' zq1 c13
 subst zq1
 nomatch ad (cF c13),c13
 intro j zq1 c14
 subst zq1
 nomatch aE (dG c14),c14
 intro n xs Vj c15
 nomatch Za2 (u7 c15),c15
 intro c16 xl xit
 nomatch Za1 (af c16),c16
 intro hwn c16
 rw [cW] at hwn
 nomatch aE (dG c16),c16
 intro nt ys Vt c17
 nomatch aE (cX c17),c17
 intro y0 yr zq2 c18
 subst zq2
 nomatch ad (al c18),c18
 intro iy c19 _
 have:=jI c19
 subst this
 have g:=ok'.g
 have pre:∀ (i:Nat) a,ρ[i]?=some a->ρ'[i]?=some a:=fun i a h=>bz e.p h
 have ht1:1≤s'.toks:=by
  have hlt:wi<ρ'.length:=by rw [g.len]; exact of_decide_eq_true hwn
  have hw:ρ'[wi]?=some ρ'[wi]:=by simp [hlt]
  nomatch ay (g.obj wi _ hw),hw
  intro ao ob q1 q2 q3
  rw [Vt] at q1
  injections q1
  nomatch Za1 q3,q3
  intro _ zw0
  nomatch aE zw0,zw0
  intro ws ep zq3 hr
  subst zq3
  rw [List.reverse_reverse] at hr
  nomatch ay hr.head,hr
  intro v vs' zq2 r1 _
  subst zq2
  nomatch ad r1.inv,r1
  intro _ zq1 ht
  subst zq1
  exact Nat.lt_of_le_of_lt (Nat.zero_le _) (g.tkb _ _ ht).2
 let C₂:=wa prog w mg mb G sh.heap sa vs L sh True S
 refine aU (fig (x:=C₂.σ.cel 0) (m:=3) (by omega)) fun r0 hr0 er0 _=>?_
 refine aU (fig (x:=C₂.σ.cel 1) (m:=tq r0) (by unfold tq; split<;>omega)) fun r1 hr1 er1 _=>?_
 have Pq2:PC C₂:={ toPC0:=zL S,t1:=trivial }
 have L2:LC C₂:=Fh S
 refine ay (g.obj 3 (L+1) (pre 3 _ rfl)) fun a3 b3 w1 w2 w3=>?_
 rw [V3] at w1
 injections w1
 rcases w3 with ⟨-,w4⟩ | ⟨x3,y3,w4,w5,w6⟩
 ·exact noS w4.symm
 injections w4
 nomatch ad w6.ref_inv,w6
 intro aj zq1 hj
 subst zq1
 have hj7:7≤j:=by
  have ne:∀ (i:Nat) ao,H'.get i=some ao->(∀ n rx,ao ≠ .list n rx)->j ≠ i:=fun i ao h1 h2 q=>by
   subst q
   rw [Vj] at h1
   injections h1
   exact h2 _ _ rfl
  have:=ne 0 _ U0 (fun _ _ h=>by cases h)
  have:=ne 1 _ U1 (fun _ _ h=>by cases h)
  have:=ne 2 _ U2 (fun _ _ h=>by cases h)
  have:=ne 3 _ V3 (fun _ _ h=>by cases h)
  have:=ne 4 _ V4 (fun _ _ h=>by cases h)
  have:=ne 5 _ V5 (fun _ _ h=>by cases h)
  have:=ne 6 _ V6 (fun _ _ h=>by cases h)
  clear er1 hr1 er0 hr0 ht1 xl big n1; omega
 refine ay (g.obj j aj hj) fun aoj bj wj1 wj2 wj3=>?_
 rw [Vj] at wj1
 injections wj1
 nomatch Za1 wj3,wj3
 intro wl zw0
 nomatch aE zw0,zw0
 intro ws ep zq3 hr
 subst zq3
 rw [List.reverse_reverse] at hr
 let ρ2:List Nat:=[184,191,123,L+1,L+2,L+3,L+4,aj]
 have hρq2:∀ (i:Nat) a,ρ[i]?=some a->ρ2[i]?=some a:=fun i a h=>by
  match i,h with
  | 0,h=>exact h
  | 1,h=>exact h
  | 2,h=>exact h
  | 3,h=>exact h
  | 4,h=>exact h
  | 5,h=>exact h
  | 6,h=>exact h
  | i+7,h=>simp [ρ] at h
 have ajρ:aj ∉ ρ:=fun hm=>by
  refine Ze1 (List.getElem?_of_mem hm) fun i hi=>?_
  have hi7:i<7:=(ZbS hi).1
  have:=(List.getElem?_inj (ZbS hj).1 g.nd).mp (hj.trans (pre i aj hi).symm)
  clear wl er1 hr1 er0 hr0 ht1 xl big n1; omega
 have ajG:G.get? aj=none:=by
  induction q:G.get? aj using Option.casesOn with
  | none=>rfl
  | some o=>exact absurd q (g.ab aj (ZbM hj) o)
 have aj1:aj ≠ 1:=g.no1 (ZbM hj)
 have ajL:aj ≠ L:=fun q=>g.lρ (show L∈ρ' from q ▸ ZbM hj)
 have nd2:(1 :: ρ2).Nodup:=by
  have:(1 :: ρ2)=(1 :: ρ)++[aj]:=rfl
  rw [this,List.nodup_append]
  refine ⟨nd,List.nodup_cons.mpr ⟨by simp,.nil⟩,fun a ha b hb q=>?_⟩
  have hb:=List.mem_singleton.mp hb
  subst hb
  subst q
  rcases List.mem_cons.mp ha with h | h
  ·exact aj1 h
  ·exact ajρ h
 nomatch ad ok'.f.ns,ok'
 intro m' hm' hmr'
 have hsc':m' "script" = some (.ref sa):=by
  refine ad (hmr' 0 "script" (some v0) rfl (by rw [hloc]; rfl) v0 rfl) fun y q1 q2=>?_
  rw [hb0] at q2
  rw [q1,wz q2]
  rfl
 refine aU (G4 (R.l2 r0 r1 hr0 hr1)) fun H₂ hd2 n2 g2=>?_
 have okB:OK C₂ (GK cd) (fun a o=>G.get? a=some o) f0 (jV L fa cd) ρ2 noZ H₂ s':=by
  refine Fa (fun a o h=>g.b a o h) n2 g2 rfl (fun i a ao ha hao=>?_) nd2 (fun a ha=>?_) ?_ (GL L (Nat.le_refl _)) g.ls g.same (fun _=>ht1) (fun k P hk=>at3 hk) ⟨rfl,rfl,rfl,rfl,rfl,⟨m',hm',sc0 _ _ _ m' rfl hsc'⟩,fun k x j h1 h2=>let ⟨a,q1,q2⟩:=cells1 k x j h1 h2; ⟨a,q1,hρq2 j a q2⟩⟩
  ·have tb:∀ (i:Nat) (a:Addr),ρ[i]?=some a->H'.get i=some (.tab none)->∃ o,s'.heap.get? a=some o∧ORel C₂ ρ2 noZ (.tab none) o:=fun i a h1 h2=>by
    nomatch ay (g.obj i a (pre i a h1)),g,pre,h1
    intro ao o q1 q2 q3
    rw [h2] at q1
    injections q1
    exact ⟨o,q2,q3⟩
   have cb:∀ (i:Nat) (a:Addr),ρ[i]?=some a->H'.get i=some (.cell none)->∃ o,s'.heap.get? a=some o∧ORel C₂ ρ2 noZ (.cell none) o:=fun i a h1 h2=>by
    nomatch ay (g.obj i a (pre i a h1)),g,pre,h1
    intro ao o q1 q2 q3
    rw [h2] at q1
    injections q1
    rcases q3 with ⟨q3,_⟩ | ⟨_,_,q3,_⟩
    ·exact ⟨o,q2,.inl ⟨q3,rfl⟩⟩
    ·exact noS q3
   refine atC (R:=fun a ao=>∃ o,s'.heap.get? a=some o∧ORel C₂ ρ2 noZ ao o) ?_ (atC ?_ (atC ?_ (atC ?_ (atC ?_ (atC ?_ (atC ?_ (atC ?_ atN))))))) i a ao ha hao<;>clear ha hao
   ·exact tb 0 _ rfl U0
   ·exact tb 1 _ rfl U1
   ·exact tb 2 _ rfl U2
   ·exact ⟨_,w2,.inr ⟨_,_,rfl,w5,.ref rfl⟩⟩
   ·exact cb 4 _ rfl V4
   ·exact cb 5 _ rfl V5
   ·exact cb 6 _ rfl V6
   refine ⟨_,wj2,rfl,ws,ep,rfl,?_⟩
   have hx4:xs.length=4:=by clear n2 ajL aj1 ajρ wl hj7 er1 hr1 er0 hr0 ht1 big n1; omega
   refine .of (by rw [← hr.1,hx4]; rfl) fun q x v hx hv=>?_
   have hq4:q<4:=(ZbS hx).1
   have hxq:xs[q]?=some xs[q]:=ZbG (by clear hx4 n2 ajL aj1 ajρ wl hj7 er1 hr1 er0 hr0 ht1 big n1; omega)
   have r:=hr.2 q _ v hxq hv
   rw [xit q _ hxq,Nat.zero_add] at r
   have ex:x = .cel q:=by
    match q,hq4,hx with
    | 0,_,hx=>injections hx; rfl
    | 1,_,hx=>injections hx; rfl
    | 2,_,hx=>injections hx; rfl
    | 3,_,hx=>injections hx; rfl
   rw [ex]
   nomatch ad r.inv,hk
   intro t zq1 hk
   subst zq1
   exact .cel q t hk
  ·rcases List.mem_append.mp (show a∈ρ++[aj] from ha) with h | h
   ·exact hab a h
   ·rw [List.mem_singleton.mp h]; exact ajG
  ·intro hm
   rcases List.mem_append.mp (show L∈ρ++[aj] from hm) with h | h
   ·exact okA.g.lρ h
   ·exact ajL (List.mem_singleton.mp h).symm
 refine D4 (cd:=cd) (q:="law"++".<locals>.") Pq2 L2 (r0:=r0) (r1:=r1) er0 er1 (yy Pq2 R.dm) (xI Pq2 R.pg R.od) (ye Pq2 R.rd) 40 f0 H₂ (fun _ _=>false) (fun v H=>oa v fun b=>aB b (fh H (some 0) (some 1) (some 2) true)) _ _ _ ρ2 noZ s' hd2 hA okB _ _ (fun ρ'' Z'' H'' s'' f'' e2 ok2 hk2=>nomatch hk2) (fun ρ'' Z'' H'' s'' f'' av v e2 ok2 r hk2=>?_)
 nomatch ad (i7 hk2),hk2
 intro b zq1 z1
 subst zq1
 nomatch Za1 (af z1),z1
 intro z2 z3
 subst z2
 nomatch Za3 (cC z3),z3
 intro T0 T1 T2 _
 have:=r.bool_inv
 subst this
 refine ad ok2.f.ns fun m'' hm'' _=>?_
 refine hQ s'' m'' (fun b o h=>ok2.g.b b o h) ok2.g.same (fun P hP=>?_) hm''
 have tb:∀ (i:Nat) (e:Option Nat),ρ2[i]?=some P->H''.get i=some (.tab e)->GrownAt P s''.heap:=fun i e h1 h2=>by
  nomatch ay (ok2.g.obj i P (bz e2.p h1)),e2,ok2,h1
  intro ao o q1 q2 q3
  rw [h2] at q1
  injections q1
  nomatch Ze1 (xE q3),q3
  intro ps zq1
  subst zq1
  exact ⟨ps,q2⟩
 simp only [List.mem_cons,List.not_mem_nil,or_false] at hP
 rcases hP with rfl | rfl | rfl
 ·exact tb 0 _ rfl T0
 ·exact tb 1 _ rfl T1
 ·exact tb 2 _ rfl T2
end Mine
section
open PySem PySem.W PySem.Calls PyProof.Rows
theorem Mine.ints_len {vs:List Value} {ns:List Int} (h:IntsAre vs ns):vs.length=ns.length:=by
 induction h with
 | nil=>rfl
 | cons n t h ih=>rw [List.length_cons,List.length_cons,ih]
theorem Mine.holds_of (R:Mine.Runs):PySem.Challenge.rw_xj0037_01.Holds:=hd (by
 k_go0
 rename_i hI _ hcond _ _ h₁ tkq1 o4 o3 o2 o1 c4 c3 c2 c1 X0 X' T' K' F' cd2 cd1 N' l0
 have S:Mine.Start _ _ _ _ h₁ _ _ _:=⟨X',T'.g,T'.b,T'.nolimit,T'.builtins,T'.bmain,codeHd,cd1,cd2,lifted,hI.allInts,by
   have:=Mine.ints_len hI
   omega,F'.keep,F'.above,F'.ns.lt,l0.2.1,fun P hP=>by
    simp only [List.mem_cons,List.not_mem_nil,or_false] at hP
    rcases hP with rfl | rfl | rfl
    ·exact ⟨(N' (184,tabObj #[]) (by simp)).1,(N' (184,tabObj #[]) (by simp)).2.2⟩
    ·exact ⟨(N' (191,tabObj #[]) (by simp)).1,(N' (191,tabObj #[]) (by simp)).2.2⟩
    ·exact ⟨(N' (123,tabObj #[]) (by simp)).1,(N' (123,tabObj #[]) (by simp)).2.2⟩,fun i hi=>by
    match i,hi with
    | 0,_=>exact ⟨o1,(N' (_,o1) (by simp)).1,c1,(N' (_,o1) (by simp)).2.2⟩
    | 1,_=>exact ⟨o2,(N' (_,o2) (by simp)).1,c2,(N' (_,o2) (by simp)).2.2⟩
    | 2,_=>exact ⟨o3,(N' (_,o3) (by simp)).1,c3,(N' (_,o3) (by simp)).2.2⟩
    | 3,_=>exact ⟨o4,(N' (_,o4) (by simp)).1,c4,(N' (_,o4) (by simp)).2.2⟩⟩
 refine Mine.law_walk R S rfl F'.ns ?_ fun s' m' hkeep hsame hgrown hns=>?_
 ·rfl
 ·refine And.intro ?_ ?_
  ·nomatch Ze2 hsame,hsame
   intro hh tt zq2
   subst zq2
   refine goodW_bool (m:=m') ⟨hns,hkeep,F'.above⟩ (by assumption) (fun _=>rfl) ?_ rfl
   wrow_post
  ·exact ⟨hgrown 123 (by simp),hgrown 191 (by simp),hgrown 184 (by simp),trivial⟩)
end
namespace Mine
noncomputable def tt:Bool:=true
def hsP (ps:List Nat):Nat:=@List.rec Nat (fun _=>Nat) 0 (fun c _ ih=>Nat.add c (Nat.mul 3 ih)) ps
def q9 (k:Nat) (ps:List Nat):Bool:=br true (kO ps) (Nat.beq (Nat.mod (hsP ps) 7) k)
theorem FW:HY 9=true:=by decide +kernel
theorem GQ:gE 4 4 [] gy=true:=by decide +kernel
theorem F8:gE 5 5 [] gy=true:=by decide +kernel
theorem D1:gE 6 5 [0] gy=true:=by decide +kernel
theorem DK:gE 6 5 [1] gy=true:=by decide +kernel
theorem DR:gE 6 5 [2] gy=true:=by decide +kernel
theorem Dk:gE 6 5 [3] gy=true:=by decide +kernel
theorem EB:gE 6 5 [4] gy=true:=by decide +kernel
theorem D3:gE 6 5 [5] gy=true:=by decide +kernel
theorem FX:bu (fun a=>mG a 1) 1=true:=by decide +kernel
theorem GB:bu (fun a=>mG a 2) 2=true:=by decide +kernel
theorem Gf:bu (fun a=>mG a 3) 6=true:=by decide +kernel
theorem Gn:bu (fun a=>mG a 4) 24=true:=by decide +kernel
theorem F0:bu (fun a=>mG a 5) 120=true:=by decide +kernel
theorem C1:bI 4 false 0=tt:=by kernel_rfl
theorem Cb:bI 4 false 1=tt:=by kernel_rfl
theorem CD:bI 4 false 2=tt:=by kernel_rfl
theorem yO:bI 4 false 3=tt:=by kernel_rfl
theorem BX:bI 4 false 4=tt:=by kernel_rfl
theorem zh:bI 4 false 5=tt:=by kernel_rfl
theorem zi:bI 4 true 0=tt:=by kernel_rfl
theorem y7:bI 4 true 1=tt:=by kernel_rfl
theorem zD:bI 4 true 2=tt:=by kernel_rfl
theorem Ci:bI 4 true 3=tt:=by kernel_rfl
theorem B2:bI 4 true 4=tt:=by kernel_rfl
theorem CO:bI 4 true 5=tt:=by kernel_rfl
theorem Bq:bI 5 false 0=tt:=by kernel_rfl
theorem zT:bI 5 false 1=tt:=by kernel_rfl
theorem yQ:bI 5 false 2=tt:=by kernel_rfl
theorem zF:bI 5 false 3=tt:=by kernel_rfl
theorem BL:bI 5 false 4=tt:=by kernel_rfl
theorem zP:bI 5 false 5=tt:=by kernel_rfl
theorem CJ:bI 5 true 0=tt:=by kernel_rfl
theorem zj:bI 5 true 1=tt:=by kernel_rfl
theorem zu:bI 5 true 2=tt:=by kernel_rfl
theorem Bi:bI 5 true 3=tt:=by kernel_rfl
theorem AH:bI 5 true 4=tt:=by kernel_rfl
theorem BD:bI 5 true 5=tt:=by kernel_rfl
theorem Ca:bI 6 false 0=tt:=by kernel_rfl
theorem CB:bI 6 false 1=tt:=by kernel_rfl
theorem yI:bI 6 false 2=tt:=by kernel_rfl
theorem Ck:bI 6 false 3=tt:=by kernel_rfl
theorem zw:bI 6 false 4=tt:=by kernel_rfl
theorem yX:bI 6 false 5=tt:=by kernel_rfl
theorem BT:bI 6 true 0=tt:=by kernel_rfl
theorem zr:bI 6 true 1=tt:=by kernel_rfl
theorem AK:bI 6 true 2=tt:=by kernel_rfl
theorem zo:bI 6 true 3=tt:=by kernel_rfl
theorem Bg:bI 6 true 4=tt:=by kernel_rfl
theorem Bu:bI 6 true 5=tt:=by kernel_rfl
theorem GO:fT kO 4 0 [] []=true:=by decide +kernel
theorem G0:fT kO 5 0 [] []=true:=by decide +kernel
theorem B6:fT (q9 0) 6 0 [] []=true:=by decide +kernel
theorem Cr:fT (q9 1) 6 0 [] []=true:=by decide +kernel
theorem By:fT (q9 2) 6 0 [] []=true:=by decide +kernel
theorem CM:fT (q9 3) 6 0 [] []=true:=by decide +kernel
theorem zS:fT (q9 4) 6 0 [] []=true:=by decide +kernel
theorem Bf:fT (q9 5) 6 0 [] []=true:=by decide +kernel
theorem zX:fT (q9 6) 6 0 [] []=true:=by decide +kernel
def l2N (r m i:Nat):Bool:=nr false (qZ r) (Nat.add m i)
theorem yJ:bu (l2N 0 1) 24=bu (fun _=>tt) 24:=by kernel_rfl
theorem AR:bu (l2N 1 1) 24=bu (fun _=>tt) 24:=by kernel_rfl
theorem BA:bu (l2N 1 25) 24=bu (fun _=>tt) 24:=by kernel_rfl
theorem AQ:bu (l2N 1 49) 24=bu (fun _=>tt) 24:=by kernel_rfl
theorem zV:bu (l2N 1 73) 24=bu (fun _=>tt) 24:=by kernel_rfl
theorem Cl:bu (l2N 1 97) 24=bu (fun _=>tt) 24:=by kernel_rfl
theorem BR:bu (l2N 2 1) 24=bu (fun _=>tt) 24:=by kernel_rfl
theorem CW:bu (l2N 2 25) 24=bu (fun _=>tt) 24:=by kernel_rfl
theorem zN:bu (l2N 2 49) 24=bu (fun _=>tt) 24:=by kernel_rfl
theorem zO:bu (l2N 2 73) 24=bu (fun _=>tt) 24:=by kernel_rfl
theorem BV:bu (l2N 2 97) 24=bu (fun _=>tt) 24:=by kernel_rfl
theorem yH:bu (l2N 2 121) 24=bu (fun _=>tt) 24:=by kernel_rfl
theorem zU:bu (l2N 2 145) 24=bu (fun _=>tt) 24:=by kernel_rfl
theorem AU:bu (l2N 2 169) 24=bu (fun _=>tt) 24:=by kernel_rfl
theorem zB:bu (l2N 2 193) 24=bu (fun _=>tt) 24:=by kernel_rfl
theorem zI:bu (l2N 2 217) 24=bu (fun _=>tt) 24:=by kernel_rfl
theorem xZ:bu (l2N 2 241) 24=bu (fun _=>tt) 24:=by kernel_rfl
theorem xY:bu (l2N 2 265) 24=bu (fun _=>tt) 24:=by kernel_rfl
theorem xg:bu (l2N 2 289) 24=bu (fun _=>tt) 24:=by kernel_rfl
theorem xL:bu (l2N 2 313) 24=bu (fun _=>tt) 24:=by kernel_rfl
theorem yi:bu (l2N 2 337) 24=bu (fun _=>tt) 24:=by kernel_rfl
theorem yz:bu (l2N 2 361) 24=bu (fun _=>tt) 24:=by kernel_rfl
theorem yc:bu (l2N 2 385) 24=bu (fun _=>tt) 24:=by kernel_rfl
theorem yv:bu (l2N 2 409) 24=bu (fun _=>tt) 24:=by kernel_rfl
theorem xD:bu (l2N 2 433) 24=bu (fun _=>tt) 24:=by kernel_rfl
theorem xG:bu (l2N 2 457) 24=bu (fun _=>tt) 24:=by kernel_rfl
theorem xt:bu (l2N 2 481) 24=bu (fun _=>tt) 24:=by kernel_rfl
theorem wM:bu (l2N 2 505) 24=bu (fun _=>tt) 24:=by kernel_rfl
theorem xH:bu (l2N 2 529) 24=bu (fun _=>tt) 24:=by kernel_rfl
theorem xJ:bu (l2N 2 553) 24=bu (fun _=>tt) 24:=by kernel_rfl
theorem xr:bu (l2N 2 577) 24=bu (fun _=>tt) 24:=by kernel_rfl
theorem xV:bu (l2N 2 601) 24=bu (fun _=>tt) 24:=by kernel_rfl
theorem yh:bu (l2N 2 625) 24=bu (fun _=>tt) 24:=by kernel_rfl
theorem xd:bu (l2N 2 649) 24=bu (fun _=>tt) 24:=by kernel_rfl
theorem yC:bu (l2N 2 673) 24=bu (fun _=>tt) 24:=by kernel_rfl
theorem xo:bu (l2N 2 697) 24=bu (fun _=>tt) 24:=by kernel_rfl
theorem du {r m k r1:Nat} (g:m≤r1) (hk:k=m+24) (h:bu (l2N r (m+1)) 24=bu (fun _=>tt) 24) (t:k≤r1->qZ r r1=true):qZ r r1=true :=
 (Nat.lt_or_ge r1 k).elim (fun q=>by
  have h3:=dM (h.trans rfl) (r1-m) (by omega)
  have h3:nr false (qZ r) (Nat.add (m+1) (r1-m))=true:=h3
  have e:Nat.add (m+1) (r1-m)=Nat.succ r1:=by show m+1+(r1-m)=r1+1; omega
  rw [e] at h3
  exact h3) t
theorem IW:∀ r1,r1<24->qZ 0 r1=true:=fun r1 h=>by
 refine du (m:=0) (k:=24) (Nat.zero_le _) rfl yJ fun g0=>?_
 omega
theorem I3:∀ r1,r1<120->qZ 1 r1=true:=fun r1 h=>by
 refine du (m:=0) (k:=24) (Nat.zero_le _) rfl AR fun g0=>?_
 refine du (m:=24) (k:=48) g0 rfl BA fun g1=>?_
 refine du (m:=48) (k:=72) g1 rfl AQ fun g2=>?_
 refine du (m:=72) (k:=96) g2 rfl zV fun g3=>?_
 refine du (m:=96) (k:=120) g3 rfl Cl fun g4=>?_
 omega
theorem I0:∀ r1,r1<720->qZ 2 r1=true:=fun r1 h=>by
 refine du (m:=0) (k:=24) (Nat.zero_le _) rfl BR fun g0=>?_
 refine du (m:=24) (k:=48) g0 rfl CW fun g1=>?_
 refine du (m:=48) (k:=72) g1 rfl zN fun g2=>?_
 refine du (m:=72) (k:=96) g2 rfl zO fun g3=>?_
 refine du (m:=96) (k:=120) g3 rfl BV fun g4=>?_
 refine du (m:=120) (k:=144) g4 rfl yH fun g5=>?_
 refine du (m:=144) (k:=168) g5 rfl zU fun g6=>?_
 refine du (m:=168) (k:=192) g6 rfl AU fun g7=>?_
 refine du (m:=192) (k:=216) g7 rfl zB fun g8=>?_
 refine du (m:=216) (k:=240) g8 rfl zI fun g9=>?_
 refine du (m:=240) (k:=264) g9 rfl xZ fun g10=>?_
 refine du (m:=264) (k:=288) g10 rfl xY fun g11=>?_
 refine du (m:=288) (k:=312) g11 rfl xg fun g12=>?_
 refine du (m:=312) (k:=336) g12 rfl xL fun g13=>?_
 refine du (m:=336) (k:=360) g13 rfl yi fun g14=>?_
 refine du (m:=360) (k:=384) g14 rfl yz fun g15=>?_
 refine du (m:=384) (k:=408) g15 rfl yc fun g16=>?_
 refine du (m:=408) (k:=432) g16 rfl yv fun g17=>?_
 refine du (m:=432) (k:=456) g17 rfl xD fun g18=>?_
 refine du (m:=456) (k:=480) g18 rfl xG fun g19=>?_
 refine du (m:=480) (k:=504) g19 rfl xt fun g20=>?_
 refine du (m:=504) (k:=528) g20 rfl wM fun g21=>?_
 refine du (m:=528) (k:=552) g21 rfl xH fun g22=>?_
 refine du (m:=552) (k:=576) g22 rfl xJ fun g23=>?_
 refine du (m:=576) (k:=600) g23 rfl xr fun g24=>?_
 refine du (m:=600) (k:=624) g24 rfl xV fun g25=>?_
 refine du (m:=624) (k:=648) g25 rfl yh fun g26=>?_
 refine du (m:=648) (k:=672) g26 rfl xd fun g27=>?_
 refine du (m:=672) (k:=696) g27 rfl yC fun g28=>?_
 refine du (m:=696) (k:=720) g28 rfl xo fun g29=>?_
 omega
theorem FG {n:Nat} {f:List Nat->Bool} {o:List Nat} (hp:ja n o []=true) (hl:o.length=n) (h:gE n n [] f=true):f o=true:=by
 have h':gE n o.length [] f=true:=by rw [hl]; exact h
 exact oZ o [] hp h'
theorem Cz {n:Nat} {f:List Nat->Bool} {ps:List Nat} (hs:jM ps 0 []=true) (hl:ps.length=n) (h:fT f n 0 [] []=true):f ps=true:=by
 have h':fT f ps.length 0 [] []=true:=by rw [hl]; exact h
 exact sP ps 0 [] [] hs h'
theorem F5 {g:List Nat->Bool} {ps:List Nat} {k:Nat} (hk:Nat.mod (hsP ps) 7=k) (h:br true (g ps) (Nat.beq (Nat.mod (hsP ps) 7) k)=true):g ps=true:=by
 rw [hk,Nat.beq_refl] at h
 exact h
theorem rd6 {ps:List Nat} (hs:jM ps 0 []=true) (hl:ps.length=6) {k:Nat} (h:fT (q9 k) 6 0 [] []=true) (hk:Nat.mod (hsP ps) 7=k):kO ps=true:=F5 hk (Cz (f:=q9 k) hs hl h)
theorem three {P:Nat->Prop} {n:Nat} (h1:4≤n) (h2:n≤6) (a:P 4) (b:P 5) (c:P 6):P n:=by
 have:n=4∨n=5∨n=6:=by omega
 rcases this with h | h | h<;>(subst h; assumption)
theorem six {P:Nat->Prop} {n:Nat} (h:n<6) (a:P 0) (b:P 1) (c:P 2) (d:P 3) (e:P 4) (f:P 5):P n:=by
 have:n=0∨n=1∨n=2∨n=3∨n=4∨n=5:=by omega
 rcases this with h | h | h | h | h | h<;>(subst h; assumption)
theorem F1 (n:Nat) (rw:Bool) (g:Nat) (h1:4≤n) (h2:n≤6) (hg:g<6):bI n rw g=true:=by
 refine three (P:=fun n=>bI n rw g=true) h1 h2 ?_ ?_ ?_<;>cases rw
 ·exact six (P:=fun g=>bI 4 false g=true) hg C1 Cb CD yO BX zh
 ·exact six (P:=fun g=>bI 4 true g=true) hg zi y7 zD Ci B2 CO
 ·exact six (P:=fun g=>bI 5 false g=true) hg Bq zT yQ zF BL zP
 ·exact six (P:=fun g=>bI 5 true g=true) hg CJ zj zu Bi AH BD
 ·exact six (P:=fun g=>bI 6 false g=true) hg Ca CB yI Ck zw yX
 ·exact six (P:=fun g=>bI 6 true g=true) hg BT zr AK zo Bg Bu
theorem pR {o:List Nat} {x:Nat} (hl:o.length=5) (r:gE 6 5 [x] gy=true) (h:ja 6 o [x]=true):gy (x :: o)=true:=oZ o [x] h (by rw [hl]; exact r)
theorem od6 {o:List Nat} (hp:ja 6 o []=true) (hl:o.length=6):gy o=true:=by
 match o,hl,hp with
 | x :: o,hl,hp =>
  refine Za1 (af (a:=Nat.blt x 6) (b:=ja 6 o [x]) hp) fun h1 h2=>?_
  rw [cW] at h1
  have h5:o.length=5:=Nat.succ.inj hl
  exact six (P:=fun x=>ja 6 o [x]=true->gy (x :: o)=true) (of_decide_eq_true h1) (pR h5 D1) (pR h5 DK) (pR h5 DR) (pR h5 Dk) (pR h5 EB) (pR h5 D3) h2
theorem Gd (a b:Nat) (h:a<t8 b):mG a b=true:=by
 match b,h with
 | 0,h=>exact absurd h (Nat.not_lt_zero a)
 | 1,h=>exact dM FX a h
 | 2,h=>exact dM GB a h
 | 3,h=>exact dM Gf a h
 | 4,h=>exact dM Gn a h
 | 5,h=>exact dM F0 a h
 | b+6,h=>exact absurd h (Nat.not_lt_zero a)
theorem GT (n:Nat) (o:List Nat) (h1:4≤n) (h2:n≤6) (hl:o.length=n) (hp:ja n o []=true):Ord o:=by
 refine wU ?_
 have:n=4∨n=5∨n=6:=by omega
 rcases this with h | h | h<;>subst h
 ·exact FG hp hl GQ
 ·exact FG hp hl F8
 ·exact od6 hp hl
theorem F3 (ps:List Nat) (h1:4≤ps.length) (h2:ps.length≤6) (hs:jM ps 0 []=true):kO ps=true:=by
 have:ps.length=4∨ps.length=5∨ps.length=6:=by omega
 rcases this with h | h | h
 ·exact Cz hs h GO
 ·exact Cz hs h G0
 ·have q:=Nat.mod_lt (hsP ps) (by omega:7 > 0)
  have:Nat.mod (hsP ps) 7<6∨Nat.mod (hsP ps) 7=6:=by show hsP ps % 7<6∨hsP ps % 7=6; omega
  rcases this with q | q
  ·exact six (P:=fun k=>Nat.mod (hsP ps) 7=k->kO ps=true) q (rd6 hs h B6) (rd6 hs h Cr) (rd6 hs h By) (rd6 hs h CM) (rd6 hs h zS) (rd6 hs h Bf) rfl
  ·exact rd6 hs h zX q
theorem Ge (r0 r1:Nat) (h1:r0<3) (h2:r1<tq r0):qZ r0 r1=true:=by
 have:r0=0∨r0=1∨r0=2:=by omega
 rcases this with h | h | h<;>subst h
 ·exact IW r1 h2
 ·exact I3 r1 h2
 ·exact I0 r1 h2
theorem runs:Runs:=⟨F1,GT,F3,Gd,⟨9,FW⟩,Ge⟩
end Mine
end
theorem PySem.Challenge.cw_xj0037_01_holds : PySem.Challenge.rw_xj0037_01.Holds :=
 Mine.holds_of Mine.runs
