import PyProof.Rows.All
import PyProof.AutoFloatG6
import PyProof.FactsAll.float
import PyProof.FactsAll.subtypes
import PyProof.AutoIntOps
import PyProof.AutoFloatOps
import PyProof.AutoSeq1
import PyProof.MeetsStr
import PyProof.EnumFor
import PyProof.EnumMake
import PyProof.EqAt
import PyProof.NeKinds
import PyProof.FactsAll.range_iterator
import PyProof.StrLaws
import PyProof.StrLawsIn
import PyProof.SliceStr2
import PyProof.StrOps
import PyProof.StrBlockI
import PyProof.RangeIter
import PyProof.Gen
import PyProof.GenObj
import PyProof.GenQ
import PyProof.StrLawsIdx
import PyProof.StrLawsTight
import PyProof.Rows.StrClip
import PyProof.StrLawsNeg
import PyProof.StrReplace2
import Wide.FinOn
import OpenK.AllK
import Wide.All
import Lean
import PySem.Challenge.RW_jc0007_01
set_option linter.all false
set_option compiler.extract_closed false
set_option tactic.hygienic false
set_option backward.match.sparseCases false
set_option backward.eqns.nonrecursive false
set_option genCtorIdx false
set_option Elab.async false
set_option maxRecDepth 100000
set_option genSizeOf false
set_option genInjectivity false
set_option bootstrap.genMatcherCode false
namespace Internal
section
open PySem PySem.W PySem.W.X PyProof.Rows
set_option hygiene false in
local macro_rules | `(tactic| k_head) => `(tactic| z_head)
set_option hygiene false in
local macro_rules | `(tactic| o_law) => `(tactic| (refine holds_law ?_ ?_; decide +kernel; intro said))
set_option maxHeartbeats 0 in
open_top hd for PySem.Challenge.rw_jc0007_01
end
open PySem PySem.Spec PySem.Calls PyProof.Rows PySem.W PySem.W.X PySem.SeqAt
open Sem (wp)
local macro_rules | `(command| def $i:declId $s:optDeclSig $v:declVal) => `(command| noncomputable def $i:declId $s:optDeclSig $v:declVal)
@[irreducible] noncomputable def zP:PySem.Params:=by repeat' first|exact default|constructor|intro _
@[irreducible] noncomputable def zW:PySem.World:=by repeat' first|exact default|exact zP|constructor|intro _
@[irreducible] noncomputable def zS:PySem.Shared:=by repeat' first|exact default|exact zP|constructor|intro _
@[irreducible] noncomputable def zA:PySem.Around:=by repeat' first|exact default|exact zP|constructor|intro _
def pF {A B:Type} (t:A×B):=t.1
def pS {A B:Type} (t:A×B):=t.2
@[irreducible] noncomputable def Ez1 {A:Type} (n:Nonempty A) (P:A->Prop):A:=Classical.epsilon λa=>¬P a
theorem nE {A:Type} (x:A:=by repeat' first|exact default|exact zW|exact zS|exact zA|constructor|intro _):Nonempty A:=⟨x⟩
theorem ea1 {A:Type} {P:A->Prop} (n:Nonempty A) (y:P (Ez1 n P)):∀a,P a:=λa=>by
 unfold Ez1 at y;exact Classical.byContradiction λg=>Classical.epsilon_spec (p:=λa=>¬P a) ⟨a,g⟩ y
def Ez2 {A B:Type} (n:Nonempty (A×B)) (P:A->B->Prop):=Ez1 n λt=>P (pF t) (pS t)
theorem ea2 {A B:Type} {P:A->B->Prop} (n:Nonempty (A×B)) (y:P (pF (Ez2 n P)) (pS (Ez2 n P))) a b:P a b:=ea1 (P:=λt=>P (pF t) (pS t)) n y (a,b)
def Ez3 {A B C:Type} (n:Nonempty ((A×B)×C)) (P:A->B->C->Prop):=Ez2 n λt=>P (pF t) (pS t)
theorem ea3 {A B C:Type} {P:A->B->C->Prop} (n:Nonempty ((A×B)×C)) (y:P (pF (pF (Ez3 n P))) (pS (pF (Ez3 n P))) (pS (Ez3 n P))) a b:∀c,P a b c:=ea2 (P:=λt=>P (pF t) (pS t)) n y (a,b)
def Ez4 {A B C D:Type} (n:Nonempty (((A×B)×C)×D)) (P:A->B->C->D->Prop):=Ez3 n λt=>P (pF t) (pS t)
theorem ea4 {A B C D:Type} {P:A->B->C->D->Prop} (n:Nonempty (((A×B)×C)×D)) (y:P (pF (pF (pF (Ez4 n P)))) (pS (pF (pF (Ez4 n P)))) (pS (pF (Ez4 n P))) (pS (Ez4 n P))) a b:∀c d,P a b c d:=ea3 (P:=λt=>P (pF t) (pS t)) n y (a,b)
def Ez5 {A B C D E:Type} (n:Nonempty ((((A×B)×C)×D)×E)) (P:A->B->C->D->E->Prop):=Ez4 n λt=>P (pF t) (pS t)
theorem ea5 {A B C D E:Type} {P:A->B->C->D->E->Prop} (n:Nonempty ((((A×B)×C)×D)×E)) (y:P (pF (pF (pF (pF (Ez5 n P))))) (pS (pF (pF (pF (Ez5 n P))))) (pS (pF (pF (Ez5 n P)))) (pS (pF (Ez5 n P))) (pS (Ez5 n P))) a b:∀c d e,P a b c d e:=ea4 (P:=λt=>P (pF t) (pS t)) n y (a,b)
def Ez6 {A B C D E F:Type} (n:Nonempty (((((A×B)×C)×D)×E)×F)) (P:A->B->C->D->E->F->Prop):=Ez5 n λt=>P (pF t) (pS t)
theorem ea6 {A B C D E F:Type} {P:A->B->C->D->E->F->Prop} (n:Nonempty (((((A×B)×C)×D)×E)×F)) (y:P (pF (pF (pF (pF (pF (Ez6 n P)))))) (pS (pF (pF (pF (pF (Ez6 n P)))))) (pS (pF (pF (pF (Ez6 n P))))) (pS (pF (pF (Ez6 n P)))) (pS (pF (Ez6 n P))) (pS (Ez6 n P))) a b:∀c d e f,P a b c d e f:=ea5 (P:=λt=>P (pF t) (pS t)) n y (a,b)
def Ez7 {A B C D E F G:Type} (n:Nonempty ((((((A×B)×C)×D)×E)×F)×G)) (P:A->B->C->D->E->F->G->Prop):=Ez6 n λt=>P (pF t) (pS t)
theorem ea7 {A B C D E F G:Type} {P:A->B->C->D->E->F->G->Prop} (n:Nonempty ((((((A×B)×C)×D)×E)×F)×G)) (y:P (pF (pF (pF (pF (pF (pF (Ez7 n P))))))) (pS (pF (pF (pF (pF (pF (Ez7 n P))))))) (pS (pF (pF (pF (pF (Ez7 n P)))))) (pS (pF (pF (pF (Ez7 n P))))) (pS (pF (pF (Ez7 n P)))) (pS (pF (Ez7 n P))) (pS (Ez7 n P))) a b:∀c d e f g,P a b c d e f g:=ea6 (P:=λt=>P (pF t) (pS t)) n y (a,b)
def Ez8 {A B C D E F G H:Type} (n:Nonempty (((((((A×B)×C)×D)×E)×F)×G)×H)) (P:A->B->C->D->E->F->G->H->Prop):=Ez7 n λt=>P (pF t) (pS t)
theorem ea8 {A B C D E F G H:Type} {P:A->B->C->D->E->F->G->H->Prop} (n:Nonempty (((((((A×B)×C)×D)×E)×F)×G)×H)) (y:P (pF (pF (pF (pF (pF (pF (pF (Ez8 n P)))))))) (pS (pF (pF (pF (pF (pF (pF (Ez8 n P)))))))) (pS (pF (pF (pF (pF (pF (Ez8 n P))))))) (pS (pF (pF (pF (pF (Ez8 n P)))))) (pS (pF (pF (pF (Ez8 n P))))) (pS (pF (pF (Ez8 n P)))) (pS (pF (Ez8 n P))) (pS (Ez8 n P))) a b:∀c d e f g h,P a b c d e f g h:=ea7 (P:=λt=>P (pF t) (pS t)) n y (a,b)
def Ez9 {A B C D E F G H I:Type} (n:Nonempty ((((((((A×B)×C)×D)×E)×F)×G)×H)×I)) (P:A->B->C->D->E->F->G->H->I->Prop):=Ez8 n λt=>P (pF t) (pS t)
theorem ea9 {A B C D E F G H I:Type} {P:A->B->C->D->E->F->G->H->I->Prop} (n:Nonempty ((((((((A×B)×C)×D)×E)×F)×G)×H)×I)) (y:P (pF (pF (pF (pF (pF (pF (pF (pF (Ez9 n P))))))))) (pS (pF (pF (pF (pF (pF (pF (pF (Ez9 n P))))))))) (pS (pF (pF (pF (pF (pF (pF (Ez9 n P)))))))) (pS (pF (pF (pF (pF (pF (Ez9 n P))))))) (pS (pF (pF (pF (pF (Ez9 n P)))))) (pS (pF (pF (pF (Ez9 n P))))) (pS (pF (pF (Ez9 n P)))) (pS (pF (Ez9 n P))) (pS (Ez9 n P))) a b:∀c d e f g h i,P a b c d e f g h i:=ea8 (P:=λt=>P (pF t) (pS t)) n y (a,b)
def Ez10 {A B C D E F G H I J:Type} (n:Nonempty (((((((((A×B)×C)×D)×E)×F)×G)×H)×I)×J)) (P:A->B->C->D->E->F->G->H->I->J->Prop):=Ez9 n λt=>P (pF t) (pS t)
theorem ea10 {A B C D E F G H I J:Type} {P:A->B->C->D->E->F->G->H->I->J->Prop} (n:Nonempty (((((((((A×B)×C)×D)×E)×F)×G)×H)×I)×J)) (y:P (pF (pF (pF (pF (pF (pF (pF (pF (pF (Ez10 n P)))))))))) (pS (pF (pF (pF (pF (pF (pF (pF (pF (Ez10 n P)))))))))) (pS (pF (pF (pF (pF (pF (pF (pF (Ez10 n P))))))))) (pS (pF (pF (pF (pF (pF (pF (Ez10 n P)))))))) (pS (pF (pF (pF (pF (pF (Ez10 n P))))))) (pS (pF (pF (pF (pF (Ez10 n P)))))) (pS (pF (pF (pF (Ez10 n P))))) (pS (pF (pF (Ez10 n P)))) (pS (pF (Ez10 n P))) (pS (Ez10 n P))) a b:∀c d e f g h i j,P a b c d e f g h i j:=ea9 (P:=λt=>P (pF t) (pS t)) n y (a,b)
def Ez11 {A B C D E F G H I J K:Type} (n:Nonempty ((((((((((A×B)×C)×D)×E)×F)×G)×H)×I)×J)×K)) (P:A->B->C->D->E->F->G->H->I->J->K->Prop):=Ez10 n λt=>P (pF t) (pS t)
theorem ea11 {A B C D E F G H I J K:Type} {P:A->B->C->D->E->F->G->H->I->J->K->Prop} (n:Nonempty ((((((((((A×B)×C)×D)×E)×F)×G)×H)×I)×J)×K)) (y:P (pF (pF (pF (pF (pF (pF (pF (pF (pF (pF (Ez11 n P))))))))))) (pS (pF (pF (pF (pF (pF (pF (pF (pF (pF (Ez11 n P))))))))))) (pS (pF (pF (pF (pF (pF (pF (pF (pF (Ez11 n P)))))))))) (pS (pF (pF (pF (pF (pF (pF (pF (Ez11 n P))))))))) (pS (pF (pF (pF (pF (pF (pF (Ez11 n P)))))))) (pS (pF (pF (pF (pF (pF (Ez11 n P))))))) (pS (pF (pF (pF (pF (Ez11 n P)))))) (pS (pF (pF (pF (Ez11 n P))))) (pS (pF (pF (Ez11 n P)))) (pS (pF (Ez11 n P))) (pS (Ez11 n P))) a b:∀c d e f g h i j k,P a b c d e f g h i j k:=ea10 (P:=λt=>P (pF t) (pS t)) n y (a,b)
def Ez12 {A B C D E F G H I J K L:Type} (n:Nonempty (((((((((((A×B)×C)×D)×E)×F)×G)×H)×I)×J)×K)×L)) (P:A->B->C->D->E->F->G->H->I->J->K->L->Prop):=Ez11 n λt=>P (pF t) (pS t)
theorem ea12 {A B C D E F G H I J K L:Type} {P:A->B->C->D->E->F->G->H->I->J->K->L->Prop} (n:Nonempty (((((((((((A×B)×C)×D)×E)×F)×G)×H)×I)×J)×K)×L)) (y:P (pF (pF (pF (pF (pF (pF (pF (pF (pF (pF (pF (Ez12 n P)))))))))))) (pS (pF (pF (pF (pF (pF (pF (pF (pF (pF (pF (Ez12 n P)))))))))))) (pS (pF (pF (pF (pF (pF (pF (pF (pF (pF (Ez12 n P))))))))))) (pS (pF (pF (pF (pF (pF (pF (pF (pF (Ez12 n P)))))))))) (pS (pF (pF (pF (pF (pF (pF (pF (Ez12 n P))))))))) (pS (pF (pF (pF (pF (pF (pF (Ez12 n P)))))))) (pS (pF (pF (pF (pF (pF (Ez12 n P))))))) (pS (pF (pF (pF (pF (Ez12 n P)))))) (pS (pF (pF (pF (Ez12 n P))))) (pS (pF (pF (Ez12 n P)))) (pS (pF (Ez12 n P))) (pS (Ez12 n P))) a b:∀c d e f g h i j k l,P a b c d e f g h i j k l:=ea11 (P:=λt=>P (pF t) (pS t)) n y (a,b)
noncomputable def rp (b d l:Nat):Nat->Nat
 |0=>0
 |n+1=>b+(rp (b+d) d l n)<<<l
noncomputable def rm (b d l:Nat):Nat->Nat
 |0=>0
 |n+1=>b+(rm (b-d) d l n)<<<l
theorem ao:type_of% @PySem.wpAny_bind:=@PySem.wpAny_bind
theorem aY:type_of% @List.mem_cons.{0}:=@List.mem_cons
theorem aH:type_of% @PySem.wpAny_pure:=@PySem.wpAny_pure
theorem dI:type_of% @List.length_eq_zero_iff.{0}:=@List.length_eq_zero_iff
theorem bS:type_of% @List.not_mem_nil.{0}:=@List.not_mem_nil
theorem cD:type_of% @List.mem_singleton.{0}:=@List.mem_singleton
theorem bC:type_of% @Nat.le_trans:=@Nat.le_trans
theorem bg:type_of% @Nat.le_refl:=@Nat.le_refl
theorem bN:type_of% @Nat.le_add_left:=@Nat.le_add_left
theorem eh:type_of% @List.length_append.{0}:=@List.length_append
theorem dk:type_of% @List.mem_append.{0}:=@List.mem_append
theorem fJ:type_of% @List.mem_append_right.{0}:=@List.mem_append_right
theorem eY:type_of% @beq_eq_false_iff_ne.{0}:=@beq_eq_false_iff_ne
theorem de:type_of% @List.map_cons.{0,0}:=@List.map_cons
theorem cT:type_of% @List.mem_map.{0,0}:=@List.mem_map
theorem bT:type_of% @or_false:=@or_false
theorem i5:type_of% @List.forall_mem_singleton.{0}:=@List.forall_mem_singleton
theorem gO:type_of% @List.mem_append_left.{0}:=@List.mem_append_left
theorem fu:type_of% @List.length_cons.{0}:=@List.length_cons
theorem eM:type_of% @List.mem_range:=@List.mem_range
theorem fT:type_of% @List.append_nil.{0}:=@List.append_nil
theorem ju:type_of% @PySem.Heap.get?_push_of_some:=@PySem.Heap.get?_push_of_some
theorem eG:type_of% @PySem.codeAny_mono:=@PySem.codeAny_mono
theorem dR:type_of% @PySem.wpAny_mono:=@PySem.wpAny_mono
theorem jv:type_of% @List.mem_map_of_mem.{0,0}:=@List.mem_map_of_mem
theorem fv:type_of% @PySem.Heap.lt_size:=@PySem.Heap.lt_size
theorem fK:type_of% @List.map_nil.{0,0}:=@List.map_nil
theorem i6:type_of% @List.append_assoc.{0}:=@List.append_assoc
theorem iQ:type_of% @List.mem_flatMap.{0,0}:=@List.mem_flatMap
theorem mR:type_of% @List.getElem?_eq_getElem.{0}:=@List.getElem?_eq_getElem
theorem iS:type_of% @decide_eq_false:=@decide_eq_false
theorem mS:type_of% @List.forall_mem_cons.{0}:=@List.forall_mem_cons
theorem lP:type_of% @List.pairwise_cons.{0}:=@List.pairwise_cons
theorem jW:type_of% @decide_eq_true:=@decide_eq_true
theorem oB:type_of% @PySem.wpAny_specialOf_val:=@PySem.wpAny_specialOf_val
theorem k6:type_of% @List.map_append.{0,0}:=@List.map_append
theorem k7:type_of% @List.foldl_cons.{0,0}:=@List.foldl_cons
theorem mT:type_of% @List.pairwise_map.{0,0}:=@List.pairwise_map
theorem lQ:type_of% @List.length_map.{0,0}:=@List.length_map
theorem k8:type_of% @PySem.Heap.size_push:=@PySem.Heap.size_push
theorem mU:type_of% @Bool.and_eq_true:=@Bool.and_eq_true
theorem qD:type_of% @PySem.builtinLookup_eq_fast:=@PySem.builtinLookup_eq_fast
theorem oC:type_of% @decide_eq_true_eq:=@decide_eq_true_eq
theorem mV:type_of% @Nat.sub_add_cancel:=@Nat.sub_add_cancel
theorem rO:type_of% @List.flatMap_singleton.{0,0}:=@List.flatMap_singleton
theorem oD:type_of% @List.all_eq_true.{0}:=@List.all_eq_true
theorem qF:type_of% @List.map_congr_left.{0,0}:=@List.map_congr_left
theorem uA:type_of% @List.take_of_length_le.{0}:=@List.take_of_length_le
theorem uB:type_of% @List.drop_of_length_le.{0}:=@List.drop_of_length_le
theorem rP:type_of% @List.flatMap_append.{0,0}:=@List.flatMap_append
theorem qG:type_of% @beq_self_eq_true.{0}:=@beq_self_eq_true
theorem lT:type_of% @PySem.wpAny_field:=@PySem.wpAny_field
theorem rQ:type_of% @List.flatMap_cons.{0,0}:=@List.flatMap_cons
theorem rR:type_of% @Int.toNat_natCast:=@Int.toNat_natCast
theorem k9:type_of% @Nat.le_add_right:=@Nat.le_add_right
theorem iT:type_of% @Nat.succ_pos:=@Nat.succ_pos
theorem iU:type_of% @Nat.zero_le:=@Nat.zero_le
theorem j9:type_of% @Nat.le_of_eq:=@Nat.le_of_eq
theorem ka:type_of% @Nat.ne_of_gt:=@Nat.ne_of_gt
theorem ld:type_of% @Nat.ne_of_lt:=@Nat.ne_of_lt
theorem bh:type_of% @absurd.{0}:=@absurd
theorem uC:type_of% @Nat.le_of_ble_eq_true:=@Nat.le_of_ble_eq_true
open Lean in
set_option hygiene false in
local macro_rules
| `(tactic| ext $xs* : $_)=>
  let h:Term:=⟨mkNode ``Parser.Term.hole #[mkAtom "_"]⟩
  let i (s : String) (a : Array Term):Term:=Syntax.mkApp (mkIdent (.mkSimple s)) a
  let k:=xs.size
  let (t,es):=(List.range (k-1)).foldl (fun (t,es) _=>(i "pF" #[t],i "pS" #[t]::es)) (i s!"Ez{k}" #[h,h],[])
  let es:=(t::es).toArray
  let ds : TSyntaxArray `ident:=xs.map fun x=>⟨x.raw[0][0]⟩
  `(tactic| (refine @$(mkIdent (.mkSimple s!"ea{k}")):ident $(Array.replicate (k+1) h)* nE ?_; generalize $[$es:term = $ds],*))
| `(tactic| ext $xs*)=>
  let b:=xs.back!.raw[0]
  if b.getKind == ``Parser.Tactic.rcasesPat.tuple then
    let hs : TSyntaxArray `ident:=b[1].getSepArgs.map fun x=>⟨x[0][0][0][0]⟩
    `(tactic| (revert $hs*; ext $(xs.pop)*; intro $[$hs:ident]*))
  else
    let ds : TSyntaxArray `ident:=xs.map fun x=>⟨x.raw[0][0]⟩
    `(tactic| (revert $ds*; ext $xs* : 0))
set_option hygiene false in
local macro_rules
| `($a → $b)=>`(∀ U : $a,$b)
theorem i7 (h:n - i=k+1):i<n:=by omega
theorem ke (h:n - i=k+1):n - (i+1)=k:=by omega
theorem Mh (h:n - i=k+1):n - i=n - (i+1)+1:=by omega
theorem vz {a c:Nat} (h:c<=a):a=a - c+c:=(mV h).symm
theorem Bj:x+(y+1) - 1 - y=x:=by omega
theorem NO {a c:Nat} (h:c<=a):a - c+c=a:=mV h
theorem tF {a b k:Nat} (h:a≠b):a+k≠b+k:=λe=>h (Nat.add_right_cancel e)
theorem j4 {a b c:Nat} (h:a<=b):a<=b+c:=Nat.le_add_right_of_le h
theorem y0 (h:a<=b):a<b+(c+1):=Nat.lt_succ_of_le (Nat.le_add_right_of_le h)
theorem y3 (h:x<8):x=0\/x=1\/x=2\/x=3\/x=4\/x=5\/x=6\/x=7:=by lia
theorem iF (h:x<3):x=0\/x=1\/x=2:=by lia
theorem Dm (h:a+(b+1)=c):a<c:=by omega
theorem y4 (h:a+(b+1)=c):a+1+b=c:=by omega
theorem Is {a b:Nat} (h:¬a<b):b<=a:=Nat.le_of_not_lt h
theorem MI {a b:Nat} (h:¬a<=b):b<=a:=Nat.le_of_lt (Nat.lt_of_not_le h)
theorem It {x y:Nat}:x+y - x=y:=Nat.add_sub_cancel_left x y
theorem Dn {x a} (h:x=a+1):x<=a+1+k:=by omega
theorem au {l r a b:Nat} (h:a<=b) (g:l+b<=r+a:=by simp+arith):l<=r:=by omega
theorem lf (h:a<=b) (g:b+1<=a:=by simp+arith):False:=by omega
theorem ax {a b c d:Nat} (h:a<=b) (g:c<=d):a+c<=b+d:=Nat.add_le_add h g
theorem fk {a b:Nat} (h:a=b):a<=b:=j9 h
theorem ii {a b:Nat} (h:a=b):b<=a:=j9 h.symm
theorem Iu {a b c d:Nat} (h:a<=b) (h2:c<=d) (g:r+b<=l+a:=by simp+arith) (J:l+d<=r+c:=by simp+arith):l=r:=by omega
section
variable {α:Type u} {x0 x1 x2 x3 x4 x5:α} {l:List α}
theorem aJ:x0∈x0::l:=.head _
theorem cy:x1∈x0::x1::l:=.tail _ aJ
theorem gr:x2∈x0::x1::x2::l:=.tail _ cy
theorem vA:x3∈x0::x1::x2::x3::l:=.tail _ gr
theorem Bk:x4∈x0::x1::x2::x3::x4::l:=.tail _ vA
theorem Fu:x5∈x0::x1::x2::x3::x4::x5::l:=.tail _ Bk
end
theorem MJ {a b:Nat} (h:a<=b):a+(b - a)=b:=by omega
theorem MK (h:x+1<8):8 - (x+1)=7 - (x+1)+1:=by omega
theorem ML (h:a - b=0):¬b<a:=by omega
theorem MM {a b:Nat} (h:¬a<b) (c:Nat):min b c<=a:=by omega
theorem y5 {y n:Int} {k:Nat} (e:n=k) (h:Nat.blt 0 k=true):(y.fmod n).toNat<k:=by
 have h:0<k:=by simpa using h
 have a:=Int.fmod_lt_of_pos y (b:=n) (by omega);omega
theorem y6 {y n:Int} {k:Nat} (e:n=k) (h:Nat.blt 0 k=true):((y.fmod n).toNat:Int)=y.fmod n:=by
 have h:0<k:=by simpa using h
 have a:=Int.fmod_nonneg_of_pos y (b:=n) (by omega);omega
theorem MN {p q:Prop} (a:¬p) (b:¬q):¬(p\/q):=λh=>h.elim a b
theorem eO {p:Prop} (h:∀G:Prop,(p->G)->G):p:=h p id
inductive TT (α:Type) where
 |nil
 |node (v:Option α) (l r:TT α)
namespace TT
variable {α:Type}
def get:TT α->Nat->Option α
 |.nil,_=>none
 |.node v l r,i=>match Nat.beq i 0 with
  |true=>v
  |false=>match Nat.beq (i%2) 1 with
   |true=>l.get (i/2)
   |false=>r.get (i/2 - 1)
def put:TT α->Nat->α->TT α
 |.nil,i,x=>match Nat.beq i 0 with
  |true=>.node (some x) .nil .nil
  |false=>.nil
 |.node v l r,i,x=>match Nat.beq i 0 with
  |true=>.node (some x) l r
  |false=>match Nat.beq (i%2) 1 with
   |true=>.node v (l.put (i/2) x) r
   |false=>.node v l (r.put (i/2 - 1) x)
theorem get_node (v:Option α) (l r:TT α) (i):(node v l r).get i=if i=0 then v else if i%2=1 then l.get (i/2) else r.get (i/2 - 1):=by
 show(match Nat.beq i 0 with|true=>v|false=>match Nat.beq (i%2) 1 with|true=>l.get (i/2)|false=>r.get (i/2 - 1))=_;rw[BT.beq_eq,BT.beq_eq];by_cases h:i=0
 .simp[h]
 .by_cases q:i%2=1<;>simp[h,q]
theorem put_node (v:Option α) (l r:TT α) (i) (x:α):(node v l r).put i x=if i=0 then node (some x) l r else if i%2=1 then node v (l.put (i/2) x) r else node v l (r.put (i/2 - 1) x):=by
 show(match Nat.beq i 0 with|true=>node (some x) l r|false=>match Nat.beq (i%2) 1 with|true=>node v (l.put (i/2) x) r|false=>node v l (r.put (i/2 - 1) x))=_;rw[BT.beq_eq,BT.beq_eq];by_cases h:i=0
 .simp[h]
 .by_cases q:i%2=1<;>simp[h,q]
theorem get_put:∀(T:TT α) m (x:α) i (y:α),(T.put m x).get i=some y->(i=m/\y=x)\/(i≠m/\T.get i=some y)
 |.nil,m,x,i,y,h=>by
  dsimp only[put] at h;rw[BT.beq_eq] at h;by_cases hm:m=0
  .subst hm;rw[jW rfl] at h;change(node (some x) nil nil).get i=some y at h;rw[get_node] at h;by_cases J:i=0
   .rw[if_pos J] at h;cases h;exact .inl ⟨J,rfl⟩
   .rw[if_neg J] at h;by_cases p:i%2=1
    .rw[if_pos p] at h;cases h
    .rw[if_neg p] at h;cases h
  .rw[iS hm] at h;cases h
 |.node v l r,m,x,i,y,h=>by
  rw[put_node] at h;by_cases hm:m=0
  .subst hm;rw[if_pos rfl,get_node] at h;by_cases J:i=0
   .rw[if_pos J] at h;cases h;exact .inl ⟨J,rfl⟩
   .rw[if_neg J] at h;refine .inr ⟨J,?_⟩;rw[get_node,if_neg J];exact h
  .rw[if_neg hm] at h;by_cases pm:m%2=1
   .rw[if_pos pm,get_node] at h;by_cases J:i=0
    .rw[if_pos J] at h;exact .inr ⟨by lia,by rw[get_node,if_pos J];exact h⟩
    .rw[if_neg J] at h;by_cases p:i%2=1
     .rw[if_pos p] at h;rcases get_put l _ _ _ _ h with⟨e,f⟩|⟨e,f⟩
      .exact .inl ⟨by lia,f⟩
      .exact .inr ⟨λz=>e (by rw[z]),by rw[get_node,if_neg J,if_pos p];exact f⟩
     .rw[if_neg p] at h;exact .inr ⟨λz=>p (z▸pm),by rw[get_node,if_neg J,if_neg p];exact h⟩
   .rw[if_neg pm,get_node] at h;by_cases J:i=0
    .rw[if_pos J] at h;exact .inr ⟨by lia,by rw[get_node,if_pos J];exact h⟩
    .rw[if_neg J] at h;by_cases p:i%2=1
     .rw[if_pos p] at h;exact .inr ⟨λz=>pm (z▸p),by rw[get_node,if_neg J,if_pos p];exact h⟩
     .rw[if_neg p] at h;rcases get_put r _ _ _ _ h with⟨e,f⟩|⟨e,f⟩
      .exact .inl ⟨by lia,f⟩
      .exact .inr ⟨λz=>e (by rw[z]),by rw[get_node,if_neg J,if_neg p];exact f⟩
end TT
structure ad where
 a:Nat
 o:Obj
structure HR where
 n:Nat
 t:Nat
 g:Nat
 x:Nat
 y:Nat
 z:Nat
structure j5 where
 r:Result
 sets:List (Nat×Nat×Obj)
 news:List ad
inductive gL where
 |gen (out:HR->j5)
 |pure (dt:Nat) (r:Nat->Result)
structure kj where
 req:List (Nat×Nat×Obj)
 ps:List (Code×Code)
 kind:gL
structure cN where
 ob:List (Nat×Nat)
 oo:List (Obj×Obj)
 ps:List (Code×Code)
 rs:List HR
 ng:List (Nat×Code)
inductive Kd where
 |fin (f:Fin)
 |raise (e:Value)
 |yield (v:Value) (l:List Value) (k:Resume->Sem Fin)
 |ret (r:Result)
 |again (c:Code)
 |call (tp:Bool) (c₁ c':Code) (gd:Bool) (l:List Value) (k:Result->Sem Fin)
set_option genCtorIdx true in
inductive gt where
 |stop (n:Nat)
 |unsup (w:String)
 |done (L:cN) (kd:Kd) (E:TT ad) (m n t g:Nat)
set_option genCtorIdx true in
inductive Kt where
 |base
 |top
 |ret (lv:Nat) (c:Code) (k:Result->Sem Fin) (κ:Kt)
def Kt.lv:Kt->Nat
 |.base=>0
 |.top=>1
 |.ret l _ _ _=>l
structure V where
 prog:Program
 params:Params
 kt:KT
 hk:Nat->Code->(Nat->Option ad)->Option kj
 d₀:Nat
 dh:Nat
def y7 (k:Sem Fin):Sem Fin:=R.bindR Fast.tw2211186353215096513 λl=>match Nat.beq l 1000 with
 |true=>k
 |false=>.unsupported "law7:limit"
set_option backward.match.sparseCases true in
def tG (OI:Addr) (J:FuncData) (OH:Args):Sem Fin:=
 R.bindR (match J.code with
  |.none=>.pure J.qualname
  |c=>R.bindR (Fast.tw6609576154772507232 c 1) λx=>match x with
   |.str q _=>.pure q
   |_=>.pure J.qualname) λOE=>
 R.bindR (Fast.tw9782568553167038054 J OH) λOG=>
 R.bindR (Fast.tw11113344188204177931 J.scope J.globals J.closure OG (OE++⟨#[46,60,108,111,99,97,108,115,62,46]⟩) (some OI) J.code none J.builtins) λOF=>
 y7 (match J.scope.isGenerator,J.scope.isCoroutine with
  |false,false=>.pure (.again (match J.body with|.stmts b=>.func b OF|.expr e=>.expr e OF))
  |true,false=>R.bindR (Fast.tw2426001476595277715 (match J.body with|.stmts b=>.func b OF|.expr e=>.expr e OF) J.name J.qualname) λg=>.pure (.done (.ret g))
  |_,_=>.unsupported "law7:coroutine")
def oJ (c:Code):Sem Fin:=Fast.tw11892475500146522536 Fast.tw14364793385576792824 c
theorem fU (c):oJ c=denote table c:=by
 unfold oJ;rw[<-Fast.te11892475500146522536,<-Fast.te14364793385576792824,table_eq_tree]
set_option backward.match.sparseCases true
theorem GC:∀{M A} (hd:A.depth<recursionLimit) {k} {Q:Fin->Pos->Shared->Prop} {E:Value->Pos->Shared->Prop} {s J p} (OE:J.In A)
  (h1:wp M J (y7 k) Q E p s),wp M J (enterFrame>>=λU=>k) Q E p s:=by
 ext M A:0;intro hd;ext k Q E s J p:0;intro OE h1;unfold y7 at h1;rw[<-R.bindR_eq,<-Fast.te2211186353215096513,Sem.wp_bind] at h1;have OI:((((J.code,p)::J.below).map (·.1)).map (·.frames)).sum+((((J.code,p)::J.below).map (·.1)).filter Code.isCreation).length<recursionLimit:=by
  have OG:=frameCount_ge ((J.code,p)::J.below);rw[frameCount_cons] at OG;have:=OE.2.1;omega
 have OH:¬((((J.code,p)::J.below).map (·.1)).map (·.frames)).sum>=recursionLimit:=by omega
 have OF:¬((((J.code,p)::J.below).map (·.1)).map (·.frames)).sum+((((J.code,p)::J.below).map (·.1)).filter Code.isCreation).length>=recursionLimit:=by omega
 simp only[enterFrame,Sem.wp_bind'];show wp M J currentRecursionLimit _ _ p s;refine Sem.wp_mono M J currentRecursionLimit (λl p' s' hq=>?_) (λU U U x=>x) p s h1;by_cases hl:l=1000
 .subst hl;change wp M J k _ _ p' s' at hq;show wp M J (if nearTheLimitUnderAClaim (((J.code,p)::J.below).map (·.1)) (((((J.code,p)::J.below).map (·.1)).map (·.frames)).sum+((((J.code,p)::J.below).map (·.1)).filter Code.isCreation).length) recursionLimit=true then _ else _) _ _ p' s';rw[if_neg (by rw[not_nearTheLimit OE hd];exact Bool.false_ne_true)];show wp M J (if((((J.code,p)::J.below).map (·.1)).map (·.frames)).sum>=recursionLimit then _ else _) _ _ p' s';rw[if_neg OH];show wp M J (if((((J.code,p)::J.below).map (·.1)).map (·.frames)).sum+((((J.code,p)::J.below).map (·.1)).filter Code.isCreation).length>=recursionLimit then _ else _) _ _ p' s';rw[if_neg OF];exact hq
 .exfalso;rw[BT.beq_eq,iS hl] at hq;change wp M J (.unsupported _) _ _ p' s' at hq;rw[Sem.wp_unsupported] at hq;exact hq
theorem y8:Str.ofString ".<locals>." =⟨#[46,60,108,111,99,97,108,115,62,46]⟩:=by decide+kernel
theorem tH {M:Model} {A:Around} (hd:A.depth<recursionLimit) {a:Addr} {fd:FuncData} {OG:Args} {Q:Fin->Pos->Shared->Prop} {E:Value->Pos->Shared->Prop} {Γ:PySem.Ctx} (OJ:Γ.In A)
  {OE:Str} {OH:Env->Sem Fin} (OI:∀J p s,wp M Γ (match fd.scope.isGenerator,fd.scope.isCoroutine with
   |false,false=>Sem.pure (Fin.again (match fd.body with|.stmts b=>Code.func b J|.expr e=>Code.expr e J))
   |true,false=>(newGenerator (match fd.body with|.stmts b=>Code.func b J|.expr e=>Code.expr e J) fd.name fd.qualname).bind λg=>Sem.pure (Fin.done (Flow.ret g))
   |_,_=>Sem.unsupported "law7:coroutine") Q E p s->wp M Γ (OH J) Q E p s) {p:Pos} {s:Shared}
  (h:wp M Γ ((bindArgs fd OG).bind λOF=>(newFunctionEnv fd.scope fd.globals fd.closure OF (OE++Str.ofString ".<locals>.") (some a) fd.code none fd.builtins).bind λJ=>
   y7 (match fd.scope.isGenerator,fd.scope.isCoroutine with
   |false,false=>Sem.pure (Fin.again (match fd.body with|.stmts b=>Code.func b J|.expr e=>Code.expr e J))
   |true,false=>(newGenerator (match fd.body with|.stmts b=>Code.func b J|.expr e=>Code.expr e J) fd.name fd.qualname).bind λg=>Sem.pure (Fin.done (Flow.ret g))
   |_,_=>Sem.unsupported "law7:coroutine")) Q E p s):
  wp M Γ (bindArgs fd OG>>=λOF=>newFunctionEnv fd.scope fd.globals fd.closure OF (OE++Str.ofString ".<locals>.") (some a) fd.code none fd.builtins>>=λJ=>enterFrame>>=λU=>OH J) Q E p s:=by
 rw[Sem.wp_bind] at h;rw[Sem.wp_bind'];refine Sem.wp_mono M Γ _ (λOF p2 s2 h3=>?_) (λU U U x=>x) p s h;rw[Sem.wp_bind] at h3;rw[Sem.wp_bind'];refine Sem.wp_mono M Γ _ (λJ p3 s3 h4=>?_) (λU U U x=>x) p2 s2 h3;have h5:=GC hd OJ h4;rw[Sem.wp_bind'] at h5|-;exact Sem.wp_mono M Γ _ (λU p4 s4 h6=>OI J p4 s4 h6) (λU U U x=>x) p3 s3 h5
set_option tactic.hygienic true in
theorem Bl:∀{M A} (hd:A.depth<recursionLimit) {a fd J} {Q:Fin->Pos->Shared->Prop} {E:Value->Pos->Shared->Prop} {s Γ p} (OE:Γ.In A)
  (h1:wp M Γ (tG a fd J) Q E p s),wp M Γ (callFunction a fd J) Q E p s:=by
 ext M A:0;intro hd;ext a fd J Q E s Γ p:0;intro OE h1;unfold tG at h1;rw[<-R.bindR_eq,<-Fast.te6609576154772507232,<-Fast.te9782568553167038054,<-Fast.te11113344188204177931,<-Fast.te2426001476595277715,<-y8] at h1;unfold callFunction;dsimp only;rw[Sem.wp_bind] at h1;split at h1
 .rename_i hc;rw[Sem.wp_pure] at h1;split
  .rw[Sem.wp_bind',Sem.wp_pure'];refine tH hd OE (λOF p s h6=>?_) h1;cases hg:fd.scope.isGenerator<;>cases hc:fd.scope.isCoroutine<;>rw[hg,hc] at h6<;>first|exact h6|(exfalso;exact h6)
  .rename_i hn;exact bh hc hn
 .rename_i hc;rw[Sem.wp_bind] at h1;split
  .rename_i hn;exact bh hn hc
  .rw[Sem.wp_bind'];refine Sem.wp_mono M Γ _ (λv p1 s1 h2=>?_) (λU U U x=>x) p s h1;split at h2
   .rw[Sem.wp_pure] at h2;rw[Sem.wp_bind',Sem.wp_pure'];refine tH hd OE (λOF p s h6=>?_) h2;cases hg:fd.scope.isGenerator<;>cases hc:fd.scope.isCoroutine<;>rw[hg,hc] at h6<;>first|exact h6|(exfalso;exact h6)
   .rename_i hv;rw[Sem.wp_pure] at h2;split
    .exact bh rfl (hv _ _)
    .rw[Sem.wp_bind',Sem.wp_pure'];refine tH hd OE (λOF p s h6=>?_) h2;cases hg:fd.scope.isGenerator<;>cases hc:fd.scope.isCoroutine<;>rw[hg,hc] at h6<;>first|exact h6|(exfalso;exact h6)
set_option backward.match.sparseCases false
def Mi (n:String):Bool:=match PySem.code n with
 |c=>Nat.beq c 0x737075627366756a60666d717675||Nat.beq c 0x737075627366756a6075746a6d||Nat.beq c 0x737075627366756a6066686f6273||Nat.beq c 7432827||Nat.beq c 0x7370756273666f6668
def jX:Value->Bool
 |.type n=>Mi n
 |_=>false
theorem iG {n m:String} {k:Nat} (h:Nat.beq (PySem.code n) k=true) (e:PySem.code m=k):n=m:=code_inj _ _ ((Nat.eq_of_beq_eq_true h).trans e.symm)
section
variable {prog:Program} {w:World} {A:Around} {E:Value->Shared->Prop} {s:Shared}
set_option tactic.hygienic true in
theorem Bm:∀{a o} {Q:Value->Shared->Prop} (J:s.heap.get? a=some o) (hc:jX o.cls=true) (h:Q (.ref a) s),wpAny (model prog w) A (pyIter (.ref a)) Q E s:=by
 revert prog w A E s;ext prog w A E s a o Q:0;intro J hc h;unfold jX at hc;split at hc
 .rename_i n hn;unfold Mi at hc;simp only[Bool.or_eq_true] at hc;have hT:s.TypeIs (.ref a) n:=⟨o,J,hn⟩;rcases hc with(((hc|hc)|hc)|hc)|hc
  .obtain rfl:=iG (m:= "tuple_iterator") hc (by decide+kernel);refine wpAny_pyIter_slot hT F.slot_tuple_iterator_iter (wpAny_call_entry F.slot_tuple_iterator_iter hT F.entry_tuple_iterator_iter ?_ (F.args_tuple_iterator_iter_1 _));show wpAny _ _ (ret (.ref a)) _ _ s;exact aH ⟨_,rfl,"tuple_iterator",_,hT,F.slot_tuple_iterator_next.lookup,h⟩
  .obtain rfl:=iG (m:= "list_iterator") hc (by decide+kernel);refine wpAny_pyIter_slot hT slot_listiter_iter (wpAny_call_entry slot_listiter_iter hT entry_listiter_iter ?_ (args_listiter_iter _));show wpAny _ _ (ret (.ref a)) _ _ s;exact aH ⟨_,rfl,"list_iterator",_,hT,slot_listiter_next.lookup,h⟩
  .obtain rfl:=iG (m:= "range_iterator") hc (by decide+kernel);refine wpAny_pyIter_slot hT F.slot_range_iterator_iter (wpAny_call_entry F.slot_range_iterator_iter hT F.entry_range_iterator_iter ?_ (F.args_range_iterator_iter_1 _));show wpAny _ _ (ret (.ref a)) _ _ s;exact aH ⟨_,rfl,"range_iterator",_,hT,F.slot_range_iterator_next.lookup,h⟩
  .obtain rfl:=iG (m:= "zip") hc (by decide+kernel);refine wpAny_pyIter_slot hT F.slot_zip_iter (wpAny_call_entry F.slot_zip_iter hT F.entry_zip_iter ?_ (F.args_zip_iter_1 _));show wpAny _ _ (ret (.ref a)) _ _ s;exact aH ⟨_,rfl,"zip",_,hT,F.slot_zip_next.lookup,h⟩
  .obtain rfl:=iG (m:= "generator") hc (by decide+kernel);refine wpAny_pyIter_slot hT slot_gen_iter (wpAny_call_entry slot_gen_iter hT entry_gen_iter ?_ (args_gen_iter _));show wpAny _ _ (ret (.ref a)) _ _ s;exact aH ⟨_,rfl,"generator",_,hT,slot_gen_next.lookup,h⟩
 .cases hc
end
def aM (c:Code):Sem Fin:=match c with
 |.call f OE=>match f with
  |.ref a=>.load a none λo=>match o.data with
   |.func fd=>tG a fd OE
   |_=>oJ c
  |_=>oJ c
 |.compStart e J it acc OF=>match it with
  |.ref a=>match Code.isFrame c with
   |true=>oJ c
   |false=>.load a none λo=>match jX o.cls with
    |true=>.pure (.again (.compLoop e J (.ref a) acc OF))
    |false=>oJ c
  |_=>oJ c
 |_=>oJ c
section
variable {prog:Program} {w:World} {A:Around} {E:Value->Shared->Prop} {s:Shared}
theorem vf:∀{e J a acc OE o} {Q:Fin->Shared->Prop} (ho:s.heap.get? a=some o) (hc:jX o.cls=true) (h:Q (.again (.compLoop e J (.ref a) acc OE)) s),wpAny (model prog w) A (compStart e J (.ref a) acc OE) Q E s:=by
 revert prog w A E s;ext prog w A E s e J a acc OE o Q:0;intro ho hc h;unfold compStart;have h0:wpAny (model prog w) A (again (.compLoop e J (.ref a) acc OE)) Q E s:=aH h;have h2:wpAny (model prog w) A (again (.compLoop e J (.ref a) acc OE)>>=λx=>pure x) Q E s:=ao (aH (aH h));have h1:wpAny (model prog w) A (pyIter (.ref a)>>=λit=>again (.compLoop e J it acc OE)) Q E s:=ao (Bm ho hc h0);dsimp only;split
 .exact h2
 .refine ao (wpAny_askSetting ?_);split
  .exact h2
  .refine ao (wpAny_rule ?_);split
   .exact ao (wpAny_standAt h1)
   .exact h1
theorem vB {Q:Fin->Shared->Prop} (e:t=t') (h:wpAny (model prog w) A t' Q E s):wpAny (model prog w) A t Q E s:=e▸h
set_option tactic.hygienic true in
theorem rS:∀(hd:A.depth<recursionLimit) {c} {Q:Fin->Shared->Prop} (h:wpAny (model prog w) A (aM c) Q E s),wpAny (model prog w) A (denote table c) Q E s:=by
 ext prog w A E s;intro hd;ext c Q:0;intro h;cases c with
 |call f OH=>
  ext f OH ⟨h⟩;cases f with
  |ref a=>
   ext a ⟨h⟩;intro Γ p OF;obtain⟨o,ho,h1⟩:=h Γ p OF;by_cases hf:∃fd,o.data=.func fd
   .obtain⟨fd,OG⟩:=hf;show wp _ Γ (callAny (.ref a) OH) _ _ p s;refine⟨o,ho,?_⟩;dsimp only at h1;rw[OG] at h1;simp only[Sem.bind,OG];exact Bl hd OF h1
   .rw[<-fU];dsimp only at h1;split at h1
    .rename_i fd OG;exact bh ⟨fd,OG⟩ hf
    .exact h1
  |_=>rw[<-fU];exact h
 |compStart e J it acc OE=>
  ext e J it acc OE ⟨h⟩;cases it with
  |ref a=>
   ext a ⟨h⟩;cases hfr:Code.isFrame (.compStart e J (.ref a) acc OE) with
   |true=>
    rw[<-fU];simp only[aM,hfr] at h;exact h
   |false=>
    simp only[aM,hfr] at h;intro Γ p OF;obtain⟨o,ho,h1⟩:=h Γ p OF;cases hi:jX o.cls with
    |false=>
     rw[<-fU];simp only[hi] at h1;exact h1
    |true=>
     simp only[hi] at h1;have h2:Q (.again (.compLoop e J (.ref a) acc OE)) s:=h1;refine vB ?_ (wpAny_onRaise (m:=compStart e J (.ref a) acc OE) (k:=λx=>do noteFrame x OE;standAt theWindowsPlace) (vf ho hi h2)) Γ p OF;simp only[denote,hfr];rfl
  |_=>rw[<-fU];exact h
 |_=>rw[<-fU];exact h
end
def qt:Code->Bool
 |.builtin id _=>match S.bytesOf id with
  |a::_::c::_=>match Nat.beq a.toNat 108 with
   |true=>match Nat.beq c.toNat 102 with
    |true=>false
    |false=>true
   |false=>true
  |_=>true
 |_=>true
def uD:Code->Bool
 |.builtin id _=>match Nat.beq (PySem.code id) 0x73666d6d62642f6e6a626d64 with
  |true=>false
  |false=>true
 |_=>true
def bq (c:Code):Prop:=c.weight<=5/\c.cUnits<=10
theorem qZ (h:qt c=true):c.quiet=true:=by
 cases c with
 |builtin id J=>
  ext id J ⟨h⟩;refine Code.quiet_builtin J ?_;cases hs:id.startsWith "lifetime." with
  |false=>rfl
  |true=>
   exfalso;obtain⟨t,ht⟩:=String.startsWith_string_iff.mp hs;ext t ⟨ht⟩;have hb:S.bytesOf id=S.encL id.toList:=S.bytes_list id;have hl: "lifetime.".toList=['l','i','f','e','t','i','m','e','.']:=by decide+kernel
   rw[hl] at ht;rw[<-ht] at hb;have hc:S.encL (['l','i','f','e','t','i','m','e','.']++t)=108::105::102::S.encL (['e','t','i','m','e','.']++t):=rfl;rw[hc] at hb;unfold qt at h;simp only[hb] at h;cases h
 |_=>assumption
theorem NP {p:Prop} [Decidable p] {a:p->Nat} {b:¬p->Nat} {k} (J:∀h,a h<=k) (hb:∀h,b h<=k):dite p a b<=k:=by
 split
 .exact J _
 .exact hb _
theorem Mj {p:Prop} [Decidable p]:(if p then 1 else 0)<=3:=by split<;>decide
theorem Bn (c:Code):c.frames<=3:=by
 cases c with
 |builtin id a=>
  delta Code.frames Code.frames.match_1 Code.frames._sparseCasesOn_1
  dsimp only
  iterate 9 refine NP (λh=>by subst h;decide) λU=>?_
  exact Mj
 |_=>delta Code.frames Code.frames.match_1 Code.frames._sparseCasesOn_1;exact Mj
set_option tactic.hygienic true in
theorem ba {c:Code} (h:uD c=true):bq c:=by
 ext c ⟨h⟩;have hf:=Bn c;refine⟨?_,?_⟩
 .have hc:c.isCaller=false:=by
   cases c with
   |builtin id J=>
    cases hq:(Code.builtin id J).isCaller with
    |false=>rfl
    |true=>
     exfalso;unfold Code.isCaller at hq;split at hq
     .rename_i e;cases e;unfold uD at h;have:Nat.beq (PySem.code "claim.caller") 35714603318786955769505017188=true:=by decide+kernel
      dsimp only at h;rw[this] at h;cases h
     .cases hq
   |_=>rfl
  unfold Code.weight;rw[hc];simp only[Bool.false_eq_true,if_false];split<;>split<;>exact au hf
 .unfold Code.cUnits;split<;>lia
def tI (v:V) (E:TT ad) (x:Nat):Option ad:=match Nat.blt x 160 with
 |true=>match v.kt.get x with
  |some o=>some ⟨x,o⟩
  |none=>none
 |false=>E.get (x - 160)
def cN.at (L:cN) (a b:Nat):cN:={L with ob:=(a,b)::L.ob}
noncomputable abbrev q0:=Nat->TT ad->Nat->Nat->Nat->Nat->Nat->Nat->Nat->cN->gt
noncomputable abbrev km:=Code->Kt->Sem Fin->q0
def i8 (n:Nat):q0:=λU U U U U U U U U U=>.stop n
def jx:List (Nat×Nat×Obj)->TT ad->cN->Option cN
 |[],_,L=>some L
 |q::r,E,L=>match E.get q.1 with
  |some e=>jx r E {L with ob:=(q.2.1,e.a)::L.ob,oo:=(q.2.2,e.o)::L.oo}
  |none=>none
def iH:List (Nat×Nat×Obj)->TT ad->cN->Option (TT ad×cN)
 |[],E,L=>some (E,L)
 |q::r,E,L=>match E.get q.1 with
  |some e=>iH r (E.put q.1 ⟨e.a,q.2.2⟩) {L with ob:=(q.2.1,e.a)::L.ob}
  |none=>none
def jy:List ad->TT ad->Nat->TT ad×Nat
 |[],E,m=>(E,m)
 |e::r,E,m=>jy r (E.put m e) (m+1)
def y9 (ih:km) (r:Result) (J:Kd) (κ:Kt):q0:=match κ with
 |.base=>λU E m b j tb i gb gj L=>.done L J E m (b+j) (tb+i) (gb+gj)
 |.top=>λU E m b j tb i gb gj L=>.done L (.ret r) E m (b+j) (tb+i) (gb+gj)
 |.ret _ c k κ=>ih c κ (k r)
def lU (v:V) (ih:km) (c:Code) (κ:Kt) (k:Result->Sem Fin) (sp:kj):q0:=λorc E m b j tb i gb gj L=>
 match Nat.ble (v.d₀+5*κ.lv) v.dh with
 |false=>.stop 10
 |true=>match jx sp.req E {L with ps:=sp.ps++L.ps} with
  |none=>.stop 13
  |some J=>match sp.kind with
   |.pure dt r=>ih c κ (k (r (tb+i))) orc E m b j tb (i+dt) gb gj J
   |.gen out=>match J.rs with
    |[]=>.stop 12
    |ρ::rs=>match iH (out ρ).sets E {J with rs:=rs} with
     |none=>.stop 14
     |some EL=>match jy (out ρ).news EL.1 m with
      |(E2,m2)=>ih c κ (k (out ρ).r) orc E2 m2 (ρ.n+158) 0 (ρ.t+1) 0 ρ.g 0 EL.2
def dx (v:V) (dn:Code->Sem Fin) (q l5:Code->Bool) (ih:km) (c:Code) (κ:Kt) (t:Sem Fin):q0:=match t with
 |.pure OE=>match OE with
  |.done f=>y9 ih (.ok f) (.fin (.done f)) κ
  |.again c'=>match κ with
   |.base=>λU E m b j tb i J gj L=>.done L (.fin (.again c')) E m (b+j) (tb+i) (J+gj)
   |.top=>λorc E m b j tb i J gj L=>match Nat.beq (orc%1024) 0 with
    |false=>.done L (.again c') E m (b+j) (tb+i) (J+gj)
    |true=>match q c' with
     |false=>.stop 20
     |true=>match l5 c' with
      |false=>.stop 21
      |true=>ih c' .top (dn c') (orc/1024) E m b j tb i J gj L
   |.ret _ _ _ _=>match q c' with
    |false=>i8 20
    |true=>match l5 c' with
     |false=>i8 21
     |true=>ih c' κ (dn c')
 |.raise e=>y9 ih (.error e) (.raise e) κ
 |.rule _ k=>ih c κ (k ())
 |.at _ k=>ih c κ (k ())
 |.point _ k=>ih c κ (k ())
 |.ask k=>ih c κ (k ⟨v.prog,v.params⟩)
 |.load a _ k=>λorc E m b j tb i J gj L=>match tI v E (orc%1024) with
  |some e=>ih c κ (k e.o) (orc/1024) E m b j tb i J gj (L.at a e.a)
  |none=>.stop 1
 |.loadIfAlive a k=>λorc E m b j tb i J gj L=>match tI v E (orc%1024) with
  |some e=>ih c κ (k (some e.o)) (orc/1024) E m b j tb i J gj (L.at a e.a)
  |none=>.stop 1
 |.update a _ f k=>λorc E m b j tb i J gj L=>match E.get (orc%1024 - 160) with
  |some e=>match(f e.o).isFreed with
   |true=>.stop 2
   |false=>ih c κ (k ()) (orc/1024) (E.put (orc%1024 - 160) ⟨e.a,f e.o⟩) m b j tb i J gj (L.at a e.a)
  |none=>.stop 6
 |.alloc o k=>match o.isFreed with
  |true=>i8 2
  |false=>λorc E m b j tb i J gj L=>ih c κ (k (b+j)) orc (E.put m ⟨b+j,o⟩) (m+1) b (j+1) tb i J gj L
 |.fresh k=>λorc E m b j tb i J gj L=>ih c κ (k (tb+i)) orc E m b j tb (i+1) J gj L
 |.handled OF k=>match OF with
  |false=>ih c κ (k none)
  |true=>i8 7
 |.newGen c' k=>λorc E m b j tb i J gj L=>ih c κ (k (J+gj)) orc E m b j tb i J (gj+1) {L with ng:=(J+gj,c')::L.ng}
 |.call c' hd gd l k=>match hd with
  |some _=>i8 8
  |none=>λorc E m b j tb i J gj L=>match orc%1024 with
   |0=>match Nat.ble (v.d₀+5*κ.lv) 950 with
    |false=>.stop 9
    |true=>match l5 c' with
     |false=>.stop 21
     |true=>ih c' (.ret (κ.lv+1) c k κ) (dn c') (orc/1024) E m b j tb i J gj L
   |n+1=>match Nat.beq n 1022 with
    |true=>match κ with
     |.ret _ _ _ _=>.stop 15
     |.top=>.done L (.call true c c' gd l k) E m (b+j) (tb+i) (J+gj)
     |.base=>.done L (.call false c c' gd l k) E m (b+j) (tb+i) (J+gj)
    |false=>match v.hk n c' E.get with
     |none=>.stop 11
     |some sp=>lU v ih c κ k sp (orc/1024) E m b j tb i J gj L
 |.yield y gd l k=>match κ with
  |.base=>match gd with
   |true=>i8 14
   |false=>λU E m b j tb i J gj L=>.done L (.yield y l k) E m (b+j) (tb+i) (J+gj)
  |_=>i8 13
 |.unsupported w=>λU U U U U U U U U U=>.unsup w
 |.finish _=>i8 30
 |.register .. =>i8 31
 |.choose .. =>i8 32
 |.os .. =>i8 33
 |.fork .. =>i8 34
 |.thread _=>i8 35
 |.await .. =>i8 36
 |.stack _=>i8 37
 |.genState .. =>i8 38
 |.resume .. =>i8 39
def za (v:V) (J:Code->Sem Fin) (q l5:Code->Bool):Nat->km
 |0=>λU U U=>i8 40
 |n+1=>dx v J q l5 (za v J q l5 n)
@[irreducible] noncomputable def fw (v:V) (n:Nat):km:=za v aM qt uD n
def cN.good (L:cN):Prop:=(∀p∈L.ob,p.1=p.2)/\(∀p∈L.oo,p.1=p.2)/\∀p∈L.ps,p.1=p.2
def cN.le (L L':cN):Prop:=(∀p∈L.ob,p∈L'.ob)/\(∀p∈L.oo,p∈L'.oo)/\∀p∈L.ps,p∈L'.ps
theorem cN.le_refl (L:cN):L.le L:=⟨λU h=>h,λU h=>h,λU h=>h⟩
theorem cN.le.trans {L L' J:cN} (h:L.le L') (h':L'.le J):L.le J:=⟨λp x=>h'.1 p (h.1 p x),λp x=>h'.2.1 p (h.2.1 p x),λp x=>h'.2.2 p (h.2.2 p x)⟩
theorem cN.good.of_le {L L':cN} (g:L'.good) (h:L.le L'):L.good:=⟨λp x=>g.1 p (h.1 p x),λp x=>g.2.1 p (h.2.1 p x),λp x=>g.2.2 p (h.2.2 p x)⟩
theorem cN.le_at (L:cN) (a b:Nat):L.le (L.at a b):=⟨λU h=>.tail _ h,λU h=>h,λU h=>h⟩
theorem cN.le_ng (L:cN) (g:List (Nat×Code)):L.le {L with ng:=g}:=⟨λU h=>h,λU h=>h,λU h=>h⟩
set_option tactic.hygienic true in
theorem qe:∀{q E L L'},jx q E L=some L'->L.le L'
 |[],_,_,_,h=>by cases h;exact cN.le_refl _
 |q::r,E,L,L',h=>by
  dsimp only[jx] at h;split at h
  .rename_i e _;exact cN.le.trans (L':={L with ob:=(q.2.1,e.a)::L.ob,oo:=(q.2.2,e.o)::L.oo}) ⟨λU x=>.tail _ x,λU x=>.tail _ x,λU x=>x⟩ (qe h)
  .cases h
set_option tactic.hygienic true in
theorem qf:∀{q E L E' L'},iH q E L=some (E',L')->L.le L'
 |[],_,_,_,_,h=>by cases h;exact cN.le_refl _
 |q::r,E,L,E',L',h=>by
  dsimp only[iH] at h;split at h
  .rename_i e _;exact cN.le.trans (L':={L with ob:=(q.2.1,e.a)::L.ob}) ⟨λU x=>.tail _ x,λU x=>x,λU x=>x⟩ (qf h)
  .cases h
def lV (R:q0):Prop:=∀orc E m b j tb i J gj L L' kd E' m' n t g,R orc E m b j tb i J gj L=.done L' kd E' m' n t g->L.le L'
theorem fx (n):lV (i8 n):=λU U U U U U U U U U U U U U U U U h=>by cases h
set_option tactic.hygienic true in
theorem zb:∀{v:V} {dn:Code->Sem Fin} {q l5:Code->Bool} {ih:km} (IH:∀c κ t,lV (ih c κ t)) (c:Code) (κ:Kt) (t:Sem Fin),lV (dx v dn q l5 ih c κ t):=by
 ext v dn q l5 ih:0;intro IH;ext c κ t:0;have rk:∀r ON κ,lV (y9 ih r ON κ):=by
  intro r ON κ;ext r ON κ;cases κ with
  |base=>intro _ _ _ _ _ _ _ _ _ _ _ _ _ _ _ _ _ h;rename_i Pw Px Py Pz PA PB PC PD PE PF Pg Ph OO OP OQ OR OS;revert h;ext Pw Px Py Pz PA PB PC PD PE PF Pg Ph ⟨OO,OP,OQ,OR,OS⟩;ext OO OP OQ OR OS;intro h;cases h;exact cN.le_refl _
  |top=>intro _ _ _ _ _ _ _ _ _ _ _ _ _ _ _ _ _ h;rename_i PG PH PJ PK PM PN PP PQ PR PS Pu Pv OT OU OV OW OX;revert h;ext PG PH PJ PK PM PN PP PQ PR PS Pu Pv ⟨OT,OU,OV,OW,OX⟩;ext OT OU OV OW OX;intro h;cases h;exact cN.le_refl _
  |ret=>exact IH _ _ _
 cases t with
 |pure ON=>
  cases ON with
  |done f=>exact rk _ _ _
  |again c'=>
   ext c';cases κ with
   |base=>intro _ _ _ _ _ _ _ _ _ _ _ _ _ _ _ _ _ h;rename_i O3 O4 O5 O6 O7 O8 O9 Pa Pb Pc OY OZ J OE OF OG OH;revert h;ext O3 O4 O5 O6 O7 O8 O9 Pa Pb Pc OY OZ ⟨J,OE,OF,OG,OH⟩;ext J OE OF OG OH;intro h;cases h;exact cN.le_refl _
   |top=>
    intro orc E m b j tb i gb gj L L' kd E' m' n t g h;revert h;ext orc E m b j tb i gb gj L L' kd ⟨E',m',n,t,g⟩;ext E' m' n t g;intro h;simp only[dx] at h;split at h
    .cases h;exact cN.le_refl _
    .split at h
     .cases h
     .split at h
      .cases h
      .exact IH _ _ _ _ _ _ _ _ _ _ _ _ _ _ _ _ _ _ _ _ h
   |ret=>
    simp only[dx];split
    .exact fx _
    .split
     .exact fx _
     .exact IH _ _ _
 |raise e=>exact rk _ _ _
 |rule PU k=>exact IH _ _ _
 |«at» p k=>exact IH _ _ _
 |point l k=>exact IH _ _ _
 |ask k=>exact IH _ _ _
 |load a p k=>
  intro orc E m b j tb i gb gj L L' kd E' m' n t g h;simp only[dx] at h;split at h
  .exact(cN.le_at _ _ _).trans (IH _ _ _ _ _ _ _ _ _ _ _ _ _ _ _ _ _ _ _ _ h)
  .cases h
 |loadIfAlive a k=>
  intro orc E m b j tb i gb gj L L' kd E' m' n t g h;simp only[dx] at h;split at h
  .exact(cN.le_at _ _ _).trans (IH _ _ _ _ _ _ _ _ _ _ _ _ _ _ _ _ _ _ _ _ h)
  .cases h
 |update a p f k=>
  intro orc E m b j tb i gb gj L L' kd E' m' n t g h;simp only[dx] at h;split at h
  .split at h
   .cases h
   .exact(cN.le_at _ _ _).trans (IH _ _ _ _ _ _ _ _ _ _ _ _ _ _ _ _ _ _ _ _ h)
  .cases h
 |alloc o k=>
  simp only[dx];split
  .exact fx _
  .intro orc E m b j tb i gb gj L L' kd E' m' n t g h;exact IH _ _ _ _ _ _ _ _ _ _ _ _ _ _ _ _ _ _ _ _ h
 |fresh k=>
  intro orc E m b j tb i gb gj L L' kd E' m' n t g h;exact IH _ _ _ _ _ _ _ _ _ _ _ _ _ _ _ _ _ _ _ _ h
 |handled PT k=>
  cases PT with
  |false=>exact IH _ _ _
  |true=>exact fx _
 |newGen c' k=>
  intro orc E m b j tb i gb gj L L' kd E' m' n t g h;exact(cN.le_ng _ _).trans (IH _ _ _ _ _ _ _ _ _ _ _ _ _ _ _ _ _ _ _ _ h)
 |call c' hd gd l k=>
  ext c' hd gd l k;cases hd with
  |some x=>exact fx _
  |none=>
   intro orc E m b j tb i gb gj L L' kd E' m' n t g h;revert h;ext orc E m b j tb i gb gj L L' kd ⟨E',m',n,t,g⟩;ext E' m' n t g;intro h;simp only[dx] at h;split at h
   .split at h
    .cases h
    .split at h
     .cases h
     .exact IH _ _ _ _ _ _ _ _ _ _ _ _ _ _ _ _ _ _ _ _ h
   .rename_i Pd Pe;ext Pd ⟨Pe,h⟩;split at h
    .split at h
     .cases h
     .cases h;exact cN.le_refl _
     .cases h;exact cN.le_refl _
    split at h
    .cases h
    .rename_i sp _;rename_i Pf;ext sp ⟨Pf,h⟩;dsimp only[lU] at h;split at h
     .cases h
     .split at h
      .cases h
      .rename_i L1 h1;have a1:=qe h1;have a0:L.le {L with ps:=sp.ps++L.ps}:=⟨λU x=>x,λU x=>x,λU x=>fJ _ x⟩;ext L1 ⟨h1,h,a1⟩;split at h
       .exact a0.trans (a1.trans (IH _ _ _ _ _ _ _ _ _ _ _ _ _ _ _ _ _ _ _ _ h))
       .rename_i Pi Pj;ext Pi ⟨Pj,h⟩;split at h
        .cases h
        .rename_i ρ rs _;split at h
         .cases h
         .rename_i EL h2;have a2:=qf (show iH _ _ _=some (EL.1,EL.2) from h2);have a3:=IH _ _ _ _ _ _ _ _ _ _ _ _ _ _ _ _ _ _ _ _ h;exact a0.trans (a1.trans (cN.le.trans (L':={L1 with rs:=rs}) ⟨λU x=>x,λU x=>x,λU x=>x⟩ (a2.trans a3)))
 |yield y gd l k=>
  ext y gd l k;cases κ with
  |base=>
   cases gd with
   |true=>exact fx _
   |false=>intro _ _ _ _ _ _ _ _ _ _ _ _ _ _ _ _ _ h;rename_i Pk Pl Pm Pn Po Pp Pq Pr Ps Pt O0 O2 OI OJ OK OL OM;revert h;ext Pk Pl Pm Pn Po Pp Pq Pr Ps Pt O0 O2 ⟨OI,OJ,OK,OL,OM⟩;ext OI OJ OK OL OM;intro h;cases h;exact cN.le_refl _
  |_=>exact fx _
 |unsupported w=>intro _ _ _ _ _ _ _ _ _ _ _ _ _ _ _ _ _ h;cases h
 |_=>exact fx _
theorem uE {v:V} {J q l5}:∀n c κ t,lV (za v J q l5 n c κ t)
 |0,_,_,_=>fx _
 |n+1,c,κ,t=>zb (uE n) c κ t
def ij (s:Shared):Drawn×Bool:=(s.drawn,s.gens.all GenState.bare)
theorem Do {h:Heap} {J:Array GenState} {d:Drawn} {t:Nat} {os:OsState} {g:GenState} (hg:g.bare=true):ij ⟨h,J.push g,d,t,os⟩=ij ⟨h,J,d,t,os⟩:=by
 unfold ij;simp[Array.all_push,hg]
theorem yd {α:Type} (p:α->Bool):∀(l:List α) g (x y:α),l[g]? =some x->p x=p y->(l.set g y).all p=l.all p
 |[],_,_,_,h,_=>by cases h
 |a::r,0,x,y,h,e=>by
  cases h;rw[List.set_cons_zero,List.all_cons,List.all_cons,e]
 |a::r,g+1,x,y,h,e=>by
  rw[List.set_cons_succ,List.all_cons,List.all_cons,yd p r g x y h e]
theorem iV {s g x y} (hx:s.gens[g]? =some x) (h:x.bare=true) (J:y.bare=true):ij (s.setGen g y)=ij s:=by
 have e:(s.gens.setIfInBounds g y).all GenState.bare=s.gens.all GenState.bare:=by
  rw[<-Array.all_toList,<-Array.all_toList,Array.toList_setIfInBounds];exact yd _ _ g x y (by rw[Array.getElem?_toList];exact hx) (h.trans J.symm)
 show(s.drawn,(s.gens.setIfInBounds g y).all GenState.bare)=(s.drawn,s.gens.all GenState.bare);rw[e]
structure cJ (s s':Shared) (ρ:HR) (o:j5):Prop where
 size:s'.heap.objs.size=ρ.n+158
 more:s.heap.objs.size<=s'.heap.objs.size
 toks:s'.toks=ρ.t+1
 tmore:s.toks<=s'.toks
 gens:s'.gens.size=ρ.g
 drawn:ij s'=ij s
 os:s'.os=s.os
 gkeep:∀(k:Nat) (x:GenState),s.gens[k]? =some x->s'.gens[k]? =some x
 keep:∀(a:Nat) x,s.heap.get? a=some x->(∀q∈o.sets,q.2.1≠a)->s'.heap.get? a=some x
 sets:∀q∈o.sets,s'.heap.get? q.2.1=some q.2.2
 news:∀e∈o.news,s'.heap.get? e.a=some e.o/\s.heap.objs.size<=e.a
 apart:o.news.Pairwise λe f=>e.a≠f.a
def bf (M:Model) (A:Around) (c:Code) (R:Result->Shared->Prop) (s:Shared):Prop:=wpAny M A (Sem.call c none false [] Sem.pure) R (λU U=>False) s
theorem bf.mono {M A c} {R J:Result->Shared->Prop} {s} (h:bf M A c R s) (hR:∀r s',R r s'->J r s'):bf M A c J s:=dR h hR λU U x=>x
theorem bf.of_code {prog w A c} {R:Result->Shared->Prop} {s} (h:codeAny (model prog w) A c R s):bf (model prog w) A c R s:=by
 refine x_call ?_ (λe=>by cases e);exact eG (show codeAny (model prog w) (A.mark none) c R s from h) λr J x=>aH x
theorem bf.of_call {M A f as} {Q:Value->Shared->Prop} {s} (h:wpAny M A (PySem.call f as) Q (λU U=>False) s):
  bf M A (.call f ⟨as,[]⟩) (λr s'=>∃v,r=.ok (.ret v)/\Q v s') s:=by
 intro Γ p OE;have J:=h Γ p OE;unfold PySem.call runValue run at J;rw[Sem.wp_bind'] at J;rw[Sem.wp_call] at J|-;refine wpCode_mono (λr s' x=>?_) J;rw[Sem.wp_pure];cases r with
 |error e=>rw[Sem.wp_raise] at x;exact x.elim
 |ok f=>
  cases f with
  |ret v=>exact⟨v,rfl,x⟩
  |_=>exact x.elim
def gL.ok (M:Model) (A:Around) (c:Code) (s:Shared):gL->Prop
 |.gen out=>bf M A c (λr J=>∃ρ,r=(out ρ).r/\cJ s J ρ (out ρ)) s
 |.pure dt r=>bf M A c (λr' J=>r'=r s.toks/\J={s with toks:=s.toks+dt}) s
def Iv (v:V) (w:World):Prop:=∀n c lk J,v.hk n c lk=some J->(∀p∈J.ps,p.1=p.2)->∀A s,A.handled=none->A.depth<=v.dh->A.units<=10*v.dh->
 (∀(a:Nat) o,v.kt.get a=some o->s.heap.get? a=some o)->158<=s.heap.objs.size->1<=s.toks->(∀q∈J.req,s.heap.get? q.2.1=some q.2.2)->
 J.kind.ok (model v.prog w) A c s
structure Cx where
 v:V
 w:World
 A:Around
 B:Sem Fin->Shared->Prop
 R:Result->Shared->Prop
 Fn:Kd->Shared->Prop
 s₀:Shared
 A0:List Nat
structure Cx.Ok (X:Cx):Prop where
 params:X.v.params=X.w.params
 hd:X.A.handled=none
 dp:X.A.depth<=X.v.d₀
 un:X.A.units<=10*X.v.d₀
 dh:X.v.dh<=950
 bind:∀{α:Type} (m:Sem α) (k:α->Sem Fin) (s:Shared),wpAny (model X.v.prog X.w) X.A m (λa s'=>X.B (k a) s') (λU U=>False) s->X.B (m.bind k) s
 finF:∀f s,X.Fn (.fin f) s->X.B (.pure f) s
 finE:∀e s,X.Fn (.raise e) s->X.B (.raise e) s
 finY:∀y l k s,X.Fn (.yield y l k) s->X.B (.yield y false l k) s
 finC:∀c c' gd l k s,X.Fn (.call false c c' gd l k) s->X.B (.call c' none gd l k) s
 topC:∀c c' gd l k s,X.Fn (.call true c c' gd l k) s->wpAny (model X.v.prog X.w) (X.A.under c) (.call c' none gd l k)
  (λfin s'=>match fin with|.done f=>X.R (.ok f) s'|.again c'=>c'.quiet=true/\codeAny (model X.v.prog X.w) X.A c' X.R s') (λe s'=>X.R (.error e) s') s
 topR:∀r s,X.Fn (.ret r) s->X.R r s
 topA:∀c s,X.Fn (.again c) s->c.quiet=true/\codeAny (model X.v.prog X.w) X.A c X.R s
 low:∀(a:Nat) o,X.v.kt.get a=some o->a<158/\a≠78
 A0:∀(a:Nat),a∈X.A0->158<=a\/a=78
 n0:158<=X.s₀.heap.objs.size
 t0:1<=X.s₀.toks
 hk:Iv X.v X.w
structure fV (X:Cx) (E:TT ad) (m n t g:Nat) (ng:List (Nat×Code)) (s:Shared):Prop where
 size:s.heap.objs.size=n
 toks:s.toks=t
 gens:s.gens.size=g
 drawn:ij s=ij X.s₀
 os:s.os=X.s₀.os
 top:∀(a:Nat) o,X.v.kt.get a=some o->s.heap.get? a=some o
 lt:∀i e,E.get i=some e->i<m
 ent:∀i e,E.get i=some e->s.heap.get? e.a=some e.o
 adr:∀i e,E.get i=some e->e.a∈X.A0\/X.s₀.heap.objs.size<=e.a
 sep:∀i j e f,E.get i=some e->E.get j=some f->i≠j->e.a≠f.a
 keep:∀(a:Nat) o,X.s₀.heap.get? a=some o->a∉X.A0->s.heap.get? a=some o
 gkeep:∀(k:Nat) (x:GenState),X.s₀.gens[k]? =some x->s.gens[k]? =some x
 gnew:∀p∈ng,s.gens[p.1]? =some (.fresh p.2)
 more:X.s₀.heap.objs.size<=n
 tmore:X.s₀.toks<=t
 gnum:∀p∈ng,X.s₀.gens.size<=p.1
section
variable {X:Cx} (O:X.Ok)
theorem fV.high (O:X.Ok) {E:TT ad} {m n t g:Nat} {ng:List (Nat×Code)} {s:Shared} (D:fV X E m n t g ng s) {i:Nat} {e:ad} (h:E.get i=some e):158<=e.a\/e.a=78:=by
 rcases D.adr i e h with h|h
 .exact O.A0 _ h
 .exact .inl (bC O.n0 h)
theorem fV.alloc (_O:X.Ok) {E:TT ad} {m b j t g:Nat} {ng:List (Nat×Code)} {h:Heap} {G:Array GenState} {d:Drawn} {T:Nat} {os:OsState} (D:fV X E m (b+j) t g ng ⟨h,G,d,T,os⟩) {o:Obj} (hf:o.isFreed=false):
  fV X (E.put m ⟨b+j,o⟩) (m+1) (b+(j+1)) t g ng ⟨h.push o,G,d,T,os⟩:=by
 have hs:h.objs.size=b+j:=D.size;have OG:∀{a o},h.get? a=some o->a<b+j:=λe=>hs▸fv e;refine⟨by show(h.push o).objs.size=_;rw[k8,hs];rfl,D.toks,D.gens,D.drawn,D.os,λa x e=>ju _ (D.top a x e),λi e J=>?_,λi e J=>?_,λi e J=>?_,λi j' e f J OE OF=>?_,λa x e q=>ju _ (D.keep a x e q),D.gkeep,D.gnew,by have:=D.more;exact(au this),D.tmore,D.gnum⟩
 .rcases TT.get_put _ _ _ _ _ J with⟨rfl,_⟩|⟨_,J⟩
  .exact bg _
  .have:=D.lt i e J;exact j4 this
 .rcases TT.get_put _ _ _ _ _ J with⟨rfl,rfl⟩|⟨_,J⟩
  .show(h.push o).get? (b+j)=some o;rw[<-hs];exact Heap.get?_push_size _ hf
  .exact ju _ (D.ent i e J)
 .rcases TT.get_put _ _ _ _ _ J with⟨rfl,rfl⟩|⟨_,J⟩
  .exact .inr D.more
  .exact D.adr i e J
 .have P:=TT.get_put _ _ _ _ _ J;have Q:=TT.get_put _ _ _ _ _ OE;clear J OE;rcases P with⟨rfl,rfl⟩|⟨hi,h1⟩<;>rcases Q with⟨rfl,rfl⟩|⟨hj,h2⟩
  .exact bh rfl OF
  .have:=OG (D.ent _ _ h2);exact ka this
  .have:=OG (D.ent _ _ h1);exact ld this
  .exact D.sep _ _ _ _ h1 h2 OF
theorem fV.update (O:X.Ok) {E:TT ad} {m n t g:Nat} {ng:List (Nat×Code)} {h:Heap} {G:Array GenState} {d:Drawn} {T:Nat} {os:OsState} (D:fV X E m n t g ng ⟨h,G,d,T,os⟩) {x:Nat} {e:ad} {f:Obj->Obj} (he:E.get x=some e) (hf:(f e.o).isFreed=false):
  fV X (E.put x ⟨e.a,f e.o⟩) m n t g ng ⟨h.update e.a f,G,d,T,os⟩:=by
 have hs:Heap.SameBut e.a h (h.update e.a f):=Heap.SameBut.update ..;have hi:=fV.high O D he;have ho:h.get? e.a=some e.o:=D.ent x e he;refine⟨by show(h.update e.a f).objs.size=_;rw[hs.1];exact D.size,D.toks,D.gens,D.drawn,D.os,λa y q=>?_,λi e' J=>?_,λi e' J=>?_,λi e' J=>?_,λi j e' f' J OF OE=>?_,λa y q z=>?_,D.gkeep,D.gnew,D.more,D.tmore,D.gnum⟩
 .have:=O.low a y q;exact(hs.2 a (λz=>by have z':(a:Nat)=e.a:=z;lia)).trans (D.top a y q)
 .rcases TT.get_put _ _ _ _ _ J with⟨rfl,_⟩|⟨_,J⟩
  .exact D.lt _ _ he
  .exact D.lt i e' J
 .rcases TT.get_put _ _ _ _ _ J with⟨rfl,rfl⟩|⟨OG,J⟩
  .exact Heap.get?_update_self _ ho hf
  .exact(hs.2 _ (D.sep _ _ _ _ J he OG)).trans (D.ent i e' J)
 .rcases TT.get_put _ _ _ _ _ J with⟨rfl,rfl⟩|⟨_,J⟩
  .exact D.adr _ e he
  .exact D.adr i e' J
 .have P:=TT.get_put _ _ _ _ _ J;have Q:=TT.get_put _ _ _ _ _ OF;clear J OF;rcases P with⟨rfl,rfl⟩|⟨_,h1⟩<;>rcases Q with⟨rfl,rfl⟩|⟨_,h2⟩
  .exact bh rfl OE
  .exact D.sep _ _ e _ he h2 OE
  .exact D.sep _ _ _ e h1 he OE
  .exact D.sep _ _ _ _ h1 h2 OE
 .refine(hs.2 a λw=>?_).trans (D.keep a y q z);subst w;rcases D.adr x e he with w|w
  .exact z w
  .have q':(e.a:Nat)<X.s₀.heap.objs.size:=fv q;exact lf (ax w q')
end
set_option tactic.hygienic true in
theorem ye:∀{q L L'},jx q E L=some L'->(∀p∈L'.ob,p.1=p.2)->(∀p∈L'.oo,p.1=p.2)->∀x∈q,∃e,E.get x.1=some e/\x.2.1=e.a/\x.2.2=e.o
 |[],_,_,_,_,_,_,hx=>nomatch hx
 |q::r,L,L',h,g1,g2,x,hx=>by
  dsimp only[jx] at h;split at h
  .rename_i e he;rcases aY.mp hx with rfl|hx
   .have J:=qe h;exact⟨e,he,g1 (x.2.1,e.a) (J.1 _ aJ),g2 (x.2.2,e.o) (J.2.1 _ aJ)⟩
   .exact ye h g1 g2 x hx
  .cases h
structure yf (X:Cx) (E:TT ad) (m:Nat) (left:List Nat) (s':Shared):Prop where
 lt:∀i e,E.get i=some e->i<m
 ent:∀i e,E.get i=some e->e.a∉left->s'.heap.get? e.a=some e.o
 adr:∀i e,E.get i=some e->e.a∈X.A0\/X.s₀.heap.objs.size<=e.a
 sep:∀i j e f,E.get i=some e->E.get j=some f->i≠j->e.a≠f.a
set_option tactic.hygienic true in
theorem yg {X m s'}:∀{q} {E L E' L'},iH q E L=some (E',L')->(∀p∈L'.ob,p.1=p.2)->(∀x∈q,s'.heap.get? x.2.1=some x.2.2)->yf X E m (q.map (·.2.1)) s'->
  yf X E' m [] s'/\(∀x∈q,x.2.1∈X.A0\/X.s₀.heap.objs.size<=x.2.1)/\∀a,(∀i e,E.get i=some e->e.a≠a)->∀i e,E'.get i=some e->e.a≠a
 |[],_,_,_,_,h,_,_,D=>by cases h;exact⟨D,λU hx=>(nomatch hx),λU h=>h⟩
 |q::r,E,L,E',L',h,g,hs,D=>by
  dsimp only[iH] at h;split at h
  .rename_i e he;have hq:q.2.1=e.a:=g (q.2.1,e.a) ((qf h).1 _ aJ);have D':yf X (E.put q.1 ⟨e.a,q.2.2⟩) m (r.map (·.2.1)) s':=by
    refine⟨λi e' J=>?_,λi e' J hn=>?_,λi e' J=>?_,λi j e' f' J OF OE=>?_⟩
    .rcases TT.get_put _ _ _ _ _ J with⟨rfl,_⟩|⟨_,J⟩
     .exact D.lt _ _ he
     .exact D.lt _ _ J
    .rcases TT.get_put _ _ _ _ _ J with⟨rfl,rfl⟩|⟨hi,J⟩
     .show s'.heap.get? e.a=some q.2.2;rw[<-hq];exact hs q aJ
     .refine D.ent i e' J λhm=>?_;rw[de] at hm;rcases aY.mp hm with w|w
      .exact D.sep _ _ _ _ J he hi (w.trans hq)
      .exact hn w
    .rcases TT.get_put _ _ _ _ _ J with⟨rfl,rfl⟩|⟨_,J⟩
     .exact D.adr _ e he
     .exact D.adr _ _ J
    .have P:=TT.get_put _ _ _ _ _ J;have Q:=TT.get_put _ _ _ _ _ OF;clear J OF;rcases P with⟨rfl,rfl⟩|⟨_,h1⟩<;>rcases Q with⟨rfl,rfl⟩|⟨_,h2⟩
     .exact bh rfl OE
     .exact D.sep _ _ e _ he h2 OE
     .exact D.sep _ _ _ e h1 he OE
     .exact D.sep _ _ _ _ h1 h2 OE
   have z:=yg h g (λx hx=>hs x (.tail _ hx)) D';refine⟨z.1,λx hx=>?_,λa ha=>z.2.2 a λi e' J=>?_⟩
   .rcases aY.mp hx with rfl|hx
    .rw[hq];exact D.adr _ e he
    .exact z.2.1 x hx
   .rcases TT.get_put _ _ _ _ _ J with⟨rfl,rfl⟩|⟨_,J⟩
    .exact ha _ e he
    .exact ha _ _ J
  .cases h
theorem yh {X s' n} (hn:X.s₀.heap.objs.size<=n):∀{q} {E m E' m'},jy q E m=(E',m')->(∀e∈q,s'.heap.get? e.a=some e.o/\n<=e.a)->q.Pairwise (λe f=>e.a≠f.a)->yf X E m [] s'->(∀i e,E.get i=some e->∀f∈q,e.a≠f.a)->yf X E' m' [] s'
 |[],_,_,_,_,h,_,_,D,_=>by cases h;exact D
 |e::r,E,m,E',m',h,hs,hp,D,ha=>by
  dsimp only[jy] at h;have OG:=lP.mp hp;refine yh hn h (λf hf=>hs f (.tail _ hf)) OG.2 ?_ λi e' J f hf=>?_
  .refine⟨λi e' J=>?_,λi e' J U=>?_,λi e' J=>?_,λi j e' f' J OE OF=>?_⟩
   .rcases TT.get_put _ _ _ _ _ J with⟨rfl,_⟩|⟨_,J⟩
    .exact bg _
    .have:=D.lt _ _ J;exact j4 this
   .rcases TT.get_put _ _ _ _ _ J with⟨rfl,rfl⟩|⟨_,J⟩
    .exact(hs _ aJ).1
    .exact D.ent _ _ J (λx=>nomatch x)
   .rcases TT.get_put _ _ _ _ _ J with⟨rfl,rfl⟩|⟨_,J⟩
    .exact .inr (bC hn (hs _ aJ).2)
    .exact D.adr _ _ J
   .have P:=TT.get_put _ _ _ _ _ J;have Q:=TT.get_put _ _ _ _ _ OE;clear J OE;rcases P with⟨rfl,rfl⟩|⟨_,h1⟩<;>rcases Q with⟨rfl,rfl⟩|⟨_,h2⟩
    .exact bh rfl OF
    .exact Ne.symm (ha _ _ h2 _ aJ)
    .exact ha _ _ h1 _ aJ
    .exact D.sep _ _ _ _ h1 h2 OF
  .rcases TT.get_put _ _ _ _ _ J with⟨rfl,rfl⟩|⟨_,J⟩
   .exact OG.1 f hf
   .exact ha _ _ J f (.tail _ hf)
def dS (X:Cx):Kt->Code->Around
 |.base,_=>X.A
 |.top,c=>X.A.under c
 |.ret _ J _ κ,c=>(dS X κ J).under c
def Wf:Kt->Code->Prop
 |.base,_=>True
 |.top,c=>bq c
 |.ret l J _ κ,c=>l=κ.lv+1/\bq c/\Wf κ J
def d7 (X:Cx):Kt->Code->Sem Fin->Shared->Prop
 |.base,_,t,s=>X.B t s
 |.top,c,t,s=>wpAny (model X.v.prog X.w) (X.A.under c) t
   (λOE J=>match OE with|.done f=>X.R (.ok f) J|.again c'=>c'.quiet=true/\codeAny (model X.v.prog X.w) X.A c' X.R J) (λe J=>X.R (.error e) J) s
 |.ret _ cp k κ,c,t,s=>wpAny (model X.v.prog X.w) ((dS X κ cp).under c) t
   (λOE J=>match OE with|.done f=>d7 X κ cp (k (.ok f)) J|.again c'=>c'.quiet=true/\codeAny (model X.v.prog X.w) (dS X κ cp) c' (λr OF=>d7 X κ cp (k r) OF) J)
   (λe J=>d7 X κ cp (k (.error e)) J) s
section
variable {X:Cx} (O:X.Ok)
include O
theorem lX:∀κ c,Wf κ c->(dS X κ c).handled=none/\(dS X κ c).depth<=X.v.d₀+5*κ.lv/\(dS X κ c).units<=10*X.v.d₀+50*κ.lv
 |.base,_,_=>⟨O.hd,by have:=O.dp;simp only[dS,Kt.lv];assumption,by have:=O.un;simp only[dS,Kt.lv];assumption⟩
 |.top,c,h=>⟨O.hd,by have:=O.dp;have:=h.1;simp only[dS,Kt.lv,Around.under];lia,by have:=O.un;have:=h.2;simp only[dS,Kt.lv,Around.under];lia⟩
 |.ret l J k κ,c,h=>by
  obtain⟨rfl,hl,hw⟩:=h;obtain⟨a1,a2,a3⟩:=lX κ J hw;have h1:=hl.1;have h2:=hl.2;refine⟨a1,?_,?_⟩
  .show(dS X κ J).depth+c.weight<=X.v.d₀+5*(κ.lv+1);exact au (ax a2 h1)
  .show(dS X κ J).units+c.cUnits<=10*X.v.d₀+50*(κ.lv+1);exact au (ax a3 h2)
theorem c7 {α:Type} (m:Sem α) (k:α->Sem Fin) (κ c s)
  (h:wpAny (model X.v.prog X.w) (dS X κ c) m (λa J=>d7 X κ c (k a) J) (λU U=>False) s):d7 X κ c (m.bind k) s:=by
 cases κ with
 |base=>exact O.bind m k s h
 |top=>exact ao (dR h (λU U x=>x) λU U x=>x.elim)
 |ret l cp k' κ=>exact ao (dR h (λU U x=>x) λU U x=>x.elim)
theorem oK {κ c s} (hw:Wf κ c) (hb:κ≠ .base) (hl:X.v.d₀+5*κ.lv<1000) (h:d7 X κ c (aM c) s):d7 X κ c (denote table c) s:=by
 have hd:=(lX O κ c hw).2.1;cases κ with
 |base=>exact bh rfl hb
 |top=>exact rS (show(X.A.under c).depth<1000 from Nat.lt_of_le_of_lt hd hl) h
 |ret l J k κ=>exact rS (show((dS X κ J).under c).depth<1000 from Nat.lt_of_le_of_lt hd hl) h
theorem zc {κ cp c k gd l s} (h:codeAny (model X.v.prog X.w) (dS X κ cp) c (λr J=>d7 X κ cp (k r) J) s):d7 X κ cp (.call c none gd l k) s:=by
 refine c7 O (.call c none gd l .pure) k κ cp s (x_call ?_ (λe=>by cases e));have e:(dS X κ cp).mark none=dS X κ cp:=rfl;rw[e];exact eG h λr J x=>aH x
theorem qH {κ cp c k gd l s} (h:bf (model X.v.prog X.w) (dS X κ cp) c (λr s'=>d7 X κ cp (k r) s') s):d7 X κ cp (.call c none gd l k) s:=
 c7 O (.call c none gd l .pure) k κ cp s (λΓ p J=>h Γ p J)
theorem Dp {c s} (h:d7 X .top c (denote table c) s):codeAny (model X.v.prog X.w) X.A c X.R s:=x_code (dR h (λJ s' x=>by cases J<;>exact x) λU U x=>x)
theorem vC {l κ cp c k s} (h:d7 X (.ret l cp k κ) c (denote table c) s):codeAny (model X.v.prog X.w) (dS X κ cp) c (λr s'=>d7 X κ cp (k r) s') s:=
 x_code (dR h (λJ s' x=>by cases J<;>exact x) λU U x=>x)
end
def jz (X:Cx):gt->Prop
 |.done L J E m n t g=>L.good/\∀s,fV X E m n t g L.ng s->X.Fn J s
 |_=>False
theorem jz.log {X R} (G:lV R) {orc E m b j tb i gb gj L} (h:jz X (R orc E m b j tb i gb gj L)):L.good:=by
 cases e:R orc E m b j tb i gb gj L with
 |done L' J E' m' n t g=>rw[e] at h;exact h.1.of_le (G _ _ _ _ _ _ _ _ _ _ _ _ _ _ _ _ _ e)
 |_=>rw[e] at h;exact h.elim
def rT (X:Cx) (ih:km):Prop:=∀nh c κ t orc E m b j J i gb gj (L:cN) s,Wf κ c->X.v.d₀+5*κ.lv<1000->(∀rs,rs.length=nh->jz X (ih c κ t orc E m b j J i gb gj {L with rs:=rs}))->1<=J->
 fV X E m (b+j) (J+i) (gb+gj) L.ng s->d7 X κ c t s
theorem kJ (nh:Nat):∃rs:List HR,rs.length=nh:=⟨List.replicate nh ⟨0,0,0,0,0,0⟩,List.length_replicate⟩
section
variable {X:Cx} (O:X.Ok) {ih:km} (IH:rT X ih) (G:∀c κ t,lV (ih c κ t))
include O IH
theorem rU (nh:Nat) {c:Code} {κ:Kt} {r:Result} {fin:Kd} {t:Sem Fin} {orc E m b j tb i gb gj} {L:cN} {s:Shared} (hw:Wf κ c) (hl:X.v.d₀+5*κ.lv<1000)
  (H:∀rs,rs.length=nh->jz X (y9 ih r fin κ orc E m b j tb i gb gj {L with rs:=rs})) (ht:1<=tb) (D:fV X E m (b+j) (tb+i) (gb+gj) L.ng s)
  (hb:∀s,X.Fn fin s->X.B t s) (ht':t=leafOf r):d7 X κ c t s:=by
 cases κ with
 |base=>
  obtain⟨rs,hrs⟩:=kJ nh;exact hb _ ((H rs hrs).2 s D)
 |top=>
  obtain⟨rs,hrs⟩:=kJ nh;have z:=O.topR _ _ ((H rs hrs).2 s D);subst ht';cases r with
  |ok f=>exact aH z
  |error e=>exact wpAny_throw z
 |ret l cp k κ=>
  have hl':X.v.d₀+5*κ.lv<1000:=by have:=hw.1;have e:(Kt.ret l cp k κ).lv=l:=rfl;rw[e] at hl;lia
  have z:=IH nh cp κ (k r) orc E m b j tb i gb gj L s hw.2.2 hl' H ht D;subst ht';cases r with
  |ok f=>exact aH z
  |error e=>exact wpAny_throw z
end
theorem Bo {a b:Nat} (h:Nat.ble a b=true):a<=b:=uC h
section
variable {X:Cx} (O:X.Ok) {ih:km} (IH:rT X ih) (G:∀c κ t,lV (ih c κ t))
set_option tactic.hygienic true in
theorem yi:∀{E m n t g ng s} (D:fV X E m n t g ng s) {x e} (h:tI X.v E x=some e),s.heap.get? e.a=some e.o:=by
 revert X;ext X E m n t g ng s:0;intro D;ext x e:0;intro h;unfold tI at h;split at h
 .split at h
  .rename_i o J;cases h;exact D.top _ _ J
  .cases h
 .exact D.ent _ _ h
include O IH G
set_option tactic.hygienic true in
theorem zd:∀(nh:Nat) {n:Nat} {c c':Code} {κ:Kt} {k:Result->Sem Fin} {gd:Bool} {l:List Value} {sp:kj} {orc:Nat} {E:TT ad} {m b j tb i gb gj:Nat} (OT:X.v.hk n c' E.get=some sp) {L:cN} {s:Shared} (hw:Wf κ c) (hl:X.v.d₀+5*κ.lv<1000)
  (H:∀rs,rs.length=nh->jz X (lU X.v ih c κ k sp orc E m b j tb i gb gj {L with rs:=rs})) (ht:1<=tb) (D:fV X E m (b+j) (tb+i) (gb+gj) L.ng s),d7 X κ c (.call c' none gd l k) s:=by
 revert X ih;ext X:0;intro O;ext ih:0;intro IH G;ext nh n c c' κ k gd l sp orc E m:0;ext b j tb i gb gj:0;intro OT;ext L s:0;intro hw hl H ht D;obtain⟨OH,OG⟩:=kJ nh;ext OH ⟨OG⟩;have J:=H OH OG;dsimp only[lU] at J;split at J
 .exact J.elim
 rename_i hb;have gen:∀(rs OU:List HR) (q:List (Nat×Nat×Obj)) (M:cN),jx q E {M with rs:=rs}=(jx q E {M with rs:=OU}).map λl=>{l with rs:=rs}:=by
  intro rs OU q;induction q with
  |nil=>intro M;rfl
  |cons x r hr=>
   intro M;simp only[jx];cases E.get x.1 with
   |none=>rfl
   |some e=>exact hr {M with ob:=(x.2.1,e.a)::M.ob,oo:=(x.2.2,e.o)::M.oo}
 have OP:∀(rs:List HR) (q:List (Nat×Nat×Obj)) (F:TT ad) (M:cN),iH q F {M with rs:=rs}=(iH q F M).map λl=>(l.1,{l.2 with rs:=rs}):=by
  intro rs q;induction q with
  |nil=>intro F M;rfl
  |cons x r hr=>
   intro F M;simp only[iH];cases F.get x.1 with
   |none=>rfl
   |some e=>exact hr _ {M with ob:=(x.2.1,e.a)::M.ob}
 have O2:∀(q:List (Nat×Nat×Obj)) (F:TT ad) (M:cN) (N:cN),jx q F M=some N->N.ng=M.ng/\N.rs=M.rs:=by
  intro q;induction q with
  |nil=>intro F M N h;cases h;exact⟨rfl,rfl⟩
  |cons x r hr=>
   intro F M N h;simp only[jx] at h;split at h
   .have z:=hr _ _ _ h;exact⟨z.1,z.2⟩
   .cases h
 have O3:∀(q:List (Nat×Nat×Obj)) (F:TT ad) (M:cN) (F':TT ad) (N:cN),iH q F M=some (F',N)->N.ng=M.ng:=by
  intro q;induction q with
  |nil=>intro F M F' N h;cases h;rfl
  |cons x r hr=>intro F M F' N h;simp only[iH] at h;split at h;exact(hr _ _ _ _ h).trans rfl;cases h
 cases h1:jx sp.req E {ob:=L.ob,oo:=L.oo,ps:=sp.ps++L.ps,rs:=OH,ng:=L.ng} with
 |none=>simp only[h1] at J;exact J.elim
 |some L1=>
 ext L1 ⟨h1⟩;simp only[h1] at J;have OO:=O2 _ _ _ _ h1;have OJ:∀rs,jx sp.req E {ob:=L.ob,oo:=L.oo,ps:=sp.ps++L.ps,rs:=rs,ng:=L.ng}=some {L1 with rs:=rs}:=λrs=>by
  have:=gen rs OH sp.req {ob:=L.ob,oo:=L.oo,ps:=sp.ps++L.ps,rs:=OH,ng:=L.ng};rw[h1] at this;exact this
 have ar:=lX O κ c hw;have OW:=Bo hb;have OE:L1.good:=by
  split at J
  .exact jz.log (G _ _ _) J
  .split at J
   .exact J.elim
   .rename_i ρ rs _;split at J
    .exact J.elim
    .rename_i EL h2;exact(jz.log (G _ _ _) J).of_le (cN.le.trans (L':={L1 with rs:=rs}) ⟨λU x=>x,λU x=>x,λU x=>x⟩ (qf (show iH _ _ _=some (EL.1,EL.2) from h2)))
 have OY:∀p∈sp.ps,p.1=p.2:=λp hp=>OE.2.2 p ((qe h1).2.2 p (gO _ hp));have OS:∀q∈sp.req,s.heap.get? q.2.1=some q.2.2:=λq hq=>by
  obtain⟨e,he,ea,eo⟩:=ye h1 OE.1 OE.2.1 q hq;rw[ea,eo];exact D.ent _ _ he
 have ok:=O.hk n c' _ sp OT OY _ s ar.1 (bC ar.2.1 OW) (by have:=ar.2.2;lia) D.top (by have:=D.size;have:=D.more;have:=O.n0;lia) (by have:=D.toks;exact(au (ax ht (ii this)))) OS;cases hk:sp.kind with
 |pure dt r=>
  rw[hk] at ok;refine qH O (bf.mono ok ?_);rintro r' s' ⟨rfl,rfl⟩;have O0:s.toks=tb+i:=D.toks;rw[O0];refine IH nh c κ _ orc E m b j tb (i+dt) gb gj L1 _ hw hl (λrs OF=>?_) ht ⟨D.size,by show tb+i+dt=_;simp+arith,D.gens,D.drawn,D.os,D.top,D.lt,D.ent,D.adr,D.sep,D.keep,D.gkeep,by rw[OO.1];exact D.gnew,D.more,by have:=D.tmore;exact(au this),by rw[OO.1];exact D.gnum⟩;have h:=H rs OF;dsimp only[lU] at h;simp only[hb,OJ rs,hk] at h;exact h
 |gen out=>
  ext out ⟨hk⟩;rw[hk] at ok;refine qH O (bf.mono ok ?_);rintro r s' ⟨ρ,rfl,K⟩;ext s' ρ ⟨K⟩;cases nh with
  |zero=>
   exfalso;have h:=H [] rfl;dsimp only[lU] at h;simp only[hb,OJ [],hk] at h;exact h
  |succ nh=>
   ext nh ⟨H,OG⟩;have rest:=λ(rs:List HR) (OF:rs.length=nh)=>H (ρ::rs) (by rw[fu,OF]);obtain⟨OI,OL⟩:=kJ nh;ext OI ⟨OL⟩;have h3:=rest OI OL;dsimp only[lU] at h3;simp only[hb,OJ,hk] at h3;cases h2:iH (out ρ).sets E {L1 with rs:=OI} with
   |none=>simp only[h2] at h3;exact h3.elim
   |some EL=>
   ext EL ⟨h2⟩;simp only[h2] at h3;have ON:iH (out ρ).sets E {L1 with rs:=OI}=some (EL.1,EL.2):=h2;have OM:EL.2.good:=jz.log (G _ _ _) h3;refine IH nh c κ _ orc (jy (out ρ).news EL.1 m).1 (jy (out ρ).news EL.1 m).2 (ρ.n+158) 0 (ρ.t+1) 0 ρ.g 0 EL.2 s' hw hl (λrs OF=>?_) (Nat.succ_le_succ (iU _)) ?_
   .have h4:=rest rs OF;dsimp only[lU] at h4;simp only[hb,OJ,hk] at h4;have e2:=OP rs (out ρ).sets E {L1 with rs:=OI};rw[ON] at e2;simp only at e2;simp only[e2,Option.map_some] at h4;exact h4
   .have OR:EL.2.ng=L.ng:=(O3 _ _ _ _ _ ON).trans OO.1;have D0:yf X E m ((out ρ).sets.map (·.2.1)) s':=by
     refine⟨D.lt,λi e he hn=>K.keep _ _ (D.ent i e he) λq hq z=>hn ?_,D.adr,D.sep⟩;rw[<-z];exact jv (f:=λq:Nat×Nat×Obj=>q.2.1) hq
    obtain⟨D1,OK,OV⟩:=yg ON OM.1 K.sets D0;have OQ:∀e∈(out ρ).news,s'.heap.get? e.a=some e.o/\b+j<=e.a:=λe he=>by
     have:=K.news e he;have q:=D.size;exact⟨this.1,by exact(au (ax this.2 (ii q)))⟩
    have D2:=yh (X:=X) D.more (show jy (out ρ).news EL.1 m=_ from rfl) OQ K.apart D1 (λi e he f hf z=>by
     have h5:=OV f.a (λi' e' OX z'=>by
      have a5:(e'.a:Nat)<s.heap.objs.size:=fv (D.ent _ _ OX);have:=(K.news f hf).2;exact(lf (ax (ii z') (ax a5 this)))) i e he
     exact h5 z)
    have OZ:b+j<=ρ.n+158:=by have:=K.size;have:=K.more;have:=D.size;lia
    refine⟨K.size,K.toks,K.gens,K.drawn.trans D.drawn,K.os.trans D.os,λa o ha=>K.keep a o (D.top a o ha) λq hq z=>?_,D2.lt,λi e he=>D2.ent i e he (λx=>nomatch x),D2.adr,D2.sep,λa o ha hn=>K.keep a o (D.keep a o ha hn) λq hq z=>?_,λk x hx=>K.gkeep k x (D.gkeep k x hx),λp hp=>K.gkeep _ _ (D.gnew p (OR▸hp)),bC D.more OZ,?_,λp hp=>D.gnum p (OR▸hp)⟩
    .have h6:=O.low a o ha;have n0:=O.n0;rcases OK q hq with w|w
     .have:=O.A0 _ w;lia
     .lia
    .rcases OK q hq with w|w
     .exact hn (z▸w)
     .have a5:(a:Nat)<X.s₀.heap.objs.size:=fv ha;exact lf (ax (fk z) (ax w a5))
    .have:=K.tmore;have:=K.toks;have:=D.toks;have:=D.tmore;lia
theorem ze:rT X (dx X.v aM qt uD ih):=by
 ext X ih ⟨O,IH,G⟩;intro nh c κ t orc E m b j tb i gb gj L s hw hl H ht D;revert hw hl H ht D;ext nh c κ t orc E m b j tb i gb ⟨gj,L,s⟩;ext gj L s;intro hw hl H ht D;have OE:=kJ nh;obtain⟨h,gs,d,tk,os⟩:=s;ext h gs d tk os ⟨D⟩;cases t with
 |pure OH=>
  cases OH with
  |done f=>exact rU O IH nh hw hl H ht D (λs x=>O.finF _ _ x) rfl
  |again c'=>
   ext c' ⟨H⟩;cases κ with
   |base=>
    obtain⟨rs,J⟩:=OE;exact O.finF _ _ ((H rs J).2 _ D)
   |top=>
    simp only[dx] at H;cases hq:Nat.beq (orc%1024) 0 with
    |false=>
     simp only[hq] at H;obtain⟨rs,J⟩:=OE;exact aH (O.topA _ _ ((H rs J).2 _ D))
    |true=>
     simp only[hq] at H;cases hq':qt c' with
     |false=>simp only[hq'] at H;obtain⟨rs,J⟩:=OE;exact(H rs J).elim
     |true=>
      simp only[hq'] at H;cases h5:uD c' with
      |false=>simp only[h5] at H;obtain⟨rs,J⟩:=OE;exact(H rs J).elim
      |true=>
       simp only[h5] at H;have OF:Wf .top c':=ba h5;exact aH ⟨qZ hq',Dp O (oK O OF (λe=>nomatch e) hl (IH nh _ _ _ _ _ _ _ _ _ _ _ _ _ _ OF hl H ht D))⟩
   |ret l cp k κ=>
    ext l cp k κ ⟨hw,hl,H⟩;simp only[dx] at H;cases hq':qt c' with
    |false=>simp only[hq'] at H;obtain⟨rs,J⟩:=OE;exact(H rs J).elim
    |true=>
     simp only[hq'] at H;cases h5:uD c' with
     |false=>simp only[h5] at H;obtain⟨rs,J⟩:=OE;exact(H rs J).elim
     |true=>
      simp only[h5] at H;have OF:Wf (.ret l cp k κ) c':=⟨hw.1,ba h5,hw.2.2⟩;exact aH ⟨qZ hq',vC O (oK O OF (λe=>nomatch e) hl (IH nh _ _ _ _ _ _ _ _ _ _ _ _ _ _ OF hl H ht D))⟩
 |raise e=>exact rU O IH nh hw hl H ht D (λs x=>O.finE _ _ x) rfl
 |rule OL k=>exact c7 O (rule OL) k κ c _ (wpAny_rule (IH nh _ _ _ _ _ _ _ _ _ _ _ _ _ _ hw hl H ht D))
 |«at» p k=>exact c7 O (standAt p) k κ c _ (wpAny_standAt (IH nh _ _ _ _ _ _ _ _ _ _ _ _ _ _ hw hl H ht D))
 |point l k=>exact c7 O (.point l .pure) k κ c _ (x_point (aH (IH nh _ _ _ _ _ _ _ _ _ _ _ _ _ _ hw hl H ht D)))
 |ask k=>
  simp only[dx,O.params] at H;exact c7 O ask k κ c _ (wpAny_askSetting (IH nh _ _ _ _ _ _ _ _ _ _ _ _ _ _ hw hl H ht D))
 |load a p k=>
  simp only[dx] at H;cases hk:tI X.v E (orc%1024) with
  |none=>simp only[hk] at H;obtain⟨rs,J⟩:=OE;exact(H rs J).elim
  |some e=>
   simp only[hk] at H;have ea:a=e.a:=by
    obtain⟨rs,J⟩:=OE;exact(jz.log (G _ _ _) (H rs J)).1 (a,e.a) aJ
   have ho:=yi D hk;subst ea;exact c7 O (loadPart e.a p) k κ c _ (wpAny_loadPart ho (IH nh _ _ _ _ _ _ _ _ _ _ _ _ (L.at e.a e.a) _ hw hl H ht D))
 |loadIfAlive a k=>
  simp only[dx] at H;cases hk:tI X.v E (orc%1024) with
  |none=>simp only[hk] at H;obtain⟨rs,J⟩:=OE;exact(H rs J).elim
  |some e=>
   simp only[hk] at H;have ea:a=e.a:=by
    obtain⟨rs,J⟩:=OE;exact(jz.log (G _ _ _) (H rs J)).1 (a,e.a) aJ
   have ho:=yi D hk;subst ea;refine c7 O (loadIfAlive e.a) k κ c _ (λΓ p U=>?_);show d7 X κ c (k (h.get? e.a)) _;rw[show h.get? e.a=some e.o from ho];exact IH nh _ _ _ _ _ _ _ _ _ _ _ _ (L.at e.a e.a) _ hw hl H ht D
 |update a p f k=>
  ext a p f k ⟨H⟩;simp only[dx] at H;cases hk:E.get (orc%1024 - 160) with
  |none=>simp only[hk] at H;obtain⟨rs,J⟩:=OE;exact(H rs J).elim
  |some e=>
   ext e ⟨hk⟩;simp only[hk] at H;cases hf:(f e.o).isFreed with
   |true=>simp only[hf] at H;obtain⟨rs,J⟩:=OE;exact(H rs J).elim
   |false=>
    simp only[hf] at H;have ea:a=e.a:=by
     obtain⟨rs,J⟩:=OE;exact(jz.log (G _ _ _) (H rs J)).1 (a,e.a) aJ
    have ho:=D.ent _ _ hk;have D':=fV.update O D hk hf;subst ea;exact c7 O (updatePart e.a p f) k κ c _ (wpAny_updatePart ho (IH nh _ _ _ _ _ _ _ _ _ _ _ _ (L.at e.a e.a) _ hw hl H ht D'))
 |alloc o k=>
  ext o k ⟨H⟩;simp only[dx] at H;cases hf:o.isFreed with
  |true=>simp only[hf] at H;obtain⟨rs,J⟩:=OE;exact(H rs J).elim
  |false=>
   simp only[hf] at H;have hs:h.objs.size=b+j:=D.size;refine c7 O (alloc o) k κ c _ (wpAny_alloc ?_);show d7 X κ c (k h.objs.size) _;rw[hs];exact IH nh _ _ _ _ _ _ _ _ _ _ _ _ _ _ hw hl H ht (fV.alloc O D hf)
 |fresh k=>
  have OJ:tk=tb+i:=D.toks;subst OJ;refine c7 O fresh k κ c _ (wpAny_fresh ?_);exact IH nh _ _ _ _ _ _ _ _ _ (i+1) _ _ L _ hw hl H ht ⟨D.size,rfl,D.gens,D.drawn,D.os,D.top,D.lt,D.ent,D.adr,D.sep,D.keep,D.gkeep,D.gnew,D.more,by have q:X.s₀.toks<=tb+i:=D.tmore;show X.s₀.toks<=tb+(i+1);exact(au q),D.gnum⟩
 |handled OK k=>
  cases OK with
  |true=>obtain⟨rs,J⟩:=OE;exact(H rs J).elim
  |false=>
   refine c7 O handled k κ c _ (wpAny_handled ?_);rw[(lX O κ c hw).1];exact IH nh _ _ _ _ _ _ _ _ _ _ _ _ _ _ hw hl H ht D
 |newGen c' k=>
  have hg:gs.size=gb+gj:=D.gens;refine c7 O (newGen c') k κ c _ (wpAny_newGen ?_);show d7 X κ c (k gs.size) _;rw[hg];refine IH nh _ _ _ _ _ _ _ _ _ _ _ (gj+1) {L with ng:=(gb+gj,c')::L.ng} _ hw hl H ht ⟨D.size,D.toks,?_,(Do rfl).trans D.drawn,D.os,D.top,D.lt,D.ent,D.adr,D.sep,D.keep,λk x hx=>?_,λp hp=>?_,D.more,D.tmore,λp hp=>?_⟩
  .show(gs.push _).size=gb+(gj+1);rw[Array.size_push,hg];rfl
  .have z:=D.gkeep k x hx;show(gs.push _)[k]? =some x;rw[Array.getElem?_push,if_neg]
   .exact z
   .intro e;have:=(Array.getElem?_eq_some_iff.mp z).1;simp only at this;exact lf (ax (ii e) this)
  .show(gs.push _)[p.1]? =_;rcases aY.mp hp with rfl|hp
   .rw[Array.getElem?_push,if_pos hg.symm]
   .have z:=D.gnew p hp;rw[Array.getElem?_push,if_neg]
    .exact z
    .intro e;have:=(Array.getElem?_eq_some_iff.mp z).1;simp only at this;exact lf (ax (ii e) this)
  .rcases aY.mp hp with rfl|hp
   .show X.s₀.gens.size<=gb+gj;refine Nat.le_of_not_lt λOI=>?_;have hx:X.s₀.gens[gb+gj]? =some X.s₀.gens[gb+gj]:=Array.getElem?_eq_getElem OI;have z:=D.gkeep _ _ hx;have:=(Array.getElem?_eq_some_iff.mp z).1;simp only at this;exact lf (ax (fk hg) this)
   .exact D.gnum p hp
 |call c' hd gd l k=>
  ext c' hd gd l k ⟨H⟩;cases hd with
  |some x=>obtain⟨rs,J⟩:=OE;exact(H rs J).elim
  |none=>
   simp only[dx] at H;cases hq:orc%1024 with
   |zero=>
    simp only[hq] at H;cases hb:Nat.ble (X.v.d₀+5*κ.lv) 950 with
    |false=>simp only[hb] at H;obtain⟨rs,J⟩:=OE;exact(H rs J).elim
    |true=>
     simp only[hb] at H;cases h5:uD c' with
     |false=>simp only[h5] at H;obtain⟨rs,J⟩:=OE;exact(H rs J).elim
     |true=>
      simp only[h5] at H;have OF:Wf (.ret (κ.lv+1) c k κ) c':=⟨rfl,ba h5,hw⟩;have OG:X.v.d₀+5*(Kt.ret (κ.lv+1) c k κ).lv<1000:=by
       have:=Bo hb;show X.v.d₀+5*(κ.lv+1)<1000;exact au this
      exact zc O (vC O (oK O OF (λe=>nomatch e) OG (IH nh _ _ _ _ _ _ _ _ _ _ _ _ _ _ OF OG H ht D)))
   |succ n=>
    ext n ⟨hq⟩;simp only[hq] at H;cases hn:Nat.beq n 1022 with
    |true=>
     simp only[hn] at H;obtain⟨rs,J⟩:=OE;cases κ with
     |ret=>exact(H rs J).elim
     |base=>exact O.finC _ _ _ _ _ _ ((H rs J).2 _ D)
     |top=>exact O.topC _ _ _ _ _ _ ((H rs J).2 _ D)
    |false=>
    simp only[hn] at H;cases hsp:X.v.hk n c' E.get with
    |none=>simp only[hsp] at H;obtain⟨rs,J⟩:=OE;exact(H rs J).elim
    |some sp=>
     simp only[hsp] at H;exact zd O IH G nh hsp hw hl H ht D
 |yield y gd l k=>
  cases κ with
  |base=>
   cases gd with
   |true=>obtain⟨rs,J⟩:=OE;exact(H rs J).elim
   |false=>
    obtain⟨rs,J⟩:=OE;exact O.finY _ _ _ _ ((H rs J).2 _ D)
  |_=>obtain⟨rs,J⟩:=OE;exact(H rs J).elim
 |_=>obtain⟨rs,J⟩:=OE;exact(H rs J).elim
end
theorem rV {X:Cx} (O:X.Ok):∀n,rT X (za X.v aM qt uD n)
 |0=>λnh c κ t orc E m b j tb i gb gj L s hw hl H ht D=>by
  obtain⟨rs,J⟩:=kJ nh;exact(H rs J).elim
 |n+1=>ze O (rV O n) (uE n)
theorem uF {X:Cx} (O:X.Ok) (n:Nat):rT X (fw X.v n):=by
 unfold fw;exact rV O n
inductive Sh where
 |fin (f:Fin)
 |raise (e:Value)
 |yield (v:Value)
 |ret (r:Result)
 |again (c:Code)
 |call (tp:Bool) (c₁ c':Code) (gd:Bool)
def Kd.sh:Kd->Sh
 |.fin f=>.fin f
 |.raise e=>.raise e
 |.yield v _ _=>.yield v
 |.ret r=>.ret r
 |.again c=>.again c
 |.call tp J c' gd _ _=>.call tp J c' gd
def gt.kont:gt->Result->Sem Fin
 |.done _ (.call _ _ _ _ _ k) _ _ _ _ _=>k
 |_=>λU=>.unsupported ""
def gt.kontY:gt->Resume->Sem Fin
 |.done _ (.yield _ _ k) _ _ _ _ _=>k
 |_=>λU=>.unsupported ""
noncomputable abbrev Iw:=Option (List Nat×List Obj×List Code×Sh×List (Option ad)×List (Nat×Code))
def oL (ix:List Nat):gt->Iw
 |.done L J E _ _ _ _=>some (L.ob.map (·.1),L.oo.map (·.1),L.ps.map (·.1),J.sh,ix.map E.get,L.ng)
 |_=>none
def oM (kd:Sh) (J:List (Option ad)) (ng:List (Nat×Code)):gt->Iw
 |.done L _ _ _ _ _ _=>some (L.ob.map (·.2),L.oo.map (·.2),L.ps.map (·.2),kd,J,ng)
 |_=>some ([],[],[],kd,J,ng)
theorem lY {α:Type}:∀{l:List (α×α)},l.map (·.1)=l.map (·.2)->∀p∈l,p.1=p.2
 |[],_,_,h=>nomatch h
 |q::r,h,p,hp=>by
  rw[de,de,List.cons.injEq] at h;rcases aY.mp hp with rfl|hp
  .exact h.1
  .exact lY h.2 p hp
theorem vD {ix sh J ng out} (h:oL ix out=oM sh J ng out):∃L kd E m n t g,out=.done L kd E m n t g/\kd.sh=sh/\L.good/\ix.map E.get=J/\L.ng=ng:=by
 ext ix sh J ng out ⟨h⟩;cases out with
 |done L OE E m n t g=>
  ext L OE E m n t g ⟨h⟩;simp only[oL,oM,Option.some.injEq,Prod.mk.injEq] at h;obtain⟨h1,h2,h3,h4,h5,h6⟩:=h;exact⟨L,OE,E,m,n,t,g,rfl,h4,⟨lY h1,lY h2,lY h3⟩,h5,h6⟩
 |_=>trivial
structure bu (kt:KT) (s₀ s:Shared) (A0:List Nat) (sel:List (Option ad)) (ng:List (Nat×Code)):Prop where
 more:s₀.heap.objs.size<=s.heap.objs.size
 tmore:s₀.toks<=s.toks
 drawn:ij s=ij s₀
 os:s.os=s₀.os
 top:∀(a:Nat) o,kt.get a=some o->s.heap.get? a=some o
 keep:∀(a:Nat) o,s₀.heap.get? a=some o->a∉A0->s.heap.get? a=some o
 gkeep:∀(k:Nat) (x:GenState),s₀.gens[k]? =some x->s.gens[k]? =some x
 adr:∀e,some e∈sel->e.a∈A0\/s₀.heap.objs.size<=e.a
 sel:∀e,some e∈sel->s.heap.get? e.a=some e.o
 gnew:∀p∈ng,s.gens[p.1]? =some (.fresh p.2)
 gnum:∀p∈ng,s₀.gens.size<=p.1
theorem fV.after {X:Cx} {E:TT ad} {m n t g:Nat} {ng:List (Nat×Code)} {s:Shared} (D:fV X E m n t g ng s) {ix:List Nat} {J:List (Option ad)} (h:ix.map E.get=J):bu X.v.kt X.s₀ s X.A0 J ng:=
 ⟨by rw[D.size];exact D.more,by rw[D.toks];exact D.tmore,D.drawn,D.os,D.top,D.keep,D.gkeep,λe he=>by
  subst h;refine eO λU k_=>?_;obtain⟨i,_,hi⟩:=cT.mp he;refine k_ ?_;exact D.adr i e hi,λe he=>by
  subst h;refine eO λU k_=>?_;obtain⟨i,_,hi⟩:=cT.mp he;refine k_ ?_;exact D.ent i e hi,D.gnew,D.gnum⟩
def jO (J:List (Option ad)):Prop:=J.Pairwise λx y=>∀e f,x=some e->y=some f->e.a≠f.a
theorem fV.apart {X:Cx} {E:TT ad} {m n t g:Nat} {ng:List (Nat×Code)} {s:Shared} (D:fV X E m n t g ng s) {ix:List Nat} {J:List (Option ad)} (h:ix.map E.get=J) (hx:ix.Nodup):jO J:=by
 subst h;exact mT.mpr (List.Pairwise.imp (λOE e f he hf=>D.sep _ _ e f he hf OE) hx)
def E0 (l:List ad):TT ad:=(jy l .nil 0).1
def M0 (l:List ad):Nat:=(jy l .nil 0).2
structure St (kt:KT) (l:List ad) (n t g:Nat) (s:Shared):Prop where
 size:s.heap.objs.size=n+158
 toks:s.toks=t+1
 gens:s.gens.size=g
 top:∀(a:Nat) o,kt.get a=some o->s.heap.get? a=some o
 ent:∀e∈l,s.heap.get? e.a=some e.o
 apart:l.Pairwise λe f=>e.a≠f.a
 high:∀e∈l,158<=e.a\/e.a=78
theorem St.rep {X:Cx} {l:List ad} {n t g:Nat} (S:St X.v.kt l n t g X.s₀) (hA:X.A0=l.map (·.a)):fV X (E0 l) (M0 l) (n+158+0) (t+1+0) (g+0) [] X.s₀:=by
 ext X l n t g ⟨S,hA⟩;have OF:∀(l:List ad) (E:TT ad) (m:Nat),(∀e∈l,X.s₀.heap.get? e.a=some e.o)->l.Pairwise (λe f=>e.a≠f.a)->(∀e∈l,e.a∈X.A0)->
   (∀i e,E.get i=some e->i<m/\X.s₀.heap.get? e.a=some e.o/\e.a∈X.A0)->(∀i j e f,E.get i=some e->E.get j=some f->i≠j->e.a≠f.a)->(∀i e,E.get i=some e->∀f∈l,e.a≠f.a)->
   (∀i e,(jy l E m).1.get i=some e->i<(jy l E m).2/\X.s₀.heap.get? e.a=some e.o/\e.a∈X.A0)/\(∀i j e f,(jy l E m).1.get i=some e->(jy l E m).1.get j=some f->i≠j->e.a≠f.a):=by
  intro l;induction l with
  |nil=>intro E m _ _ _ h1 h2 _;exact⟨h1,h2⟩
  |cons x r ih=>
   ext x r ⟨ih⟩;intro E m he hp hm h1 h2 h3;ext E m ⟨h1,h2,h3⟩;have OE:=lP.mp hp;refine ih (E.put m x) (m+1) (λe h=>he e (.tail _ h)) OE.2 (λe h=>hm e (.tail _ h)) (λi e h=>?_) (λi j e f ha hb J=>?_) λi e h f hf=>?_
   .rcases TT.get_put _ _ _ _ _ h with⟨rfl,rfl⟩|⟨_,h⟩
    .exact⟨by omega,he _ aJ,hm _ aJ⟩
    .have:=h1 i e h;exact⟨by omega,this.2⟩
   .ext i j e f ⟨ha,hb,J⟩;have P:=TT.get_put _ _ _ _ _ ha;have Q:=TT.get_put _ _ _ _ _ hb;clear ha hb;rcases P with⟨rfl,rfl⟩|⟨_,ha⟩<;>rcases Q with⟨rfl,rfl⟩|⟨_,hb⟩
    .exact bh rfl J
    .exact Ne.symm (h3 _ _ hb _ aJ)
    .exact h3 _ _ ha _ aJ
    .exact h2 _ _ _ _ ha hb J
   .rcases TT.get_put _ _ _ _ _ h with⟨rfl,rfl⟩|⟨_,h⟩
    .exact OE.1 f hf
    .exact h3 _ _ h f (.tail _ hf)
 have z:=OF l .nil 0 S.ent S.apart (λe he=>by rw[hA];exact jv (f:=ad.a) he) (λi e h=>by cases h) (λi j e f h=>by cases h) (λi e h=>by cases h);exact⟨S.size,S.toks,S.gens,rfl,rfl,S.top,λi e h=>(z.1 i e h).1,λi e h=>(z.1 i e h).2.1,λi e h=>.inl (z.1 i e h).2.2,z.2,λa o h U=>h,λk x h=>h,λp hp=>(nomatch hp),by rw[S.size];omega,by rw[S.toks];omega,λp hp=>(nomatch hp)⟩
def L0 (rs:List HR):cN:={ob:=[],oo:=[],ps:=[],rs:=rs,ng:=[]}
structure aL (d:Nat) (A:Around):Prop where
 hd:A.handled=none
 dp:A.depth<=d
 un:A.units<=10*d
structure lZ (v:V) (w:World):Prop where
 params:v.params=w.params
 dh:v.dh<=950
 low:∀(a:Nat) o,v.kt.get a=some o->a<158/\a≠78
 hk:Iv v w
 d0:v.d₀+5<1000
def np (M:Model) (A:Around) (R:Result->Shared->Prop) (c:Code) (t:Sem Fin) (s:Shared):Prop:=
 wpAny M (A.under c) t (λOE J=>match OE with|.done f=>R (.ok f) J|.again c'=>c'.quiet=true/\codeAny M A c' R J) (λe J=>R (.error e) J) s
theorem l8 {prog w A} {R:Result->Shared->Prop} {c s} (h:np (model prog w) A R c (denote table c) s):codeAny (model prog w) A c R s:=
 x_code (dR h (λJ s' x=>by cases J<;>exact x) λU U x=>x)
def zg (M:Model) (A:Around) (R:Result->Shared->Prop):Kd->Shared->Prop
 |.ret r,s=>R r s
 |.again c',s=>c'.quiet=true/\codeAny M A c' R s
 |.call true J c' _ _ k,s=>codeAny M (A.under J) c' (λr s'=>np M A R J (k r) s') s
 |_,_=>False
theorem aL.under {d A} (h:aL d A) {c} (hc:bq c):aL (d+5) (A.under c):=
 ⟨h.hd,by have:=h.dp;have:=hc.1;show A.depth+c.weight<=d+5;omega,by have:=h.un;have:=hc.2;show A.units+c.cUnits<=10*(d+5);omega⟩
theorem mz {α:Type} {prog w A} {E:Value->Shared->Prop} {s} {Q:α->Shared->Prop} {c g l} {k:Result->Sem α}
  (h:codeAny (model prog w) A c (λr J=>wpAny (model prog w) A (k r) Q E J) s):wpAny (model prog w) A (.call c none g l k) Q E s:=by
 refine x_call ?_ (λe=>by cases e);exact h
def h0:HR:=⟨0,0,0,0,0,0⟩
def bO (r:Nat->HR):Nat->Nat->List HR
 |_,0=>[]
 |i,n+1=>r i::bO r (i+1) n
theorem tJ:∀rs f i,(∀j (h:j<rs.length),f (i+j)=rs[j])->rs=bO f i rs.length
 |[],_,_,_=>rfl
 |a::r,f,i,h=>by
  show _=f i::bO f (i+1) r.length;have h0:=h 0 (by simp);rw[<-tJ r f (i+1) λj hj=>by
   have:=h (j+1) (by simp;omega);rw[Nat.add_assoc,Nat.add_comm 1 j];exact this]
  rw[Nat.add_zero] at h0;rw[h0];rfl
theorem c4 {n} (h:rs.length=n):bO (λi=>rs.getD i h0) 0 n=rs:=by
 subst h;exact(tJ rs _ 0 λj hj=>by simp[List.getD,hj]).symm
noncomputable abbrev ay (v:V) (J:Nat) (c:Code) (κ:Kt) (tr:Sem Fin) (orc:Nat) (l:List ad) (n t g:Nat) (rs:List HR) (ix:List Nat) (kd:Sh) (OE:List (Option ad)) (ng:List (Nat×Code)):Prop:=
 oL ix (fw v J c κ tr orc (E0 l) (M0 l) (n+158) 0 (t+1) 0 g 0 (L0 rs))=oM kd OE ng (fw v J c κ tr orc (E0 l) (M0 l) (n+158) 0 (t+1) 0 g 0 (L0 rs))
noncomputable abbrev nq (v:V) (w:World) (A:Around) (R:Result->Shared->Prop) (o:gt) (s':Shared) (x:Sh):Prop:=match x with
 |.ret r=>R r s'
 |.again c'=>c'.quiet=true/\codeAny (model v.prog w) A c' R s'
 |.call true J c' _=>codeAny (model v.prog w) (A.under J) c' (λr OE=>np (model v.prog w) A R J (o.kont r) OE) s'
 |_=>False
noncomputable abbrev vE (B:Sem Fin->Shared->Prop) (o:gt) (J:Shared) (x:Sh):Prop:=match x with
 |.fin f=>B (.pure f) J
 |.raise e=>B (.raise e) J
 |.yield y=>∀l',B (.yield y false l' o.kontY) J
 |.call false _ c' gd=>∀l',B (.call c' none gd l' o.kont) J
 |_=>False
section
variable {v:V} {w:World} (K:lZ v w) {A:Around} (hA:aL v.d₀ A) {l:List ad} {n t g:Nat} {s:Shared} (S:St v.kt l n t g s)
include K hA S
theorem rc {c:Code} (hc:bq c) {tr:Sem Fin} {R:Result->Shared->Prop}
  (nh J orc:Nat) (ix:List Nat) (sh:List HR->Sh) (OE:List HR->List (Option ad)) (ng:List HR->List (Nat×Code))
  (OI:∀rs,rs.length=nh->ay v J c .top tr orc l n t g rs ix (sh rs) (OE rs) (ng rs))
  (OG:∀rs s',rs.length=nh->bu v.kt s s' (l.map (·.a)) (OE rs) (ng rs)->(ix.Nodup->jO (OE rs))->nq v w A R (fw v J c .top tr orc (E0 l) (M0 l) (n+158) 0 (t+1) 0 g 0 (L0 rs)) s' (sh rs)):
  d7 {v:=v,w:=w,A:=A,B:=λU U=>True,R:=R,s₀:=s,A0:=l.map (·.a),Fn:=zg (model v.prog w) A R} .top c tr s:=by
 let X:Cx:={v:=v,w:=w,A:=A,B:=λU U=>True,R:=R,s₀:=s,A0:=l.map (·.a),Fn:=zg (model v.prog w) A R}
 have O:X.Ok:={
           params:=K.params,hd:=hA.hd,dp:=hA.dp,un:=hA.un,dh:=K.dh,bind:=λU U U U=>trivial,finF:=λU U U=>trivial,finE:=λU U U=>trivial,finY:=λU U U U U=>trivial,finC:=λU U U U U U U=>trivial,
           topC:=λOF c' gd l k s h=>mz h,topR:=λU U h=>h,topA:=λU U h=>h,low:=K.low,A0:=λa ha=>by
            obtain⟨e,he,rfl⟩:=cT.mp ha;exact S.high e he
           n0:=by show 158<=s.heap.objs.size;rw[S.size];omega
           t0:=by show 1<=s.toks;rw[S.toks];omega
           hk:=K.hk}
 have D:fV X (E0 l) (M0 l) (n+158+0) (t+1+0) (g+0) [] s:=St.rep (X:=X) S rfl;have hl:X.v.d₀+5*Kt.top.lv<1000:=K.d0;refine uF O J nh c .top tr orc (E0 l) (M0 l) (n+158) 0 (t+1) 0 g 0 (L0 []) s hc hl (λrs OH=>?_) (by omega) D;have hf:=OG rs;have hr:=OI rs OH;unfold ay at hr;show jz X (fw v J c .top tr orc (E0 l) (M0 l) (n+158) 0 (t+1) 0 g 0 (L0 rs));generalize fw v J c .top tr orc (E0 l) (M0 l) (n+158) 0 (t+1) 0 g 0 (L0 rs)=out at hf hr|-;obtain⟨L,kd,E,m,n',t',g',rfl,OJ,gd,hs,hn⟩:=vD hr;refine⟨gd,λs' D'=>?_⟩;have z:=hf s' OH (by have:=fV.after D' hs;rw[hn] at this;exact this) (fV.apart D' hs);rw[<-OJ] at z;cases kd with
 |call tp OF c' OK l' k=>cases tp<;>exact z
 |fin f=>exact z
 |raise e=>exact z
 |ret r=>exact z
 |again c=>exact z
 |yield y l' k=>exact z
theorem GD {c:Code} (hc:bq c) {tr:Sem Fin} {R:Result->Shared->Prop}
  (nh J orc:Nat) (ix:List Nat) (sh:List HR->Sh) (OE:List HR->List (Option ad)) (ng:List HR->List (Nat×Code))
  (OG:∀rs,rs.length=nh->ay v J c .top tr orc l n t g rs ix (sh rs) (OE rs) (ng rs))
  (OF:∀rs s',rs.length=nh->bu v.kt s s' (l.map (·.a)) (OE rs) (ng rs)->nq v w A R (fw v J c .top tr orc (E0 l) (M0 l) (n+158) 0 (t+1) 0 g 0 (L0 rs)) s' (sh rs)):
  d7 {v:=v,w:=w,A:=A,B:=λU U=>True,R:=R,s₀:=s,A0:=l.map (·.a),Fn:=zg (model v.prog w) A R} .top c tr s:=rc K hA S hc nh J orc ix sh OE ng OG λrs s' h D U=>OF rs s' h D
theorem eB {c:Code} (hc:bq c) {tr:Sem Fin} {R:Result->Shared->Prop}
  (nh J orc:Nat) (ix:List Nat) (sh:List HR->Sh) (OE:List HR->List (Option ad)) (ng:List HR->List (Nat×Code))
  (OG:∀rs,rs.length=nh->ay v J c .top tr orc l n t g rs ix (sh rs) (OE rs) (ng rs))
  (OF:∀rs s',rs.length=nh->bu v.kt s s' (l.map (·.a)) (OE rs) (ng rs)->nq v w A R (fw v J c .top tr orc (E0 l) (M0 l) (n+158) 0 (t+1) 0 g 0 (L0 rs)) s' (sh rs)):np (model v.prog w) A R c tr s:=GD K hA S hc nh J orc ix sh OE ng OG OF
theorem oO {c:Code} (hc:bq c) {R:Result->Shared->Prop}
  (nh J orc:Nat) (ix:List Nat) (sh:List HR->Sh) (OE:List HR->List (Option ad)) (ng:List HR->List (Nat×Code))
  (OG:∀rs,rs.length=nh->ay v J c .top (aM c) orc l n t g rs ix (sh rs) (OE rs) (ng rs))
  (OF:∀rs s',rs.length=nh->bu v.kt s s' (l.map (·.a)) (OE rs) (ng rs)->(ix.Nodup->jO (OE rs))->nq v w A R (fw v J c .top (aM c) orc (E0 l) (M0 l) (n+158) 0 (t+1) 0 g 0 (L0 rs)) s' (sh rs)):codeAny (model v.prog w) A c R s:=by
 refine l8 (rS ?_ (rc K hA S hc nh J orc ix sh OE ng OG OF));have h1:=(hA.under hc).dp;have h2:=K.d0;show(A.under c).depth<1000;omega
theorem rd {c:Code} (hc:bq c) {R:Result->Shared->Prop}
  (nh J orc:Nat) (ix:List Nat) (sh:List HR->Sh) (OE:List HR->List (Option ad)) (ng:List HR->List (Nat×Code))
  (OG:∀rs,rs.length=nh->ay v J c .top (aM c) orc l n t g rs ix (sh rs) (OE rs) (ng rs))
  (OF:∀rs s',rs.length=nh->bu v.kt s s' (l.map (·.a)) (OE rs) (ng rs)->nq v w A R (fw v J c .top (aM c) orc (E0 l) (M0 l) (n+158) 0 (t+1) 0 g 0 (L0 rs)) s' (sh rs)):codeAny (model v.prog w) A c R s:=oO K hA S hc nh J orc ix sh OE ng OG λrs s' h D U=>OF rs s' h D
theorem dl {c:Code} (hc:bq c) {R:Result->Shared->Prop}
  (nh J orc:Nat) (ix:List Nat) (sh:(Nat->HR)->Sh) (OE:(Nat->HR)->List (Option ad)) (ng:(Nat->HR)->List (Nat×Code))
  (OG:∀r,ay v J c .top (aM c) orc l n t g (bO r 0 nh) ix (sh r) (OE r) (ng r))
  (OF:∀r s',bu v.kt s s' (l.map (·.a)) (OE r) (ng r)->(ix.Nodup->jO (OE r))->nq v w A R (fw v J c .top (aM c) orc (E0 l) (M0 l) (n+158) 0 (t+1) 0 g 0 (L0 (bO r 0 nh))) s' (sh r)):codeAny (model v.prog w) A c R s:=
 oO K hA S hc nh J orc ix (λrs=>sh λi=>rs.getD i h0) (λrs=>OE λi=>rs.getD i h0) (λrs=>ng λi=>rs.getD i h0)
  (λrs h=>by have z:=OG λi=>rs.getD i h0;rwa[c4 h] at z) λrs s' h D P=>by have z:=OF (λi=>rs.getD i h0) s' D P;rwa[c4 h] at z
theorem iW {B:Sem Fin->Shared->Prop} (hB:∀{α:Type} (m:Sem α) (k:α->Sem Fin) (s:Shared),wpAny (model v.prog w) A m (λa s'=>B (k a) s') (λU U=>False) s->B (m.bind k) s) {c:Code} {tr:Sem Fin}
  (nh J orc:Nat) (ix:List Nat) (sh:List HR->Sh) (OE:List HR->List (Option ad)) (ng:List HR->List (Nat×Code))
  (OH:∀rs,rs.length=nh->ay v J c .base tr orc l n t g rs ix (sh rs) (OE rs) (ng rs))
  (OF:∀rs s',rs.length=nh->bu v.kt s s' (l.map (·.a)) (OE rs) (ng rs)->(ix.Nodup->jO (OE rs))->vE B (fw v J c .base tr orc (E0 l) (M0 l) (n+158) 0 (t+1) 0 g 0 (L0 rs)) s' (sh rs)):B tr s:=by
 let X:Cx:={v:=v,w:=w,A:=A,B:=B,R:=λU U=>True,s₀:=s,A0:=l.map (·.a),Fn:=λkd s'=>match kd with
  |.fin f=>B (.pure f) s'
  |.raise e=>B (.raise e) s'
  |.yield y l' k=>B (.yield y false l' k) s'
  |.call false _ c' gd l' k=>B (.call c' none gd l' k) s'
  |_=>False}
 have O:X.Ok:={
           params:=K.params,hd:=hA.hd,dp:=hA.dp,un:=hA.un,dh:=K.dh,bind:=λm k s h=>hB m k s h,finF:=λU U h=>h,finE:=λU U h=>h,finY:=λU U U U h=>h,finC:=λU U U U U U h=>h,
           topC:=λU U U U U U h=>h.elim,topR:=λU U h=>h.elim,topA:=λU U h=>h.elim,low:=K.low,A0:=λa ha=>by
            obtain⟨e,he,rfl⟩:=cT.mp ha;exact S.high e he
           n0:=by show 158<=s.heap.objs.size;rw[S.size];omega
           t0:=by show 1<=s.toks;rw[S.toks];omega
           hk:=K.hk}
 have D:fV X (E0 l) (M0 l) (n+158+0) (t+1+0) (g+0) [] s:=St.rep (X:=X) S rfl;have hl:X.v.d₀+5*Kt.base.lv<1000:=by have:=K.d0;show v.d₀+5*0<1000;omega
 refine uF O J nh c .base tr orc (E0 l) (M0 l) (n+158) 0 (t+1) 0 g 0 (L0 []) s trivial hl (λrs OG=>?_) (by omega) D;have hf:=OF rs;have hr:=OH rs OG;unfold ay at hr;show jz X (fw v J c .base tr orc (E0 l) (M0 l) (n+158) 0 (t+1) 0 g 0 (L0 rs));generalize fw v J c .base tr orc (E0 l) (M0 l) (n+158) 0 (t+1) 0 g 0 (L0 rs)=out at hf hr|-;obtain⟨L,kd,E,m,n',t',g',rfl,OI,gd,hs,hn⟩:=vD hr;refine⟨gd,λs' D'=>?_⟩;have z:=hf s' OG (by have:=fV.after D' hs;rw[hn] at this;exact this) (fV.apart D' hs);rw[<-OI] at z;cases kd with
 |yield y l' k=>exact z l'
 |call tp OJ c' OK l' k=>cases tp;exact z l';exact z
 |fin f=>exact z
 |raise e=>exact z
 |ret r=>exact z
 |again c=>exact z
theorem di {B:Sem Fin->Shared->Prop} (hB:∀{α:Type} (m:Sem α) (k:α->Sem Fin) (s:Shared),wpAny (model v.prog w) A m (λa s'=>B (k a) s') (λU U=>False) s->B (m.bind k) s) {c:Code} {tr:Sem Fin}
  (nh J orc:Nat) (ix:List Nat) (sh:List HR->Sh) (OE:List HR->List (Option ad)) (ng:List HR->List (Nat×Code))
  (OG:∀rs,rs.length=nh->ay v J c .base tr orc l n t g rs ix (sh rs) (OE rs) (ng rs))
  (OF:∀rs s',rs.length=nh->bu v.kt s s' (l.map (·.a)) (OE rs) (ng rs)->vE B (fw v J c .base tr orc (E0 l) (M0 l) (n+158) 0 (t+1) 0 g 0 (L0 rs)) s' (sh rs)):B tr s:=iW K hA S hB nh J orc ix sh OE ng OG λrs s' h D U=>OF rs s' h D
theorem eP {B:Sem Fin->Shared->Prop} (hB:∀{α:Type} (m:Sem α) (k:α->Sem Fin) (s:Shared),wpAny (model v.prog w) A m (λa s'=>B (k a) s') (λU U=>False) s->B (m.bind k) s) {c:Code} {tr:Sem Fin}
  (nh J orc:Nat) (ix:List Nat) (sh:(Nat->HR)->Sh) (OE:(Nat->HR)->List (Option ad)) (ng:(Nat->HR)->List (Nat×Code))
  (OG:∀r,ay v J c .base tr orc l n t g (bO r 0 nh) ix (sh r) (OE r) (ng r))
  (OF:∀r s',bu v.kt s s' (l.map (·.a)) (OE r) (ng r)->(ix.Nodup->jO (OE r))->vE B (fw v J c .base tr orc (E0 l) (M0 l) (n+158) 0 (t+1) 0 g 0 (L0 (bO r 0 nh))) s' (sh r)):B tr s:=
 iW K hA S hB nh J orc ix (λrs=>sh λi=>rs.getD i h0) (λrs=>OE λi=>rs.getD i h0) (λrs=>ng λi=>rs.getD i h0)
  (λrs h=>by have z:=OG λi=>rs.getD i h0;rwa[c4 h] at z) λrs s' h D P=>by have z:=OF (λi=>rs.getD i h0) s' D P;rwa[c4 h] at z
theorem vF {c:Code} (hc:bq c) {tr:Sem Fin} {R:Result->Shared->Prop}
  (nh J orc:Nat) (ix:List Nat) (sh:(Nat->HR)->Sh) (OE:(Nat->HR)->List (Option ad)) (ng:(Nat->HR)->List (Nat×Code))
  (OG:∀r,ay v J c .top tr orc l n t g (bO r 0 nh) ix (sh r) (OE r) (ng r))
  (OF:∀r s',bu v.kt s s' (l.map (·.a)) (OE r) (ng r)->(ix.Nodup->jO (OE r))->nq v w A R (fw v J c .top tr orc (E0 l) (M0 l) (n+158) 0 (t+1) 0 g 0 (L0 (bO r 0 nh))) s' (sh r)):np (model v.prog w) A R c tr s:=
 rc K hA S hc nh J orc ix (λrs=>sh λi=>rs.getD i h0) (λrs=>OE λi=>rs.getD i h0) (λrs=>ng λi=>rs.getD i h0)
  (λrs h=>by have z:=OG λi=>rs.getD i h0;rwa[c4 h] at z) λrs s' h D P=>by have z:=OF (λi=>rs.getD i h0) s' D P;rwa[c4 h] at z
end
def vG:KT->Nat->KT
 |.nil,_=>.nil
 |.node v l r,i=>match Nat.beq i 0 with
  |true=>.node none l r
  |false=>match Nat.beq (i%2) 1 with
   |true=>.node v (vG l (i/2)) r
   |false=>.node v l (vG r (i/2 - 1))
theorem qg:∀T m i o,(vG T m).get i=some o->i≠m/\T.get i=some o
 |.nil,_,_,_,h=>by cases h
 |.node v l r,m,i,o,h=>by
  dsimp only[vG] at h;rw[BT.beq_eq,BT.beq_eq] at h;by_cases hm:m=0
  .rw[jW hm] at h;subst hm;change(KT.node none l r).get i=some o at h;rw[KT.get_node] at h|-;by_cases J:i=0
   .rw[if_pos J] at h;cases h
   .rw[if_neg J] at h|-;exact⟨J,h⟩
  .rw[iS hm] at h;by_cases pm:m%2=1
   .rw[jW pm] at h;change(KT.node v (vG l (m/2)) r).get i=some o at h;rw[KT.get_node] at h|-;by_cases J:i=0
    .rw[if_pos J] at h|-;exact⟨λz=>hm (z▸J),h⟩
    .rw[if_neg J] at h|-;by_cases p:i%2=1
     .rw[if_pos p] at h|-;have z:=qg l _ _ _ h;exact⟨λq=>z.1 (by rw[q]),z.2⟩
     .rw[if_neg p] at h|-;exact⟨λq=>p (q▸pm),h⟩
   .rw[iS pm] at h;change(KT.node v l (vG r (m/2 - 1))).get i=some o at h;rw[KT.get_node] at h|-;by_cases J:i=0
    .rw[if_pos J] at h|-;exact⟨λz=>hm (z▸J),h⟩
    .rw[if_neg J] at h|-;by_cases p:i%2=1
     .rw[if_pos p] at h|-;exact⟨λq=>pm (q▸p),h⟩
     .rw[if_neg p] at h|-;have z:=qg r _ _ _ h;exact⟨λq=>z.1 (by rw[q]),z.2⟩
def rW (p:Nat->Bool):KT->Nat->Nat->Bool
 |.nil,_,_=>true
 |.node v l r,s,b=>match(match v with|some _=>p b|none=>true) with
  |true=>match rW p l (2*s) (s+b) with
   |true=>rW p r (2*s) (2*s+b)
   |false=>false
  |false=>false
set_option tactic.hygienic true in
theorem oP:∀T s b i o,rW p T s b=true->T.get i=some o->p (s*i+b)=true
 |.nil,_,_,_,_,_,h=>by cases h
 |.node v l r,s,b,i,o,k,h=>by
  dsimp only[rW] at k;split at k
  .rename_i k1;split at k
   .rename_i k2;rw[KT.get_node] at h;by_cases J:i=0
    .rw[if_pos J] at h;subst J;rw[h] at k1;rw[Nat.mul_zero,Nat.zero_add];exact k1
    .rw[if_neg J] at h;by_cases q:i%2=1
     .rw[if_pos q] at h;have z:=oP l _ _ _ _ k2 h;have e:2*s*(i/2)+(s+b)=s*i+b:=by
       have hj:i=2*(i/2)+1:=by lia
       generalize i/2=x at hj;subst hj;rw[Nat.mul_add,Nat.mul_one,<-Nat.mul_assoc,Nat.mul_comm s 2];simp+arith
      rw[e] at z;exact z
     .rw[if_neg q] at h;have z:=oP r _ _ _ _ k h;have e:2*s*(i/2 - 1)+(2*s+b)=s*i+b:=by
       have hj:i=2*(i/2 - 1)+2:=by lia
       generalize i/2 - 1=x at hj;subst hj;rw[Nat.mul_add,<-Nat.mul_assoc,Nat.mul_comm s 2];simp+arith
      rw[e] at z;exact z
   .cases k
  .cases k
def kt (w:World):KT:=vG (hd.ktop_282 w.params) 78
theorem Dq (w:World):rW (λa=>Nat.blt a 158) (hd.ktop_282 w.params) 1 0=true:=by kernel_rfl
theorem oQ (w:World) (a:Nat) (o:Obj) (h:(kt w).get a=some o):a<158/\a≠78:=by
 have z:=qg _ _ _ _ h;have q:=oP _ _ _ _ _ (Dq w) z.2;rw[Nat.one_mul,Nat.add_zero] at q;exact⟨uC q,z.1⟩
noncomputable abbrev pw:=PySem.Challenge.pw_jc0007_01
def lh (w:World) (d₀ dh:Nat) (hk:Nat->Code->(Nat->Option ad)->Option kj):V:={prog:=pw,params:=w.params,kt:=kt w,hk,d₀,dh}
def aG (w:World) (J:Nat):V:=lh w J 0 λU U U=>none
theorem bx (w) (h:d₀+5<1000:=by decide):lZ (aG w d₀) w:=
 ⟨rfl,iU _,oQ _,λn c J sp e=>(by cases e),h⟩
def wF (w:World) (a b:Bool):World:={w with params:={w.params with followText:=λr=>match Nat.beq (PySem.code r) 0x7466746a62732e7566682e6d626a64667174 with
 |true=>a
 |false=>match Nat.beq (PySem.code r) 0x6566656d70672e7a626d71746a652e666d63627366756a2e737067 with
  |true=>b
  |false=>w.params.followText r}}
set_option tactic.hygienic true in
theorem GE (w):wF w (w.params.followText "special-get-raises") (w.params.followText "for-iterable-display-folded")=w:=by
 obtain⟨J,params⟩:=w;have h:(λr=>match Nat.beq (PySem.code r) 0x7466746a62732e7566682e6d626a64667174 with
   |true=>params.followText "special-get-raises"
   |false=>match Nat.beq (PySem.code r) 0x6566656d70672e7a626d71746a652e666d63627366756a2e737067 with
    |true=>params.followText "for-iterable-display-folded"
    |false=>params.followText r)=params.followText:=by
  funext r;split
  .rename_i e;rw[iG (m:= "special-get-raises") e (by decide+kernel)]
  .split
   .rename_i e;rw[iG (m:= "for-iterable-display-folded") e (by decide+kernel)]
   .rfl
 simp only[wF,h]
theorem vH {P:World->Prop} (h:∀w a b,P (wF w a b)) (w):P w:=GE w▸h w _ _
def NQ {α:Type u} (L:World->α):World->Bool->α×α:=λw b=>(L (wF w false b),L (wF w true b))
def NR {α:Type u} (L:World->α):World->Bool->α×α:=λw b=>(L (wF w false b),L (wF w true b))
theorem aT {α:Type u} {L R:World->α} (h:NQ L=NR R:=by kernel_rfl):∀w,L w=R w:=vH λw a b=>by
 have z:=congrFun (congrFun h w) b;cases a
 .exact congrArg Prod.fst z
 .exact congrArg Prod.snd z
def NT {α:Type u} (L:World->Bool->α):World->Bool->α×α×α×α:=λw b=>(L (wF w false b) false,L (wF w true b) false,L (wF w false b) true,L (wF w true b) true)
def NU {α:Type u} (L:World->Bool->α):World->Bool->α×α×α×α:=λw b=>(L (wF w false b) false,L (wF w true b) false,L (wF w false b) true,L (wF w true b) true)
theorem d9 {α:Type u} {L R:World->Bool->α} (h:NT L=NU R:=by kernel_rfl):∀w q,L w q=R w q:=vH λw a b q=>by
 have z:=congrFun (congrFun h w) b;cases a<;>cases q
 .exact congrArg Prod.fst z
 .exact congrArg (·.2.2.1) z
 .exact congrArg (·.2.1) z
 .exact congrArg (·.2.2.2) z
def NV {α:Type u} (L:Bool->World->α):World->Bool->α×α×α×α:=λw b=>(L false (wF w false b),L false (wF w true b),L true (wF w false b),L true (wF w true b))
def NW {α:Type u} (L:Bool->World->α):World->Bool->α×α×α×α:=λw b=>(L false (wF w false b),L false (wF w true b),L true (wF w false b),L true (wF w true b))
theorem NY {α:Type u} {L R:Bool->World->α} (h:NV L=NW R:=by kernel_rfl) (q):∀w,L q w=R q w:=λw=>d9 (L:=λw q=>L q w) (R:=λw q=>R q w) h w q
def NZ {α:Type u} (L:World->α):World->α×α×α×α:=λw=>(L (wF w false false),L (wF w false true),L (wF w true false),L (wF w true true))
def N0 {α:Type u} (L:World->α):World->α×α×α×α:=λw=>(L (wF w false false),L (wF w false true),L (wF w true false),L (wF w true true))
theorem Mk {α:Type u} {L R:World->α} (h:NZ L=N0 R:=by kernel_rfl):∀w,L w=R w:=vH λw a b=>by
 have z:=congrFun h w;cases a<;>cases b
 .exact congrArg Prod.fst z
 .exact congrArg (·.2.1) z
 .exact congrArg (·.2.2.1) z
 .exact congrArg (·.2.2.2) z
noncomputable abbrev aq:=Code->(Nat->Option ad)->Option kj
structure aK (w:World) (s:Shared):Prop where
 top:∀(a:Nat) o,(kt w).get a=some o->s.heap.get? a=some o
 size:158<=s.heap.objs.size
 toks:1<=s.toks
def ai (w:World) (dh:Nat) (f:aq):Prop:=∀c lk J,f c lk=some J->(∀p∈J.ps,p.1=p.2)->∀A s,aL dh A->aK w s->(∀q∈J.req,s.heap.get? q.2.1=some q.2.2)->J.kind.ok (model pw w) A c s
def oR (hs:List aq) (n:Nat) (c:Code) (J:Nat->Option ad):Option kj:=match hs[n]? with
 |some f=>f c J
 |none=>none
def vL (w:World) (J dh:Nat) (hs:List aq):V:=lh w J dh (oR hs)
theorem bE (H:∀f∈hs,ai w dh f) (h:d₀+5<1000:=by decide) (hd:dh<=950:=by decide):lZ (vL w d₀ dh hs) w:=
 ⟨rfl,hd,oQ _,λn c J sp e hp A s h1 h2 h3 h4 h5 h6 h7=>by
  change oR hs n c J=some sp at e;unfold oR at e;cases hn:hs[n]? with
  |none=>rw[hn] at e;cases e
  |some f=>rw[hn] at e;exact H f (List.mem_of_getElem? hn) c J sp e hp A s ⟨h1,h2,h3⟩ ⟨h4,h5,h6⟩ h7,h⟩
def fX (J:Code) (OE:List (Nat×Nat×Obj)) (kind:gL):aq:=λc U=>some ⟨OE,[(c,J)],kind⟩
theorem eJ
  (h:∀A s,aL dh A->aK w s->(∀q∈req,s.heap.get? q.2.1=some q.2.2)->kind.ok (model pw w) A c₀ s):ai w dh (fX c₀ req kind):=by
 intro c lk sp e J A s hA hT hq;cases e;have:c=c₀:=J (c,c₀) aJ;subst this;exact h A s hA hT hq
def dP (J:Nat->Option ad) (k:Nat):Nat:=match J k with
 |some e=>e.a
 |none=>0
def dQ (J:Nat->Option ad) (k:Nat):Obj:=match J k with
 |some e=>e.o
 |none=>⟨.none,none,.seq #[] 0,#[]⟩
def bI (c:Code) (i:Nat):Value:=match c with
 |.call _ a=>a.pos.getD i .none
 |_=>.none
def Ix:Value->Nat
 |.ref a=>a
 |_=>0
def cq:Value->Nat
 |.str _ t=>t
 |.int _ t=>t
 |.bytes _ t=>t
 |.float _ t=>t
 |_=>0
theorem bj {w:World} {dh:Nat} {r:Code->(Nat->Option ad)->List (Nat×Nat×Obj)} {OE:Code->(Nat->Option ad)->Code} {kd:Code->(Nat->Option ad)->gL}
  (h:∀c J A s,aL dh A->aK w s->(∀q∈r c J,s.heap.get? q.2.1=some q.2.2)->(kd c J).ok (model pw w) A (OE c J) s):ai w dh (λc J=>some ⟨r c J,[(c,OE c J)],kd c J⟩):=by
 intro c J sp e hp A s hA hT hq;cases e;exact(congrArg (λx=>(kd c J).ok (model pw w) A x s) (hp _ (.head _))).mpr (h c J A s hA hT hq)
def aQ (s:Shared) (l:List ad):Prop:=∀e∈l,s.heap.get? e.a=some e.o
structure aj (l:List ad):Prop where
 apart:l.Pairwise λe f=>e.a≠f.a
 high:∀e∈l,158<=e.a\/e.a=78
theorem aK.st (T:aK w s) (H:aQ s l) (F:aj l):∃n t g,St (kt w) l n t g s:=by
 refine⟨s.heap.objs.size - 158,s.toks - 1,s.gens.size,?_,?_,rfl,T.top,H,F.apart,F.high⟩
 .have:=T.size;exact vz this
 .have:=T.toks;exact vz this
def kr (w:World) (d:Nat) (c:Code) (J:List ad) (out:HR->j5):Prop:=
 ∀A s,aL d A->aK w s->aQ s J->codeAny (model pw w) A c (λr s'=>∃ρ,r=(out ρ).r/\cJ s s' ρ (out ρ)) s
theorem bu.step {kt:KT} {s₀ s:Shared} {l nw:List ad} {ng:List (Nat×Code)} {n:Nat} {o:j5} {x y z:Nat} (D:bu kt s₀ s (l.map (·.a)) (l.map some++nw.map some) ng)
  (hl:aQ s₀ l) (hs:o.sets=[]) (hn:o.news=nw) (OE:s₀.heap.objs.size=n+158) (ht:1<=s₀.toks) (hw:∀e∈nw,n+158<=e.a) (hp:nw.Pairwise λe f=>e.a≠f.a):
  cJ s₀ s ⟨s.heap.objs.size - 158,s.toks - 1,s.gens.size,x,y,z⟩ o:=by
 refine⟨?_,D.more,?_,D.tmore,rfl,D.drawn,D.os,D.gkeep,λa o' h U=>?_,λq hq=>?_,λe J=>?_,by rw[hn];exact hp⟩
 .have:=D.more;show s.heap.objs.size=_ - 158+158;lia
 .have:=D.tmore;show s.toks=_ - 1+1;lia
 .by_cases ha:a∈l.map (·.a)
  .refine eO λU k_=>?_;obtain⟨e,J,rfl⟩:=cT.mp ha;refine k_ ?_;have z:=D.sel e (gO _ (jv J));have:=(hl e J).symm.trans h;cases this;exact z
  .exact D.keep a o' h ha
 .rw[hs] at hq;cases hq
 .rw[hn] at J;refine⟨D.sel e (fJ _ (jv J)),?_⟩;rw[OE];exact hw e J
theorem l9 {w:World} {d dh:Nat} {hk:Nat->Code->(Nat->Option ad)->Option kj} (K:lZ (lh w d dh hk) w) {c:Code} (hc:bq c) {l:List ad} (F:aj l) {out:HR->j5} (nh J orc:Nat) (ix:List Nat)
  (r:Nat->Nat->Nat->List HR->Result) (nw:Nat->Nat->Nat->List HR->List ad) (ng:Nat->Nat->Nat->List HR->List (Nat×Code))
  (OF:∀n t g rs,rs.length=nh->ay (lh w d dh hk) J c .top (aM c) orc l n t g rs ix (.ret (r n t g rs)) (l.map some++(nw n t g rs).map some) (ng n t g rs))
  (OE:∀n t g rs,rs.length=nh->∃x y z,∀n' t' g',r n t g rs=(out ⟨n',t',g',x,y,z⟩).r/\(out ⟨n',t',g',x,y,z⟩).sets=[]/\(out ⟨n',t',g',x,y,z⟩).news=nw n t g rs/\(∀e∈nw n t g rs,n+158<=e.a)/\(nw n t g rs).Pairwise λe f=>e.a≠f.a):
  kr w d c l out:=by
 revert K hc F OF OE;ext w d dh hk c l out nh J orc ix r ⟨nw,ng⟩;ext nw ng;intro K hc F OF OE;intro A s hA T H;ext A s ⟨hA,T,H⟩;obtain⟨n,t,g,S⟩:=T.st H F;ext n t g ⟨S⟩;refine rd (v:=lh w d dh hk) K (hA) (l:=l) (S) hc nh J orc ix (λrs=>.ret (r n t g rs)) (λrs=>l.map some++(nw n t g rs).map some) (ng n t g) (OF n t g) (λrs s' OG D=>?_);ext rs s' ⟨OG,D⟩;obtain⟨x,y,z,h⟩:=OE n t g rs OG;obtain⟨h1,h2,h3,h4,h5⟩:=h (s'.heap.objs.size - 158) (s'.toks - 1) s'.gens.size;exact⟨_,h1,bu.step D H h2 h3 S.size T.toks h4 h5⟩
theorem ah {α:Type} {P:α->Prop} {a:α} {l:List α} (h:P a) (t:∀f∈l,P f):∀f∈a::l,P f:=λf hf=>by
 rcases aY.mp hf with rfl|hf
 .exact h
 .exact t f hf
theorem aE {α:Type} {P:α->Prop}:∀f∈([]:List α),P f:=λU h=>nomatch h
def zh:List ad->Nat->Option ad
 |[],_=>none
 |e::_,0=>some e
 |_::r,i+1=>zh r i
theorem gx:∀{i},zh L i=some e->e∈L:=by
 induction L with
 |nil=>exact λh=>by simp[zh] at h
 |cons x r ih=>
  intro i h;cases i with
  |zero=>rw[<-Option.some.inj h];exact .head _
  |succ i=>exact .tail _ (ih h)
theorem aQ.nth (H:aQ s L) (i) (h:zh L i=some ⟨a,o⟩):s.heap.get? a=some o:=H ⟨a,o⟩ (gx h)
def cH (x k:Nat):Nat:=match Nat.beq (x/2^k%2) 1 with
 |true=>65+k
 |false=>97+k
def hG (x k:Nat):Str:=⟨#[cH x k]⟩
def vi (x k tx tk:Nat):Code:=.call (.ref 130) ⟨[.int x (tx+1),.int k (tk+1)],[]⟩
def ks:List (Nat×Nat):=[(0,0),(0,1),(0,2),(1,0),(1,1),(1,2),(2,0),(2,1),(2,2),(3,0),(3,1),(3,2),(4,0),(4,1),(4,2),(5,0),(5,1),(5,2),(6,0),(6,1),(6,2),(7,0),(7,1),(7,2)]
def uG:Nat:=0xa0280a000002280a0280a020482
def uH (w:World) (tx tk n t g:Nat) (p:Nat×Nat):gt:=fw (aG w 800) 200 (vi p.1 p.2 tx tk) .top (aM (vi p.1 p.2 tx tk)) uG (E0 []) (M0 []) (n+158) 0 (t+1) 0 g 0 (L0 [])
theorem xC (w tx tk n t g):ks.map (λp=>oL [] (uH w tx tk n t g p))=ks.map (λp=>oM (.ret (.ok (.ret (.str (hG p.1 p.2) (t+10))))) [] [] (uH w tx tk n t g p)):=by kernel_rfl
theorem Ds (hx:x<8) (hk:k<3):(x,k)∈ks:=by
 have:∀x<8,∀k<3,(x,k)∈ks:=by decide
 exact this x hx k hk
theorem mW {α β:Type} {f g:α->β} {l:List α} (h:l.map f=l.map g) {a:α} (J:a∈l):f a=g a:=List.map_inj_left.mp h a J
theorem bJ (f a):bq (.call f a):=ba rfl
theorem cj:aj []:=⟨.nil,λU h=>nomatch h⟩
theorem xD (w) (hx:x<8) (hk:k<3) (tx tk):kr w 800 (vi x k tx tk) [] λρ=>⟨.ok (.ret (.str (hG x k) (ρ.x+1))),[],[]⟩:=
 l9 (bx w (by decide)) (bJ _ _) cj 0 200 uG [] (λU t U U=>.ok (.ret (.str (hG x k) (t+10)))) (λU U U U=>[]) (λU U U U=>[])
  (λn t g rs h=>by
   obtain rfl:=dI.mp h;exact mW (xC w tx tk n t g) (Ds hx hk))
  (λU t U U U=>⟨t+9,0,0,λU U U=>⟨rfl,rfl,rfl,λU h=>(nomatch h),.nil⟩⟩)
def iI (w:World) (a:Nat):FuncData:=match(hd.ktop_282 w.params).get a with
 |some o=>match o.data with
  |.func J=>J
  |_=>default
 |none=>default
def ej (w:World) (a J:Nat):Env:=
 {scope:=(iI w a).scope,locals:=J,globals:=(iI w a).globals,cells:=[],qual:=(iI w a).qualname++⟨#[46,60,108,111,99,97,108,115,62,46]⟩,func:=some a,code:=(iI w a).code,frame:=some J,builtins:=(iI w a).builtins}
def bU (w:World) (a:Nat):List Stmt:=match(iI w a).body with
 |.stmts b=>b
 |_=>[]
def Fv (st:Stmt) (it:Value) (J:Env):Code:=match st with
 |.For t _ b o _=>.forLoop t it b o J
 |_=>default
def bV:List Stmt->Nat->Stmt
 |s::_,0=>s
 |_::r,n+1=>bV r n
 |[],_=>.Pass default
def aB (w:World) (x:Str):Int:=reduceHash (w.params.strHash x.cps)
def tL (K:Nat->Int×Nat):Nat->List (Str×Value)->List DictEntry
 |_,[]=>[]
 |i,(k,v)::r=>⟨(K i).1,.str k ((K i).2+1),v⟩::tL K (i+1) r
def bW (ep:Nat) (K:Nat->Int×Nat) (J:List (Str×Value)):Obj:=⟨.type "frame",none,.dict (tL K 0 J).toArray ep,#[]⟩
def ik {α:Type} (K:Nat->α) (i:Nat) (x:α):Nat->α:=λj=>match Nat.beq j i with
 |true=>x
 |false=>K j
def aa (xs:List Value) (ep:Nat):Obj:=⟨.type "list",none,.seq xs.toArray ep,#[]⟩
def bt (xs:List Value):Obj:=⟨.type "tuple",none,.seq xs.toArray 0,#[]⟩
def dy (c:String) (vs:List Value):Obj:=⟨.type c,none,.fields vs.toArray,#[]⟩
theorem cA {α:Type} (m:Sem α) (k:α->Sem Fin) (s)
  (h:wpAny M (A.over c fs) m (λa J=>Seg M A R Y n s₀ c (k a) fs J) (λU U=>False) s):Seg M A R Y n s₀ c (m.bind k) fs s:=
 seg_bind (dR h (λU U x=>x) λU U x=>x.elim)
def gP (t:Nat):Obj:=dy "StopIteration" [.ref t,.none,.none,.none,.bool false,.none]
theorem nr:∀{w:World} {A:Around} {s:Shared} {a:Addr} {g n:Nat} {gs:GenState} {P:Nat->Shared->Shared->Prop} {Y:Protocol} {R:Result->Shared->Prop} (hh:A.handled=none)
  (hl:s.heap.NoLimit) (OF:A.depth<recursionLimit)
  (hg:s.heap.IsGen a g) (OH:s.gens[g]? =some gs)
  (OG:gs.Goes (model pw w) A.in1 (λn s₀ r J=>r=.ok (.ret .none)/\P n s₀ J) Y n (.send .none) (s.setGen g .running))
  (hY:∀v J OE,OE.bare=true->Y (n - 1) (s.setGen g .running) v J (λr' OI=>match n with
    |0=>False
    |m+1=>OE.Goes (model pw w) A.in1 (λn s₀ r J=>r=.ok (.ret .none)/\P n s₀ J) Y m r' OI)->R (.ok (.ret v)) (J.setGen g OE))
  (hP:∀J,P n (s.setGen g .running) J->R (.error (.ref (J.heap.push (bt [])).objs.size)) {J.setGen g .finished with heap:=(J.heap.push (bt [])).push (gP J.heap.objs.size)}),codeAny (model pw w) A (.call (.builtin "generator.__next__") ⟨[.ref a],[]⟩) R s:=by
 ext w A s a g n gs P Y R:0;intro hh hl OF hg OH OG hY hP;refine codeAny_call_builtin slot_gen_next.plain entry_gen_next (slot_gen_next.check _ _ _ _ _ _ _ _ hg.typeIs (args_gen_next _) ?_);show wpAny _ _ (Builtin.Generator.genWake (.ref a) (.send .none)) _ _ s;dsimp only[Builtin.Generator.genWake];refine ao (wpAny_holding (wpAny_genNumber hg (ao (wpAny_genState OH ?_))));cases gs with
 |running=>exact OG.elim
 |finished=>exact OG.elim
 |_=>
  refine ao (wpAny_roomToWake hl OF ?_);show wpAny _ _ (.resume g (.send .none) [] _) _ _ s;refine wpAny_resumeQ OH OG (λx J hx=>?_) (λv J OE hb hv=>?_)
  .obtain⟨rfl,hp⟩:=hx;show wpAny _ _ (newExc (.type "StopIteration") []>>=_) _ _ _;refine ao ?_;simp only[newExc,newTuple];refine ao (wpAny_newObj_type ?_ (by size_fits));refine ao (m:=firstArgMember _ _) (wpAny_of_eq (a:=Value.none) (by first|rfl|(simp only[firstArgMember];rfl)) ?_);refine wpAny_newObj_type ?_ (by size_fits);simp only[raiseNew];refine ao (ao (wpAny_handled ?_));rw[show A.in1.handled=none from hh];exact wpAny_throw (hP J hp)
  .exact aH (hY v J OE hb hv)
def gB:List Nat->List Nat->Bool
 |[],[]=>true
 |a::r,b::q=>match Nat.beq a b with
  |true=>gB r q
  |false=>false
 |_,_=>false
theorem mB:∀l,gB l l=true
 |[]=>rfl
 |a::r=>by dsimp only[gB];rw[show Nat.beq a a=true from by simp];exact mB r
def zi:List Nat:=[115,121,115,46,114,101,99,117,114,115,105,111,110,108,105,109,105,116]
def mX (l:List Nat):Value->Bool
 |.str s _=>match gB s.cps.toList l with
  |true=>false
  |false=>true
 |_=>false
def vI {α:Type} (p:α->Bool):List α->Bool
 |[]=>true
 |a::r=>match p a with
  |true=>vI p r
  |false=>false
set_option tactic.hygienic true in
theorem rf {α:Type} {p:α->Bool}:∀{l:List α},vI p l=true->∀x∈l,p x=true
 |[],_,_,h=>nomatch h
 |a::r,h,x,hx=>by
  dsimp only[vI] at h;split at h
  .rename_i J;rcases aY.mp hx with rfl|hx
   .exact J
   .exact rf h x hx
  .cases h
def Iy (o:Option Obj):Bool:=match o with
 |some o=>match o.data with
  |.dict es _=>vI (λ(e:DictEntry)=>mX zi e.key) es.toList
  |_=>false
 |none=>false
theorem Iz (w):Iy ((kt w).get 2)=true:=by kernel_rfl
set_option tactic.hygienic true in
theorem aK.noLimit:∀{w s} (T:aK w s),s.heap.NoLimit:=by
 ext w s:0;intro T;have h:=Iz w;unfold Iy at h;split at h
 .rename_i o ho;split at h
  .rename_i es ep hd;have hk:=rf h;refine⟨nsFind es,⟨o,es,ep,T.top 2 o ho,hd,λe J=>?_,λU=>rfl⟩,?_⟩
   .have z:=hk e (by simpa using J);unfold mX at z;split at z
    .exact⟨_,_,by assumption⟩
    .cases z
   .show(es.find? _).map _=none;rw[Option.map_eq_none_iff,Array.find?_eq_none];intro e J hq;have z:=hk e (by simpa using J);unfold mX at z;split at z
    .rename_i s' t' hs;rw[hs] at hq;have e1:s'=⟨zi.toArray⟩:=by
      have:s'=Str.ofString "sys.recursionlimit" :=by simpa[Value.isStr] using hq
      assumption
     subst e1;rw[show(⟨zi.toArray⟩:Str).cps.toList=zi from rfl,mB] at z;cases z
    .cases z
  .cases h
 .cases h
theorem cJ.same (J:s.heap.objs.size=n+158) (h3:s.toks<=t+1):
  cJ s {s with toks:=t+1} ⟨n,t,s.gens.size,x,y,z⟩ ⟨r,[],[]⟩:=
 ⟨J,bg _,rfl,h3,rfl,rfl,rfl,λU U h=>h,λU U h U=>h,λU h=>(nomatch h),λU h=>(nomatch h),List.Pairwise.nil⟩
theorem cJ.set1 {s:Shared} {n t x y z k:Nat} {a:Addr} {o o':Obj} {f:Obj->Obj} {r:Result} (J:s.heap.objs.size=n+158) (h3:s.toks<=t+1) (ho:s.heap.get? a=some o) (hf:f o=o') (hn:o'.isFreed=false):
  cJ s {s with heap:=s.heap.update a f,toks:=t+1} ⟨n,t,s.gens.size,x,y,z⟩ ⟨r,[(k,a,o')],[]⟩:=by
 ext s n t x y z k a o o' f r ⟨J,h3,ho,hf,hn⟩;have hs:Heap.SameBut a s.heap (s.heap.update a f):=Heap.SameBut.update ..;subst hf;refine⟨?_,?_,rfl,h3,rfl,rfl,rfl,λU U h=>h,λb o h hb=>?_,λq hq=>?_,λU h=>(nomatch h),List.Pairwise.nil⟩
 .show(s.heap.update a f).objs.size=n+158;rw[hs.1];exact J
 .show _<=(s.heap.update a f).objs.size;rw[hs.1];exact bg _
 .exact(hs.2 b (λe=>hb _ aJ e.symm)).trans h
 .ext q ⟨hq⟩;cases hq with
  |head=>exact Heap.get?_update_self _ ho hn
  |tail _ h=>cases h
theorem aK.nat (T:aK w s):∃n t,s.heap.objs.size=n+158/\s.toks=t+1:=
 ⟨s.heap.objs.size - 158,s.toks - 1,by have:=T.size;exact vz this,by have:=T.toks;exact vz this⟩
theorem cJ.push (h:cJ s s' ρ o) (hx:x.isFreed=false):
  cJ s {s' with heap:=s'.heap.push x} ⟨ρ.n+1,ρ.t,ρ.g,ρ.x,ρ.y,ρ.z⟩ ⟨o.r,o.sets,o.news++[⟨ρ.n+158,x⟩]⟩:=by
 have J:s'.heap.objs.size=ρ.n+158:=h.size;refine⟨?_,?_,h.toks,h.tmore,h.gens,h.drawn,h.os,h.gkeep,λa y e q=>ju _ (h.keep a y e q),λq hq=>ju _ (h.sets q hq),λe he=>?_,?_⟩
 .show(s'.heap.push x).objs.size=ρ.n+1+158;rw[k8];exact Iu (ii J) (fk J)
 .show _<=(s'.heap.push x).objs.size;rw[k8];have:=h.more;exact j4 this
 .rcases dk.mp he with he|he
  .have:=h.news e he;exact⟨ju _ this.1,this.2⟩
  .rw[cD] at he;subst he;refine⟨?_,?_⟩
   .show(s'.heap.push x).get? (ρ.n+158)=some x;rw[<-J];exact Heap.get?_push_size _ hx
   .have:=h.more;show _<=ρ.n+158;exact au (ax (fk J) this)
 .refine List.pairwise_append.mpr ⟨h.apart,by simp,λe he f hf=>?_⟩;rw[cD] at hf;subst hf;have:=(h.news e he).1;have:=fv this;show e.a≠ρ.n+158;rw[J] at this;exact ld this
theorem cz {T id:String} {OH:Str} {B:Builtin} {J:Value} {rest:List Value} {A:Around} {R:Result->Shared->Prop} {s:Shared} {w:World} (OE:Slot T OH id) (hT:s.TypeIs J T)
  (OF:entryFor table id=some B) (OG:argsOk id ⟨J::rest,[]⟩)
  (h:wpAny (model pw w) A.in1 (B ⟨J::rest,[]⟩) (λOI s'=>match OI with|.done f=>R (.ok f) s'|.again c'=>c'.quiet=true/\codeAny (model pw w) A c' R s') (λe s'=>R (.error e) s') s):
  bf (model pw w) A (.call (.builtin id) ⟨J::rest,[]⟩) R s:=
 bf.of_code (codeAny_call_builtin OE.plain OF (OE.check _ _ _ _ _ _ _ _ hT OG h))
theorem cE {T id:String} {OG:Str} {B:Builtin} {J:Value} {rest:List Value} {m:Made} {A:Around} {R:Result->Shared->Prop} {s:Shared} {w:World} (OH:Slot T OG id) (hT:s.TypeIs J T)
  (OE:entryFor table id=some B) (OF:argsOk id ⟨J::rest,[]⟩) (g:Gives (B ⟨J::rest,[]⟩) m) (h:m.post (λv s'=>R (.ok (.ret v)) s') s):
  bf (model pw w) A (.call (.builtin id) ⟨J::rest,[]⟩) R s:=cz OH hT OE OF (g pw w A R s h)
def aF (x y:Str) (b:Bool):aq:=λc _=>some ⟨[],[(c,.call (.builtin "str.__eq__") ⟨[.str x (cq (bI c 0)),.str y (cq (bI c 1))],[]⟩)],.pure 0 λ_=>.ok (.ret (.bool b))⟩
theorem aO {w:World} {dh:Nat} {x y:Str} {b:Bool} (h:(x.cps.toList==y.cps.toList)=b):ai w dh (aF x y b):=bj λc lk A s hA hT J=>cE F.slot_str_eq (typeIs_str s _ _) F.entry_str_eq (F.args_str_eq_2 _ _) (gives_str_eq x y _ _) ⟨congrArg (λb=>Except.ok (Flow.ret (Value.bool b))) h,rfl⟩
def dB (x:Str) (t i:Nat):Obj:=dy "str_ascii_iterator" [.str x (t+1),.int (i:Int) 0]
def vJ (i:Nat):Obj:=dy "str_ascii_iterator" [.none,.int (i:Int) 0]
def vK (a:Nat):Code:=.call (.builtin "str_ascii_iterator.__next__") ⟨[.ref a],[]⟩
def rg (k a:Nat) (x:Str) (t i c:Nat):aq:=fX (vK a) [(k,a,dB x t i)] (.gen λρ=>⟨.ok (.ret (.str ⟨#[c]⟩ (ρ.x+1))),[(k,a,dB x t (i+1))],[]⟩)
def tM (k a:Nat) (x:Str) (t i:Nat):aq:=fX (vK a) [(k,a,dB x t i)] (.gen λρ=>⟨.error (.ref (ρ.x+159)),[(k,a,vJ i)],[⟨ρ.x+158,bt []⟩,⟨ρ.x+159,gP (ρ.x+158)⟩]⟩)
theorem xE:∀{w:World} {dh k a:Nat} {x:Str} {t i c:Nat} (h:x.cps[i]? =some c),ai w dh (rg k a x t i c):=by
 ext w dh k a x t i c:0;intro h;refine eJ λA s hA hT hq=>?_;ext A s ⟨hA,hT,hq⟩;have J:s.heap.get? a=some (dB x t i):=hq _ aJ;refine cz F.slot_str_ascii_iterator_next (⟨_,J,rfl⟩:Shared.TypeIs _ (.ref a) "str_ascii_iterator") F.entry_str_ascii_iterator_next (F.args_str_ascii_iterator_next_1 _) ?_;show wpAny _ _ (field (.ref a) 0>>=_) _ _ s;refine ao (lT J rfl (x:=.str x (t+1)) rfl ?_);show wpAny _ _ (field (.ref a) 1>>=_) _ _ s;refine ao (lT J rfl (x:=.int i 0) rfl ?_);simp only[rR,h];refine ao (wpAny_setField J rfl (by constructor<;>rfl) (ao (wpAny_mkStr (aH ?_) (by show 1<=sizeLine;decide))));obtain⟨n,t',hn,ht⟩:=hT.nat;refine⟨⟨n,t'+1,s.gens.size,t',0,0⟩,?_,?_⟩
 .show Except.ok (Flow.ret (Value.str _ s.toks))=_;rw[ht]
 .rw[ht];exact cJ.set1 hn (Dn ht) J rfl rfl
theorem zj:∀{w:World} {dh k a:Nat} {x:Str} {t i:Nat} (h:x.cps[i]? =none),ai w dh (tM k a x t i):=by
 ext w dh k a x t i:0;intro h;refine eJ λA s hA hT hq=>?_;ext A s ⟨hA,hT,hq⟩;have J:s.heap.get? a=some (dB x t i):=hq _ aJ;have OF:=hT.size;refine cz F.slot_str_ascii_iterator_next (⟨_,J,rfl⟩:Shared.TypeIs _ (.ref a) "str_ascii_iterator") F.entry_str_ascii_iterator_next (F.args_str_ascii_iterator_next_1 _) ?_;show wpAny _ _ (field (.ref a) 0>>=_) _ _ s;refine ao (lT J rfl (x:=.str x (t+1)) rfl ?_);show wpAny _ _ (field (.ref a) 1>>=_) _ _ s;refine ao (lT J rfl (x:=.int i 0) rfl ?_);simp only[rR,h];refine ao (wpAny_rule (ao (wpAny_setField J rfl (by simp) (ao (wpAny_letGo ?_)))));show wpAny _ _ (newExc (.type "StopIteration") []>>=_) _ _ _;refine ao ?_;simp only[newExc,newTuple];refine ao (wpAny_newObj_type ?_ (by size_fits));refine ao (m:=firstArgMember _ _) (wpAny_of_eq (a:=Value.none) (by first|rfl|(simp only[firstArgMember];rfl)) ?_);refine wpAny_newObj_type ?_ (by size_fits);simp only[raiseNew];refine ao (wpAny_handled ?_);rw[show A.in1.handled=none from hA.hd];refine ao (aH (wpAny_throw ?_));obtain⟨n,t',hn,ht⟩:=hT.nat;have OE:(s.heap.update a (Obj.mapFields λx=>x.setIfInBounds 0 .none)).objs.size=n+158:=by rw[<-hn];exact(Heap.SameBut.update ..).1
 refine⟨⟨n+2,t',s.gens.size,n,0,0⟩,?_,?_⟩
 .rw[k8,OE]
 .rw[OE,ht];exact ((cJ.set1 (r:=.error (.ref (n+159))) (o':=vJ i) hn (j9 ht) J rfl rfl).push (x:=bt []) rfl).push (x:=gP (n+158)) rfl
def MO:Option Value->Sem Fin
 |none=>.pure (.done .next)
 |some v=>.pure (.done (.ret v))
def d8 (x:Value):Sem Fin:=R.bindR (Fast.tw9404975358583537561 x) MO
theorem i9 {v:V} {w:World} (K:lZ v w) {A:Around} (hA:aL v.d₀ A) {l:List ad} {n t g:Nat} {s:Shared} (S:St v.kt l n t g s) {x:Value} {Q:Option Value->Shared->Prop} {E:Value->Shared->Prop}
  (nh J orc:Nat) (ix:List Nat) (sh:List HR->Sh) (OG:List HR->List (Option ad)) (ng:List HR->List (Nat×Code))
  (OF:∀rs,rs.length=nh->ay v J default .base (d8 x) orc l n t g rs ix (sh rs) (OG rs) (ng rs))
  (OE:∀rs s',rs.length=nh->bu v.kt s s' (l.map (·.a)) (OG rs) (ng rs)->match sh rs with
   |.fin (.done .next)=>Q none s'
   |.fin (.done (.ret v))=>Q (some v) s'
   |_=>False):wpAny (model v.prog w) A (pyNext x) Q E s:=by
 revert K hA S OF OE;ext v w A l n t g s x Q E nh ⟨J,orc,ix,sh,OG,ng⟩;ext J orc ix sh OG ng;intro K hA S OF OE;have h:wpAny (model v.prog w) A (d8 x) (λf s'=>match f with|.done .next=>Q none s'|.done (.ret v)=>Q (some v) s'|_=>False) (λU U=>False) s:=by
  refine di (B:=λt s=>wpAny (model v.prog w) A t (λf s'=>match f with|.done .next=>Q none s'|.done (.ret v)=>Q (some v) s'|_=>False) (λU U=>False) s) K hA S (c:=default) (tr:=d8 x)
   (λm k s h=>ao h) nh J orc ix sh OG ng OF λrs s' h D=>?_
  ext rs s' ⟨h,D⟩;have z:=OE rs s' h D;cases hs:sh rs with
  |fin f=>
   rw[hs] at z;cases f with
   |done fl=>cases fl with
    |next=>exact aH z
    |ret v=>exact aH z
    |_=>exact z.elim
   |again c=>exact z.elim
  |_=>rw[hs] at z;exact z.elim
 unfold d8 at h;rw[<-R.bindR_eq,<-Fast.te9404975358583537561] at h;intro Γ p OH;have h1:=h Γ p OH;rw[Sem.wp_bind] at h1;refine Sem.wp_mono _ Γ _ (λr p' s' q=>?_) (λU U U x=>x.elim) p s h1;cases r with
 |none=>exact q
 |some y=>exact q
theorem jA {α:Type} {m:Sem α} {K:α->Sem Fin}
  (hm:wpAny M (A.over c fs) m (λa J=>Seg M A R Y n s₀ c ((K a).onRaise h) fs J) (λU U=>False) s):Seg M A R Y n s₀ c ((m>>=K).onRaise h) fs s:=by
 rw[Sem.bind_eq_wrap',Sem.onRaise_eq_wrap,Sem.wrap_wrap];refine seg_wrap (dR hm (λa J x=>?_) λU U x=>x.elim);rw[<-Sem.onRaise_eq_wrap];exact x
def IA (J:Env) (x:Value):Sem Unit:=R.bindR (Fast.tw17872113653443481271 x J) λU=>Fast.tw1623429502029203251 x
def zk (J:Expr) (it v:Value) (OF OE:List Stmt) (OG:Env):Sem Fin:=
 R.onRaiseR (R.bindR (Fast.tw17772580674575903948 J OG v) λU=>R.bindR (Fast.tw12563942051412417395 OF OG) λf=>match f with
  |.next=>.pure (.again (.forLoop J it OF OE OG))
  |.cont=>.pure (.again (.forLoop J it OF OE OG))
  |.brk=>.pure (.done .next)
  |.ret v=>.pure (.done (.ret v))) (IA OG)
theorem yj {w:World} {A:Around} {Re:GenEnd} {Y:Protocol} {n:Nat} {s₀:Shared} {c:Code} {fs:List Frame} {s:Shared} {OE:Expr} {it:Value} {OF J:List Stmt} {OG:Env}
  (h:wpAny (model pw w) (A.over c fs) (pyNext it) (λr s'=>match r with
   |none=>Seg (model pw w) A Re Y n s₀ c (.pure (.again (.block J OG))) fs s'
   |some v=>wpAny (model pw w) (A.over c fs) (letOwnedTupleGo OE it v) (λU s''=>Seg (model pw w) A Re Y n s₀ c (zk OE it v OF J OG) fs s'') (λU U=>False) s') (λU U=>False) s):
  Seg (model pw w) A Re Y n s₀ c ((model pw w).den (.forLoop OE it OF J OG)) fs s:=by
 show Seg _ _ _ _ _ _ _ ((forTurn OE it OF J OG).onRaise (λx=>do noteFrame x OG;theTreesLotGoes x)) _ _;unfold forTurn;refine jA (wpAny_standAt (jA (dR (wpAny_onRaise (dR h (λr s' x=>x) λU U x=>x.elim)) (λr s' x=>?_) λU U x=>x)));cases r with
 |none=>exact x
 |some v=>
  refine jA (dR x (λU s'' y=>?_) λU U x=>x);unfold zk IA at y;rw[<-R.bindR_eq,<-R.onRaiseR_eq,<-Fast.te17772580674575903948,<-Fast.te12563942051412417395,<-Fast.te17872113653443481271,<-Fast.te1623429502029203251] at y;exact y
def nt:Str:=⟨#[97,100,100,114]⟩
def nu:Str:=⟨#[112,111,115]⟩
def zm:Str:=⟨#[101,115,99,97,112,101]⟩
def rX:Str:=⟨#[99,104]⟩
def bs:Str:=⟨#[92]⟩
def tO (ep:Nat) (K:Nat->Int×Nat) (x:Str) (tx:Nat) (p:Int) (J:Nat) (e:Bool):Obj:=bW ep K [(nt,.str x (tx+1)),(nu,.int p J),(zm,.bool e)]
def ja (ep:Nat) (K:Nat->Int×Nat) (x:Str) (tx:Nat) (p:Int) (J:Nat) (e:Bool) (y:Str) (ty:Nat):Obj:=bW ep K [(nt,.str x (tx+1)),(nu,.int p J),(zm,.bool e),(rX,.str y (ty+1))]
def jb (it i:Nat) (l:Value):Obj:=dy "enumerate" [.none,.bool false,.ref it,.int (i:Int) 0,.none,l]
def vj (it i a:Nat) (l:Value):Obj:=dy "enumerate" [.int a 0,.bool false,.ref it,.int (i:Int) 0,.none,l]
theorem Bp (w a1 a2 x tx i c L n t g ρ):
  ay (vL w 800 900 [rg 0 (a1+158) x tx i c]) 100 default .base (d8 (.ref (a2+158))) 0x284a1284a1284a1284a1284a1284a1284a1004a0284a1000a1 [⟨a1+158,dB x tx i⟩,⟨a2+158,jb (a1+158) i L⟩] n t g [ρ] [0,1,2]
   (.fin (.done (.ret (.ref (ρ.n+158))))) [some ⟨a1+158,dB x tx (i+1)⟩,some ⟨a2+158,vj (a1+158) (i+1) (ρ.n+158) (.str ⟨#[c]⟩ (ρ.x+1))⟩,some ⟨ρ.n+158,bt [.int i (ρ.t+1),.str ⟨#[c]⟩ (ρ.x+1)]⟩] []:=by kernel_rfl
theorem Dt (w a1 a2 x tx i L n t g ρ):
  ay (vL w 800 900 [tM 0 (a1+158) x tx i]) 100 default .base (d8 (.ref (a2+158))) 0xa3004a0284a1000a1 [⟨a1+158,dB x tx i⟩,⟨a2+158,jb (a1+158) i L⟩] n t g [ρ] []
   (.fin (.done .next)) [] []:=by kernel_rfl
def Dv (w:World):Expr:=match bV (bU w 38) 2 with
 |.For t _ _ _ _=>t
 |_=>default
def Fw (w:World):List Stmt:=match bV (bU w 38) 2 with
 |.For _ _ b _ _=>b
 |_=>[]
def nv (w:World) (a0 a2 b:Nat):Sem Fin:=zk (Dv w) (.ref (a2+158)) (.ref (b+158)) (Fw w) [] (ej w 38 (a0+158))
def cW (w:World) (a0 a2:Nat):Code:=.forLoop (Dv w) (.ref (a2+158)) (Fw w) [] (ej w 38 (a0+158))
def oE (w:World) (c:Nat) (b:Bool):V:=vL w 800 900 [aF ⟨#[c]⟩ bs b,aF ⟨#[c]⟩ bs b]
def fY:Nat:=0xa1000a1284a1+((rp 0x288a1288a228800288a2 0 80 3)+0xa028002280a0280a0280a0290a2<<<240)<<<50
def vM:Nat:=fY - (83967921<<<371)
theorem KA (a0 a2 b ep K x tx p tp i ti c tc n t g):∀w,ay (oE w c false) 200 default .base (nv w a0 a2 b) fY [⟨a0+158,tO ep K x tx p tp false⟩,⟨b+158,bt [.int i ti,.str ⟨#[c]⟩ (tc+1)]⟩] n t g [] [0,5]
   (.yield (.ref (n+158+3))) [some ⟨a0+158,ja (ep+1) (ik K 3 (aB w rX,t+1)) x tx i ti false ⟨#[c]⟩ tc⟩,some ⟨n+158+3,bt [.int i ti,.str ⟨#[c]⟩ (tc+1)]⟩] []:=aT
theorem KB (a0 a2 b ep K x tx p tp y ty i ti c tc n t g):∀w,ay (oE w c false) 200 default .base (nv w a0 a2 b) fY [⟨a0+158,ja ep K x tx p tp false y ty⟩,⟨b+158,bt [.int i ti,.str ⟨#[c]⟩ (tc+1)]⟩] n t g [] [0,5]
   (.yield (.ref (n+158+3))) [some ⟨a0+158,ja ep K x tx i ti false ⟨#[c]⟩ tc⟩,some ⟨n+158+3,bt [.int i ti,.str ⟨#[c]⟩ (tc+1)]⟩] []:=aT
theorem N5 (a0 a2 b ep K x tx p tp i ti tc n t g):∀w,ay (oE w 92 true) 200 default .base (nv w a0 a2 b) fY [⟨a0+158,tO ep K x tx p tp false⟩,⟨b+158,bt [.int i ti,.str bs (tc+1)]⟩] n t g [] [0]
   (.fin (.again (cW w a0 a2))) [some ⟨a0+158,ja (ep+1) (ik K 3 (aB w rX,t+1)) x tx i ti true bs tc⟩] []:=aT
theorem N6 (a0 a2 b ep K x tx p tp y ty i ti tc n t g):∀w,ay (oE w 92 true) 200 default .base (nv w a0 a2 b) fY [⟨a0+158,ja ep K x tx p tp false y ty⟩,⟨b+158,bt [.int i ti,.str bs (tc+1)]⟩] n t g [] [0]
   (.fin (.again (cW w a0 a2))) [some ⟨a0+158,ja ep K x tx i ti true bs tc⟩] []:=aT
theorem MP (a0 a2 b ep K x tx p tp y ty i ti c tc n t g be):∀w,ay (oE w c be) 200 default .base (nv w a0 a2 b) vM [⟨a0+158,ja ep K x tx p tp true y ty⟩,⟨b+158,bt [.int i ti,.str ⟨#[c]⟩ (tc+1)]⟩] n t g [] [0,5]
   (.yield (.ref (n+158+3))) [some ⟨a0+158,ja ep K x tx i ti true ⟨#[c]⟩ tc⟩,some ⟨n+158+3,bt [.int i ti,.str ⟨#[92,c]⟩ (t+4)]⟩] []:=aT
def gK (w:World) (c:Nat) (e:Bool) (a0 a2 b orc:Nat) (l:List ad) (n t g:Nat):Resume->Sem Fin:=
 (fw (oE w c e) 200 default .base (nv w a0 a2 b) orc (E0 l) (M0 l) (n+158) 0 (t+1) 0 g 0 (L0 [])).kontY
theorem IB (a0 a2 b ep K x tx p tp i ti c tc n t g n' t' g'):∀w,ay (aG w 800) 200 default .base (gK w c false a0 a2 b fY [⟨a0+158,tO ep K x tx p tp false⟩,⟨b+158,bt [.int i ti,.str ⟨#[c]⟩ (tc+1)]⟩] n t g (.send .none)) 0 [] n' t' g' [] []
   (.fin (.again (cW w a0 a2))) [] []:=aT
theorem IC (a0 a2 b ep K x tx p tp y ty i ti c tc n t g n' t' g'):∀w,ay (aG w 800) 200 default .base (gK w c false a0 a2 b fY [⟨a0+158,ja ep K x tx p tp false y ty⟩,⟨b+158,bt [.int i ti,.str ⟨#[c]⟩ (tc+1)]⟩] n t g (.send .none)) 0 [] n' t' g' [] []
   (.fin (.again (cW w a0 a2))) [] []:=aT
theorem KC (a0 a2 b ep ep' K K' x x' tx tx' p p' tp tp' y y' ty ty' i ti c tc n t g n' t' g' be):∀w,ay (aG w 800) 200 default .base (gK w c be a0 a2 b vM [⟨a0+158,ja ep K x tx p tp true y ty⟩,⟨b+158,bt [.int i ti,.str ⟨#[c]⟩ (tc+1)]⟩] n t g (.send .none)) 164000
   [⟨a0+158,ja ep' K' x' tx' p' tp' true y' ty'⟩] n' t' g' [] [0]
   (.fin (.again (cW w a0 a2))) [some ⟨a0+158,ja ep' K' x' tx' p' tp' false y' ty'⟩] []:=aT
def ny (x:Str) (tx:Nat):aq:=fX (.call (.type "enumerate") ⟨[.str x (tx+1)],[]⟩) [] (.gen λρ=>⟨.ok (.ret (.ref (ρ.x+159))),[],[⟨ρ.x+158,dB x tx 0⟩,⟨ρ.x+159,jb (ρ.x+158) 0 .none⟩]⟩)
set_option tactic.hygienic true in
theorem xF:∀{w dh x tx} (hx:x.cps.all (·<128)=true),ai w dh (ny x tx):=by
 ext w dh x tx:0;intro hx;refine eJ λA s hA hT _=>?_;rename_i J;ext A s ⟨hA,hT,J⟩;obtain⟨n,t,hn,ht⟩:=hT.nat;ext n t ⟨hn,ht⟩;refine bf.mono (bf.of_call (Q:=λv s'=>v=.ref (n+159)/\cJ s s' ⟨n+2,t,s.gens.size,n,0,0⟩ ⟨.ok (.ret v),[],[⟨n+158,dB x tx 0⟩,⟨n+159,jb (n+158) 0 .none⟩]⟩) ?_) ?_
 .refine callType_new F.called_enumerate (by decide) (F.typeCall_enumerate_1 _) (F.newCall_enumerate_1 _) (λOE=>F.args_object_init_2 OE _) F.entry_enumerate_new
   (meets_enumerate_newS x (tx+1)) ?_
  have hz:(s.heap.push {cls:=.type (strIterType x),data:=.fields #[.str x (tx+1),.int 0 0]}).objs.size=n+159:=by rw[k8,hn]
  have hs:strIterType x= "str_ascii_iterator" :=by unfold strIterType;rw[hx];rfl
  show _/\_;rw[hz,hn,hs];have P:=cJ.same (s:=s) (n:=n) (t:=t) (x:=n) (y:=0) (z:=0) (r:=.ok (.ret (.ref (n+159)))) hn (j9 ht);rw[<-ht] at P;have P2:=(P.push (x:=dB x tx 0) rfl).push (x:=jb (n+158) 0 .none) rfl;have:=P2.news ⟨n+159,jb (n+158) 0 .none⟩ cy;exact⟨⟨jb (n+158) 0 .none,this.1,rfl⟩,rfl,P2⟩
 .rintro r s' ⟨v,rfl,rfl,h⟩;exact⟨_,rfl,h⟩
def oS (ep:Nat) (K:Nat->Int×Nat) (x:Str) (tx:Nat):Obj:=bW ep K [(nt,.str x (tx+1))]
def cC (w:World) (a0:Nat):Code:=.func (bU w 38) (ej w 38 (a0+158))
def rh:Nat:=0xffca228800288a2004a000003280a0280a0
theorem ID (a0 ep K x tx n t g ρ):∀w,ay (vL w 800 900 [ny x tx]) 100 default .base (aM (cC w a0)) rh [⟨a0+158,oS ep K x tx⟩] n t g [ρ] [0,1,2]
   (.call false default (cW w a0 (ρ.x+1)) false) [some ⟨a0+158,tO (ep+2) (ik (ik K 1 (aB w nu,t+1)) 2 (aB w zm,t+2)) x tx 0 (t+1) false⟩,some ⟨ρ.x+158,dB x tx 0⟩,some ⟨ρ.x+159,jb (ρ.x+158) 0 .none⟩] []:=aT
def gX (w:World) (a0 ep:Nat) (K:Nat->Int×Nat) (x:Str) (tx n t g:Nat) (rs:List HR):Result->Sem Fin:=
 (fw (vL w 800 900 [ny x tx]) 100 default .base (aM (cC w a0)) rh (E0 [⟨a0+158,oS ep K x tx⟩]) (M0 [⟨a0+158,oS ep K x tx⟩]) (n+158) 0 (t+1) 0 g 0 (L0 rs)).kont
theorem KE (a0 ep K x tx n t g ρ ep' K' p tp y ty n' t' g'):∀w,ay (aG w 800) 100 default .base (gX w a0 ep K x tx n t g [ρ] (.ok .next)) 160 [⟨a0+158,ja ep' K' x tx p tp false y ty⟩] n' t' g' [] []
   (.fin (.done (.ret .none))) [] []:=aT
theorem KF (a0 ep K x tx n t g ρ ep' K' p tp y ty n' t' g'):∀w,ay (aG w 800) 100 default .base (gX w a0 ep K x tx n t g [ρ] (.ok .next)) 164000 [⟨a0+158,ja ep' K' x tx p tp true y ty⟩] n' t' g' [] [1]
   (.yield (.ref (n'+158))) [some ⟨n'+158,bt [.int p tp,.str bs (t'+1)]⟩] []:=aT
def N7 (w:World) (a0 ep:Nat) (K:Nat->Int×Nat) (x:Str) (tx n t g:Nat) (rs:List HR) (F:Obj) (n' J g':Nat):Resume->Sem Fin:=
 (fw (aG w 800) 100 default .base (gX w a0 ep K x tx n t g rs (.ok .next)) 164000 (E0 [⟨a0+158,F⟩]) (M0 [⟨a0+158,F⟩]) (n'+158) 0 (J+1) 0 g' 0 (L0 [])).kontY
theorem IE (a0 ep K x tx n t g ρ ep' K' p tp y ty n' t' g' n'' t'' g''):∀w,ay (aG w 800) 100 default .base (N7 w a0 ep K x tx n t g [ρ] (ja ep' K' x tx p tp true y ty) n' t' g' (.send .none)) 0 [] n'' t'' g'' [] []
   (.fin (.done (.ret .none))) [] []:=aT
theorem IF (a0 n t g):∀w,ay (aG w 800) 20 default .base (aM (.block [] (ej w 38 (a0+158)))) 0 [] n t g [] [] (.fin (.done .next)) [] []:=aT
def oF (B a:Nat):Prop:=B<=a/\a≠B+1
theorem oF.of (h:B+2<=a):oF B a:=⟨by exact(au h),by exact ka h⟩
structure fZ (B:Nat) (s s':Shared):Prop where
 more:s.heap.objs.size<=s'.heap.objs.size
 tmore:s.toks<=s'.toks
 drawn:ij s'=ij s
 os:s'.os=s.os
 keep:∀(a:Nat) o,a<B\/a=B+1->s.heap.get? a=some o->s'.heap.get? a=some o
 gkeep:∀(k:Nat) (x:GenState),s.gens[k]? =some x->s'.gens[k]? =some x
theorem fZ.trans (h:fZ B s s') (J:fZ B s' s''):fZ B s s'':=
 ⟨bC h.more J.more,bC h.tmore J.tmore,J.drawn.trans h.drawn,J.os.trans h.os,λa o l x=>J.keep a o l (h.keep a o l x),λk x y=>J.gkeep k x (h.gkeep k x y)⟩
theorem bu.keepB {kt:KT} {s₀ s:Shared} {A0:List Nat} {sel ng} (D:bu kt s₀ s A0 sel ng) {B:Nat} (h:∀a∈A0,oF B a):fZ B s₀ s:=
 ⟨D.more,D.tmore,D.drawn,D.os,λa o l x=>D.keep a o x λm=>by have:=h a m;unfold oF at this;lia,D.gkeep⟩
theorem bu.topS {sel ng} (D:bu (kt w) s₀ s A0 sel ng) (T:aK w s₀):aK w s:=
 ⟨D.top,bC T.size D.more,bC T.toks D.tmore⟩
theorem aL.mono (h:aL d A) (hd:d<=d':=by decide):aL d' A:=⟨h.hd,bC h.dp hd,bC h.un (Nat.mul_le_mul_left _ hd)⟩
theorem jP (h:aL d A) (hc:bq c):aL (d+5) (A.over c []):=by
 have J:=hc.1;have h2:=hc.2;have h3:=h.dp;have h4:=h.un;refine⟨h.hd,?_,?_⟩
 .show A.depth+frameCount []+c.weight<=d+5;have:frameCount []=0:=rfl;exact au (ax J (ax h3 (fk this)))
 .show A.units+unitsOf []+c.cUnits<=10*(d+5);have:unitsOf []=0:=rfl;exact au (ax h2 (ax h4 (fk this)))
theorem iu (h:aL d A) (hc:bq c) (J:bq c₁) {k g l p kp}:aL (d+10) (A.over c [.ret k none g l c₁ p kp]):=by
 have h1:=hc.1;have h2:=hc.2;have h3:=h.dp;have h4:=h.un;have h5:=J.1;have h6:=J.2;refine⟨h.hd,?_,?_⟩
 .show A.depth+frameCount [(c₁,p)]+c.weight<=d+10;have:frameCount [(c₁,p)]=c₁.weight:=by rw[frameCount_cons];show c₁.weight+0=_;rfl
  lia
 .show A.units+unitsOf [(c₁,p)]+c.cUnits<=10*(d+10);have:unitsOf [(c₁,p)]=c₁.cUnits:=by rw[unitsOf_cons];show c₁.cUnits+0=_;rfl
  lia
def bX:List Nat->Nat->Bool->List (Nat×List Nat)
 |[],i,e=>match e with
  |true=>[(i - 1,[92])]
  |false=>[]
 |c::r,i,e=>match e with
  |true=>(i,[92,c])::bX r (i+1) false
  |false=>match decide (c=92) with
   |true=>bX r (i+1) true
   |false=>(i,[c])::bX r (i+1) false
inductive ri (x:Str) (tx:Nat):Nat->Bool->Obj->Prop where
 |first (ep K tp):ri x tx 0 false (tO ep K x tx 0 tp false)
 |next (i:Nat) (e ep K tp y ty):ri x tx (i+1) e (ja ep K x tx i tp e y ty)
structure GA (B a0 a1 a2:Nat):Prop where
 b0:oF B (a0+158)
 b1:B+2<=a1+158
 b2:B+2<=a2+158
 n1:a0≠a1
 n2:a0≠a2
 n3:a1≠a2
def YG (w:World) (B:Nat) (items:List (Nat×List Nat)):Protocol:=λm s₀ v J k=>
 ∃it,items[items.length - 1 - m]? =some it/\(∃(a ta tc:Nat),v=.ref (a+158)/\s₀.heap.objs.size<=a+158/\J.heap.get? (a+158)=some (bt [.int it.1 ta,.str ⟨it.2.toArray⟩ (tc+1)]))/\fZ B s₀ J/\aK w J/\
  ∃l,aQ J l/\(∀e∈l,oF B e.a/\v≠ .ref e.a)/\∀OE,aK w OE->aQ OE l->k (.send .none) OE
def RG (w:World) (B:Nat):GenEnd:=λn s₀ r J=>r=.ok (.ret .none)/\(λn s₀ J=>n=0/\fZ B s₀ J/\aK w J) n s₀ J
theorem d6 (h:158<=a):aj [⟨a,o⟩]:=⟨by simp,λe J=>by rw[cD] at J;subst J;exact .inl h⟩
theorem dJ (h:s.heap.get? a=some o):aQ s [⟨a,o⟩]:=λe J=>by rw[cD] at J;subst J;exact h
theorem aX (h:qt c=true):c.quiet=true:=qZ h
section
variable {w:World} {A:Around} (hA:aL 780 A) {x:Str} {tx a0 a1 a2 B:Nat} (G:GA B a0 a1 a2) {items:List (Nat×List Nat)}
include hA G
theorem Dw:∀{ep K n t g ρ i e F} (hi:1<=i) (hF:ri x tx i e F) {s₀ s} (T:aK w s) (hk:fZ B s₀ s) (hf:s.heap.get? (a0+158)=some F)
  {pre} (hp:items=pre++bX [] i e),Seg (model pw w) A (RG w B) (YG w B items) (bX [] i e).length s₀ (cC w a0) (gX w a0 ep K x tx n t g [ρ] (.ok .next)) [] s:=by
 revert w A x tx a0 a1 a2 B items;ext w A:0;intro hA;ext x tx a0 a1 a2 B:0;intro G;ext items ep K n t g ρ i e F:0;intro hi hF;ext s₀ s:0;intro T hk hf;ext pre:0;intro hp;have hs:=jP hA (c:=cC w a0) (ba rfl);have OE:aL 800 (A.over (cC w a0) []):=hs.mono (bN _ _);cases hF with
 |first=>lia
 |next i e J K' tp y ty=>
  ext i J K' tp y ty ⟨hi,hp,hf⟩;obtain⟨n',t',g',S⟩:=T.st (dJ hf) (d6 (bN _ _));ext n' t' g' ⟨S⟩;cases e with
  |false=>
   refine eP (v:=aG w 800) (B:=λt s=>Seg (model pw w) A (RG w B) (YG w B items) (bX [] (i+1) false).length s₀ (cC w a0) t [] s)
    (bx _) OE S (λm k s h=>cA m k s h) 0 _ _ _ (λU=>.fin (.done (.ret .none))) (λU=>[]) (λU=>[])
    (λU=>KE a0 ep K x tx n t g ρ J K' i tp y ty n' t' g' w) λr s' D U=>?_
   refine seg_end (.ok (.ret .none)) ⟨rfl,rfl,hk.trans (D.keepB λa ha=>?_),D.topS T⟩;rw[List.map_singleton,cD] at ha;subst ha;exact G.b0
  |true=>
   refine eP (v:=aG w 800) (B:=λt s=>Seg (model pw w) A (RG w B) (YG w B items) (bX [] (i+1) true).length s₀ (cC w a0) t [] s)
    (bx _) OE S (λm k s h=>cA m k s h) 0 _ _ _ (λU=>.yield (.ref (n'+158))) (λU=>[some ⟨n'+158,bt [.int i tp,.str bs (t'+1)]⟩]) (λU=>[])
    (λU=>KF a0 ep K x tx n t g ρ J K' i tp y ty n' t' g' w) λr s' D U=>?_
   intro l';have k1:fZ B s s':=D.keepB λa ha=>by
    rw[List.map_singleton,cD] at ha;subst ha;exact G.b0
   refine seg_yield rfl rfl rfl ⟨(i,[92]),?_,⟨n',tp,t',rfl,?_,D.sel _ aJ⟩,hk.trans k1,D.topS T,[],λU h=>(nomatch h),λU h=>(nomatch h),λOG OF U=>?_⟩
   .subst hp;simp[bX]
   .have:=S.size;have:=hk.more;lia
   .obtain⟨n2,t2,g2,S2⟩:=OF.st (l:=[]) (λU h=>nomatch h) cj;refine eP (v:=aG w 800) (B:=λt s=>Seg (model pw w) A (RG w B) (YG w B items) 0 OG (cC w a0) t [] s)
     (bx _) OE S2 (λm k s h=>cA m k s h) 0 _ _ _ (λU=>.fin (.done (.ret .none))) (λU=>[]) (λU=>[])
     (λU=>IE a0 ep K x tx n t g ρ J K' i tp y ty n' t' g' n2 t2 g2 w) λr s3 D3 U=>?_
    exact seg_end (.ok (.ret .none)) ⟨rfl,rfl,D3.keepB λU h=>(nomatch h),D3.topS OF⟩
end
def vk:Expr->Bool
 |.Tuple .. =>true
 |_=>false
theorem Dx (w):vk (Dv w)=true:=by kernel_rfl
theorem Dy {w A} {E:Value->Shared->Prop} (ht:vk tg=true) {it a2 i b} {Q:Unit->Shared->Prop} (he:s.heap.get? (a2+158)=some (vj it i b item))
  (hQ:∀J,J.get? (a2+158)=some (jb it i item)->Heap.SameBut (a2+158) s.heap J->Q () {s with heap:=J}):wpAny (model pw w) A (letOwnedTupleGo tg (.ref (a2+158)) (.ref b)) Q E s:=by
 cases tg with
 |Tuple OE x1 pos=>exact wpAny_letOwnedTupleGo_enum (i:=(i:Int)) he λJ h1 h2=>hQ J h1 h2
 |_=>cases ht
theorem rj (h:158<=a) (h':158<=b) (hn:a≠b):aj [⟨a,o⟩,⟨b,o'⟩]:=by
 refine⟨by simp[hn],λe J=>?_⟩;simp only[aY,bS,bT] at J;rcases J with rfl|rfl
 .exact .inl h
 .exact .inl h'
theorem mC (h:s.heap.get? a=some o) (J:s.heap.get? b=some o'):aQ s [⟨a,o⟩,⟨b,o'⟩]:=by
 refine ah ?_<|ah ?_ aE
 .exact h
 .exact J
theorem jB (h:s.heap.get? a=some o) (h':s.heap.get? b=some o') (J:s.heap.get? c=some o''):aQ s [⟨a,o⟩,⟨b,o'⟩,⟨c,o''⟩]:=by
 refine ah ?_<|ah ?_<|ah ?_ aE
 .exact h
 .exact h'
 .exact J
theorem ri.cls {x tx i} (h:ri x tx i e F):F.cls=.type "frame" :=by cases h<;>rfl
theorem oU {w} (h:((⟨#[c]⟩:Str).cps.toList==bs.cps.toList)=b):lZ (oE w c b) w:=bE λf J=>by
 simp only[aY,bS,bT] at J;rcases J with rfl|rfl<;>exact aO h
section
variable {w:World} {A:Around} (hA:aL 780 A) {x:Str} {tx a0 a1 a2 B:Nat} (G:GA B a0 a1 a2) (hB:158<=B) {items:List (Nat×List Nat)} {ep:Nat} {K:Nat->Int×Nat} {n t g:Nat} {ρ:HR}
include hA G hB
theorem Dz:∀{lv p},∀rest i e F L s₀ s OG,items=OG++bX rest i e->x.cps.toList.drop i=rest->(rest=[]->1<=i)->
  ri x tx i e F->aK w s->fZ B s₀ s->aQ s [⟨a0+158,F⟩,⟨a1+158,dB x tx i⟩,⟨a2+158,jb (a1+158) i L⟩]->
  Seg (model pw w) A (RG w B) (YG w B items) (bX rest i e).length s₀ (cW w a0 a2) ((model pw w).den (cW w a0 a2))
   [.ret (gX w a0 ep K x tx n t g [ρ]) none false lv (cC w a0) p []] s:=by
 revert w A x tx a0 a1 a2 B items ep K n t g ρ;ext w A:0;intro hA;ext x tx a0 a1 a2 B:0;intro G hB;ext items ep K n t g ρ lv p:0;intro rest;induction rest with
 |nil=>
  intro i e F L s₀ s OG hit hr hi hF T hk hh;ext i e F L s₀ s OG ⟨hit,hr,hi,hF,T,hk,hh⟩;have OX:s.heap.get? (a0+158)=some F:=hh _ aJ;have h1:=hh _ cy;have h2:=hh _ gr;have OI:aL 800 (A.over (cW w a0 a2) [.ret (gX w a0 ep K x tx n t g [ρ]) none false lv (cC w a0) p []]):=(iu hA (ba rfl) (ba rfl)).mono (bN _ _);obtain⟨n1,t1,g1,S⟩:=T.st (mC h1 h2) (rj (bN _ _) (bN _ _) λh=>G.n3 (Nat.add_right_cancel h));have hx:x.cps[i]? =none:=by
   have:=List.drop_eq_nil_iff.mp hr;simpa using this
  refine yj ?_;refine i9 (v:=vL w 800 900 [tM 0 (a1+158) x tx i]) (bE λf hf=>by
    rw[cD] at hf;subst hf;exact zj hx) OI S 1 100 0xa3004a0284a1000a1 [] (λU=>.fin (.done .next)) (λU=>[]) (λU=>[]) (λrs OE=>?_) λrs s' OE D=>?_
  .obtain⟨J,rfl⟩:=List.length_eq_one_iff.mp OE;exact Dt _ a1 a2 x tx i L n1 t1 g1 J
  have k1:fZ B s s':=D.keepB λa ha=>by
   simp only[de,fK,aY,bS,bT] at ha;rcases ha with rfl|rfl
   .exact .of G.b1
   .exact .of G.b2
  have OQ:s'.heap.get? (a0+158)=some F:=D.keep _ _ OX (by
   simp only[de,fK,aY,bS,bT];have:=G.n1;have:=G.n2;lia)
  have T1:=D.topS (w:=w) T;refine seg_again (aX rfl) ?_;show Seg _ _ _ _ _ _ (.block [] (ej w 38 (a0+158))) (denote table (.block [] (ej w 38 (a0+158)))) _ _;rw[<-fU];have ON:aL 800 (A.over (.block [] (ej w 38 (a0+158))) [.ret (gX w a0 ep K x tx n t g [ρ]) none false lv (cC w a0) p []]):=(iu hA (ba rfl) (ba rfl)).mono (bN _ _);obtain⟨n2,t2,g2,S2⟩:=T1.st (l:=[]) (λU h=>nomatch h) cj;refine di (v:=aG w 800) (B:=λtr s=>Seg (model pw w) A (RG w B) (YG w B items) (bX [] i e).length s₀ (.block [] (ej w 38 (a0+158))) tr [.ret (gX w a0 ep K x tx n t g [ρ]) none false lv (cC w a0) p []] s)
   (bx _) ON S2 (λm k s h=>cA m k s h) 0 20 0 [] (λU=>.fin (.done .next)) (λU=>[]) (λU=>[])
   (λrs OE=>by obtain rfl:=dI.mp OE;exact IF a0 n2 t2 g2 w) λrs s2 OE D2=>?_
  refine seg_leaf (.ok .next) (Dw hA G (hi rfl) hF (D2.topS T1) (hk.trans (k1.trans (D2.keepB λU h=>(nomatch h)))) (D2.keep _ _ OQ (λh=>nomatch h)) hit)
 |cons c r ih=>
  ext c r ⟨ih⟩;intro i e F L s₀ s OG hit hr hi hF T hk hh;ext i e F L s₀ s OG ⟨hit,hr,hi,hF,T,hk,hh⟩;have OX:s.heap.get? (a0+158)=some F:=hh _ aJ;have h1:=hh _ cy;have h2:=hh _ gr;have OI:aL 800 (A.over (cW w a0 a2) [.ret (gX w a0 ep K x tx n t g [ρ]) none false lv (cC w a0) p []]):=(iu hA (ba rfl) (ba rfl)).mono (bN _ _);obtain⟨n1,t1,g1,S⟩:=T.st (mC h1 h2) (rj (bN _ _) (bN _ _) λh=>G.n3 (Nat.add_right_cancel h));have hx:x.cps[i]? =some c:=by
   have h:=congrArg (·[0]?) hr;simp only[List.getElem?_drop,List.getElem?_cons_zero,Nat.add_zero] at h;simpa using h
  have O8:x.cps.toList.drop (i+1)=r:=by
   have h:=congrArg (List.drop 1) hr;simpa[List.drop_drop] using h
  refine yj ?_;refine i9 (v:=vL w 800 900 [rg 0 (a1+158) x tx i c]) (bE λf hf=>by
    rw[cD] at hf;subst hf;exact xE hx) OI S 1 100 0x284a1284a1284a1284a1284a1284a1284a1004a0284a1000a1 [0,1,2] (λrs=>.fin (.done (.ret (.ref ((rs.headD ⟨0,0,0,0,0,0⟩).n+158)))))
    (λrs=>let ρ:=rs.headD ⟨0,0,0,0,0,0⟩;[some ⟨a1+158,dB x tx (i+1)⟩,some ⟨a2+158,vj (a1+158) (i+1) (ρ.n+158) (.str ⟨#[c]⟩ (ρ.x+1))⟩,some ⟨ρ.n+158,bt [.int i (ρ.t+1),.str ⟨#[c]⟩ (ρ.x+1)]⟩]) (λU=>[]) (λrs OE=>?_) λrs s' OE D=>?_
  .obtain⟨J,rfl⟩:=List.length_eq_one_iff.mp OE;exact Bp _ a1 a2 x tx i c L n1 t1 g1 J
  ext rs s' ⟨OE,D⟩;obtain⟨J,rfl⟩:=List.length_eq_one_iff.mp OE;ext J ⟨OE,D⟩;have k1:fZ B s s':=D.keepB λa ha=>by
   simp only[de,fK,aY,bS,bT] at ha;rcases ha with rfl|rfl
   .exact .of G.b1
   .exact .of G.b2
  have T1:=D.topS (w:=w) T;have OQ:s'.heap.get? (a0+158)=some F:=D.keep _ _ OX (by
   simp only[de,fK,aY,bS,bT];have:=G.n1;have:=G.n2;lia)
  have O0:s'.heap.get? (a1+158)=some (dB x tx (i+1)):=D.sel _ aJ;have OY:s'.heap.get? (a2+158)=some (vj (a1+158) (i+1) (J.n+158) (.str ⟨#[c]⟩ (J.x+1))):=D.sel _ cy;have OL:s'.heap.get? (J.n+158)=some (bt [.int i (J.t+1),.str ⟨#[c]⟩ (J.x+1)]):=D.sel _ gr;refine Dy (Dx _) OY λh' OZ OJ=>?_;ext h' ⟨OZ,OJ⟩;have O9:a0≠J.n:=λe=>by
   rw[<-e,OQ] at OL;have:=congrArg Obj.cls (Option.some.inj OL);rw[hF.cls] at this;exact bh (Value.type.inj this) (by decide)
  have Pb:a1≠J.n:=λe=>by
   rw[<-e,O0] at OL;exact bh (Value.type.inj (congrArg Obj.cls (Option.some.inj OL))) (by decide)
  have Pa:a2≠J.n:=λe=>by
   rw[<-e,OY] at OL;exact bh (Value.type.inj (congrArg Obj.cls (Option.some.inj OL))) (by decide)
  have tn:s.heap.objs.size<=J.n+158:=by
   rcases D.adr _ gr with h|h
   .have h':J.n+158=a1+158\/J.n+158=a2+158:=by simpa using h
    lia
   .exact h
  have tB:B+2<=J.n+158:=by
   have z:a1+158<s.heap.objs.size:=fv h1;have:=G.b1;exact au (ax tn (ax z this))
  obtain⟨O4,G',d',OW,OU⟩:=s';ext O4 G' d' OW OU ⟨D,k1,T1,OQ,O0,OY,OL,OJ⟩;have OT:h'.get? (a0+158)=some F:=(OJ.2 _ λh=>G.n2 (Nat.add_right_cancel h)).trans OQ;have bG:h'.get? (a1+158)=some (dB x tx (i+1)):=(OJ.2 _ λh=>G.n3 (Nat.add_right_cancel h)).trans O0;have O2:h'.get? (J.n+158)=some (bt [.int i (J.t+1),.str ⟨#[c]⟩ (J.x+1)]):=(OJ.2 _ λh=>Pa (Nat.add_right_cancel h).symm).trans OL;have T2:aK w ⟨h',G',d',OW,OU⟩:=⟨λa o h=>(OJ.2 a (λe=>by have:=oQ _ _ _ h;have e':(a:Nat)=a2+158:=e;lia)).trans (T1.top a o h),by show 158<=h'.objs.size;rw[OJ.1];exact T1.size,T1.toks⟩;have k2:fZ B s ⟨h',G',d',OW,OU⟩:=k1.trans ⟨by show O4.objs.size<=h'.objs.size;rw[OJ.1];exact bg _,bg _,rfl,rfl,λa o l h=>(OJ.2 a (λe=>by have:=G.b2;have e':(a:Nat)=a2+158:=e;lia)).trans h,λU U h=>h⟩;generalize ON:(⟨h',G',d',OW,OU⟩:Shared)=s2 at*;have OT:s2.heap.get? (a0+158)=some F:=by rw[<-ON];exact OT
  have bG:s2.heap.get? (a1+158)=some (dB x tx (i+1)):=by rw[<-ON];exact bG
  have O2:s2.heap.get? (J.n+158)=some (bt [.int i (J.t+1),.str ⟨#[c]⟩ (J.x+1)]):=by rw[<-ON];exact O2
  have O3:s2.heap.get? (a2+158)=some (jb (a1+158) (i+1) (.str ⟨#[c]⟩ (J.x+1))):=by rw[<-ON];exact OZ
  clear ON OZ;have OR:∀e' F' sA sB OS,items=OS++bX r (i+1) e'->ri x tx (i+1) e' F'->aK w sB->fZ B sA sB->aQ sB [⟨a0+158,F'⟩,⟨a1+158,dB x tx (i+1)⟩,⟨a2+158,jb (a1+158) (i+1) (.str ⟨#[c]⟩ (J.x+1))⟩]->
    Seg (model pw w) A (RG w B) (YG w B items) (bX r (i+1) e').length sA (cW w a0 a2) (.pure (.again (cW w a0 a2))) [.ret (gX w a0 ep K x tx n t g [ρ]) none false lv (cC w a0) p []] sB:=
   λe' F' sA sB OS q1 q2 q3 q4 q5=>seg_again (aX rfl) (ih (i+1) e' F' _ sA sB OS q1 O8 (λU=>by exact iT _) q2 q3 q4 q5)
  have yl:∀F' it s3 l' kY av ta tc,items=OG++it::bX r (i+1) false->aK w s3->fZ B s2 s3->aQ s3 [⟨a0+158,F'⟩,⟨a1+158,dB x tx (i+1)⟩,⟨a2+158,jb (a1+158) (i+1) (.str ⟨#[c]⟩ (J.x+1))⟩]->s2.heap.objs.size<=av+158->
    s3.heap.get? (av+158)=some (bt [.int it.1 ta,.str ⟨it.2.toArray⟩ (tc+1)])->
    (∀OV,aK w OV->aQ OV [⟨a0+158,F'⟩,⟨a1+158,dB x tx (i+1)⟩,⟨a2+158,jb (a1+158) (i+1) (.str ⟨#[c]⟩ (J.x+1))⟩]->Seg (model pw w) A (RG w B) (YG w B items) (bX r (i+1) false).length OV (cW w a0 a2) (kY (.send .none)) [.ret (gX w a0 ep K x tx n t g [ρ]) none false lv (cC w a0) p []] OV)->
    Seg (model pw w) A (RG w B) (YG w B items) ((bX r (i+1) false).length+1) s₀ (cW w a0 a2) (.yield (.ref (av+158)) false l' kY) [.ret (gX w a0 ep K x tx n t g [ρ]) none false lv (cC w a0) p []] s3:=by
   intro F' it s3 l' kY av ta tc q1 q2 q3 q4 q5 q6 q7;refine seg_yield rfl rfl rfl ⟨it,?_,⟨av,ta,tc,rfl,?_,q6⟩,hk.trans (k2.trans q3),q2,_,q4,λe he=>?_,q7⟩
   .rw[q1];have:(OG++it::bX r (i+1) false).length - 1 - (bX r (i+1) false).length=OG.length:=by simp only[eh,fu];exact Bj
    rw[this];simp
   .have:=hk.more;have:=k2.more;lia
   .simp only[aY,bS,bT] at he;rcases he with rfl|rfl|rfl
    .exact⟨G.b0,λh=>by have:=Value.ref.inj h;have z:a0+158<s2.heap.objs.size:=fv OT;exact bh (show av+158=a0+158 from this) ((ka (au (ax q5 z))))⟩
    .exact⟨.of G.b1,λh=>by have:=Value.ref.inj h;have z:a1+158<s2.heap.objs.size:=fv bG;exact bh (show av+158=a1+158 from this) ((ka (au (ax q5 z))))⟩
    .exact⟨.of G.b2,λh=>by have:=Value.ref.inj h;have z:a2+158<s2.heap.objs.size:=fv O3;exact bh (show av+158=a2+158 from this) ((ka (au (ax q5 z))))⟩
  obtain⟨n2,t2,g2,S2⟩:=T2.st (mC OT O2) (rj (bN _ _) (bN _ _) λh=>O9 (Nat.add_right_cancel h));ext n2 t2 g2 ⟨S2⟩;have kB:∀{s3} {OO ng},bu (kt w) s2 s3 [a0+158,J.n+158] OO ng->fZ B s2 s3:=λD=>D.keepB λa ha=>by
   simp only[aY,bS,bT] at ha;rcases ha with rfl|rfl
   .exact G.b0
   .exact .of tB
  have kI:∀{s3} {OO ng},bu (kt w) s2 s3 [a0+158,J.n+158] OO ng->s3.heap.get? (a1+158)=some (dB x tx (i+1)):=λD=>D.keep _ _ bG (by
   simp only[aY,bS,bT];have:=G.n1;lia)
  have kE:∀{s3} {OO ng},bu (kt w) s2 s3 [a0+158,J.n+158] OO ng->s3.heap.get? (a2+158)=some (jb (a1+158) (i+1) (.str ⟨#[c]⟩ (J.x+1))):=λD=>D.keep _ _ O3 (by
   simp only[aY,bS,bT];have:=G.n2;lia)
  have m1:∀{F' s3},s3.heap.get? (a0+158)=some F'->s3.heap.get? (a1+158)=some (dB x tx (i+1))->s3.heap.get? (a2+158)=some (jb (a1+158) (i+1) (.str ⟨#[c]⟩ (J.x+1)))->
    aQ s3 [⟨a0+158,F'⟩,⟨a1+158,dB x tx (i+1)⟩,⟨a2+158,jb (a1+158) (i+1) (.str ⟨#[c]⟩ (J.x+1))⟩]:=λh h' O6=>jB h h' O6
  have OM:∀{s3 s4} {OO ng},bu (kt w) s3 s4 [] OO ng->∀{l},aQ s3 l->aQ s4 l:=λD l h e he=>D.keep _ _ (h e he) (λh=>nomatch h);have O5:=S2.size;show Seg (model pw w) A (RG w B) (YG w B items) _ _ _ (nv w a0 a2 J.n) _ _;cases e with
  |true=>
   have OK:items=OG++(i,[92,c])::bX r (i+1) false:=hit;show Seg (model pw w) A (RG w B) (YG w B items) ((bX r (i+1) false).length+1) _ _ _ _ _;cases hF with
   |next j e OF K1 OH y1 OP=>
    refine eP (v:=oE w c (decide (c=92))) (B:=λtr s=>Seg (model pw w) A (RG w B) (YG w B items) ((bX r (j+1+1) false).length+1) s₀ (cW w a0 a2) tr [.ret (gX w a0 ep K x tx n t g [ρ]) none false lv (cC w a0) p []] s) (oU (by by_cases h:c=92<;>simp[bs,h])) OI S2 (λm k s h=>cA m k s h) 0 200 vM [0,5] _ _ _ (λU=>MP a0 a2 J.n OF K1 x tx j OH y1 OP (j+1) (J.t+1) c J.x n2 t2 g2 _ w) λU s3 D3 U=>?_;intro l';refine yl _ (j+1,[92,c]) s3 l' _ (n2+3) (J.t+1) (t2+3) OK (D3.topS T2) (kB D3) (m1 (D3.sel _ aJ) (kI D3) (kE D3)) ((au (fk O5))) (D3.sel _ cy) λs4 T4 H4=>?_;refine eO λU k_=>?_;obtain⟨n4,t4,g4,S4⟩:=T4.st (dJ (H4 _ aJ)) (d6 (bN _ _));refine k_ ?_;refine di (v:=aG w 800) (B:=λtr s=>Seg (model pw w) A (RG w B) (YG w B items) (bX r (j+1+1) false).length s4 (cW w a0 a2) tr [.ret (gX w a0 ep K x tx n t g [ρ]) none false lv (cC w a0) p []] s) (bx _) OI S4 (λm k s h=>cA m k s h) 0 200 164000 [0] (λU=>(.fin (.again (cW w a0 a2)))) (λU=>[some ⟨a0+158,ja OF K1 x tx ((j+1:Nat):Int) (J.t+1) false ⟨#[c]⟩ J.x⟩]) (λU=>[]) (λrs OE=>by obtain rfl:=dI.mp OE;exact KC a0 a2 J.n OF OF K1 K1 x x tx tx j _ OH _ y1 _ OP _ (j+1) (J.t+1) c J.x n2 t2 g2 n4 t4 g4 _ w) λrs s5 OE D5=>?_;refine OR false _ s4 s5 (OG++[(j+1,[92,c])]) (by rw[OK];simp) (.next (j+1) false _ _ _ _ _) (D5.topS T4) (D5.keepB λa ha=>by
     simp only[de,fK,aY,bS,bT] at ha;subst ha;exact G.b0) (m1 (D5.sel _ aJ) (D5.keep _ _ (H4 _ cy) ?_) (D5.keep _ _ (H4 _ gr) ?_))
    .simp only[de,fK,aY,bS,bT];have:=G.n1;exact tF (id (Ne.symm this))
    .simp only[de,fK,aY,bS,bT];have:=G.n2;exact tF (id (Ne.symm this))
  |false=>
   by_cases hc:c=92
   .subst hc;have OK:items=OG++bX r (i+1) true:=hit;show Seg (model pw w) A (RG w B) (YG w B items) (bX r (i+1) true).length _ _ _ _ _;cases hF with
    |first OF K1 OH=>
     refine di (v:=oE w 92 true) (B:=λtr s=>Seg (model pw w) A (RG w B) (YG w B items) (bX r (0+1) true).length s₀ (cW w a0 a2) tr [.ret (gX w a0 ep K x tx n t g [ρ]) none false lv (cC w a0) p []] s) (oU (rfl)) OI S2 (λm k s h=>cA m k s h) 0 200 fY [0] (λU=>(.fin (.again (cW w a0 a2)))) (λU=>[some ⟨a0+158,ja (OF+1) (ik K1 3 (aB w rX,t2+1)) x tx ((0:Nat):Int) (J.t+1) true bs J.x⟩]) (λU=>[]) (λrs OE=>by obtain rfl:=dI.mp OE;exact N5 a0 a2 J.n OF K1 x tx 0 OH 0 (J.t+1) J.x n2 t2 g2 w) λrs s3 OE D3=>?_;exact OR true _ s₀ s3 OG OK (.next 0 true _ _ _ _ _) (D3.topS T2) (hk.trans (k2.trans (kB D3))) (m1 (D3.sel _ aJ) (kI D3) (kE D3))
    |next j e OF K1 OH y1 OP=>
     refine di (v:=oE w 92 true) (B:=λtr s=>Seg (model pw w) A (RG w B) (YG w B items) (bX r (j+1+1) true).length s₀ (cW w a0 a2) tr [.ret (gX w a0 ep K x tx n t g [ρ]) none false lv (cC w a0) p []] s) (oU (rfl)) OI S2 (λm k s h=>cA m k s h) 0 200 fY [0] (λU=>(.fin (.again (cW w a0 a2)))) (λU=>[some ⟨a0+158,ja OF K1 x tx ((j+1:Nat):Int) (J.t+1) true bs J.x⟩]) (λU=>[]) (λrs OE=>by obtain rfl:=dI.mp OE;exact N6 a0 a2 J.n OF K1 x tx j OH y1 OP (j+1) (J.t+1) J.x n2 t2 g2 w) λrs s3 OE D3=>?_;exact OR true _ s₀ s3 OG OK (.next (j+1) true _ _ _ _ _) (D3.topS T2) (hk.trans (k2.trans (kB D3))) (m1 (D3.sel _ aJ) (kI D3) (kE D3))
   .have O7:bX (c::r) i false=(i,[c])::bX r (i+1) false:=by simp[bX,hc]
    rw[O7] at hit|-;show Seg (model pw w) A (RG w B) (YG w B items) ((bX r (i+1) false).length+1) _ _ _ _ _;cases hF with
    |first OF K1 OH=>
     refine eP (v:=oE w c false) (B:=λtr s=>Seg (model pw w) A (RG w B) (YG w B items) ((bX r (0+1) false).length+1) s₀ (cW w a0 a2) tr [.ret (gX w a0 ep K x tx n t g [ρ]) none false lv (cC w a0) p []] s) (oU (by simp[bs,hc])) OI S2 (λm k s h=>cA m k s h) 0 200 fY [0,5] _ _ _ (λU=>KA a0 a2 J.n OF K1 x tx 0 OH 0 (J.t+1) c J.x n2 t2 g2 w) λU s3 D3 U=>?_;intro l';refine yl _ (0,[c]) s3 l' _ (n2+3) (J.t+1) J.x hit (D3.topS T2) (kB D3) (m1 (D3.sel _ aJ) (kI D3) (kE D3)) ((au (fk O5))) (D3.sel _ cy) λs4 T4 H4=>?_;refine eO λU k_=>?_;obtain⟨n4,t4,g4,S4⟩:=T4.st (l:=[]) (λU h=>nomatch h) cj;refine k_ ?_;refine di (v:=aG w 800) (B:=λtr s=>Seg (model pw w) A (RG w B) (YG w B items) (bX r (0+1) false).length s4 (cW w a0 a2) tr [.ret (gX w a0 ep K x tx n t g [ρ]) none false lv (cC w a0) p []] s) (bx _) OI S4 (λm k s h=>cA m k s h) 0 200 0 [] (λU=>(.fin (.again (cW w a0 a2)))) (λU=>[]) (λU=>[]) (λrs OE=>by obtain rfl:=dI.mp OE;exact IB a0 a2 J.n OF K1 x tx 0 OH 0 (J.t+1) c J.x n2 t2 g2 n4 t4 g4 w) λrs s5 OE D5=>?_;exact OR false _ s4 s5 (OG++[(0,[c])]) (by rw[hit];simp) (.next 0 false _ _ _ _ _) (D5.topS T4) (D5.keepB λU h=>(nomatch h)) (OM D5 H4)
    |next j e OF K1 OH y1 OP=>
     refine eP (v:=oE w c false) (B:=λtr s=>Seg (model pw w) A (RG w B) (YG w B items) ((bX r (j+1+1) false).length+1) s₀ (cW w a0 a2) tr [.ret (gX w a0 ep K x tx n t g [ρ]) none false lv (cC w a0) p []] s) (oU (by simp[bs,hc])) OI S2 (λm k s h=>cA m k s h) 0 200 fY [0,5] _ _ _ (λU=>KB a0 a2 J.n OF K1 x tx j OH y1 OP (j+1) (J.t+1) c J.x n2 t2 g2 w) λU s3 D3 U=>?_;intro l';refine yl _ (j+1,[c]) s3 l' _ (n2+3) (J.t+1) J.x hit (D3.topS T2) (kB D3) (m1 (D3.sel _ aJ) (kI D3) (kE D3)) (by lia) (D3.sel _ cy) λs4 T4 H4=>?_;refine eO λU k_=>?_;obtain⟨n4,t4,g4,S4⟩:=T4.st (l:=[]) (λU h=>nomatch h) cj;refine k_ ?_;refine di (v:=aG w 800) (B:=λtr s=>Seg (model pw w) A (RG w B) (YG w B items) (bX r (j+1+1) false).length s4 (cW w a0 a2) tr [.ret (gX w a0 ep K x tx n t g [ρ]) none false lv (cC w a0) p []] s) (bx _) OI S4 (λm k s h=>cA m k s h) 0 200 0 [] (λU=>(.fin (.again (cW w a0 a2)))) (λU=>[]) (λU=>[]) (λrs OE=>by obtain rfl:=dI.mp OE;exact IC a0 a2 J.n OF K1 x tx j OH y1 OP (j+1) (J.t+1) c J.x n2 t2 g2 n4 t4 g4 w) λrs s5 OE D5=>?_;exact OR false _ s4 s5 (OG++[(j+1,[c])]) (by rw[hit];simp) (.next (j+1) false _ _ _ _ _) (D5.topS T4) (D5.keepB λU h=>(nomatch h)) (OM D5 H4)
end
theorem jY {a b:Nat} {h:Heap} {o o':Obj} (h1:h.get? a=some o) (J:h.get? b=some o') (hn:o.cls≠o'.cls):a≠b:=λe=>by
 subst e;rw[h1] at J;exact hn (congrArg Obj.cls (Option.some.inj J))
section
variable {w:World} {A:Around} (hA:aL 780 A) {x:Str} {tx a0 B:Nat} (hB:158<=B) (h0:oF B (a0+158)) (hx:x.cps.all (·<128)=true) (hne:x.cps.toList≠[])
include hA hB h0 hx hne
theorem Bq:∀{ep:Nat} {K:Nat->Int×Nat} {s:Shared} (OE:B+2<=s.heap.objs.size) (T:aK w s) (hf:s.heap.get? (a0+158)=some (oS ep K x tx)),Seg (model pw w) A (RG w B) (YG w B (bX x.cps.toList 0 false)) (bX x.cps.toList 0 false).length s (cC w a0) ((model pw w).den (cC w a0)) [] s:=by
 revert w A x tx a0 B;ext w A:0;intro hA;ext x tx a0 B:0;intro hB h0 hx hne;ext ep K s:0;intro OE T hf;have OF:aL 800 (A.over (cC w a0) []):=(jP hA (ba rfl)).mono (bN _ _);obtain⟨n,t,g,S⟩:=T.st (dJ hf) (d6 (bN _ _));ext n t g ⟨S⟩;show Seg _ _ _ _ _ _ _ (denote table (cC w a0)) _ _;rw[<-fU];refine di (c:=default) (v:=vL w 800 900 [ny x tx]) (B:=λtr s'=>Seg (model pw w) A (RG w B) (YG w B (bX x.cps.toList 0 false)) (bX x.cps.toList 0 false).length s (cC w a0) tr [] s')
  (bE λf hf=>by
   rw[cD] at hf;subst hf;exact xF hx) OF S (λm k s h=>cA m k s h) 1 100 rh [0,1,2] (λrs=>.call false default (cW w a0 ((rs.headD ⟨0,0,0,0,0,0⟩).x+1)) false)
  (λrs=>let ρ:=rs.headD ⟨0,0,0,0,0,0⟩;[some ⟨a0+158,tO (ep+2) (ik (ik K 1 (aB w nu,t+1)) 2 (aB w zm,t+2)) x tx 0 (t+1) false⟩,some ⟨ρ.x+158,dB x tx 0⟩,some ⟨ρ.x+159,jb (ρ.x+158) 0 .none⟩]) (λU=>[])
  (λrs J=>?_) λrs s' J D=>?_
 .obtain⟨OG,rfl⟩:=List.length_eq_one_iff.mp J;exact ID a0 ep K x tx n t g OG w
 obtain⟨ρ,rfl⟩:=List.length_eq_one_iff.mp J;intro l';have h1:s'.heap.get? (a0+158)=some _:=D.sel _ aJ;have h2:s'.heap.get? (ρ.x+158)=some (dB x tx 0):=D.sel _ cy;have h3:s'.heap.get? (ρ.x+1+158)=some (jb (ρ.x+158) 0 .none):=D.sel _ gr;have n1:a0≠ρ.x:=λe=>jY h1 h2 (λh=>bh (Value.type.inj h) (by decide)) (by rw[e]);have n2:a0≠ρ.x+1:=λe=>jY h1 h3 (λh=>bh (Value.type.inj h) (by decide)) (by rw[e]);have z:a0+158<s.heap.objs.size:=fv hf;have b1:s.heap.objs.size<=ρ.x+158:=by
  rcases D.adr _ cy with h|h
  .have h':ρ.x+158=a0+158:=by simpa using h
   lia
  .exact h
 have b2:s.heap.objs.size<=ρ.x+159:=(au b1);exact seg_call λp=>Dz (p:=p) hA ⟨h0,by exact(au (ax OE b1)),by exact(au (ax OE b1)),n1,n2,by exact ld (bg (Nat.succ (HR.x ρ)))⟩ hB x.cps.toList 0 false _ .none s s' [] rfl (by rfl) (λh=>bh h hne) (.first _ _ _) (D.topS T) (D.keepB λa ha=>by
  rw[List.map_singleton,cD] at ha;subst ha;exact h0) (jB h1 h2 h3)
end
section
open Builtin.Str (glued tooLong)
def f5 (id:String) (va vb:Nat->Value) (J:List (Nat×Nat×Obj)) (kind:Nat->Nat->gL):aq:=λc _=>some ⟨J,[(c,.call (.builtin id) ⟨[va (cq (bI c 0)),vb (cq (bI c 1))],[]⟩)],kind (cq (bI c 0)) (cq (bI c 1))⟩
theorem cF {w:World} {dh:Nat} {id:String} {va vb:Nat->Value} {J:List (Nat×Nat×Obj)} {kind:Nat->Nat->gL}
  (h:∀ta tb A s,aL dh A->aK w s->(∀q∈J,s.heap.get? q.2.1=some q.2.2)->(kind ta tb).ok (model pw w) A (.call (.builtin id) ⟨[va ta,vb tb],[]⟩) s):ai w dh (f5 id va vb J kind):=bj λc _=>h _ _
def iD (b:Bool):gL:=.pure 0 λU=>.ok (.ret (.bool b))
def jc (y:Str):gL:=.gen λρ=>⟨.ok (.ret (.str y (ρ.x+1))),[],[]⟩
theorem mY (hT:aK w s)
  (h:∀R:Result->Shared->Prop,(∀t tk,s.toks<=tk+1->R (.ok (.ret (.str y (t+1)))) {s with toks:=tk+1})->bf (model pw w) A c R s):(jc y).ok (model pw w) A c s:=by
 obtain⟨n,t',hn,ht⟩:=hT.nat;refine h _ λt tk J=>⟨⟨n,tk,s.gens.size,t,0,0⟩,rfl,cJ.same hn J⟩
def oV (a b:Int) (r:Bool):aq:=f5 "int.__ne__" (.int a) (.int b) [] λU U=>iD r
theorem uI (h:(a != b)=r):ai w dh (oV a b r):=cF λta tb A s hA hT J=>by
 refine cE F.slot_int_ne (typeIs_int s _ _) F.entry_int_ne (F.args_int_ne_2 _ _) (gives_int_ne a b _ _) ?_;show _=_/\_=_;rw[h];exact⟨rfl,rfl⟩
def iv (a b:Int) (r:Bool):aq:=f5 "int.__lt__" (.int a) (.int b) [] λU U=>iD r
theorem ma (h:decide (a<b)=r):ai w dh (iv a b r):=cF λta tb A s hA hT J=>by
 refine cE F.slot_int_lt (typeIs_int s _ _) F.entry_int_lt (F.args_int_lt_2 _ _) (gives_int_lt a b _ _) ?_;show _=_/\_=_;rw[h];exact⟨rfl,rfl⟩
def mZ (x y:Str) (r:Bool):aq:=f5 "str.__contains__" (.str x) (.str y) [] λU U=>iD r
theorem uJ (h:(!(Builtin.Str.occurrences x y 0 x.length 1).isEmpty)=r):ai w dh (mZ x y r):=cF λta tb A s hA hT J=>by
 refine cE F.slot_str_contains (typeIs_str s _ _) F.entry_str_contains (F.args_str_contains_2 _ _) (gives_str_contains x y _ _) ?_;show _=_/\_=_;rw[h];exact⟨rfl,rfl⟩
def li (a b:Value):Obj:=dy "slice" [a,b,.none]
def bZ (k sl:Nat) (x:Str) (tx:Nat) (l u:Option (Int×Nat)) (y:Str):aq:=
 f5 "str.__getitem__" (λU=>.str x (tx+1)) (λU=>.ref sl) [(k,sl,li (partValue l) (partValue u))] λU U=>jc y
theorem jd {w:World} {dh k sl:Nat} {x:Str} {tx:Nat} {l u:Option (Int×Nat)} {y:Str} (hy:sliceMade x (tx+1) l u none=.val (.str x (tx+1))/\y=x\/sliceMade x (tx+1) l u none=.str y)
  (hl:y.length<=sizeLine):ai w dh (bZ k sl x tx l u y):=cF λta tb A s hA hT hq=>mY hT λR hR=>by
 have J:s.heap.get? sl=some (li (partValue l) (partValue u)):=hq _ aJ;refine cz F.slot_str_getitem (typeIs_str s _ _) F.entry_str_getitem (F.args_str_getitem_2 _ _) (meets_str_getitem_slice x (tx+1) sl l u none rfl _ _ _ _ _ ⟨⟨_,J,rfl,rfl⟩,?_⟩);rcases hy with⟨h,rfl⟩|h
 .rw[h];have:=hR tx (s.toks - 1) (by lia);have e:s.toks - 1+1=s.toks:=mV hT.toks;rw[e] at this;exact this
 .rw[h];refine⟨hl,?_⟩;have:=hR (s.toks - 1) s.toks (k9 _ _);have e:s.toks - 1+1=s.toks:=mV hT.toks;rw[e] at this;exact this
def bp (l:List (Str×Nat)):List Value:=l.map λp=>.str p.1 (p.2+1)
def nz (k a:Nat) (sep:Str) (xs:List Value) (ep:Nat) (y:Str):aq:=f5 "str.join" (.str sep) (λU=>.ref a) [(k,a,aa xs ep)] λU U=>jc y
theorem qI:∀{w dh k a sep l ep y} (hy:y=glued sep (l.map (·.1))) (h1:∀p,l=[p]->y=p.1)
  (hl:tooLong ((l.map (·.1)).toArray.foldl (·+ ·.length+sep.length) 0)=false) (J:y.length<=sizeLine) {xs} (OE:xs=bp l),ai w dh (nz k a sep xs ep y):=by
 ext w dh k a sep l ep y:0;intro hy h1 hl J;ext xs:0;intro OE;subst OE;refine cF λta tb A s hA hT hq=>mY hT λR hR=>?_;ext ta A s R ⟨hA,hT,hq,hR⟩;have ho:s.heap.get? a=some (aa (bp l) ep):=hq _ aJ;have e:s.toks - 1+1=s.toks:=mV hT.toks;have hm:(l.map λp=>(p.1,p.2+1)).map (·.1)=l.map (·.1):=by simp
 have hv:strValues (l.map λp=>(p.1,p.2+1))=bp l:=by simp[strValues,bp]
 refine cz F.slot_str_join (typeIs_str s _ _) F.entry_str_join (F.args_str_join_2 _ _) (meets_str_join_list sep ta a (l.map λp=>(p.1,p.2+1)) (by rw[hm];exact hl) _ _ _ _ _ ⟨⟨_,ho,rfl,ep,by rw[hv];rfl⟩,?_⟩);cases l with
 |nil=>
  refine⟨by rw[hy] at J;exact J,?_⟩;have:=hR (s.toks - 1) s.toks (k9 _ _);rw[e,hy] at this;exact this
 |cons p r=>cases r with
  |nil=>
   have:=hR p.2 (s.toks - 1) (j9 (id (Eq.symm e)));rw[e,h1 p rfl] at this;exact this
  |cons q r=>
   refine⟨by rw[hy,<-hm] at J;exact J,?_⟩;have:=hR (s.toks - 1) s.toks (k9 _ _);rw[e,hy,<-hm] at this;exact this
def bn (x:Str) (tx:Nat):aq:=fX (.call (.builtin "len") ⟨[.str x (tx+1)],[]⟩) [] (.pure 2 λt=>.ok (.ret (.int (x.cps.size:Int) (t+1))))
theorem hJ (h:(x.length:Int)<2^63):ai w dh (bn x tx):=eJ λA s hA hT U=>by
 refine bf.mono (bf.of_call (Q:=λv J=>v=.int (x.length:Int) (s.toks+1)/\J={s with toks:=s.toks+2}) (len_str (x:=x) (t:=tx+1) (by lia) ⟨rfl,rfl⟩)) ?_;rintro r J ⟨v,rfl,rfl,rfl⟩;exact⟨rfl,rfl⟩
def c8 (k la:Nat) (xs:List Value) (el:Nat) (v:Nat->Value):aq:=λc _=>some ⟨[(k,la,aa xs el)],[(c,.call (.builtin "list.append") ⟨[.ref la,v (cq (bI c 1))],[]⟩)],.gen λ_=>⟨.ok (.ret .none),[(k,la,aa (xs.concat (v (cq (bI c 1)))) (el+1))],[]⟩⟩
theorem eK (hl:xs.length<=sizeLine):ai w dh (c8 k la xs el v):=by
 refine bj λc lk A s hA hT hq=>?_;have J:s.heap.get? la=some (aa xs el):=hq _ aJ;obtain⟨n,t',hn,ht⟩:=hT.nat;refine cz slot_list_append (⟨_,J,rfl⟩:Shared.TypeIs _ (.ref la) "list") entry_list_append (args_list_append _ _) ?_;show wpAny _ _ (updateSeq la (·.push (v (cq (bI c 1))))>>=λU=>ret .none) _ _ s;refine ao (wpAny_updateSeq (xs:=xs.toArray) (n:=el) J rfl (aH ?_) (hl) (by simp;assumption));refine⟨⟨n,t',s.gens.size,0,0,0⟩,rfl,?_⟩;have h:=cJ.set1 (r:=.ok (.ret .none)) (k:=k) (x:=0) (y:=0) (z:=0) (o':=aa (xs.concat (v (cq (bI c 1)))) (el+1)) (f:=Obj.mapSeq (·.push (v (cq (bI c 1))))) hn (t:=t') (j9 ht) J (by simp[aa,Obj.mapSeq]) rfl;rw[<-ht] at h;exact h
end
def vN:Str:=⟨#[115,116,97,114,116]⟩
def zn:Str:=⟨#[111,112,101,110,95,112,111,115]⟩
def tP:Str:=⟨#[114,101,115,117,108,116]⟩
def iw:Str:=⟨#[34]⟩
def vO (ep:Nat) (K:Nat->Int×Nat) (x:Str) (tx:Nat) (a:Int) (ta:Nat) (J:Value) (rs:Nat):Obj:=bW ep K [(nt,.str x (tx+1)),(vN,.int a ta),(zn,J),(tP,.ref rs)]
def gQ (ep:Nat) (K:Nat->Int×Nat) (x:Str) (tx:Nat) (a:Int) (ta:Nat) (J:Value) (rs:Nat) (p:Int) (tp:Nat) (y:Str) (ty:Nat):Obj:=
 bW ep K [(nt,.str x (tx+1)),(vN,.int a ta),(zn,J),(tP,.ref rs),(nu,.int p tp),(rX,.str y (ty+1))]
def MQ (w:World):Expr:=match bV (bU w 45) 4 with
 |.For t _ _ _ _=>t
 |_=>default
def KG (w:World):List Stmt:=match bV (bU w 45) 4 with
 |.For _ _ b _ _=>b
 |_=>[]
def ct (w:World) (fr ga:Nat):Code:=.forLoop (MQ w) (.ref (ga+158)) (KG w) [] (ej w 45 (fr+158))
def bk (g:Nat) (nm qn:Value):Obj:=dy "generator" [.int (g:Int) 0,nm,qn]
def lj (a:Nat):Code:=.call (.builtin "generator.__next__") ⟨[.ref a],[]⟩
theorem Fy (w fr ga g' nm qn n t g):
  ay (aG w 800) 20 (ct w fr ga) .top (aM (ct w fr ga)) 1047712 [⟨ga+158,bk g' nm qn⟩] n t g [] [0]
   (.call true (ct w fr ga) (lj (ga+158)) true) [some ⟨ga+158,bk g' nm qn⟩] []:=by kernel_rfl
def sK (w:World) (fr ga g':Nat) (nm qn:Value) (n t g:Nat) (rs:List HR):Result->Sem Fin:=
 (fw (aG w 800) 20 (ct w fr ga) .top (aM (ct w fr ga)) 1047712 (E0 [⟨ga+158,bk g' nm qn⟩]) (M0 [⟨ga+158,bk g' nm qn⟩]) (n+158) 0 (t+1) 0 g 0 (L0 rs)).kont
def vS (w:World) (hs:List aq):V:=vL w 800 900 hs
def jC:Nat:=0x28400284a1284a2+((rp 0x28ca128ca328c0028ca3 0 80 3)+0x1004a0280a0280a0294a3<<<240)<<<60
def m0:Nat:=jC+(1271478255775<<<380)
def vP:Nat:=jC+(0+((rp 1073742849 0 40 6)+0x1280a0280a0000a001003280a0280a328ca328ca0008a02809f00000000000000000401<<<240)<<<60)
def rY:Nat:=m0+(0x250140501400013db1<<<411)
section
variable (w:World) (fr ga g':Nat) (nm qn:Value) (n0 t0 g0:Nat) (b ep:Nat) (K:Nat->Int×Nat) (x:Str) (tx:Nat) (a:Int) (ta rs i ti:Nat) (y:Str) (ty n t g:Nat)
theorem GF (ov):∀w,ay (vS w [aF y iw false]) 200 (ct w fr ga) .top (sK w fr ga g' nm qn n0 t0 g0 [] (.ok (.ret (.ref (b+158))))) jC
   [⟨fr+158,vO ep K x tx a ta ov rs⟩,⟨b+158,bt [.int i ti,.str y (ty+1)]⟩,⟨ga+158,bk g' nm qn⟩] n t g [] [0,2]
   (.again (ct w fr ga)) [some ⟨fr+158,gQ (ep+2) (ik (ik K 4 (aB w nu,t)) 5 (aB w rX,t+1)) x tx a ta ov rs i ti y ty⟩,some ⟨ga+158,bk g' nm qn⟩] []:=aT
theorem GG (ov p' tp' y' ty'):∀w,ay (vS w [aF y iw false]) 200 (ct w fr ga) .top (sK w fr ga g' nm qn n0 t0 g0 [] (.ok (.ret (.ref (b+158))))) jC
   [⟨fr+158,gQ ep K x tx a ta ov rs p' tp' y' ty'⟩,⟨b+158,bt [.int i ti,.str y (ty+1)]⟩,⟨ga+158,bk g' nm qn⟩] n t g [] [0,2]
   (.again (ct w fr ga)) [some ⟨fr+158,gQ ep K x tx a ta ov rs i ti y ty⟩,some ⟨ga+158,bk g' nm qn⟩] []:=aT
theorem IG:∀w,ay (vS w [aF y iw true]) 200 (ct w fr ga) .top (sK w fr ga g' nm qn n0 t0 g0 [] (.ok (.ret (.ref (b+158))))) m0
   [⟨fr+158,vO ep K x tx a ta .none rs⟩,⟨b+158,bt [.int i ti,.str y (ty+1)]⟩,⟨ga+158,bk g' nm qn⟩] n t g [] [0,2]
   (.again (ct w fr ga)) [some ⟨fr+158,gQ (ep+2) (ik (ik K 4 (aB w nu,t)) 5 (aB w rX,t+1)) x tx a ta (.int i ti) rs i ti y ty⟩,some ⟨ga+158,bk g' nm qn⟩] []:=aT
theorem II (p' tp' y' ty'):∀w,ay (vS w [aF y iw true]) 200 (ct w fr ga) .top (sK w fr ga g' nm qn n0 t0 g0 [] (.ok (.ret (.ref (b+158))))) m0
   [⟨fr+158,gQ ep K x tx a ta .none rs p' tp' y' ty'⟩,⟨b+158,bt [.int i ti,.str y (ty+1)]⟩,⟨ga+158,bk g' nm qn⟩] n t g [] [0,2]
   (.again (ct w fr ga)) [some ⟨fr+158,gQ ep K x tx a ta (.int i ti) rs i ti y ty⟩,some ⟨ga+158,bk g' nm qn⟩] []:=aT
theorem DA (o to' p' tp' y' ty'):∀w,ay (vS w [aF y iw true,oV a o false]) 200 (ct w fr ga) .top (sK w fr ga g' nm qn n0 t0 g0 [] (.ok (.ret (.ref (b+158))))) rY
   [⟨fr+158,gQ ep K x tx a ta (.int o to') rs p' tp' y' ty'⟩,⟨b+158,bt [.int i ti,.str y (ty+1)]⟩,⟨ga+158,bk g' nm qn⟩] n t g [] [0,2]
   (.again (ct w fr ga)) [some ⟨fr+158,gQ ep K x tx ((i:Int)+1) (t+5) .none rs i ti y ty⟩,some ⟨ga+158,bk g' nm qn⟩] []:=aT
theorem IJ (o to' p' tp' y' ty' z xs el ρ ρ2):∀w,ay (vS w [aF y iw true,oV a o true,bZ 7 (n+161) x tx (some (a,ta)) (some (o,to')) z,c8 3 (rs+158) xs el (.str z)]) 200 (ct w fr ga) .top (sK w fr ga g' nm qn n0 t0 g0 [] (.ok (.ret (.ref (b+158))))) vP
   [⟨fr+158,gQ ep K x tx a ta (.int o to') (rs+158) p' tp' y' ty'⟩,⟨b+158,bt [.int i ti,.str y (ty+1)]⟩,⟨ga+158,bk g' nm qn⟩,⟨rs+158,aa xs el⟩] n t g [ρ,ρ2] [0,2,3]
   (.again (ct w fr ga)) [some ⟨fr+158,gQ ep K x tx ((i:Int)+1) (ρ2.t+2) .none (rs+158) i ti y ty⟩,some ⟨ga+158,bk g' nm qn⟩,some ⟨rs+158,aa (xs.concat (.str z (ρ.x+1))) (el+1)⟩] []:=aT
theorem MR (e1):∀w,ay (aG w 800) 20 (ct w fr ga) .top (sK w fr ga g' nm qn n0 t0 g0 [] (.error (.ref (e1+158)))) 161
   [⟨b+158,bt []⟩,⟨e1+158,gP (b+158)⟩] n t g [] [] (.ret (.ok .next)) [] []:=aT
end
def je (x:Str) (tx:Nat):Code:=.call (.ref 45) ⟨[.str x (tx+1)],[]⟩
theorem MS (x tx n t g):∀w,ay (vS w [mZ x iw false]) 100 (je x tx) .top (aM (je x tx)) 0xa0004a000002280a00b02d [] n t g [] [] (.ret (.ok (.ret (.str x (tx+1))))) [] []:=aT
def kS (w:World) (t:Nat):Nat->Int×Nat:=ik (ik (ik (ik (λU=>(0,0)) 0 (aB w nt,t)) 1 (aB w vN,t+3)) 2 (aB w zn,t+4)) 3 (aB w tP,t+5)
def kG (w:World) (t:Nat):Nat->Int×Nat:=ik (λU=>(0,0)) 0 (aB w nt,t+6)
def uK (w:World) (t:Nat):Value:=.str (iI w 38).name t
def zq:Nat:=0x3ff28ca3000a328c02288a2094260002628003280a0280a0280a0004a000002280a00b02d
theorem MT (x tx n t g):∀w,ay (vS w [mZ x iw true]) 100 (je x tx) .top (aM (je x tx)) zq [] n t g [] [0,1,2,3]
   (.call true (.func (bU w 45) (ej w 45 (n+158))) (ct w n (n+3)) false)
   [some ⟨n+158,vO 4 (kS w t) x tx 0 (t+3) .none (n+159)⟩,some ⟨n+159,aa [] 0⟩,some ⟨n+160,oS 1 (kG w t) x tx⟩,some ⟨n+161,bk g (uK w (t+8)) (uK w (t+9))⟩]
   [(g,cC w (n+2))]:=aT
def sF (w:World) (x:Str) (tx n t g:Nat):Result->Sem Fin:=
 (fw (vS w [mZ x iw true]) 100 (je x tx) .top (aM (je x tx)) zq (E0 []) (M0 []) (n+158) 0 (t+1) 0 g 0 (L0 [])).kont
def tQ:Nat:=0x3ff28004008a0280a1284a1284a0004052800000ca0
def zr (t a:Nat):Code:=.call (.builtin "str.join") ⟨[.str ⟨#[]⟩ t,.ref a],[]⟩
theorem KH (x tx n t g ep K a ta ov rs p tp y ty z xs el n' t' g' ρ ρ2):∀w,ay (vS w [iv a (x.cps.size:Int) true,bZ 2 (n'+158) x tx (some (a,ta)) none z,bn x tx,c8 1 (rs+158) xs el (.str z),bn x tx]) 100
   (.func (bU w 45) (ej w 45 (n+158))) .top (sF w x tx n t g (.ok .next)) tQ [⟨n+158,gQ ep K x tx a ta ov (rs+158) p tp y ty⟩,⟨rs+158,aa xs el⟩] n' t' g' [ρ,ρ2] [1]
   (.call true (.func (bU w 45) (ej w 45 (n+158))) (zr (ρ2.t+1) (rs+158)) false) [some ⟨rs+158,aa (xs.concat (.str z (ρ.x+1))) (el+1)⟩] []:=aT
def sT (w:World) (x:Str) (tx n t g:Nat) (ep:Nat) (K:Nat->Int×Nat) (a:Int) (ta:Nat) (J:Value) (rs:Nat) (p:Int) (tp:Nat) (y:Str) (ty:Nat) (z:Str) (xs:List Value) (el n' t' g':Nat) (hs:List HR):Result->Sem Fin:=
 (fw (vS w [iv a (x.cps.size:Int) true,bZ 2 (n'+158) x tx (some (a,ta)) none z,bn x tx,c8 1 (rs+158) xs el (.str z),bn x tx]) 100 (.func (bU w 45) (ej w 45 (n+158))) .top (sF w x tx n t g (.ok .next)) tQ (E0 [⟨n+158,gQ ep K x tx a ta J (rs+158) p tp y ty⟩,⟨rs+158,aa xs el⟩]) (M0 [⟨n+158,gQ ep K x tx a ta J (rs+158) p tp y ty⟩,⟨rs+158,aa xs el⟩]) (n'+158) 0 (t'+1) 0 g' 0 (L0 hs)).kont
theorem IK (x tx n t g ep K a ta ov rs p tp y ty z xs el n' t' g' ρ ρ2 u tu n'' t'' g''):∀w,ay (aG w 800) 100
   (.func (bU w 45) (ej w 45 (n+158))) .top (sT w x tx n t g ep K a ta ov rs p tp y ty z xs el n' t' g' [ρ,ρ2] (.ok (.ret (.str u tu)))) 0 [] n'' t'' g'' [] []
   (.ret (.ok (.ret (.str u tu)))) [] []:=aT
theorem GH (x tx n t g ep K a ta ov rs p tp y ty u xs el n' t' g' ρ):∀w,ay (vS w [iv a (x.cps.size:Int) false,bn x tx,nz 1 (rs+158) ⟨#[]⟩ xs el u,bn x tx,bn x tx]) 100
   (.func (bU w 45) (ej w 45 (n+158))) .top (sF w x tx n t g (.ok .next)) 0xca0004052800000ca0 [⟨n+158,gQ ep K x tx a ta ov (rs+158) p tp y ty⟩,⟨rs+158,aa xs el⟩] n' t' g' [ρ] []
   (.ret (.ok (.ret (.str u (ρ.x+1))))) [] []:=aT
section
open Builtin.Str (strSliceIndices glued tooLong)
def cut (x:Str) (l u:Option Int):Str:=match(strSliceIndices l u 1 x.length).length==x.length with
 |true=>x
 |false=>⟨((strSliceIndices l u 1 x.length).filterMap (x.cps[·]?)).toArray⟩
theorem nA:∀(x:Str) (t:Nat) (l u:Option (Int×Nat)),sliceMade x t l u none=.val (.str x t)/\cut x (l.map (·.1)) (u.map (·.1))=x\/sliceMade x t l u none=.str (cut x (l.map (·.1)) (u.map (·.1))):=by
 ext x t l u:0;unfold sliceMade cut slicePicked;simp only[Option.map_none,Option.getD_none];cases h:(strSliceIndices (l.map (·.1)) (u.map (·.1)) 1 x.length).length==x.length with
 |true=>left;simp at h;trivial
 |false=>right;simp at h;rfl
noncomputable abbrev vQ:=Int×Option Int×List Str
def dT (x:Str) (J:vQ) (it:Nat×List Nat):vQ:=match it.2==[34] with
 |false=>J
 |true=>match J.2.1 with
  |none=>(J.1,some (it.1:Int),J.2.2)
  |some o=>((it.1:Int)+1,none,match J.1 != o with
   |true=>J.2.2++[cut x (some J.1) (some o)]
   |false=>J.2.2)
def yk (o:Option Int) (t:Nat):Value:=match o with
 |none=>.none
 |some i=>.int i t
inductive qh (x:Str) (tx rs:Nat):Bool->Int->Option Int->Obj->Prop where
 |first (ep K ta):qh x tx rs false 0 none (vO ep K x tx 0 ta .none (rs+158))
 |next (a o ep K ta to' p tp y ty):qh x tx rs true a o (gQ ep K x tx a ta (yk o to') (rs+158) p tp y ty)
structure cU (B g:Nat) (s s':Shared):Prop where
 more:s.heap.objs.size<=s'.heap.objs.size
 tmore:s.toks<=s'.toks
 drawn:ij s'=ij s
 os:s'.os=s.os
 keep:∀(a:Nat) o,a<B->s.heap.get? a=some o->s'.heap.get? a=some o
 gkeep:∀(k:Nat) (x:GenState),k≠g->s.gens[k]? =some x->s'.gens[k]? =some x
theorem cU.trans (h:cU B g s s') (J:cU B g s' s''):cU B g s s'':=
 ⟨bC h.more J.more,bC h.tmore J.tmore,J.drawn.trans h.drawn,J.os.trans h.os,λa o l x=>J.keep a o l (h.keep a o l x),λk x n y=>J.gkeep k x n (h.gkeep k x n y)⟩
theorem bu.keepX {kt:KT} {s₀ s:Shared} {A0:List Nat} {sel ng} (D:bu kt s₀ s A0 sel ng) {B g:Nat} (h:∀a∈A0,B<=a):cU B g s₀ s:=
 ⟨D.more,D.tmore,D.drawn,D.os,λa o l x=>D.keep a o x λm=>bh (h a m) (Nat.not_le.mpr l),λk x U=>D.gkeep k x⟩
theorem eQ {s:Shared} {g k:Nat} (h:k≠g) (J:GenState):(s.setGen g J).gens[k]? =s.gens[k]? :=by
 simp[Shared.setGen,Array.getElem?_setIfInBounds,Ne.symm h]
theorem iX (x l u):(cut x l u).length<=x.length:=by
 unfold cut;split
 .exact bg _
 .show((strSliceIndices l u 1 x.length).filterMap (x.cps[·]?)).toArray.size<=_;rw[List.size_toArray];exact bC (List.length_filterMap_le _ _) (sliceIndices_le l u x.length)
theorem m3 (l z t):(bp l).concat (.str z (t+1))=bp (l++[(z,t)]):=by simp[bp]
theorem aQ.of (h:aQ s l) (k:∀e∈l,s.heap.get? e.a=some e.o->s'.heap.get? e.a=some e.o):aQ s' l:=λe J=>k e J (h e J)
theorem aK.setGen {w} (T:aK w s) (g x):aK w (s.setGen g x):=⟨T.top,T.size,T.toks⟩
theorem cU.setGen {B g} (h:cU B g s s') (hy:s'.gens[g]? =some y) (OE:y.bare=true) (x) (J:x.bare=true):cU B g s (s'.setGen g x):=
 ⟨h.more,h.tmore,(iV hy OE J).trans h.drawn,h.os,h.keep,λk y n z=>(eQ n x).trans (h.gkeep k y n z)⟩
theorem fZ.toX {B B' g} (h:fZ B s s') (hb:B'<=B):cU B' g s s':=
 ⟨h.more,h.tmore,h.drawn,h.os,λa o l x=>h.keep a o (.inl (by lia)) x,λk x U=>h.gkeep k x⟩
theorem uL {A} (h:aL d A):aL (d+1) A.in1:=⟨h.hd,bC h.dp (Nat.le_succ _),by have:=h.un;show A.units+1<=10*(d+1);exact y0 this⟩
theorem mD (w fr ga):bq (ct w fr ga):=ba rfl
structure SA (B0 B fr rs ga:Nat):Prop where
 f:B0<=fr+158
 r:B0<=rs+158
 n:fr≠rs
 fb:fr+158<B
 rb:rs+158<B
 g:ga+158=B+1
 l:B0<=B
 h:158<=B0
def vR (w:World) (B0 g fr rs:Nat) (x:Str) (tx:Nat) (b:Bool) (st:vQ) (s:Shared):Result->Shared->Prop:=λr J=>
 r=.ok .next/\cU B0 g s J/\aK w J/\∃F l el,qh x tx rs b st.1 st.2.1 F/\l.map (·.1)=st.2.2/\aQ J [⟨fr+158,F⟩,⟨rs+158,aa (bp l) el⟩]
theorem vR.back {w:World} {B0 g fr rs:Nat} {x:Str} {tx:Nat} {b:Bool} {st:vQ} {s J:Shared} {r:Result} {s':Shared} (h:vR w B0 g fr rs x tx b st J r s') (k:cU B0 g s J):vR w B0 g fr rs x tx b st s r s':=
 ⟨h.1,k.trans h.2.1,h.2.2⟩
theorem iJ {α:Type} {l:List α} (h:l.length=2):∃a b,l=[a,b]:=by
 match l,h with
 |[a,b],_=>exact⟨a,b,rfl⟩
section
variable {w:World} {A:Around} (hA:aL 700 A) {x:Str} {tx fr rs ga g:Nat} {nm qn:Value} {B0 B:Nat} (G:SA B0 B fr rs ga) {items:List (Nat×List Nat)} (hx:x.length<=1000)
include hA G hx
theorem zt:∀rest b st F l el gs lg s OR,
  items=OR++rest->qh x tx rs b st.1 st.2.1 F->l.map (·.1)=st.2.2->rest.length+l.length<=10000->aK w s->aQ s [⟨fr+158,F⟩,⟨rs+158,aa (bp l) el⟩,⟨ga+158,bk g nm qn⟩]->
  s.gens[g]? =some gs->gs.bare=true->(∀e∈lg,oF B e.a)->aQ s lg->
  (∀s',aK w s'->aQ s' lg->s.heap.objs.size<=s'.heap.objs.size->gs.Goes (model pw w) (A.under (ct w fr ga)).in1 (RG w B) (YG w B items) rest.length (.send .none) s')->
  codeAny (model pw w) A (ct w fr ga) (vR w B0 g fr rs x tx (b|| !rest.isEmpty) (rest.foldl (dT x) st) s) s:=by
 revert hA G hx;ext w A x tx fr rs ga g nm qn ⟨B0,B,items⟩;ext B0 B items;intro hA G hx;intro rest;induction rest with
 |nil=>
  intro b st F l el gs lg s OR hit hF hl OS T hh OK OX OP O2 OY;ext b st F l el gs lg s OR ⟨hit,hF,hl,OS,T,hh,OK,OX,OP,O2,OY⟩;have h3:=hh _ gr;obtain⟨n,t,g0,S⟩:=T.st (dJ h3) (d6 (bN _ _));ext n t g0 ⟨S⟩;have hc:=mD w fr ga;refine rd (v:=aG w 800) (bx _) (hA.mono (d':=800)) S hc 0 20 1047712 [0] (λU=>.call true (ct w fr ga) (lj (ga+158)) true) (λU=>[some ⟨ga+158,bk g nm qn⟩]) (λU=>[])
   (λOE J=>by obtain rfl:=dI.mp J;exact Fy w fr ga g nm qn n t g0) λOE s1 J D=>?_
  ext OE s1 ⟨J,D⟩;obtain rfl:=dI.mp J;have T1:=D.topS T;have OL:∀a o,a≠ga+158->s.heap.get? a=some o->s1.heap.get? a=some o:=λa o ne h=>D.keep a o h (by
   simp only[de,fK,aY,bS,bT];exact ne)
  have k1:cU B0 g s s1:=D.keepX λa ha=>by
   simp only[de,fK,aY,bS,bT] at ha;have:=G.g;have:=G.l;lia
  have OW:s1.heap.get? (ga+158)=some (bk g nm qn):=D.sel _ aJ;have O4:aL 705 (A.under (ct w fr ga)):=hA.under hc;have Pj:aQ s1 lg:=O2.of λe he=>OL _ _ (by have:=OP e he;unfold oF at this;have:=G.g;lia);refine nr (P:=λn s₀ OQ=>n=0/\fZ B s₀ OQ/\aK w OQ) (Y:=YG w B items) O4.hd T1.noLimit (by have:=O4.dp;unfold recursionLimit;lia) ⟨_,nm,qn,OW,rfl,rfl,rfl⟩ (D.gkeep _ _ OK) (OY _ (T1.setGen g .running) Pj k1.more) ?_ ?_
  .rintro v s2 OG - ⟨Pi,_,_,_,T2,l',Ps,_,hk⟩;exact(hk s2 T2 Ps).elim
  .rintro s2 ⟨_,k2,T2⟩;ext s2 ⟨k2,T2⟩;have OO:s2.heap.get? (fr+158)=some F:=k2.keep _ _ (.inl G.fb) (OL _ _ (by have:=G.fb;have:=G.g;lia) (hh _ aJ));have O7:s2.heap.get? (rs+158)=some (aa (bp l) el):=k2.keep _ _ (.inl G.rb) (OL _ _ (by have:=G.rb;have:=G.g;lia) (hh _ cy));obtain⟨n2,t2,OU,Pt⟩:=T2.nat;ext n2 t2 ⟨OU,Pt⟩;have e1:(s2.heap.push (bt [])).objs.size=n2+1+158:=by rw[k8,OU]
   rw[e1,OU];generalize OV:({s2.setGen g .finished with heap:=(s2.heap.push (bt [])).push (gP (n2+158))}:Shared)=s3;have Pg:∀a o,s2.heap.get? a=some o->s3.heap.get? a=some o:=λa o h=>by rw[<-OV];exact ju _ (ju _ h)
   have Pw:s3.heap.objs.size=n2+2+158:=by rw[<-OV];show((s2.heap.push (bt [])).push (gP (n2+158))).objs.size=_;rw[k8,e1]
   have Pn:s3.toks=s2.toks:=by rw[<-OV];rfl
   have T3:aK w s3:=⟨λa o h=>Pg a o (T2.top a o h),by lia,by rw[Pn];exact T2.toks⟩;have Pp:s3.heap.get? (n2+158)=some (bt []):=by
    rw[<-OV];refine ju _ ?_;rw[<-OU];exact Heap.get?_push_size _ rfl
   have Pq:s3.heap.get? (n2+1+158)=some (gP (n2+158)):=by
    rw[<-OV,<-e1];exact Heap.get?_push_size _ rfl
   have k3:cU B0 g s s3:=by
    refine k1.trans ?_;have kk:cU B0 g s1 s2:=by
     have:=k2.toX (g:=g) G.l;exact⟨this.more,this.tmore,this.drawn.trans (iV (D.gkeep _ _ OK) OX rfl),this.os,this.keep,λk y ne h=>this.gkeep k y ne ((eQ ne _).trans h)⟩
    refine kk.trans ?_;rw[<-OV];exact⟨by show s2.heap.objs.size<=((s2.heap.push (bt [])).push (gP (n2+158))).objs.size;rw[k8,e1,OU];simp,bg _,iV (x:=.running) (k2.gkeep _ _ (setGen_self (D.gkeep _ _ OK))) rfl rfl,rfl,λa o U h=>ju _ (ju _ h),λk y ne h=>(eQ ne _).trans h⟩
   obtain⟨n4,t4,g4,S4⟩:=T3.st (mC Pp Pq) (rj (bN _ _) (bN _ _) (by simp));refine eB (v:=aG w 800) (bx _) (hA.mono (d':=800)) S4 hc 0 20 161 [] (λU=>.ret (.ok .next)) (λU=>[]) (λU=>[])
    (λOE J=>by obtain rfl:=dI.mp J;exact MR fr ga g nm qn n t g0 n2 n4 t4 g4 (n2+1) w) λOE s4 J D4=>?_
   have Pl:∀a o,a<n2+158->s3.heap.get? a=some o->s4.heap.get? a=some o:=λa o ne h=>D4.keep a o h (by
    simp only[de,fK,aY,bS,bT];lia)
   have Pk:∀{a} {o},s2.heap.get? a=some o->a<n2+158:=λh=>by rw[<-OU];exact fv h
   refine⟨rfl,k3.trans (D4.keepX λa ha=>?_),D4.topS T3,F,l,el,by simpa using hF,hl,mC (Pl _ _ (Pk OO) (Pg _ _ OO)) (Pl _ _ (Pk O7) (Pg _ _ O7))⟩;simp only[de,fK,aY,bS,bT] at ha;have:=Pk OO;have:=G.f;lia
 |cons it r ih=>
  ext it r ⟨ih⟩;intro b st F l el gs lg s OR hit hF hl OS T hh OK OX OP O2 OY;ext b st F l el gs lg s OR ⟨hit,hF,hl,OS,T,hh,OK,OX,OP,O2,OY⟩;have h3:=hh _ gr;obtain⟨n,t,g0,S⟩:=T.st (dJ h3) (d6 (bN _ _));ext n t g0 ⟨S⟩;have hc:=mD w fr ga;refine rd (v:=aG w 800) (bx _) (hA.mono (d':=800)) S hc 0 20 1047712 [0] (λU=>.call true (ct w fr ga) (lj (ga+158)) true) (λU=>[some ⟨ga+158,bk g nm qn⟩]) (λU=>[])
   (λOE J=>by obtain rfl:=dI.mp J;exact Fy w fr ga g nm qn n t g0) λOE s1 J D=>?_
  ext OE s1 ⟨J,D⟩;obtain rfl:=dI.mp J;have T1:=D.topS T;have OL:∀a o,a≠ga+158->s.heap.get? a=some o->s1.heap.get? a=some o:=λa o ne h=>D.keep a o h (by
   simp only[de,fK,aY,bS,bT];exact ne)
  have k1:cU B0 g s s1:=D.keepX λa ha=>by
   simp only[de,fK,aY,bS,bT] at ha;have:=G.g;have:=G.l;lia
  have OW:s1.heap.get? (ga+158)=some (bk g nm qn):=D.sel _ aJ;have O4:aL 705 (A.under (ct w fr ga)):=hA.under hc;have Pj:aQ s1 lg:=O2.of λe he=>OL _ _ (by have:=OP e he;unfold oF at this;have:=G.g;lia);refine nr (P:=λn s₀ OQ=>n=0/\fZ B s₀ OQ/\aK w OQ) (Y:=YG w B items) O4.hd T1.noLimit (by have:=O4.dp;unfold recursionLimit;lia) ⟨_,nm,qn,OW,rfl,rfl,rfl⟩ (D.gkeep _ _ OK) (OY _ (T1.setGen g .running) Pj k1.more) ?_ ?_
  .rintro v s2 OG Pc ⟨Pi,O0,⟨a,ta,tc,rfl,Pm,O9⟩,k2,T2,O5,O8,OM,hk⟩;ext s2 OG Pi a ta tc O5 ⟨Pc,O0,Pm,O9,k2,T2,O8,OM,hk⟩;have e0:items.length - 1 - ((it::r).length - 1)=OR.length:=by rw[hit];simp only[eh,fu];exact Bj
   rw[e0,hit] at O0;obtain rfl:it=Pi:=by simpa using O0
   have OO:s2.heap.get? (fr+158)=some F:=k2.keep _ _ (.inl G.fb) (OL _ _ (by have:=G.fb;have:=G.g;lia) (hh _ aJ));have O7:s2.heap.get? (rs+158)=some (aa (bp l) el):=k2.keep _ _ (.inl G.rb) (OL _ _ (by have:=G.rb;have:=G.g;lia) (hh _ cy));have Pr:s2.heap.get? (ga+158)=some (bk g nm qn):=k2.keep _ _ (.inr G.g) OW;have Pv:s1.heap.objs.size<=a+158:=Pm;have z1:fr+158<s1.heap.objs.size:=fv (OL _ _ (by have:=G.fb;have:=G.g;lia) (hh _ aJ));have z2:rs+158<s1.heap.objs.size:=fv (OL _ _ (by have:=G.rb;have:=G.g;lia) (hh _ cy));have z3:ga+158<s1.heap.objs.size:=fv OW;have Pa:s2.gens[g]? =some .running:=k2.gkeep _ _ (setGen_self (D.gkeep _ _ OK));have k3:cU B0 g s (s2.setGen g OG):=by
    refine k1.trans (cU.setGen ?_ Pa rfl OG Pc);have:=k2.toX (g:=g) G.l;exact⟨this.more,this.tmore,this.drawn.trans (iV (D.gkeep _ _ OK) OX rfl),this.os,this.keep,λk y ne h=>this.gkeep k y ne ((eQ ne _).trans h)⟩
   have T3:aK w (s2.setGen g OG):=T2.setGen g OG;have OZ:(s2.setGen g OG).gens[g]? =some OG:=setGen_self Pa;have OT:(s2.setGen g OG).heap.get? (fr+158)=some F:=OO;have Ph:(s2.setGen g OG).heap.get? (rs+158)=some (aa (bp l) el):=O7;have Pe:(s2.setGen g OG).heap.get? (ga+158)=some (bk g nm qn):=Pr;have Pf:(s2.setGen g OG).heap.get? (a+158)=some (bt [.int it.1 ta,.str ⟨it.2.toArray⟩ (tc+1)]):=O9;have O3:aQ (s2.setGen g OG) O5:=O8;generalize s2.setGen g OG=s3 at k3 T3 OZ OT Ph Pe Pf O3|-;have ON:∀s4 F' l' Pb,qh x tx rs true (dT x st it).1 (dT x st it).2.1 F'->l'.map (·.1)=(dT x st it).2.2->l'.length<=l.length+1->aK w s4->
     aQ s4 [⟨fr+158,F'⟩,⟨rs+158,aa (bp l') Pb⟩,⟨ga+158,bk g nm qn⟩]->s4.gens[g]? =some OG->aQ s4 O5->cU B0 g s3 s4->
     (ct w fr ga).quiet=true/\codeAny (model pw w) A (ct w fr ga) (vR w B0 g fr rs x tx (b|| !(it::r).isEmpty) ((it::r).foldl (dT x) st) s) s4:=by
    intro s4 F' l' Pb q1 q2 q3 q4 q5 q6 q7 q8;refine⟨aX rfl,eG (ih true (dT x st it) F' l' Pb OG O5 s4 (OR++[it]) (by rw[hit];simp) q1 q2 (by simp only[fu] at OS;lia) q4 q5 q6 Pc (λe he=>(OM e he).1) q7 λs' h1 h2 U=>hk s' h1 h2) λr' s' h=>?_⟩;have:=h.back (k3.trans q8);simpa using this
   have f3:aj [⟨fr+158,F⟩,⟨a+158,bt [.int it.1 ta,.str ⟨it.2.toArray⟩ (tc+1)]⟩,⟨ga+158,bk g nm qn⟩]:=⟨by have:=G.fb;have:=G.g;simp;lia,λe he=>.inl (by
    simp only[aY,bS,bT] at he;rcases he with rfl|rfl|rfl<;>exact bN _ _)⟩
   obtain⟨n4,t4,g4,S4⟩:=T3.st (jB OT Pf Pe) f3;ext n4 t4 g4 ⟨S4⟩;have a3:∀{s4} {Pu ng},bu (kt w) s3 s4 [fr+158,a+158,ga+158] Pu ng->s4.heap.get? (rs+158)=some (aa (bp l) el)/\s4.gens[g]? =some OG/\aQ s4 O5/\cU B0 g s3 s4:=λD4=>by
    refine⟨D4.keep _ _ Ph ?_,D4.gkeep _ _ OZ,O3.of λe he h=>D4.keep _ _ h ?_,D4.keepX λc Pd=>?_⟩
    .simp only[aY,bS,bT];have:=G.n;have:=G.rb;have:=G.g;lia
    .simp only[aY,bS,bT];have h1:=OM e he;have h2:a+158≠e.a:=λq=>h1.2 (by rw[<-q]);have h3:=h1.1;unfold oF at h3;have:=G.fb;have:=G.g;lia
    .simp only[aY,bS,bT] at Pd;have:=G.f;have:=G.l;have:=G.g;lia
   have lv:(⟨it.2.toArray⟩:Str).cps.toList=it.2:=List.toList_toArray ..;have lq:iw.cps.toList=[34]:=rfl;obtain⟨sa,op,OJ⟩:=st;ext sa op OJ ⟨hF,hl,ON⟩;cases hq:it.2==[34] with
   |false=>
    have OH:dT x (sa,op,OJ) it=(sa,op,OJ):=by dsimp only[dT];rw[hq]
    cases hF with
    |first ep K OF=>
     ext ep K OF ⟨hh,OO,OT,f3,S4⟩;refine eB (v:=vS w [aF ⟨it.2.toArray⟩ iw false]) (bE λf hf=>by simp only[aY,bS,bT] at hf;subst hf;exact aO (by rw[lv,lq];exact hq)) (hA.mono (d':=800)) S4 hc 0 200 jC [0,2] (λU=>.again (ct w fr ga)) (λOE=>[some ⟨fr+158,gQ (ep+2) (ik (ik K 4 (aB w nu,t4)) 5 (aB w rX,t4+1)) x tx 0 OF .none (rs+158) it.1 ta ⟨it.2.toArray⟩ tc⟩,some ⟨ga+158,bk g nm qn⟩]) (λU=>[]) (λOE J=>by obtain rfl:=dI.mp J;exact GF fr ga g nm qn n t g0 a ep K x tx 0 OF (rs+158) it.1 ta _ tc n4 t4 g4 .none w) λOE s4 J D4=>?_;have q:=a3 D4;exact ON s4 _ l el (by rw[OH];exact .next 0 none _ _ _ 0 _ _ _ _) (by rw[OH];exact hl) (k9 _ _) (D4.topS T3) (jB (D4.sel _ aJ) q.1 (D4.sel _ cy)) q.2.1 q.2.2.1 q.2.2.2
    |next _ _ ep K OF OI p tp y ty=>
     refine eB (v:=vS w [aF ⟨it.2.toArray⟩ iw false]) (bE λf hf=>by simp only[aY,bS,bT] at hf;subst hf;exact aO (by rw[lv,lq];exact hq)) (hA.mono (d':=800)) S4 hc 0 200 jC [0,2] (λU=>.again (ct w fr ga)) (λOE=>[some ⟨fr+158,gQ ep K x tx sa OF (yk op OI) (rs+158) it.1 ta ⟨it.2.toArray⟩ tc⟩,some ⟨ga+158,bk g nm qn⟩]) (λU=>[]) (λOE J=>by obtain rfl:=dI.mp J;exact GG fr ga g nm qn n t g0 a ep K x tx sa OF (rs+158) it.1 ta _ tc n4 t4 g4 (yk op OI) p tp y ty w) λOE s4 J D4=>?_;have q:=a3 D4;exact ON s4 _ l el (by rw[OH];exact .next sa op _ _ _ OI _ _ _ _) (by rw[OH];exact hl) (by lia) (D4.topS T3) (jB (D4.sel _ aJ) q.1 (D4.sel _ cy)) q.2.1 q.2.2.1 q.2.2.2
   |true=>
    have O6:((⟨it.2.toArray⟩:Str).cps.toList==iw.cps.toList)=true:=by rw[lv,lq];exact hq
    cases op with
    |none=>
     have OH:dT x (sa,none,OJ) it=(sa,some (it.1:Int),OJ):=by dsimp only[dT];rw[hq]
     cases hF with
     |first ep K OF=>
      ext ep K OF ⟨hh,OO,OT,f3,S4⟩;refine eB (v:=vS w [aF ⟨it.2.toArray⟩ iw true]) (bE λf hf=>by simp only[aY,bS,bT] at hf;subst hf;exact aO O6) (hA.mono (d':=800)) S4 hc 0 200 m0 [0,2] (λU=>.again (ct w fr ga)) (λOE=>[some ⟨fr+158,gQ (ep+2) (ik (ik K 4 (aB w nu,t4)) 5 (aB w rX,t4+1)) x tx 0 OF (.int it.1 ta) (rs+158) it.1 ta ⟨it.2.toArray⟩ tc⟩,some ⟨ga+158,bk g nm qn⟩]) (λU=>[]) (λOE J=>by obtain rfl:=dI.mp J;exact IG fr ga g nm qn n t g0 a ep K x tx 0 OF (rs+158) it.1 ta _ tc n4 t4 g4 w) λOE s4 J D4=>?_;have q:=a3 D4;exact ON s4 _ l el (by rw[OH];exact .next 0 (some (it.1:Int)) _ _ _ ta _ _ _ _) (by rw[OH];exact hl) (by lia) (D4.topS T3) (jB (D4.sel _ aJ) q.1 (D4.sel _ cy)) q.2.1 q.2.2.1 q.2.2.2
     |next _ _ ep K OF OI p tp y ty=>
      refine eB (v:=vS w [aF ⟨it.2.toArray⟩ iw true]) (bE λf hf=>by simp only[aY,bS,bT] at hf;subst hf;exact aO O6) (hA.mono (d':=800)) S4 hc 0 200 m0 [0,2] (λU=>.again (ct w fr ga)) (λOE=>[some ⟨fr+158,gQ ep K x tx sa OF (.int it.1 ta) (rs+158) it.1 ta ⟨it.2.toArray⟩ tc⟩,some ⟨ga+158,bk g nm qn⟩]) (λU=>[]) (λOE J=>by obtain rfl:=dI.mp J;exact II fr ga g nm qn n t g0 a ep K x tx sa OF (rs+158) it.1 ta _ tc n4 t4 g4 p tp y ty w) λOE s4 J D4=>?_;have q:=a3 D4;exact ON s4 _ l el (by rw[OH];exact .next sa (some (it.1:Int)) _ _ _ ta _ _ _ _) (by rw[OH];exact hl) (by lia) (D4.topS T3) (jB (D4.sel _ aJ) q.1 (D4.sel _ cy)) q.2.1 q.2.2.1 q.2.2.2
    |some o=>
     ext o ⟨hF,hl,ON⟩;cases hF with
     |next _ _ ep K OF OI p tp y ty=>
      ext ep K OF OI p tp y ty ⟨hh,OO,OT,f3,S4⟩;cases hne:sa != o with
      |false=>
       have OH:dT x (sa,some o,OJ) it=((it.1:Int)+1,none,OJ):=by dsimp only[dT];rw[hq];dsimp only;rw[hne]
       refine eB (v:=vS w [aF ⟨it.2.toArray⟩ iw true,oV sa o false]) (bE λf hf=>by simp only[aY,bS,bT] at hf;rcases hf with rfl|rfl;exact aO O6;exact uI hne) (hA.mono (d':=800)) S4 hc 0 200 rY [0,2] (λU=>.again (ct w fr ga)) (λOE=>[some ⟨fr+158,gQ ep K x tx ((it.1:Int)+1) (t4+5) .none (rs+158) it.1 ta ⟨it.2.toArray⟩ tc⟩,some ⟨ga+158,bk g nm qn⟩]) (λU=>[]) (λOE J=>by obtain rfl:=dI.mp J;exact DA fr ga g nm qn n t g0 a ep K x tx sa OF (rs+158) it.1 ta _ tc n4 t4 g4 o OI p tp y ty w) λOE s4 J D4=>?_;have q:=a3 D4;exact ON s4 _ l el (by rw[OH];exact .next ((it.1:Int)+1) none _ _ _ 0 _ _ _ _) (by rw[OH];exact hl) (by lia) (D4.topS T3) (jB (D4.sel _ aJ) q.1 (D4.sel _ cy)) q.2.1 q.2.2.1 q.2.2.2
      |true=>
       have OH:dT x (sa,some o,OJ) it=((it.1:Int)+1,none,OJ++[cut x (some sa) (some o)]):=by dsimp only[dT];rw[hq];dsimp only;rw[hne]
       have f4:aj [⟨fr+158,gQ ep K x tx sa OF (.int o OI) (rs+158) p tp y ty⟩,⟨a+158,bt [.int it.1 ta,.str ⟨it.2.toArray⟩ (tc+1)]⟩,⟨ga+158,bk g nm qn⟩,⟨rs+158,aa (bp l) el⟩]:=⟨by have:=G.fb;have:=G.g;have:=G.rb;have:=G.n;simp;lia,λe he=>.inl (by
        simp only[aY,bS,bT] at he;rcases he with rfl|rfl|rfl|rfl<;>exact bN _ _)⟩
       have h4:aQ s3 [⟨fr+158,gQ ep K x tx sa OF (.int o OI) (rs+158) p tp y ty⟩,⟨a+158,bt [.int it.1 ta,.str ⟨it.2.toArray⟩ (tc+1)]⟩,⟨ga+158,bk g nm qn⟩,⟨rs+158,aa (bp l) el⟩]:=by
        refine ah ?_<|ah ?_<|ah ?_<|ah ?_ aE
        .exact OT
        .exact Pf
        .exact Pe
        .exact Ph
       obtain⟨n5,t5,g5,S5⟩:=T3.st h4 f4;ext n5 t5 g5 ⟨S5⟩;have zl:(cut x (some sa) (some o)).length<=sizeLine:=bC (iX _ _ _) (bC hx (by decide));have ll:(bp l).length<=sizeLine:=by
        have:(bp l).length=l.length:=by simp[bp]
        have h':10000<=sizeLine:=by decide
        lia
       refine eB (v:=vS w [aF ⟨it.2.toArray⟩ iw true,oV sa o true,bZ 7 (n5+161) x tx (some (sa,OF)) (some (o,OI)) (cut x (some sa) (some o)),c8 3 (rs+158) (bp l) el (.str (cut x (some sa) (some o)))]) (bE λf hf=>by simp only[aY,bS,bT] at hf;rcases hf with rfl|rfl|rfl|rfl;exact aO O6;exact uI hne;exact jd (nA x (tx+1) (some (sa,OF)) (some (o,OI))) zl;exact eK ll) (hA.mono (d':=800)) S5 hc 2 200 vP [0,2,3] (λU=>.again (ct w fr ga))
        (λOE=>[some ⟨fr+158,gQ ep K x tx ((it.1:Int)+1) ((OE.getD 1 ⟨0,0,0,0,0,0⟩).t+2) .none (rs+158) it.1 ta ⟨it.2.toArray⟩ tc⟩,some ⟨ga+158,bk g nm qn⟩,some ⟨rs+158,aa ((bp l).concat (.str (cut x (some sa) (some o)) ((OE.getD 0 ⟨0,0,0,0,0,0⟩).x+1))) (el+1)⟩]) (λU=>[]) (λOE J=>by obtain⟨ρ,Po,rfl⟩:=iJ J;exact IJ fr ga g nm qn n t g0 a ep K x tx sa OF rs it.1 ta _ tc n5 t5 g5 o OI p tp y ty _ _ el ρ Po w) λOE s4 J D4=>?_
       obtain⟨ρ,Po,rfl⟩:=iJ J;have q3:s4.heap.get? (rs+158)=some (aa (bp (l++[(cut x (some sa) (some o),ρ.x)])) (el+1)):=by
        rw[<-m3];exact D4.sel _ gr
       refine ON s4 _ (l++[(cut x (some sa) (some o),ρ.x)]) (el+1) (by rw[OH];exact .next ((it.1:Int)+1) none _ _ _ 0 _ _ _ _) (by rw[OH,k6,show l.map (·.1)=OJ from hl];rfl) (by simp) (D4.topS T3) (jB (D4.sel _ aJ) q3 (D4.sel _ cy)) (D4.gkeep _ _ OZ) (O3.of λe he h=>D4.keep _ _ h ?_) (D4.keepX λc Pd=>?_)
       .simp only[de,fK,aY,bS,bT];have h1:=OM e he;have h2:a+158≠e.a:=λq=>h1.2 (by rw[<-q]);have h3:=h1.1;unfold oF at h3;have:=G.fb;have:=G.g;have:=G.rb;lia
       .simp only[de,fK,aY,bS,bT] at Pd;have:=G.f;have:=G.l;have:=G.g;have:=G.r;lia
  .rintro s2 ⟨h,_⟩;cases h
end
theorem cU.hstep (k:cU s.heap.objs.size s.gens.size s s') (T:aK w s'):
  cJ s s' ⟨s'.heap.objs.size - 158,s'.toks - 1,s'.gens.size,x,y,z⟩ ⟨r,[],[]⟩:=by
 refine⟨?_,k.more,?_,k.tmore,rfl,k.drawn,k.os,λj u h=>k.gkeep j u ?_ h,λa o h U=>k.keep a o (fv h) h,λU h=>(nomatch h),λU h=>(nomatch h),List.Pairwise.nil⟩
 .have:=T.size;show _=s'.heap.objs.size - 158+158;exact vz this
 .have:=T.toks;show _=s'.toks - 1+1;exact vz this
 .intro e;subst e;rw[Array.getElem?_eq_none (bg _)] at h;cases h
def eH (x:Str):List (Nat×List Nat):=bX x.cps.toList 0 false
def gC (x:Str):vQ:=(eH x).foldl (dT x) (0,none,[])
def ey (x:Str):List Str:=match decide ((gC x).1<(x.cps.size:Int)) with
 |true=>(gC x).2.2++[cut x (some (gC x).1) none]
 |false=>(gC x).2.2
def hO (l:List Str):Str:=glued ⟨#[]⟩ l
def vT (x:Str):Bool:=!(Builtin.Str.occurrences x iw 0 x.length 1).isEmpty
def jZ (x:Str):Str:=match vT x with
 |true=>hO (ey x)
 |false=>x
theorem rl:∀l i e,(bX l i e).length<=l.length+1
 |[],_,e=>by cases e<;>simp[bX]
 |c::r,i,e=>by
  have J:=rl r (i+1) false;have h2:=rl r (i+1) true;cases e with
  |true=>simp only[bX,fu];exact y0 J
  |false=>
   simp only[bX];split<;>simp only[fu]<;>lia
theorem ym (x:Str):∀(l:List (Nat×List Nat)) (J:vQ),(∀z∈J.2.2,z.length<=x.length)->(∀z∈(l.foldl (dT x) J).2.2,z.length<=x.length)/\(l.foldl (dT x) J).2.2.length<=l.length+J.2.2.length
 |[],J,h=>⟨h,by simp⟩
 |it::r,J,h=>by
  have OE:(∀z∈(dT x J it).2.2,z.length<=x.length)/\(dT x J it).2.2.length<=1+J.2.2.length:=by
   unfold dT;split
   .exact⟨h,by exact bN _ _⟩
   .split
    .exact⟨h,by simp⟩
    .dsimp only;split
     .refine⟨λz hz=>?_,by simp;exact i7 Bj⟩;rcases dk.mp hz with hz|hz
      .exact h z hz
      .rw[cD] at hz;subst hz;exact iX _ _ _
     .exact⟨h,by exact bN _ _⟩
  have z:=ym x r (dT x J it) OE.1;exact⟨z.1,by have:=z.2;have:=OE.2;simp only[k7,fu];exact(au (ax OE.2 z.2))⟩
theorem vU (m:Nat):∀(l:List Str) (acc:Nat),(∀z∈l,z.length<=m)->l.foldl (λa z=>a+z.length+(⟨#[]⟩:Str).length) acc<=acc+l.length*m
 |[],acc,_=>by simp
 |z::r,acc,h=>by
  have J:=vU m r (acc+z.length+(⟨#[]⟩:Str).length) λy hy=>h y (.tail _ hy);have h2:=h z aJ;have h3:(⟨#[]⟩:Str).length=0:=rfl;simp only[k7,fu];rw[h3] at J|-;have:(r.length+1)*m=r.length*m+m:=Nat.succ_mul _ _;lia
theorem uM (m:Nat):∀(l:List Str) (acc:Array Nat),(∀z∈l,z.length<=m)->(l.foldl (λacc p=>acc++(⟨#[]⟩:Str).cps++p.cps) acc).size<=acc.size+l.length*m
 |[],acc,_=>by simp
 |z::r,acc,h=>by
  have J:=uM m r (acc++(⟨#[]⟩:Str).cps++z.cps) λy hy=>h y (.tail _ hy);have h2:z.cps.size<=m:=h z aJ;have h3:(acc++(⟨#[]⟩:Str).cps++z.cps).size=acc.size+z.cps.size:=by simp
  rw[k7,fu];rw[h3] at J;have:(r.length+1)*m=r.length*m+m:=Nat.succ_mul _ _;lia
theorem vV {m:Nat} {l:List Str} (h:∀z∈l,z.length<=m):(hO l).length<=l.length*m:=by
 cases l with
 |nil=>simp[hO,glued,Str.length,Str.empty]
 |cons z r=>
  have h1:=uM m r z.cps λy J=>h y (.tail _ J);have h2:z.cps.size<=m:=h z aJ;have:(r.length+1)*m=r.length*m+m:=Nat.succ_mul _ _;show(r.foldl (λacc p=>acc++(⟨#[]⟩:Str).cps++p.cps) z.cps).size<=(r.length+1)*m;lia
theorem gR {α:Type} {l:List α} (h:l.length=1):∃a,l=[a]:=List.length_eq_one_iff.mp h
def hV (y:Str):HR->j5:=λρ=>⟨.ok (.ret (.str y (ρ.x+1))),[],[]⟩
theorem Br {w:World} {dh k a el:Nat} {l:List (Str×Nat)} {x:Str} (hx:x.length<=1000) (hl:l.length<=1100) (hz:∀z∈l.map (·.1),z.length<=x.length) {xs:List Value} (J:xs=bp l):
  ai w dh (nz k a ⟨#[]⟩ xs el (hO (l.map (·.1)))):=by
 have hs:1100*1000<=sizeLine:=by decide
 have hm:(l.map (·.1)).length*x.length<=1100*1000:=Nat.mul_le_mul (by simpa using hl) hx;refine qI (l:=l) rfl (λp hp=>by rw[hp];rfl) ?_ (bC (vV hz) (bC hm hs)) J;have h:=vU x.length (l.map (·.1)) 0 hz;have e:(l.map (·.1)).toArray.foldl (λx1 x2=>x1+x2.length+(⟨#[]⟩:Str).length) 0=(l.map (·.1)).foldl (λa z=>a+z.length+(⟨#[]⟩:Str).length) 0:=by simp
 rw[e];unfold tooLong;exact iS (by lia)
theorem zu {T id:String} {OH:Str} {B:Builtin} {J:Value} {rest:List Value} {A:Around} {R:Result->Shared->Prop} {s:Shared} {w:World} (OE:Slot T OH id) (hT:s.TypeIs J T)
  (OF:entryFor table id=some B) (OG:argsOk id ⟨J::rest,[]⟩)
  (h:wpAny (model pw w) A.in1 (B ⟨J::rest,[]⟩) (λOI s'=>match OI with|.done f=>R (.ok f) s'|.again c'=>c'.quiet=true/\codeAny (model pw w) A c' R s') (λe s'=>R (.error e) s') s):
  codeAny (model pw w) A (.call (.builtin id) ⟨J::rest,[]⟩) R s:=codeAny_call_builtin OE.plain OF (OE.check _ _ _ _ _ _ _ _ hT OG h)
theorem Bs:∀{w:World} {A:Around} {s:Shared} {R:Result->Shared->Prop} (hT:aK w s) {a el ta:Nat} {l:List (Str×Nat)} {x:Str} (hx:x.length<=1000) (hl:l.length<=1100) (hz:∀z∈l.map (·.1),z.length<=x.length)
  (ho:s.heap.get? a=some (aa (bp l) el)) (hR:∀t tk,s.toks<=tk+1->R (.ok (.ret (.str (hO (l.map (·.1))) (t+1)))) {s with toks:=tk+1}),codeAny (model pw w) A (zr ta a) R s:=by
 ext w A s R:0;intro hT;ext a el ta l x:0;intro hx hl hz ho hR;have hs:1100*1000<=sizeLine:=by decide
 have OF:(l.map (·.1)).length*x.length<=1100*1000:=Nat.mul_le_mul (by simpa using hl) hx;have J:(hO (l.map (·.1))).length<=sizeLine:=bC (vV hz) (bC OF hs);have OG:tooLong ((l.map (·.1)).toArray.foldl (·+ ·.length+(⟨#[]⟩:Str).length) 0)=false:=by
  have h:=vU x.length (l.map (·.1)) 0 hz;have e:(l.map (·.1)).toArray.foldl (λx1 x2=>x1+x2.length+(⟨#[]⟩:Str).length) 0=(l.map (·.1)).foldl (λa z=>a+z.length+(⟨#[]⟩:Str).length) 0:=by simp
  rw[e];unfold tooLong;exact iS (by lia)
 have e:s.toks - 1+1=s.toks:=mV hT.toks;have hm:(l.map λp=>(p.1,p.2+1)).map (·.1)=l.map (·.1):=by simp
 have hv:strValues (l.map λp=>(p.1,p.2+1))=bp l:=by simp[strValues,bp]
 refine zu F.slot_str_join (typeIs_str s _ _) F.entry_str_join (F.args_str_join_2 _ _) (meets_str_join_list ⟨#[]⟩ ta a (l.map λp=>(p.1,p.2+1)) (by rw[hm];exact OG) _ _ _ _ _ ⟨⟨_,ho,rfl,el,by rw[hv];rfl⟩,?_⟩);cases l with
 |nil=>
  refine⟨J,?_⟩;have:=hR (s.toks - 1) s.toks (k9 _ _);rw[e] at this;exact this
 |cons p r=>cases r with
  |nil=>
   have:=hR p.2 (s.toks - 1) (by lia);rw[e] at this;exact this
  |cons q r=>
   have OE:(glued ⟨#[]⟩ (((p::q::r).map λp=>(p.1,p.2+1)).map (·.1))).length<=sizeLine:=by rw[hm];exact J
   refine⟨OE,?_⟩;have:=hR (s.toks - 1) s.toks (by lia);rw[e,<-hm] at this;exact this
theorem xG (w tx) (hq:vT x=false):kr w 600 (je x tx) [] (hV x):=by
 intro A s hA T H;obtain⟨n,t,g,S⟩:=T.st H cj;refine dl (v:=vS w [mZ x iw false]) (bE λf J=>by rw[cD] at J;subst J;exact uJ hq) (hA.mono (d':=800)) S (bJ _ _) 0 100 0xa0004a000002280a00b02d []
  (λU=>.ret (.ok (.ret (.str x (tx+1))))) (λU=>[]) (λU=>[]) (λU=>MS x tx n t g w) λr s' D U=>?_
 exact⟨⟨_,_,_,tx,0,0⟩,rfl,cU.hstep (D.keepX λU h=>(nomatch h)) (D.topS T)⟩
theorem xH:∀(w:World) {x:Str} (tx:Nat) (hx:x.length<=1000) (ha:x.cps.all (·<128)=true) (hq:vT x=true),kr w 600 (je x tx) [] (hV (hO (ey x))):=by
 ext w x tx:0;intro hx ha hq;intro A s hA T H;ext A s ⟨hA,T,H⟩;obtain⟨n,t,g,S⟩:=T.st H cj;ext n t g ⟨S⟩;have hne:x.cps.toList≠[]:=λh=>by
  have:x=⟨#[]⟩:=by
   obtain⟨c⟩:=x;simp at h;subst h;rfl
  subst this;exact bh hq (by decide+kernel)
 refine dl (v:=vS w [mZ x iw true]) (bE λf hf=>by rw[cD] at hf;subst hf;exact uJ hq) (hA.mono (d':=800)) S (bJ _ _) 0 100 zq [0,1,2,3]
  (λU=>.call true (.func (bU w 45) (ej w 45 (n+158))) (ct w n (n+3)) false)
  (λU=>[some ⟨n+158,vO 4 (kS w t) x tx 0 (t+3) .none (n+159)⟩,some ⟨n+159,aa [] 0⟩,some ⟨n+160,oS 1 (kG w t) x tx⟩,some ⟨n+161,bk g (uK w (t+8)) (uK w (t+9))⟩]) (λU=>[(g,cC w (n+2))])
  (λU=>MT x tx n t g w) λr s1 D U=>?_
 ext r s1 ⟨D⟩;have T1:=D.topS T;have k1:cU (n+158) g s s1:=D.keepX λU h=>(nomatch h);have OK:bq (.func (bU w 45) (ej w 45 (n+158))):=ba rfl;have OI:aL 700 (A.under (.func (bU w 45) (ej w 45 (n+158)))):=(hA.under OK).mono (by decide);have OQ:s1.gens[g]? =some (.fresh (cC w (n+2))):=D.gnew _ aJ;have e3:s1.heap.get? (n+3+158)=some (bk g (uK w (t+8)) (uK w (t+9))):=D.sel _ vA;have e2:s1.heap.get? (n+2+158)=some (oS 1 (kG w t) x tx):=D.sel _ gr;have e1:s1.heap.get? (n+1+158)=some (aa (bp []) 0):=D.sel _ cy;have z3:n+3+158<s1.heap.objs.size:=fv e3;have G:SA (n+158) (n+160) n (n+1) (n+3):=⟨by exact bg _,by simp,by exact ld (bg (Nat.succ n)),by simp,by exact bg _,by rfl,by simp,by exact bN _ _⟩;have OV:(eH x).length<=1001:=by
  have h:=rl x.cps.toList 0 false;have h':x.cps.toList.length<=1000:=by simpa[Str.length] using hx
  unfold eH;lia
 have OS:(eH x).isEmpty=false:=by
  cases he:eH x with
  |cons _ _=>rfl
  |nil=>
   exfalso;revert he;unfold eH;cases hl:x.cps.toList with
   |nil=>exact bh hl hne
   |cons c r=>
    have OO:∀(r:List Nat) (i:Nat),bX r i true≠[]:=by
     intro r;cases r with
     |nil=>intro i;simp[bX]
     |cons _ _=>intro i;simp[bX]
    by_cases hc:c=92<;>simp[bX,hc,OO]
 have L:=zt (w:=w) (tx:=tx) OI G (items:=eH x) (g:=g) (nm:=uK w (t+8)) (qn:=uK w (t+9)) hx (eH x) false (0,none,[]) _ [] 0 _ [⟨n+2+158,oS 1 (kG w t) x tx⟩] s1 [] rfl
  (.first 4 (kS w t) (t+3)) rfl (by simp;lia) T1 (jB (D.sel _ aJ) e1 e3) OQ rfl (λe he=>by
   rw[cD] at he;subst he;exact⟨bg _,by show n+2+158≠n+160+1;simp⟩) (dJ e2)
  (λs' T' H' OX=>⟨rfl,Bq ((uL (OI.under (mD _ _ _))).mono (by decide)) (bN _ _) ⟨by exact bg _,by lia⟩ ha hne (by lia) T' (H' _ aJ)⟩)
 refine eG L λr s2 h=>?_;ext r s2 ⟨h⟩;obtain⟨rfl,k2,T2,F,l,el,hF,hl,hh⟩:=h;ext F l el ⟨hF,hl,hh⟩;rw[OS] at hF;have OJ:=ym x (eH x) (0,none,[]) (λU h=>nomatch h);change qh x tx (n+1) true (gC x).1 (gC x).2.1 F at hF;change l.map (·.1)=(gC x).2.2 at hl;have hz:∀z∈(gC x).2.2,z.length<=x.length:=OJ.1;have OW:l.length<=1001:=by
  have h1:l.length=(gC x).2.2.length:=by rw[<-hl];simp
  have h2:(gC x).2.2.length<=(eH x).length+0:=OJ.2;lia
 have hc:bq (.func (bU w 45) (ej w 45 (n+158))):=OK;have f2:aj [⟨n+158,F⟩,⟨n+1+158,aa (bp l) el⟩]:=rj (by lia) (bN _ _) (by simp);obtain⟨n4,t4,g4,S4⟩:=T2.st hh f2;ext n4 t4 g4 ⟨S4⟩;have OF:∀(J:Shared) {sel ng},bu (kt w) s2 J [n+158,n+1+158] sel ng->cU s.heap.objs.size s.gens.size s J/\aK w J:=λJ {_ _} D3=>by
  have hn:s.heap.objs.size=n+158:=S.size;have OR:s.gens.size=g:=S.gens;rw[hn,OR];refine⟨k1.trans (k2.trans (D3.keepX λa OP=>?_)),D3.topS T2⟩;simp only[aY,bS,bT] at OP;lia
 generalize OM:gC x=st at hF hl hz;cases hF with
 |next a o ep K ta OG p tp y ty=>
  ext ep K ta OG p tp y ty ⟨hh,f2,S4⟩;have hd:decide (st.1<(x.cps.size:Int))=true\/decide (st.1<(x.cps.size:Int))=false:=by cases decide (st.1<(x.cps.size:Int))<;>trivial
  rcases hd with hd|hd
  .have hp:ey x=st.2.2++[cut x (some st.1) none]:=by unfold ey;rw[OM,hd]
   have hm:∀t':Nat,(l++[(cut x (some st.1) none,t')]).map (·.1)=ey x:=λt'=>by rw[hp,k6,hl];rfl
   have OU:∀z∈ey x,z.length<=x.length:=λz ON=>by
    rw[hp] at ON;rcases dk.mp ON with h|h
    .exact hz z h
    .rw[cD] at h;subst h;exact iX _ _ _
   have zl:(cut x (some st.1) none).length<=sizeLine:=bC (iX _ _ _) (bC hx (by decide));have ll:(bp l).length<=sizeLine:=by
    have:(bp l).length=l.length:=by simp[bp]
    have h':10000<=sizeLine:=by decide
    lia
   refine eB (v:=vS w [iv st.1 (x.cps.size:Int) true,bZ 2 (n4+158) x tx (some (st.1,ta)) none (cut x (some st.1) none),bn x tx,c8 1 (n+1+158) (bp l) el (.str (cut x (some st.1) none)),bn x tx]) (bE λf hf=>by
     simp only[aY,bS,bT] at hf;have h5:(x.length:Int)<2^63:=by lia
     rcases hf with rfl|rfl|rfl|rfl|rfl
     .exact ma hd
     .exact jd (nA x (tx+1) (some (st.1,ta)) none) zl
     .exact hJ h5
     .exact eK ll
     .exact hJ h5) (hA.mono (d':=800)) S4 hc 2 100 tQ [1] (λrs=>.call true (.func (bU w 45) (ej w 45 (n+158))) (zr ((rs.getD 1 ⟨0,0,0,0,0,0⟩).t+1) (n+1+158)) false)
     (λrs=>[some ⟨n+1+158,aa ((bp l).concat (.str (cut x (some st.1) none) ((rs.getD 0 ⟨0,0,0,0,0,0⟩).x+1))) (el+1)⟩]) (λU=>[])
    (λrs OE=>by obtain⟨ρ,OH,rfl⟩:=iJ OE;exact KH x tx n t g ep K st.1 ta (yk st.2.1 OG) (n+1) p tp y ty _ _ el n4 t4 g4 ρ OH w) λrs J OE D3=>?_
   obtain⟨ρ,OH,rfl⟩:=iJ OE;have T3:=(OF J D3).2;have OL:J.heap.get? (n+1+158)=some (aa ((bp l).concat (.str (cut x (some st.1) none) (ρ.x+1))) (el+1)):=D3.sel _ aJ;rw[m3] at OL;refine Bs T3 (x:=x) hx (by simp;lia) (by rw[hm];exact OU) OL λtu tk OT=>?_;rw[hm];have T4:aK w {J with toks:=tk+1}:=⟨T3.top,T3.size,by show 1<=tk+1;exact iT _⟩;obtain⟨n6,t6,g6,S6⟩:=T4.st (l:=[]) (λU h=>nomatch h) cj;refine vF (v:=aG w 800) (bx _) (hA.mono (d':=800)) S6 hc 0 100 0 [] (λU=>.ret (.ok (.ret (.str (hO (ey x)) (tu+1))))) (λU=>[]) (λU=>[])
    (λU=>IK x tx n t g ep K st.1 ta (yk st.2.1 OG) (n+1) p tp y ty _ _ el n4 t4 g4 ρ OH (hO (ey x)) (tu+1) n6 t6 g6 w) λr s5 D5 U=>?_
   have kk:cU s.heap.objs.size s.gens.size J {J with toks:=tk+1}:=⟨bg _,OT,rfl,rfl,λU U U h=>h,λU U U h=>h⟩;exact⟨⟨_,_,_,tu,0,0⟩,rfl,cU.hstep ((OF J D3).1.trans (kk.trans (D5.keepX λU h=>(nomatch h)))) (D5.topS T4)⟩
  .have hp:ey x=st.2.2:=by unfold ey;rw[OM,hd]
   refine eB (v:=vS w [iv st.1 (x.cps.size:Int) false,bn x tx,nz 1 (n+1+158) ⟨#[]⟩ (bp l) el (hO (ey x)),bn x tx,bn x tx]) (bE λf hf=>by
     simp only[aY,bS,bT] at hf;have h5:(x.length:Int)<2^63:=by lia
     rcases hf with rfl|rfl|rfl|rfl|rfl
     .exact ma hd
     .exact hJ h5
     .rw[hp,<-hl];exact Br hx (by lia) (by rw[hl];exact hz) rfl
     .exact hJ h5
     .exact hJ h5) (hA.mono (d':=800)) S4 hc 1 100 0xca0004052800000ca0 [] (λrs=>.ret (.ok (.ret (.str (hO (ey x)) ((rs.getD 0 ⟨0,0,0,0,0,0⟩).x+1))))) (λU=>[]) (λU=>[])
    (λrs OE=>by obtain⟨ρ,rfl⟩:=gR OE;exact GH x tx n t g ep K st.1 ta (yk st.2.1 OG) (n+1) p tp y ty _ _ el n4 t4 g4 ρ w) λrs J OE D3=>?_
   exact⟨⟨_,_,_,(rs.getD 0 ⟨0,0,0,0,0,0⟩).x,0,0⟩,rfl,cU.hstep (OF J D3).1 (OF J D3).2⟩
end
set_option backward.match.sparseCases true
theorem mc (J:Env) (rest:List Stmt):∀OE:List Stmt,execs (OE++rest) J=(execs OE J).bind λf=>match f with|.next=>execs rest J|f=>Sem.pure f
 |[]=>rfl
 |st::OE=>by
  show(exec st J>>=λf=>match f with|.next=>execs (OE++rest) J|f=>pure f)=((exec st J>>=λf=>match f with|.next=>execs OE J|f=>pure f):Sem Flow).bind _;show(exec st J).bind _=((exec st J).bind _).bind _;rw[Sem.bind_assoc];congr 1;funext f;cases f<;>first|exact mc J rest OE|rfl
theorem lm {M:Model} {A:Around} {J:Env} {E:Value->Shared->Prop} {rest:List Stmt} {Q:Flow->Shared->Prop} {OE:List Stmt} {s:Shared}
  (h:wpAny M A (execs OE J) (λf s'=>match f with|.next=>wpAny M A (execs rest J) Q E s'|f=>Q f s') E s):wpAny M A (execs (OE++rest) J) Q E s:=by
 rw[mc];refine ao (dR h (λf s' x=>?_) λU U x=>x);cases f<;>first|exact x|exact aH x
def MU (f:Flow):Sem Fin:=.pure (.done f)
def a9 (b:List Stmt) (J:Env):Sem Fin:=R.bindR (Fast.tw12563942051412417395 b J) MU
theorem oW {v:V} {w:World} (K:lZ v w) {A:Around} (hA:aL v.d₀ A) {l:List ad} {n t g:Nat} {s:Shared} (S:St v.kt l n t g s) {b:List Stmt} {J:Env} {Q:Flow->Shared->Prop} {E:Value->Shared->Prop}
  (nh OE orc:Nat) (ix:List Nat) (sh:List HR->Sh) (OF:List HR->List (Option ad)) (ng:List HR->List (Nat×Code))
  (OH:∀rs,rs.length=nh->ay v OE default .base (a9 b J) orc l n t g rs ix (sh rs) (OF rs) (ng rs))
  (OG:∀rs s',rs.length=nh->bu v.kt s s' (l.map (·.a)) (OF rs) (ng rs)->match sh rs with
   |.fin (.done f)=>Q f s'
   |_=>False):wpAny (model v.prog w) A (execs b J) Q E s:=by
 have h:wpAny (model v.prog w) A (a9 b J) (λf s'=>match f with|.done f=>Q f s'|_=>False) (λU U=>False) s:=by
  refine di (B:=λt s=>wpAny (model v.prog w) A t (λf s'=>match f with|.done f=>Q f s'|_=>False) (λU U=>False) s) K hA S (c:=default) (tr:=a9 b J)
   (λm k s h=>ao h) nh OE orc ix sh OF ng OH λrs s' h D=>?_
  have z:=OG rs s' h D;cases hs:sh rs with
  |fin f=>
   rw[hs] at z;cases f with
   |done fl=>exact aH z
   |again c=>exact z.elim
  |_=>rw[hs] at z;exact z.elim
 unfold a9 at h;rw[<-R.bindR_eq,<-Fast.te12563942051412417395] at h;intro Γ p OI;have h1:=h Γ p OI;rw[Sem.wp_bind] at h1;exact Sem.wp_mono _ Γ _ (λr p' s' q=>q) (λU U U x=>x.elim) p s h1
def MV (v:Value):Sem Fin:=.pure (.done (.ret v))
def fM (e:Expr) (J:Env):Sem Fin:=R.bindR (Fast.tw14044960220447912780 e J) MV
theorem rn {v:V} {w:World} (K:lZ v w) {A:Around} (hA:aL v.d₀ A) {l:List ad} {n t g:Nat} {s:Shared} (S:St v.kt l n t g s) {e:Expr} {OE:Env} {Q:Value->Shared->Prop} {E:Value->Shared->Prop}
  (nh J orc:Nat) (ix:List Nat) (sh:List HR->Sh) (OH:List HR->List (Option ad)) (ng:List HR->List (Nat×Code))
  (OG:∀rs,rs.length=nh->ay v J default .base (fM e OE) orc l n t g rs ix (sh rs) (OH rs) (ng rs))
  (OF:∀rs s',rs.length=nh->bu v.kt s s' (l.map (·.a)) (OH rs) (ng rs)->match sh rs with
   |.fin (.done (.ret x))=>Q x s'
   |_=>False):wpAny (model v.prog w) A (eval e OE) Q E s:=by
 revert K hA S OG OF;ext v w A l n t g s e OE Q E ⟨nh,J,orc,ix,sh,OH,ng⟩;ext nh J orc ix sh OH ng;intro K hA S OG OF;have h:wpAny (model v.prog w) A (fM e OE) (λf s'=>match f with|.done (.ret x)=>Q x s'|_=>False) (λU U=>False) s:=by
  refine di (B:=λt s=>wpAny (model v.prog w) A t (λf s'=>match f with|.done (.ret x)=>Q x s'|_=>False) (λU U=>False) s) K hA S (c:=default) (tr:=fM e OE)
   (λm k s h=>ao h) nh J orc ix sh OH ng OG λrs s' h D=>?_
  ext rs s' ⟨h,D⟩;have z:=OF rs s' h D;cases hs:sh rs with
  |fin f=>
   rw[hs] at z;cases f with
   |done fl=>cases fl with
    |ret x=>exact aH z
    |_=>exact z.elim
   |again c=>exact z.elim
  |_=>rw[hs] at z;exact z.elim
 unfold fM at h;rw[<-R.bindR_eq,<-Fast.te14044960220447912780] at h;intro Γ p OI;have h1:=h Γ p OI;rw[Sem.wp_bind] at h1;exact Sem.wp_mono _ Γ _ (λr p' s' q=>q) (λU U U x=>x.elim) p s h1
set_option backward.match.sparseCases false
def gt.code:gt->Code
 |.done _ (.again c) _ _ _ _ _=>c
 |_=>default
def yn:Code->Env
 |.func _ e=>e
 |_=>default
def kK (x h l hv tx J tl tv:Nat):Code:=.call (.ref 135) ⟨[.int x (tx+1),.int h (J+1),.int l (tl+1),.int hv (tv+1)],[]⟩
def zv:Nat:=0x402280a028ca3288a2284a121887
def Fz (w:World) (x h l hv tx J tl tv n t g:Nat):gt:=fw (aG w 800) 100 (kK x h l hv tx J tl tv) .top (aM (kK x h l hv tx J tl tv)) zv (E0 []) (M0 []) (n+158) 0 (t+1) 0 g 0 (L0 [])
def Bt (w:World) (x h l hv tx J tl tv n t g:Nat):Code:=.func (bU w 135) (yn (Fz w x h l hv tx J tl tv n t g).code)
def cY (v:Value):Obj:=⟨.type "cell",none,.cell (some v),#[]⟩
def rZ:List Nat:=[105,100,101,110,116,105,116,121,46,116,111,107,101,110,115,45,119,104,111,115,101,45,115,104,97,114,105,110,103,45,105,115,45,110,111,116,45,116,111,108,100]
def Bu (o:Option Obj):Bool:=match o with
 |some o=>match o.data with
  |.dict es _=>vI (λ(e:DictEntry)=>mX rZ e.key) es.toList
  |_=>false
 |none=>false
theorem DB (w):Bu ((kt w).get 2)=true:=by kernel_rfl
set_option tactic.hygienic true in
theorem aK.noneBooked:∀{w s} (T:aK w s),NoneBooked s.heap:=by
 ext w s:0;intro T;have h:=DB w;unfold Bu at h;split at h
 .rename_i o ho;split at h
  .rename_i es ep hd;have hk:=rf h;refine⟨nsFind es,⟨o,es,ep,T.top 2 o ho,hd,λe J=>?_,λU=>rfl⟩,?_⟩
   .have z:=hk e (by simpa using J);unfold mX at z;split at z
    .exact⟨_,_,by assumption⟩
    .cases z
   .show(es.find? _).map _=none;rw[Option.map_eq_none_iff,Array.find?_eq_none];intro e J hq;have z:=hk e (by simpa using J);unfold mX at z;split at z
    .rename_i s' t' hs;rw[hs] at hq;have e1:s'=⟨rZ.toArray⟩:=by
      have:s'=sharingNotToldKey:=by simpa[Value.isStr] using hq
      assumption
     subst e1;rw[show(⟨rZ.toArray⟩:Str).cps.toList=rZ from rfl,mB] at z;cases z
    .cases z
  .cases h
 .cases h
theorem N8 (a t b u) {E:Value->Shared->Prop} {Q:Value->Shared->Prop}
  (hv:(Float64.cmp a b==some Ordering.eq)=v) (h:Q (.bool v) s):wpAny (model prog w) A (richCompare .Eq (.float a t) (.float b u)) Q E s:=by
 subst hv;exact richCompare_gives (typeIs_float s a t) (typeIs_float s b u) F.slot_float_eq F.entry_float_eq (F.args_float_eq_2 _ _) (AutoFloatG5.float___eq___float_float_0 a t b u) (λx=>nomatch x) h
theorem KI:∀{A s} (hb:NoneBooked s.heap) a t b u {M} {E:Value->Shared->Prop} {Q:Bool->Shared->Prop}
  (h1:t+1=u+1->Q true s) (J:∀c,(c=true->a=b)->Q c s),wpAny M A (isSame (.float a (t+1)) (.float b (u+1))) Q E s:=by
 ext A s:0;intro hb;ext a t b u M E Q:0;intro h1 J;show wpAny M A (isSame.created (a==b&& !Float64.isNaN a) (t+1) (u+1)) Q E s;dsimp only[isSame.created];simp only[Nat.add_eq_zero_iff,Nat.one_ne_zero,and_false,beq_iff_eq,Bool.or_eq_true,decide_false,or_self,if_false];refine wpAny_ite_split (λe=>aH (h1 e)) λU=>wpAny_ite_split (λU=>aH (J false (λh=>by cases h))) λhc=>?_;have OE:a=b:=by
  simp only[Bool.not_eq_true',Bool.not_eq_false,mU,beq_iff_eq] at hc;exact hc.1
 refine ao (wpAny_sharingNotTold_none hb ?_);simp only[Bool.false_eq_true,if_false];refine ao (wpAny_sharingNotTold_none hb ?_);simp only[Bool.false_eq_true,if_false];exact ao (wpAny_rule (ao (wpAny_askSetting (aH (J _ λU=>OE)))))
theorem N9 (hb:NoneBooked s.heap) (a t b u) (hv:(Float64.cmp a b==some Ordering.eq)=v) (hs:a=b->v=true) (ht:t=u->v=true):
  EqAt A s (.float a (t+1)) (.float b (u+1)) v:=λprog w E Q h=>by
 dsimp only[eqBool];refine wpAny_holding ?_;refine wpAny_ite_split (λJ=>?_) (λU=>?_)
 .have e:a=b:=by have:=eq_of_beq J;injection this
  rw[hs e] at h;exact ao (wpAny_rule (aH h))
 .refine ao (KI hb a t b u (λe=>?_) λc hc=>?_)
  .rw[ht (by lia)] at h;exact aH h
  .cases c with
   |true=>
    rw[hs (hc rfl)] at h;exact aH h
   |false=>exact ao (N8 a _ b _ hv (wpAny_truthy_bool h))
theorem MW (a t b u) (g:Gives (Builtin.«float.__eq__» ⟨[.float a t,.int b u],[]⟩) (.val (.bool v))):
  EqAt A s (.float a t) (.int b u) v:=λprog w E Q h=>by
 dsimp only[eqBool];refine wpAny_holding ?_;refine wpAny_ite_split (λJ=>bh (eq_of_beq J) nofun) (λU=>?_);exact ao (rc_left_or (typeIs_float s a t) (typeIs_int s b u) (by decide) F.sub_int_float F.slot_float_eq
  (call_gives F.slot_float_eq (typeIs_float s a t) F.entry_float_eq (F.args_float_eq_2 _ _) g ⟨nofun,wpAny_truthy_bool h⟩) (.inl rfl))
def bl (v:V) (J:Nat) (c:Code) (κ:Kt) (tr:Sem Fin) (orc:Nat) (l:List ad) (n t g:Nat) (rs:List HR):gt:=fw v J c κ tr orc (E0 l) (M0 l) (n+158) 0 (t+1) 0 g 0 (L0 rs)
def gt.obj (o:gt) (i:Nat):Obj:=match o with
 |.done _ _ E _ _ _ _=>match E.get i with
  |some e=>e.o
  |none=>default
 |_=>default
def dF:Value->Nat
 |.str _ t=>t - 1
 |.int _ t=>t - 1
 |.bytes _ t=>t - 1
 |.float _ t=>t - 1
 |_=>0
def oX:List Value->Nat->Value
 |[],_=>.none
 |v::_,0=>v
 |_::r,i+1=>oX r i
def zw:List DictEntry->Nat->DictEntry
 |[],_=>⟨0,.none,.none⟩
 |v::_,0=>v
 |_::r,i+1=>zw r i
def gy (o:Obj) (i:Nat):Value:=match o.data with
 |.dict es _=>(zw es.toList i).val
 |.seq xs _=>oX xs.toList i
 |.fields xs=>oX xs.toList i
 |.cell (some v)=>v
 |_=>.none
def bQ (o:Obj) (i:Nat):Nat:=dF (gy o i)
def bD (o:Obj):Nat:=match o.data with
 |.dict _ e=>e
 |.seq _ e=>e
 |_=>0
def KO (o:Obj) (i:Nat):Int×Nat:=match o.data with
 |.dict es _=>((zw es.toList i).hash,dF (zw es.toList i).key)
 |_=>(0,0)
noncomputable abbrev bP (v:V) (J:Nat) (c:Code) (κ:Kt) (tr:Sem Fin) (orc:Nat) (l:List ad) (n t g:Nat) (rs:List HR) (ix:List Nat) (kd:Sh) (OE:(Nat->Obj)->List (Option ad)) (ng:List (Nat×Code)):Prop:=
 ay v J c κ tr orc l n t g rs ix kd (OE (bl v J c κ tr orc l n t g rs).obj) ng
def c9:Str:=⟨#[104,97,108,118,101,115]⟩
def DC:Str:=⟨#[114,101,100]⟩
def vW:Str:=⟨#[103,114,101,101,110]⟩
def zx:Str:=⟨#[98,108,117,101]⟩
def ku:Str:=⟨#[116,111,108,100]⟩
def nB:Str:=⟨#[100,117,101]⟩
theorem GI (w x h l hv tx th tl tv n t g):
  ay (aG w 800) 100 (kK x h l hv tx th tl tv) .top (aM (kK x h l hv tx th tl tv)) zv [] n t g [] [0,1,2,3]
   (.again (Bt w x h l hv tx th tl tv n t g)) [some ⟨n+158,bW 1 (λU=>(aB w c9,t)) [(c9,.int hv (tv+1))]⟩,some ⟨n+159,cY (.int x (tx+1))⟩,some ⟨n+160,cY (.int h (th+1))⟩,some ⟨n+161,cY (.int l (tl+1))⟩] []:=by kernel_rfl
def nC (w:World) (x h l hv tx J tl tv n t g:Nat):Env:=yn (Fz w x h l hv tx J tl tv n t g).code
theorem fE {T id:String} {OG:Str} {B:Builtin} {J:Value} {rest:List Value} {A:Around} {R:Result->Shared->Prop} {s:Shared} {w:World} {S:Around->(Result->Shared->Prop)->Shared->Prop} (OH:Slot T OG id) (hT:s.TypeIs J T)
  (OE:entryFor table id=some B) (OF:argsOk id ⟨J::rest,[]⟩) (m:Meets (B ⟨J::rest,[]⟩) S) (h:S A R s):bf (model pw w) A (.call (.builtin id) ⟨J::rest,[]⟩) R s:=cz OH hT OE OF (m pw w A R s h)
def tU:Int->Int->Bool
 |.ofNat a,.ofNat b=>Nat.beq a b
 |.negSucc a,.negSucc b=>Nat.beq a b
 |_,_=>false
theorem qi (a b):tU a b=(a==b):=by
 cases a with
 |ofNat a=>cases b with
  |ofNat b=>
   show Nat.beq a b=_;rw[BT.beq_eq];by_cases h:a=b
   .simp[h]
   .have:¬(Int.ofNat a=Int.ofNat b):=λe=>h (Int.ofNat.inj e);rw[iS h,eY.mpr this]
  |negSucc b=>rfl
 |negSucc a=>cases b with
  |ofNat b=>rfl
  |negSucc b=>
   show Nat.beq a b=_;rw[BT.beq_eq];by_cases h:a=b
   .simp[h]
   .have:¬(Int.negSucc a=Int.negSucc b):=λe=>h (Int.negSucc.inj e);rw[iS h,eY.mpr this]
def DD (o:Obj):List Value:=match o.data with
 |.seq xs _=>xs.toList
 |_=>[]
def am (l:List (Int×Nat)):List Value:=l.map λp=>.int p.1 p.2
def eg:List (Int×Nat)->Int->Bool
 |[],_=>false
 |p::r,x=>match tU p.1 x with
  |true=>true
  |false=>eg r x
def lo:Value->Int
 |.int n _=>n
 |_=>0
theorem qj (x):∀l,eg l x=(am l).any (λv=>lo v==x)
 |[]=>rfl
 |p::r=>by
  dsimp only[eg];rw[qi];show _=((p.1==x)||(am r).any _);cases p.1==x
  .exact qj x r
  .rfl
def FC (o:Obj):List (Int×Nat):=(DD o).map λv=>(lo v,cq v)
def uN (T id:String) (k:Nat):aq:=λc J=>some ⟨[(k,dP J k,⟨.type T,none,.seq (am (FC (dQ J k))).toArray (bD (dQ J k)),#[]⟩)],[(c,.call (.builtin id) ⟨[.ref (dP J k),.int (lo (bI c 1)) (cq (bI c 1))],[]⟩)],iD (eg (FC (dQ J k)) (lo (bI c 1)))⟩
theorem vX {w:World} {dh k:Nat} {T id:String}
  (h:∀a ps ep x t A s,aL dh A->aK w s->s.heap.get? a=some ⟨.type T,none,.seq (am ps).toArray ep,#[]⟩->(iD (eg ps x)).ok (model pw w) A (.call (.builtin id) ⟨[.ref a,.int x t],[]⟩) s):ai w dh (uN T id k):=bj λc lk A s hA hT J=>h _ _ _ _ _ A s hA hT (J _ aJ)
theorem tV:∀y,y∈(am ps).toArray->EqAt A s y (.int x t) (lo y==x):=by
 intro y J;have:y∈am ps:=by simpa using J
 obtain⟨p,_,rfl⟩:=cT.mp this;exact EqAt.int_int p.1 p.2 x t
def oY (k:Nat):aq:=uN "tuple" "tuple.__contains__" k
theorem vY {w:World} {dh k:Nat}:ai w dh (oY k):=vX λa ps ep x t A s hA hT ho=>by
 refine fE F.slot_tuple_contains (⟨_,ho,rfl⟩:Shared.TypeIs _ (.ref a) "tuple") F.entry_tuple_contains (F.args_tuple_contains_2 _ _) (tuple_containsAt a (am ps).toArray ep none #[] (.int x t) (λv=>lo v==x)) ⟨ho,tV,?_⟩;rw[List.any_toArray,<-qj];exact⟨rfl,rfl⟩
structure CQ where
 x:Nat
 h:Nat
 l:Nat
 hv:Nat
 orc:Nat
 r:Nat
 g:Nat
 b:Nat
def ql:Nat:=0xa5000a5290a4290a4000a4290a429000290a40000000003+((rp 0x298a6298a60000028c000000029ca129ca7294a5294a5294a5294a5000a5 0 240 3)+(0xa6000a6298a629ca729ca9294a5294a5000a5+((rp 0x2a8a62a8aa2a8002a8aa 0 80 4)+0x280a0280a0280a02b0aa<<<320)<<<150)<<<720)<<<190
def tW:Nat:=ql - (1<<<360)
def yo:Nat:=ql - (1<<<600)
def yp:Nat:=tW - (1<<<600)
def GJ:Nat:=ql - (1<<<840)
def GK:Nat:=tW - (1<<<840)
def GL:Nat:=yo - (1<<<840)
def GM:Nat:=yp - (1<<<840)
def KJ:List Nat:=[ql,tW,yo,yp,GJ,GK,GL,GM]
def Ml:List (Nat×Nat×Nat×Nat×Nat×Nat×Nat×Nat):=[
 (4,0,2,4607182418800017408,0,4602678819172646912,4607182418800017408,0),
 (3,1,1,4604930618986332160,4598175219545276416,4602678819172646912,4602678819172646912,0),
 (4,2,2,4607182418800017408,4602678819172646912,4604930618986332160,4607182418800017408,4),
 (2,0,2,4602678819172646912,0,4598175219545276416,4607182418800017408,0)]
def IL (x h l v f g:Nat):CQ:=⟨x,h,l,v,KJ.getD x 0,bif x.testBit 0 then f else g,bif x.testBit 1 then f else g,bif x.testBit 2 then f else g⟩
def FD:List CQ:=Ml.flatMap λ(h,l,v,f,g,_)=>(List.range 8).map λx=>IL x h l v f g
def fl (b t:Nat):Value:=.float (UInt64.ofNat b) (t+1)
def uO (q:CQ) (K:Nat->Int×Nat) (tx J tl tv n:Nat):List ad:=[⟨n+158,bW 1 K [(c9,.int q.hv (tv+1))]⟩,⟨n+159,cY (.int q.x (tx+1))⟩,⟨n+160,cY (.int q.h (J+1))⟩,⟨n+161,cY (.int q.l (tl+1))⟩]
def oZ (q:CQ) (ep:Nat) (K:Nat->Int×Nat) (tx th tl tv J t2 t3 n:Nat):List ad:=[⟨n+158,bW ep K [(c9,.int q.hv (tv+1)),(DC,fl q.r J),(vW,fl q.g t2),(zx,fl q.b t3)]⟩,⟨n+159,cY (.int q.x (tx+1))⟩,⟨n+160,cY (.int q.h (th+1))⟩,⟨n+161,cY (.int q.l (tl+1))⟩]
def MX (w:World) (q:CQ) (tx J tl tv n t g:Nat):Sem Fin:=a9 ((bU w 135).take 1) (nC w q.x q.h q.l q.hv tx J tl tv n t g)
def rr (w:World) (q:CQ) (K:Nat->Int×Nat) (tx J tl tv n t g n' t' g':Nat):gt:=bl (aG w 800) 500 default .base (MX w q tx J tl tv n t g) q.orc (uO q K tx J tl tv n) n' t' g' []
theorem GN (tx th tl tv n t g n' t' g' K):∀w,FD.map (λq=>oL [0,1,2,3] (rr w q K tx th tl tv n t g n' t' g'))=
  FD.map (λq=>(λ(M:gt)=>oM (.fin (.done .next)) ((oZ q (bD (M.obj 0)) (KO (M.obj 0)) tx th tl tv
    (bQ (M.obj 0) 1) (bQ (M.obj 0) 2) (bQ (M.obj 0) 3) n).map some) [] M) (rr w q K tx th tl tv n t g n' t' g')):=aT
structure o3 where
 q:CQ
 orc:Nat
 da:Nat
 f:Nat×Nat×Nat
 flat:Bool
 orc2:Nat
 r:Nat
 dt:Nat
def yq:Nat:=0x4b12c4a1280a0280a0280a4000a4290a429000290a429000290a4290a4000a4290a4290ac2b0ac2b8ab2acaa2acab2ac002acac000ab2acaa2acab2ac002acac000ab2acaa2acab2ac002acac2b0ac2b0ab2acaa2acab2ac002acac2acaa000aa2a800290a42900000ca4290a729ca72a4a6298a5298a629800298a7000a6298a5298a629800298a7000a6298a5298a629800298a729ca729ca6298a5298a629800298a7298a5000a529400290a42900000c02290a4290a4290a40cc3400034280a028003
def qm:Nat:=yq+(0xa02800028000000a328800000b22c8002c8b22c800284012c4b1284a0280a0280a0290a4290a429000000a4290a4000a429000290a4290a4000a4000a4290a42900029000290a4290a4000a4000a4290a2fcb4f00c03d8003d8004000a3fff5c0000028f5c0000028fffd7000000a40000802008007feffbfc000000035500000fffffffcaa0000000355000012b001<<<1070)
def tY:Nat:=qm+((rp 0 0 10 49)+0xd4ffeffcaa0000000355000012b000ffffeffbfe0000000355000012abfed4ffeffffffe7fa28f5bd7c00290a400c03007feffbfc000000035a00000fffffffca5000000035a0000129c01<<<490+((rp 1023 0 10 77)+0x280a00009fd7f6028c020000003c10000b1ffffffffeed3bff2c40027beefbbff000040100400fffd6f5c0000028ffffff5b<<<770)<<<1090)
def GO:Nat:=qm+(0x2b00100355fffffffcaaffffed4fff<<<1070)
def GP:Nat:=tY+(0x29c010035afffffffca5ffffed63ff<<<490)
def yr:Nat:=qm+(0xa027ffffff6000003287ffd74102c800000002c74dfbb4f2c41027feefbbff000000100400ffffff5bd7000290a3d7000000000000028fffd6fffd70a4000a3fff5bfff5c2900028fffd6fffd70a4000a3fff5bd7<<<1572)
def yt:Nat:=tY+(0xa027ffffff6000003287ffd74102c800000002c74dfbb4f2c41027feefbbff000000100400ffffff5bd7000290a3d6fffd70a3d70a4000000000028fffd6fffd70a4000a3fff5bfff5c2900028fffd6fffd70a4000a3fff5bd7<<<1572)
def GQ:Nat:=yr+(0x2b00100355fffffffcaaffffed4fff<<<1070)
def GR:Nat:=yt+(0x29c010035afffffffca5ffffed63ff<<<490)
def GS:Nat:=0xa3288a429000290a4290a0000a429000290a4290a0
def GT:Nat:=0xa429000290a4290a000003000a429000290a4290a0
def KK:List Nat:=[qm,tY,GO,GP,yr,yt,GQ,GR]
def m4:List o3:=Ml.flatMap λ(h,l,v,f,g,m,s,o)=>[(0,0,6),(1,0,0),(2,4599676419421066581,2),(3,4595172819793696085,1),(4,4604180019048437077,4),(1,4605681218924227243,5),(2,4602678819172646912,3),(0,0,7)].zipIdx.map λ((k,u,r),x)=>match k with
 |0=>⟨IL x h l v f g,yq,12,(0,bif x.testBit 0 then f else g,0),true,GS,r,7⟩
 |k+1=>⟨IL x h l v f g,KK.getD (k+o) 0,15,(u,m,s),false,GT,r,6⟩
def r1 (p:o3) (o:Nat->Nat):Obj:=bt [fl p.f.1 (o 0),fl p.f.2.1 (o 1),fl p.f.2.2 (o 2)]
def md (p:o3) (o:Nat->Nat):Obj:=match p.flat with
 |true=>bt [.int 0 (o 0+1),fl p.f.2.1 (o 1),.int 0 (o 2+1)]
 |false=>bt [fl p.f.1 (o 0),fl p.f.2.1 (o 1),fl p.f.2.2 (o 2)]
def gH (p:o3) (ep:Nat) (K:Nat->Int×Nat) (tx th tl tv t1 t2 t3 n ta J:Nat) (ot od:Nat->Nat):List ad:=
 [⟨n+158,bW ep K [(c9,.int p.q.hv (tv+1)),(DC,fl p.q.r t1),(vW,fl p.q.g t2),(zx,fl p.q.b t3),(ku,.ref (ta+158)),(nB,.ref (J+158))]⟩,⟨n+159,cY (.int p.q.x (tx+1))⟩,⟨n+160,cY (.int p.q.h (th+1))⟩,⟨n+161,cY (.int p.q.l (tl+1))⟩,
  ⟨ta+158,r1 p ot⟩,⟨J+158,md p od⟩]
def MY (w:World) (q:CQ) (tx J tl tv n t g:Nat):Sem Fin:=a9 (((bU w 135).drop 1).take 3) (nC w q.x q.h q.l q.hv tx J tl tv n t g)
def tZ (w:World) (p:o3) (ep:Nat) (K:Nat->Int×Nat) (tx J tl tv t1 t2 t3 n t g n' t' g':Nat):gt:=bl (vL w 800 900 [oY 17]) 800 default .base (MY w p.q tx J tl tv n t g) p.orc (oZ p.q ep K tx J tl tv t1 t2 t3 n) n' t' g' []
def IM (p:o3):List Nat:=[0,1,2,3,15,p.da+4]
def IN (tx th tl tv J t2 t3 n t g n' t' g':Nat) (ep:Nat) (K:Nat->Int×Nat) (l:List o3):Prop:=∀w,l.map (λp=>oL (IM p) (tZ w p ep K tx th tl tv J t2 t3 n t g n' t' g'))=
  l.map (λp=>(λ(M:gt)=>oM (.fin (.done .next)) ((gH p (bD (M.obj 0)) (KO (M.obj 0)) tx th tl tv J t2 t3 n (n'+11) (n'+p.da) (bQ (M.obj 15)) (bQ (M.obj (p.da+4)))).map some) [] M) (tZ w p ep K tx th tl tv J t2 t3 n t g n' t' g'))
theorem DE (tx th tl tv t1 t2 t3 n t g n' t' g' ep K):IN tx th tl tv t1 t2 t3 n t g n' t' g' ep K (m4.take 16):=aT
theorem DF (tx th tl tv t1 t2 t3 n t g n' t' g' ep K):IN tx th tl tv t1 t2 t3 n t g n' t' g' ep K (m4.drop 16):=aT
def MZ (w:World) (q:CQ) (tx J tl tv n t g:Nat):Sem Fin:=a9 ((bU w 135).drop 5) (nC w q.x q.h q.l q.hv tx J tl tv n t g)
def IO (w:World) (p:o3) (ep:Nat) (K:Nat->Int×Nat) (tx J tl tv t1 t2 t3 n t g ta da:Nat) (ot od:Nat->Nat) (n' t' g':Nat):gt:=bl (aG w 800) 200 default .base (MZ w p.q tx J tl tv n t g) p.orc2 (gH p ep K tx J tl tv t1 t2 t3 n ta da ot od) n' t' g' []
theorem GU (tx th tl tv t1 t2 t3 n t g n' t' g' ep K ta da ot od):∀w,m4.map (λp=>oL [] (IO w p ep K tx th tl tv t1 t2 t3 n t g ta da ot od n' t' g'))=
  m4.map (λp=>oM (.fin (.done (.ret (.int p.r (t'+p.dt))))) [] [] (IO w p ep K tx th tl tv t1 t2 t3 n t g ta da ot od n' t' g')):=aT
theorem aL.deeper (h:aL d A) (env):aL (d+1) (A.deeper env):=
 ⟨h.hd,by have:=h.dp;show A.depth+1<=d+1;exact y0 this,by have:=h.un;show A.units+3<=10*(d+1);exact(au this)⟩
theorem bu.hasAll {kt:KT} {s₀ s:Shared} {l l':List ad} {ng} (D:bu kt s₀ s (l'.map (·.a)) (l'.map some) ng) (H:aQ s₀ l) (h:∀e∈l,e∈l'\/e.a∉l'.map (·.a)):aQ s l:=λe J=>by
 rcases h e J with h|h
 .exact D.sel e (jv h)
 .exact D.keep e.a e.o (H e J) h
theorem bu.has {kt:KT} {s₀ s:Shared} {A0:List Nat} {l:List ad} {ng} (D:bu kt s₀ s A0 (l.map some) ng):aQ s l:=λe J=>D.sel e (jv J)
def FH (p:o3):Bool:=(Float64.cmp (UInt64.ofNat p.f.1) (UInt64.ofNat p.f.1)==some .eq)&&(Float64.cmp (UInt64.ofNat p.f.2.1) (UInt64.ofNat p.f.2.1)==some .eq)&&(Float64.cmp (UInt64.ofNat p.f.2.2) (UInt64.ofNat p.f.2.2)==some .eq)&&
 (!p.flat||((Float64.cmpInt (UInt64.ofNat p.f.1) 0==some .eq)&&(Float64.cmpInt (UInt64.ofNat p.f.2.2) 0==some .eq)))
theorem DG:∀p∈m4,FH p=true:=by decide+kernel
theorem vl (hb:NoneBooked s.heap) (h:(Float64.cmp (UInt64.ofNat b) (UInt64.ofNat b)==some .eq)=true):EqAt A s (fl b t) (fl b u) true:=
 N9 hb _ t _ u h (λU=>rfl) (λU=>rfl)
theorem FI (h:(Float64.cmpInt (UInt64.ofNat b) 0==some .eq)=true):EqAt A s (fl b t) (.int 0 (u+1)) true:=
 MW _ _ _ _ (by have:=AutoFloatG6.float___eq___float_int_0 (UInt64.ofNat b) (t+1) 0 (u+1);simp only[h] at this;exact this)
theorem KL:∀{A s} (hb:NoneBooked s.heap) (hu:A.units<cLine) {p} (hp:p∈m4) {a b ot J} (ha:s.heap.get? a=some (r1 p ot)) (OE:s.heap.get? b=some (md p J)),RcNeAt A s (.ref a) (.ref b) false:=by
 ext A s:0;intro hb hu;ext p:0;intro hp;ext a b ot J:0;intro ha OE;have h:=DG p hp;unfold FH at h;simp only[mU,Bool.or_eq_true,Bool.not_eq_true'] at h;obtain⟨⟨⟨h1,h2⟩,h3⟩,h4⟩:=h;have ta:s.heap.IsTuple a #[fl p.f.1 (ot 0),fl p.f.2.1 (ot 1),fl p.f.2.2 (ot 2)]:=⟨_,ha,rfl,0,rfl⟩;cases hf:p.flat with
 |true=>
  rw[hf] at h4;have h4:=h4.resolve_left (by simp);have tb:s.heap.IsTuple b #[.int 0 (J 0+1),fl p.f.2.1 (J 1),.int 0 (J 2+1)]:=⟨_,OE,by unfold md;rw[hf];rfl,0,by unfold md;rw[hf];rfl⟩;exact RcNeAt.tuples (e:=λU=>true) ta tb hu λj h U=>by
   have:j=0\/j=1\/j=2:=by change j<3 at h;lia
   rcases this with rfl|rfl|rfl
   .exact FI h4.1
   .exact vl hb h2
   .exact FI h4.2
 |false=>
  have tb:s.heap.IsTuple b #[fl p.f.1 (J 0),fl p.f.2.1 (J 1),fl p.f.2.2 (J 2)]:=⟨_,OE,by unfold md;rw[hf];rfl,0,by unfold md;rw[hf];rfl⟩;exact RcNeAt.tuples (e:=λU=>true) ta tb hu λj h U=>by
   have:j=0\/j=1\/j=2:=by change j<3 at h;lia
   rcases this with rfl|rfl|rfl
   .exact vl hb h1
   .exact vl hb h2
   .exact vl hb h3
def mE (J:Stmt):Expr:=match J with
 |.If (.Compare l _ _ _) _ _ _=>l
 |_=>.Name ⟨#[]⟩ default
def gT (J:Stmt):Expr:=match J with
 |.If (.Compare _ _ (r::_) _) _ _ _=>r
 |_=>.Name ⟨#[]⟩ default
def vZ (J:Stmt):Pos:=match J with
 |.If (.Compare _ _ _ p) _ _ _=>p
 |_=>default
def Bv (J:Stmt):List Stmt:=match J with
 |.If _ b _ _=>b
 |_=>[]
def uP (J:Stmt):Pos:=match J with
 |.If _ _ _ p=>p
 |_=>default
def nD (w:World):Stmt:=bV (bU w 135) 4
theorem GV (w):nD w=.If (.Compare (mE (nD w)) [.NotEq] [gT (nD w)] (vZ (nD w))) (Bv (nD w)) [] (uP (nD w)):=by kernel_rfl
theorem Bw (w):bU w 135=(bU w 135).take 1++(((bU w 135).drop 1).take 3++(nD w::(bU w 135).drop 5)):=by kernel_rfl
def gz (ep:Nat) (K:Nat->Int×Nat) (v0 v1 v2 v3:Value) (ta J n:Nat):List ad:=[⟨n+158,bW ep K [(c9,v0),(DC,v1),(vW,v2),(zx,v3),(ku,.ref (ta+158)),(nB,.ref (J+158))]⟩]
theorem GW (w x h l hv tx th tl tv n t g n' t' g' ep ta da K v0 v1 v2 v3):
  ay (aG w 800) 20 default .base (fM (mE (nD w)) (nC w x h l hv tx th tl tv n t g)) 160 (gz ep K v0 v1 v2 v3 ta da n) n' t' g' [] [0]
   (.fin (.done (.ret (.ref (ta+158))))) ((gz ep K v0 v1 v2 v3 ta da n).map some) []:=by kernel_rfl
theorem GX (w x h l hv tx th tl tv n t g n' t' g' ep ta da K v0 v1 v2 v3):
  ay (aG w 800) 20 default .base (fM (gT (nD w)) (nC w x h l hv tx th tl tv n t g)) 160 (gz ep K v0 v1 v2 v3 ta da n) n' t' g' [] [0]
   (.fin (.done (.ret (.ref (da+158))))) ((gz ep K v0 v1 v2 v3 ta da n).map some) []:=by kernel_rfl
theorem KM:FD=m4.map (·.q):=by kernel_rfl
def Bx (k:Int):HR->j5:=λρ=>⟨.ok (.ret (.int k (ρ.x+1))),[],[]⟩
theorem jD (h:∀e∈l,158<=e.a) (hp:l.Pairwise λe f=>e.a≠f.a):aj l:=⟨hp,λe J=>.inl (h e J)⟩
theorem qJ {E:Value->Shared->Prop} {Q:Value->Shared->Prop} (h:RcNeAt A s a b k) (J:Q (.bool k) s):wpAny (model pw w) A (compareOp .NotEq a b) Q E s:=h pw w E Q J
theorem IP:∀p∈m4,p.dt=(p.dt - 1)+1:=by decide+kernel
theorem xI:∀w {p} (hp:p∈m4) tx th tl J,kr w 600 (kK p.q.x p.q.h p.q.l p.q.hv tx th tl J) [] (Bx p.r):=by
 ext w p:0;intro hp;ext tx th tl J:0;intro A s hA T H;ext A s ⟨hA,T,H⟩;have OP:p.q∈FD:=by rw[KM];exact jv hp
 obtain⟨n,t,g,S⟩:=T.st H cj;ext n t g ⟨S⟩;refine dl (v:=aG w 800) (bx _) (hA.mono (d':=800)) S (bJ _ _) 0 100 zv [0,1,2,3] (λU=>.again (Bt w p.q.x p.q.h p.q.l p.q.hv tx th tl J n t g))
  (λU=>[some ⟨n+158,bW 1 (λU=>(aB w c9,t)) [(c9,.int p.q.hv (J+1))]⟩,some ⟨n+159,cY (.int p.q.x (tx+1))⟩,some ⟨n+160,cY (.int p.q.h (th+1))⟩,some ⟨n+161,cY (.int p.q.l (tl+1))⟩]) (λU=>[])
  (λU=>GI w p.q.x p.q.h p.q.l p.q.hv tx th tl J n t g) λr s1 D U=>?_
 ext r s1 ⟨D⟩;have T1:=D.topS T;have k1:cU s.heap.objs.size s.gens.size s s1:=D.keepX λU h=>(nomatch h);have hn:s.heap.objs.size=n+158:=S.size;have OH:aL 601 (A.deeper (nC w p.q.x p.q.h p.q.l p.q.hv tx th tl J n t g)):=hA.deeper _;refine⟨rfl,codeAny_func ?_⟩;show wpAny _ _ (execs (bU w 135) (nC w p.q.x p.q.h p.q.l p.q.hv tx th tl J n t g)) _ _ s1;rw[Bw];have H1:aQ s1 (uO p.q (λU=>(aB w c9,t)) tx th tl J n):=D.has (l:=uO p.q (λU=>(aB w c9,t)) tx th tl J n);have F1:aj (uO p.q (λU=>(aB w c9,t)) tx th tl J n):=jD (by unfold uO;simp) (by unfold uO;simp);obtain⟨n1,t1,g1,S1⟩:=T1.st H1 F1;ext n1 t1 g1 ⟨S1⟩;have z1:n+161<s1.heap.objs.size:=fv (D.sel ⟨n+161,cY (.int p.q.l (tl+1))⟩ vA);refine lm ?_;refine oW (v:=aG w 800) (bx _) (OH.mono (d':=800)) S1 0 500 p.q.orc [0,1,2,3] (λU=>.fin (.done .next)) (λU=>(oZ p.q (bD ((rr w p.q (λU=>(aB w c9,t)) tx th tl J n t g n1 t1 g1).obj 0)) (KO ((rr w p.q (λU=>(aB w c9,t)) tx th tl J n t g n1 t1 g1).obj 0)) tx th tl J (bQ ((rr w p.q (λU=>(aB w c9,t)) tx th tl J n t g n1 t1 g1).obj 0) 1) (bQ ((rr w p.q (λU=>(aB w c9,t)) tx th tl J n t g n1 t1 g1).obj 0) 2) (bQ ((rr w p.q (λU=>(aB w c9,t)) tx th tl J n t g n1 t1 g1).obj 0) 3) n).map some) (λU=>[])
  (λrs OF=>by obtain rfl:=dI.mp OF;exact mW (GN tx th tl J n t g n1 t1 g1 (λU=>(aB w c9,t)) w) OP) λrs s2 OF D2=>?_
 ext rs s2 ⟨OF,D2⟩;have A1:∀a∈(uO p.q (λU=>(aB w c9,t)) tx th tl J n).map (·.a),s.heap.objs.size<=a:=by
  rw[hn];unfold uO;simp
 have T2:=D2.topS T1;have k2:=k1.trans (D2.keepX (g:=s.gens.size) A1);generalize bD _=ep2 at D2;generalize KO _=K2 at D2;generalize bQ _ 1=u1 at D2;generalize bQ _ 2=u2 at D2;generalize bQ _ 3=u3 at D2;have H2:=D2.has;have F2:aj (oZ p.q ep2 K2 tx th tl J u1 u2 u3 n):=jD (by unfold oZ;simp) (by unfold oZ;simp);obtain⟨n2,t2,g2,S2⟩:=T2.st H2 F2;ext n2 t2 g2 ⟨S2⟩;have OJ:s2.heap.objs.size=n2+158:=S2.size;have z2:=k2.more;have z3:=D2.more;refine lm ?_;refine oW (v:=vL w 800 900 [oY 17]) (bE λf hf=>by rw[cD] at hf;subst hf;exact vY) (OH.mono (d':=800)) S2 0 800 p.orc (IM p) (λU=>.fin (.done .next)) (λU=>(gH p (bD ((tZ w p ep2 K2 tx th tl J u1 u2 u3 n t g n2 t2 g2).obj 0)) (KO ((tZ w p ep2 K2 tx th tl J u1 u2 u3 n t g n2 t2 g2).obj 0)) tx th tl J u1 u2 u3 n (n2+11) (n2+p.da) (λi=>bQ ((tZ w p ep2 K2 tx th tl J u1 u2 u3 n t g n2 t2 g2).obj 15) i) (λi=>bQ ((tZ w p ep2 K2 tx th tl J u1 u2 u3 n t g n2 t2 g2).obj (p.da+4)) i)).map some) (λU=>[])
  (λrs OF=>by obtain rfl:=dI.mp OF;exact(dk.mp (m4.take_append_drop 16▸hp)).elim (mW (DE tx th tl J u1 u2 u3 n t g n2 t2 g2 ep2 K2 w)) (mW (DF tx th tl J u1 u2 u3 n t g n2 t2 g2 ep2 K2 w))) λrs s3 OF D3=>?_
 have A2:∀a∈(oZ p.q ep2 K2 tx th tl J u1 u2 u3 n).map (·.a),s.heap.objs.size<=a:=by
  rw[hn];unfold oZ;simp
 have T3:=D3.topS T2;have k3:=k2.trans (D3.keepX (g:=s.gens.size) A2);generalize bD _=OE at D3;generalize KO _=K3 at D3;generalize OO:(λi=>bQ (gt.obj _ 15) i)=ot at D3;generalize ON:(λi=>bQ (gt.obj _ (p.da+4)) i)=od at D3;clear OO ON;have OQ:p.da=12\/p.da=15:=(by decide+kernel:∀p∈m4,p.da=12\/p.da=15) p hp;have H3:=D3.has;have F3:aj (gH p OE K3 tx th tl J u1 u2 u3 n (n2+11) (n2+p.da) ot od):=jD (by unfold gH;simp) (by unfold gH;simp;lia);have OK:s3.heap.get? (n2+11+158)=some (r1 p ot):=H3 _ (by unfold gH;exact Bk);have OI:s3.heap.get? (n2+p.da+158)=some (md p od):=H3 _ (by unfold gH;exact Fu);have OM:aQ s3 (gz OE K3 (.int p.q.hv (J+1)) (fl p.q.r u1) (fl p.q.g u2) (fl p.q.b u3) (n2+11) (n2+p.da) n):=λe he=>by
  unfold gz at he;rw[cD] at he;subst he;exact H3 _ (by unfold gH;exact .head _)
 have ff:∀{v0 v1 v2 v3 ta da},aj (gz OE K3 v0 v1 v2 v3 ta da n):=jD (by unfold gz;simp) (by unfold gz;simp);refine wpAny_execs_cons ?_;rw[GV];refine wpAny_If (wpAny_isTrue_Compare1 ?_);obtain⟨n3,t3,g3,S3⟩:=T3.st OM ff;refine rn (v:=aG w 800) (bx _) (OH.mono (d':=800)) S3 0 20 160 [0] (λU=>.fin (.done (.ret (.ref (n2+11+158))))) (λU=>(gz OE K3 (.int p.q.hv (J+1)) (fl p.q.r u1) (fl p.q.g u2) (fl p.q.b u3) (n2+11) (n2+p.da) n).map some) (λU=>[])
  (λrs OF=>by obtain rfl:=dI.mp OF;exact GW w _ _ _ _ tx th tl J n t g n3 t3 g3 OE _ _ K3 _ _ _ _) λrs s4 OF D4=>?_
 have OG:∀e∈gH p OE K3 tx th tl J u1 u2 u3 n (n2+11) (n2+p.da) ot od,e∈gz OE K3 (.int p.q.hv (J+1)) (fl p.q.r u1) (fl p.q.g u2) (fl p.q.b u3) (n2+11) (n2+p.da) n\/e.a∉(gz OE K3 (.int p.q.hv (J+1)) (fl p.q.r u1) (fl p.q.g u2) (fl p.q.b u3) (n2+11) (n2+p.da) n).map (·.a):=λe he=>by
  unfold gH at he;rcases aY.mp he with rfl|he
  .exact .inl (by unfold gz;exact .head _)
  .right;unfold gz;simp only[aY,bS,bT] at he;rcases he with rfl|rfl|rfl|rfl|rfl<;>simp<;>lia
 have T4:=D4.topS T3;have X3:∀a∈(gz OE K3 (.int p.q.hv (J+1)) (fl p.q.r u1) (fl p.q.g u2) (fl p.q.b u3) (n2+11) (n2+p.da) n).map (·.a),s.heap.objs.size<=a:=by
  rw[hn];unfold gz;simp
 have k4:=k3.trans (D4.keepX (g:=s.gens.size) X3);have H4:aQ s4 (gH p OE K3 tx th tl J u1 u2 u3 n (n2+11) (n2+p.da) ot od):=D4.hasAll H3 OG;have OL:aQ s4 (gz OE K3 (.int p.q.hv (J+1)) (fl p.q.r u1) (fl p.q.g u2) (fl p.q.b u3) (n2+11) (n2+p.da) n):=λe he=>by
  unfold gz at he;rw[cD] at he;subst he;exact H4 _ (by unfold gH;exact .head _)
 obtain⟨n4,t4,g4,S4⟩:=T4.st OL ff;refine rn (v:=aG w 800) (bx _) (OH.mono (d':=800)) S4 0 20 160 [0] (λU=>.fin (.done (.ret (.ref (n2+p.da+158))))) (λU=>(gz OE K3 (.int p.q.hv (J+1)) (fl p.q.r u1) (fl p.q.g u2) (fl p.q.b u3) (n2+11) (n2+p.da) n).map some) (λU=>[])
  (λrs OF=>by obtain rfl:=dI.mp OF;exact GX w _ _ _ _ tx th tl J n t g n4 t4 g4 OE _ _ K3 _ _ _ _) λrs s5 OF D5=>?_
 have T5:=D5.topS T4;have k5:=k4.trans (D5.keepX (g:=s.gens.size) X3);have H5:aQ s5 (gH p OE K3 tx th tl J u1 u2 u3 n (n2+11) (n2+p.da) ot od):=D5.hasAll H4 OG;obtain⟨n5,t5,g5,S5⟩:=T5.st H5 F3;have OK:s5.heap.get? (n2+11+158)=some (r1 p ot):=H5 _ (by unfold gH;exact Bk);have OI:s5.heap.get? (n2+p.da+158)=some (md p od):=H5 _ (by unfold gH;exact Fu);refine qJ (KL T5.noneBooked (Nat.lt_of_le_of_lt OH.un (by decide)) hp OK OI) (wpAny_truthy_bool ?_);refine aH ?_;refine oW (v:=aG w 800) (bx _) (OH.mono (d':=800)) S5 0 200 p.orc2 [] (λU=>.fin (.done (.ret (.int p.r (t5+p.dt))))) (λU=>[]) (λU=>[])
  (λrs OF=>by obtain rfl:=dI.mp OF;exact mW (GU tx th tl J u1 u2 u3 n t g n5 t5 g5 OE K3 _ _ ot od w) hp) λrs s6 OF D6=>?_
 have T6:=D6.topS T5;have X6:∀a∈(gH p OE K3 tx th tl J u1 u2 u3 n (n2+11) (n2+p.da) ot od).map (·.a),s.heap.objs.size<=a:=by
  rw[hn];unfold gH;simp;exact⟨au (ax z1 (ax (fk OJ) z3)),au (ax z1 (ax (fk OJ) z3))⟩
 refine⟨⟨_,_,_,t5+(p.dt - 1),0,0⟩,?_,cU.hstep (k5.trans (D6.keepX X6)) T6⟩;have:=IP p hp;show Except.ok (Flow.ret (Value.int _ _))=Except.ok (Flow.ret (Value.int _ _));rw[Nat.add_assoc,<-this]
set_option backward.match.sparseCases true
structure bH (w:World) (s s':Shared) (A0:List Nat) (l':List ad):Prop where
 top:aK w s'
 more:s.heap.objs.size<=s'.heap.objs.size
 tmore:s.toks<=s'.toks
 drawn:ij s'=ij s
 os:s'.os=s.os
 keep:∀(a:Nat) o,s.heap.get? a=some o->a∉A0->s'.heap.get? a=some o
 gkeep:∀(k:Nat) (x:GenState),s.gens[k]? =some x->s'.gens[k]? =some x
 adr:∀e∈l',e.a∈A0\/s.heap.objs.size<=e.a
 has:aQ s' l'
noncomputable abbrev aC (l:List ad):List Nat:=l.map (·.a)
theorem mF (l f):aC (l++f)=aC l++aC f:=k6
theorem fe {l} (h:e∈l):e.a∈aC l:=jv h
theorem aQ.lt {l} (h:aQ s l):∀a∈aC l,a<s.heap.objs.size:=λa J=>by
 obtain⟨e,he,rfl⟩:=cT.mp J;exact fv (h e he)
theorem bu.aft {w l l'} {ng} (D:bu (kt w) s s' (aC l) (l'.map some) ng) (T:aK w s):bH w s s' (aC l) l':=
 ⟨D.topS T,D.more,D.tmore,D.drawn,D.os,D.keep,D.gkeep,λe J=>D.adr e (jv J),D.has⟩
theorem bH.refl {w l} (T:aK w s) (H:aQ s l):bH w s s (aC l) l:=
 ⟨T,bg _,bg _,rfl,rfl,λU U h U=>h,λU U h=>h,λe J=>.inl (fe J),H⟩
theorem bH.trans {w} (h:bH w s s' A0 l') (J:bH w s' s'' (aC l') l''):bH w s s'' A0 l'':=
 ⟨J.top,bC h.more J.more,bC h.tmore J.tmore,J.drawn.trans h.drawn,J.os.trans h.os,λa o g n=>J.keep a o (h.keep a o g n) λm=>by
   obtain⟨e,he,rfl⟩:=cT.mp m;rcases h.adr e he with q|q
   .exact n q
   .have:e.a<s.heap.objs.size:=fv g;omega,λk x g=>J.gkeep k x (h.gkeep k x g),λe he=>by
   rcases J.adr e he with q|q
   .obtain⟨f,hf,OE⟩:=cT.mp q;rw[<-OE];exact h.adr f hf
   .exact .inr (bC h.more q),J.has⟩
theorem bH.frame {w l f l'} (h:bH w s s' (aC l) l') (H:aQ s f) (n:∀e∈f,e.a∉aC l):bH w s s' (aC (l++f)) (l'++f):=
 ⟨h.top,h.more,h.tmore,h.drawn,h.os,λa o g q=>h.keep a o g λm=>q (by rw[mF];exact gO _ m),h.gkeep,λe he=>by
   rcases dk.mp he with he|he
   .rcases h.adr e he with q|q
    .left;rw[mF];exact gO _ q
    .exact .inr q
   .left;rw[mF];exact fJ _ (fe he),λe he=>by
   rcases dk.mp he with he|he
   .exact h.has e he
   .exact h.keep _ _ (H e he) (n e he)⟩
theorem bH.sub {w l l0 l' l2} (h:bH w s s' (aC l) l') (hl:∀a∈aC l,a∈aC l0) (hs:∀e∈l2,e∈l'):bH w s s' (aC l0) l2:=
 ⟨h.top,h.more,h.tmore,h.drawn,h.os,λa o g q=>h.keep a o g λm=>q (hl a m),h.gkeep,λe J=>(h.adr e (hs e J)).imp (hl _) id,λe J=>h.has e (hs e J)⟩
def CX (w:World) (d:Nat) (c:Code) (l:List ad) (post:Result->List ad->Prop):Prop:=
 ∀A s,aL d A->aK w s->aQ s l->codeAny (model pw w) A c (λr J=>∃l',post r l'/\bH w s J (aC l) l') s
def TX (w:World) (d:Nat) (c:Code) (tr:Sem Fin) (l:List ad) (post:Result->List ad->Prop):Prop:=
 ∀A s,aL d A->aK w s->aQ s l->np (model pw w) A (λr J=>∃l',post r l'/\bH w s J (aC l) l') c tr s
def SX (w:World) (d:Nat) (b:List Stmt) (J:Env) (l:List ad) (post:Flow->List ad->Prop):Prop:=
 ∀A s,aL d A->aK w s->aQ s l->wpAny (model pw w) A (execs b J) (λf s'=>∃l',post f l'/\bH w s s' (aC l) l') (λU U=>False) s
def EX (w:World) (d:Nat) (e:Expr) (J:Env) (l:List ad) (post:Value->List ad->Prop):Prop:=
 ∀A s,aL d A->aK w s->aQ s l->wpAny (model pw w) A (eval e J) (λv s'=>∃l',post v l'/\bH w s s' (aC l) l') (λU U=>False) s
theorem CX.of {w d l l0} {post:Result->List ad->Prop} (h:CX w d c l post) (hl:∀e∈l,e∈l0):CX w d c l0 post:=λA s hA T H=>
 eG (h A s hA T λe J=>H e (hl e J)) λr s' ⟨l',hp,D⟩=>⟨l',hp,D.sub (λa ha=>by
  obtain⟨e,J,rfl⟩:=cT.mp ha;exact fe (hl e J)) λU h=>h⟩
theorem CX.mono {w d l} {post post':Result->List ad->Prop} (h:CX w d c l post) (J:∀r l',post r l'->post' r l'):CX w d c l post':=λA s hA T H=>
 eG (h A s hA T H) λr s' ⟨l',h,D⟩=>⟨l',J _ _ h,D⟩
theorem CX.depth {w d d' l} {post:Result->List ad->Prop} (h:CX w d c l post) (hd:d'<=d):CX w d' c l post:=λA s hA T H=>h A s (hA.mono hd) T H
theorem CX.frame {w d l f} {post:Result->List ad->Prop} (h:CX w d c l post) (n:∀e∈f,e.a∉aC l):CX w d c (l++f) (λr l'=>∃l1,l'=l1++f/\post r l1):=λA s hA T H=>
 eG (h A s hA T λe J=>H e (gO _ J)) λr s' ⟨l',hp,D⟩=>⟨_,⟨l',rfl,hp⟩,D.frame (λe J=>H e (fJ _ J)) n⟩
section
variable {w:World} {d D dh:Nat} {hk:Nat->Code->(Nat->Option ad)->Option kj} (K:lZ (lh w D dh hk) w) (hd:d<=D) {l:List ad} (F:aj l)
include K hd F
theorem TX.run {c:Code} (hc:bq c) {tr:Sem Fin} {post:Result->List ad->Prop} (nh J orc:Nat) (ix:List Nat) (sh:Nat->Nat->Nat->List HR->Sh) (l':Nat->Nat->Nat->List HR->List ad)
  (OG:∀n t g rs,rs.length=nh->ay (lh w D dh hk) J c .top tr orc l n t g rs ix (sh n t g rs) ((l' n t g rs).map some) [])
  (hn:∀n t g rs,rs.length=nh->(∀a∈aC l,a<n+158)->(∀e∈l' n t g rs,e.a∈aC l\/n+158<=e.a)->match sh n t g rs with
   |.ret r=>post r (l' n t g rs)
   |.again c'=>c'.quiet=true/\CX w d c' (l' n t g rs) post
   |.call true OE c' _=>∃post',bq OE/\CX w (d+5) c' (l' n t g rs) post'/\∀r l2,post' r l2->(∀e∈l2,e.a∈aC (l' n t g rs)\/n+158<=e.a)->TX w d OE ((bl (lh w D dh hk) J c .top tr orc l n t g rs).kont r) l2 post
   |_=>False):TX w d c tr l post:=by
 revert K hd F hc OG hn;ext w d D dh hk l c tr post nh J orc ⟨ix,sh,l'⟩;ext ix sh l';intro K hd F hc OG hn;intro A s hA T H;ext A s ⟨hA,T,H⟩;obtain⟨n,t,g,S⟩:=T.st H F;ext n t g ⟨S⟩;refine eB (v:=lh w D dh hk) K (hA.mono hd) S hc nh J orc ix (λrs=>sh n t g rs) (λrs=>(l' n t g rs).map some) (λU=>[]) (OG n t g) λrs s1 OK D=>?_;ext rs s1 ⟨OK,D⟩;have D1:bH w s s1 (aC l) (l' n t g rs):=D.aft T;have OL:s.heap.objs.size=n+158:=S.size;have z:=hn n t g rs OK (λa ha=>by rw[<-OL];exact H.lt a ha) (λe he=>by rw[<-OL];exact D1.adr e he);revert z;cases sh n t g rs with
 |ret r=>exact λz=>⟨_,z,D1⟩
 |again c'=>exact λz=>⟨z.1,eG (z.2 A s1 hA D1.top D1.has) λr s' OH=>by obtain⟨l2,hp,D2⟩:=OH;exact⟨l2,hp,D1.trans D2⟩⟩
 |call tp OE c' gd=>
  cases tp with
  |false=>exact λz=>z
  |true=>
   rintro⟨post',OM,z1,z2⟩;refine eG (z1 _ s1 (hA.under OM) D1.top D1.has) λr s2 OJ=>?_;obtain⟨l2,hp,D2⟩:=OJ;have z3:=z2 r l2 hp (λe he=>by
    rcases D2.adr e he with q|q
    .exact .inl q
    .have:=D1.more;right;omega) A s2 hA D2.top D2.has
   refine dR z3 (λfin s3 x=>?_) λe s3 x=>?_
   .cases fin with
    |done f=>
     obtain⟨l3,OF,D3⟩:=x;exact⟨l3,OF,D1.trans (D2.trans D3)⟩
    |again c2=>exact⟨x.1,eG x.2 λr s' OI=>by obtain⟨l3,OF,D3⟩:=OI;exact⟨l3,OF,D1.trans (D2.trans D3)⟩⟩
   .obtain⟨l3,OF,D3⟩:=x;exact⟨l3,OF,D1.trans (D2.trans D3)⟩
 |fin f=>exact λz=>z.elim
 |raise e=>exact λz=>z.elim
 |yield v=>exact λz=>z.elim
theorem CX.run {c:Code} (hc:bq c) {post:Result->List ad->Prop} (nh J orc:Nat) (ix:List Nat) (sh:Nat->Nat->Nat->List HR->Sh) (l':Nat->Nat->Nat->List HR->List ad)
  (OF:∀n t g rs,rs.length=nh->ay (lh w D dh hk) J c .top (aM c) orc l n t g rs ix (sh n t g rs) ((l' n t g rs).map some) [])
  (hn:∀n t g rs,rs.length=nh->(∀a∈aC l,a<n+158)->(∀e∈l' n t g rs,e.a∈aC l\/n+158<=e.a)->match sh n t g rs with
   |.ret r=>post r (l' n t g rs)
   |.again c'=>c'.quiet=true/\CX w d c' (l' n t g rs) post
   |.call true OE c' _=>∃post',bq OE/\CX w (d+5) c' (l' n t g rs) post'/\∀r l2,post' r l2->(∀e∈l2,e.a∈aC (l' n t g rs)\/n+158<=e.a)->TX w d OE ((bl (lh w D dh hk) J c .top (aM c) orc l n t g rs).kont r) l2 post
   |_=>False):CX w d c l post:=λA s hA T H=>by
 refine l8 (rS ?_ (TX.run K hd F hc nh J orc ix sh l' OF hn A s hA T H));have h1:=((hA.mono hd).under hc).dp;have h2:D+5<1000:=K.d0;show(A.under c).depth<1000;omega
end
theorem SX.append {w:World} {d:Nat} {b b':List Stmt} {OF:Env} {l:List ad} {post post':Flow->List ad->Prop} (h:SX w d b OF l post)
  (h':∀f l',post f l'->match f with
   |.next=>SX w d b' OF l' post'
   |f=>post' f l'):SX w d (b++b') OF l post':=λA s hA T H=>lm (dR (h A s hA T H) (λf s1 J=>by
  obtain⟨l1,hp,D1⟩:=J;have z:=h' f l1 hp;cases f with
  |next=>exact dR (z A s1 hA D1.top D1.has) (λf s2 OE=>by obtain⟨l2,OG,D2⟩:=OE;exact⟨l2,OG,D1.trans D2⟩) λU U x=>x
  |ret v=>exact⟨l1,z,D1⟩
  |brk=>exact⟨l1,z,D1⟩
  |cont=>exact⟨l1,z,D1⟩) λU U x=>x)
theorem CX.func {w:World} {d:Nat} {b:List Stmt} {OE:Env} {l:List ad} {post:Result->List ad->Prop} (h:SX w (d+1) b OE l λf l'=>post (.ok (.ret (match f with|.ret v=>v|_=>.none))) l'):CX w d (.func b OE) l post:=λA s hA T H=>
 codeAny_func (dR (h _ s (hA.deeper OE) T H) (λf s' J=>by obtain⟨l',hp,D⟩:=J;exact⟨l',hp,D⟩) λU U x=>x.elim)
def qE (q:Nat×Nat×Obj):ad:=⟨q.2.1,q.2.2⟩
theorem bH.hstep {w l l'} (D:bH w s s' (aC l) l') (H:aQ s l)
  (hs:∀q∈o.sets,qE q∈l') (hn:∀e∈o.news,e∈l'/\e.a∉aC l) (hp:o.news.Pairwise λe f=>e.a≠f.a) (hl:∀e∈l,(∃q∈o.sets,q.2.1=e.a)\/e∈l'):
  cJ s s' ⟨s'.heap.objs.size - 158,s'.toks - 1,s'.gens.size,x,y,z⟩ o:=by
 have h1:=D.top.size;have h2:=D.top.toks;refine⟨?_,D.more,?_,D.tmore,rfl,D.drawn,D.os,D.gkeep,λa o' g n=>?_,λq hq=>D.has _ (hs q hq),λe J=>⟨D.has e (hn e J).1,?_⟩,hp⟩
 .show _=s'.heap.objs.size - 158+158;omega
 .show _=s'.toks - 1+1;omega
 .by_cases ha:a∈aC l
  .obtain⟨e,J,rfl⟩:=cT.mp ha;rcases hl e J with⟨q,hq,e1⟩|he'
   .exact bh e1 (n q hq)
   .have:=(H e J).symm.trans g;cases this;exact D.has e he'
  .exact D.keep a o' g ha
 .rcases D.adr e (hn e J).1 with q|q
  .exact bh q (hn e J).2
  .exact q
set_option tactic.hygienic true in
theorem By {w:World} {dh:Nat} {OE:Code} {J:List (Nat×Nat×Obj)} {out:HR->j5} {post:Result->List ad->Prop} (h:CX w dh OE (J.map qE) post)
  (hp:∀r l',post r l'->(∀e∈l',e.a∈aC (J.map qE)\/True)->∃x y z,∀n t g,r=(out ⟨n,t,g,x,y,z⟩).r/\(∀q∈(out ⟨n,t,g,x,y,z⟩).sets,qE q∈l')/\(∀e∈(out ⟨n,t,g,x,y,z⟩).news,e∈l'/\e.a∉aC (J.map qE))/\
   ((out ⟨n,t,g,x,y,z⟩).news.Pairwise λe f=>e.a≠f.a)/\(∀q∈J,(∃q'∈(out ⟨n,t,g,x,y,z⟩).sets,q'.2.1=q.2.1)\/qE q∈l')):ai w dh (fX OE J (.gen out)):=by
 ext w dh OE J out post ⟨h,hp⟩;refine eJ λA s hA T hq=>?_;ext A s ⟨hA,T,hq⟩;have H:aQ s (J.map qE):=λe he=>by
  obtain⟨q,OF,rfl⟩:=cT.mp he;exact hq q OF
 refine bf.of_code (eG (h A s hA T H) λr s' ⟨l',OH,D⟩=>?_);rename_i OG;ext r s' l' ⟨OG,OH,D⟩;obtain⟨x,y,z,hh⟩:=hp r l' OH λU U=>.inr trivial;ext x y z ⟨hh⟩;obtain⟨h1,h2,h3,h4,h5⟩:=hh (s'.heap.objs.size - 158) (s'.toks - 1) s'.gens.size;refine⟨_,h1,D.hstep H h2 h3 h4 λe he=>?_⟩;obtain⟨q,OF,rfl⟩:=cT.mp he;exact h5 q OF
set_option backward.match.sparseCases false
def aZ (l:Nat) (i:Nat):Obj:=dy "list_iterator" [.ref l,.int (i:Int) 0]
def en (i:Nat):Obj:=dy "list_iterator" [.none,.int (i:Int) 0]
def uQ (a:Nat):Code:=.call (.builtin "list_iterator.__next__") ⟨[.ref a],[]⟩
def az (J it kl l:Nat) (xs:List Value) (ep i:Nat) (v:Value):aq:=fX (uQ it) [(J,it,aZ l i),(kl,l,aa xs ep)] (.gen λU=>⟨.ok (.ret v),[(J,it,aZ l (i+1))],[]⟩)
def dG (J it kl l:Nat) (xs:List Value) (ep i:Nat):aq:=fX (uQ it) [(J,it,aZ l i),(kl,l,aa xs ep)] (.gen λρ=>⟨.error (.ref (ρ.x+159)),[(J,it,en i)],[⟨ρ.x+158,bt []⟩,⟨ρ.x+159,gP (ρ.x+158)⟩]⟩)
theorem c5 {w:World} {dh ki it kl l:Nat} {xs:List Value} {ep i:Nat} {v:Value} (h:xs[i]? =some v):ai w dh (az ki it kl l xs ep i v):=by
 ext w dh ki it kl l xs ep i v ⟨h⟩;refine eJ λA s hA hT hq=>?_;ext A s ⟨hA,hT,hq⟩;have J:s.heap.get? it=some (aZ l i):=hq _ aJ;have hl:s.heap.get? l=some (aa xs ep):=hq _ cy;have hx:xs.toArray[i]? =some v:=by simpa using h
 refine cz slot_listiter_next (⟨_,J,rfl⟩:Shared.TypeIs _ (.ref it) "list_iterator") entry_listiter_next (args_listiter_next _) ?_;show wpAny _ _ (field (.ref it) 0>>=_) _ _ s;refine ao (lT J rfl (x:=.ref l) rfl ?_);show wpAny _ _ (if(Value.ref l==Value.none)=true then _ else _) _ _ s;rw[if_neg (show¬((Value.ref l==Value.none)=true) from Bool.false_ne_true)];show wpAny _ _ (field (.ref it) 1>>=_) _ _ s;refine ao (lT J rfl (x:=.int i 0) rfl ?_);show wpAny _ _ (seqItems? (.ref l)>>=_) _ _ s;refine ao (wpAny_seqItems hl rfl ?_);simp only[rR,hx];refine ao (wpAny_setField J rfl (by constructor<;>rfl) (aH ?_));obtain⟨n,t',hn,ht⟩:=hT.nat;refine⟨⟨n,t',s.gens.size,0,0,0⟩,rfl,?_⟩;rw[ht];exact cJ.set1 hn (j9 ht) J rfl rfl
theorem fF {w:World} {dh ki it kl l:Nat} {xs:List Value} {ep i:Nat} (h:xs[i]? =none):ai w dh (dG ki it kl l xs ep i):=by
 ext w dh ki it kl l xs ep i ⟨h⟩;refine eJ λA s hA hT hq=>?_;ext A s ⟨hA,hT,hq⟩;have J:s.heap.get? it=some (aZ l i):=hq _ aJ;have hl:s.heap.get? l=some (aa xs ep):=hq _ cy;have hx:xs.toArray[i]? =none:=by simpa using h
 have OF:=hT.size;refine cz slot_listiter_next (⟨_,J,rfl⟩:Shared.TypeIs _ (.ref it) "list_iterator") entry_listiter_next (args_listiter_next _) ?_;show wpAny _ _ (field (.ref it) 0>>=_) _ _ s;refine ao (lT J rfl (x:=.ref l) rfl ?_);show wpAny _ _ (if(Value.ref l==Value.none)=true then _ else _) _ _ s;rw[if_neg (show¬((Value.ref l==Value.none)=true) from Bool.false_ne_true)];show wpAny _ _ (field (.ref it) 1>>=_) _ _ s;refine ao (lT J rfl (x:=.int i 0) rfl ?_);show wpAny _ _ (seqItems? (.ref l)>>=_) _ _ s;refine ao (wpAny_seqItems hl rfl ?_);simp only[rR,hx];refine ao (wpAny_rule (ao (wpAny_setField J rfl (by simp) ?_)));show wpAny _ _ (newExc (.type "StopIteration") []>>=_) _ _ _;refine ao ?_;simp only[newExc,newTuple];refine ao (wpAny_newObj_type ?_ (by size_fits));refine ao (m:=firstArgMember _ _) (wpAny_of_eq (a:=Value.none) (by first|rfl|(simp only[firstArgMember];rfl)) ?_);refine wpAny_newObj_type ?_ (by size_fits);simp only[raiseNew];refine ao (wpAny_handled ?_);rw[show A.in1.handled=none from hA.hd];refine ao (aH (wpAny_throw ?_));obtain⟨n,t',hn,ht⟩:=hT.nat;have OE:(s.heap.update it (Obj.mapFields λx=>x.setIfInBounds 0 .none)).objs.size=n+158:=by rw[<-hn];exact(Heap.SameBut.update ..).1
 refine⟨⟨n+2,t',s.gens.size,n,0,0⟩,?_,?_⟩
 .rw[k8,OE]
 .rw[OE,ht];exact ((cJ.set1 (r:=.error (.ref (n+159))) (o':=en i) hn (j9 ht) J rfl rfl).push (x:=bt []) rfl).push (x:=gP (n+158)) rfl
def dm (x y:Str) (r:Bool):aq:=f5 "str.__ne__" (.str x) (.str y) [] λU U=>iD r
theorem f6 (h:(x.cps.toList != y.cps.toList)=r):ai w dh (dm x y r):=cF λta tb A s hA hT J=>by
 refine cE F.slot_str_ne (typeIs_str s _ _) F.entry_str_ne (F.args_str_ne_2 _ _) (gives_str_ne x y _ _) ?_;show _=_/\_=_;rw[h];exact⟨rfl,rfl⟩
def a6 (x y z:Str):aq:=λc _=>some ⟨[],[(c,.call (.builtin "str.__add__") ⟨[.str x (dF (bI c 0)+1),.str y (dF (bI c 1)+1)],[]⟩)],jc z⟩
theorem GY (h:z=x++y) (h0:x.length=0->y=z) (h1:y.length=0->x=z) (hl:z.length<=sizeLine) (hT:aK w s) (ta tb):
  (jc z).ok (model pw w) A (.call (.builtin "str.__add__") ⟨[.str x (ta+1),.str y (tb+1)],[]⟩) s:=by
 refine mY hT λR hR=>?_;refine cE F.slot_str_add (typeIs_str s _ _) F.entry_str_add (F.args_str_add_2 _ _) (gives_str_add x y _ _) ?_;have J:s.toks - 1+1=s.toks:=mV hT.toks;by_cases hx:x.length=0
 .have hb:(x.length==0)=true:=by simpa using hx
  simp only[hb,if_true];have:=hR tb (s.toks - 1) (j9 (id (Eq.symm J)));rw[J,<-h0 hx] at this;exact this
 .have hb:(x.length==0)=false:=by simpa using hx
  simp only[hb,Bool.false_eq_true,if_false];by_cases hy:y.length=0
  .have hb:(y.length==0)=true:=by simpa using hy
   simp only[hb,if_true];have:=hR ta (s.toks - 1) (j9 (id (Eq.symm J)));rw[J,<-h1 hy] at this;exact this
  .have hb:(y.length==0)=false:=by simpa using hy
   simp only[hb,Bool.false_eq_true,if_false];have:=hR (s.toks - 1) s.toks (k9 _ _);rw[J,h] at this;rw[h] at hl;exact⟨hl,this⟩
theorem fy (h:z=x++y) (h0:x.length=0->y=z) (J:y.length=0->x=z) (hl:z.length<=sizeLine):ai w dh (a6 x y z):=bj λc lk A s hA hT hq=>GY h h0 J hl hT _ _
def eT (x:Str) (i:Int) (c:Nat):aq:=f5 "str.__getitem__" (.str x) (.int i) [] λU U=>jc ⟨#[c]⟩
theorem nF (hr:(decide (i< -(2^63:Int))||decide (i>=2^63))=false) (h:(seqIndex? i x.length).bind (x.cps[·]?)=some c):ai w dh (eT x i c):=cF λta tb A s hA hT hq=>mY hT λR hR=>by
 refine cE F.slot_str_getitem (typeIs_str s _ _) F.entry_str_getitem (F.args_str_getitem_2 _ _) (gives_str_getitem x i _ _ c hr h) ?_;have J:s.toks - 1+1=s.toks:=mV hT.toks;have:=hR (s.toks - 1) s.toks (k9 _ _);rw[J] at this;exact⟨by show 1<=sizeLine;decide,this⟩
def zy:Stmt->List Stmt
 |.If _ b _ _=>b
 |_=>[]
def t7:Stmt->List Stmt
 |.If _ _ b _=>b
 |_=>[]
def Bz:Stmt->List Stmt
 |.FunctionDef _ _ b _ _ _ _ _ _ _=>b
 |_=>[]
def GZ:Stmt->Scope
 |.FunctionDef _ _ _ _ _ _ s _ _ _=>s
 |_=>default
set_option genCtorIdx true in
inductive f7 where
 |any
 |plain
 |suff
 |ns
def t8 (w:World) (k:f7):Stmt:=match bV (bU w 83) 1 with
 |i0=>match k with
  |.any=>bV (zy i0) 0
  |.plain=>bV (zy (bV (t7 i0) 0)) 0
  |.suff=>bV (zy (bV (t7 (bV (t7 i0) 0)) 0)) 3
  |.ns=>bV (zy (bV (t7 (bV (t7 (bV (t7 i0) 0)) 0)) 0)) 2
def DH:Str:=⟨#[99,111,110,116,101,120,116]⟩
def DI:Str:=⟨#[114,101,115,117,108,116]⟩
def FJ:Str:=⟨#[101,108,101,109]⟩
def IQ:Str:=⟨#[101,108,95,116,97,103]⟩
def zz:Str:=⟨#[95,105,115,105,110,115,116,97,110,99,101]⟩
def zB:Str:=⟨#[95,115,116,114]⟩
def DK:Str:=⟨#[116,97,103]⟩
def G0:Str:=⟨#[115,117,102,102,105,120]⟩
def KP:Str:=⟨#[110,111,95,110,115]⟩
def Oa:Str:=⟨#[110,115]⟩
def G2:Str:=⟨#[110,115,95,111,110,108,121]⟩
def FK:Str:=⟨#[114,111,111,116]⟩
def KQ:Str:=⟨#[46,60,108,111,99,97,108,115,62,46,115,101,108,101,99,116,46,60,108,111,99,97,108,115,62,46]⟩
def DL (k:f7) (cI cS c1 c2 c3:Nat):List (Str×Addr):=match k with
 |.suff=>[(DK,c1),(G0,c2),(KP,c3),(zB,cS),(zz,cI)]
 |.ns=>[(G2,c2),(Oa,c1),(zB,cS),(zz,cI)]
 |_=>[(zB,cS),(zz,cI)]
def o4 (w:World) (k:f7) (fn cd gf cI cS c1 c2 c3:Nat):Env:=
 {scope:=GZ (t8 w k),locals:=gf,globals:=3,cells:=DL k cI cS c1 c2 c3,qual:=(iI w 83).qualname++KQ,func:=some fn,code:=.ref cd,frame:=some gf,builtins:=(iI w 83).builtins}
def t9 (w:World) (k:f7) (fn cd gf cI cS c1 c2 c3:Nat):Code:=.func (Bz (t8 w k)) (o4 w k fn cd gf cI cS c1 c2 c3)
def f8 (w:World) (k:f7) (fn cd gf cI cS c1 c2 c3 it:Nat):Code:=Fv (bV (Bz (t8 w k)) 0) (.ref it) (o4 w k fn cd gf cI cS c1 c2 c3)
def lp:Option (Str×Nat)->Value
 |none=>.none
 |some (y,t)=>.str y (t+1)
def dU (d:Nat):Obj:=⟨.ref 100,some d,.plain,#[]⟩
def ee (ep:Nat) (K:Nat->Int×Nat) (v:Value):Obj:=⟨.type "dict",none,.dict (tL K 0 [(FK,.none),(DK,v)]).toArray ep,#[]⟩
def bm (k:f7) (ep:Nat) (K:Nat->Int×Nat) (L:Nat) (b:Bool) (e:Nat) (v:Value):Obj:=match b with
 |false=>bW ep K [(DH,.none),(DI,.ref L)]
 |true=>match k with
  |.any=>bW ep K [(DH,.none),(DI,.ref L),(FJ,.ref e)]
  |_=>bW ep K [(DH,.none),(DI,.ref L),(FJ,.ref e),(IQ,v)]
def v4 (k:f7) (cI cS c1 c2 c3 sl:Nat) (x y:Str) (tx ty:Nat) (ln:Int) (tl:Nat):List ad:=match k with
 |.suff=>[⟨cI+158,cY (.builtin "isinstance")⟩,⟨cS+158,cY (.type "str")⟩,⟨c1+158,cY (.str x (tx+1))⟩,⟨c2+158,cY (.str y (ty+1))⟩,⟨c3+158,cY (.ref (sl+158))⟩,⟨sl+158,li (.int ln tl) .none⟩]
 |.ns=>[⟨cI+158,cY (.builtin "isinstance")⟩,⟨cS+158,cY (.type "str")⟩,⟨c1+158,cY (.str x (tx+1))⟩,⟨c2+158,cY (.ref (sl+158))⟩,⟨sl+158,li .none (.int ln tl)⟩]
 |_=>[⟨cI+158,cY (.builtin "isinstance")⟩,⟨cS+158,cY (.type "str")⟩]
def zC (k:f7) (F:Obj) (gf it L a d:Nat) (xs:List Value) (el i:Nat) (D:Obj) (X:List ad):List ad:=[⟨gf+158,F⟩,⟨it+158,aZ (L+158) i⟩,⟨L+158,aa xs el⟩,⟨a+158,dU (d+158)⟩,⟨d+158,D⟩]++X
def vm:f7->List Nat
 |.suff=>[0,1,2,3,4,5,6,7,8,9,10]
 |.ns=>[0,1,2,3,4,5,6,7,8,9]
 |_=>[0,1,2,3,4,5,6]
section
variable (w:World) (fn cd gf cI cS c1 c2 c3 sl it L a d:Nat) (xs:List Value) (el i:Nat) (epD:Nat) (KD:Nat->Int×Nat) (b:Bool) (ep:Nat) (K:Nat->Int×Nat) (e':Nat) (v':Value) (x y:Str) (tx ty:Nat) (ln:Int) (tl n t g:Nat)
noncomputable abbrev gD (w:World) (k:f7) (hs:List aq) (orc:Nat) (fn cd gf cI cS c1 c2 c3 sl it L a d:Nat) (xs:List Value) (el i epD:Nat) (KD:Nat->Int×Nat) (b:Bool) (ep:Nat) (K:Nat->Int×Nat) (e':Nat) (v':Value) (x y:Str) (tx ty:Nat) (ln:Int) (tl n t g:Nat) (v:Value) (rs:List HR) (J:Bool):Prop:=
 bP (vL w 800 900 hs) 200 default .base (aM (f8 w k fn cd (gf+158) (cI+158) (cS+158) (c1+158) (c2+158) (c3+158) (it+158))) orc
  (zC k (bm k ep K (L+158) b e' v') gf it L a d xs el i (ee epD KD v) (v4 k cI cS c1 c2 c3 sl x y tx ty ln tl)) n t g rs (vm k)
  (match J with|true=>.yield (.ref (a+158))|false=>.fin (.again (f8 w k fn cd (gf+158) (cI+158) (cS+158) (c1+158) (c2+158) (c3+158) (it+158))))
  (λo=>(zC k (bm k (bD (o 0)) (KO (o 0)) (L+158) true (a+158) v) gf it L a d xs el (i+1) (ee epD KD v) (v4 k cI cS c1 c2 c3 sl x y tx ty ln tl)).map some) []
def o5:Nat:=0x28000298a4190a328c631906428c0018c64190a3280a5280a0004a1
def v5:Nat:=o5 - (5<<<215)
def m5:Nat:=0x28003008a0000a6280a5280a02906428ca318c64190a3000631906428ca0280a0004a1
def r2:Nat:=m5 - (5<<<275)
def pe:Nat:=r2 - (98373<<<245)
def m6:Nat:=pe+(171628829691<<<200)
def pf:Nat:=m6+(0x280052a0022a4a0000a628005<<<230)
def v6:Nat:=pf - (5<<<325)
def v7:Nat:=m6+(45672725438463<<<222)
def pg:Nat:=m5+(87963081375315<<<251)
def v8:Nat:=pg - (5<<<295)
def v9:Nat:=pe
theorem KR (z tz ρ):∀w J,gD w .any [az 1 (it+158) 2 (L+158) xs el i (.ref (a+158))] o5 fn cd gf cI cS c1 c2 c3 sl it L a d xs el i epD KD J ep K e' v' x y tx ty ln tl n t g (.str z (tz+1)) [ρ] true:=d9
theorem KS (ρ):∀w J,gD w .any [az 1 (it+158) 2 (L+158) xs el i (.ref (a+158))] v5 fn cd gf cI cS c1 c2 c3 sl it L a d xs el i epD KD J ep K e' v' x y tx ty ln tl n t g (.none) [ρ] false:=d9
theorem KU (z tz ρ ρ2 c):∀w J,gD w .plain [az 1 (it+158) 2 (L+158) xs el i (.ref (a+158)),eT z 0 c,dm ⟨#[c]⟩ ⟨#[123]⟩ true] m5 fn cd gf cI cS c1 c2 c3 sl it L a d xs el i epD KD J ep K e' v' x y tx ty ln tl n t g (.str z (tz+1)) [ρ,ρ2] true:=d9
theorem KV (z tz ρ ρ2 c):∀w J,gD w .plain [az 1 (it+158) 2 (L+158) xs el i (.ref (a+158)),eT z 0 c,dm ⟨#[c]⟩ ⟨#[123]⟩ false] r2 fn cd gf cI cS c1 c2 c3 sl it L a d xs el i epD KD J ep K e' v' x y tx ty ln tl n t g (.str z (tz+1)) [ρ,ρ2] false:=d9
theorem KY (ρ):∀w J,gD w .plain [az 1 (it+158) 2 (L+158) xs el i (.ref (a+158))] pe fn cd gf cI cS c1 c2 c3 sl it L a d xs el i epD KD J ep K e' v' x y tx ty ln tl n t g (.none) [ρ] false:=d9
theorem KZ (z tz ρ):∀w J,gD w .suff [az 1 (it+158) 2 (L+158) xs el i (.ref (a+158)),bn ⟨#[]⟩ 0,bn ⟨#[]⟩ 0,aF z x true] m6 fn cd gf cI cS c1 c2 c3 sl it L a d xs el i epD KD J ep K e' v' x y tx ty ln tl n t g (.str z (tz+1)) [ρ] true:=d9
theorem K0 (z tz ρ ρ2 u):∀w J,gD w .suff [az 1 (it+158) 2 (L+158) xs el i (.ref (a+158)),bZ 10 (sl+158) z tz (some (ln,tl)) none u,bn ⟨#[]⟩ 0,aF z x false,aF u y true] pf fn cd gf cI cS c1 c2 c3 sl it L a d xs el i epD KD J ep K e' v' x y tx ty ln tl n t g (.str z (tz+1)) [ρ,ρ2] true:=d9
theorem K5 (z tz ρ ρ2 u):∀w J,gD w .suff [az 1 (it+158) 2 (L+158) xs el i (.ref (a+158)),bZ 10 (sl+158) z tz (some (ln,tl)) none u,bn ⟨#[]⟩ 0,aF z x false,aF u y false] v6 fn cd gf cI cS c1 c2 c3 sl it L a d xs el i epD KD J ep K e' v' x y tx ty ln tl n t g (.str z (tz+1)) [ρ,ρ2] false:=d9
theorem K6 (ρ):∀w J,gD w .suff [az 1 (it+158) 2 (L+158) xs el i (.ref (a+158))] v7 fn cd gf cI cS c1 c2 c3 sl it L a d xs el i epD KD J ep K e' v' x y tx ty ln tl n t g (.none) [ρ] false:=d9
theorem K7 (z tz ρ ρ2 u):∀w J,gD w .ns [az 1 (it+158) 2 (L+158) xs el i (.ref (a+158)),bZ 9 (sl+158) z tz none (some (ln,tl)) u,bn ⟨#[]⟩ 0,aF u x true,aF u x true] pg fn cd gf cI cS c1 c2 c3 sl it L a d xs el i epD KD J ep K e' v' x y tx ty ln tl n t g (.str z (tz+1)) [ρ,ρ2] true:=d9
theorem K8 (z tz ρ ρ2 u):∀w J,gD w .ns [az 1 (it+158) 2 (L+158) xs el i (.ref (a+158)),bZ 9 (sl+158) z tz none (some (ln,tl)) u,bn ⟨#[]⟩ 0,aF u x false,aF u x false] v8 fn cd gf cI cS c1 c2 c3 sl it L a d xs el i epD KD J ep K e' v' x y tx ty ln tl n t g (.str z (tz+1)) [ρ,ρ2] false:=d9
theorem K9 (ρ):∀w J,gD w .ns [az 1 (it+158) 2 (L+158) xs el i (.ref (a+158))] v9 fn cd gf cI cS c1 c2 c3 sl it L a d xs el i epD KD J ep K e' v' x y tx ty ln tl n t g (.none) [ρ] false:=d9
end
section
variable (w:World) (k:f7) (fn cd gf cI cS c1 c2 c3 sl it L a d:Nat) (xs:List Value) (el i:Nat) (epD:Nat) (KD:Nat->Int×Nat) (b:Bool) (ep:Nat) (K:Nat->Int×Nat) (e':Nat) (v':Value) (x y:Str) (tx ty:Nat) (ln:Int) (tl n t g:Nat)
noncomputable abbrev ph (w:World) (k:f7) (hs:List aq) (orc:Nat) (fn cd gf cI cS c1 c2 c3 sl it L a d:Nat) (xs:List Value) (el i epD:Nat) (KD:Nat->Int×Nat) (b:Bool) (ep:Nat) (K:Nat->Int×Nat) (e':Nat) (v':Value) (x y:Str) (tx ty:Nat) (ln:Int) (tl n t g:Nat) (v:Value) (rs:List HR):gt:=
 bl (vL w 800 900 hs) 200 default .base (aM (f8 w k fn cd (gf+158) (cI+158) (cS+158) (c1+158) (c2+158) (c3+158) (it+158))) orc
  (zC k (bm k ep K (L+158) b e' v') gf it L a d xs el i (ee epD KD v) (v4 k cI cS c1 c2 c3 sl x y tx ty ln tl)) n t g rs
theorem IR (z tz ρ n' t' g'):∀w J,ay (aG w 800) 20 default .base ((ph w .any [az 1 (it+158) 2 (L+158) xs el i (.ref (a+158))] o5 fn cd gf cI cS c1 c2 c3 sl it L a d xs el i epD KD J ep K e' v' x y tx ty ln tl n t g (.str z (tz+1)) [ρ]).kontY (.send .none)) 0 [] n' t' g' [] []
 (.fin (.again (f8 w .any fn cd (gf+158) (cI+158) (cS+158) (c1+158) (c2+158) (c3+158) (it+158)))) [] []:=d9
theorem IS (z tz ρ ρ2 c n' t' g'):∀w J,ay (aG w 800) 20 default .base ((ph w .plain [az 1 (it+158) 2 (L+158) xs el i (.ref (a+158)),eT z 0 c,dm ⟨#[c]⟩ ⟨#[123]⟩ true] m5 fn cd gf cI cS c1 c2 c3 sl it L a d xs el i epD KD J ep K e' v' x y tx ty ln tl n t g (.str z (tz+1)) [ρ,ρ2]).kontY (.send .none)) 0 [] n' t' g' [] []
 (.fin (.again (f8 w .plain fn cd (gf+158) (cI+158) (cS+158) (c1+158) (c2+158) (c3+158) (it+158)))) [] []:=d9
theorem IT (z tz ρ n' t' g'):∀w J,ay (aG w 800) 20 default .base ((ph w .suff [az 1 (it+158) 2 (L+158) xs el i (.ref (a+158)),bn ⟨#[]⟩ 0,bn ⟨#[]⟩ 0,aF z x true] m6 fn cd gf cI cS c1 c2 c3 sl it L a d xs el i epD KD J ep K e' v' x y tx ty ln tl n t g (.str z (tz+1)) [ρ]).kontY (.send .none)) 0 [] n' t' g' [] []
 (.fin (.again (f8 w .suff fn cd (gf+158) (cI+158) (cS+158) (c1+158) (c2+158) (c3+158) (it+158)))) [] []:=d9
theorem IU (z tz ρ ρ2 u n' t' g'):∀w J,ay (aG w 800) 20 default .base ((ph w .suff [az 1 (it+158) 2 (L+158) xs el i (.ref (a+158)),bZ 10 (sl+158) z tz (some (ln,tl)) none u,bn ⟨#[]⟩ 0,aF z x false,aF u y true] pf fn cd gf cI cS c1 c2 c3 sl it L a d xs el i epD KD J ep K e' v' x y tx ty ln tl n t g (.str z (tz+1)) [ρ,ρ2]).kontY (.send .none)) 0 [] n' t' g' [] []
 (.fin (.again (f8 w .suff fn cd (gf+158) (cI+158) (cS+158) (c1+158) (c2+158) (c3+158) (it+158)))) [] []:=d9
theorem IV (z tz ρ ρ2 u n' t' g'):∀w J,ay (aG w 800) 20 default .base ((ph w .ns [az 1 (it+158) 2 (L+158) xs el i (.ref (a+158)),bZ 9 (sl+158) z tz none (some (ln,tl)) u,bn ⟨#[]⟩ 0,aF u x true,aF u x true] pg fn cd gf cI cS c1 c2 c3 sl it L a d xs el i epD KD J ep K e' v' x y tx ty ln tl n t g (.str z (tz+1)) [ρ,ρ2]).kontY (.send .none)) 0 [] n' t' g' [] []
 (.fin (.again (f8 w .ns fn cd (gf+158) (cI+158) (cS+158) (c1+158) (c2+158) (c3+158) (it+158)))) [] []:=d9
theorem IW (ρ):ay (vL w 800 900 [dG 1 (it+158) 2 (L+158) xs el i]) 50 default .base (aM (f8 w k fn cd (gf+158) (cI+158) (cS+158) (c1+158) (c2+158) (c3+158) (it+158))) 171967649
 [⟨gf+158,bm k ep K (L+158) b e' v'⟩,⟨it+158,aZ (L+158) i⟩,⟨L+158,aa xs el⟩] n t g [ρ] [0,2] (.fin (.again (.block [] (o4 w k fn cd (gf+158) (cI+158) (cS+158) (c1+158) (c2+158) (c3+158))))) [some ⟨gf+158,bm k ep K (L+158) b e' v'⟩,some ⟨L+158,aa xs el⟩] []:=by revert w;cases k<;>cases b<;>exact aT
theorem IX:ay (aG w 800) 20 default .base (aM (.block [] (o4 w k fn cd (gf+158) (cI+158) (cS+158) (c1+158) (c2+158) (c3+158)))) 0 [] n t g [] [] (.fin (.done .next)) [] []:=by revert w;cases k<;>exact aT
def rt:Nat:=0x3ff288a1000a1284a0
theorem La:ay (aG w 800) 50 default .base (aM (t9 w k fn cd (gf+158) (cI+158) (cS+158) (c1+158) (c2+158) (c3+158))) rt
 [⟨gf+158,bm k ep K (L+158) false e' v'⟩,⟨L+158,aa xs el⟩] n t g [] [0,1,2] (.call false default (f8 w k fn cd (gf+158) (cI+158) (cS+158) (c1+158) (c2+158) (c3+158) (n+158)) false)
 [some ⟨gf+158,bm k ep K (L+158) false e' v'⟩,some ⟨L+158,aa xs el⟩,some ⟨n+158,aZ (L+158) 0⟩] []:=by revert w;cases k<;>exact aT
def Lb (w:World) (k:f7) (fn cd gf cI cS c1 c2 c3 L:Nat) (xs:List Value) (el:Nat) (ep:Nat) (K:Nat->Int×Nat) (e':Nat) (v':Value) (n t g:Nat):Result->Sem Fin:=
 (bl (aG w 800) 50 default .base (aM (t9 w k fn cd (gf+158) (cI+158) (cS+158) (c1+158) (c2+158) (c3+158))) rt [⟨gf+158,bm k ep K (L+158) false e' v'⟩,⟨L+158,aa xs el⟩] n t g []).kont
theorem G3 (n' t' g'):ay (aG w 800) 20 default .base (Lb w k fn cd gf cI cS c1 c2 c3 L xs el ep K e' v' n t g (.ok .next)) 0 [] n' t' g' [] [] (.fin (.done (.ret .none))) [] []:=by revert w;cases k<;>exact aT
end
structure an where
 a:Nat
 d:Nat
 tv:Option (Str×Nat)
 ep:Nat
 K:Nat->Int×Nat
def an.D (t:an):Obj:=ee t.ep t.K (lp t.tv)
def an.ents (t:an):List ad:=[⟨t.a+158,dU (t.d+158)⟩,⟨t.d+158,t.D⟩]
def an.ref (t:an):Value:=.ref (t.a+158)
structure bc where
 k:f7
 fn:Nat
 cd:Nat
 gf:Nat
 cI:Nat
 cS:Nat
 c1:Nat
 c2:Nat
 c3:Nat
 sl:Nat
 L:Nat
 xs:List Value
 el:Nat
 x:Str
 y:Str
 tx:Nat
 ty:Nat
 ln:Int
 tl:Nat
namespace bc
variable (p:bc)
def code (w:World) (it:Nat):Code:=f8 w p.k p.fn p.cd (p.gf+158) (p.cI+158) (p.cS+158) (p.c1+158) (p.c2+158) (p.c3+158) (it+158)
def func (w:World):Code:=t9 w p.k p.fn p.cd (p.gf+158) (p.cI+158) (p.cS+158) (p.c1+158) (p.c2+158) (p.c3+158)
def env (w:World):Env:=o4 w p.k p.fn p.cd (p.gf+158) (p.cI+158) (p.cS+158) (p.c1+158) (p.c2+158) (p.c3+158)
def X:List ad:=v4 p.k p.cI p.cS p.c1 p.c2 p.c3 p.sl p.x p.y p.tx p.ty p.ln p.tl
def E (F:Obj) (it i:Nat) (t:an):List ad:=zC p.k F p.gf it p.L t.a t.d p.xs p.el i t.D p.X
def hits (t:Option (Str×Nat)):Bool:=match t with
 |none=>false
 |some z=>match p.k with
  |.any=>true
  |.plain=>match z.1.cps[0]? with
   |some c=>!(c==123)
   |none=>false
  |.suff=>match z.1.cps.toList==p.x.cps.toList with
   |true=>true
   |false=>(cut z.1 (some p.ln) none).cps.toList==p.y.cps.toList
  |.ns=>(cut z.1 none (some p.ln)).cps.toList==p.x.cps.toList
def _root_.Internal.tvFine (t:Option (Str×Nat)):Prop:=match t with
 |none=>True
 |some z=>z.1.length<=1000/\0<z.1.cps.size
end bc
def IY (w:World) (p:bc) (F:Obj) (it i:Nat) (t:an) (OE:Bool):Prop:=
 ∃(hs:List aq) (nh orc:Nat) (F':Nat->Nat->Nat->List HR->Obj),(∀f∈hs,ai w 900 f)/\(∀n J g rs,∃ep K v,F' n J g rs=bm p.k ep K (p.L+158) true (t.a+158) v)/\
  (∀n J g rs,rs.length=nh->ay (vL w 800 900 hs) 200 default .base (aM (p.code w it)) orc (p.E F it i t) n J g rs (vm p.k) (match OE with|true=>.yield t.ref|false=>.fin (.again (p.code w it))) ((p.E (F' n J g rs) it (i+1) t).map some) [])/\
  (OE=true->∀n J g rs n2 t2 g2,rs.length=nh->ay (aG w 800) 20 default .base ((bl (vL w 800 900 hs) 200 default .base (aM (p.code w it)) orc (p.E F it i t) n J g rs).kontY (.send .none)) 0 [] n2 t2 g2 [] [] (.fin (.again (p.code w it))) [] [])
def bc.F (p:bc) (w:World) (hs:List aq) (orc:Nat) (F:Obj) (it i:Nat) (t:an) (n J g:Nat) (rs:List HR):Obj:=
 bm p.k (bD ((bl (vL w 800 900 hs) 200 default .base (aM (p.code w it)) orc (p.E F it i t) n J g rs).obj 0)) (KO ((bl (vL w 800 900 hs) 200 default .base (aM (p.code w it)) orc (p.E F it i t) n J g rs).obj 0)) (p.L+158) true (t.a+158) (lp t.tv)
theorem qK {w} (h:z.cps[0]? =some c):ai w dh (eT z 0 c):=by
 refine nF (by decide) ?_;have J:0<z.cps.size:=by
  by_cases hz:0<z.cps.size
  .exact hz
  .rw[Array.getElem?_eq_none (Is hz)] at h;cases h
 have:seqIndex? 0 z.length=some 0:=by
  unfold seqIndex?;have:z.length≠0:=by have:0<z.length:=J;exact ka J
  simp[this]
 rw[this];exact h
theorem nG {w} (hl:z.length<=1000):ai w dh (bZ k sl z tz l u (cut z (l.map (·.1)) (u.map (·.1)))):=
 jd (nA z (tz+1) l u) (bC (iX _ _ _) (bC hl (by decide)))
theorem iY {w}:ai w dh (bn ⟨#[]⟩ 0):=hJ (by decide)
theorem fq {P:aq->Prop} (h:P a):∀f∈[a],P f:=by simpa using h
theorem IZ {P:aq->Prop} (h:P a) (J:P b) (h3:P c):∀f∈[a,b,c],P f:=by simp[h,J,h3]
theorem nH {P:aq->Prop} (h:P a) (J:P b) (h3:P c) (h4:P d):∀f∈[a,b,c,d],P f:=by simp[h,J,h3,h4]
theorem ua {P:aq->Prop} (h:P a) (J:P b) (h3:P c) (h4:P d) (h5:P e):∀f∈[a,b,c,d,e],P f:=by simp[h,J,h3,h4,h5]
section
variable {w:World}
theorem G4:∀p t {i it} (hi:p.xs[i]? =some t.ref) (hf:tvFine t.tv) {b ep K e' v'},IY w p (bm p.k ep K (p.L+158) b e' v') it i t (p.hits t.tv):=by
 revert w;ext w p t i it:0;intro hi hf;ext b ep K e' v':0;obtain⟨k,fn,cd,gf,cI,cS,c1,c2,c3,sl,L,xs,el,x,y,tx,ty,ln,tl⟩:=p;revert hi;ext k fn cd gf cI cS c1 c2 c3 sl L xs ⟨el,x,y,tx,ty,ln,tl⟩;ext el x y tx ty ln tl;intro hi;obtain⟨a,d,tv,epD,KD⟩:=t;ext a d tv epD KD ⟨hf,hi⟩;have hn:ai w 900 (az 1 (it+158) 2 (L+158) xs el i (.ref (a+158))):=c5 hi;generalize hP:(⟨k,fn,cd,gf,cI,cS,c1,c2,c3,sl,L,xs,el,x,y,tx,ty,ln,tl⟩:bc)=P;generalize hT:(⟨a,d,tv,epD,KD⟩:an)=T;cases tv with
 |none=>
  have hh:P.hits T.tv=false:=by subst hP hT;rfl
  rw[hh];cases k with
  |any=>
   subst hP hT;exact⟨[az 1 (it+158) 2 (L+158) xs el i (.ref (a+158))],1,v5,bc.F _ _ [az 1 (it+158) 2 (L+158) xs el i (.ref (a+158))] v5 (bm _ ep K (L+158) b e' v') it i _,fq hn,λn t g rs=>⟨_,_,_,rfl⟩,λn t g rs J=>by obtain⟨ρ,rfl⟩:=gR J;exact KS fn cd gf cI cS c1 c2 c3 sl it L a d xs el i epD KD ep K e' v' x y tx ty ln tl n t g ρ w b,nofun⟩
  |plain=>
   subst hP hT;exact⟨[az 1 (it+158) 2 (L+158) xs el i (.ref (a+158))],1,pe,bc.F _ _ [az 1 (it+158) 2 (L+158) xs el i (.ref (a+158))] pe (bm _ ep K (L+158) b e' v') it i _,fq hn,λn t g rs=>⟨_,_,_,rfl⟩,λn t g rs J=>by obtain⟨ρ,rfl⟩:=gR J;exact KY fn cd gf cI cS c1 c2 c3 sl it L a d xs el i epD KD ep K e' v' x y tx ty ln tl n t g ρ w b,nofun⟩
  |suff=>
   subst hP hT;exact⟨[az 1 (it+158) 2 (L+158) xs el i (.ref (a+158))],1,v7,bc.F _ _ [az 1 (it+158) 2 (L+158) xs el i (.ref (a+158))] v7 (bm _ ep K (L+158) b e' v') it i _,fq hn,λn t g rs=>⟨_,_,_,rfl⟩,λn t g rs J=>by obtain⟨ρ,rfl⟩:=gR J;exact K6 fn cd gf cI cS c1 c2 c3 sl it L a d xs el i epD KD ep K e' v' x y tx ty ln tl n t g ρ w b,nofun⟩
  |ns=>
   subst hP hT;exact⟨[az 1 (it+158) 2 (L+158) xs el i (.ref (a+158))],1,v9,bc.F _ _ [az 1 (it+158) 2 (L+158) xs el i (.ref (a+158))] v9 (bm _ ep K (L+158) b e' v') it i _,fq hn,λn t g rs=>⟨_,_,_,rfl⟩,λn t g rs J=>by obtain⟨ρ,rfl⟩:=gR J;exact K9 fn cd gf cI cS c1 c2 c3 sl it L a d xs el i epD KD ep K e' v' x y tx ty ln tl n t g ρ w b,nofun⟩
 |some z=>
  obtain⟨z,tz⟩:=z;ext z tz ⟨hf,hi,hT⟩;have hz:z.length<=1000/\0<z.cps.size:=by have:=hf;subst hT hP;exact this
  cases k with
  |any=>
   have hh:P.hits T.tv=true:=by subst hP hT;rfl
   rw[hh];subst hP hT;exact⟨[az 1 (it+158) 2 (L+158) xs el i (.ref (a+158))],1,o5,bc.F _ _ [az 1 (it+158) 2 (L+158) xs el i (.ref (a+158))] o5 (bm _ ep K (L+158) b e' v') it i _,fq hn,λn t g rs=>⟨_,_,_,rfl⟩,λn t g rs J=>by obtain⟨ρ,rfl⟩:=gR J;exact KR fn cd gf cI cS c1 c2 c3 sl it L a d xs el i epD KD ep K e' v' x y tx ty ln tl n t g z tz ρ w b,λU n t g rs n2 t2 g2 J=>by obtain⟨ρ,rfl⟩:=gR J;exact IR fn cd gf cI cS c1 c2 c3 sl it L a d xs el i epD KD ep K e' v' x y tx ty ln tl n t g z tz ρ n2 t2 g2 w b⟩
  |plain=>
   cases hc:z.cps[0]? with
   |none=>exact bh hc (by rw[Array.getElem?_eq_getElem hz.2];simp)
   |some c=>
    ext c ⟨hc⟩;have hh:P.hits T.tv= !(c==123):=by subst hP hT;dsimp only[bc.hits];simp only[hc]
    rw[hh];cases h3:c==123 with
    |true=>
     subst hP hT;exact⟨[az 1 (it+158) 2 (L+158) xs el i (.ref (a+158)),eT z 0 c,dm ⟨#[c]⟩ ⟨#[123]⟩ false],2,r2,bc.F _ _ [az 1 (it+158) 2 (L+158) xs el i (.ref (a+158)),eT z 0 c,dm ⟨#[c]⟩ ⟨#[123]⟩ false] r2 (bm _ ep K (L+158) b e' v') it i _,IZ hn (qK hc) (f6 (by simp at h3;subst h3;rfl)),λn t g rs=>⟨_,_,_,rfl⟩,λn t g rs J=>by obtain⟨ρ,OE,rfl⟩:=iJ J;exact KV fn cd gf cI cS c1 c2 c3 sl it L a d xs el i epD KD ep K e' v' x y tx ty ln tl n t g z tz ρ OE c w b,nofun⟩
    |false=>
     subst hP hT;exact⟨[az 1 (it+158) 2 (L+158) xs el i (.ref (a+158)),eT z 0 c,dm ⟨#[c]⟩ ⟨#[123]⟩ true],2,m5,bc.F _ _ [az 1 (it+158) 2 (L+158) xs el i (.ref (a+158)),eT z 0 c,dm ⟨#[c]⟩ ⟨#[123]⟩ true] m5 (bm _ ep K (L+158) b e' v') it i _,IZ hn (qK hc) (f6 (by simp at h3;simp[h3])),λn t g rs=>⟨_,_,_,rfl⟩,λn t g rs J=>by obtain⟨ρ,OE,rfl⟩:=iJ J;exact KU fn cd gf cI cS c1 c2 c3 sl it L a d xs el i epD KD ep K e' v' x y tx ty ln tl n t g z tz ρ OE c w b,λU n t g rs n2 t2 g2 J=>by obtain⟨ρ,OE,rfl⟩:=iJ J;exact IS fn cd gf cI cS c1 c2 c3 sl it L a d xs el i epD KD ep K e' v' x y tx ty ln tl n t g z tz ρ OE c n2 t2 g2 w b⟩
  |suff=>
   cases h1:z.cps.toList==x.cps.toList with
   |true=>
    have hh:P.hits T.tv=true:=by subst hP hT;dsimp only[bc.hits];simp only[h1]
    rw[hh];subst hP hT;exact⟨[az 1 (it+158) 2 (L+158) xs el i (.ref (a+158)),bn ⟨#[]⟩ 0,bn ⟨#[]⟩ 0,aF z x true],1,m6,bc.F _ _ [az 1 (it+158) 2 (L+158) xs el i (.ref (a+158)),bn ⟨#[]⟩ 0,bn ⟨#[]⟩ 0,aF z x true] m6 (bm _ ep K (L+158) b e' v') it i _,nH hn iY iY (aO h1),λn t g rs=>⟨_,_,_,rfl⟩,λn t g rs J=>by obtain⟨ρ,rfl⟩:=gR J;exact KZ fn cd gf cI cS c1 c2 c3 sl it L a d xs el i epD KD ep K e' v' x y tx ty ln tl n t g z tz ρ w b,λU n t g rs n2 t2 g2 J=>by obtain⟨ρ,rfl⟩:=gR J;exact IT fn cd gf cI cS c1 c2 c3 sl it L a d xs el i epD KD ep K e' v' x y tx ty ln tl n t g z tz ρ n2 t2 g2 w b⟩
   |false=>
    have hh:P.hits T.tv=((cut z (some ln) none).cps.toList==y.cps.toList):=by subst hP hT;dsimp only[bc.hits];simp only[h1]
    rw[hh];cases h2:(cut z (some ln) none).cps.toList==y.cps.toList with
    |true=>
     subst hP hT;exact⟨[az 1 (it+158) 2 (L+158) xs el i (.ref (a+158)),bZ 10 (sl+158) z tz (some (ln,tl)) none (cut z (some ln) none),bn ⟨#[]⟩ 0,aF z x false,aF (cut z (some ln) none) y true],2,pf,bc.F _ _ [az 1 (it+158) 2 (L+158) xs el i (.ref (a+158)),bZ 10 (sl+158) z tz (some (ln,tl)) none (cut z (some ln) none),bn ⟨#[]⟩ 0,aF z x false,aF (cut z (some ln) none) y true] pf (bm _ ep K (L+158) b e' v') it i _,ua hn (nG (l:=some (ln,tl)) (u:=none) hz.1) iY (aO h1) (aO h2),λn t g rs=>⟨_,_,_,rfl⟩,λn t g rs J=>by obtain⟨ρ,OE,rfl⟩:=iJ J;exact K0 fn cd gf cI cS c1 c2 c3 sl it L a d xs el i epD KD ep K e' v' x y tx ty ln tl n t g z tz ρ OE (cut z (some ln) none) w b,λU n t g rs n2 t2 g2 J=>by obtain⟨ρ,OE,rfl⟩:=iJ J;exact IU fn cd gf cI cS c1 c2 c3 sl it L a d xs el i epD KD ep K e' v' x y tx ty ln tl n t g z tz ρ OE (cut z (some ln) none) n2 t2 g2 w b⟩
    |false=>
     subst hP hT;exact⟨[az 1 (it+158) 2 (L+158) xs el i (.ref (a+158)),bZ 10 (sl+158) z tz (some (ln,tl)) none (cut z (some ln) none),bn ⟨#[]⟩ 0,aF z x false,aF (cut z (some ln) none) y false],2,v6,bc.F _ _ [az 1 (it+158) 2 (L+158) xs el i (.ref (a+158)),bZ 10 (sl+158) z tz (some (ln,tl)) none (cut z (some ln) none),bn ⟨#[]⟩ 0,aF z x false,aF (cut z (some ln) none) y false] v6 (bm _ ep K (L+158) b e' v') it i _,ua hn (nG (l:=some (ln,tl)) (u:=none) hz.1) iY (aO h1) (aO h2),λn t g rs=>⟨_,_,_,rfl⟩,λn t g rs J=>by obtain⟨ρ,OE,rfl⟩:=iJ J;exact K5 fn cd gf cI cS c1 c2 c3 sl it L a d xs el i epD KD ep K e' v' x y tx ty ln tl n t g z tz ρ OE (cut z (some ln) none) w b,nofun⟩
  |ns=>
   have hh:P.hits T.tv=((cut z none (some ln)).cps.toList==x.cps.toList):=by subst hP hT;rfl
   rw[hh];cases h2:(cut z none (some ln)).cps.toList==x.cps.toList with
   |true=>
    subst hP hT;exact⟨[az 1 (it+158) 2 (L+158) xs el i (.ref (a+158)),bZ 9 (sl+158) z tz none (some (ln,tl)) (cut z none (some ln)),bn ⟨#[]⟩ 0,aF (cut z none (some ln)) x true,aF (cut z none (some ln)) x true],2,pg,bc.F _ _ [az 1 (it+158) 2 (L+158) xs el i (.ref (a+158)),bZ 9 (sl+158) z tz none (some (ln,tl)) (cut z none (some ln)),bn ⟨#[]⟩ 0,aF (cut z none (some ln)) x true,aF (cut z none (some ln)) x true] pg (bm _ ep K (L+158) b e' v') it i _,ua hn (nG (l:=none) (u:=some (ln,tl)) hz.1) iY (aO h2) (aO h2),λn t g rs=>⟨_,_,_,rfl⟩,λn t g rs J=>by obtain⟨ρ,OE,rfl⟩:=iJ J;exact K7 fn cd gf cI cS c1 c2 c3 sl it L a d xs el i epD KD ep K e' v' x y tx ty ln tl n t g z tz ρ OE (cut z none (some ln)) w b,λU n t g rs n2 t2 g2 J=>by obtain⟨ρ,OE,rfl⟩:=iJ J;exact IV fn cd gf cI cS c1 c2 c3 sl it L a d xs el i epD KD ep K e' v' x y tx ty ln tl n t g z tz ρ OE (cut z none (some ln)) n2 t2 g2 w b⟩
   |false=>
    subst hP hT;exact⟨[az 1 (it+158) 2 (L+158) xs el i (.ref (a+158)),bZ 9 (sl+158) z tz none (some (ln,tl)) (cut z none (some ln)),bn ⟨#[]⟩ 0,aF (cut z none (some ln)) x false,aF (cut z none (some ln)) x false],2,v8,bc.F _ _ [az 1 (it+158) 2 (L+158) xs el i (.ref (a+158)),bZ 9 (sl+158) z tz none (some (ln,tl)) (cut z none (some ln)),bn ⟨#[]⟩ 0,aF (cut z none (some ln)) x false,aF (cut z none (some ln)) x false] v8 (bm _ ep K (L+158) b e' v') it i _,ua hn (nG (l:=none) (u:=some (ln,tl)) hz.1) iY (aO h2) (aO h2),λn t g rs=>⟨_,_,_,rfl⟩,λn t g rs J=>by obtain⟨ρ,OE,rfl⟩:=iJ J;exact K8 fn cd gf cI cS c1 c2 c3 sl it L a d xs el i epD KD ep K e' v' x y tx ty ln tl n t g z tz ρ OE (cut z none (some ln)) w b,nofun⟩
end
theorem bu.keepBut {kt:KT} {s s':Shared} {l l':List ad} {ng} (D:bu kt s s' (l.map (·.a)) (l'.map some) ng) (H:aQ s l) {C:List Nat} (h:∀f∈l,f.a∈C\/f∈l') (a:Nat) (o:Obj) (g:s.heap.get? a=some o) (n:a∉C):s'.heap.get? a=some o:=by
 by_cases J:a∈l.map (·.a)
 .obtain⟨f,hf,rfl⟩:=cT.mp J;have:=(H f hf).symm.trans g;cases this;rcases h f hf with q|q
  .exact bh q n
  .exact D.sel f (jv q)
 .exact D.keep a o g J
structure fj (B gf:Nat) (s s':Shared):Prop where
 more:s.heap.objs.size<=s'.heap.objs.size
 tmore:s.toks<=s'.toks
 drawn:ij s'=ij s
 os:s'.os=s.os
 keep:∀(a:Nat) o,a<B->a≠gf+158->s.heap.get? a=some o->s'.heap.get? a=some o
 gkeep:∀(k:Nat) (x:GenState),s.gens[k]? =some x->s'.gens[k]? =some x
theorem fj.trans {B gf} (h:fj B gf s s') (J:fj B gf s' s''):fj B gf s s'':=
 ⟨bC h.more J.more,bC h.tmore J.tmore,J.drawn.trans h.drawn,J.os.trans h.os,λa o l n x=>J.keep a o l n (h.keep a o l n x),λk x y=>J.gkeep k x (h.gkeep k x y)⟩
theorem bu.keepF {kt:KT} {s s':Shared} {l l':List ad} {ng} (D:bu kt s s' (l.map (·.a)) (l'.map some) ng) (H:aQ s l) {B gf:Nat} (h:∀f∈l,(f.a=gf+158\/B<=f.a)\/f∈l'):fj B gf s s':=
 ⟨D.more,D.tmore,D.drawn,D.os,λa o h1 h2 g=>D.keepBut H (C:=(l.map (·.a)).filter (λa=>a==gf+158||decide (B<=a))) (λf J=>(h f J).imp (λq=>by
   refine List.mem_filter.mpr ⟨jv J,?_⟩;rcases q with q|q<;>simp[q]) id) a o g (λq=>by
   have:=(List.mem_filter.mp q).2;simp at this;lia),D.gkeep⟩
section
variable {w:World} {A:Around} (hA:aL 780 A) (p:bc) (ts:List an) (B it:Nat)
def bc.P (p:bc) (ts:List an):List ad:=⟨p.L+158,aa p.xs p.el⟩::(p.X++ts.flatMap an.ents)
def bc.items (p:bc) (ts:List an):List an:=ts.filter λt=>p.hits t.tv
def YF (w:World) (p:bc) (ts:List an) (B:Nat):Protocol:=λm s₀ v J k=>
 ∃t,(p.items ts)[(p.items ts).length - 1 - m]? =some t/\v=t.ref/\fj B p.gf s₀ J/\aK w J/\∃l,aQ J l/\(∀e∈l,e.a=p.gf+158\/B<=e.a)/\∀OE,aK w OE->aQ OE l->aQ OE (p.P ts)->k (.send .none) OE
def RF (w:World) (p:bc) (B:Nat):GenEnd:=λn s₀ r J=>r=.ok (.ret .none)/\(λn s₀ J=>n=0/\fj B p.gf s₀ J/\aK w J) n s₀ J
structure wb (p:bc) (ts:List an) (B:Nat):Prop where
 b:158<=B
 gf:p.gf+158<B
 xs:p.xs=ts.map an.ref
 fine:∀t∈ts,tvFine t.tv
 pl:∀e∈p.P ts,e.a<B/\e.a≠p.gf+158/\158<=e.a
 fit:∀t∈ts,(aC (⟨p.L+158,aa p.xs p.el⟩::(t.ents++p.X))).Nodup
theorem wb.fitE {p:bc} {ts:List an} {B:Nat} (G:wb p ts B) {t:an} (ht:t∈ts) {F:Obj} {it i:Nat} (hit:B<=it+158):aj (p.E F it i t):=by
 ext p ts B t F it i ⟨G,ht,hit⟩;have J:∀e∈(⟨p.L+158,aa p.xs p.el⟩::(t.ents++p.X):List ad),e∈p.P ts:=λe he=>by
  unfold bc.P;rcases aY.mp he with rfl|he
  .exact .head _
  .refine .tail _ ?_;rcases dk.mp he with he|he
   .exact fJ _ (iQ.mpr ⟨t,ht,he⟩)
   .exact gO _ he
 have e:p.E F it i t=⟨p.gf+158,F⟩::⟨it+158,aZ (p.L+158) i⟩::(⟨p.L+158,aa p.xs p.el⟩::(t.ents++p.X)):=rfl;rw[e];have hp:(⟨p.L+158,aa p.xs p.el⟩::(t.ents++p.X):List ad).Pairwise λe f=>e.a≠f.a:=mT.mp (G.fit t ht);refine⟨lP.mpr ⟨λf hf=>?_,lP.mpr ⟨λf hf=>?_,hp⟩⟩,λf hf=>?_⟩
 .rcases aY.mp hf with rfl|hf
  .have:=G.gf;show p.gf+158≠it+158;exact ld (au (ax hit this))
  .exact λq=>(G.pl f (J f hf)).2.1 q.symm
 .have:=(G.pl f (J f hf)).1;show it+158≠f.a;exact ka (au (ax hit this))
 .rcases aY.mp hf with rfl|hf
  .exact .inl (bN _ _)
  .rcases aY.mp hf with rfl|hf
   .exact .inl (bN _ _)
   .exact .inl (G.pl f (J f hf)).2.2
theorem BA (w:World) (p:bc) (it:Nat):bq (p.code w it):=by
 obtain⟨k,fn,cd,gf,cI,cS,c1,c2,c3,sl,L,xs,el,x,y,tx,ty,ln,tl⟩:=p;cases k<;>exact ba rfl
theorem kv (w:World) (p:bc):bq (p.func w):=ba rfl
theorem uR (w:World) (p:bc) (it:Nat):(p.code w it).quiet=true:=by
 obtain⟨k,fn,cd,gf,cI,cS,c1,c2,c3,sl,L,xs,el,x,y,tx,ty,ln,tl⟩:=p;cases k<;>exact aX rfl
theorem ub (w:World) (p:bc) (it:Nat):(model pw w).den (p.code w it)=aM (p.code w it):=by
 show denote table _=_;rw[<-fU];obtain⟨k,fn,cd,gf,cI,cS,c1,c2,c3,sl,L,xs,el,x,y,tx,ty,ln,tl⟩:=p;cases k<;>rfl
end
theorem DM {α:Type} {l r:List α} {a:α} (h:l.drop i=a::r):l[i]? =some a/\l.drop (i+1)=r:=by
 constructor
 .have h:=congrArg (·[0]?) h;simpa using h
 .have h:=congrArg (List.drop 1) h;simpa[List.drop_drop] using h
section
variable {w:World} {A:Around} (hA:aL 780 A) {p:bc} {ts:List an} {B it:Nat} (G:wb p ts B) (hit:B<=it+158)
include hA G hit
set_option tactic.hygienic true in
theorem DN:∀{kX} (hX:∀n t g,ay (aG w 800) 20 default .base (kX (.ok .next)) 0 [] n t g [] [] (.fin (.done (.ret .none))) [] []) {lv pp},∀rest i b ep K e' v' s₀ s OE,p.items ts=OE++rest.filter (λt:an=>p.hits t.tv)->ts.drop i=rest->aK w s->fj B p.gf s₀ s->
  aQ s [⟨p.gf+158,bm p.k ep K (p.L+158) b e' v'⟩,⟨it+158,aZ (p.L+158) i⟩]->aQ s (p.P ts)->
  Seg (model pw w) A (RF w p B) (YF w p ts B) (rest.filter (λt:an=>p.hits t.tv)).length s₀ (p.code w it) (aM (p.code w it)) [.ret kX none false lv (p.func w) pp []] s:=by
 revert w A p ts B it;ext w A:0;intro hA;ext p ts B it:0;intro G hit;ext kX:0;intro hX;ext lv pp:0;intro rest;have OJ:aL 800 (A.over (p.code w it) [.ret kX none false lv (p.func w) pp []]):=(iu hA (BA _ _ _) (kv _ _)).mono (bN _ _);have OV:p.L+158≠p.gf+158:=(G.pl _ aJ).2.1;have OW:p.L+158<B:=(G.pl _ aJ).1;have OX:=G.gf;induction rest with
 |nil=>
  intro i b ep K e' v' s₀ s OE J hr T hk hh hP;ext i b ep K e' v' s₀ s OE ⟨J,hr,T,hk,hh,hP⟩;have hF:=hh _ aJ;have hI:=hh _ cy;have hL:=hP _ aJ;have hx:p.xs[i]? =none:=by
   rw[G.xs];have:=List.drop_eq_nil_iff.mp hr;simpa using this
  have H3:aQ s [⟨p.gf+158,bm p.k ep K (p.L+158) b e' v'⟩,⟨it+158,aZ (p.L+158) i⟩,⟨p.L+158,aa p.xs p.el⟩]:=jB hF hI hL;have F3:aj [⟨p.gf+158,bm p.k ep K (p.L+158) b e' v'⟩,⟨it+158,aZ (p.L+158) i⟩,⟨p.L+158,aa p.xs p.el⟩]:=jD (by simp) (by simp;lia);refine eO λ_ k_=>?_;obtain⟨n,t,g,S⟩:=T.st H3 F3;refine k_ ?_;refine eP (v:=vL w 800 900 [dG 1 (it+158) 2 (p.L+158) p.xs p.el i]) (B:=λtr s=>Seg (model pw w) A (RF w p B) (YF w p ts B) (([]:List an).filter (λt:an=>p.hits t.tv)).length s₀ (p.code w it) tr [.ret kX none false lv (p.func w) pp []] s)
   (bE (fq (fF hx))) OJ S (λm k s h=>cA m k s h) 1 _ _ _ (λ_=>.fin (.again (.block [] (p.env w)))) (λ_=>[some ⟨p.gf+158,bm p.k ep K (p.L+158) b e' v'⟩,some ⟨p.L+158,aa p.xs p.el⟩]) (λ_=>[])
   (λr=>IW w p.k p.fn p.cd p.gf p.cI p.cS p.c1 p.c2 p.c3 it p.L p.xs p.el i b ep K e' v' n t g (r 0)) λr s1 D _=>?_
  have T1:=D.topS T;have k1:fj B p.gf s s1:=D.keepF (l':=[⟨p.gf+158,bm p.k ep K (p.L+158) b e' v'⟩,⟨p.L+158,aa p.xs p.el⟩]) H3 λf hf=>by
   simp only[aY,bS,bT] at hf;rcases hf with rfl|rfl|rfl
   .exact .inl (.inl rfl)
   .exact .inl (.inr hit)
   .exact .inr cy
  refine seg_again (aX rfl) ?_;show Seg _ _ _ _ _ _ (.block [] (p.env w)) (denote table (.block [] (p.env w))) _ _;rw[<-fU];have OT:aL 800 (A.over (.block [] (p.env w)) [.ret kX none false lv (p.func w) pp []]):=(iu hA (ba rfl) (kv _ _)).mono (bN _ _);refine eO λ_ k_=>?_;obtain⟨n2,t2,g2,S2⟩:=T1.st (l:=[]) (λ_ h=>nomatch h) cj;refine k_ ?_;refine eP (v:=aG w 800) (B:=λtr s=>Seg (model pw w) A (RF w p B) (YF w p ts B) (([]:List an).filter (λt:an=>p.hits t.tv)).length s₀ (.block [] (p.env w)) tr [.ret kX none false lv (p.func w) pp []] s)
   (bx _) OT S2 (λm k s h=>cA m k s h) 0 20 0 [] (λ_=>.fin (.done .next)) (λ_=>[]) (λ_=>[])
   (λ_=>IX w p.k p.fn p.cd p.gf p.cI p.cS p.c1 p.c2 p.c3 n2 t2 g2) λr s2 D2 _=>?_
  have T2:=D2.topS T1;have k2:fj B p.gf s1 s2:=D2.keepF (l:=[]) (l':=[]) (λ_ h=>nomatch h) λf hf=>nomatch hf
  refine seg_leaf (.ok .next) ?_;have OU:aL 800 (A.over (p.func w) []):=(jP hA (kv _ _)).mono (bN _ _);refine eO λ_ k_=>?_;obtain⟨n3,t3,g3,S3⟩:=T2.st (l:=[]) (λ_ h=>nomatch h) cj;refine k_ ?_;refine eP (v:=aG w 800) (B:=λtr s=>Seg (model pw w) A (RF w p B) (YF w p ts B) (([]:List an).filter (λt:an=>p.hits t.tv)).length s₀ (p.func w) tr [] s)
   (bx _) OU S3 (λm k s h=>cA m k s h) 0 20 0 [] (λ_=>.fin (.done (.ret .none))) (λ_=>[]) (λ_=>[])
   (λ_=>hX n3 t3 g3) λr s3 D3 _=>?_
  have k3:fj B p.gf s2 s3:=D3.keepF (l:=[]) (l':=[]) (λ_ h=>nomatch h) λf hf=>nomatch hf
  exact seg_end (.ok (.ret .none)) ⟨rfl,rfl,hk.trans (k1.trans (k2.trans k3)),D3.topS T2⟩
 |cons th r ih=>
  ext th r ⟨ih⟩;intro i b ep K e' v' s₀ s OE J hr T hk hh hP;ext i b ep K e' v' s₀ s OE ⟨J,hr,T,hk,hh,hP⟩;obtain⟨hi,OQ⟩:=DM hr;have ON:th∈ts:=List.mem_of_getElem? hi;have hx:p.xs[i]? =some th.ref:=by rw[G.xs];simp[hi]
  have HE:aQ s (p.E (bm p.k ep K (p.L+158) b e' v') it i th):=λe he=>by
   have e0:p.E (bm p.k ep K (p.L+158) b e' v') it i th=⟨p.gf+158,bm p.k ep K (p.L+158) b e' v'⟩::⟨it+158,aZ (p.L+158) i⟩::(⟨p.L+158,aa p.xs p.el⟩::(th.ents++p.X)):=rfl;rw[e0] at he;rcases aY.mp he with rfl|he
   .exact hh _ aJ
   .rcases aY.mp he with rfl|he
    .exact hh _ cy
    .refine hP _ ?_;unfold bc.P;rcases aY.mp he with rfl|he
     .exact .head _
     .refine .tail _ ?_;rcases dk.mp he with he|he
      .exact fJ _ (iQ.mpr ⟨th,ON,he⟩)
      .exact gO _ he
  refine eO λ_ k_=>?_;rename_i OP;ext OP ⟨k_⟩;obtain⟨n,t,g,S⟩:=T.st HE (G.fitE ON hit);ext n t g ⟨S⟩;refine k_ ?_;refine eO λ_ k_=>?_;rename_i OO;ext OO ⟨k_⟩;obtain⟨hs,nh,orc,F',OM,OL,OF,OI⟩:=G4 (w:=w) p th (it:=it) hx (G.fine th ON) (b:=b) (ep:=ep) (K:=K) (e':=e') (v':=v');ext hs nh orc F' ⟨OM,OL,OF,OI⟩;refine k_ ?_;have OH:∀{s1 rs} {ng},bu (kt w) s s1 (aC (p.E (bm p.k ep K (p.L+158) b e' v') it i th)) ((p.E (F' n t g rs) it (i+1) th).map some) ng->aK w s1/\fj B p.gf s s1/\
    aQ s1 [⟨p.gf+158,F' n t g rs⟩,⟨it+158,aZ (p.L+158) (i+1)⟩]/\aQ s1 (p.P ts):=λ{s1 rs ng} D=>by
   have OR:∀f∈p.E (bm p.k ep K (p.L+158) b e' v') it i th,(f.a=p.gf+158\/f.a=it+158)\/f∈p.E (F' n t g rs) it (i+1) th:=λf hf=>by
    rcases aY.mp hf with rfl|hf
    .exact .inl (.inl rfl)
    .rcases aY.mp hf with rfl|hf
     .exact .inl (.inr rfl)
     .exact .inr (.tail _ (.tail _ hf))
   have H1:=D.has;have OS:=D.keepBut HE (C:=[p.gf+158,it+158]) λf hf=>(OR f hf).imp (λq=>by simpa using q) id;refine⟨D.topS T,D.keepF HE λf hf=>(OR f hf).imp (λq=>q.imp id λq=>by rw[q];exact hit) id,mC (H1 _ aJ) (H1 _ cy),λe he=>OS _ _ (hP e he) ?_⟩;have z:=G.pl e he;simp only[aY,bS,bT];lia
  cases hq:p.hits th.tv with
  |false=>
   rw[hq] at OF;have hf:(th::r).filter (λt:an=>p.hits t.tv)=r.filter (λt:an=>p.hits t.tv):=by simp[hq]
   rw[hf] at J|-;refine di (v:=vL w 800 900 hs) (B:=λtr s=>Seg (model pw w) A (RF w p B) (YF w p ts B) (r.filter (λt:an=>p.hits t.tv)).length s₀ (p.code w it) tr [.ret kX none false lv (p.func w) pp []] s)
    (bE OM) OJ S (λm k s h=>cA m k s h) nh 200 orc (vm p.k) (λ_=>.fin (.again (p.code w it))) (λrs=>(p.E (F' n t g rs) it (i+1) th).map some) (λ_=>[]) (λrs OG=>OF n t g rs OG) λrs s1 OG D=>?_
   refine eO λ_ k_=>?_;obtain⟨T1,k1,h1,P1⟩:=OH D;refine k_ ?_;refine seg_again (uR _ _ _) ?_;rw[ub];refine eO λ_ k_=>?_;obtain⟨OK,K2,v2,e2⟩:=OL n t g rs;refine k_ ?_;rw[e2] at h1;exact ih (i+1) true OK K2 (th.a+158) v2 s₀ s1 OE J OQ T1 (hk.trans k1) h1 P1
  |true=>
   rw[hq] at OF OI;have hf:(th::r).filter (λt:an=>p.hits t.tv)=th::r.filter (λt:an=>p.hits t.tv):=by simp[hq]
   rw[hf] at J|-;show Seg _ _ _ _ ((r.filter (λt:an=>p.hits t.tv)).length+1) _ _ _ _ _;refine di (v:=vL w 800 900 hs) (B:=λtr s=>Seg (model pw w) A (RF w p B) (YF w p ts B) ((r.filter (λt:an=>p.hits t.tv)).length+1) s₀ (p.code w it) tr [.ret kX none false lv (p.func w) pp []] s)
    (bE OM) OJ S (λm k s h=>cA m k s h) nh 200 orc (vm p.k) (λ_=>.yield th.ref) (λrs=>(p.E (F' n t g rs) it (i+1) th).map some) (λ_=>[]) (λrs OG=>OF n t g rs OG) λrs s1 OG D=>?_
   ext rs s1 ⟨OG,D⟩;refine eO λ_ k_=>?_;obtain⟨T1,k1,h1,P1⟩:=OH D;refine k_ ?_;intro l';refine seg_yield rfl rfl rfl ⟨th,?_,rfl,hk.trans k1,T1,_,h1,λe he=>?_,λs2 T2 H2 P2=>?_⟩
   .rw[J];have:(OE++th::r.filter (λt:an=>p.hits t.tv)).length - 1 - (r.filter (λt:an=>p.hits t.tv)).length=OE.length:=by simp only[eh,fu];exact Bj
    rw[this];simp
   .simp only[aY,bS,bT] at he;rcases he with rfl|rfl
    .exact .inl rfl
    .exact .inr hit
   .refine eO λ_ k_=>?_;obtain⟨n2,t2,g2,S2⟩:=T2.st (l:=[]) (λ_ h=>nomatch h) cj;refine k_ ?_;refine eP (v:=aG w 800) (B:=λtr s=>Seg (model pw w) A (RF w p B) (YF w p ts B) (r.filter (λt:an=>p.hits t.tv)).length s2 (p.code w it) tr [.ret kX none false lv (p.func w) pp []] s)
     (bx _) OJ S2 (λm k s h=>cA m k s h) 0 20 0 [] (λ_=>.fin (.again (p.code w it))) (λ_=>[]) (λ_=>[])
     (λ_=>OI rfl n t g rs n2 t2 g2 OG) λr s3 D3 _=>?_
    have k3:fj B p.gf s2 s3:=D3.keepF (l:=[]) (l':=[]) (λ_ h=>nomatch h) λf hf=>nomatch hf
    have kk:∀{l},aQ s2 l->aQ s3 l:=λH e he=>D3.keep _ _ (H e he) (λh=>nomatch h);refine seg_again (uR _ _ _) ?_;rw[ub];refine eO λ_ k_=>?_;obtain⟨OK,K2,v2,e2⟩:=OL n t g rs;refine k_ ?_;rw[e2] at H2;exact ih (i+1) true OK K2 (th.a+158) v2 s2 s3 (OE++[th]) (by rw[J];simp) OQ (D3.topS T2) k3 (kk H2) (kk P2)
end
section
variable {w:World} {A:Around} (hA:aL 780 A) {p:bc} {ts:List an} {B:Nat} (G:wb p ts B)
include hA G
theorem BB:∀{ep K s} (hB:B<=s.heap.objs.size) (T:aK w s) (J:s.heap.get? (p.gf+158)=some (bm p.k ep K (p.L+158) false 0 .none)) (hP:aQ s (p.P ts)),Seg (model pw w) A (RF w p B) (YF w p ts B) (p.items ts).length s (p.func w) ((model pw w).den (p.func w)) [] s:=by
 revert w A p ts B;ext w A:0;intro hA;ext p ts B:0;intro G;ext ep K s:0;intro hB T J hP;have OH:aL 800 (A.over (p.func w) []):=(jP hA (kv _ _)).mono (bN _ _);have hL:=hP _ aJ;have OF:p.L+158≠p.gf+158:=(G.pl _ aJ).2.1;have H2:aQ s [⟨p.gf+158,bm p.k ep K (p.L+158) false 0 .none⟩,⟨p.L+158,aa p.xs p.el⟩]:=mC J hL;obtain⟨n,t,g,S⟩:=T.st H2 (rj (bN _ _) (bN _ _) (Ne.symm OF));ext n t g ⟨S⟩;have OI:s.heap.objs.size=n+158:=S.size;show Seg _ _ _ _ _ _ _ (denote table (p.func w)) _ _;rw[<-fU];refine di (c:=default) (v:=aG w 800) (B:=λtr s'=>Seg (model pw w) A (RF w p B) (YF w p ts B) (p.items ts).length s (p.func w) tr [] s')
  (bx _) OH S (λm k s h=>cA m k s h) 0 50 rt [0,1,2] (λU=>.call false default (p.code w n) false)
  (λU=>[some ⟨p.gf+158,bm p.k ep K (p.L+158) false 0 .none⟩,some ⟨p.L+158,aa p.xs p.el⟩,some ⟨n+158,aZ (p.L+158) 0⟩]) (λU=>[])
  (λrs OE=>by obtain rfl:=dI.mp OE;exact La w p.k p.fn p.cd p.gf p.cI p.cS p.c1 p.c2 p.c3 p.L p.xs p.el ep K 0 .none n t g) λrs s1 OE D=>?_
 obtain rfl:=dI.mp OE;intro l';have k1:fj B p.gf s s1:=D.keepF (l':=[⟨p.gf+158,bm p.k ep K (p.L+158) false 0 .none⟩,⟨p.L+158,aa p.xs p.el⟩,⟨n+158,aZ (p.L+158) 0⟩]) H2 λf J=>by
  simp only[aY,bS,bT] at J;rcases J with rfl|rfl
  .exact .inl (.inl rfl)
  .exact .inr cy
 have OG:=D.keepBut (l':=[⟨p.gf+158,bm p.k ep K (p.L+158) false 0 .none⟩,⟨p.L+158,aa p.xs p.el⟩,⟨n+158,aZ (p.L+158) 0⟩]) H2 (C:=[]) λf J=>.inr (by
  simp only[aY,bS,bT] at J;rcases J with rfl|rfl
  .exact .head _
  .exact cy)
 have P1:aQ s1 (p.P ts):=λe he=>OG _ _ (hP e he) (λh=>nomatch h);refine seg_call λpp=>?_;rw[ub];exact DN (p:=p) (it:=n) hA G ((au (ax hB (fk OI)))) (λn' t' g'=>G3 w p.k p.fn p.cd p.gf p.cI p.cS p.c1 p.c2 p.c3 p.L p.xs p.el ep K 0 .none n t g n' t' g') ts 0 false ep K 0 .none s s1 [] rfl rfl (D.topS T) k1 (mC (D.sel _ aJ) (D.sel _ gr)) P1
end
section
open Builtin.Str (strSliceIndices glued tooLong)
def pv:Option Int->Nat->Value
 |none,_=>.none
 |some i,t=>.int i t
def BC (l:Option Int) (t:Nat):Option (Int×Nat):=l.map λi=>(i,t)
theorem FM (l t):pv l t=partValue (BC l t):=by cases l<;>rfl
def eU (k:Nat) (x:Str) (l u:Option Int) (y:Str):aq:=λc J=>some ⟨[(k,dP J k,li (pv l (cq (gy (dQ J k) 0))) (pv u (cq (gy (dQ J k) 1))))],[(c,.call (.builtin "str.__getitem__") ⟨[.str x (dF (bI c 0)+1),.ref (dP J k)],[]⟩)],jc y⟩
theorem BD:∀{w A s dh x l u y} (hy:y=cut x l u) (hl:x.length<=1000) (hA:aL dh A) (hT:aK w s) tx sl J t2 (ho:s.heap.get? sl=some (li (pv l J) (pv u t2))),(jc y).ok (model pw w) A (.call (.builtin "str.__getitem__") ⟨[.str x (tx+1),.ref sl],[]⟩) s:=by
 ext w A s dh x l u y:0;intro hy hl hA hT;ext tx sl J t2:0;intro ho;rw[FM,FM] at ho;have hc:=nA x (tx+1) (BC l J) (BC u t2);rw[show(BC l J).map (·.1)=l from by cases l<;>rfl,show(BC u t2).map (·.1)=u from by cases u<;>rfl,<-hy] at hc;have H:=jd (w:=w) (dh:=dh) (k:=0) (sl:=sl) hc (bC (by rw[hy];exact iX _ _ _) (bC hl (by decide)));exact H (.call (.builtin "str.__getitem__") ⟨[.str x (tx+1),.ref sl],[]⟩) (λU=>none) _ rfl (λp hp=>by cases hp with|head=>rfl|tail _ h=>cases h) A s hA hT (λq hq=>by cases hq with|head=>exact ho|tail _ h=>cases h)
theorem dC (hy:y=cut x l u) (hl:x.length<=1000):ai w dh (eU k x l u y):=bj λc lk A s hA hT J=>BD hy hl hA hT _ _ _ _ (J _ aJ)
def r3 (x:Str):aq:=λc _=>some ⟨[],[(c,.call (.builtin "len") ⟨[.str x (dF (bI c 0)+1)],[]⟩)],.pure 2 λt=>.ok (.ret (.int (x.cps.size:Int) (t+1)))⟩
theorem G5:∀{w A s x tx} (h:(x.length:Int)<2^63),(gL.pure 2 λt=>.ok (.ret (.int (x.cps.size:Int) (t+1)))).ok (model pw w) A (.call (.builtin "len") ⟨[.str x (tx+1)],[]⟩) s:=by
 ext w A s x tx:0;intro h;refine bf.mono (bf.of_call (Q:=λv J=>v=.int (x.length:Int) (s.toks+1)/\J={s with toks:=s.toks+2}) (len_str (x:=x) (t:=tx+1) (by lia) ⟨rfl,rfl⟩)) ?_;rintro r J ⟨v,rfl,rfl,rfl⟩;exact⟨rfl,rfl⟩
theorem nI (h:(x.length:Int)<2^63):ai w dh (r3 x):=bj λc lk A s hA hT J=>G5 h
end
def cZ:Str:=⟨#[123,42,125,42]⟩
def ck:Str:=⟨#[123,125,42]⟩
def m7:Str:=⟨#[123,42,125]⟩
def pj:Str:=⟨#[125,42]⟩
def I0:Str:=⟨#[116,104,105,110,103]⟩
def G6:Str:=⟨#[116,104,105,110,103,115]⟩
def Lc:Str:=⟨#[95,112,114,101,112,97,114,101,95,116,97,103,46,60,108,111,99,97,108,115,62,46,115,101,108,101,99,116]⟩
def aP (l:List (Nat×Nat)):Obj:=⟨.none,none,.fields (l.flatMap λp=>[.int (p.1:Int) 0,.int 8 0,.ref (p.2+158)]).toArray,#[]⟩
def yu:Str:=⟨#[115,101,108,101,99,116]⟩
def vn:Str:=⟨#[47,99,108,97,105,109,47,99,117,116,46,112,121]⟩
def db (v:Value) (t:Nat) (r:List Value):Obj:=dy "code" (v::.str Lc t::r)
def uc (o:Obj):List Value:=match o.data with
 |.fields xs=>xs.toList
 |_=>[]
def fO (J:Int) (nb tb dv:Nat):Obj:=db (.str yu tb) (tb+1) [.str vn (tb+2),.int J 0,.int 2 0,.int 0 0,.int 0 0,.int 51 0,.ref (nb+158),.bool true,.int 276 0,.ref (nb+159),.none,.ref (nb+160),.ref (nb+161),.ref (nb+162),.int ((tb+dv:Nat):Int) 0,.int J 0,.str vn (tb+dv+1)]
def I1 (w:World):Expr:=match bV (bU w 123) 0 with
 |.Return e _=>e.getD default
 |_=>default
def kL:Expr->Scope
 |.ListComp _ _ s _=>s
 |_=>default
def FN (w:World) (fr cd:Nat):Env:={scope:=kL (I1 w),locals:=cd,globals:=3,cells:=[],qual:=(ej w 123 fr).qual,func:=none,code:=(iI w 123).code,frame:=some fr,builtins:=(iI w 123).builtins}
def eC (w:World) (fr:Nat):Code:=.func (bU w 123) (ej w 123 fr)
def eV (w:World) (fr cd it acc:Nat):Code:=.compStart (I1 w) 0 (.ref it) (.ref acc) (FN w fr cd)
def dz (w:World) (fr cd it acc:Nat):Code:=.compLoop (I1 w) 0 (.ref it) (.ref acc) (FN w fr cd)
def a8 (W:Str) (tw L:Nat):Code:=.call (.ref 123) ⟨[.str W (tw+1),.ref (L+158)],[]⟩
def pn (g:Nat) (o:Obj):Obj:=bk g (oX (uc o) 1) (oX (uc o) 2)
def cn (ep:Nat):Obj:=⟨.type "dict",none,.dict #[] ep,#[]⟩
def nJ (q:Nat):List aq:=[aF ⟨#[123,42,125,q]⟩ cZ false,aF ⟨#[123,42,125,q]⟩ ck false,aF m7 m7 true,bn ⟨#[]⟩ 0,eU 14 ⟨#[123,42,125,q]⟩ none (some 3) m7,eU 15 ⟨#[123,42,125,q]⟩ (some 2) none ⟨#[125,q]⟩,eU 17 ⟨#[123,42,125,q]⟩ (some 3) none ⟨#[q]⟩,r3 ⟨#[125,q]⟩]
def ia:Nat:=0xffcbb2ec002ecbb008ba2e8ba2e8b82e4002e4a1288a22880301003280a0280a0148a328c0728ca6298b02c0002c0b000000000082a40000c0000ca92a40628c03014a3008a3004a3294a5290a42b4ab2acaa2acab2ac002acab2acaa2acab2ac002acab2acaa2acab2ac002acab2a8002a8aa2a80000c0000c0228ca314853000532840300002284a1284a11e87b
def po (n L:Nat) (xs:List Value) (el:Nat) (q:Nat) (ρ OE J:HR) (tl:Nat):bc:=⟨.suff,J.n+165,J.n+164,J.n+8,n+3,n+4,n+2,n+8,n+5,OE.n+0,L,xs,el,⟨#[q]⟩,⟨#[125,q]⟩,J.x,OE.x,-2,tl⟩
def BE (n t g L:Nat) (xs:List Value) (el:Nat) (q:Nat) (ρ OE J:HR) (P:bc) (o:Nat->Obj):List ad:=(([⟨78,aP [(87,(J.n+1)+5)]⟩,⟨(J.n+1)+5+158,fO 87 (J.n+1) (J.t+1) 12⟩,⟨(J.n+8)+158,bm .suff (bD (o 26)) (KO (o 26)) (L+158) false 0 .none⟩,⟨(J.n+9)+158,pn J.g (o 27)⟩,⟨(J.n+10)+158,aa [] 0⟩,⟨(J.n+11)+158,cn 0⟩]:List ad)++bc.X P)
theorem xJ (tw L xs el q n t g ρ ρ2 ρ3):∀w,bP (vL w 800 900 (nJ q)) 400 (a8 ⟨#[123,42,125,q]⟩ tw L) .top (aM (a8 ⟨#[123,42,125,q]⟩ tw L)) ia [⟨78,aP []⟩] n t g [ρ,ρ2,ρ3] [0,24,26,27,28,29,4,5,3,9,6,16]
   (.call true (eC w (n+158)) (eV w (n+158) ((ρ3.n+11)+158) ((ρ3.n+9)+158) ((ρ3.n+10)+158)) true)
   (λo=>(BE n t g L xs el q ρ ρ2 ρ3 (po n L xs el q ρ ρ2 ρ3 (cq (gy (o 16) 0))) o).map some) [(ρ3.g,(po n L xs el q ρ ρ2 ρ3 (cq (gy ((bl (vL w 800 900 (nJ q)) 400 (a8 ⟨#[123,42,125,q]⟩ tw L) .top (aM (a8 ⟨#[123,42,125,q]⟩ tw L)) ia [⟨78,aP []⟩] n t g [ρ,ρ2,ρ3]).obj 16) 0))).func w)]:=aT
def ud:List aq:=[aF cZ cZ true]
def me:Nat:=ia - (0xffcbb2ec002ecbb008ba2e8ba2e8b82e4002e4a1288a22880301003280a0280a0148a328807fafef297f8fe3fdfe7f9d2749d2f532a34ad875dd84072980227f62d9402d8851<<<580)
def ru (n L:Nat) (xs:List Value) (el:Nat) (tl:Nat):bc:=⟨.any,n+178,n+177,n+21,n+3,n+4,0,0,0,0,L,xs,el,⟨#[]⟩,⟨#[]⟩,0,0,0,0⟩
def DO (n t g L:Nat) (xs:List Value) (el:Nat) (k0:Nat) (P:bc) (o:Nat->Obj):List ad:=(([⟨78,aP [(87,k0),(71,(n+14)+5)]⟩,⟨(n+14)+5+158,fO 71 (n+14) (t+4) 8⟩,⟨(n+21)+158,bm .any (bD (o 22)) (KO (o 22)) (L+158) false 0 .none⟩,⟨(n+22)+158,pn g (o 23)⟩,⟨(n+23)+158,aa [] 0⟩,⟨(n+24)+158,cn 0⟩]:List ad)++bc.X P)
theorem zD (tw L xs el k0 n t g):∀w,bP (vL w 800 900 ud) 400 (a8 cZ tw L) .top (aM (a8 cZ tw L)) me [⟨78,aP [(87,k0)]⟩] n t g [] [0,20,22,23,24,25,4,5]
   (.call true (eC w (n+158)) (eV w (n+158) ((n+24)+158) ((n+22)+158) ((n+23)+158)) true)
   (λo=>(DO n t g L xs el k0 (ru n L xs el 0) o).map some) [(g,(ru n L xs el 0).func w)]:=aT
def pq:List aq:=[aF ck cZ false,aF ck ck true]
def mG:Nat:=me+(0x3ff2d8b7d24002db4affcb3fffffff7fed3000283ed003ffd83620009c273fffffb1d8851<<<580)
def nK (n L:Nat) (xs:List Value) (el:Nat) (tl:Nat):bc:=⟨.plain,n+178,n+177,n+21,n+3,n+4,0,0,0,0,L,xs,el,⟨#[]⟩,⟨#[]⟩,0,0,0,0⟩
def zE (n t g L:Nat) (xs:List Value) (el:Nat) (k0 k1:Nat) (P:bc) (o:Nat->Obj):List ad:=(([⟨78,aP [(87,k0),(71,k1),(77,(n+14)+5)]⟩,⟨(n+14)+5+158,fO 77 (n+14) (t+5) 9⟩,⟨(n+21)+158,bm .plain (bD (o 22)) (KO (o 22)) (L+158) false 0 .none⟩,⟨(n+22)+158,pn g (o 23)⟩,⟨(n+23)+158,aa [] 0⟩,⟨(n+24)+158,cn 0⟩]:List ad)++bc.X P)
theorem wd (tw L xs el k0 k1 n t g):∀w,bP (vL w 800 900 pq) 400 (a8 ck tw L) .top (aM (a8 ck tw L)) mG [⟨78,aP [(87,k0),(71,k1)]⟩] n t g [] [0,20,22,23,24,25,4,5]
   (.call true (eC w (n+158)) (eV w (n+158) ((n+24)+158) ((n+22)+158) ((n+23)+158)) true)
   (λo=>(zE n t g L xs el k0 k1 (nK n L xs el 0) o).map some) [(g,(nK n L xs el 0).func w)]:=aT
def r4 (W Z3 J:Str):List aq:=[aF W cZ false,aF W ck false,aF Z3 m7 false,aF pj pj true,eU 14 W none (some 3) Z3,eU 15 W (some (-2)) none pj,eU 16 W none (some (-1)) J,r3 J]
def nL:Nat:=ia+(0x280a5501bad0160069fffeaffb800017fffd7fc538080013fad6b9fd<<<641)
def ue (n L:Nat) (xs:List Value) (el:Nat) (W Z3 NS:Str) (ρ OE J:HR) (tl:Nat):bc:=⟨.ns,J.n+166,J.n+165,J.n+9,n+3,n+4,n+6,n+7,0,J.n+0,L,xs,el,NS,⟨#[]⟩,J.x,0,(NS.cps.size:Int),tl⟩
def G7 (n t g L:Nat) (xs:List Value) (el:Nat) (k0 k1 k2:Nat) (W Z3 NS:Str) (ρ OE J:HR) (P:bc) (o:Nat->Obj):List ad:=(([⟨78,aP [(87,k0),(71,k1),(77,k2),(96,(J.n+2)+5)]⟩,⟨(J.n+2)+5+158,fO 96 (J.n+2) (J.t+3) 11⟩,⟨(J.n+9)+158,bm .ns (bD (o 26)) (KO (o 26)) (L+158) false 0 .none⟩,⟨(J.n+10)+158,pn J.g (o 27)⟩,⟨(J.n+11)+158,aa [] 0⟩,⟨(J.n+12)+158,cn 0⟩]:List ad)++bc.X P)
theorem BF (tw L xs el k0 k1 k2 W Z3 NS n t g ρ ρ2 ρ3):∀w,bP (vL w 800 900 (r4 W Z3 NS)) 400 (a8 W tw L) .top (aM (a8 W tw L)) nL [⟨78,aP [(87,k0),(71,k1),(77,k2)]⟩] n t g [ρ,ρ2,ρ3] [0,24,26,27,28,29,4,5,7,8,17]
   (.call true (eC w (n+158)) (eV w (n+158) ((ρ3.n+12)+158) ((ρ3.n+10)+158) ((ρ3.n+11)+158)) true)
   (λo=>(G7 n t g L xs el k0 k1 k2 W Z3 NS ρ ρ2 ρ3 (ue n L xs el W Z3 NS ρ ρ2 ρ3 (cq (gy (o 17) 1))) o).map some) [(ρ3.g,(ue n L xs el W Z3 NS ρ ρ2 ρ3 (cq (gy ((bl (vL w 800 900 (r4 W Z3 NS)) 400 (a8 W tw L) .top (aM (a8 W tw L)) nL [⟨78,aP [(87,k0),(71,k1),(77,k2)]⟩] n t g [ρ,ρ2,ρ3]).obj 17) 1))).func w)]:=aT
def nM (q:Nat):List aq:=[aF ⟨#[123,42,125,q]⟩ cZ false,aF ⟨#[123,42,125,q]⟩ ck false,aF m7 m7 true,bn ⟨#[]⟩ 0,eU 15 ⟨#[123,42,125,q]⟩ none (some 3) m7,eU 16 ⟨#[123,42,125,q]⟩ (some 2) none ⟨#[125,q]⟩,eU 18 ⟨#[123,42,125,q]⟩ (some 3) none ⟨#[q]⟩,r3 ⟨#[125,q]⟩]
def ib:Nat:=0x3ff2d8b6000b62d8022d4b52d4b5284b4000b4288a328ca300c0400ca0148a429007290a729cb12c4002c4b100000000082a80000c0000caa2a80629003014a4008a4004a4298a6294a52b8ac2b0ab2b0ac2b0002b0ac2b0ab2b0ac2b0002b0ac2b0ab2b0ac2b0002b0ac2ac002acab2ac0000c0000c02290a414853000532880300002288a2288a21e87b
def pr (n L:Nat) (xs:List Value) (el:Nat) (k0:Nat) (q:Nat) (ρ OE J:HR) (tl:Nat):bc:=⟨.suff,J.n+159,k0+158,J.n+2,n+3,n+4,n+2,n+8,n+5,OE.n+0,L,xs,el,⟨#[q]⟩,⟨#[125,q]⟩,J.x,OE.x,-2,tl⟩
def BG (n t g L:Nat) (xs:List Value) (el:Nat) (k0 k1 k2 k3:Nat) (v0:Value) (tq:Nat) (rq:List Value) (q:Nat) (ρ OE J:HR) (P:bc) (o:Nat->Obj):List ad:=(([⟨78,aP [(87,k0),(71,k1),(77,k2),(96,k3)]⟩,⟨k0+158,db v0 tq rq⟩,⟨(J.n+2)+158,bm .suff (bD (o 21)) (KO (o 21)) (L+158) false 0 .none⟩,⟨(J.n+3)+158,pn J.g (o 22)⟩,⟨(J.n+4)+158,aa [] 0⟩,⟨(J.n+5)+158,cn 0⟩]:List ad)++bc.X P)
theorem xK (tw L xs el k0 k1 k2 k3 v0 tq rq q n t g ρ ρ2 ρ3):∀w,bP (vL w 800 900 (nM q)) 400 (a8 ⟨#[123,42,125,q]⟩ tw L) .top (aM (a8 ⟨#[123,42,125,q]⟩ tw L)) ib [⟨78,aP [(87,k0),(71,k1),(77,k2),(96,k3)]⟩,⟨k0+158,db v0 tq rq⟩] n t g [ρ,ρ2,ρ3] [0,1,21,22,23,24,5,6,4,10,7,17]
   (.call true (eC w (n+158)) (eV w (n+158) ((ρ3.n+5)+158) ((ρ3.n+3)+158) ((ρ3.n+4)+158)) true)
   (λo=>(BG n t g L xs el k0 k1 k2 k3 v0 tq rq q ρ ρ2 ρ3 (pr n L xs el k0 q ρ ρ2 ρ3 (cq (gy (o 17) 0))) o).map some) [(ρ3.g,(pr n L xs el k0 q ρ ρ2 ρ3 (cq (gy ((bl (vL w 800 900 (nM q)) 400 (a8 ⟨#[123,42,125,q]⟩ tw L) .top (aM (a8 ⟨#[123,42,125,q]⟩ tw L)) ib [⟨78,aP [(87,k0),(71,k1),(77,k2),(96,k3)]⟩,⟨k0+158,db v0 tq rq⟩] n t g [ρ,ρ2,ρ3]).obj 17) 0))).func w)]:=aT
def uf:List aq:=[aF cZ cZ true]
def mf:Nat:=ib - (0x1ff96c5b0005b16c0116a5a96a5a9425a0005a144519465180602006500a452148039485314fff7fdffffdff7fba769dab7f1af6a5ffea60400db180200002506c429<<<581)
def rv (n L:Nat) (xs:List Value) (el:Nat) (k1:Nat) (tl:Nat):bc:=⟨.any,n+172,k1+158,n+15,n+3,n+4,0,0,0,0,L,xs,el,⟨#[]⟩,⟨#[]⟩,0,0,0,0⟩
def DP (n t g L:Nat) (xs:List Value) (el:Nat) (k0 k1 k2 k3:Nat) (v0:Value) (tq:Nat) (J:List Value) (P:bc) (o:Nat->Obj):List ad:=(([⟨78,aP [(87,k0),(71,k1),(77,k2),(96,k3)]⟩,⟨k1+158,db v0 tq J⟩,⟨(n+15)+158,bm .any (bD (o 17)) (KO (o 17)) (L+158) false 0 .none⟩,⟨(n+16)+158,pn g (o 18)⟩,⟨(n+17)+158,aa [] 0⟩,⟨(n+18)+158,cn 0⟩]:List ad)++bc.X P)
theorem zF (tw L xs el k0 k1 k2 k3 v0 tq rq n t g):∀w,bP (vL w 800 900 uf) 400 (a8 cZ tw L) .top (aM (a8 cZ tw L)) mf [⟨78,aP [(87,k0),(71,k1),(77,k2),(96,k3)]⟩,⟨k1+158,db v0 tq rq⟩] n t g [] [0,1,17,18,19,20,5,6]
   (.call true (eC w (n+158)) (eV w (n+158) ((n+18)+158) ((n+16)+158) ((n+17)+158)) true)
   (λo=>(DP n t g L xs el k0 k1 k2 k3 v0 tq rq (rv n L xs el k1 0) o).map some) [(g,(rv n L xs el k1 0).func w)]:=aT
def pt:List aq:=[aF ck cZ false,aF ck ck true]
def mH:Nat:=mf+(0x7fe58965a700058e9fff95dffffff7ffdaf80050fe6007ffafec200138276c429<<<581)
def nN (n L:Nat) (xs:List Value) (el:Nat) (k2:Nat) (tl:Nat):bc:=⟨.plain,n+172,k2+158,n+15,n+3,n+4,0,0,0,0,L,xs,el,⟨#[]⟩,⟨#[]⟩,0,0,0,0⟩
def zG (n t g L:Nat) (xs:List Value) (el:Nat) (k0 k1 k2 k3:Nat) (v0:Value) (tq:Nat) (J:List Value) (P:bc) (o:Nat->Obj):List ad:=(([⟨78,aP [(87,k0),(71,k1),(77,k2),(96,k3)]⟩,⟨k2+158,db v0 tq J⟩,⟨(n+15)+158,bm .plain (bD (o 17)) (KO (o 17)) (L+158) false 0 .none⟩,⟨(n+16)+158,pn g (o 18)⟩,⟨(n+17)+158,aa [] 0⟩,⟨(n+18)+158,cn 0⟩]:List ad)++bc.X P)
theorem we (tw L xs el k0 k1 k2 k3 v0 tq rq n t g):∀w,bP (vL w 800 900 pt) 400 (a8 ck tw L) .top (aM (a8 ck tw L)) mH [⟨78,aP [(87,k0),(71,k1),(77,k2),(96,k3)]⟩,⟨k2+158,db v0 tq rq⟩] n t g [] [0,1,17,18,19,20,5,6]
   (.call true (eC w (n+158)) (eV w (n+158) ((n+18)+158) ((n+16)+158) ((n+17)+158)) true)
   (λo=>(zG n t g L xs el k0 k1 k2 k3 v0 tq rq (nN n L xs el k2 0) o).map some) [(g,(nN n L xs el k2 0).func w)]:=aT
def r5 (W Z3 J:Str):List aq:=[aF W cZ false,aF W ck false,aF Z3 m7 false,aF pj pj true,eU 15 W none (some 3) Z3,eU 16 W (some (-2)) none pj,eU 17 W none (some (-1)) J,r3 J]
def nO:Nat:=ib+(0x280a5581bac8160069dffeadfb800017fffd7fc5400800141aceb7fd<<<641)
def ug (n L:Nat) (xs:List Value) (el:Nat) (k3:Nat) (W Z3 NS:Str) (ρ OE J:HR) (tl:Nat):bc:=⟨.ns,J.n+160,k3+158,J.n+3,n+3,n+4,n+6,n+7,0,J.n+0,L,xs,el,NS,⟨#[]⟩,J.x,0,(NS.cps.size:Int),tl⟩
def G8 (n t g L:Nat) (xs:List Value) (el:Nat) (k0 k1 k2 k3:Nat) (v0:Value) (tq:Nat) (rq:List Value) (W Z3 NS:Str) (ρ OE J:HR) (P:bc) (o:Nat->Obj):List ad:=(([⟨78,aP [(87,k0),(71,k1),(77,k2),(96,k3)]⟩,⟨k3+158,db v0 tq rq⟩,⟨(J.n+3)+158,bm .ns (bD (o 21)) (KO (o 21)) (L+158) false 0 .none⟩,⟨(J.n+4)+158,pn J.g (o 22)⟩,⟨(J.n+5)+158,aa [] 0⟩,⟨(J.n+6)+158,cn 0⟩]:List ad)++bc.X P)
theorem BH (tw L xs el k0 k1 k2 k3 v0 tq rq W Z3 NS n t g ρ ρ2 ρ3):∀w,bP (vL w 800 900 (r5 W Z3 NS)) 400 (a8 W tw L) .top (aM (a8 W tw L)) nO [⟨78,aP [(87,k0),(71,k1),(77,k2),(96,k3)]⟩,⟨k3+158,db v0 tq rq⟩] n t g [ρ,ρ2,ρ3] [0,1,21,22,23,24,5,6,8,9,18]
   (.call true (eC w (n+158)) (eV w (n+158) ((ρ3.n+6)+158) ((ρ3.n+4)+158) ((ρ3.n+5)+158)) true)
   (λo=>(G8 n t g L xs el k0 k1 k2 k3 v0 tq rq W Z3 NS ρ ρ2 ρ3 (ug n L xs el k3 W Z3 NS ρ ρ2 ρ3 (cq (gy (o 18) 1))) o).map some) [(ρ3.g,(ug n L xs el k3 W Z3 NS ρ ρ2 ρ3 (cq (gy ((bl (vL w 800 900 (r5 W Z3 NS)) 400 (a8 W tw L) .top (aM (a8 W tw L)) nO [⟨78,aP [(87,k0),(71,k1),(77,k2),(96,k3)]⟩,⟨k3+158,db v0 tq rq⟩] n t g [ρ,ρ2,ρ3]).obj 18) 1))).func w)]:=aT
def cdO (b:Bool) (ep:Nat) (K:Nat->Int×Nat) (a:Nat):Obj:=match b with
 |false=>cn ep
 |true=>⟨.type "dict",none,.dict (tL K 0 [(I0,.ref a)]).toArray ep,#[]⟩
theorem G9 (w fr cd ga acc g' nm qn n t g):
  ay (aG w 800) 20 (eV w (fr+158) (cd+158) (ga+158) (acc+158)) .top (aM (eV w (fr+158) (cd+158) (ga+158) (acc+158))) 1184 [⟨ga+158,bk g' nm qn⟩] n t g [] [0]
   (.again (dz w (fr+158) (cd+158) (ga+158) (acc+158))) [some ⟨ga+158,bk g' nm qn⟩] []:=by kernel_rfl
def zH:Nat:=1047712
theorem I3 (w fr cd ga acc g' nm qn n t g):
  ay (aG w 800) 20 (dz w (fr+158) (cd+158) (ga+158) (acc+158)) .top (aM (dz w (fr+158) (cd+158) (ga+158) (acc+158))) zH [⟨ga+158,bk g' nm qn⟩] n t g [] [0]
   (.call true (dz w (fr+158) (cd+158) (ga+158) (acc+158)) (lj (ga+158)) true) [some ⟨ga+158,bk g' nm qn⟩] []:=by kernel_rfl
def BI (w:World) (fr cd ga acc g':Nat) (nm qn:Value) (n t g:Nat) (rs:List HR):Result->Sem Fin:=
 (fw (aG w 800) 20 (dz w (fr+158) (cd+158) (ga+158) (acc+158)) .top (aM (dz w (fr+158) (cd+158) (ga+158) (acc+158))) zH (E0 [⟨ga+158,bk g' nm qn⟩]) (M0 [⟨ga+158,bk g' nm qn⟩]) (n+158) 0 (t+1) 0 g 0 (L0 rs)).kont
def vo:Nat:=0x4012906428ca318c64190a3000631906428ca2288a2
theorem I4 (fr cd ga acc g' nm qn n0 t0 g0 ep K e' a d epD KD z tz xs el n t g ρ):∀w J,bP (vL w 800 900 [c8 1 (acc+158) xs el (.str z)]) 100 (dz w (fr+158) (cd+158) (ga+158) (acc+158)) .top (BI w fr cd ga acc g' nm qn n0 t0 g0 [] (.ok (.ret (.ref (a+158))))) vo
   [⟨ga+158,bk g' nm qn⟩,⟨acc+158,aa xs el⟩,⟨cd+158,cdO J ep K e'⟩,⟨a+158,dU (d+158)⟩,⟨d+158,ee epD KD (.str z (tz+1))⟩] n t g [ρ] [0,1,2,3,4]
   (.again (dz w (fr+158) (cd+158) (ga+158) (acc+158)))
   (λo=>[some ⟨ga+158,bk g' nm qn⟩,some ⟨acc+158,aa (xs.concat (.str z (tz+1))) (el+1)⟩,some ⟨cd+158,cdO true (bD (o 2)) (KO (o 2)) (a+158)⟩,some ⟨a+158,dU (d+158)⟩,some ⟨d+158,ee epD KD (.str z (tz+1))⟩]) []:=d9
theorem Ld (fr cd ga acc g' nm qn n0 t0 g0 b e1 n t g):∀w,ay (aG w 800) 20 (dz w (fr+158) (cd+158) (ga+158) (acc+158)) .top (BI w fr cd ga acc g' nm qn n0 t0 g0 [] (.error (.ref (e1+158)))) 161
   [⟨b+158,bt []⟩,⟨e1+158,gP (b+158)⟩] n t g [] [] (.ret (.ok .next)) [] []:=aT
theorem xL (tw L:Nat) (xs:List Value) (el:Nat) (q:Nat) (n t g:Nat) (ρ OE J:HR) (ep:Nat) (K:Nat->Int×Nat) (e' n' t' g':Nat):∀w b0,ay (aG w 800) 20 (eC w (n+158)) .top ((bl (vL w 800 900 (nJ q)) 400 (a8 ⟨#[123,42,125,q]⟩ tw L) .top (aM (a8 ⟨#[123,42,125,q]⟩ tw L)) ia [⟨78,aP []⟩] n t g [ρ,OE,J]).kont (.ok .next)) 167936160 [⟨(J.n+11)+158,cdO b0 ep K e'⟩] n' t' g' [] [] (.ret (.ok (.ret (.ref ((J.n+10)+158))))) [] []:=d9
theorem zI (tw L:Nat) (xs:List Value) (el:Nat) (k0:Nat) (n t g:Nat) (ep:Nat) (K:Nat->Int×Nat) (e' n' t' g':Nat):∀w J,ay (aG w 800) 20 (eC w (n+158)) .top ((bl (vL w 800 900 ud) 400 (a8 cZ tw L) .top (aM (a8 cZ tw L)) me [⟨78,aP [(87,k0)]⟩] n t g []).kont (.ok .next)) 167936160 [⟨(n+24)+158,cdO J ep K e'⟩] n' t' g' [] [] (.ret (.ok (.ret (.ref ((n+23)+158))))) [] []:=d9
theorem wf (tw L:Nat) (xs:List Value) (el:Nat) (k0 k1:Nat) (n t g:Nat) (ep:Nat) (K:Nat->Int×Nat) (e' n' t' g':Nat):∀w J,ay (aG w 800) 20 (eC w (n+158)) .top ((bl (vL w 800 900 pq) 400 (a8 ck tw L) .top (aM (a8 ck tw L)) mG [⟨78,aP [(87,k0),(71,k1)]⟩] n t g []).kont (.ok .next)) 167936160 [⟨(n+24)+158,cdO J ep K e'⟩] n' t' g' [] [] (.ret (.ok (.ret (.ref ((n+23)+158))))) [] []:=d9
theorem BJ (tw L:Nat) (xs:List Value) (el:Nat) (k0 k1 k2:Nat) (W Z3 NS:Str) (n t g:Nat) (ρ OE J:HR) (ep:Nat) (K:Nat->Int×Nat) (e' n' t' g':Nat):∀w b0,ay (aG w 800) 20 (eC w (n+158)) .top ((bl (vL w 800 900 (r4 W Z3 NS)) 400 (a8 W tw L) .top (aM (a8 W tw L)) nL [⟨78,aP [(87,k0),(71,k1),(77,k2)]⟩] n t g [ρ,OE,J]).kont (.ok .next)) 167936160 [⟨(J.n+12)+158,cdO b0 ep K e'⟩] n' t' g' [] [] (.ret (.ok (.ret (.ref ((J.n+11)+158))))) [] []:=d9
theorem xM (tw L:Nat) (xs:List Value) (el:Nat) (k0 k1 k2 k3:Nat) (v0:Value) (tq:Nat) (rq:List Value) (q:Nat) (n t g:Nat) (ρ OE J:HR) (ep:Nat) (K:Nat->Int×Nat) (e' n' t' g':Nat):∀w b0,ay (aG w 800) 20 (eC w (n+158)) .top ((bl (vL w 800 900 (nM q)) 400 (a8 ⟨#[123,42,125,q]⟩ tw L) .top (aM (a8 ⟨#[123,42,125,q]⟩ tw L)) ib [⟨78,aP [(87,k0),(71,k1),(77,k2),(96,k3)]⟩,⟨k0+158,db v0 tq rq⟩] n t g [ρ,OE,J]).kont (.ok .next)) 167936160 [⟨(J.n+5)+158,cdO b0 ep K e'⟩] n' t' g' [] [] (.ret (.ok (.ret (.ref ((J.n+4)+158))))) [] []:=d9
theorem zJ (tw L:Nat) (xs:List Value) (el:Nat) (k0 k1 k2 k3:Nat) (v0:Value) (tq:Nat) (rq:List Value) (n t g:Nat) (ep:Nat) (K:Nat->Int×Nat) (e' n' t' g':Nat):∀w J,ay (aG w 800) 20 (eC w (n+158)) .top ((bl (vL w 800 900 uf) 400 (a8 cZ tw L) .top (aM (a8 cZ tw L)) mf [⟨78,aP [(87,k0),(71,k1),(77,k2),(96,k3)]⟩,⟨k1+158,db v0 tq rq⟩] n t g []).kont (.ok .next)) 167936160 [⟨(n+18)+158,cdO J ep K e'⟩] n' t' g' [] [] (.ret (.ok (.ret (.ref ((n+17)+158))))) [] []:=d9
theorem wg (tw L:Nat) (xs:List Value) (el:Nat) (k0 k1 k2 k3:Nat) (v0:Value) (tq:Nat) (rq:List Value) (n t g:Nat) (ep:Nat) (K:Nat->Int×Nat) (e' n' t' g':Nat):∀w J,ay (aG w 800) 20 (eC w (n+158)) .top ((bl (vL w 800 900 pt) 400 (a8 ck tw L) .top (aM (a8 ck tw L)) mH [⟨78,aP [(87,k0),(71,k1),(77,k2),(96,k3)]⟩,⟨k2+158,db v0 tq rq⟩] n t g []).kont (.ok .next)) 167936160 [⟨(n+18)+158,cdO J ep K e'⟩] n' t' g' [] [] (.ret (.ok (.ret (.ref ((n+17)+158))))) [] []:=d9
theorem BK (tw L:Nat) (xs:List Value) (el:Nat) (k0 k1 k2 k3:Nat) (v0:Value) (tq:Nat) (rq:List Value) (W Z3 NS:Str) (n t g:Nat) (ρ OE J:HR) (ep:Nat) (K:Nat->Int×Nat) (e' n' t' g':Nat):∀w b0,ay (aG w 800) 20 (eC w (n+158)) .top ((bl (vL w 800 900 (r5 W Z3 NS)) 400 (a8 W tw L) .top (aM (a8 W tw L)) nO [⟨78,aP [(87,k0),(71,k1),(77,k2),(96,k3)]⟩,⟨k3+158,db v0 tq rq⟩] n t g [ρ,OE,J]).kont (.ok .next)) 167936160 [⟨(J.n+6)+158,cdO b0 ep K e'⟩] n' t' g' [] [] (.ret (.ok (.ret (.ref ((J.n+5)+158))))) [] []:=d9
structure FG (p:bc) (ts:List an) (B0 B acc cd ga:Nat):Prop where
 g:wb p ts B
 h:158<=B0
 b:B0<=B
 a0:B0<=acc+158
 c0:B0<=cd+158
 g0:B0<=ga+158
 f0:B0<=p.gf+158
 ab:acc+158<B
 cb:cd+158<B
 gb:ga+158<B
 ac:acc≠cd
 ag:acc≠ga
 cg:cd≠ga
 fa:p.gf≠acc
 fc:p.gf≠cd
 fg:p.gf≠ga
 pl:∀e∈p.P ts,e.a≠acc+158/\e.a≠cd+158/\e.a≠ga+158
structure dW (V:Nat->Prop) (g:Nat) (s s':Shared):Prop where
 more:s.heap.objs.size<=s'.heap.objs.size
 tmore:s.toks<=s'.toks
 drawn:ij s'=ij s
 os:s'.os=s.os
 keep:∀(a:Nat) o,¬V a->s.heap.get? a=some o->s'.heap.get? a=some o
 gkeep:∀(k:Nat) (x:GenState),k≠g->s.gens[k]? =some x->s'.gens[k]? =some x
theorem dW.trans {V:Nat->Prop} {g} (h:dW V g s s') (J:dW V g s' s''):dW V g s s'':=
 ⟨bC h.more J.more,bC h.tmore J.tmore,J.drawn.trans h.drawn,J.os.trans h.os,λa o l x=>J.keep a o l (h.keep a o l x),λk x n y=>J.gkeep k x n (h.gkeep k x n y)⟩
theorem dW.setGen {V:Nat->Prop} {g} (h:dW V g s s') (hy:s'.gens[g]? =some y) (OE:y.bare=true) (x) (J:x.bare=true):dW V g s (s'.setGen g x):=
 ⟨h.more,h.tmore,(iV hy OE J).trans h.drawn,h.os,h.keep,λk y n z=>(eQ n x).trans (h.gkeep k y n z)⟩
theorem bu.keepUB {kt:KT} {s J:Shared} {l l':List ad} {ng} (D:bu kt s J (l.map (·.a)) (l'.map some) ng) (H:aQ s l) {V:Nat->Prop} {g:Nat} {C:List Nat} (h:∀f∈l,f.a∈C\/f∈l') (hC:∀a∈C,V a):dW V g s J:=
 ⟨D.more,D.tmore,D.drawn,D.os,λa o hl g=>D.keepBut H h a o g λm=>hl (hC a m),λk x U=>D.gkeep k x⟩
theorem bu.keepU {kt:KT} {s J:Shared} {A0:List Nat} {sel ng} (D:bu kt s J A0 sel ng) {V:Nat->Prop} {g:Nat} (h:∀a∈A0,V a):dW V g s J:=
 ⟨D.more,D.tmore,D.drawn,D.os,λa o hl x=>D.keep a o x λm=>hl (h a m),λk x U=>D.gkeep k x⟩
def FU (p:bc) (B acc cd:Nat) (a:Nat):Prop:=a=acc+158\/a=cd+158\/a=p.gf+158\/B<=a
def zK (w:World) (V:Nat->Prop) (g acc cd:Nat) (xs:List Value) (el:Nat) (s:Shared):Result->Shared->Prop:=λr J=>
 r=.ok .next/\dW V g s J/\aK w J/\∃b ep K e',aQ J [⟨acc+158,aa xs el⟩,⟨cd+158,cdO b ep K e'⟩]
theorem zK.back {w} {V:Nat->Prop} {g acc cd} (h:zK w V g acc cd xs el s₁ r s') (k:dW V g s s₁):zK w V g acc cd xs el s r s':=⟨h.1,k.trans h.2.1,h.2.2⟩
theorem fj.toU {B acc cd g p} (h:fj B p.gf s s'):dW (FU p B acc cd) g s s':=
 ⟨h.more,h.tmore,h.drawn,h.os,λa o l x=>h.keep a o (by unfold FU at l;lia) (by unfold FU at l;lia) x,λk x U=>h.gkeep k x⟩
theorem pu (w fr cd ga acc):bq (dz w fr cd ga acc):=ba rfl
section
variable {w:World} {A:Around} (hA:aL 700 A) {p:bc} {ts:List an} {B0 B acc cd ga fr g:Nat} {nm qn:Value} (G:FG p ts B0 B acc cd ga)
include hA G
set_option maxHeartbeats 4000000 in
theorem zL:∀(rest:List an) (b:Bool) (ep:Nat) (K:Nat->Int×Nat) (e':Nat) (xs:List Value) (el:Nat) (gs:GenState) (lg:List ad) (s:Shared) (pre:List an),
  p.items ts=pre++rest->xs.length+rest.length<=10000->B<=s.heap.objs.size->aK w s->aQ s [⟨ga+158,bk g nm qn⟩,⟨acc+158,aa xs el⟩,⟨cd+158,cdO b ep K e'⟩]->aQ s (p.P ts)->
  s.gens[g]? =some gs->gs.bare=true->(∀e∈lg,e.a=p.gf+158\/B<=e.a)->aQ s lg->
  (∀s',aK w s'->aQ s' lg->aQ s' (p.P ts)->s.heap.objs.size<=s'.heap.objs.size->gs.Goes (model pw w) (A.under (dz w (fr+158) (cd+158) (ga+158) (acc+158))).in1 (RF w p B) (YF w p ts B) rest.length (.send .none) s')->
  codeAny (model pw w) A (dz w (fr+158) (cd+158) (ga+158) (acc+158)) (zK w (FU p B acc cd) g acc cd (xs++rest.map λt=>lp t.tv) (el+rest.length) s) s:=by
 revert hA G;ext w A p ts B0 B acc cd ga fr ⟨g,nm,qn⟩;ext g nm qn;intro hA G;intro rest
 have hc:=pu w (fr+158) (cd+158) (ga+158) (acc+158)
 have hs1:aL 705 (A.under (dz w (fr+158) (cd+158) (ga+158) (acc+158))):=hA.under hc
 obtain⟨G1,_,Gb,Ga0,Gc0,Gg0,Gf0,Gab,Gcb,Ggb,Gac,Gag,Gcg,Gfa,Gfc,Gfg,Gpl⟩:=G
 have hGf:=G1.gf
 have start:∀{s:Shared} {R:Result->Shared->Prop},aK w s->s.heap.get? (ga+158)=some (bk g nm qn)->
   (∀n t g0 s1,aK w s1->dW (FU p B acc cd) g s s1->s.heap.objs.size<=s1.heap.objs.size->(∀a o,s.heap.get? a=some o->s1.heap.get? a=some o)->(∀(k:Nat) (x:GenState),s.gens[k]? =some x->s1.gens[k]? =some x)->
    codeAny (model pw w) (A.under (dz w (fr+158) (cd+158) (ga+158) (acc+158))) (lj (ga+158))
     (λr s''=>np (model pw w) A R (dz w (fr+158) (cd+158) (ga+158) (acc+158)) (BI w fr cd ga acc g nm qn n t g0 [] r) s'') s1)->
   codeAny (model pw w) A (dz w (fr+158) (cd+158) (ga+158) (acc+158)) R s:=by
  intro s R T hg hR
  obtain⟨n,t,g0,S⟩:=T.st (dJ hg) (d6 (bN _ _))
  refine dl (v:=aG w 800) (bx _) (hA.mono (d':=800)) S hc 0 20 zH [0] _ _ _ (λU=>I3 w fr cd ga acc g nm qn n t g0) λU s1 D U=>?_
  refine hR n t g0 s1 (D.topS T) (D.keepUB (l:=[⟨ga+158,bk g nm qn⟩]) (l':=[⟨ga+158,bk g nm qn⟩]) (dJ hg) (C:=[]) (λf hf=>.inr hf) λa ha=>nomatch ha) D.more (λa o h=>D.keepBut (l:=[⟨ga+158,bk g nm qn⟩]) (l':=[⟨ga+158,bk g nm qn⟩]) (dJ hg) (C:=[]) (λf hf=>.inr hf) a o h (λh=>nomatch h)) D.gkeep
 induction rest with
 |nil=>
  intro b ep K e' xs el gs lg s pre hit hlen hBs T hh hP hgs hgb hown hlg hgo
  ext b ep K e' xs el gs lg s pre ⟨hit,hlen,hBs,T,hh,hP,hgs,hgb,hown,hlg,hgo⟩;have hg0:=hh _ aJ
  have ha0:=hh _ cy
  have hc0:=hh _ gr
  refine start T hg0 λn t g0 s1 T1 k1 m1 q1 gk1=>?_
  ext n t g0 s1 ⟨T1,k1,m1,q1,gk1⟩;refine nr (P:=λn s₀ s₁=>n=0/\fj B p.gf s₀ s₁/\aK w s₁) (Y:=YF w p ts B) hs1.hd T1.noLimit (by have:=hs1.dp;unfold recursionLimit;exact(au this)) ⟨_,nm,qn,q1 _ _ hg0,rfl,rfl,rfl⟩ (gk1 _ _ hgs)
   (hgo _ (T1.setGen g .running) (λe he=>q1 _ _ (hlg e he)) (λe he=>q1 _ _ (hP e he)) m1) ?_ ?_
  .rintro v s2 gs' - ⟨t',_,_,k2,T2,l',hl',_,hk⟩
   exact(hk s2 T2 hl' (λe he=>k2.keep _ _ (G1.pl e he).1 (G1.pl e he).2.1 (q1 _ _ (hP e he)))).elim
  .rintro s2 ⟨_,k2,T2⟩
   ext s2 ⟨k2,T2⟩;have ha2:s2.heap.get? (acc+158)=some (aa xs el):=k2.keep _ _ Gab (tF (id (Ne.symm Gfa))) (q1 _ _ ha0)
   have hc2:s2.heap.get? (cd+158)=some (cdO b ep K e'):=k2.keep _ _ Gcb (tF (id (Ne.symm Gfc))) (q1 _ _ hc0)
   obtain⟨n2,t2,hn2,ht2⟩:=T2.nat
   ext n2 t2 ⟨hn2,ht2⟩
   have e1:(s2.heap.push (bt [])).objs.size=n2+1+158:=by rw[k8,hn2]
   rw[e1,hn2]
   generalize hs3:({s2.setGen g .finished with heap:=(s2.heap.push (bt [])).push (gP (n2+158))}:Shared)=s3
   have hp3:∀(a:Nat) o,s2.heap.get? a=some o->s3.heap.get? a=some o:=λa o h=>by rw[<-hs3];exact ju _ (ju _ h)
   have hsz3:s3.heap.objs.size=n2+2+158:=by rw[<-hs3];show((s2.heap.push (bt [])).push (gP (n2+158))).objs.size=_;rw[k8,e1]
   have htk3:s3.toks=s2.toks:=by rw[<-hs3];rfl
   have T3:aK w s3:=⟨λa o h=>hp3 a o (T2.top a o h),by exact(au (ii hsz3)),by rw[htk3];exact T2.toks⟩
   have hx3:s3.heap.get? (n2+158)=some (bt []):=by
    rw[<-hs3];refine ju _ ?_
    rw[<-hn2];exact Heap.get?_push_size _ rfl
   have hy3:s3.heap.get? (n2+1+158)=some (gP (n2+158)):=by
    rw[<-hs3,<-e1];exact Heap.get?_push_size _ rfl
   have k3:dW (FU p B acc cd) g s s3:=by
    refine k1.trans ?_
    have kk:dW (FU p B acc cd) g s1 s2:=by
     have:=k2.toU (acc:=acc) (cd:=cd) (g:=g)
     exact⟨this.more,this.tmore,this.drawn.trans (iV (gk1 _ _ hgs) hgb rfl),this.os,this.keep,λk y ne h=>this.gkeep k y ne ((eQ ne _).trans h)⟩
    refine kk.trans ?_
    rw[<-hs3]
    exact⟨by show s2.heap.objs.size<=((s2.heap.push (bt [])).push (gP (n2+158))).objs.size;rw[k8,e1,hn2];simp,bg _,iV (x:=.running) (k2.gkeep _ _ (setGen_self (gk1 _ _ hgs))) rfl rfl,rfl,λa o U h=>ju _ (ju _ h),λk y ne h=>(eQ ne _).trans h⟩
   obtain⟨n4,t4,g4,S4⟩:=T3.st (mC hx3 hy3) (rj (bN _ _) (bN _ _) (by simp))
   refine eB (v:=aG w 800) (bx _) (hA.mono (d':=800)) S4 hc 0 20 161 [] (λU=>.ret (.ok .next)) (λU=>[]) (λU=>[])
    (λrs' hrs=>by obtain rfl:=dI.mp hrs;exact Ld fr cd ga acc g nm qn n t g0 n2 (n2+1) n4 t4 g4 w) λrs' s4 hrs D4=>?_
   have lt2:∀{a:Nat} {o},s2.heap.get? a=some o->a<n2+158:=λh=>by rw[<-hn2];exact fv h
   have hk4:∀(a:Nat) o,a<n2+158->s3.heap.get? a=some o->s4.heap.get? a=some o:=λa o ne h=>D4.keep a o h (by
    simp only[de,fK,aY,bS,bT];exact(MN (ld (au ne)) (ld (au ne))))
   refine⟨rfl,k3.trans (D4.keepU λa ha=>?_),D4.topS T3,b,ep,K,e',?_⟩
   .simp only[de,fK,aY,bS,bT] at ha
    have:=k1.more
    have:=k2.more
    have hz:s1.heap.objs.size<=s2.heap.objs.size:=this
    unfold FU
    lia
   .rw[fK,fT]
    exact mC (hk4 _ _ (lt2 ha2) (hp3 _ _ ha2)) (hk4 _ _ (lt2 hc2) (hp3 _ _ hc2))
 |cons th r ih=>
  ext th r ⟨ih⟩;intro b ep K e' xs el gs lg s pre hit hlen hBs T hh hP hgs hgb hown hlg hgo
  ext b ep K e' xs el gs lg s pre ⟨hit,hlen,hBs,T,hh,hP,hgs,hgb,hown,hlg,hgo⟩;have hg0:=hh _ aJ
  have ha0:=hh _ cy
  have hc0:=hh _ gr
  refine start T hg0 λn t g0 s1 T1 k1 m1 q1 gk1=>?_
  ext n t g0 s1 ⟨T1,k1,m1,q1,gk1⟩;refine nr (P:=λn s₀ s₁=>n=0/\fj B p.gf s₀ s₁/\aK w s₁) (Y:=YF w p ts B) hs1.hd T1.noLimit (by have:=hs1.dp;unfold recursionLimit;exact(au this)) ⟨_,nm,qn,q1 _ _ hg0,rfl,rfl,rfl⟩ (gk1 _ _ hgs)
   (hgo _ (T1.setGen g .running) (λe he=>q1 _ _ (hlg e he)) (λe he=>q1 _ _ (hP e he)) m1) ?_ ?_
  .rintro v s2 gs' hb' ⟨t',hit',rfl,k2,T2,lg',hlg',hown',hk⟩
   ext s2 gs' t' lg' ⟨hb',hit',k2,T2,hlg',hown',hk⟩;have e0:(p.items ts).length - 1 - ((th::r).length - 1)=pre.length:=by rw[hit];simp only[eh,fu];exact Bj
   rw[e0,hit] at hit'
   obtain rfl:th=t':=by simpa using hit'
   have hmem:th∈p.items ts:=by rw[hit];simp
   have hts:th∈ts:=(List.mem_filter.mp hmem).1
   have hhit:p.hits th.tv=true:=(List.mem_filter.mp hmem).2
   obtain⟨z,tz,htv⟩:∃z tz,th.tv=some (z,tz):=by
    cases hq:th.tv with
    |none=>rw[hq] at hhit;cases hhit
    |some q=>exact⟨q.1,q.2,rfl⟩
   ext z tz ⟨htv⟩;have hg2:s2.heap.get? (ga+158)=some (bk g nm qn):=k2.keep _ _ Ggb (tF (id (Ne.symm Gfg))) (q1 _ _ hg0)
   have ha2:s2.heap.get? (acc+158)=some (aa xs el):=k2.keep _ _ Gab (by lia) (q1 _ _ ha0)
   have hc2:s2.heap.get? (cd+158)=some (cdO b ep K e'):=k2.keep _ _ Gcb (by lia) (q1 _ _ hc0)
   have hP2:aQ s2 (p.P ts):=λe he=>k2.keep _ _ (G1.pl e he).1 (G1.pl e he).2.1 (q1 _ _ (hP e he))
   have run2:s2.gens[g]? =some .running:=k2.gkeep _ _ (setGen_self (gk1 _ _ hgs))
   have k3:dW (FU p B acc cd) g s (s2.setGen g gs'):=by
    refine k1.trans (dW.setGen ?_ run2 rfl gs' hb')
    have:=k2.toU (acc:=acc) (cd:=cd) (g:=g)
    exact⟨this.more,this.tmore,this.drawn.trans (iV (gk1 _ _ hgs) hgb rfl),this.os,this.keep,λk y ne h=>this.gkeep k y ne ((eQ ne _).trans h)⟩
   have T3:aK w (s2.setGen g gs'):=T2.setGen g gs'
   have hgs3:(s2.setGen g gs').gens[g]? =some gs':=setGen_self run2
   have hg3:(s2.setGen g gs').heap.get? (ga+158)=some (bk g nm qn):=hg2
   have ha3:(s2.setGen g gs').heap.get? (acc+158)=some (aa xs el):=ha2
   have hc3:(s2.setGen g gs').heap.get? (cd+158)=some (cdO b ep K e'):=hc2
   have hP3:aQ (s2.setGen g gs') (p.P ts):=hP2
   have hlg3:aQ (s2.setGen g gs') lg':=hlg'
   generalize s2.setGen g gs'=s3 at k3 T3 hgs3 hg3 ha3 hc3 hP3 hlg3|-
   have hin:∀e∈th.ents,e∈p.P ts:=λe he=>List.mem_cons_of_mem _ (fJ _ (iQ.mpr ⟨th,hts,he⟩))
   have pa:=Gpl _ (hin _ aJ)
   have pd:=Gpl _ (hin _ cy)
   have qa:=G1.pl _ (hin _ aJ)
   have qd:=G1.pl _ (hin _ cy)
   have had:th.a≠th.d:=by
    have:=G1.fit th hts
    intro h
    have h2:=(List.nodup_cons.mp this).2
    change(aC (⟨th.a+158,dU (th.d+158)⟩::(⟨th.d+158,th.D⟩::p.X))).Nodup at h2
    refine(List.nodup_cons.mp h2).1 ?_
    show th.a+158∈aC (⟨th.d+158,th.D⟩::p.X)
    rw[h]
    exact .head _
   dsimp only at pa pd qa qd
   have hD:th.D=ee th.ep th.K (.str z (tz+1)):=by unfold an.D;rw[htv];rfl
   have H5:aQ s3 [⟨ga+158,bk g nm qn⟩,⟨acc+158,aa xs el⟩,⟨cd+158,cdO b ep K e'⟩,⟨th.a+158,dU (th.d+158)⟩,⟨th.d+158,ee th.ep th.K (.str z (tz+1))⟩]:=by
    refine ah ?_<|ah ?_<|ah ?_<|ah ?_<|ah ?_ aE
    .exact hg3
    .exact ha3
    .exact hc3
    .exact hP3 _ (hin _ aJ)
    .rw[<-hD];exact hP3 _ (hin _ cy)
   have F5:aj [⟨ga+158,bk g nm qn⟩,⟨acc+158,aa xs el⟩,⟨cd+158,cdO b ep K e'⟩,⟨th.a+158,dU (th.d+158)⟩,⟨th.d+158,ee th.ep th.K (.str z (tz+1))⟩]:=jD (by simp) (by
    simp
    lia)
   obtain⟨n4,t4,g4,S4⟩:=T3.st H5 F5
   ext n4 t4 g4 ⟨S4⟩
   have ll:xs.length<=sizeLine:=by
    have h':10000<=sizeLine:=by decide
    exact au (ax hlen h')
   refine eB (v:=vL w 800 900 [c8 1 (acc+158) xs el (.str z)]) (bE (fq (eK ll))) (hA.mono (d':=800)) S4 hc 1 100 vo [0,1,2,3,4] (λU=>.again (dz w (fr+158) (cd+158) (ga+158) (acc+158)))
    (λrs'=>[some ⟨ga+158,bk g nm qn⟩,some ⟨acc+158,aa (xs.concat (.str z (tz+1))) (el+1)⟩,some ⟨cd+158,cdO true
     (bD ((bl (vL w 800 900 [c8 1 (acc+158) xs el (.str z)]) 100 (dz w (fr+158) (cd+158) (ga+158) (acc+158)) .top (BI w fr cd ga acc g nm qn n t g0 [] (.ok (.ret (.ref (th.a+158))))) vo [⟨ga+158,bk g nm qn⟩,⟨acc+158,aa xs el⟩,⟨cd+158,cdO b ep K e'⟩,⟨th.a+158,dU (th.d+158)⟩,⟨th.d+158,ee th.ep th.K (.str z (tz+1))⟩] n4 t4 g4 rs').obj 2))
     (KO ((bl (vL w 800 900 [c8 1 (acc+158) xs el (.str z)]) 100 (dz w (fr+158) (cd+158) (ga+158) (acc+158)) .top (BI w fr cd ga acc g nm qn n t g0 [] (.ok (.ret (.ref (th.a+158))))) vo [⟨ga+158,bk g nm qn⟩,⟨acc+158,aa xs el⟩,⟨cd+158,cdO b ep K e'⟩,⟨th.a+158,dU (th.d+158)⟩,⟨th.d+158,ee th.ep th.K (.str z (tz+1))⟩] n4 t4 g4 rs').obj 2)) (th.a+158)⟩,some ⟨th.a+158,dU (th.d+158)⟩,some ⟨th.d+158,ee th.ep th.K (.str z (tz+1))⟩]) (λU=>[])
    (λrs' hrs=>by obtain⟨ρ,rfl⟩:=gR hrs;exact I4 fr cd ga acc g nm qn n t g0 ep K e' th.a th.d th.ep th.K z tz xs el n4 t4 g4 ρ w b) λrs' s4 hrs D4=>?_
   generalize bD _=ep4 at D4
   ext rs' s4 ep4 ⟨hrs,D4⟩;generalize KO _=K4 at D4
   have D4':bu (kt w) s3 s4 (([⟨ga+158,bk g nm qn⟩,⟨acc+158,aa xs el⟩,⟨cd+158,cdO b ep K e'⟩,⟨th.a+158,dU (th.d+158)⟩,⟨th.d+158,ee th.ep th.K (.str z (tz+1))⟩]:List ad).map (·.a))
    (([⟨ga+158,bk g nm qn⟩,⟨acc+158,aa (xs.concat (.str z (tz+1))) (el+1)⟩,⟨cd+158,cdO true ep4 K4 (th.a+158)⟩,⟨th.a+158,dU (th.d+158)⟩,⟨th.d+158,ee th.ep th.K (.str z (tz+1))⟩]:List ad).map some) []:=D4
   have hkb:=D4'.keepBut H5 (C:=[acc+158,cd+158]) λf hf=>by
    simp only[aY,bS,bT] at hf|-
    rcases hf with rfl|rfl|rfl|rfl|rfl<;>simp
   have hx:xs++(th::r).map (λt=>lp t.tv)=xs.concat (.str z (tz+1))++r.map λt=>lp t.tv:=by
    simp[htv,lp]
   rw[hx,show el+(th::r).length=el+1+r.length from by simp only[fu];lia]
   refine⟨aX rfl,eG (ih true ep4 K4 (th.a+158) (xs.concat (.str z (tz+1))) (el+1) gs' lg' s4 (pre++[th]) (by rw[hit];simp) (by simp only[fu,List.concat_eq_append,eh,List.length_nil] at hlen|-;exact(au hlen)) (bC hBs (bC k3.more D4.more)) (D4.topS T3)
    (jB (D4.sel _ aJ) (D4.sel _ cy) (D4.sel _ gr)) (λe he=>hkb _ _ (hP3 e he) (by have:=Gpl e he;simp only[aY,bS,bT];lia)) (D4.gkeep _ _ hgs3) hb' hown'
    (λe he=>hkb _ _ (hlg3 e he) (by have:=hown' e he;simp only[aY,bS,bT];lia)) λs' h1 h2 h3 U=>hk s' h1 h2 h3) λr' s' h=>h.back (k3.trans (D4'.keepUB H5 (C:=[acc+158,cd+158]) (λf hf=>by
    simp only[aY,bS,bT] at hf|-
    rcases hf with rfl|rfl|rfl|rfl|rfl<;>simp) λa ha=>by
    simp only[aY,bS,bT] at ha
    rcases ha with rfl|rfl
    .exact .inl rfl
    .exact .inr (.inl rfl)))⟩
  .rintro s2 ⟨h,_⟩
   cases h
end
def cO (L:Nat) (ts:List an) (el:Nat):List ad:=⟨L+158,aa (ts.map an.ref) el⟩::ts.flatMap an.ents
structure fh (L:Nat) (ts:List an):Prop where
 apart:∀t∈ts,L≠t.a/\L≠t.d/\t.a≠t.d
 fine:∀t∈ts,tvFine t.tv
 few:ts.length<=5000
theorem wh (p:bc):∀e∈p.X,(e.o.cls=.type "cell" \/e.o.cls=.type "slice")/\158<=e.a:=by
 obtain⟨k,fn,cd,gf,cI,cS,c1,c2,c3,sl,L,xs,el,x,y,tx,ty,ln,tl⟩:=p;cases k<;>simp[bc.X,v4,cY,li,dy]
theorem BL:∀{s J:Shared} {p:bc} {ts:List an} {acc cd ga g:Nat} {nm qn:Value} {ep:Nat} {K:Nat->Int×Nat} (O:fh p.L ts) (OI:p.xs=ts.map an.ref)
  (OH:158<=s.heap.objs.size) (hk:∀(a:Nat) o,s.heap.get? a=some o->a≠78->J.heap.get? a=some o) (hm:s.heap.objs.size<=J.heap.objs.size) (OG:aQ s (cO p.L ts p.el))
  (h1:J.heap.get? (p.gf+158)=some (bm p.k ep K (p.L+158) false 0 .none)) (h2:J.heap.get? (ga+158)=some (bk g nm qn)) (h3:J.heap.get? (acc+158)=some (aa [] 0)) (h4:J.heap.get? (cd+158)=some (cn 0)) (hX:aQ J p.X)
  (n1:s.heap.objs.size<=p.gf+158) (n2:s.heap.objs.size<=ga+158) (n3:s.heap.objs.size<=acc+158) (n4:s.heap.objs.size<=cd+158) (nX:∀e∈p.X,s.heap.objs.size<=e.a) (OJ:(aC p.X).Nodup),FG p ts s.heap.objs.size J.heap.objs.size acc cd ga/\aQ J (p.P ts):=by
 ext s J p ts acc cd ga g nm qn ep K:0;intro O OI OH hk hm OG h1 h2 h3 h4 hX n1 n2 n3 n4 nX OJ;have hP:aQ J (p.P ts):=λe he=>by
  unfold bc.P at he;rcases aY.mp he with rfl|he
  .rw[OI];exact hk _ _ (OG _ aJ) (by show p.L+158≠78;simp)
  .rcases dk.mp he with he|he
   .exact hX e he
   .have h:=OG e (.tail _ he);refine hk _ _ h ?_;obtain⟨t,_,ht⟩:=iQ.mp he;unfold an.ents at ht;simp only[aY,bS,bT] at ht;rcases ht with rfl|rfl
    .show t.a+158≠78;simp
    .show t.d+158≠78;simp
 have OF:∀e∈cO p.L ts p.el,e.a<s.heap.objs.size/\158<=e.a:=λe he=>⟨fv (OG e he),by
  unfold cO at he;rcases aY.mp he with rfl|he
  .exact bN _ _
  .obtain⟨t,_,ht⟩:=iQ.mp he;unfold an.ents at ht;simp only[aY,bS,bT] at ht;rcases ht with rfl|rfl<;>exact bN _ _⟩
 have c:∀{a b:Nat} {o o':Obj} {n m:String},J.heap.get? (a+158)=some o->J.heap.get? (b+158)=some o'->o.cls=.type n->o'.cls=.type m->n≠m->a≠b:=λh h' e e' ne q=>jY h h' (by rw[e,e'];exact λh=>ne (Value.type.inj h)) (by rw[q]);have OE:(bm p.k ep K (p.L+158) false 0 .none).cls=.type "frame" :=rfl;have cX:∀e∈p.X,∀{b:Nat} {o':Obj} {m:String},J.heap.get? b=some o'->o'.cls=.type m->m≠ "cell" ->m≠ "slice" ->e.a≠b:=λe he b o' m h e' m1 m2=>jY (hX e he) h (by
  rw[e'];rcases(wh p e he).1 with q|q<;>rw[q]<;>intro h
  .exact m1 (Value.type.inj h).symm
  .exact m2 (Value.type.inj h).symm)
 have PX:∀e∈p.P ts,e∈p.X\/(e.a<s.heap.objs.size/\158<=e.a):=λe he=>by
  unfold bc.P at he;rcases aY.mp he with rfl|he
  .exact .inr (by have:=OF ⟨p.L+158,aa (ts.map an.ref) p.el⟩ aJ;exact this)
  .rcases dk.mp he with he|he
   .exact .inl he
   .exact .inr (OF e (.tail _ he))
 have z1:p.gf+158<J.heap.objs.size:=fv h1;refine⟨⟨⟨bC OH hm,z1,OI,O.fine,λe he=>⟨fv (hP e he),?_,?_⟩,λt ht=>?_⟩,OH,hm,n3,n4,n2,n1,fv h3,fv h4,fv h2,c h3 h4 rfl rfl (by decide),c h3 h2 rfl rfl (by decide),c h4 h2 rfl rfl (by decide),c h1 h3 OE rfl (by decide),c h1 h4 OE rfl (by decide),c h1 h2 OE rfl (by decide),λe he=>?_⟩,hP⟩
 .rcases PX e he with q|q
  .exact cX e q h1 OE (by decide) (by decide)
  .exact ld (au (ax n1 q.1))
 .rcases PX e he with q|q
  .exact(wh p e q).2
  .exact q.2
 .have O1:=O.apart t ht;have o0:=OF ⟨p.L+158,aa (ts.map an.ref) p.el⟩ aJ;have oa:=OF ⟨t.a+158,dU (t.d+158)⟩ (.tail _ (iQ.mpr ⟨t,ht,.head _⟩));have od:=OF ⟨t.d+158,t.D⟩ (.tail _ (iQ.mpr ⟨t,ht,cy⟩));dsimp only at o0 oa od;have lx:∀a∈aC p.X,s.heap.objs.size<=a:=λa ha=>by
   obtain⟨e,he,rfl⟩:=cT.mp ha;exact nX e he
  show((p.L+158)::(t.a+158)::(t.d+158)::aC p.X).Nodup;refine List.nodup_cons.mpr ⟨λh=>?_,List.nodup_cons.mpr ⟨λh=>?_,List.nodup_cons.mpr ⟨λh=>?_,OJ⟩⟩⟩
  .simp only[aY] at h;rcases h with h|h|h
   .lia
   .lia
   .have:=lx _ h;exact lf (ax o0.1 this)
  .simp only[aY] at h;rcases h with h|h
   .lia
   .have:=lx _ h;exact lf (ax oa.1 this)
  .have:=lx _ h;exact lf (ax od.1 this)
 .rcases PX e he with q|q
  .exact⟨cX e q h3 rfl (by decide) (by decide),cX e q h4 rfl (by decide) (by decide),cX e q h2 rfl (by decide) (by decide)⟩
  .exact⟨ld (au (ax n3 q.1)),⟨ld (au (ax n4 q.1)),ld (au (ax n2 q.1))⟩⟩
theorem r6 (w fr):bq (eC w fr):=ba rfl
theorem vg (w fr cd ga acc):bq (eV w fr cd ga acc):=ba rfl
theorem zM:∀{w:World} {A:Around} (hA:aL 600 A) {p:bc} {ts:List an} {B0 acc cd ga fr g:Nat} {nm qn:Value} {ep:Nat} {K:Nat->Int×Nat} {J:Shared} (G:FG p ts B0 J.heap.objs.size acc cd ga)
  (T1:aK w J) (hP:aQ J (p.P ts)) (h1:J.heap.get? (p.gf+158)=some (bm p.k ep K (p.L+158) false 0 .none)) (h2:J.heap.get? (ga+158)=some (bk g nm qn)) (h3:J.heap.get? (acc+158)=some (aa [] 0)) (h4:J.heap.get? (cd+158)=some (cn 0))
  (OJ:J.gens[g]? =some (.fresh (p.func w))) (OH:ts.length<=5000) {OE:Result->Sem Fin}
  (OF:∀b ep K e' n' t' g',ay (aG w 800) 20 (eC w (fr+158)) .top (OE (.ok .next)) 167936160 [⟨cd+158,cdO b ep K e'⟩] n' t' g' [] [] (.ret (.ok (.ret (.ref (acc+158))))) [] []),codeAny (model pw w) (A.under (eC w (fr+158))) (eV w (fr+158) (cd+158) (ga+158) (acc+158))
   (λr s2=>np (model pw w) A (λr s'=>r=.ok (.ret (.ref (acc+158)))/\dW (FU p J.heap.objs.size acc cd) g J s'/\aK w s'/\s'.heap.get? (acc+158)=some (aa ((p.items ts).map λt=>lp t.tv) (p.items ts).length)) (eC w (fr+158)) (OE r) s2) J:=by
 ext w A:0;intro hA;ext p ts B0 acc cd ga fr g nm qn ep K:0;ext J:0;intro G T1 hP h1 h2 h3 h4 OJ OH;ext OE:0;intro OF;have OG:aL 605 (A.under (eC w (fr+158))):=hA.under (r6 _ _);obtain⟨n,t,g0,S⟩:=T1.st (dJ h2) (d6 (bN _ _));refine dl (v:=aG w 800) (bx _) (OG.mono (d':=800)) S (vg _ _ _ _ _) 0 20 1184 [0] (λU=>.again (dz w (fr+158) (cd+158) (ga+158) (acc+158))) (λU=>[some ⟨ga+158,bk g nm qn⟩]) (λU=>[])
  (λU=>G9 w fr cd ga acc g nm qn n t g0) λr s2 D U=>?_
 have q1:∀a o,J.heap.get? a=some o->s2.heap.get? a=some o:=λa o h=>D.keepBut (l:=[⟨ga+158,bk g nm qn⟩]) (l':=[⟨ga+158,bk g nm qn⟩]) (dJ h2) (C:=[]) (λf hf=>.inr hf) a o h (λh=>nomatch h);have T2:=D.topS T1;have k2:dW (FU p J.heap.objs.size acc cd) g J s2:=D.keepUB (l:=[⟨ga+158,bk g nm qn⟩]) (l':=[⟨ga+158,bk g nm qn⟩]) (dJ h2) (C:=[]) (λf hf=>.inr hf) λa ha=>nomatch ha
 have OL:aL 705 ((A.under (eC w (fr+158))).under (dz w (fr+158) (cd+158) (ga+158) (acc+158))):=(OG.mono (d':=700)).under (pu _ _ _ _ _);have OI:(p.items ts).length<=5000:=bC (List.length_filter_le _ _) OH;refine⟨aX rfl,eG (zL (OG.mono (d':=700)) G (p.items ts) false 0 (λU=>(0,0)) 0 [] 0 (.fresh (p.func w)) [⟨p.gf+158,bm p.k ep K (p.L+158) false 0 .none⟩] s2 [] rfl (by simp;exact(au OI)) D.more T2
  (jB (q1 _ _ h2) (q1 _ _ h3) (q1 _ _ h4)) (λe he=>q1 _ _ (hP e he)) (D.gkeep _ _ OJ) rfl (λe he=>by rw[cD] at he;subst he;exact .inl rfl) (dJ (q1 _ _ h1)) λs' T' H' P' hm=>⟨rfl,BB ((uL OL).mono (by decide)) G.g (bC D.more hm) T' (H' _ aJ) P'⟩) λr s3 h=>?_⟩
 obtain⟨rfl,k3,T3,b,OK,K',e',H3⟩:=h;obtain⟨n3,t3,g3,S3⟩:=T3.st (dJ (H3 _ cy)) (d6 (bN _ _));refine vF (v:=aG w 800) (bx _) (hA.mono (d':=800)) S3 (r6 _ _) 0 20 167936160 [] (λU=>.ret (.ok (.ret (.ref (acc+158))))) (λU=>[]) (λU=>[])
  (λU=>OF b OK K' e' n3 t3 g3) λr s4 D4 U=>?_
 refine⟨rfl,k2.trans (k3.trans (D4.keepU λa ha=>?_)),D4.topS T3,?_⟩
 .simp only[de,fK,aY,bS,bT] at ha;exact .inr (.inl ha)
 .have:=D4.keep _ _ (H3 _ aJ) (by
   simp only[de,fK,aY,bS,bT];have:=G.ac;exact tF this)
  simpa using this
def iE (k:f7) (x y:Str) (ln:Int) (t:Option (Str×Nat)):Bool:=match t with
 |none=>false
 |some z=>match k with
  |.any=>true
  |.plain=>match z.1.cps[0]? with
   |some c=>!(c==123)
   |none=>false
  |.suff=>match z.1.cps.toList==x.cps.toList with
   |true=>true
   |false=>(cut z.1 (some ln) none).cps.toList==y.cps.toList
  |.ns=>(cut z.1 none (some ln)).cps.toList==x.cps.toList
def fi (k:f7) (x y:Str) (ln:Int) (ts:List an):List Value:=(ts.filter λt:an=>iE k x y ln t.tv).map λt:an=>lp t.tv
theorem BM (k x y ln ts):(fi k x y ln ts).length=(ts.filter λt:an=>iE k x y ln t.tv).length:=lQ ..
def iy (w:World) (s:Shared) (J:List Value) (T2:List ad->Prop):Result->Shared->Prop:=λr s'=>∃(acc:Nat) (tb:List ad),r=.ok (.ret (.ref (acc+158)))/\T2 tb/\bH w s s' [78] (⟨acc+158,aa J J.length⟩::tb)
theorem uh {P:aq->Prop} (h:P a) (J:P b):∀f∈[a,b],P f:=by simp[h,J]
theorem zN {P:aq->Prop} (h:P a) (J:P b) (h3:P c) (h4:P d) (h5:P e) (h6:P f) (h7:P g) (h8:P i):∀j∈[a,b,c,d,e,f,g,i],P j:=by simp[h,J,h3,h4,h5,h6,h7,h8]
theorem dW.aft {V:Nat->Prop} {sel ng} (D:bu (kt w) s s1 A1 sel ng) (k:dW V g s1 s') (hU:∀a,a<s.heap.objs.size->¬V a) (hg:s.gens.size<=g) (T:aK w s')
  (hk:∀a o,s.heap.get? a=some o->a≠78->s1.heap.get? a=some o) (J:∀e∈l,e.a=78\/s.heap.objs.size<=e.a) (hl:aQ s' l):bH w s s' [78] l:=
 ⟨T,bC D.more k.more,bC D.tmore k.tmore,k.drawn.trans D.drawn,k.os.trans D.os,λa o h n=>k.keep a o (hU a (fv h)) (hk a o h (by simpa using n)),λj x h=>k.gkeep j x (by
   intro e;subst e;rw[Array.getElem?_eq_none hg] at h;cases h) (D.gkeep j x h),λe he=>(J e he).imp (λq=>by rw[q];exact .head _) id,hl⟩
theorem gu:∀{w:World} {A:Around} (hA:aL 600 A) {s s1:Shared} (T:aK w s) {p:bc} {ts:List an} {l0:List ad} (H:aQ s l0) (O:fh p.L ts) (OM:p.xs=ts.map an.ref) (OL:aQ s (cO p.L ts p.el)) {E J:ad} {acc cd ga gg fr ep:Nat} {K:Nat->Int×Nat} {nm qn:Value} (OE:E.a=78) (hl:∀e∈l0,e.a=78\/e=J)
  (D:bu (kt w) s s1 (aC l0) (([E,J,⟨p.gf+158,bm p.k ep K (p.L+158) false 0 .none⟩,⟨ga+158,bk gg nm qn⟩,⟨acc+158,aa [] 0⟩,⟨cd+158,cn 0⟩]++p.X).map some) [(gg,p.func w)])
  (P:jO (([E,J,⟨p.gf+158,bm p.k ep K (p.L+158) false 0 .none⟩,⟨ga+158,bk gg nm qn⟩,⟨acc+158,aa [] 0⟩,⟨cd+158,cn 0⟩]++p.X).map some)) {tb:List ad} (OK:tb=[E]\/(tb=[E,J]/\∀e∈l0,e.a=78)) {R:Result->Shared->Prop}
  {OF:Result->Sem Fin} (OI:∀b ep K e' n' t' g',ay (aG w 800) 20 (eC w (fr+158)) .top (OF (.ok .next)) 167936160 [⟨cd+158,cdO b ep K e'⟩] n' t' g' [] [] (.ret (.ok (.ret (.ref (acc+158))))) [] [])
  (hR:∀s',bH w s s' [78] (⟨acc+158,aa (fi p.k p.x p.y p.ln ts) (fi p.k p.x p.y p.ln ts).length⟩::tb)->R (.ok (.ret (.ref (acc+158)))) s'),codeAny (model pw w) (A.under (eC w (fr+158))) (eV w (fr+158) (cd+158) (ga+158) (acc+158)) (λr s2=>np (model pw w) A R (eC w (fr+158)) (OF r) s2) s1:=by
 ext w A:0;intro hA;ext s s1:0;intro T;ext p ts l0:0;intro H O OM OL;ext E J acc cd ga gg fr ep K nm qn:0;intro OE hl D P;ext tb:0;intro OK;ext R OF:0;intro OI hR;have hs:=T.size;have T1:=D.topS T;have H1:=D.has;have PL:=(mT.mp P).imp λh=>h _ _ rfl rfl;obtain⟨pE,PL⟩:=lP.mp PL;obtain⟨pC,PL⟩:=lP.mp PL;have nw:∀e,some e∈([E,J,⟨p.gf+158,bm p.k ep K (p.L+158) false 0 .none⟩,⟨ga+158,bk gg nm qn⟩,⟨acc+158,aa [] 0⟩,⟨cd+158,cn 0⟩]++p.X).map some->E.a≠e.a->(J.a≠e.a\/∀e∈l0,e.a=78)->s.heap.objs.size<=e.a:=λe he h1 h2=>by
  rcases D.adr e he with q|q
  .refine eO λU k_=>?_;obtain⟨f,hf,q⟩:=cT.mp q;refine k_ ?_;rcases h2 with h2|h2
   .rcases hl f hf with z|z
    .exact bh (OE.trans (z.symm.trans q)) h1
    .exact bh (by rw[<-z];exact q) h2
   .exact bh (OE.trans ((h2 f hf).symm.trans q)) h1
  .exact q
 have OG:∀e∈([⟨p.gf+158,bm p.k ep K (p.L+158) false 0 .none⟩,⟨ga+158,bk gg nm qn⟩,⟨acc+158,aa [] 0⟩,⟨cd+158,cn 0⟩]++p.X:List ad),s.heap.objs.size<=e.a:=λe he=>nw e (.tail _ (.tail _ (jv he))) (pE e (.tail _ he)) (.inl (pC e he));have hk:∀(a:Nat) o,s.heap.get? a=some o->a≠78->s1.heap.get? a=some o:=λa o h hn=>by
  by_cases ha:a∈aC l0
  .refine eO λU k_=>?_;obtain⟨f,hf,q⟩:=cT.mp ha;refine k_ ?_;rcases hl f hf with z|z
   .exact bh (q.symm.trans z) hn
   .subst z;subst q;rw[<-h,H f hf];exact H1 f cy
  .exact D.keep a o h ha
 have n1:=OG _ aJ;have n2:=OG _ cy;have n3:=OG _ gr;have n4:=OG _ vA;have e1:=H1 _ gr;have e2:=H1 _ vA;have e3:=H1 _ Bk;have e4:=H1 _ Fu;have hX:aQ s1 p.X:=λe he=>H1 e (.tail _ (.tail _ (.tail _ (.tail _ (.tail _ (.tail _ he))))));obtain⟨G,hP⟩:=BL O OM hs hk D.more OL e1 e2 e3 e4 hX n1 n2 n3 n4 (λe he=>OG e (.tail _ (.tail _ (.tail _ (.tail _ he))))) (mT.mpr (List.pairwise_append.mp PL).2.1);have OJ:∀r s3,(r=.ok (.ret (.ref (acc+158)))/\dW (FU p s1.heap.objs.size acc cd) gg s1 s3/\aK w s3/\s3.heap.get? (acc+158)=some (aa ((p.items ts).map λt=>lp t.tv) (p.items ts).length))->R r s3:=λr s3 OH=>by
  obtain⟨hr,kq,T3,h5⟩:=OH;subst hr;have hU:∀a,a<s.heap.objs.size->¬FU p s1.heap.objs.size acc cd a:=λa ha hu=>by
   have hm:=D.more;unfold FU at hu;dsimp only at n1 n3 n4;lia
  have kE:s3.heap.get? E.a=some E.o:=kq.keep _ _ (hU _ (by rw[OE];exact(au hs))) (H1 _ aJ);have kC:s3.heap.get? J.a=some J.o:=kq.keep _ _ (λhu=>by
   have z1:J.a≠p.gf+158:=pC _ aJ;have z2:J.a≠acc+158:=pC _ gr;have z3:J.a≠cd+158:=pC _ vA;have z4:=fv (H1 _ cy);unfold FU at hu;lia) (H1 _ cy)
  refine hR s3 (dW.aft D kq hU (D.gnum _ aJ) T3 hk ?_ ?_)
  .refine mS.mpr ⟨.inr n3,?_⟩;rcases OK with e|⟨e,h⟩
   .rw[e];exact i5.mpr (.inl OE)
   .rw[e];exact mS.mpr ⟨.inl OE,i5.mpr (.inr (nw J cy (pE _ aJ) (.inr h)))⟩
  .refine mS.mpr ⟨by rw[BM];exact h5,?_⟩;rcases OK with e|⟨e,h⟩
   .rw[e];exact i5.mpr kE
   .rw[e];exact mS.mpr ⟨kE,i5.mpr kC⟩
 refine eG (zM hA G T1 hP e1 e2 e3 e4 (D.gnew _ aJ) O.few OI) λr s2 h=>dR h (λf s3 x=>?_) λU s3 x=>OJ _ _ x;cases f with
 |again c=>exact⟨x.1,eG x.2 λr s h=>OJ r s h⟩
 |done f=>exact OJ _ _ x
theorem BN:aj [⟨78,aP []⟩]:=by refine⟨by trivial,λe J=>?_⟩;rw[cD] at J;subst J;exact .inr rfl
theorem xN:∀(w:World) (tw L:Nat) (ts:List an) (el:Nat) (q:Nat) (hq:q≠42) (O:fh L ts) {A:Around} {s:Shared} (hA:aL 600 A) (T:aK w s) (H:aQ s [⟨78,aP []⟩]) (J:aQ s (cO L ts el)),codeAny (model pw w) A (a8 ⟨#[123,42,125,q]⟩ tw L) (iy w s (fi .suff ⟨#[q]⟩ ⟨#[125,q]⟩ (-2) ts) (λtb=>∃nb OE,tb=[⟨78,aP [(87,nb+5)]⟩,⟨nb+5+158,fO 87 nb OE 12⟩])) s:=by
 ext w tw L ts el q:0;intro hq O;ext A s:0;intro hA T H J;obtain⟨n,t,g,S⟩:=T.st H (BN);refine dl (v:=vL w 800 900 (nJ q)) (bE (zN (aO (by simpa[cZ] using hq)) (aO (by rfl)) (aO rfl) iY (dC (by kernel_rfl) (by show 4<=1000;exact bN _ _)) (dC (by kernel_rfl) (by show 4<=1000;exact bN _ _)) (dC (by kernel_rfl) (by show 4<=1000;exact bN _ _)) (nI (by show(2:Int)<2^63;decide)))) (hA.mono (d':=800)) S (bJ _ _) 3 400 ia [0,24,26,27,28,29,4,5,3,9,6,16] _ _ _
  (λr=>xJ tw L (ts.map an.ref) el q n t g (r 0) (r 1) (r 2) w) λr s1 D P=>?_
 exact gu hA T (p:=(po n L (ts.map an.ref) el q (r 0) (r 1) (r 2) _)) H O rfl J rfl (i5.mpr (.inl rfl)) D (P (by decide)) (.inr ⟨rfl,i5.mpr rfl⟩) (λb ep K e' n' t' g'=>xL tw L (ts.map an.ref) el q n t g (r 0) (r 1) (r 2) ep K e' n' t' g' w b) λs' h=>⟨_,_,rfl,⟨_,_,rfl⟩,h⟩
theorem DQ (k0):aj [⟨78,aP [(87,k0)]⟩]:=by refine⟨by simp,λe J=>?_⟩;rw[cD] at J;subst J;exact .inr rfl
theorem zO:∀(w:World) (tw L:Nat) (ts:List an) (el:Nat) (k0:Nat) (O:fh L ts) {A:Around} {s:Shared} (hA:aL 600 A) (T:aK w s) (H:aQ s [⟨78,aP [(87,k0)]⟩]) (J:aQ s (cO L ts el)),codeAny (model pw w) A (a8 cZ tw L) (iy w s (fi .any ⟨#[]⟩ ⟨#[]⟩ 0 ts) (λtb=>∃nb OE,tb=[⟨78,aP [(87,k0),(71,nb+5)]⟩,⟨nb+5+158,fO 71 nb OE 8⟩])) s:=by
 ext w tw L ts el k0:0;intro O;ext A s:0;intro hA T H J;obtain⟨n,t,g,S⟩:=T.st H (DQ k0);ext n t g ⟨S⟩;refine dl (v:=vL w 800 900 ud) (bE (fq (aO rfl))) (hA.mono (d':=800)) S (bJ _ _) 0 400 me [0,20,22,23,24,25,4,5] _ _ _
  (λr=>zD tw L (ts.map an.ref) el k0 n t g w) λr s1 D P=>?_
 exact gu hA T (p:=(ru n L (ts.map an.ref) el 0)) H O rfl J rfl (i5.mpr (.inl rfl)) D (P (by decide)) (.inr ⟨rfl,i5.mpr rfl⟩) (λb ep K e' n' t' g'=>zI tw L (ts.map an.ref) el k0 n t g ep K e' n' t' g' w b) λs' h=>⟨_,_,rfl,⟨_,_,rfl⟩,h⟩
theorem zQ (k0 k1):aj [⟨78,aP [(87,k0),(71,k1)]⟩]:=by refine⟨by simp,λe J=>?_⟩;rw[cD] at J;subst J;exact .inr rfl
theorem wi:∀(w:World) (tw L:Nat) (ts:List an) (el:Nat) (k0 k1:Nat) (O:fh L ts) {A:Around} {s:Shared} (hA:aL 600 A) (T:aK w s) (H:aQ s [⟨78,aP [(87,k0),(71,k1)]⟩]) (J:aQ s (cO L ts el)),codeAny (model pw w) A (a8 ck tw L) (iy w s (fi .plain ⟨#[]⟩ ⟨#[]⟩ 0 ts) (λtb=>∃nb OE,tb=[⟨78,aP [(87,k0),(71,k1),(77,nb+5)]⟩,⟨nb+5+158,fO 77 nb OE 9⟩])) s:=by
 ext w tw L ts el k0 k1:0;intro O;ext A s:0;intro hA T H J;obtain⟨n,t,g,S⟩:=T.st H (zQ k0 k1);ext n t g ⟨S⟩;refine dl (v:=vL w 800 900 pq) (bE (uh (aO (by decide)) (aO rfl))) (hA.mono (d':=800)) S (bJ _ _) 0 400 mG [0,20,22,23,24,25,4,5] _ _ _
  (λr=>wd tw L (ts.map an.ref) el k0 k1 n t g w) λr s1 D P=>?_
 exact gu hA T (p:=(nK n L (ts.map an.ref) el 0)) H O rfl J rfl (i5.mpr (.inl rfl)) D (P (by decide)) (.inr ⟨rfl,i5.mpr rfl⟩) (λb ep K e' n' t' g'=>wf tw L (ts.map an.ref) el k0 k1 n t g ep K e' n' t' g' w b) λs' h=>⟨_,_,rfl,⟨_,_,rfl⟩,h⟩
theorem Ha (k0 k1 k2):aj [⟨78,aP [(87,k0),(71,k1),(77,k2)]⟩]:=by refine⟨by simp,λe J=>?_⟩;rw[cD] at J;subst J;exact .inr rfl
theorem BO:∀(w:World) (tw L:Nat) (ts:List an) (el:Nat) (k0 k1 k2:Nat) (W Z3 J:Str) (hW:W.length<=1000) (OE:(W.cps.toList==cZ.cps.toList)=false) (OF:(W.cps.toList==ck.cps.toList)=false) (hZ:Z3=cut W none (some 3)) (OH:(Z3.cps.toList==m7.cps.toList)=false) (OG:pj=cut W (some (-2)) none) (hN:J=cut W none (some (-1))) (O:fh L ts) {A:Around} {s:Shared} (hA:aL 600 A) (T:aK w s) (H:aQ s [⟨78,aP [(87,k0),(71,k1),(77,k2)]⟩]) (OI:aQ s (cO L ts el)),codeAny (model pw w) A (a8 W tw L) (iy w s (fi .ns J ⟨#[]⟩ (J.cps.size:Int) ts) (λtb=>∃nb OJ,tb=[⟨78,aP [(87,k0),(71,k1),(77,k2),(96,nb+5)]⟩,⟨nb+5+158,fO 96 nb OJ 11⟩])) s:=by
 ext w tw L ts el k0 k1 k2 W Z3:0;ext J:0;intro hW OE OF hZ OH OG hN O;ext A s:0;intro hA T H OI;obtain⟨n,t,g,S⟩:=T.st H (Ha k0 k1 k2);refine dl (v:=vL w 800 900 (r4 W Z3 J)) (bE (zN (aO OE) (aO OF) (aO OH) (aO rfl) (dC hZ hW) (dC OG hW) (dC hN hW) (nI (by have:J.length<=W.length:=(by rw[hN];exact iX _ _ _);lia)))) (hA.mono (d':=800)) S (bJ _ _) 3 400 nL [0,24,26,27,28,29,4,5,7,8,17] _ _ _
  (λr=>BF tw L (ts.map an.ref) el k0 k1 k2 W Z3 J n t g (r 0) (r 1) (r 2) w) λr s1 D P=>?_
 exact gu hA T (p:=(ue n L (ts.map an.ref) el W Z3 J (r 0) (r 1) (r 2) _)) H O rfl OI rfl (i5.mpr (.inl rfl)) D (P (by decide)) (.inr ⟨rfl,i5.mpr rfl⟩) (λb ep K e' n' t' g'=>BJ tw L (ts.map an.ref) el k0 k1 k2 W Z3 J n t g (r 0) (r 1) (r 2) ep K e' n' t' g' w b) λs' h=>⟨_,_,rfl,⟨_,_,rfl⟩,h⟩
theorem BP (k0 k1 k2 k3 v0 tq rq):aj [⟨78,aP [(87,k0),(71,k1),(77,k2),(96,k3)]⟩,⟨k0+158,db v0 tq rq⟩]:=by refine⟨by simp<;>lia,λe he=>?_⟩;rcases aY.mp he with rfl|he;exact .inr rfl;rw[cD] at he;subst he;exact .inl (bN _ _)
theorem xO:∀w tw L ts el k0 k1 k2 k3 v0 tq rq q (hq:q≠42) (O:fh L ts) {A s} (hA:aL 600 A) (T:aK w s) (H:aQ s [⟨78,aP [(87,k0),(71,k1),(77,k2),(96,k3)]⟩,⟨k0+158,db v0 tq rq⟩]) (J:aQ s (cO L ts el)),codeAny (model pw w) A (a8 ⟨#[123,42,125,q]⟩ tw L) (iy w s (fi .suff ⟨#[q]⟩ ⟨#[125,q]⟩ (-2) ts) (λtb=>tb=[⟨78,aP [(87,k0),(71,k1),(77,k2),(96,k3)]⟩])) s:=by
 ext w tw L ts el k0 k1 k2 k3 v0:0;ext tq rq q:0;intro hq O;ext A s:0;intro hA T H J;obtain⟨n,t,g,S⟩:=T.st H (BP k0 k1 k2 k3 v0 tq rq);refine dl (v:=vL w 800 900 (nM q)) (bE (zN (aO (by simpa[cZ] using hq)) (aO (by rfl)) (aO rfl) iY (dC (by kernel_rfl) (by show 4<=1000;lia)) (dC (by kernel_rfl) (by show 4<=1000;lia)) (dC (by kernel_rfl) (by show 4<=1000;lia)) (nI (by show(2:Int)<2^63;decide)))) (hA.mono (d':=800)) S (bJ _ _) 3 400 ib [0,1,21,22,23,24,5,6,4,10,7,17] _ _ _
  (λr=>xK tw L (ts.map an.ref) el k0 k1 k2 k3 v0 tq rq q n t g (r 0) (r 1) (r 2) w) λr s1 D P=>?_
 exact gu hA T (p:=(pr n L (ts.map an.ref) el k0 q (r 0) (r 1) (r 2) _)) H O rfl J rfl (mS.mpr ⟨.inl rfl,i5.mpr (.inr rfl)⟩) D (P (by decide)) (.inl rfl) (λb ep K e' n' t' g'=>xM tw L (ts.map an.ref) el k0 k1 k2 k3 v0 tq rq q n t g (r 0) (r 1) (r 2) ep K e' n' t' g' w b) λs' h=>⟨_,_,rfl,rfl,h⟩
theorem DR (k0 k1 k2 k3 v0 tq rq):aj [⟨78,aP [(87,k0),(71,k1),(77,k2),(96,k3)]⟩,⟨k1+158,db v0 tq rq⟩]:=by refine⟨by simp<;>lia,λe he=>?_⟩;rcases aY.mp he with rfl|he;exact .inr rfl;rw[cD] at he;subst he;exact .inl (bN _ _)
theorem zR:∀w tw L ts el k0 k1 k2 k3 v0 tq rq (O:fh L ts) {A s} (hA:aL 600 A) (T:aK w s) (H:aQ s [⟨78,aP [(87,k0),(71,k1),(77,k2),(96,k3)]⟩,⟨k1+158,db v0 tq rq⟩]) (J:aQ s (cO L ts el)),codeAny (model pw w) A (a8 cZ tw L) (iy w s (fi .any ⟨#[]⟩ ⟨#[]⟩ 0 ts) (λtb=>tb=[⟨78,aP [(87,k0),(71,k1),(77,k2),(96,k3)]⟩])) s:=by
 ext w tw L ts el k0 k1 k2 k3 v0:0;ext tq rq:0;intro O;ext A s:0;intro hA T H J;obtain⟨n,t,g,S⟩:=T.st H (DR k0 k1 k2 k3 v0 tq rq);ext n t g ⟨S⟩;refine dl (v:=vL w 800 900 uf) (bE (fq (aO rfl))) (hA.mono (d':=800)) S (bJ _ _) 0 400 mf [0,1,17,18,19,20,5,6] _ _ _
  (λr=>zF tw L (ts.map an.ref) el k0 k1 k2 k3 v0 tq rq n t g w) λr s1 D P=>?_
 exact gu hA T (p:=(rv n L (ts.map an.ref) el k1 0)) H O rfl J rfl (mS.mpr ⟨.inl rfl,i5.mpr (.inr rfl)⟩) D (P (by decide)) (.inl rfl) (λb ep K e' n' t' g'=>zJ tw L (ts.map an.ref) el k0 k1 k2 k3 v0 tq rq n t g ep K e' n' t' g' w b) λs' h=>⟨_,_,rfl,rfl,h⟩
theorem zT (k0 k1 k2 k3 v0 tq rq):aj [⟨78,aP [(87,k0),(71,k1),(77,k2),(96,k3)]⟩,⟨k2+158,db v0 tq rq⟩]:=by refine⟨by simp<;>lia,λe he=>?_⟩;rcases aY.mp he with rfl|he;exact .inr rfl;rw[cD] at he;subst he;exact .inl (bN _ _)
theorem wj:∀w tw L ts el k0 k1 k2 k3 v0 tq rq (O:fh L ts) {A s} (hA:aL 600 A) (T:aK w s) (H:aQ s [⟨78,aP [(87,k0),(71,k1),(77,k2),(96,k3)]⟩,⟨k2+158,db v0 tq rq⟩]) (J:aQ s (cO L ts el)),codeAny (model pw w) A (a8 ck tw L) (iy w s (fi .plain ⟨#[]⟩ ⟨#[]⟩ 0 ts) (λtb=>tb=[⟨78,aP [(87,k0),(71,k1),(77,k2),(96,k3)]⟩])) s:=by
 ext w tw L ts el k0 k1 k2 k3 v0:0;ext tq rq:0;intro O;ext A s:0;intro hA T H J;obtain⟨n,t,g,S⟩:=T.st H (zT k0 k1 k2 k3 v0 tq rq);ext n t g ⟨S⟩;refine dl (v:=vL w 800 900 pt) (bE (uh (aO (by decide)) (aO rfl))) (hA.mono (d':=800)) S (bJ _ _) 0 400 mH [0,1,17,18,19,20,5,6] _ _ _
  (λr=>we tw L (ts.map an.ref) el k0 k1 k2 k3 v0 tq rq n t g w) λr s1 D P=>?_
 exact gu hA T (p:=(nN n L (ts.map an.ref) el k2 0)) H O rfl J rfl (mS.mpr ⟨.inl rfl,i5.mpr (.inr rfl)⟩) D (P (by decide)) (.inl rfl) (λb ep K e' n' t' g'=>wg tw L (ts.map an.ref) el k0 k1 k2 k3 v0 tq rq n t g ep K e' n' t' g' w b) λs' h=>⟨_,_,rfl,rfl,h⟩
theorem Hb (k0 k1 k2 k3 v0 tq rq):aj [⟨78,aP [(87,k0),(71,k1),(77,k2),(96,k3)]⟩,⟨k3+158,db v0 tq rq⟩]:=by refine⟨by simp<;>lia,λe he=>?_⟩;rcases aY.mp he with rfl|he;exact .inr rfl;rw[cD] at he;subst he;exact .inl (bN _ _)
theorem BQ:∀w tw L ts el k0 k1 k2 k3 v0 tq rq W Z3 J (hW:W.length<=1000) (OE:(W.cps.toList==cZ.cps.toList)=false) (OF:(W.cps.toList==ck.cps.toList)=false) (hZ:Z3=cut W none (some 3)) (OH:(Z3.cps.toList==m7.cps.toList)=false) (OG:pj=cut W (some (-2)) none) (hN:J=cut W none (some (-1))) (O:fh L ts) {A s} (hA:aL 600 A) (T:aK w s) (H:aQ s [⟨78,aP [(87,k0),(71,k1),(77,k2),(96,k3)]⟩,⟨k3+158,db v0 tq rq⟩]) (OI:aQ s (cO L ts el)),codeAny (model pw w) A (a8 W tw L) (iy w s (fi .ns J ⟨#[]⟩ (J.cps.size:Int) ts) (λtb=>tb=[⟨78,aP [(87,k0),(71,k1),(77,k2),(96,k3)]⟩])) s:=by
 ext w tw L ts el k0 k1 k2 k3 v0:0;ext tq rq W Z3 J:0;intro hW OE OF hZ OH OG hN O;ext A s:0;intro hA T H OI;obtain⟨n,t,g,S⟩:=T.st H (Hb k0 k1 k2 k3 v0 tq rq);refine dl (v:=vL w 800 900 (r5 W Z3 J)) (bE (zN (aO OE) (aO OF) (aO OH) (aO rfl) (dC hZ hW) (dC OG hW) (dC hN hW) (nI (by have:J.length<=W.length:=(by rw[hN];exact iX _ _ _);lia)))) (hA.mono (d':=800)) S (bJ _ _) 3 400 nO [0,1,21,22,23,24,5,6,8,9,18] _ _ _
  (λr=>BH tw L (ts.map an.ref) el k0 k1 k2 k3 v0 tq rq W Z3 J n t g (r 0) (r 1) (r 2) w) λr s1 D P=>?_
 exact gu hA T (p:=(ug n L (ts.map an.ref) el k3 W Z3 J (r 0) (r 1) (r 2) _)) H O rfl OI rfl (mS.mpr ⟨.inl rfl,i5.mpr (.inr rfl)⟩) D (P (by decide)) (.inl rfl) (λb ep K e' n' t' g'=>BK tw L (ts.map an.ref) el k0 k1 k2 k3 v0 tq rq W Z3 J n t g (r 0) (r 1) (r 2) ep K e' n' t' g' w b) λs' h=>⟨_,_,rfl,rfl,h⟩
def m8 (v:Value):Code:=.call (.ref 118) ⟨[v],[]⟩
def rx:Nat:=0x64190641906419064000641900300002280a01d476+((rp 100 0 10 17)+0xa0284a128464288631906428864288642880018c64190a2280a0280a0284a128464288631906428864288642880018c64190a228ca3008a328ca328c60184001846319064288642886419063<<<170)<<<180
def kT (w:World) (y:Nat):Nat->Int×Nat:=ik (ik (λU=>(0,0)) 0 (aB w FK,y)) 1 (aB w DK,y+3)
theorem DS (w z tz n t g):
  ay (aG w 800) 300 (m8 (.str z (tz+1))) .top (aM (m8 (.str z (tz+1)))) rx [] n t g [] [1,2] (.ret (.ok (.ret (.ref (n+160))))) [some ⟨n+159,ee 2 (kT w (t+4)) (.str z (tz+1))⟩,some ⟨n+160,dU (n+159)⟩] []:=by kernel_rfl
theorem BR (w n t g):
  ay (aG w 800) 300 (m8 .none) .top (aM (m8 .none)) rx [] n t g [] [1,2] (.ret (.ok (.ret (.ref (n+160))))) [some ⟨n+159,ee 2 (kT w (t+4)) .none⟩,some ⟨n+160,dU (n+159)⟩] []:=by kernel_rfl
def wk (w:World) (v:Value):HR->j5:=λρ=>⟨.ok (.ret (.ref (ρ.x+160))),[],[⟨ρ.x+159,ee 2 (kT w ρ.y) v⟩,⟨ρ.x+160,dU (ρ.x+159)⟩]⟩
theorem zU (w tv):kr w 800 (m8 (lp tv)) [] (wk w (lp tv)):=
 l9 (bx _) (bJ _ _) cj 0 300 rx [1,2] (λn U U U=>.ok (.ret (.ref (n+160)))) (λn t U U=>[⟨n+159,ee 2 (kT w (t+4)) (lp tv)⟩,⟨n+160,dU (n+159)⟩]) (λU U U U=>[])
  (λn t g rs h=>by
   obtain rfl:=dI.mp h;cases tv with
   |none=>exact BR w n t g
   |some q=>exact DS w q.1 q.2 n t g)
  (λn t U U U=>⟨n,t+4,0,λU U U=>⟨rfl,rfl,rfl,by
   refine ah ?_<|ah ?_ aE
   .show n+158<=n+159;simp
   .show n+158<=n+160;simp,by simp⟩⟩)
def Mm (v:Value):Option (Str×Nat):=match v with
 |.str z t=>some (z,t - 1)
 |_=>none
def px (w:World):aq:=λc _=>some ⟨[],[(c,m8 (lp (Mm (bI c 0))))],.gen (wk w (lp (Mm (bI c 0))))⟩
theorem py:ai w 800 (px w):=bj λc lk A s hA hT J=>bf.of_code (zU w _ A s hA hT (λU h=>nomatch h))
def dH (t f:Nat):List Nat:=match Nat.blt t f with
 |true=>List.replicate (t+1) 46
 |false=>33::List.replicate f 46
def ui (t f:Nat):Str:=⟨(dH t f).toArray⟩
def zV (t f tt J:Nat):Code:=.call (.ref 152) ⟨[.int t (tt+1),.int f (J+1)],[]⟩
def BS:Nat:=0x28000280a000002280a0280a025c98
def nP:List (Nat×Nat×Nat):=[(1,1,4),(1,2,5),(1,3,5),(1,4,5),(2,1,4),(2,2,5),(2,3,5),(2,4,5),(3,1,4),(3,2,5),(3,3,5),(3,4,5)]
def BU (w:World) (tt J n t g:Nat) (p:Nat×Nat×Nat):gt:=fw (aG w 800) 100 (zV p.1 p.2.1 tt J) .top (aM (zV p.1 p.2.1 tt J)) BS (E0 []) (M0 []) (n+158) 0 (t+1) 0 g 0 (L0 [])
theorem DT (tt tf n t g):∀w,nP.map (λp=>oL [] (BU w tt tf n t g p))=nP.map (λp=>oM (.ret (.ok (.ret (.str (ui p.1 p.2.1) (t+p.2.2+1))))) [] [] (BU w tt tf n t g p)):=aT
theorem Hc (J:1<=t) (h2:t<=3) (h3:1<=f) (h4:f<=4):∃d,(t,f,d)∈nP:=by
 have ht:t=1\/t=2\/t=3:=by lia
 have hf:f=1\/f=2\/f=3\/f=4:=by lia
 clear J h2 h3 h4;rcases ht with rfl|rfl|rfl<;>rcases hf with rfl|rfl|rfl|rfl<;>exact⟨_,by unfold nP;repeat (first|exact .head _|refine .tail _ ?_)⟩
theorem DU (w) (h1:1<=t) (h2:t<=3) (h3:1<=f) (h4:f<=4) (tt tf):kr w 800 (zV t f tt tf) [] (hV (ui t f)):=by
 obtain⟨d,hd⟩:=Hc h1 h2 h3 h4;exact l9 (bx _) (bJ _ _) cj 0 100 BS [] (λU J U U=>.ok (.ret (.str (ui t f) (J+d+1)))) (λU U U U=>[]) (λU U U U=>[])
  (λn J g rs h=>by
   obtain rfl:=dI.mp h;exact mW (DT tt tf n J g w) hd)
  (λU J U U U=>⟨J+d,0,0,λU U U=>⟨rfl,rfl,rfl,λU h=>(nomatch h),.nil⟩⟩)
section
open Builtin.Str (strSliceIndices glued tooLong)
theorem ai.mono (h:ai w d f) (hd:d'<=d):ai w d' f:=λc lk sp e J A s hA hT hq=>h c lk sp e J A s (hA.mono hd) hT hq
theorem BV:∀{w A s a xs ep t k v} {R:Result->Shared->Prop} (ho:s.heap.get? a=some (aa xs ep)) (h0:0<=k) (J:k<2^63) (hx:xs.toArray[k.toNat]? =some v) (h:R (.ok (.ret v)) s),bf (model pw w) A (.call (.builtin "list.__getitem__") ⟨[.ref a,.int k t],[]⟩) R s:=by
 ext w A s a xs ep t k v R:0;intro ho h0 J hx h;refine cz slot_list_getitem (⟨_,ho,rfl⟩:Shared.TypeIs _ (.ref a) "list") entry_list_getitem (args_list_getitem _ _) ?_;show wpAny _ _ (Builtin.List.listSubscript? (.int k t)>>=_) _ _ s;refine ao (wpAny_listSubscript_int (fitsIndex_of h0 J) ?_);clear J;obtain⟨j,rfl⟩:=Int.eq_ofNat_of_zero_le h0;ext j ⟨h0,hx⟩;have OE:xs.toArray[j]? =some v:=hx;have OF:j<xs.toArray.size:=by
  by_cases q:j<xs.toArray.size
  .exact q
  .rw[Array.getElem?_eq_none (Nat.le_of_not_lt q)] at OE;cases OE
 show wpAny _ _ ((seqItemAt a j>>=λr=>pure (r.map (j,·)))>>=_) _ _ s;refine ao (ao (wpAny_seqItemAt ho rfl (aH ?_)));rw[OE];exact aH h
theorem wm {w:World} {A:Around} {s:Shared} {a:Nat} {xs:List Value} {ep i t:Nat} {v:Value} {R:Result->Shared->Prop} (J:s.heap.get? a=some (aa xs ep)) (hx:xs[i]? =some v) (hi:i<2^63) (h:R (.ok (.ret v)) s):
  bf (model pw w) A (.call (.builtin "list.__getitem__") ⟨[.ref a,.int (i:Int) t],[]⟩) R s:=
 BV J (Int.natCast_nonneg i) (by lia) (by simpa using hx) h
def ap (f:Nat->Value):List Value:=[f 0,f 1,f 2,f 3,f 4,f 5,f 6,f 7]
theorem fz:∀f {i} (h:i<8),(ap f)[i]? =some (f i):=by
 ext f i:0;intro h;have:i=0\/i=1\/i=2\/i=3\/i=4\/i=5\/i=6\/i=7:=y3 h;rcases this with rfl|rfl|rfl|rfl|rfl|rfl|rfl|rfl<;>rfl
def bd (k:Nat) (f:Nat->Value) (i:Nat):aq:=λc J=>some ⟨[(k,dP J k,aa (ap f) (bD (dQ J k)))],[(c,.call (.builtin "list.__getitem__") ⟨[.ref (dP J k),.int (i:Int) (cq (bI c 1))],[]⟩)],.pure 0 λ_=>.ok (.ret (f i))⟩
theorem bK {w:World} {dh k:Nat} {f:Nat->Value} {i:Nat} (h:i<8):ai w dh (bd k f i):=bj λc lk A s hA hT J=>wm (J _ aJ) (fz f h) (au h) ⟨rfl,rfl⟩
def ry (o:Obj):Nat->List Str->List Value
 |_,[]=>[]
 |i,z::r=>.str z (bQ o i+1)::ry o (i+1) r
theorem uS (o):∀l i,∃p,ry o i l=bp p/\p.map (·.1)=l
 |[],_=>⟨[],rfl,rfl⟩
 |z::r,i=>by
  obtain⟨p,J,h2⟩:=uS o r (i+1);exact⟨(z,bQ o i)::p,by dsimp only[ry];rw[J];rfl,by rw[de,h2]⟩
theorem wn (o:Obj):∀(l:List Str) (i j:Nat) (z:Str),l[j]? =some z->(ry o i l)[j]? =some (.str z (bQ o (i+j)+1))
 |[],_,_,_,h=>by cases h
 |y::r,i,0,z,h=>by cases h;rfl
 |y::r,i,j+1,z,h=>by
  have:=wn o r (i+1) j z h;rw[Nat.add_assoc,Nat.add_comm 1 j] at this;exact this
def c6 (k:Nat) (ws:List Str) (d:Nat) (y:Str):aq:=λc J=>some ⟨[(k,dP J k,aa (ry (dQ J k) 0 ws) (bD (dQ J k)))],[(c,.call (.builtin "list.__getitem__") ⟨[.ref (dP J k),.int (d:Int) (cq (bI c 1))],[]⟩)],jc y⟩
theorem jQ {w:World} {dh k:Nat} {ws:List Str} {d:Nat} {y:Str} (h:ws[d]? =some y) (hd:d<2^63):ai w dh (c6 k ws d y):=by
 refine bj λc lk A s hA hT hq=>mY hT λR hR=>wm (hq _ aJ) (wn _ _ 0 _ _ h) hd ?_;have e0:s.toks - 1+1=s.toks:=mV hT.toks;have J:∀t,R (.ok (.ret (.str y (t+1)))) s:=λt=>by
  have:=hR t (s.toks - 1) (j9 (id (Eq.symm e0)));rw[e0] at this;exact this
 exact J _
def iz (k:Nat) (sep:Str) (ws:List Str) (y:Str):aq:=λc J=>some ⟨[(k,dP J k,aa (ry (dQ J k) 0 ws) (bD (dQ J k)))],[(c,.call (.builtin "str.join") ⟨[.str sep (cq (bI c 0)),.ref (dP J k)],[]⟩)],jc y⟩
theorem DV:∀{w A s dh sep l ep ts a y} (hA:aL dh A) (hT:aK w s) (hy:y=glued sep (l.map (·.1))) (hl:tooLong ((l.map (·.1)).toArray.foldl (·+ ·.length+sep.length) 0)=false) (J:y.length<=sizeLine)
  (ho:s.heap.get? a=some (aa (bp l) ep)),(jc y).ok (model pw w) A (.call (.builtin "str.join") ⟨[.str sep ts,.ref a],[]⟩) s:=by
 ext w A s dh sep l ep ts a y:0;intro hA hT hy hl J ho;have h1:∀p,l=[p]->y=p.1:=λp hp=>by rw[hy,hp];rfl
 have H:=qI (w:=w) (dh:=dh) (k:=0) (a:=a) (sep:=sep) (l:=l) (ep:=ep) (y:=y) hy h1 hl J rfl;exact H (.call (.builtin "str.join") ⟨[.str sep ts,.ref a],[]⟩) (λU=>none) _ rfl (λp hp=>by cases hp with|head=>rfl|tail _ h=>cases h) A s hA hT (λq hq=>by cases hq with|head=>exact ho|tail _ h=>cases h)
theorem DW (hA:aL dh A) (hT:aK w s) (hy:y=glued sep ws) (hl:tooLong (ws.toArray.foldl (·+ ·.length+sep.length) 0)=false) (J:y.length<=sizeLine)
  (ho:s.heap.get? a=some (aa (ry o 0 ws) ep)):(jc y).ok (model pw w) A (.call (.builtin "str.join") ⟨[.str sep ts,.ref a],[]⟩) s:=by
 obtain⟨p,h1,h2⟩:=uS o ws 0;rw[h1] at ho;subst h2;exact DV hA hT hy hl J ho
theorem BW (hy:y=glued sep ws) (hl:tooLong (ws.toArray.foldl (·+ ·.length+sep.length) 0)=false) (J:y.length<=sizeLine):ai w dh (iz k sep ws y):=bj λc lk A s hA hT hq=>DW hA hT hy hl J (hq _ aJ)
def kM (x y:Str):aq:=λc _=>some ⟨[],[(c,je x (dF (bI c 0)))],.gen (hV y)⟩
theorem zX (hx:x.length<=1000) (J:x.cps.all (·<128)=true) (hy:jZ x=y):ai w 600 (kM x y):=by
 refine bj λc lk A s hA hT hq=>?_;subst hy;unfold jZ;cases h:vT x with
 |true=>exact bf.of_code (xH w _ hx J h A s hA hT (λU h=>nomatch h))
 |false=>exact bf.of_code (xG w _ h A s hA hT (λU h=>nomatch h))
def lu (x k:Nat):aq:=λc _=>some ⟨[],[(c,vi x k (dF (bI c 0)) (dF (bI c 1)))],.gen (hV (hG x k))⟩
theorem jR (hx:x<8) (hk:k<3):ai w 800 (lu x k):=bj λc lk A s hA hT J=>bf.of_code (xD w hx hk _ _ A s hA hT (λU h=>nomatch h))
theorem Hd (h:rs.length=n):∃r,rs=bO r 0 n:=⟨λi=>rs.getD i h0,by
 subst h;exact tJ rs _ 0 λj hj=>by simp[List.getD,hj]⟩
def mI:Nat->List Nat
 |0=>[]
 |1=>[92]
 |2=>[92,34]
 |_=>[92,92]
def zY (d:Nat):Str:=⟨(mI d).toArray⟩
def DX (x k d:Nat):List Nat:=mI d++[cH x k]
def ae (l:List Nat):Str:=⟨l.toArray⟩
def jf (x c tx tc J:Nat):Code:=.call (.ref 140) ⟨[.int x (tx+1),.int c (tc+1),.ref (J+158)],[]⟩
def iA (D:Nat->Nat) (T:Nat->Nat):List Value:=[.int (D 0) (T 0),.int (D 1) (T 1),.int (D 2) (T 2)]
def m9:Nat:=0xa5294a529400294a5000a5290a4290a4000a4290a429000290a400000000030000228ca3284a1288a222c8c+((rp 0x294a5294a5000a5298a6298a6000070108229ca200c00004a82a0a8280a0000a0280a029ca329ca7294a5294a5 ((rp 0 0 10 14)+0x10040000000000000040100401<<<140) 360 3)+0xa105013048a1284a1284a10442d0400f2840e034a629800298a6298a12840c28403284a1284a12d0b22c8b12c8b22c8002c8b22c8b12c8b22c8002c8b22c8b12c8b22c8002c8b22c4002c4b12c40b298af2bcaf2bcaf29800298a629800284a1028a62b4ad2b4ad2b4a6000a6298a6284a129ca729ca1284ac<<<1080)<<<350
def vp:List Str:=[⟨#[]⟩,⟨#[92]⟩,⟨#[92,34]⟩,⟨#[92,92]⟩]
def na (x:Nat) (D:Nat->Nat) (P G:Nat->Str) (aw bw:List Str) (gc A B F1 F2 F3 F4 F5 T J Y:Str):List aq:=
 [c6 8 vp (D 0) (P 0),c6 9 vp (D 1) (P 1),c6 10 vp (D 2) (P 2),lu x 0,lu x 1,lu x 2,a6 (P 0) (hG x 0) (G 0),a6 (P 1) (hG x 1) (G 1),a6 (P 2) (hG x 2) (G 2),
  iz 14 ⟨#[]⟩ aw A,iz 16 ⟨#[]⟩ bw B,a6 A iw F1,a6 F1 gc F2,a6 F2 ⟨#[92,92,34]⟩ F3,a6 F3 B F4,a6 F4 ⟨#[34,34,34,121]⟩ F5,kM F5 T,a6 A B J,a6 J ⟨#[34,121]⟩ Y,aF T Y true]
theorem DY (x tx tc da D T' ep P G A B F1 F2 F3 F4 F5 T AB Y n t g r):∀w,ay (vL w 500 560 (na x D P G [] [G 1,G 2] (G 0) A B F1 F2 F3 F4 F5 T AB Y)) 700 (jf x 0 tx tc da) .top (aM (jf x 0 tx tc da)) m9 [⟨da+158,aa (iA D T') ep⟩] n t g (bO r 0 19) [0]
   (.ret (.ok (.ret (.str T ((r 16).x+1))))) [some ⟨da+158,aa (iA D T') ep⟩] []:=aT
theorem DZ (x tx tc da D T' ep P G A B F1 F2 F3 F4 F5 T AB Y n t g r):∀w,ay (vL w 500 560 (na x D P G [G 0] [G 2] (G 1) A B F1 F2 F3 F4 F5 T AB Y)) 700 (jf x 1 tx tc da) .top (aM (jf x 1 tx tc da)) m9 [⟨da+158,aa (iA D T') ep⟩] n t g (bO r 0 19) [0]
   (.ret (.ok (.ret (.str T ((r 16).x+1))))) [some ⟨da+158,aa (iA D T') ep⟩] []:=aT
theorem D7 (x tx tc da D T' ep P G A B F1 F2 F3 F4 F5 T AB Y n t g r):∀w,ay (vL w 500 560 (na x D P G [G 0,G 1] [] (G 2) A B F1 F2 F3 F4 F5 T AB Y)) 700 (jf x 2 tx tc da) .top (aM (jf x 2 tx tc da)) m9 [⟨da+158,aa (iA D T') ep⟩] n t g (bO r 0 19) [0]
   (.ret (.ok (.ret (.str T ((r 16).x+1))))) [some ⟨da+158,aa (iA D T') ep⟩] []:=aT
theorem yv (x):vT x=decide (34∈x.cps.toList):=StrLaws.found_one x 34
theorem wo {a b n:Nat} (J:a<=b) (hb:b<=n):(strSliceIndices (some (a:Int)) (some (b:Int)) 1 n).length=b - a:=by
 rw[StrLaws.strSliceIndices_plain J hb];simp
set_option tactic.hygienic true in
theorem uj:∀{x:Str} {a b:Nat} (J:a<=b) (hb:b<=x.cps.toList.length),(cut x (some (a:Int)) (some (b:Int))).cps.toList=(x.cps.toList.drop a).take (b - a):=by
 ext x a b:0;intro J hb;have OE:b<=x.length:=by simpa[Str.length] using hb
 have h:=StrLaws.sliced_plain x J OE;have hl:=wo J OE;unfold cut;split
 .rename_i he;have he:(strSliceIndices (some (a:Int)) (some (b:Int)) 1 x.length).length=x.length:=by simpa using he
  rw[hl] at he;have h0:a=0:=by lia
  have h1:b=x.length:=by lia
  subst h0 h1;have h2:x.length=x.cps.toList.length:=by simp[Str.length]
  rw[List.drop_zero,Nat.sub_zero,h2,List.take_length]
 .assumption
theorem yw {x:Str} {a:Nat} (h:a<=x.cps.toList.length):(cut x (some (a:Int)) none).cps.toList=x.cps.toList.drop a:=by
 have e:cut x (some (a:Int)) none=cut x (some (a:Int)) (some ((x.length:Nat):Int)):=by
  unfold cut;rw[StrLaws.sliceIdx_none_hi]
 rw[e,uj (by simpa[Str.length] using h) (by simp[Str.length])];rw[uA];simp[Str.length]
structure I5 where
 a:Nat
 o:Option Nat
 r:List Nat
def I6:List Nat->Bool
 |[c]=>Nat.beq c 34
 |_=>false
theorem I7 (l):(l==[34])=I6 l:=by
 cases l with
 |nil=>rfl
 |cons c r=>cases r with
  |nil=>
   show([c]==[34])=Nat.beq c 34;rw[BT.beq_eq];by_cases h:c=34
   .subst h;rfl
   .simp[h]
  |cons d q=>
   show(c::d::q==[34])=false;simp
def jg (l:List Nat) (s:I5) (it:Nat×List Nat):I5:=match I6 it.2 with
 |false=>s
 |true=>match s.o with
  |none=>⟨s.a,some it.1,s.r⟩
  |some o=>⟨it.1+1,none,s.r++(l.drop s.a).take (o - s.a)⟩
def wq (l:List Nat):List Nat:=match(bX l 0 false).foldl (jg l) ⟨0,none,[]⟩ with
 |s=>s.r++l.drop s.a
theorem BY:∀(l:List Str),(hO l).cps.toList=l.flatMap λz=>z.cps.toList
 |[]=>rfl
 |z::r=>by
  have h:∀(r:List Str) (acc:Array Nat),(r.foldl (λacc p=>acc++(⟨#[]⟩:Str).cps++p.cps) acc).toList=acc.toList++r.flatMap λz=>z.cps.toList:=by
   intro r;induction r with
   |nil=>intro acc;simp
   |cons y q ih=>intro acc;rw[k7,ih];simp
  show(r.foldl (λacc p=>acc++(⟨#[]⟩:Str).cps++p.cps) z.cps).toList=_;rw[h];rfl
def yx (n:Nat):Nat->List (Nat×List Nat)->Prop
 |_,[]=>True
 |p,it::r=>p<=it.1/\it.1<n/\yx n (it.1+1) r
theorem yx.mono:∀{l p q},yx n q l->p<=q->yx n p l
 |[],_,_,_,_=>trivial
 |it::r,p,q,h,hp=>⟨bC hp h.1,h.2.1,h.2.2⟩
theorem rz (n:Nat):∀(l:List Nat) (i:Nat) (e:Bool),i+l.length<=n->(e=true->1<=i)->yx n (match e with|true=>i - 1|false=>i) (bX l i e)
 |[],i,e,h,he=>by
  cases e with
  |true=>exact⟨bg _,by have:=he rfl;simp at h;lia,trivial⟩
  |false=>trivial
 |c::r,i,e,h,he=>by
  have J:i+1+r.length<=n:=by simp at h;exact au h
  have h1:=rz n r (i+1) false J (λq=>nomatch q);have h2:=rz n r (i+1) true J (λU=>by exact iT _);cases e with
  |true=>exact⟨by show i - 1<=i;simp,by exact(au J),h1⟩
  |false=>
   unfold bX;dsimp only;split
   .exact h2.mono (bg _)
   .exact⟨bg _,by exact(au J),h1⟩
theorem nQ (x:Str):∀(J:List (Nat×List Nat)) (s:I5) (ps:List Str) (p:Nat),yx x.cps.toList.length p J->(match s.o with|none=>s.a<=p|some o=>s.a<=o/\o<p/\p<=x.cps.toList.length)->p<=x.cps.toList.length->ps.flatMap (λz=>z.cps.toList)=s.r->
  ∃OF,J.foldl (dT x) ((s.a:Int),s.o.map (λo:Nat=>(o:Int)),ps)=(((J.foldl (jg x.cps.toList) s).a:Int),(J.foldl (jg x.cps.toList) s).o.map (λo:Nat=>(o:Int)),OF)/\OF.flatMap (λz=>z.cps.toList)=(J.foldl (jg x.cps.toList) s).r/\(J.foldl (jg x.cps.toList) s).a<=x.cps.toList.length
 |[],s,ps,p,_,hs,hp,hr=>⟨ps,rfl,hr,by
  show s.a<=_;cases ho:s.o with
  |none=>rw[ho] at hs;exact bC hs hp
  |some o=>rw[ho] at hs;dsimp only at hs;exact(au (ax hp (ax hs.1 hs.2.1)))⟩
 |it::r,⟨a,o,q⟩,ps,p,hA,hs,hp,hr=>by
  obtain⟨h1,h2,h3⟩:=hA;rw[k7,k7];unfold dT jg;rw[I7];cases I6 it.2 with
  |false=>exact nQ x r ⟨a,o,q⟩ ps p (h3.mono (j4 h1)) hs hp hr
  |true=>
   cases o with
   |none=>
    exact nQ x r ⟨a,some it.1,q⟩ ps (it.1+1) h3 (by dsimp only at hs|-;exact⟨au (ax h1 hs),⟨au (bg 0),au h2⟩⟩) (by assumption) hr
   |some o=>
    dsimp only at hs;obtain⟨s1,s2,s3⟩:=hs;have e1:((it.1:Int)+1)=((it.1+1:Nat):Int):=by push_cast;rfl
    dsimp only[Option.map_some];rw[e1];refine nQ x r ⟨it.1+1,none,q++(x.cps.toList.drop a).take (o - a)⟩ _ (it.1+1) h3 (bg _) (by assumption) ?_;by_cases OE:a=o
    .subst OE;simp only[bne_self_eq_false,Nat.sub_self,List.take_zero,fT];exact hr
    .have hne:((a:Int) != (o:Int))=true:=by
      rw[bne_iff_ne];exact λh=>OE (by exact_mod_cast h)
     rw[hne];dsimp only;rw[rP,hr];simp only[rQ,List.flatMap_nil,fT];rw[uj s1 ((au (ax hp s2)))]
set_option tactic.hygienic true in
theorem zZ:∀(x:Str) (h:34∈x.cps.toList),jZ x=⟨(wq x.cps.toList).toArray⟩:=by
 ext x:0;intro h;unfold jZ;rw[yv,jW h];obtain⟨ps,e1,J,e3⟩:=nQ x (eH x) ⟨0,none,[]⟩ [] 0 (rz _ _ 0 false (by simp) (λq=>nomatch q)) (bg _) (iU _) rfl;show hO (ey x)=_;have ha:∀{a:Str} {l:List Nat},a.cps.toList=l->a=⟨l.toArray⟩:=λ{a l} h=>by
  subst h;rfl
 refine ha ?_;rw[BY];unfold ey;have hf:gC x=((((eH x).foldl (jg x.cps.toList) ⟨0,none,[]⟩).a:Int),((eH x).foldl (jg x.cps.toList) ⟨0,none,[]⟩).o.map (λo:Nat=>(o:Int)),ps):=e1;rw[hf];dsimp only;show _=((eH x).foldl (jg x.cps.toList) ⟨0,none,[]⟩).r++x.cps.toList.drop ((eH x).foldl (jg x.cps.toList) ⟨0,none,[]⟩).a;generalize(eH x).foldl (jg x.cps.toList) ⟨0,none,[]⟩=s at J e3;split
 .rw[rP,J];simp only[rQ,List.flatMap_nil,fT];rw[yw e3]
 .rename_i hd;rw[J];have hd:¬((s.a:Int)<(x.cps.size:Int)):=of_decide_eq_false hd;have:x.cps.toList.length<=s.a:=by simp;lia
  rw[List.drop_eq_nil_of_le this,fT]
theorem z0 (x) (h:34∉x.cps.toList):jZ x=x:=by
 unfold jZ;rw[yv,iS h]
def sg (x:Nat) (D:Nat->Nat) (k:Nat):List Nat:=DX x k (D k)
def cB (x:Nat) (D:Nat->Nat):Nat->List Nat
 |0=>[]
 |1=>sg x D 0
 |_=>sg x D 0++sg x D 1
def cL (x:Nat) (D:Nat->Nat):Nat->List Nat
 |0=>sg x D 1++sg x D 2
 |1=>sg x D 2
 |_=>[]
def ic (x c:Nat) (D:Nat->Nat):List Nat:=cB x D c++[34]++sg x D c++[92,92,34]++cL x D c++[34,34,34,121]
def dq (x c:Nat) (D:Nat->Nat):List Nat:=cB x D c++cL x D c++[34,121]
def D3 (a b c:Nat):Nat->Nat
 |0=>a
 |1=>b
 |_=>c
def I8 (x c a b d:Nat):Bool:=gB (wq (ic x c (D3 a b d))) (dq x c (D3 a b d))
theorem I9:(List.range 8).all (λx=>(List.range 3).all λc=>(List.range 4).all λa=>(List.range 4).all λb=>(List.range 4).all λd=>I8 x c a b d)=true:=by decide+kernel
set_option tactic.hygienic true in
theorem pz:∀{a b},gB a b=true->a=b
 |[],[],_=>rfl
 |[],_::_,h=>by cases h
 |_::_,[],h=>by cases h
 |a::r,b::q,h=>by
  dsimp only[gB] at h;split at h
  .rename_i e;rw[Nat.eq_of_beq_eq_true e,pz h]
  .cases h
theorem nR (x D) (hk:k<3):sg x D k=sg x (D3 (D 0) (D 1) (D 2)) k:=by
 have:k=0\/k=1\/k=2:=iF hk;rcases this with rfl|rfl|rfl<;>rfl
theorem z5:∀{x c D} (hx:x<8) (hc:c<3) (hD:∀k,D k<4),jZ (ae (ic x c D))=ae (dq x c D):=by
 ext x c D:0;intro hx hc hD;have h:=I9;simp only[oD,eM] at h;have J:=pz (h x hx c hc (D 0) (hD 0) (D 1) (hD 1) (D 2) (hD 2));have a0:=nR x D (k:=0) (by decide);have a1:=nR x D (k:=1) (by decide);have a2:=nR x D (k:=2) (by decide);have ha:cB x D c=cB x (D3 (D 0) (D 1) (D 2)) c:=by unfold cB;split<;>rfl
 have hb:cL x D c=cL x (D3 (D 0) (D 1) (D 2)) c:=by unfold cL;split<;>rfl
 have hf:ic x c D=ic x c (D3 (D 0) (D 1) (D 2)):=by unfold ic;rw[ha,hb,nR x D hc]
 have hs:dq x c D=dq x c (D3 (D 0) (D 1) (D 2)):=by unfold dq;rfl
 rw[hf,hs,<-J];have:=zZ (ae (ic x c (D3 (D 0) (D 1) (D 2)))) (by
  show 34∈(ic x c (D3 (D 0) (D 1) (D 2))).toArray.toList;rw[List.toList_toArray];unfold ic;simp)
 rw[this];show(⟨(wq (ic x c (D3 (D 0) (D 1) (D 2))).toArray.toList).toArray⟩:Str)=_;rw[List.toList_toArray];rfl
theorem bz (l):(ae l).length=l.length:=by rfl
theorem lw (a b):ae a++ae b=ae (a++b):=by
 show(⟨(ae a).cps++(ae b).cps⟩:Str)=_;simp[ae]
theorem ez (hl:a.length+b.length<=100000):ai w dh (a6 (ae a) (ae b) (ae (a++b))):=by
 refine fy (lw a b).symm (λh=>?_) (λh=>?_) ?_
 .rw[bz] at h;rw[dI.mp h];rfl
 .rw[bz] at h;rw[dI.mp h];simp
 .rw[bz,eh];exact bC hl (by decide)
theorem Ja (h:(a==b)=r):ai w dh (aF (ae a) (ae b) r):=aO (by simpa[ae] using h)
theorem r7 (sep:List Nat):∀(r:List (List Nat)) (acc:Array Nat),((r.map ae).foldl (λacc p=>acc++(ae sep).cps++p.cps) acc).toList=acc.toList++r.flatMap (λz=>sep++z)
 |[],acc=>by simp
 |z::r,acc=>by
  rw[de,k7,r7 sep r];simp[ae]
def bo (sep:List Nat):List (List Nat)->List Nat
 |[]=>[]
 |z::r=>z++r.flatMap (λy=>sep++y)
theorem He (sep:List Nat) (l:List (List Nat)):glued (ae sep) (l.map ae)=ae (bo sep l):=by
 cases l with
 |nil=>rfl
 |cons z r=>
  have h:=r7 sep r (ae z).cps;show(⟨(r.map ae).foldl (λacc p=>acc++(ae sep).cps++p.cps) (ae z).cps⟩:Str)=_;have e:((r.map ae).foldl (λacc p=>acc++(ae sep).cps++p.cps) (ae z).cps)=(bo sep (z::r)).toArray:=by
   apply Array.toList_inj.mp;rw[h];simp[ae,bo]
  rw[e];rfl
theorem FO (sep:List Nat):∀(l:List (List Nat)) (acc:Nat),(l.map ae).foldl (λa z=>a+z.length+(ae sep).length) acc=acc+(l.map λz=>z.length+sep.length).sum
 |[],acc=>by rfl
 |z::r,acc=>by
  rw[de,k7,FO sep r,bz,bz];simp;simp+arith
theorem ly {w:World} {dh k:Nat} {sep:List Nat} {l:List (List Nat)} (h1:(l.map λz=>z.length+sep.length).sum<=100000) (J:(bo sep l).length<=100000):ai w dh (iz k (ae sep) (l.map ae) (ae (bo sep l))):=by
 refine BW (He sep l).symm ?_ (by rw[bz];exact bC J (by decide));have e:(l.map ae).toArray.foldl (λx1 x2=>x1+x2.length+(ae sep).length) 0=(l.map ae).foldl (λa z=>a+z.length+(ae sep).length) 0:=by simp
 rw[e,FO];unfold tooLong;have h':1100000<=sizeLine:=by decide
 exact iS (by lia)
theorem uT (hl:a.length<=1000) (J:a.all (·<128)=true) (h:jZ (ae a)=ae b):ai w 600 (kM (ae a) (ae b)):=
 zX (by rw[bz];exact hl) (by simpa[ae] using J) h
theorem pA (x k D):(sg x D k).length<=3:=by
 unfold sg DX;rw[eh];have:(mI (D k)).length<=2:=by unfold mI;split<;>trivial
 show(mI (D k)).length+1<=3;exact au this
theorem iK:∀x k D (hk:k<3),(sg x D k).all (·<128)=true:=by
 ext x k D:0;intro hk;unfold sg DX;rw[List.all_append];have J:(mI (D k)).all (·<128)=true:=by unfold mI;split<;>decide
 rw[J];have:cH x k<128:=by unfold cH;split<;>exact au hk
 simpa using this
theorem wr (hd:d<4):ai w dh (c6 k vp d (zY d)):=jQ (by
 have:d=0\/d=1\/d=2\/d=3:=by lia
 rcases this with rfl|rfl|rfl|rfl<;>rfl) ((au hd))
def uk (da:Nat) (D J:Nat->Nat) (ep:Nat):List ad:=[⟨da+158,aa (iA D J) ep⟩]
def dK (x c:Nat) (D:Nat->Nat):Str:=ae (dq x c D)
theorem BZ:∀{w x c D} (hx:x<8) (hc:c<3) (hD:∀k,D k<4) {aw bw gk} (OI:gk<3) (OE:bo [] aw=cB x D c) (OF:bo [] bw=cL x D c) (OH:gk=c)
  (h1:(aw.map λz=>z.length+([]:List Nat).length).sum<=100000) (h2:(bw.map λz=>z.length+([]:List Nat).length).sum<=100000),∀f∈na x D (λk=>zY (D k)) (λk=>ae (sg x D k)) (aw.map ae) (bw.map ae) (ae (sg x D gk)) (ae (cB x D c)) (ae (cL x D c)) (ae (cB x D c++[34])) (ae (cB x D c++[34]++sg x D c)) (ae (cB x D c++[34]++sg x D c++[92,92,34]))
   (ae (cB x D c++[34]++sg x D c++[92,92,34]++cL x D c)) (ae (ic x c D)) (dK x c D) (ae (cB x D c++cL x D c)) (dK x c D),ai w 560 f:=by
 ext w x c D:0;intro hx hc hD;ext aw bw gk:0;intro OI OE OF OH h1 h2;have l0:=pA x 0 D;have l1:=pA x 1 D;have l2:=pA x 2 D;have la:(cB x D c).length<=6:=by unfold cB;split<;>(try simp)<;>lia
 have lb:(cL x D c).length<=6:=by unfold cL;split<;>(try simp)<;>lia
 have lc:=pA x c D;have OG:c=0\/c=1\/c=2:=iF hc;have sa:(cB x D c).all (·<128)=true:=by
  rcases OG with rfl|rfl|rfl
  .rfl
  .exact iK x 0 D (by decide)
  .show(sg x D 0++sg x D 1).all _=true;rw[List.all_append,iK x 0 D (by decide),iK x 1 D (by decide)];rfl
 have sb:(cL x D c).all (·<128)=true:=by
  rcases OG with rfl|rfl|rfl
  .show(sg x D 1++sg x D 2).all _=true;rw[List.all_append,iK x 1 D (by decide),iK x 2 D (by decide)];rfl
  .exact iK x 2 D (by decide)
  .rfl
 have J:∀k,k<3->ai w 560 (a6 (zY (D k)) (hG x k) (ae (sg x D k))):=λk hk=>by
  have:=ez (w:=w) (dh:=560) (a:=mI (D k)) (b:=[cH x k]) (by have:(mI (D k)).length<=2:=(by unfold mI;split<;>trivial);simp;exact(au this));exact this
 have el:([]:List Nat).length=0:=rfl;subst OH;unfold na;refine ah ?_<|ah ?_<|ah ?_<|ah ?_<|ah ?_<|ah ?_<|ah ?_<|ah ?_<|ah ?_<|ah ?_<|ah ?_<|ah ?_<|ah ?_<|ah ?_<|ah ?_<|ah ?_<|ah ?_<|ah ?_<|ah ?_<|ah ?_ aE
 .exact wr (hD 0)
 .exact wr (hD 1)
 .exact wr (hD 2)
 .exact(jR hx (by decide)).mono (by decide)
 .exact(jR hx (by decide)).mono (by decide)
 .exact(jR hx (by decide)).mono (by decide)
 .exact J 0 (by decide)
 .exact J 1 (by decide)
 .exact J 2 (by decide)
 .rw[<-OE];exact ly h1 (by rw[OE];exact(au la))
 .rw[<-OF];exact ly h2 (by rw[OF];exact(au lb))
 .exact ez (by(try simp);exact(au la))
 .exact ez (by(try simp);exact(au (ax la lc)))
 .exact ez (b:=[92,92,34]) (by(try simp);exact(au (ax la lc)))
 .exact ez (by(try simp);exact(au (ax la (ax lb lc))))
 .exact ez (b:=[34,34,34,121]) (by(try simp);exact(au (ax la (ax lb lc))))
 .refine(uT (by unfold ic;simp;exact(au (ax la (ax lb lc)))) (by unfold ic;rw[List.all_append,List.all_append,List.all_append,List.all_append,List.all_append,sa,sb,iK x gk D OI];rfl) (z5 hx hc hD)).mono (by decide)
 .exact ez (by(try simp);exact(au (ax la lb)))
 .exact ez (b:=[34,121]) (by(try simp);exact(au (ax la lb)))
 .exact Ja (by simp)
theorem B1:∀w {x c D} (hx:x<8) (hc:c<3) (hD:∀k,D k<4) tx tc J ep T',kr w 500 (jf x c tx tc J) (uk J D T' ep) (hV (dK x c D)):=by
 ext w x c D:0;intro hx hc hD;ext tx tc J ep T':0;have OE:∀aw bw,bo [] aw=cB x D c->bo [] bw=cL x D c->(aw.map λz=>z.length+([]:List Nat).length).sum<=100000->(bw.map λz=>z.length+([]:List Nat).length).sum<=100000->
   (∀n t g r,ay (vL w 500 560 (na x D (λk=>zY (D k)) (λk=>ae (sg x D k)) (aw.map ae) (bw.map ae) (ae (sg x D c)) (ae (cB x D c)) (ae (cL x D c)) (ae (cB x D c++[34])) (ae (cB x D c++[34]++sg x D c)) (ae (cB x D c++[34]++sg x D c++[92,92,34]))
    (ae (cB x D c++[34]++sg x D c++[92,92,34]++cL x D c)) (ae (ic x c D)) (dK x c D) (ae (cB x D c++cL x D c)) (dK x c D))) 700 (jf x c tx tc J) .top (aM (jf x c tx tc J)) m9 [⟨J+158,aa (iA D T') ep⟩] n t g (bO r 0 19) [0]
    (.ret (.ok (.ret (.str (dK x c D) ((r 16).x+1))))) [some ⟨J+158,aa (iA D T') ep⟩] [])->kr w 500 (jf x c tx tc J) (uk J D T' ep) (hV (dK x c D)):=by
  intro aw bw h1 h2 h3 h4 hr;refine l9 (l:=uk J D T' ep) (bE (BZ hx hc hD hc h1 h2 rfl h3 h4)) (bJ _ _) (d6 (bN _ _)) 19 700 m9 [0] (λU U U rs=>.ok (.ret (.str (dK x c D) ((rs.getD 16 h0).x+1)))) (λU U U U=>[]) (λU U U U=>[])
   (λn t g rs h=>by
    obtain⟨r,rfl⟩:=Hd h;exact hr n t g r)
   (λU U U rs U=>⟨(rs.getD 16 h0).x,0,0,λU U U=>⟨rfl,rfl,rfl,λU h=>(nomatch h),.nil⟩⟩)
 have hk:∀k,(sg x D k).length<=3:=λk=>pA x k D;have k0:=hk 0;have k1:=hk 1;have k2:=hk 2;have:c=0\/c=1\/c=2:=iF hc;rcases this with rfl|rfl|rfl
 .exact OE [] [sg x D 1,sg x D 2] rfl (by simp[bo,cL]) (by trivial) (by(try simp);exact(au (ax k1 k2))) λn t g r=>DY x tx tc J D T' ep _ _ _ _ _ _ _ _ _ _ _ _ n t g r w
 .exact OE [sg x D 0] [sg x D 2] (by simp[bo,cB]) (by simp[bo,cL]) (by(try simp);exact(au k0)) (by(try simp);exact(au k2)) λn t g r=>DZ x tx tc J D T' ep _ _ _ _ _ _ _ _ _ _ _ _ n t g r w
 .exact OE [sg x D 0,sg x D 1] [] (by simp[bo,cB]) rfl (by(try simp);exact(au (ax k0 k1))) (by trivial) λn t g r=>D7 x tx tc J D T' ep _ _ _ _ _ _ _ _ _ _ _ _ n t g r w
end
def BX (w:World) (d:Nat) (tr:Sem Fin) (l:List ad) (post:Flow->List ad->Prop):Prop:=
 ∀A s,aL d A->aK w s->aQ s l->wpAny (model pw w) A tr (λJ s'=>match J with|.done f=>∃l',post f l'/\bH w s s' (aC l) l'|.again _=>False) (λU U=>False) s
section
variable {w:World} {d D dh:Nat} {hk:Nat->Code->(Nat->Option ad)->Option kj} (K:lZ (lh w D dh hk) w) (hd:d<=D) {l:List ad} (F:aj l)
include K hd F
theorem BX.run {tr:Sem Fin} {post:Flow->List ad->Prop} (nh J orc:Nat) (ix:List Nat) (sh:Nat->Nat->Nat->List HR->Sh) (l':Nat->Nat->Nat->List HR->List ad)
  (OE:∀n t g rs,rs.length=nh->ay (lh w D dh hk) J default .base tr orc l n t g rs ix (sh n t g rs) ((l' n t g rs).map some) [])
  (hn:∀n t g rs,rs.length=nh->(∀a∈aC l,a<n+158)->(∀e∈l' n t g rs,e.a∈aC l\/n+158<=e.a)->match sh n t g rs with
   |.fin (.done f)=>post f (l' n t g rs)
   |.call false _ c' _=>∃post',CX w d c' (l' n t g rs) post'/\∀r l2,post' r l2->(∀e∈l2,e.a∈aC (l' n t g rs)\/n+158<=e.a)->BX w d ((bl (lh w D dh hk) J default .base tr orc l n t g rs).kont r) l2 post
   |_=>False):BX w d tr l post:=by
 revert K hd F OE hn;ext w d D dh hk l tr post nh J orc ix ⟨sh,l'⟩;ext sh l';intro K hd F OE hn;intro A s hA T H;ext A s ⟨hA,T,H⟩;obtain⟨n,t,g,S⟩:=T.st H F;ext n t g ⟨S⟩;refine di (v:=lh w D dh hk) (B:=λt s1=>wpAny (model pw w) A t (λfin s'=>match fin with|.done f=>∃l',post f l'/\bH w s s' (aC l) l'|.again _=>False) (λU U=>False) s1) K (hA.mono hd) S (c:=default) (tr:=tr)
  (λm k s h=>ao h) nh J orc ix (λrs=>sh n t g rs) (λrs=>(l' n t g rs).map some) (λU=>[]) (OE n t g) λrs s1 OF D=>?_
 ext rs s1 ⟨OF,D⟩;have D1:bH w s s1 (aC l) (l' n t g rs):=D.aft T;have OG:s.heap.objs.size=n+158:=S.size;have z:=hn n t g rs OF (λa ha=>by rw[<-OG];exact H.lt a ha) (λe he=>by rw[<-OG];exact D1.adr e he);revert z;cases sh n t g rs with
 |fin f=>
  cases f with
  |done f=>exact λz=>aH ⟨_,z,D1⟩
  |again c=>exact λz=>z.elim
 |call tp OJ c' gd=>
  cases tp with
  |true=>exact λz=>z.elim
  |false=>
   rintro⟨post',z1,z2⟩ l0;refine mz (eG (z1 A s1 hA D1.top D1.has) λr s2 OH=>?_);obtain⟨l2,hp,D2⟩:=OH;have z3:=z2 r l2 hp (λe he=>by
    rcases D2.adr e he with q|q
    .exact .inl q
    .have:=D1.more;right;omega) A s2 hA D2.top D2.has
   refine dR z3 (λfin s3 x=>?_) λe s3 x=>x;cases fin with
   |done f=>
    obtain⟨l3,OI,D3⟩:=x;exact⟨l3,OI,D1.trans (D2.trans D3)⟩
   |again c2=>exact x.elim
 |ret r=>exact λz=>z.elim
 |again c'=>exact λz=>z.elim
 |raise e=>exact λz=>z.elim
 |yield v=>exact λz=>z.elim
end
theorem SX.of_bx {w d l} {post:Flow->List ad->Prop} (h:BX w d (a9 b env) l post):SX w d b env l post:=λA s hA T H=>by
 have h:=h A s hA T H;unfold a9 at h;rw[<-R.bindR_eq,<-Fast.te12563942051412417395] at h;intro Γ p J;have h1:=h Γ p J;rw[Sem.wp_bind] at h1;exact Sem.wp_mono _ Γ _ (λr p' s' q=>q) (λU U U x=>x.elim) p s h1
theorem dX (F:aj l) (h:aC l'=aC l):aj l':=by
 have h1:(aC l').Nodup:=by rw[h];exact mT.mpr F.apart
 refine⟨mT.mp h1,λe he=>?_⟩;have:e.a∈aC l:=by rw[<-h];exact fe he
 obtain⟨f,hf,J⟩:=cT.mp this;rw[<-J];exact F.high f hf
def cx (out:Nat->Option (Nat->Value)) (p:Nat×Nat):Value:=match out p.1 with
 |none=>.none
 |some f=>f p.2
theorem CX.run4 {w:World} {d:Nat} {hs:List aq} (H:∀f∈hs,ai w 500 f) (hd:d<=400) {l:List ad} (F:aj l) {c:Code} (hc:bq c) {post:Result->List ad->Prop} (nh OE orc:Nat) (ix:List Nat) (sh:Nat->Nat->Nat->(Nat->HR)->Sh) (l':Nat->Nat->Nat->(Nat->HR)->List ad)
  (OF:∀n t g r,ay (vL w 400 500 hs) OE c .top (aM c) orc l n t g (bO r 0 nh) ix (sh n t g r) ((l' n t g r).map some) [])
  (hn:∀n t g r,(∀a∈aC l,a<n+158)->(∀e∈l' n t g r,e.a∈aC l\/n+158<=e.a)->match sh n t g r with
   |.ret x=>post x (l' n t g r)
   |.again c'=>c'.quiet=true/\CX w d c' (l' n t g r) post
   |_=>False):CX w d c l post:=by
 intro A s hA T Hs;obtain⟨n,t,g,S⟩:=T.st Hs F;refine dl (v:=vL w 400 500 hs) (bE H) (hA.mono hd) S hc nh OE orc ix (λr=>sh n t g r) (λr=>(l' n t g r).map some) (λU=>[]) (OF n t g) λr s1 D U=>?_;have D1:bH w s s1 (aC l) (l' n t g r):=D.aft T;have OG:s.heap.objs.size=n+158:=S.size;have z:=hn n t g r (λa ha=>by rw[<-OG];exact Hs.lt a ha) (λe he=>by rw[<-OG];exact D1.adr e he);revert z;cases sh n t g r with
 |ret r=>exact λz=>⟨_,z,D1⟩
 |again c'=>exact λz=>⟨z.1,eG (z.2 A s1 hA D1.top D1.has) λr s' J=>by obtain⟨l2,hp,D2⟩:=J;exact⟨l2,hp,D1.trans D2⟩⟩
 |call tp OH c' gd=>exact λz=>z.elim
 |fin f=>exact λz=>z.elim
 |raise e=>exact λz=>z.elim
 |yield v=>exact λz=>z.elim
def NX (w:World) (d:Nat) (it:Value) (l:List ad) (post:Option Value->List ad->Prop):Prop:=
 ∀A s,aL d A->aK w s->aQ s l->wpAny (model pw w) A (pyNext it) (λo J=>∃l',post o l'/\bH w s J (aC l) l') (λU U=>False) s
def AX (w:World) (d:Nat) (tg:Expr) (J:Env) (v:Value) (l:List ad) (post:List ad->Prop):Prop:=
 ∀A s,aL d A->aK w s->aQ s l->wpAny (model pw w) A (assign tg J v) (λU s'=>∃l',post l'/\bH w s s' (aC l) l') (λU U=>False) s
def f9 (tg:Expr) (J:Env) (v:Value):Sem Fin:=R.bindR (Fast.tw17772580674575903948 tg J v) λU=>.pure (.done .next)
theorem z6:∀{v:V} {w:World} (K:lZ v w) {A:Around} (hA:aL v.d₀ A) {l:List ad} {n t g:Nat} {s:Shared} (S:St v.kt l n t g s) {tg:Expr} {J:Env} {x:Value} {Q:Unit->Shared->Prop} {E:Value->Shared->Prop}
  (nh OE orc:Nat) (ix:List Nat) (sh:List HR->Sh) (OF:List HR->List (Option ad)) (ng:List HR->List (Nat×Code))
  (OH:∀rs,rs.length=nh->ay v OE default .base (f9 tg J x) orc l n t g rs ix (sh rs) (OF rs) (ng rs))
  (OG:∀rs s',rs.length=nh->bu v.kt s s' (l.map (·.a)) (OF rs) (ng rs)->match sh rs with
   |.fin (.done .next)=>Q () s'
   |_=>False),wpAny (model v.prog w) A (assign tg J x) Q E s:=by
 ext v w:0;intro K;ext A:0;intro hA;ext l n t g s:0;intro S;ext tg J x Q E nh OE orc ix sh OF ng:0;intro OH OG;have h:wpAny (model v.prog w) A (f9 tg J x) (λf s'=>match f with|.done .next=>Q () s'|_=>False) (λU U=>False) s:=by
  refine di (B:=λt s=>wpAny (model v.prog w) A t (λf s'=>match f with|.done .next=>Q () s'|_=>False) (λU U=>False) s) K hA S (c:=default) (tr:=f9 tg J x)
   (λm k s h=>ao h) nh OE orc ix sh OF ng OH λrs s' h D=>?_
  ext rs s' ⟨h,D⟩;have z:=OG rs s' h D;cases hs:sh rs with
  |fin f=>
   rw[hs] at z;cases f with
   |done fl=>cases fl with
    |next=>exact aH z
    |_=>exact z.elim
   |again c=>exact z.elim
  |_=>rw[hs] at z;exact z.elim
 unfold f9 at h;rw[<-R.bindR_eq,<-Fast.te17772580674575903948] at h;intro Γ p OI;have h1:=h Γ p OI;rw[Sem.wp_bind] at h1;exact Sem.wp_mono _ Γ _ (λr p' s' q=>q) (λU U U x=>x.elim) p s h1
def Jb:Option Value->Flow
 |none=>.next
 |some v=>.ret v
section
variable {w:World} {d:Nat} {hs:List aq} (H:∀f∈hs,ai w 500 f) (hd:d<=400) {l:List ad} (F:aj l)
include H hd F
end
theorem CX.for_:∀{w:World} {d:Nat} {tg:Expr} {it:Value} {body orelse:List Stmt} {env:Env} {l:List ad} {post:Result->List ad->Prop} (hc:bq (.forLoop tg it body orelse env)) (hq:(Code.forLoop tg it body orelse env).quiet=true) (hb:(Code.block orelse env).quiet=true)
  (hname:∀v,letOwnedTupleGo tg it v=pure ())
  (h:NX w (d+5) it l λo l1=>match o with
   |none=>CX w d (.block orelse env) l1 post
   |some v=>AX w (d+5) tg env v l1 λl2=>SX w (d+5) body env l2 λf l3=>match f with
    |.next=>CX w d (.forLoop tg it body orelse env) l3 post
    |.cont=>CX w d (.forLoop tg it body orelse env) l3 post
    |.brk=>post (.ok .next) l3
    |.ret v=>post (.ok (.ret v)) l3),CX w d (.forLoop tg it body orelse env) l post:=by
 ext w d tg it body orelse env l post:0;intro hc hq hb hname h;intro A s hA T Hs;ext A s ⟨hA,T,Hs⟩;have hA5:=hA.under hc;refine l8 ?_;show wpAny _ _ ((forTurn tg it body orelse env).onRaise (λx=>do noteFrame x env;theTreesLotGoes x)) _ _ s
 suffices hh:wpAny (model pw w) (A.under (.forLoop tg it body orelse env)) (forTurn tg it body orelse env) (λfin s'=>match fin with
   |.done f=>∃l',post (.ok f) l'/\bH w s s' (aC l) l'
   |.again c'=>c'.quiet=true/\codeAny (model pw w) A c' (λr s'=>∃l',post r l'/\bH w s s' (aC l) l') s') (λU U=>False) s from
  wpAny_onRaise (dR hh (λfin s' x=>by cases fin<;>exact x) λU U x=>x.elim)
 dsimp only[forTurn];refine ao (wpAny_standAt ?_);have h1:=h _ s hA5 T Hs;refine ao (wpAny_onRaise (dR h1 (λo s1 x=>?_) λU U x=>x.elim));obtain⟨l1,hp,D1⟩:=x;cases o with
 |none=>exact aH ⟨hb,eG (hp A s1 hA D1.top D1.has) λr s' ⟨l2,hp2,D2⟩=>⟨l2,hp2,D1.trans D2⟩⟩
 |some v=>
  show wpAny _ _ (letOwnedTupleGo tg it v>>=_) _ _ s1;rw[hname v];refine ao (aH ?_);refine ao (dR (hp _ s1 hA5 D1.top D1.has) (λU s2 zo116=>?_) λU U x=>x.elim);obtain⟨l2,hp2,D2⟩:=zo116;refine ao (dR (hp2 _ s2 hA5 D2.top D2.has) (λf s3 zo117=>?_) λU U x=>x.elim);obtain⟨l3,hp3,D3⟩:=zo117;have D:=D1.trans (D2.trans D3);cases f with
  |next=>exact aH ⟨hq,eG (hp3 A s3 hA D3.top D3.has) λr s' ⟨l4,hp4,D4⟩=>⟨l4,hp4,D.trans D4⟩⟩
  |cont=>exact aH ⟨hq,eG (hp3 A s3 hA D3.top D3.has) λr s' ⟨l4,hp4,D4⟩=>⟨l4,hp4,D.trans D4⟩⟩
  |brk=>exact aH ⟨l3,hp3,D⟩
  |ret v=>exact aH ⟨l3,hp3,D⟩
theorem SX.ifNe {post:Flow->List ad->Prop} (OG:J=.If (.Compare (mE J) [.NotEq] [gT J] (vZ J)) (Bv J) [] (uP J)) (hm:behindInMarks .NotEq (gT J)=false)
  (h:EX w d (mE J) OE l λv l1=>EX w d (gT J) OE l1 λv2 l2=>(∀A s,aL d A->aK w s->aQ s l2->RcNeAt A s v v2 false)/\post .next l2):SX w d [J] OE l post:=by
 ext w d J OE l post ⟨OG,hm,h⟩;intro A s hA T Hs;ext A s ⟨hA,T,Hs⟩;refine wpAny_execs_cons ?_;rw[OG];refine wpAny_If (wpAny_isTrue_Compare1 ?_ hm);refine dR (h A s hA T Hs) (λv s1 OH=>?_) λU U x=>x;obtain⟨l1,OJ,D1⟩:=OH;refine dR (OJ A s1 hA D1.top D1.has) (λv2 s2 OI=>?_) λU U x=>x;obtain⟨l2,OF,D2⟩:=OI;refine qJ (OF.1 A s2 hA D2.top D2.has) (wpAny_truthy_bool ?_);exact aH (aH ⟨l2,OF.2,D1.trans D2⟩)
theorem D8 (hu:A.units<cLine) (h1:s.heap.get? a=some (aa xs J)) (h2:s.heap.get? b=some (aa ys e2)) (hl:xs.length=ys.length)
  (h:∀i (hi:i<xs.length) (hj:i<ys.length),∃z t u,xs[i]=.str z t/\ys[i]=.str z u):RcNeAt A s (.ref a) (.ref b) false:=by
 have ha:s.heap.IsList a xs.toArray:=⟨_,h1,rfl,J,rfl⟩;have hb:s.heap.IsList b ys.toArray:=⟨_,h2,rfl,e2,rfl⟩;have:=RcNeAt.lists (A:=A) (e:=λU=>true) ha hb (hl) hu λj k1 k2=>by
  obtain⟨z,t,u,J,e2⟩:=h j (by simpa using k1) (by simpa using k2);have f1:xs.toArray[j]=.str z t:=by simpa using J
  have f2:ys.toArray[j]=.str z u:=by simpa using e2
  rw[f1,f2];have:=EqAt.str_str (A:=A.in1) (s:=s) z t z u;rw[qG] at this;exact this
 have e:(List.range xs.toArray.size).all (λU=>true)=true:=by rw[oD];intros;rfl
 rw[e] at this;exact this
def FP:Str:=⟨#[116,117,114,110]⟩
def yy:Str:=⟨#[119,111,114,108,100,115]⟩
def nS:Str:=⟨#[115,101,101,110]⟩
def z7:Str:=⟨#[114,111,119,115]⟩
def B2:Str:=⟨#[115,116,101,112,115]⟩
def wt:Str:=⟨#[119,111,114,100,115]⟩
def B3:Str:=⟨#[99,104,105,108,100]⟩
def Jc:Str:=⟨#[103,114,101,97,116]⟩
def jh:Str:=⟨#[119,111,114,108,100]⟩
def Jd:Str:=⟨#[110,97,109,101,115]⟩
def gU:Str:=⟨#[107,110,111,119,110]⟩
def lz:Str:=⟨#[97,115,107,101,100]⟩
def vq:Str:=⟨#[98,111,116,104]⟩
def r8:Str:=⟨#[97,108,105,107,101]⟩
def r9:Str:=⟨#[102,111,117,110,100]⟩
def af (o:Option Value):Obj:=⟨.type "cell",none,.cell o,#[]⟩
def aU (w:World) (n:Nat):Env:=
 {ej w 145 (n+158) with cells:=[(G6,n+169),(Jd,n+168),(jh,n+167),(Jc,n+166),(B3,n+165),(wt,n+164),(B2,n+163),(z7,n+162),(nS,n+161),(yy,n+160),(FP,n+159)]}
def ul:Stmt->List Stmt
 |.For _ _ b _ _=>b
 |_=>[]
def df (w:World):List Stmt:=ul (bV (bU w 145) 1)
structure KD where
 X:Nat->Nat
 tX:Nat->Nat
 S:Nat->Nat->Str
 tS:Nat->Nat->Nat
 R:Nat->Str
 tR:Nat->Nat
 St:Nat->Nat
 tSt:Nat->Nat
 Wd:Nat->Str
 tWd:Nat->Nat
 aW:Nat
 aSO:Nat
 aS:Nat->Nat
 aR:Nat
 aSt:Nat
 aWd:Nat
 eW:Nat
 eSO:Nat
 eS:Nat->Nat
 eR:Nat
 eSt:Nat
 eWd:Nat
namespace KD
variable (D:KD)
def fW (i:Nat):Value:=.int (D.X i:Int) (D.tX i+1)
def fSO (w:Nat):Value:=.ref (D.aS w+158)
def fR (w:Nat):Value:=.str (D.R w) (D.tR w+1)
def fSt (w:Nat):Value:=.int (D.St w:Int) (D.tSt w+1)
def fWd (w:Nat):Value:=.str (D.Wd w) (D.tWd w+1)
def lW:ad:=⟨D.aW+158,aa (ap D.fW) D.eW⟩
def lSO:ad:=⟨D.aSO+158,aa (ap D.fSO) D.eSO⟩
def lS (w:Nat):ad:=⟨D.aS w+158,aa [.str (D.S w 0) (D.tS w 0+1),.str (D.S w 1) (D.tS w 1+1),.str (D.S w 2) (D.tS w 2+1)] (D.eS w)⟩
def lR:ad:=⟨D.aR+158,aa (ap D.fR) D.eR⟩
def lSt:ad:=⟨D.aSt+158,aa (ap D.fSt) D.eSt⟩
def lWd:ad:=⟨D.aWd+158,aa (ap D.fWd) D.eWd⟩
def ins:List ad:=[D.lS (D.X 0),D.lS (D.X 1),D.lS (D.X 2),D.lS (D.X 3),D.lS (D.X 4),D.lS (D.X 5),D.lS (D.X 6),D.lS (D.X 7)]
end KD
def B4 (D:KD) (n c tc:Nat) (J oN oT:Option Value):List ad:=
 [D.lW,D.lSO]++D.ins++[D.lR,⟨n+160,af (some (.ref (D.aW+158)))⟩,⟨n+161,af (some (.ref (D.aSO+158)))⟩,⟨n+162,af (some (.ref (D.aR+158)))⟩,⟨n+165,af (some (.int (c:Int) (tc+1)))⟩,⟨n+166,af J⟩,⟨n+168,af oN⟩,⟨n+169,af oT⟩]
def vr:Nat:=0x2c8b2280b22c8b2000b22c8002c8a0000a0280ab2bcaf000ae+((rp 0x2c8b2280b22c8b2000b22ccb32ccb300007018822b8b400c05010032a8aa2a8b42b402000a228800288a2288ae004a1284a12d0ac2d0b4 0x701c00000000000701c070000000000000070000100400004010040001c00000000000000000 440 8)+(0x2dc002dcb3000b32ccb02c0b02d0b42d0b6+((rp 0xb82e0b82e0000e4762e4032e4b92dcb72ccb72dcb7000b7 0 190 8)+0x2c4b12e4b92e4cb2dcb72ccb72dcb7000b7<<<1520)<<<140)<<<3520)<<<200
def um (w:World) (D:KD) (c:Nat) (J N2 N3 N4:Nat->Str):List aq:=((List.range 8).flatMap λk=>[bd 1 D.fSO (D.X k),a6 ⟨#[123]⟩ (D.S (D.X k) c) (J k),bd 10 D.fR (D.X k),a6 (J k) (D.R (D.X k)) (N2 k),a6 (N2 k) ⟨#[125]⟩ (N3 k),lu (D.X k) c,a6 (N3 k) (hG (D.X k) c) (N4 k)])++[px w]
def pB (w:World) (J:Nat->Str) (r:Nat->HR) (k:Nat):an:=⟨(r (40+k)).x+2,(r (40+k)).x+1,some (J k,(r (5*k+4)).x),2,kT w (r (40+k)).y⟩
def Le (w:World) (J:Nat->Str) (r:Nat->HR):List an:=[pB w J r 0,pB w J r 1,pB w J r 2,pB w J r 3,pB w J r 4,pB w J r 5,pB w J r 6,pB w J r 7]
def M1 (J:Nat->Str) (r:Nat->HR) (k:Nat):Value:=.str (J k) ((r (5*k+4)).x+1)
def sd (w:World) (D:KD) (n c tc tg:Nat) (J:Nat->Str) (n':Nat) (r:Nat->HR):List ad:=
 B4 D n c tc (some (.str ⟨#[65+c]⟩ (tg+1))) (some (.ref (n'+159))) (some (.ref ((r 39).n+161)))++[⟨n'+159,aa (ap (M1 J r)) 8⟩]++cO ((r 39).n+3) (Le w J r) 8
def z8:List Nat:=[0,1,2,3,4,5,6,7,8,9,10,11,12,13,14,15,16,17,19,24,27,26,29,28,31,30,33,32,35,34,37,36,39,38,41,40]
theorem Je (D n tc oG oN oT N1 N2 N3 N4 n' t g r):∀w,ay (vL w 400 500 (um w D 0 N1 N2 N3 N4)) 1400 default .base (a9 ((df w).take 3) (aU w n)) vr (B4 D n 0 tc oG oN oT) n' t g (bO r 0 48) z8
   (.fin (.done .next)) ((sd w D n 0 tc (t+1) N4 n' r).map some) []:=aT
theorem Jf (D n tc oG oN oT N1 N2 N3 N4 n' t g r):∀w,ay (vL w 400 500 (um w D 1 N1 N2 N3 N4)) 1400 default .base (a9 ((df w).take 3) (aU w n)) vr (B4 D n 1 tc oG oN oT) n' t g (bO r 0 48) z8
   (.fin (.done .next)) ((sd w D n 1 tc (t+1) N4 n' r).map some) []:=aT
theorem Jg (D n tc oG oN oT N1 N2 N3 N4 n' t g r):∀w,ay (vL w 400 500 (um w D 2 N1 N2 N3 N4)) 1400 default .base (a9 ((df w).take 3) (aU w n)) vr (B4 D n 2 tc oG oN oT) n' t g (bO r 0 48) z8
   (.fin (.done .next)) ((sd w D n 2 tc (t+1) N4 n' r).map some) []:=aT
def qo:Nat->List ad->List (Nat×Nat×Obj)
 |_,[]=>[]
 |i,e::r=>(i,e.a,e.o)::qo (i+1) r
theorem pD:∀l i,(∀q∈qo i l,s.heap.get? q.2.1=some q.2.2)->aQ s l
 |[],_,_=>λU h=>nomatch h
 |e::r,i,h=>λf hf=>by
  rcases aY.mp hf with rfl|hf
  .exact h _ aJ
  .exact pD r (i+1) (λq J=>h q (.tail _ J)) f hf
def nc (W:Str) (L:Nat) (OE:List (Nat×Nat×Obj)) (J:List Value):aq:=λc _=>some ⟨OE,[(c,a8 W (dF (bI c 0)) L)],.gen λρ=>⟨.ok (.ret (.ref (ρ.x+158))),[],[⟨ρ.x+158,aa J J.length⟩]⟩⟩
theorem mh:∀{w W L OE J OF} (OG:∃k,(k,78,OF)∈OE)
  (h:∀A s tw,aL 600 A->aK w s->(∀q∈OE,s.heap.get? q.2.1=some q.2.2)->codeAny (model pw w) A (a8 W tw L) (iy w s J λtb=>tb=[⟨78,OF⟩]) s),ai w 600 (nc W L OE J):=by
 ext w W L OE J OF:0;intro OG h;refine bj λc lk A s hA hT hq=>?_;ext c A s ⟨hA,hT,hq⟩;refine bf.of_code (eG (h A s _ hA hT hq) λr s' zo=>?_);obtain⟨acc,tb,hr,OH,D⟩:=zo;ext r s' acc tb ⟨hr,OH,D⟩;subst OH;have h1:=D.top.size;have h2:=D.top.toks;refine⟨⟨s'.heap.objs.size - 158,s'.toks - 1,s'.gens.size,acc,0,0⟩,hr,?_,D.more,?_,D.tmore,rfl,D.drawn,D.os,D.gkeep,λa o g U=>?_,λU h=>(nomatch h),λe he=>?_,by simp⟩
 .show _=s'.heap.objs.size - 158+158;omega
 .show _=s'.toks - 1+1;omega
 .by_cases ha:a=78
  .subst ha;obtain⟨k,hk⟩:=OG;have:=(hq _ hk).symm.trans g;cases this;exact D.has _ cy
  .exact D.keep a o g (by simpa using ha)
 .rw[cD] at he;subst he;refine⟨D.has _ aJ,?_⟩;rcases D.adr _ aJ with q|q
  .exact bh (cD.mp q) (by show¬(acc+158=78);omega)
  .exact q
def nd (W:Str) (L:Nat) (OF:List (Nat×Nat×Obj)) (yz:Nat) (OG:List (Nat×Nat)) (J:Nat) (dv:Nat) (OE:List Value):aq:=λc _=>some ⟨OF,[(c,a8 W (dF (bI c 0)) L)],.gen λρ=>⟨.ok (.ret (.ref (ρ.x+158))),[(yz,78,aP (OG++[(J,ρ.y+5)]))],[⟨ρ.x+158,aa OE OE.length⟩,⟨ρ.y+5+158,fO J ρ.y ρ.z dv⟩]⟩⟩
theorem mi:∀{w:World} {W:Str} {L:Nat} {OH:List (Nat×Nat×Obj)} {yz:Nat} {OI:List (Nat×Nat)} {J dv:Nat} {OE:List Value}
  (h:∀A s tw,aL 600 A->aK w s->(∀q∈OH,s.heap.get? q.2.1=some q.2.2)->codeAny (model pw w) A (a8 W tw L) (iy w s OE λtb=>∃nb OF,tb=[⟨78,aP (OI++[(J,nb+5)])⟩,⟨nb+5+158,fO J nb OF dv⟩]) s),ai w 600 (nd W L OH yz OI J dv OE):=by
 ext w W L OH yz OI J dv OE:0;intro h;refine bj λc lk A s hA hT hq=>?_;ext c A s ⟨hA,hT,hq⟩;refine bf.of_code (eG (h A s _ hA hT hq) λr s' zo=>?_);obtain⟨acc,tb,hr,⟨nb,OF,OG⟩,D⟩:=zo;revert hr OG D;ext r s' acc tb nb OF;intro hr D OG;subst OG;have h1:=D.top.size;have h2:=D.top.toks;have a1:=D.has _ aJ;have a3:=D.has _ gr;refine⟨⟨s'.heap.objs.size - 158,s'.toks - 1,s'.gens.size,acc,nb,OF⟩,hr,?_,D.more,?_,D.tmore,rfl,D.drawn,D.os,D.gkeep,λa o g hn=>?_,λq hq=>?_,λe he=>?_,?_⟩
 .show _=s'.heap.objs.size - 158+158;omega
 .show _=s'.toks - 1+1;omega
 .exact D.keep a o g (by simpa using λe=>hn _ aJ e.symm)
 .rw[cD] at hq;subst hq;exact D.has _ cy
 .simp only[aY,bS,bT] at he;rcases he with rfl|rfl
  .refine⟨a1,?_⟩;rcases D.adr _ aJ with q|q
   .exact bh (cD.mp q) (by show¬(acc+158=78);omega)
   .exact q
  .refine⟨a3,?_⟩;rcases D.adr _ gr with q|q
   .exact bh (cD.mp q) (by show¬(nb+5+158=78);omega)
   .exact q
 .have:=jY a1 a3 (λh=>bh (Value.type.inj h) (by decide));simpa using this
def gV {α:Type} (J:(Nat->Option ad)->Option α) (F:α->aq):aq:=λc lk=>match J lk with
 |some p=>F p c lk
 |none=>none
theorem gF {α:Type} {J:(Nat->Option ad)->Option α} {F:α->aq} (h:∀p,ai w dh (F p)):ai w dh (gV J F):=λc lk sp e=>by
 unfold gV at e;split at e
 .exact h _ c lk sp e
 .cases e
structure yA where
 a:Nat
 d:Nat
 tok:Nat
 ep:Nat
 K:Nat->Int×Nat
def Jh (lk:Nat->Option ad):List (Nat×Nat)->Option (List yA)
 |[]=>some []
 |p::r=>match lk p.1 with
  |some ea=>match lk p.2 with
   |some J=>match Jh lk r with
    |some q=>some (⟨ea.a - 158,J.a - 158,bQ J.o 1,bD J.o,KO J.o⟩::q)
    |none=>none
   |none=>none
  |none=>none
def dO:List yA->List (Option Str)->List an
 |p::r,z::q=>⟨p.a,p.d,(match z with|some z=>some (z,p.tok)|none=>none),p.ep,p.K⟩::dO r q
 |_,_=>[]
def jS:List Bool->List an->List Value
 |b::bs,t::ts=>match b with
  |true=>lp t.tv::jS bs ts
  |false=>jS bs ts
 |_,_=>[]
def ji (k:f7) (x y:Str) (ln:Int) (z:Option Str):Bool:=iE k x y ln (match z with|some z=>some (z,0)|none=>none)
theorem Hf (k:f7) (x y:Str) (ln:Int) (z:Option Str) (t:Nat):iE k x y ln (match z with|some z=>some (z,t)|none=>none)=ji k x y ln z:=by
 cases z with
 |none=>rfl
 |some z=>rfl
theorem jE (k x y ln):∀ps J,fi k x y ln (dO ps J)=jS (J.map (ji k x y ln)) (dO ps J)
 |[],J=>by cases J<;>rfl
 |_::_,[]=>rfl
 |p::r,z::q=>by
  have ih:=jE k x y ln r q;unfold fi at ih|-;simp only[dO,de,jS,List.filter_cons];have h:=Hf k x y ln z p.tok;cases hb:ji k x y ln z with
  |true=>rw[hb] at h;simp only[h,if_true,de,ih]
  |false=>rw[hb] at h;simp only[h,Bool.false_eq_true,if_false,ih]
def mJ:List (Nat×Nat)->List an->List (Nat×Nat×Obj)
 |p::r,t::ts=>(p.1,t.a+158,dU (t.d+158))::(p.2,t.d+158,t.D)::mJ r ts
 |_,_=>[]
theorem wu:∀ix ts,ts.length<=ix.length->(∀q∈mJ ix ts,s.heap.get? q.2.1=some q.2.2)->aQ s (ts.flatMap an.ents)
 |_,[],_,_=>λU h=>nomatch h
 |[],t::ts,h,_=>bh h (Nat.not_succ_le_zero _)
 |p::r,t::ts,hl,h=>λe he=>by
  rw[rQ] at he;rcases dk.mp he with he|he
  .simp only[an.ents,aY,bS,bT] at he;rcases he with rfl|rfl
   .exact h _ aJ
   .exact h _ cy
  .exact wu r ts (Nat.le_of_succ_le_succ hl) (λq J=>h q (.tail _ (.tail _ J))) e he
def ie (z:Option Str):Prop:=match z with
 |none=>True
 |some z=>z.length<=1000/\0<z.cps.size
theorem ge:∀ps J,(dO ps J).length<=J.length
 |[],_=>iU _
 |_::_,[]=>bg _
 |p::r,z::q=>Nat.succ_le_succ (ge r q)
theorem jF:∀ps zs,(∀z∈zs,ie z)->∀t∈dO ps zs,tvFine t.tv
 |[],_,_,_,h=>nomatch h
 |_::_,[],_,_,h=>nomatch h
 |p::r,z::q,hz,t,h=>by
  rcases aY.mp h with rfl|h
  .have:=hz z aJ;cases z with
   |none=>trivial
   |some z=>exact this
  .exact jF r q (λz J=>hz z (.tail _ J)) t h
structure Ob where
 L:Nat
 el:Nat
 ps:List yA
 tab:List Nat
 v0:Value
 tq:Nat
 rq:List Value
def M3:Value->Nat
 |.ref a=>a
 |_=>0
def FQ (o:Obj):Nat->Nat->List Nat
 |_,0=>[]
 |i,n+1=>(M3 (oX (uc o) (3*i+2)) - 158)::FQ o (i+1) n
def yB (iL:Nat) (ix:List (Nat×Nat)) (n kc:Nat) (J:Nat->Option ad):Option Ob:=match J 0 with
 |some e0=>match J iL with
  |some eL=>match J kc with
   |some ec=>match Jh J ix with
    |some ps=>some ⟨eL.a - 158,bD eL.o,ps,FQ e0.o 0 n,oX (uc ec.o) 0,cq (oX (uc ec.o) 1),(uc ec.o).drop 2⟩
    |none=>none
   |none=>none
  |none=>none
 |none=>none
def cR:List Nat->Nat->Nat
 |[],_=>0
 |v::_,0=>v
 |_::r,i+1=>cR r i
theorem gv (J:aQ s (cO L ts el)) (hf:∀t∈ts,tvFine t.tv) (hl:ts.length<=5000):fh L ts:=⟨λt ht=>by
 have h0:=J _ aJ;have h1:=J ⟨t.a+158,dU (t.d+158)⟩ (.tail _ (iQ.mpr ⟨t,ht,.head _⟩));have h2:=J ⟨t.d+158,t.D⟩ (.tail _ (iQ.mpr ⟨t,ht,cy⟩));have n1:=jY h0 h1 (λh=>nomatch h);have n2:=jY h0 h2 (λh=>bh (Value.type.inj h) (by decide));have n3:=jY h1 h2 (λh=>nomatch h);dsimp only at n1 n2 n3;lia,hf,hl⟩
theorem FR (hl:ts.length<=ix.length) (J:∀q∈((0,78,o)::(iL,L+158,aa (ts.map an.ref) el)::mJ ix ts:List (Nat×Nat×Obj)),s.heap.get? q.2.1=some q.2.2):aQ s (cO L ts el)/\aQ s [⟨78,o⟩]:=⟨λe he=>by
 rcases aY.mp he with rfl|he
 .exact J _ cy
 .exact wu ix _ hl (λq h=>J q (.tail _ (.tail _ h))) e he,λe he=>by
 rw[cD] at he;subst he;exact J _ aJ⟩
theorem Ji (hl:ts.length<=ix.length) (J:∀q∈((0,78,o)::(kc,a,b)::(iL,L+158,aa (ts.map an.ref) el)::mJ ix ts:List (Nat×Nat×Obj)),s.heap.get? q.2.1=some q.2.2):aQ s (cO L ts el)/\aQ s [⟨78,o⟩,⟨a,b⟩]:=
 have h:=FR hl λq h=>J q (by rcases aY.mp h with rfl|h;exact .head _;exact .tail _ (.tail _ h))
 ⟨h.1,λe he=>by
  rcases aY.mp he with rfl|he
  .exact J _ aJ
  .rw[cD] at he;subst he;exact J _ cy⟩
def wv (q:Nat) (iL:Nat) (ix:List (Nat×Nat)) (J:List (Option Str)) (bs:List Bool):aq:=
 gV (yB iL ix 0 0) λp=>nd ⟨#[123,42,125,q]⟩ p.L ((0,78,aP [])::(iL,p.L+158,aa ((dO p.ps J).map an.ref) p.el)::mJ ix (dO p.ps J)) 0 [] 87 12 (jS bs (dO p.ps J))
theorem xP {w:World} {q:Nat} (OE:q≠42) {iL:Nat} {ix:List (Nat×Nat)} {J:List (Option Str)} {bs:List Bool} (hb:J.map (ji .suff ⟨#[q]⟩ ⟨#[125,q]⟩ (-2))=bs) (hz:∀z∈J,ie z) (hl:J.length<=ix.length) (OF:J.length<=5000):
  ai w 600 (wv q iL ix J bs):=gF λp=>mi λA s tw hA hT hq=>by
 have h:=FR (bC (ge _ _) hl) hq;have:=xN w tw p.L (dO p.ps J) p.el q OE (gv h.1 (jF _ _ hz) (bC (ge _ _) OF)) hA hT h.2 h.1;rw[jE,hb] at this;exact this
def ww (q:Nat) (kc iL:Nat) (ix:List (Nat×Nat)) (J:List (Option Str)) (bs:List Bool):aq:=
 gV (yB iL ix 4 kc) λp=>nc ⟨#[123,42,125,q]⟩ p.L ((0,78,aP [(87,cR p.tab 0),(71,cR p.tab 1),(77,cR p.tab 2),(96,cR p.tab 3)])::(kc,cR p.tab 0+158,db p.v0 p.tq p.rq)::(iL,p.L+158,aa ((dO p.ps J).map an.ref) p.el)::mJ ix (dO p.ps J)) (jS bs (dO p.ps J))
theorem xQ {w:World} {q:Nat} (OE:q≠42) {kc iL:Nat} {ix:List (Nat×Nat)} {J:List (Option Str)} {bs:List Bool} (hb:J.map (ji .suff ⟨#[q]⟩ ⟨#[125,q]⟩ (-2))=bs) (hz:∀z∈J,ie z) (hl:J.length<=ix.length) (OF:J.length<=5000):
  ai w 600 (ww q kc iL ix J bs):=gF λp=>mh ⟨0,.head _⟩ λA s tw hA hT hq=>by
 have h:=Ji (bC (ge _ _) hl) hq;have:=xO w tw p.L (dO p.ps J) p.el (cR p.tab 0) (cR p.tab 1) (cR p.tab 2) (cR p.tab 3) p.v0 p.tq p.rq q OE (gv h.1 (jF _ _ hz) (bC (ge _ _) OF)) hA hT h.2 h.1;rw[jE,hb] at this;exact this
def yC (iL:Nat) (ix:List (Nat×Nat)) (J:List (Option Str)) (bs:List Bool):aq:=
 gV (yB iL ix 1 0) λp=>nd cZ p.L ((0,78,aP [(87,cR p.tab 0)])::(iL,p.L+158,aa ((dO p.ps J).map an.ref) p.el)::mJ ix (dO p.ps J)) 0 [(87,cR p.tab 0)] 71 8 (jS bs (dO p.ps J))
theorem z9 {w:World} {iL:Nat} {ix:List (Nat×Nat)} {J:List (Option Str)} {bs:List Bool} (hb:J.map (ji .any ⟨#[]⟩ ⟨#[]⟩ 0)=bs) (hz:∀z∈J,ie z) (hl:J.length<=ix.length) (OE:J.length<=5000):
  ai w 600 (yC iL ix J bs):=gF λp=>mi λA s tw hA hT hq=>by
 have h:=FR (bC (ge _ _) hl) hq;have:=zO w tw p.L (dO p.ps J) p.el (cR p.tab 0) (gv h.1 (jF _ _ hz) (bC (ge _ _) OE)) hA hT h.2 h.1;rw[jE,hb] at this;exact this
def yD (kc iL:Nat) (ix:List (Nat×Nat)) (J:List (Option Str)) (bs:List Bool):aq:=
 gV (yB iL ix 4 kc) λp=>nc cZ p.L ((0,78,aP [(87,cR p.tab 0),(71,cR p.tab 1),(77,cR p.tab 2),(96,cR p.tab 3)])::(kc,cR p.tab 1+158,db p.v0 p.tq p.rq)::(iL,p.L+158,aa ((dO p.ps J).map an.ref) p.el)::mJ ix (dO p.ps J)) (jS bs (dO p.ps J))
theorem Aa {w:World} {kc iL:Nat} {ix:List (Nat×Nat)} {J:List (Option Str)} {bs:List Bool} (hb:J.map (ji .any ⟨#[]⟩ ⟨#[]⟩ 0)=bs) (hz:∀z∈J,ie z) (hl:J.length<=ix.length) (OE:J.length<=5000):
  ai w 600 (yD kc iL ix J bs):=gF λp=>mh ⟨0,.head _⟩ λA s tw hA hT hq=>by
 have h:=Ji (bC (ge _ _) hl) hq;have:=zR w tw p.L (dO p.ps J) p.el (cR p.tab 0) (cR p.tab 1) (cR p.tab 2) (cR p.tab 3) p.v0 p.tq p.rq (gv h.1 (jF _ _ hz) (bC (ge _ _) OE)) hA hT h.2 h.1;rw[jE,hb] at this;exact this
def uU (iL:Nat) (ix:List (Nat×Nat)) (J:List (Option Str)) (bs:List Bool):aq:=
 gV (yB iL ix 2 0) λp=>nd ck p.L ((0,78,aP [(87,cR p.tab 0),(71,cR p.tab 1)])::(iL,p.L+158,aa ((dO p.ps J).map an.ref) p.el)::mJ ix (dO p.ps J)) 0 [(87,cR p.tab 0),(71,cR p.tab 1)] 77 9 (jS bs (dO p.ps J))
theorem wx {w:World} {iL:Nat} {ix:List (Nat×Nat)} {J:List (Option Str)} {bs:List Bool} (hb:J.map (ji .plain ⟨#[]⟩ ⟨#[]⟩ 0)=bs) (hz:∀z∈J,ie z) (hl:J.length<=ix.length) (OE:J.length<=5000):
  ai w 600 (uU iL ix J bs):=gF λp=>mi λA s tw hA hT hq=>by
 have h:=FR (bC (ge _ _) hl) hq;have:=wi w tw p.L (dO p.ps J) p.el (cR p.tab 0) (cR p.tab 1) (gv h.1 (jF _ _ hz) (bC (ge _ _) OE)) hA hT h.2 h.1;rw[jE,hb] at this;exact this
def uV (kc iL:Nat) (ix:List (Nat×Nat)) (J:List (Option Str)) (bs:List Bool):aq:=
 gV (yB iL ix 4 kc) λp=>nc ck p.L ((0,78,aP [(87,cR p.tab 0),(71,cR p.tab 1),(77,cR p.tab 2),(96,cR p.tab 3)])::(kc,cR p.tab 2+158,db p.v0 p.tq p.rq)::(iL,p.L+158,aa ((dO p.ps J).map an.ref) p.el)::mJ ix (dO p.ps J)) (jS bs (dO p.ps J))
theorem wy {w:World} {kc iL:Nat} {ix:List (Nat×Nat)} {J:List (Option Str)} {bs:List Bool} (hb:J.map (ji .plain ⟨#[]⟩ ⟨#[]⟩ 0)=bs) (hz:∀z∈J,ie z) (hl:J.length<=ix.length) (OE:J.length<=5000):
  ai w 600 (uV kc iL ix J bs):=gF λp=>mh ⟨0,.head _⟩ λA s tw hA hT hq=>by
 have h:=Ji (bC (ge _ _) hl) hq;have:=wj w tw p.L (dO p.ps J) p.el (cR p.tab 0) (cR p.tab 1) (cR p.tab 2) (cR p.tab 3) p.v0 p.tq p.rq (gv h.1 (jF _ _ hz) (bC (ge _ _) OE)) hA hT h.2 h.1;rw[jE,hb] at this;exact this
def wz (l:List Value):List Value:=match Nat.ble l.length 100&&Nat.ble 1 l.length with
 |true=>l
 |false=>[.none]
theorem yE (l):(wz l).length<=100/\1<=(wz l).length:=by
 unfold wz;cases h:Nat.ble l.length 100&&Nat.ble 1 l.length with
 |true=>rw[mU] at h;exact⟨uC h.1,uC h.2⟩
 |false=>exact⟨uC rfl,bg 1⟩
def si (k1 k2:Nat) (xs:List Value):aq:=λc J=>some ⟨[(k1,dP J k1,aa xs (bD (dQ J k1))),(k2,dP J k2,aa (wz (DD (dQ J k2))) (bD (dQ J k2)))],[(c,.call (.builtin "list.extend") ⟨[.ref (dP J k1),.ref (dP J k2)],[]⟩)],.gen λ_=>⟨.ok (.ret .none),[(k1,dP J k1,aa (xs++wz (DD (dQ J k2))) (bD (dQ J k1)+1))],[]⟩⟩
theorem Hg (hT:aK w s) (hx:xs.length<=1000) (hy:ys.length<=100) (J:1<=ys.length) (h1:s.heap.get? a=some (aa xs e1)) (h2:s.heap.get? b=some (aa ys e2)):
  (gL.gen λU=>⟨.ok (.ret .none),[(k,a,aa (xs++ys) (e1+1))],[]⟩).ok (model pw w) A (.call (.builtin "list.extend") ⟨[.ref a,.ref b],[]⟩) s:=by
 have h':10000<=sizeLine:=by decide
 have hl:Builtin.List.listTooLong (xs.toArray.size+ys.toArray.size)=false:=by
  unfold Builtin.List.listTooLong;simp;exact au (ax hx (ax hy h'))
 refine fE F.slot_list_extend (⟨_,h1,rfl⟩:Shared.TypeIs _ (.ref a) "list") F.entry_list_extend (F.args_list_extend_2 _ _) (AutoSeq1.list_extend_list_list_0 a xs.toArray e1 b ys.toArray e2 (by rw[hl];simp) (by simp;exact(au (ax hx h'))) (by simp;exact(au (ax hx (ax hy h'))))) ⟨h1,h2,?_⟩;obtain⟨n,t',hn,ht⟩:=hT.nat;refine⟨⟨n,t',s.gens.size,0,0,0⟩,rfl,?_⟩;rw[ht];have hne:ys≠[]:=λh=>by rw[h] at J;simp at J
 exact cJ.set1 hn (j9 ht) h1 (by simp[aa,Obj.mapSeq,hne]) rfl
theorem wA (hx:xs.length<=1000):ai w dh (si k1 k2 xs):=bj λc lk A s hA hT J=>Hg hT hx (yE _).1 (yE _).2 (J _ aJ) (J _ cy)
set_option genCtorIdx true in
inductive cc where
 |a0|a1|a2|a3|b1|b2|b3|b4|b5
def pG:List cc:=[.a0,.a1,.a2,.a3,.b1,.b2,.b3,.b4,.b5]
theorem wC (sh):sh∈pG:=by cases sh<;>simp[pG]
def Oc {α:Type u} (p:cc->Bool) (L:cc->World->α):World->Bool->List (α×α):=λw b=>(pG.filter p).map λs=>(L s (wF w false b),L s (wF w true b))
def Od {α:Type u} (p:cc->Bool) (L:cc->World->α):World->Bool->List (α×α):=λw b=>(pG.filter p).map λs=>(L s (wF w false b),L s (wF w true b))
theorem qL {α:Type u} {L R:cc->World->α} (h:Oc p L=Od p R:=by kernel_rfl):∀sh,p sh=true->∀w,L sh w=R sh w:=λsh hs=>vH λw a b=>by
 have z:=List.map_inj_left.mp (congrFun (congrFun h w) b) sh (List.mem_filter.mpr ⟨wC sh,hs⟩);cases a
 .exact congrArg Prod.fst z
 .exact congrArg Prod.snd z
theorem Mn {α:Type u} {L R:cc->α} (h:(pG.filter p).map L=(pG.filter p).map R:=by kernel_rfl):∀sh,p sh=true->L sh=R sh:=λsh hs=>List.map_inj_left.mp h sh (List.mem_filter.mpr ⟨wC sh,hs⟩)
def aA (sh:cc) (ep:Nat) (K:Nat->Int×Nat) (v:Nat->Value):Obj:=match sh with
 |.a0=>bW ep K [(gU,v 0)]
 |.a1=>bW ep K [(gU,v 0),(ku,v 1),(nB,v 2)]
 |.a2=>bW ep K [(gU,v 0),(ku,v 1),(nB,v 2),(lz,v 3)]
 |.a3=>bW ep K [(gU,v 0),(ku,v 1),(nB,v 2),(lz,v 3),(vq,v 4),(r8,v 5),(r9,v 6)]
 |.b1=>bW ep K [(gU,v 0),(lz,v 3)]
 |.b2=>bW ep K [(gU,v 0),(lz,v 3),(vq,v 4),(r8,v 5),(r9,v 6)]
 |.b3=>bW ep K [(gU,v 0),(lz,v 3),(ku,v 1),(nB,v 2)]
 |.b4=>bW ep K [(gU,v 0),(lz,v 3),(vq,v 4),(r8,v 5),(r9,v 6),(ku,v 1),(nB,v 2)]
 |.b5=>bW ep K [(gU,v 0),(lz,v 3),(ku,v 1),(nB,v 2),(vq,v 4),(r8,v 5),(r9,v 6)]
def aD (v:Nat->Value) (i:Nat) (x:Value):Nat->Value:=λj=>match Nat.beq j i with
 |true=>x
 |false=>v j
def fA:Stmt->List Stmt
 |.If _ b _ _=>b
 |_=>[]
def gA (w:World):Stmt:=bV (df w) 3
structure KN where
 N:Nat->Str
 tN:Nat->Nat
 ta:Nat->Nat
 td:Nat->Nat
 te:Nat->Nat
 tK:Nat->Nat->Int×Nat
 aN:Nat
 eN:Nat
 L:Nat
 eL:Nat
namespace KN
variable (M:KN)
def fN (k:Nat):Value:=.str (M.N k) (M.tN k+1)
def th (k:Nat):an:=⟨M.ta k,M.td k,some (M.N k,M.tN k),M.te k,M.tK k⟩
def ths:List an:=[M.th 0,M.th 1,M.th 2,M.th 3,M.th 4,M.th 5,M.th 6,M.th 7]
def zs:List (Option Str):=[some (M.N 0),some (M.N 1),some (M.N 2),some (M.N 3),some (M.N 4),some (M.N 5),some (M.N 6),some (M.N 7)]
def lN:ad:=⟨M.aN+158,aa (ap M.fN) M.eN⟩
end KN
def gS (c:Nat):Str:=⟨#[65+c]⟩
def j6 (c:Nat):Str:=⟨#[123,120,125,97,65+c]⟩
def oH (c:Nat) (b:Bool) (k:Nat):Bool:=match Nat.beq (k/2^c%2) 1 with
 |true=>match b with
  |true=>false
  |false=>true
 |false=>b
def nT (c:Nat) (b:Bool):List Bool:=[oH c b 0,oH c b 1,oH c b 2,oH c b 3,oH c b 4,oH c b 5,oH c b 6,oH c b 7]
def mj (f:Nat->Value):List Bool->Nat->List Value
 |[],_=>[]
 |b::r,i=>match b with
  |true=>f i::mj f r (i+1)
  |false=>mj f r (i+1)
def Mo (w:World) (c tg:Nat) (r:Nat->HR):List an:=[⟨(r 1).x+2,(r 1).x+1,some (gS c,tg),2,kT w (r 1).y⟩,⟨(r 2).x+2,(r 2).x+1,some (j6 c,(r 0).x),2,kT w (r 2).y⟩,⟨(r 3).x+2,(r 3).x+1,none,2,kT w (r 3).y⟩]
def pH (k0 k1 k2 k3:Nat):Obj:=aP [(87,k0),(71,k1),(77,k2),(96,k3)]
structure CO where
 v:Value
 t:Nat
 r:List Value
def CO.o (c:CO):Obj:=db c.v c.t c.r
def lA (k0 k1 k2 k3:Nat) (J c1 c2:CO):List ad:=[⟨78,pH k0 k1 k2 k3⟩,⟨k0+158,J.o⟩,⟨k1+158,c1.o⟩,⟨k2+158,c2.o⟩]
def uW (M:KN) (n c tg:Nat):List ad:=[⟨n+166,af (some (.str (gS c) (tg+1)))⟩,⟨n+168,af (some (.ref (M.aN+158)))⟩,⟨n+169,af (some (.ref (M.L+158)))⟩]
def mK (T:List ad) (F:Obj) (M:KN) (n c tg:Nat):List ad:=T++[⟨n+158,F⟩]++uW M n c tg++[M.lN]++cO M.L M.ths M.eL
def Lf (w:World) (M:KN) (c:Nat) (b:Bool) (tg:Nat) (r:Nat->HR):List ad:=
 [⟨(r 5).n+160,aa [.ref ((r 6).x+158),.ref ((r 7).x+158),.ref ((r 8).x+158)] 3⟩,⟨(r 6).x+158,aa (mj M.fN (nT c b) 0++[.str (gS c) (tg+1)]) 5⟩,⟨(r 7).x+158,aa (ap M.fN++[.str (gS c) (tg+1),.str (j6 c) ((r 0).x+1)]) 10⟩,
  ⟨(r 8).x+158,aa [.str (gS c) (tg+1)] 1⟩,⟨(r 8).n+161,aa (mj M.fN (nT c b) 0) 4⟩]
def vt (w:World) (T:List ad) (F:Obj) (M:KN) (n c:Nat) (b:Bool) (tg:Nat) (r:Nat->HR):List ad:=T++[⟨n+158,F⟩]++uW M n c tg++[M.lN]++cO M.L (M.ths++Mo w c tg r) (M.eL+1)++Lf w M c b tg r
def Jj (r:Nat->HR):List ad:=[⟨78,aP [(87,(r 6).y+5),(71,(r 7).y+5),(77,(r 8).y+5)]⟩,⟨(r 6).y+5+158,fO 87 (r 6).y (r 6).z 12⟩,⟨(r 7).y+5+158,fO 71 (r 7).y (r 7).z 8⟩,⟨(r 8).y+5+158,fO 77 (r 8).y (r 8).z 9⟩]
def yF:Nat:=0xb8000b82dc002dcb7014a2288a6298a6298a4+((rp 0xb92e4b92e400010762e8032e8ba2e0b82dcb82e0b8000b8 0 190 3)+(0x310c430cc4310c4000c431000310c3000c330c06288172e8ba2e8c22e0b82dcb82e0b8000b8+((rp 0x310c430cc4310c4000c4314c5314c5000011eca431803318c6 0x1000000000000000 200 3)+0x33ccf294cf33ccf000cf33c0033ca5000a5294a3318c6318a1284ce<<<600)<<<300)<<<570)<<<150+((rp 0x33ccf294cf33ccf000cf028a202400344d1344cf33ca533ccf33c0033cd0340d0340003440828807000d1344d1 (0x4000040000000000+((rp 0 0 10 18)+4194308<<<180)<<<70) 360 4)+0x344d1344a1284d3<<<1440)<<<1840
def Hh:Nat:=yF+((rp 0 0 10 191)+(0xd6c020080233bfff53feffbfeffffe+((rm 0xd6c020080233bfff53feffbfeffffe00000000000000000000000000000000000000c60b8c733f2efff38f4b39 0x400003fffffffffbffffc 360 3)+0xba0b8bb33f2efff44f4b45<<<1080)<<<120)<<<1910)
def uo:Nat:=0xbb000bb2e8002e8ba014a5294a92a4a92a4a7+((rp 0xbc2f0bc2f000010762f4032f4bd2ecbb2e8bb2ecbb000bb 0 190 3)+(0x31cc7318c731cc7000c731c0031cc6000c631806294172f4bd2f4c52ecbb2e8bb2ecbb000bb+((rp 0x31cc7318c731cc7000c7320c8320c8000011eca732403324c9 0x1000000000000000 200 3)+0xd1344d133ccf2a0cf33ccf000cf33c0033ca8000a82a0a6324c9324a4290ce<<<600)<<<300)<<<570)<<<150+((rp 0x344d1344cf33ca833ccf33c0033cd0340d0340003440829407 2097154 210 4)+((rp 0x344d1344cf33ca833ccf33c0033c102940f 2097154 150 3)+0xd1344d1290a434ccf33ca833ccf33c0033c1629415<<<450)<<<840)<<<1880
def Hi:Nat:=uo+(0x5f0565f99f977ffa07aba0eb0010040119e00130151806765dfeffe0080213e6200e825267f9800200802677fc4d0546119d977fb9e7ab9eeb0010040119dfffafff7fdff7ffff<<<2331)
def yG:Nat:=uo+(0x5d0565d99f977ffa27aba2eb0010040119e00128151786765dfeffe0080213e6200e8a52687f7058601a1feffbeb8000004d987ffa1949a0fe016184687fbfefae0000013661ffe825267f9800200802677fc4d0546119d977fbff8020084f988039f9499ee60008020099dff138151886765dfeffe0080213e6200e7a526779800200802677fc4f0546319d977fb9c7ab9ceb0010040119dfffafff7fdff7ffff<<<1911)
def Hj:Nat:=yG+(0x5f0565f99f977ffa07aba0eb0010040119e00130151806765dfeffe0080213e6200e825267f9800200802677fc4d0546119d977fb9e7ab9eeb0010040119dfffafff7fdff7ffff<<<2211)
def D9:List (Nat×Nat):=[(7,8),(9,10),(11,12),(13,14),(15,16),(17,18),(19,20),(21,22),(28,27),(30,29),(32,31)]
def Ea:List (Nat×Nat):=[(10,11),(12,13),(14,15),(16,17),(18,19),(20,21),(22,23),(24,25),(31,30),(33,32),(35,34)]
def Jk:List Nat:=[0,40,42,44,1,2,3,4,5,6,7,8,9,10,11,12,13,14,15,16,17,18,19,20,21,22,28,27,30,29,32,31,37,39,41,43,48]
def Jl:List Nat:=[0,1,2,3,4,5,6,7,8,9,10,11,12,13,14,15,16,17,18,19,20,21,22,23,24,25,31,30,33,32,35,34,40,42,43,44,48]
def qM (M:KN) (c:Nat):List (Option Str):=M.zs++[some (gS c),some (j6 c),none]
def Jm:List Bool:=[true,true,true,true,true,true,true,true,true,true,false]
def Jn:List Bool:=[false,false,false,false,false,false,false,false,true,false,false]
def Jo (w:World) (M:KN) (l:Nat->Nat) (c:Nat) (b:Bool) (i j:Nat) (x y z:aq):List aq:=[x,y,z,px w,a6 ⟨#[123,120,125,97]⟩ (gS c) (j6 c),a6 m7 (gS c) ⟨#[123,42,125,65+c]⟩]++((List.range 8).flatMap λk=>[eT (M.N k) (-1) (l k),aF ⟨#[l k]⟩ (gS c) (oH c b k)])++[si i j (M.ths.map an.ref)]
def Mp (w:World) (M:KN) (l:Nat->Nat) (b:Bool):List aq:=Jo w M l 0 b 6 25 (wv 65 6 D9 (qM M 0) (nT 0 b++[true,false,false])) (yC 6 D9 (qM M 0) Jm) (uU 6 D9 (qM M 0) Jn)
def Mq (w:World) (M:KN) (l:Nat->Nat) (c:Nat) (b:Bool):List aq:=Jo w M l c b 9 28 (ww (65+c) 1 9 Ea (qM M c) (nT c b++[true,false,false])) (yD 2 9 Ea (qM M c) Jm) (uV 3 9 Ea (qM M c) Jn)
def Mr (b:Bool):Nat:=match b with|true=>yF|false=>Hh
def Ms (c:Nat) (b:Bool):Nat:=match b with|true=>(match Nat.beq c 1 with|true=>Hi|false=>uo)|false=>(match Nat.beq c 1 with|true=>yG|false=>Hj)
def Eb (x:Bool):cc:=match x with|true=>.b2|false=>.b1
def Ed (x:Bool):cc:=match x with|true=>.b4|false=>.b3
theorem Jp (M l n tg ep K v n' t g r):∀J w,bP (vL w 400 500 (Mp w M l J)) 1000 default .base (a9 ((fA (gA w)).take 3) (aU w n)) (Mr J) (mK [⟨78,aP []⟩] (aA .a0 ep K v) M n 0 tg) n' t g (bO r 0 17) Jk
   (.fin (.done .next)) (λo=>(vt w (Jj r) (aA .a1 (bD (o 1)) (KO (o 1)) (aD (aD v 1 (.ref ((r 5).n+160))) 2 (.ref ((r 8).n+161)))) M n 0 J tg r).map some) []:=NY
theorem Jq (w k0 k1 k2 k3 c0 c1 c2 M l c b x) (hc:c=1\/c=2) (n tg ep K v n' t g r):
  bP (vL w 400 500 (Mq w M l c b)) 1000 default .base (a9 ((fA (gA w)).take 3) (aU w n)) (Ms c b) (mK (lA k0 k1 k2 k3 c0 c1 c2) (aA (Eb x) ep K v) M n c tg) n' t g (bO r 0 17) Jl
   (.fin (.done .next)) (λo=>(vt w (lA k0 k1 k2 k3 c0 c1 c2) (aA (Ed x) (bD (o 4)) (KO (o 4)) (aD (aD v 1 (.ref ((r 5).n+160))) 2 (.ref ((r 8).n+161)))) M n c b tg r).map some) []:=by revert w;rcases hc with rfl|rfl<;>cases b<;>cases x<;>exact aT
def ml (e:Expr) (J:Env):Sem Fin:=R.bindR (Fast.tw15418851999007992765 e J (Fast.tw14044960220447912780 e J)) λb=>.pure (.done (.ret (.bool b)))
theorem Ee {v:V} {w:World} (K:lZ v w) {A:Around} (hA:aL v.d₀ A) {l:List ad} {n t g:Nat} {s:Shared} (S:St v.kt l n t g s) {e:Expr} {J:Env} {Q:Bool->Shared->Prop} {E:Value->Shared->Prop}
  (nh OE orc:Nat) (ix:List Nat) (b:Bool) (OF:List HR->List (Option ad)) (ng:List HR->List (Nat×Code))
  (OH:∀rs,rs.length=nh->ay v OE default .base (ml e J) orc l n t g rs ix (.fin (.done (.ret (.bool b)))) (OF rs) (ng rs))
  (OG:∀rs s',rs.length=nh->bu v.kt s s' (l.map (·.a)) (OF rs) (ng rs)->Q b s'):wpAny (model v.prog w) A (isTrue e J (eval e J)) Q E s:=by
 have h:wpAny (model v.prog w) A (ml e J) (λf s'=>match f with|.done (.ret (.bool b))=>Q b s'|_=>False) (λU U=>False) s:=by
  refine di (B:=λt s=>wpAny (model v.prog w) A t (λf s'=>match f with|.done (.ret (.bool b))=>Q b s'|_=>False) (λU U=>False) s) K hA S (c:=default) (tr:=ml e J)
   (λm k s h=>ao h) nh OE orc ix (λU=>.fin (.done (.ret (.bool b)))) OF ng OH λrs s' h D=>?_
  exact aH (OG rs s' h D)
 unfold ml at h;rw[<-R.bindR_eq,<-Fast.te15418851999007992765,<-Fast.te14044960220447912780] at h;intro Γ p OI;have h1:=h Γ p OI;rw[Sem.wp_bind] at h1;exact Sem.wp_mono _ Γ _ (λr p' s' q=>q) (λU U U x=>x.elim) p s h1
def wD:Stmt->Expr
 |.If t _ _ _=>t
 |_=>default
def Ef (r:Int):gL:=.pure 1 λt=>.ok (.ret (.int r t))
def bB (id:String) (a b r:Int):aq:=f5 id (.int a) (.int b) [] λU U=>Ef r
theorem nU {w dh a b r} (h:Builtin.bitXor a b=r):ai w dh (bB "int.__xor__" a b r):=cF λta J A s hA hT hq=>by
 have g:Gives (Builtin.«int.__xor__» ⟨[.int a ta,.int b J],[]⟩) (.int (Builtin.bitXor a b)):=.of_eq rfl;rw[h] at g;exact cE F.slot_int_xor (typeIs_int s _ _) F.entry_int_xor (F.args_int_xor_2 _ _) g ⟨rfl,rfl⟩
def pI (a b:Int) (r:Bool):aq:=f5 "int.__gt__" (.int a) (.int b) [] λU U=>iD r
theorem uX {w dh a b r} (h:decide (a>b)=r):ai w dh (pI a b r):=cF λta tb A s hA hT J=>by
 refine cE F.slot_int_gt (typeIs_int s _ _) F.entry_int_gt (F.args_int_gt_2 _ _) (gives_int_gt a b _ _) ?_;show _=_/\_=_;rw[h];exact⟨rfl,rfl⟩
def yH (a b:Int) (r:Bool):aq:=f5 "int.__eq__" (.int a) (.int b) [] λU U=>iD r
theorem Ab {w dh a b r} (h:(a==b)=r):ai w dh (yH a b r):=cF λta tb A s hA hT J=>by
 refine cE F.slot_int_eq (typeIs_int s _ _) F.entry_int_eq (F.args_int_eq_2 _ _) (gives_int_eq a b _ _) ?_;show _=_/\_=_;rw[h];exact⟨rfl,rfl⟩
def Ac (o:Obj):Nat->List Int->List (Int×Nat)
 |_,[]=>[]
 |i,x::r=>(x,cq (gy o i))::Ac o (i+1) r
def pJ:List Int->Int->Bool
 |[],_=>false
 |y::r,x=>match tU y x with
  |true=>true
  |false=>pJ r x
theorem wE (o x):∀l i,eg (Ac o i l) x=pJ l x
 |[],_=>rfl
 |y::r,i=>by
  unfold Ac eg pJ;cases tU y x
  .exact wE o x r (i+1)
  .rfl
def sj (k:Nat) (l:List Int) (x:Int) (r:Bool):aq:=λc J=>some ⟨[(k,dP J k,bt (am (Ac (dQ J k) 0 l)))],[(c,.call (.builtin "tuple.__contains__") ⟨[.ref (dP J k),.int x (cq (bI c 1))],[]⟩)],iD r⟩
theorem Jr (J:s.heap.get? a=some ⟨.type "tuple",none,.seq (am ps).toArray ep,#[]⟩) (h:eg ps x=r):
  (iD r).ok (model pw w) A (.call (.builtin "tuple.__contains__") ⟨[.ref a,.int x t],[]⟩) s:=by
 refine fE F.slot_tuple_contains (⟨_,J,rfl⟩:Shared.TypeIs _ (.ref a) "tuple") F.entry_tuple_contains (F.args_tuple_contains_2 _ _) (tuple_containsAt a (am ps).toArray ep none #[] (.int x t) (λv=>lo v==x)) ⟨J,tV,?_⟩;rw[List.any_toArray,<-qj,h];exact⟨rfl,rfl⟩
theorem uY {w dh k l x r} (h:pJ l x=r):ai w dh (sj k l x r):=bj λc lk A s hA hT J=>Jr (J _ aJ) (by rw[wE];exact h)
def sk (k:Nat) (ps:List (Int×Nat)) (x:Int) (r:Bool):aq:=λc J=>some ⟨[(k,dP J k,aa (am ps) (bD (dQ J k)))],[(c,.call (.builtin "list.__contains__") ⟨[.ref (dP J k),.int x (cq (bI c 1))],[]⟩)],iD r⟩
theorem Js (J:s.heap.get? a=some (aa (am ps) ep)) (h:eg ps x=r):
  (iD r).ok (model pw w) A (.call (.builtin "list.__contains__") ⟨[.ref a,.int x t],[]⟩) s:=by
 refine fE F.slot_list_contains (⟨_,J,rfl⟩:Shared.TypeIs _ (.ref a) "list") F.entry_list_contains (F.args_list_contains_2 _ _) (list_containsAt a (am ps).toArray ep none #[] (.int x t) (λv=>lo v==x)) ⟨J,tV,?_⟩;rw[List.any_toArray,<-qj,h];exact⟨rfl,rfl⟩
theorem pK {w dh k ps x r} (h:eg ps x=r):ai w dh (sk k ps x r):=bj λc lk A s hA hT J=>Js (J _ aJ) h
def eA (k:Nat) (f:Nat->Int) (tf:Nat->Nat) (x:Int) (j:Nat):aq:=λc J=>some ⟨[(k,dP J k,aa (ap λi=>.int (f i) (tf i)) (bD (dQ J k)))],[(c,.call (.builtin "list.index") ⟨[.ref (dP J k),.int x (cq (bI c 1))],[]⟩)],Ef (j:Int)⟩
theorem M4:∀{w:World} {A:Around} {s:Shared} {a:Nat} {f:Nat->Int} {J:Nat->Nat} {ep:Nat} {x:Int} {t j:Nat} (ho:s.heap.get? a=some (aa (ap λi=>.int (f i) (J i)) ep)) (hj:j<8) (h:f j=x) (OF:∀i<j,f i≠x),(Ef (j:Int)).ok (model pw w) A (.call (.builtin "list.index") ⟨[.ref a,.int x t],[]⟩) s:=by
 ext w A s a f J ep x t j:0;intro ho hj h OF;have OE:∀i (hi:i<(ap λi=>(.int (f i) (J i):Value)).toArray.size),(ap λi=>(.int (f i) (J i):Value)).toArray[i]=.int (f i) (J i):=λi hi=>by
  have:=fz (λi=>(.int (f i) (J i):Value)) (i:=i) (by simpa[ap] using hi);rw[List.getElem_toArray];exact Option.some.inj ((mR (by simpa using hi)).symm.trans this)
 refine fE F.slot_list_index (⟨_,ho,rfl⟩:Shared.TypeIs _ (.ref a) "list") F.entry_list_index (F.args_list_index_2 _ _) (list_indexAt a (ap λi=>.int (f i) (J i)).toArray ep none #[] (.int x t) (λv=>lo v==x) j (by simpa[ap] using hj) (by lia) ?_ ?_) ⟨ho,?_,⟨rfl,rfl⟩⟩
 .rw[OE];simpa[lo] using h
 .intro m hm OH;rw[OE];simpa[lo] using OF m OH
 .intro y hy;ext y ⟨hy⟩;have OG:y∈(ap λi=>(.int (f i) (J i):Value)):=by simpa using hy
  simp only[ap,aY,bS,bT] at OG;rcases OG with rfl|rfl|rfl|rfl|rfl|rfl|rfl|rfl<;>exact EqAt.int_int _ _ _ _
theorem sm {w dh k f tf x j} (hj:j<8) (h:f j=x) (J:∀i<j,f i≠x):ai w dh (eA k f tf x j):=bj λc lk A s hA hT hq=>M4 (hq _ aJ) hj h J
def fL (nm:Str) (h:Int) (z:Nat) (v:Value):Obj:=⟨.type "dict",none,.dict (tL (λU=>(h,z)) 0 [(nm,v)]).toArray 1,#[]⟩
structure nV where
 code:Code
 cd:Nat
 it:Nat
 acc:Nat
 nm:Str
 h:Int
 vs:Nat->Value
 itO:Nat->Obj
 itE:Obj
 Fx:List ad
namespace nV
variable (S:nV)
def cdAt (z:Nat):Nat->Obj
 |0=>cn 0
 |i+1=>fL S.nm S.h z (S.vs i)
def E (z:Nat) (i:Nat) (J:Obj) (xs:List Value) (el:Nat):List ad:=[⟨S.cd+158,S.cdAt z i⟩,⟨S.it+158,J⟩,⟨S.acc+158,aa xs el⟩]++S.Fx
end nV
def yI (w:World) (S:nV) (i:Nat) (out:Option (Nat->Value)):Prop:=
 ∀(z:Nat) (xs:List Value) (el:Nat),xs.length<=1000->∃(hs:List aq) (nh J orc:Nat) (ix:List Nat) (zf:Nat->Nat->Nat->(Nat->HR)->Nat) (tk:Nat->Nat->Nat->(Nat->HR)->Nat),
  (∀f∈hs,ai w 500 f)/\∀n t g r,ay (vL w 400 500 hs) J S.code .top (aM S.code) orc (S.E z i (S.itO i) xs el) n t g (bO r 0 nh) ix (.again S.code)
   ((match out with
    |none=>S.E (zf n t g r) (i+1) (S.itO (i+1)) xs el
    |some f=>S.E (zf n t g r) (i+1) (S.itO (i+1)) (xs.concat (f (tk n t g r))) (el+1)).map some) []
def B5 (w:World) (S:nV) (N:Nat):Prop:=
 ∀(z:Nat) (xs:List Value) (el:Nat),∃(hs:List aq) (nh J orc:Nat) (ix:List Nat),(∀f∈hs,ai w 500 f)/\∀n t g r,ay (vL w 400 500 hs) J S.code .top (aM S.code) orc (S.E z N (S.itO N) xs el) n t g (bO r 0 nh) ix (.ret (.ok .next))
   ((S.E z N S.itE xs el).map some) []
theorem rA:∀{w:World} {S:nV} {N:Nat} {out:Nat->Option (Nat->Value)} (hN:N<=500) (hc:bq S.code) (hq:S.code.quiet=true) (F:aj (S.E 0 0 (S.itO 0) [] 0)) (hT:∀i<N,yI w S i (out i)) (hE:B5 w S N),CX w 400 S.code (S.E 0 0 (S.itO 0) [] 0) (λr l'=>r=.ok .next/\∃(z:Nat) (ps:List (Nat×Nat)),ps.map (·.1)=(List.range N).filter (λi=>(out i).isSome)/\l'=S.E z N S.itE (ps.map (cx out)) ps.length):=by
 ext w S N out:0;intro hN hc hq F hT hE;have OG:∀k i,N - i=k->i<=N->∀(z:Nat) (ps:List (Nat×Nat)),ps.map (·.1)=(List.range i).filter (λi=>(out i).isSome)->
   CX w 400 S.code (S.E z i (S.itO i) (ps.map (cx out)) ps.length) (λr l'=>r=.ok .next/\∃(z:Nat) (ps:List (Nat×Nat)),ps.map (·.1)=(List.range N).filter (λi=>(out i).isSome)/\l'=S.E z N S.itE (ps.map (cx out)) ps.length):=by
  intro k;induction k with
  |zero=>
   intro i hk hi z ps OE;ext i z ps ⟨hk,hi,OE⟩;obtain rfl:i=N:=by lia
   obtain⟨hs,nh,J,orc,ix,hh,hr⟩:=hE z (ps.map (cx out)) ps.length;exact CX.run4 (l:=S.E z i (S.itO i) (ps.map (cx out)) ps.length) hh (bg _) (dX F rfl) hc nh J orc ix (λU U U U=>.ret (.ok .next)) (λU U U U=>S.E z i S.itE (ps.map (cx out)) ps.length) hr λU U U U U U=>⟨rfl,z,ps,OE,rfl⟩
  |succ k ih=>
   ext k ⟨ih⟩;intro i hk hi z ps OE;ext i z ps ⟨hk,hi,OE⟩;have OF:(ps.map (cx out)).length<=1000:=by
    have h1:=congrArg List.length OE;have h2:=List.length_filter_le (λi=>(out i).isSome) (List.range i);simp only[lQ,List.length_range] at h1 h2|-;lia
   have hT:=hT i (i7 hk);cases ho:out i with
   |none=>
    rw[ho] at hT;obtain⟨hs,nh,J,orc,ix,zf,tk,hh,hr⟩:=hT z (ps.map (cx out)) ps.length OF;exact CX.run4 (l:=S.E z i (S.itO i) (ps.map (cx out)) ps.length) hh (bg _) (dX F rfl) hc nh J orc ix (λU U U U=>.again S.code) (λn t g r=>S.E (zf n t g r) (i+1) (S.itO (i+1)) (ps.map (cx out)) ps.length) hr
     λn t g r U U=>⟨hq,ih (i+1) (ke hk) (i7 hk) _ ps (by rw[OE,List.range_succ,List.filter_append];simp[ho])⟩
   |some f=>
    rw[ho] at hT;obtain⟨hs,nh,J,orc,ix,zf,tk,hh,hr⟩:=hT z (ps.map (cx out)) ps.length OF;refine CX.run4 (l:=S.E z i (S.itO i) (ps.map (cx out)) ps.length) hh (bg _) (dX F rfl) hc nh J orc ix (λU U U U=>.again S.code) (λn t g r=>S.E (zf n t g r) (i+1) (S.itO (i+1)) ((ps.map (cx out)).concat (f (tk n t g r))) (ps.length+1)) hr
     λn t g r U U=>⟨hq,?_⟩
    have e1:(ps.map (cx out)).concat (f (tk n t g r))=(ps++[(i,tk n t g r)]).map (cx out):=by simp[cx,ho]
    have e2:ps.length+1=(ps++[(i,tk n t g r)]).length:=by simp
    rw[e1,e2];exact ih (i+1) (ke hk) (i7 hk) _ (ps++[(i,tk n t g r)]) (by rw[k6,OE,List.range_succ,List.filter_append];simp[ho])
 exact OG N 0 (by rfl) (iU _) 0 [] rfl
theorem sn {out:Nat->Option (Nat->Value)} {g:Nat->Value} (h:∀i f,out i=some f->∀t,f t=g i) {ps:List (Nat×Nat)} {l:List Nat} (J:ps.map (·.1)=l) (hs:∀i∈l,(out i).isSome=true):ps.map (cx out)=l.map g:=by
 subst J;rw[List.map_map];refine qF λp J=>?_;have:=hs p.1 (jv J);unfold cx;cases ho:out p.1 with
 |none=>rw[ho] at this;cases this
 |some f=>exact h _ _ ho _
def nX:Str:=⟨#[120]⟩
def Ad:Stmt->Expr
 |.Assign _ v _=>v
 |_=>default
def wG (p:Str×NameKind):Str×NameKind:=match p.2 with
 |.free=>(p.1,.cell)
 |_=>p
def lB (w:World):Stmt:=bV (ul (bV (df w) 5)) 0
def dg (w:World):List Stmt:=fA (lB w)
def Jt (w:World) (n:Nat) (e:Expr) (cells:List (Str×Addr)) (cd:Nat):Env:=
 {scope:={kL e with names:=(kL e).names.map wG},locals:=cd,globals:=3,cells,qual:=(aU w n).qual,func:=none,code:=(iI w 145).code,frame:=some (n+158),builtins:=(iI w 145).builtins}
def Ju (w:World):Expr:=Ad (bV (dg w) 0)
def FS (w:World) (n cd:Nat):Env:=Jt w n (Ju w) [(jh,n+167),(B3,n+165)] cd
def bv (w:World) (n cd it acc:Nat):Code:=.compLoop (Ju w) 0 (.ref it) (.ref acc) (FS w n cd)
def nf (w:World) (n cd it acc:Nat):Code:=.compStart (Ju w) 0 (.ref it) (.ref acc) (FS w n cd)
def dY (D:KD) (n j c tc:Nat):List ad:=[D.lW,⟨n+167,af (some (D.fW j))⟩,⟨n+165,af (some (.int (c:Int) (tc+1)))⟩]
def FT (w:World) (D:KD) (n cd it acc j c tc:Nat):nV:=
 {code:=bv w n (cd+158) (it+158) (acc+158),cd,it,acc,nm:=nX,h:=aB w nX,vs:=D.fW,itO:=aZ (D.aW+158),itE:=en 8,Fx:=dY D n j c tc}
def ip (D:KD) (it acc i j c:Nat) (x':Int) (b:Bool) (xs:List Value) (el:Nat):List aq:=
 [az 1 (it+158) 3 (D.aW+158) (ap D.fW) D.eW i (D.fW i),bB "int.__xor__" (D.X j:Int) (2^c:Nat) x',sj 6 [(D.X j:Int),x'] (D.X i:Int) b,c8 2 (acc+158) xs el (.int (D.X i:Int))]
def j0:Nat:=0x40428003298a600800294a4290a0280a0004a1
def j1:Nat:=0x403298a600800294a4290a0280a0004a1
section
variable (w:World) (D:KD) (n cd it acc i j tc:Nat) (x':Int) (xs:List Value) (el z:Nat) (n' t g:Nat)
theorem B6 (ρ ρ2):∀w,ay (vL w 400 500 (ip D it acc i j 0 x' true xs el)) 100 (bv w n (cd+158) (it+158) (acc+158)) .top (aM (bv w n (cd+158) (it+158) (acc+158))) j0
  ([⟨cd+158,cn 0⟩,⟨it+158,aZ (D.aW+158) i⟩,⟨acc+158,aa xs el⟩]++dY D n j 0 tc) n' t g [ρ,ρ2] [0,1,2,3,4,5]
  (.again (bv w n (cd+158) (it+158) (acc+158)))
  (([⟨cd+158,fL nX (aB w nX) ρ.t (D.fW i)⟩,⟨it+158,aZ (D.aW+158) (i+1)⟩,⟨acc+158,aa (xs.concat (.int (D.X i:Int) (D.tX i+1))) (el+1)⟩]++dY D n j 0 tc:List ad).map some) []:=aT
theorem B7 (ρ):∀w,ay (vL w 400 500 (ip D it acc i j 0 x' false xs el)) 100 (bv w n (cd+158) (it+158) (acc+158)) .top (aM (bv w n (cd+158) (it+158) (acc+158))) j1
  ([⟨cd+158,cn 0⟩,⟨it+158,aZ (D.aW+158) i⟩,⟨acc+158,aa xs el⟩]++dY D n j 0 tc) n' t g [ρ] [0,1,2,3,4,5]
  (.again (bv w n (cd+158) (it+158) (acc+158)))
  (([⟨cd+158,fL nX (aB w nX) ρ.t (D.fW i)⟩,⟨it+158,aZ (D.aW+158) (i+1)⟩,⟨acc+158,aa xs el⟩]++dY D n j 0 tc:List ad).map some) []:=aT
theorem B8 (v ρ ρ2):∀w,ay (vL w 400 500 (ip D it acc i j 0 x' true xs el)) 100 (bv w n (cd+158) (it+158) (acc+158)) .top (aM (bv w n (cd+158) (it+158) (acc+158))) j0
  ([⟨cd+158,fL nX (aB w nX) z v⟩,⟨it+158,aZ (D.aW+158) i⟩,⟨acc+158,aa xs el⟩]++dY D n j 0 tc) n' t g [ρ,ρ2] [0,1,2,3,4,5]
  (.again (bv w n (cd+158) (it+158) (acc+158)))
  (([⟨cd+158,fL nX (aB w nX) z (D.fW i)⟩,⟨it+158,aZ (D.aW+158) (i+1)⟩,⟨acc+158,aa (xs.concat (.int (D.X i:Int) (D.tX i+1))) (el+1)⟩]++dY D n j 0 tc:List ad).map some) []:=aT
theorem B9 (v ρ):∀w,ay (vL w 400 500 (ip D it acc i j 0 x' false xs el)) 100 (bv w n (cd+158) (it+158) (acc+158)) .top (aM (bv w n (cd+158) (it+158) (acc+158))) j1
  ([⟨cd+158,fL nX (aB w nX) z v⟩,⟨it+158,aZ (D.aW+158) i⟩,⟨acc+158,aa xs el⟩]++dY D n j 0 tc) n' t g [ρ] [0,1,2,3,4,5]
  (.again (bv w n (cd+158) (it+158) (acc+158)))
  (([⟨cd+158,fL nX (aB w nX) z (D.fW i)⟩,⟨it+158,aZ (D.aW+158) (i+1)⟩,⟨acc+158,aa xs el⟩]++dY D n j 0 tc:List ad).map some) []:=aT
theorem Ca (ρ ρ2):∀w,ay (vL w 400 500 (ip D it acc i j 1 x' true xs el)) 100 (bv w n (cd+158) (it+158) (acc+158)) .top (aM (bv w n (cd+158) (it+158) (acc+158))) j0
  ([⟨cd+158,cn 0⟩,⟨it+158,aZ (D.aW+158) i⟩,⟨acc+158,aa xs el⟩]++dY D n j 1 tc) n' t g [ρ,ρ2] [0,1,2,3,4,5]
  (.again (bv w n (cd+158) (it+158) (acc+158)))
  (([⟨cd+158,fL nX (aB w nX) ρ.t (D.fW i)⟩,⟨it+158,aZ (D.aW+158) (i+1)⟩,⟨acc+158,aa (xs.concat (.int (D.X i:Int) (D.tX i+1))) (el+1)⟩]++dY D n j 1 tc:List ad).map some) []:=aT
theorem Cb (ρ):∀w,ay (vL w 400 500 (ip D it acc i j 1 x' false xs el)) 100 (bv w n (cd+158) (it+158) (acc+158)) .top (aM (bv w n (cd+158) (it+158) (acc+158))) j1
  ([⟨cd+158,cn 0⟩,⟨it+158,aZ (D.aW+158) i⟩,⟨acc+158,aa xs el⟩]++dY D n j 1 tc) n' t g [ρ] [0,1,2,3,4,5]
  (.again (bv w n (cd+158) (it+158) (acc+158)))
  (([⟨cd+158,fL nX (aB w nX) ρ.t (D.fW i)⟩,⟨it+158,aZ (D.aW+158) (i+1)⟩,⟨acc+158,aa xs el⟩]++dY D n j 1 tc:List ad).map some) []:=aT
theorem Cc (v ρ ρ2):∀w,ay (vL w 400 500 (ip D it acc i j 1 x' true xs el)) 100 (bv w n (cd+158) (it+158) (acc+158)) .top (aM (bv w n (cd+158) (it+158) (acc+158))) j0
  ([⟨cd+158,fL nX (aB w nX) z v⟩,⟨it+158,aZ (D.aW+158) i⟩,⟨acc+158,aa xs el⟩]++dY D n j 1 tc) n' t g [ρ,ρ2] [0,1,2,3,4,5]
  (.again (bv w n (cd+158) (it+158) (acc+158)))
  (([⟨cd+158,fL nX (aB w nX) z (D.fW i)⟩,⟨it+158,aZ (D.aW+158) (i+1)⟩,⟨acc+158,aa (xs.concat (.int (D.X i:Int) (D.tX i+1))) (el+1)⟩]++dY D n j 1 tc:List ad).map some) []:=aT
theorem Cd (v ρ):∀w,ay (vL w 400 500 (ip D it acc i j 1 x' false xs el)) 100 (bv w n (cd+158) (it+158) (acc+158)) .top (aM (bv w n (cd+158) (it+158) (acc+158))) j1
  ([⟨cd+158,fL nX (aB w nX) z v⟩,⟨it+158,aZ (D.aW+158) i⟩,⟨acc+158,aa xs el⟩]++dY D n j 1 tc) n' t g [ρ] [0,1,2,3,4,5]
  (.again (bv w n (cd+158) (it+158) (acc+158)))
  (([⟨cd+158,fL nX (aB w nX) z (D.fW i)⟩,⟨it+158,aZ (D.aW+158) (i+1)⟩,⟨acc+158,aa xs el⟩]++dY D n j 1 tc:List ad).map some) []:=aT
theorem Ce (ρ ρ2):∀w,ay (vL w 400 500 (ip D it acc i j 2 x' true xs el)) 100 (bv w n (cd+158) (it+158) (acc+158)) .top (aM (bv w n (cd+158) (it+158) (acc+158))) j0
  ([⟨cd+158,cn 0⟩,⟨it+158,aZ (D.aW+158) i⟩,⟨acc+158,aa xs el⟩]++dY D n j 2 tc) n' t g [ρ,ρ2] [0,1,2,3,4,5]
  (.again (bv w n (cd+158) (it+158) (acc+158)))
  (([⟨cd+158,fL nX (aB w nX) ρ.t (D.fW i)⟩,⟨it+158,aZ (D.aW+158) (i+1)⟩,⟨acc+158,aa (xs.concat (.int (D.X i:Int) (D.tX i+1))) (el+1)⟩]++dY D n j 2 tc:List ad).map some) []:=aT
theorem Cf (ρ):∀w,ay (vL w 400 500 (ip D it acc i j 2 x' false xs el)) 100 (bv w n (cd+158) (it+158) (acc+158)) .top (aM (bv w n (cd+158) (it+158) (acc+158))) j1
  ([⟨cd+158,cn 0⟩,⟨it+158,aZ (D.aW+158) i⟩,⟨acc+158,aa xs el⟩]++dY D n j 2 tc) n' t g [ρ] [0,1,2,3,4,5]
  (.again (bv w n (cd+158) (it+158) (acc+158)))
  (([⟨cd+158,fL nX (aB w nX) ρ.t (D.fW i)⟩,⟨it+158,aZ (D.aW+158) (i+1)⟩,⟨acc+158,aa xs el⟩]++dY D n j 2 tc:List ad).map some) []:=aT
theorem Cg (v ρ ρ2):∀w,ay (vL w 400 500 (ip D it acc i j 2 x' true xs el)) 100 (bv w n (cd+158) (it+158) (acc+158)) .top (aM (bv w n (cd+158) (it+158) (acc+158))) j0
  ([⟨cd+158,fL nX (aB w nX) z v⟩,⟨it+158,aZ (D.aW+158) i⟩,⟨acc+158,aa xs el⟩]++dY D n j 2 tc) n' t g [ρ,ρ2] [0,1,2,3,4,5]
  (.again (bv w n (cd+158) (it+158) (acc+158)))
  (([⟨cd+158,fL nX (aB w nX) z (D.fW i)⟩,⟨it+158,aZ (D.aW+158) (i+1)⟩,⟨acc+158,aa (xs.concat (.int (D.X i:Int) (D.tX i+1))) (el+1)⟩]++dY D n j 2 tc:List ad).map some) []:=aT
theorem Ch (v ρ):∀w,ay (vL w 400 500 (ip D it acc i j 2 x' false xs el)) 100 (bv w n (cd+158) (it+158) (acc+158)) .top (aM (bv w n (cd+158) (it+158) (acc+158))) j1
  ([⟨cd+158,fL nX (aB w nX) z v⟩,⟨it+158,aZ (D.aW+158) i⟩,⟨acc+158,aa xs el⟩]++dY D n j 2 tc) n' t g [ρ] [0,1,2,3,4,5]
  (.again (bv w n (cd+158) (it+158) (acc+158)))
  (([⟨cd+158,fL nX (aB w nX) z (D.fW i)⟩,⟨it+158,aZ (D.aW+158) (i+1)⟩,⟨acc+158,aa xs el⟩]++dY D n j 2 tc:List ad).map some) []:=aT
theorem Lg (c v ρ):∀w,ay (vL w 400 500 [dG 1 (it+158) 3 (D.aW+158) (ap D.fW) D.eW 8]) 100 (bv w n (cd+158) (it+158) (acc+158)) .top (aM (bv w n (cd+158) (it+158) (acc+158))) 175113377
  ([⟨cd+158,fL nX (aB w nX) z v⟩,⟨it+158,aZ (D.aW+158) 8⟩,⟨acc+158,aa xs el⟩]++dY D n j c tc) n' t g [ρ] [0,1,2,3,4,5]
  (.ret (.ok .next)) (([⟨cd+158,fL nX (aB w nX) z v⟩,⟨it+158,en 8⟩,⟨acc+158,aa xs el⟩]++dY D n j c tc:List ad).map some) []:=aT
theorem M5 (c):ay (vL w 400 500 []) 20 (nf w n (cd+158) (it+158) (acc+158)) .top (aM (nf w n (cd+158) (it+158) (acc+158))) 1185
  ([⟨cd+158,cn 0⟩,⟨it+158,aZ (D.aW+158) 0⟩,⟨acc+158,aa [] 0⟩]++dY D n j c tc) n' t g [] [0,1,2,3,4,5]
  (.again (bv w n (cd+158) (it+158) (acc+158))) (([⟨cd+158,cn 0⟩,⟨it+158,aZ (D.aW+158) 0⟩,⟨acc+158,aa [] 0⟩]++dY D n j c tc:List ad).map some) []:=by kernel_rfl
end
structure j7 (D:KD) (m:Nat):Prop where
 mlt:m<8
 X:∀k,k<8->D.X k=m^^^k
def dw (j c:Nat):Nat:=j^^^2^c
def bY (j c:Nat):Nat:=min j (dw j c)
def bG (j c:Nat):Nat:=max j (dw j c)
def nW (j c i:Nat):Bool:=i==j||i==dw j c
theorem Eg:∀m<8,∀k<8,m^^^k<8:=by decide
theorem j7.lt {D m} (O:j7 D m) (h:k<8):D.X k<8:=by rw[O.X k h];exact Eg m O.mlt k h
theorem Eh:∀m<8,∀k<8,∀l<8,m^^^k=m^^^l->k=l:=by decide+kernel
theorem j7.inj {D m} (O:j7 D m) (hk:k<8) (hl:l<8) (h:D.X k=D.X l):k=l:=by
 rw[O.X k hk,O.X l hl] at h;exact Eh m O.mlt k hk l hl h
theorem lC:∀j<8,∀c<3,dw j c<8:=by decide
theorem Hk:∀m<8,∀j<8,∀c<3,Builtin.bitXor ((m^^^j:Nat):Int) ((2^c:Nat):Int)=((m^^^dw j c:Nat):Int):=by decide+kernel
theorem j7.xor {D m} (O:j7 D m) {j c} (hj:j<8) (hc:c<3):Builtin.bitXor (D.X j:Int) ((2^c:Nat):Int)=(D.X (dw j c):Int):=by
 rw[O.X j hj,O.X _ (lC j hj c hc)];exact Hk m O.mlt j hj c hc
theorem Ci:∀j<8,∀c<3,(List.range 8).filter (nW j c)=[bY j c,bG j c]:=by decide+kernel
theorem j7.any {D m} (O:j7 D m) {i j c} (hi:i<8) (hj:j<8) (hc:c<3):pJ [(D.X j:Int),(D.X (dw j c):Int)] (D.X i:Int)=nW j c i:=by
 have J:∀{k},k<8->tU (D.X k:Int) (D.X i:Int)=(i==k):=λ{k} hk=>by
  rw[qi];by_cases h:i=k
  .subst h;rw[show((D.X i:Int)==(D.X i:Int))=true from qG _,qG]
  .have:¬(D.X k:Int)=(D.X i:Int):=λe=>h (O.inj hk hi (by exact_mod_cast e)).symm;rw[eY.mpr this,eY.mpr h]
 unfold pJ pJ pJ nW;rw[J hj,J (lC j hj c hc)];cases i==j<;>cases i==dw j c<;>rfl
def kx (D:KD) (j c i:Nat):Option (Nat->Value):=match nW j c i with
 |true=>some λU=>D.fW i
 |false=>none
theorem Ei (w n cd it acc):bq (bv w n cd it acc):=ba rfl
theorem Cj (w n cd it acc):bq (nf w n cd it acc):=ba rfl
section
variable {w:World} {D:KD} {m:Nat} (O:j7 D m) {n cd it acc j c tc:Nat} (hj:j<8) (hc:c<3)
include O hj hc
theorem Hm:∀{i} (hi:i<8),yI w (FT w D n cd it acc j c tc) i (kx D j c i):=by
 revert w D m n cd it acc j c tc;ext w D m:0;intro O;ext n cd it acc j c tc:0;intro hj hc;ext i:0;intro hi;intro z xs el hx;ext z xs el ⟨hx⟩;have hA:=O.any hi hj hc;have hX:=O.xor hj hc;have hn:ai w 500 (az 1 (it+158) 3 (D.aW+158) (ap D.fW) D.eW i (D.fW i)):=c5 (fz _ hi);have OE:ai w 500 (bB "int.__xor__" (D.X j:Int) (2^c:Nat) (D.X (dw j c):Int)):=nU hX;have ha:ai w 500 (c8 2 (acc+158) xs el (.int (D.X i:Int))):=eK (bC hx (by decide));have J:c=0\/c=1\/c=2:=iF hc;unfold kx;cases hb:nW j c i with
 |true=>
  rw[hb] at hA;have ht:ai w 500 (sj 6 [(D.X j:Int),(D.X (dw j c):Int)] (D.X i:Int) true):=uY hA;cases i with
  |zero=>
   refine⟨ip D it acc 0 j c (D.X (dw j c):Int) true xs el,2,100,j0,[0,1,2,3,4,5],λU U U r=>(r 0).t,λU U U U=>0,nH hn OE ht ha,λn' t g r=>?_⟩;ext n' t g r;rcases J with rfl|rfl|rfl
   .exact B6 D n cd it acc 0 j tc _ xs el n' t g (r 0) (r 1) w
   .exact Ca D n cd it acc 0 j tc _ xs el n' t g (r 0) (r 1) w
   .exact Ce D n cd it acc 0 j tc _ xs el n' t g (r 0) (r 1) w
  |succ i=>
   ext i ⟨hi,hA,hn,ha,hb,ht⟩;refine⟨ip D it acc (i+1) j c (D.X (dw j c):Int) true xs el,2,100,j0,[0,1,2,3,4,5],λU U U U=>z,λU U U U=>0,nH hn OE ht ha,λn' t g r=>?_⟩;ext n' t g r;rcases J with rfl|rfl|rfl
   .exact B8 D n cd it acc (i+1) j tc _ xs el z n' t g (D.fW i) (r 0) (r 1) w
   .exact Cc D n cd it acc (i+1) j tc _ xs el z n' t g (D.fW i) (r 0) (r 1) w
   .exact Cg D n cd it acc (i+1) j tc _ xs el z n' t g (D.fW i) (r 0) (r 1) w
 |false=>
  rw[hb] at hA;have ht:ai w 500 (sj 6 [(D.X j:Int),(D.X (dw j c):Int)] (D.X i:Int) false):=uY hA;cases i with
  |zero=>
   refine⟨ip D it acc 0 j c (D.X (dw j c):Int) false xs el,1,100,j1,[0,1,2,3,4,5],λU U U r=>(r 0).t,λU U U U=>0,nH hn OE ht ha,λn' t g r=>?_⟩;ext n' t g r;rcases J with rfl|rfl|rfl
   .exact B7 D n cd it acc 0 j tc _ xs el n' t g (r 0) w
   .exact Cb D n cd it acc 0 j tc _ xs el n' t g (r 0) w
   .exact Cf D n cd it acc 0 j tc _ xs el n' t g (r 0) w
  |succ i=>
   ext i ⟨hi,hA,hn,ha,hb,ht⟩;refine⟨ip D it acc (i+1) j c (D.X (dw j c):Int) false xs el,1,100,j1,[0,1,2,3,4,5],λU U U U=>z,λU U U U=>0,nH hn OE ht ha,λn' t g r=>?_⟩;ext n' t g r;rcases J with rfl|rfl|rfl
   .exact B9 D n cd it acc (i+1) j tc _ xs el z n' t g (D.fW i) (r 0) w
   .exact Cd D n cd it acc (i+1) j tc _ xs el z n' t g (D.fW i) (r 0) w
   .exact Ch D n cd it acc (i+1) j tc _ xs el z n' t g (D.fW i) (r 0) w
omit O hj hc in
theorem Jv:B5 w (FT w D n cd it acc j c tc) 8:=λz xs el=>⟨[dG 1 (it+158) 3 (D.aW+158) (ap D.fW) D.eW 8],1,100,_,_,fq (fF (by rfl)),λn' t g r=>Lg D n cd it acc j tc xs el z n' t g c (D.fW 7) (r 0) w⟩
def nY (D:KD) (n cd it acc j c tc OE OG J kW OH OF:Nat):List (Nat×Nat×Obj):=
 [(OE,cd+158,cn 0),(OG,it+158,aZ (D.aW+158) 0),(J,acc+158,aa [] 0),(kW,D.aW+158,aa (ap D.fW) D.eW),(OH,n+167,af (some (D.fW j))),(OF,n+165,af (some (.int (c:Int) (tc+1))))]
def wH (w:World) (D:KD) (n cd it acc j c tc OE OF J kW OH OG:Nat) (p q:Nat):aq:=fX (nf w n (cd+158) (it+158) (acc+158)) (nY D n cd it acc j c tc OE OF J kW OH OG)
 (.gen λρ=>⟨.ok .next,[(OE,cd+158,fL nX (aB w nX) ρ.z (D.fW 7)),(OF,it+158,en 8),(J,acc+158,aa [D.fW p,D.fW q] 2)],[]⟩)
set_option tactic.hygienic true in
theorem Ck:∀(OE OG J kW OH OF:Nat) (F:aj ((nY D n cd it acc j c tc OE OG J kW OH OF).map qE)),ai w 400 (wH w D n cd it acc j c tc OE OG J kW OH OF (bY j c) (bG j c)):=by
 revert w D m n cd it acc j c tc;ext w D m:0;intro O;ext n cd it acc j c tc:0;intro hj hc;ext OE OG J kW OH OF:0;intro F;have S0:CX w 400 (nf w n (cd+158) (it+158) (acc+158)) ((nY D n cd it acc j c tc OE OG J kW OH OF).map qE)
   (λr l'=>r=.ok .next/\∃(z:Nat) (ps:List (Nat×Nat)),ps.map (·.1)=(List.range 8).filter (λi=>(kx D j c i).isSome)/\l'=(FT w D n cd it acc j c tc).E z 8 (en 8) (ps.map (cx (kx D j c))) ps.length):=
  CX.run4 (hs:=[]) (λ_ h=>nomatch h) (bg _) F (Cj _ _ _ _ _) 0 20 _ [0,1,2,3,4,5] (λ_ _ _ _=>.again (bv w n (cd+158) (it+158) (acc+158))) (λ_ _ _ _=>(nY D n cd it acc j c tc OE OG J kW OH OF).map qE)
   (λn' t g _=>M5 w D n cd it acc j tc n' t g c) λ_ _ _ _ _ _=>⟨aX rfl,rA (S:=FT w D n cd it acc j c tc) (by decide) (Ei _ _ _ _ _) (aX rfl) F (λi hi=>Hm O hj hc hi) Jv⟩
 refine By S0 λr l' ⟨hr,z,ps,OI,hl⟩ _=>⟨0,0,z,λn' t' g'=>?_⟩;rename_i OJ OK;ext r l' z ps n' t' g' ⟨OJ,OK,hr,OI,hl⟩;have hk:(List.range 8).filter (λi=>(kx D j c i).isSome)=[bY j c,bG j c]:=by
  rw[<-Ci j hj c hc];congr 1;funext i;unfold kx;cases nW j c i<;>rfl
 rw[hk] at OI;have hv:ps.map (cx (kx D j c))=[D.fW (bY j c),D.fW (bG j c)]:=by
  refine sn (g:=D.fW) (λi f h t=>?_) OI λi hi=>?_
  .ext i f t ⟨h⟩;unfold kx at h;cases hb:nW j c i with
   |true=>rw[hb] at h;cases h;rfl
   |false=>rw[hb] at h;cases h
  .have:i∈(List.range 8).filter (λi=>(kx D j c i).isSome):=by rw[hk];exact hi
   exact(List.mem_filter.mp this).2
 have OL:ps.length=2:=by have:=congrArg List.length OI;simpa using this
 rw[hv,OL] at hl;subst hl hr;refine⟨rfl,λq hq=>?_,λ_ h=>(nomatch h),.nil,λq hq=>?_⟩
 .simp only[aY,bS,bT] at hq;rcases hq with rfl|rfl|rfl
  .exact .head _
  .exact cy
  .exact gr
 .simp only[nY,aY,bS,bT] at hq;rcases hq with rfl|rfl|rfl|rfl|rfl|rfl
  .exact .inl ⟨_,.head _,rfl⟩
  .exact .inl ⟨_,cy,rfl⟩
  .exact .inl ⟨_,gr,rfl⟩
  .exact .inr vA
  .exact .inr Bk
  .exact .inr Fu
end
structure KT where
 T:Nat
 tT:Nat
 c:Nat
 tc:Nat
def Cl (D:KD) (M:KN) (Z:KT) (n j:Nat):List ad:=[⟨n+159,af (some (.int (Z.T:Int) (Z.tT+1)))⟩,⟨n+160,af (some (.ref (D.aW+158)))⟩,⟨n+161,af (some (.ref (D.aSO+158)))⟩,⟨n+162,af (some (.ref (D.aR+158)))⟩,
 ⟨n+163,af (some (.ref (D.aSt+158)))⟩,⟨n+164,af (some (.ref (D.aWd+158)))⟩,⟨n+165,af (some (.int (Z.c:Int) (Z.tc+1)))⟩,⟨n+167,af (some (D.fW j))⟩,⟨n+169,af (some (.ref (M.L+158)))⟩]
def ft (T:List ad) (F:Obj) (D:KD) (M:KN) (Z:KT) (ts:List an) (n j:Nat):List ad:=T++[⟨n+158,F⟩]++Cl D M Z n j++[D.lW,D.lSO,D.lS (D.X j),D.lR,D.lSt,D.lWd]++cO M.L ts M.eL
def mm (M:KN) (b1 J:Bool) (p q:Nat):List Value:=match b1 with
 |true=>match J with
  |true=>[M.fN p,M.fN q]
  |false=>[M.fN p]
 |false=>match J with
  |true=>[M.fN q]
  |false=>[]
def Ae (D:KD) (b1 J:Bool) (p q:Nat):List Value:=match b1 with
 |true=>match J with
  |true=>[D.fW p,D.fW q]
  |false=>[D.fW p]
 |false=>match J with
  |true=>[D.fW q]
  |false=>[]
def dj (k0 k1 k2 k3:Nat) (c3:CO):List ad:=[⟨78,pH k0 k1 k2 k3⟩,⟨k3+158,c3.o⟩]
def wI (k0 k1 k2:Nat):List ad:=[⟨78,aP [(87,k0),(71,k1),(77,k2)]⟩]
def wJ (b1 J:Bool):Nat:=match b1 with
 |true=>match J with
  |true=>2
  |false=>1
 |false=>match J with
  |true=>1
  |false=>0
set_option genCtorIdx true in
inductive W5 where
 |a|b|c|d|e
def W5.ep:W5->Bool
 |.d=>false
 |_=>true
def W5.gp:W5->Bool
 |.e=>false
 |_=>true
def W5.eq:W5->Bool
 |.b=>false
 |_=>true
def W5.gq:W5->Bool
 |.c=>false
 |_=>true
def Mt:cc->Bool
 |.a3=>true
 |.b1=>true
 |.b2=>true
 |.b4=>true
 |_=>false
def Jw:cc->Bool
 |.a3=>true
 |.b4=>true
 |_=>false
def Jx:cc->cc
 |.b1=>.b2
 |s=>s
def vu:Nat:=0xa2288121ecab0441003caf2bcaf2a8a603800034ae2b8ae2a40c2b4ad2b4aa29403320c8320a2288ca318c6310c6318c6000c631cc731cc7000c802ca3028b02c0b0320a7024082c4b12c4aa2a0072c4b12c4c82a0c8320c6318c4318c631800318c731cc731c003200628c052c0b02c0c829c0400cb12c4b12a8a8008b12c4b1320a8320c8318c6310c6318c6000c631800318c4000c4310a2314c5314a22880130cac000ac2b0a4
def FV:Nat:=vu - (0xa2288121ecab0441003caf2bcaf2a8a60375ddac9c0cc0325ffc277fdff7fafeb5d2e8c82ebf3fd01c074ba05c190641bd6cc2ffbfeffc24d77fdd13dcd17e9fa7ea31fe1<<<800)
def FW:Nat:=vu - (0x51144090f655821b6eda4e868021324affda86bbff808041360613fff7fdfdff7fb8360d835fbffa637fbfeff812047fde7400006008020080001<<<881)
def Lh:Nat:=FV+(0xbe2fc160574f0776326f58ffbfefa01ff7b40d07eafb3eaf8fe201beafa7ea003e132000300232fc1605815ce01f<<<430)
def Li:Nat:=FW+(0x5e0485e82da802fa17f80094fff7fe0b7f9b0801ffffffffc3ffe7df47d5f5807f10040118bffff9ff7fdff7ffff<<<511)
def M6:W5->Nat
 |.a=>vu
 |.b=>FV
 |.c=>FW
 |.d=>Lh
 |.e=>Li
def wK:Nat:=vu+(0x300c030000000c0300c0300c0300c0000c0300c0300c0000c0000000000000000300000000000000000000000000000000c0000c0300c0300c0300c030000300c0300c030000300000000000000000c000000000000000000000000000000030000300c0300c0300c0300c0000c030000300c0000c030000300c030000000003<<<51)
def Cm:Nat:=wK - (0xa2288121ecab0441003caf2bcaf2a8a60375ddac9c0cc0325ffc277fdff7fafeb5d300ce303f3fd02208cc00741f07c21d6cc8ffbfeffc2ad77fdcfbd6cffe3f8fe4337db<<<800)
def Cn:Nat:=wK - (0x51144090f655821b6eda4e868021324affda86bbff808041360613fff7fdfdff7fb84210841fbffa667fbfeff815053fde6800006008020080001<<<881)
def Jy:Nat:=Cm+(0xc43141c06f4f08f6326f58ffbfef8825f633acefe4f9be4f77dc01be4f8fe4003db33800318293141c0701bcc825<<<430)
def Jz:Nat:=Cn+(0x6105461839a803b9e7f80094fff7fe0e7f9b0801ffffffffb7ffe71f17c9f2807ee00401197ffff9ff7fdff7ffff<<<511)
def Lj:W5->Nat
 |.a=>wK
 |.b=>Cm
 |.c=>Cn
 |.d=>Jy
 |.e=>Jz
def wL:Nat:=0xa1284121ecaa0441003cae2b8ae2a4a503800034ad2b4ad2a00c2b0ac2b0a929003334cd334a1284cf32ccb324cb32ccb000cb330cc330cc000cd02ca2028af2bcaf334a6024082c0b02c0a929c072c0b02c0cd29ccd334cb32cc932ccb32c0032ccc330cc3300033406288052bcaf2bccd2980400cb02c0b02a4a7008b02c0b0334a7334cd32ccb324cb32ccb000cb32c0032cc9000c9324a1328ca328a128401320ab000ab2aca3
def Co:Nat:=wL - (0xa1284121ecaa0441003cae2b8ae2a4a50375edb09b0c80325bfc273fdff7fafeb5e2fccd2fff3fd02208cbf0741f07c21d70c7ffbfeffc2ad7bfdcffd6d03e3f8fe4333db<<<800)
def Cp:Nat:=wL - (0x50942090f655021b76dc4e066021304a7fda8ebdff808041340613dff7fdfdff7fb84210841fbffa65ffbfeff815053fde6a00006008020080001<<<881)
def JA:Nat:=Co+(0xc33101c06f5008f6426b59ffbfef8825f633bcf3e4f9be4f77dc01be4f8fe4003db33400314293101c0701bccc25<<<430)
def JB:Nat:=Cp+(0x6085461039a883b9eff80094dff7fe0e7f9b1001ffffffffb7ffe73f17c9f2807ee00401195ffff9ff7fdff7ffff<<<511)
def Lk:W5->Nat
 |.a=>wL
 |.b=>Co
 |.c=>Cp
 |.d=>JA
 |.e=>JB
def Mu:List Nat:=[0,1,2,3,4,5,6,7,8,9,10,11,12,13,14,15,16,17,18,19,20,21,22,23,24,25,26,27,28,29,30,31,32,33,34,39,43]
def JC:List Nat:=[0,1,2,3,4,5,6,7,8,9,10,11,12,13,14,15,16,17,18,19,20,21,22,23,24,25,26,27,28,29,30,31,32,33,34,35,36,37,38,39,40,45,49]
def Mv:List Nat:=[0,49,1,2,3,4,5,6,7,8,9,10,11,12,13,14,15,16,17,18,19,20,21,22,23,24,25,26,27,28,29,30,31,32,33,34,35,36,37,38,39,44,48]
def wM (w:World) (D:KD) (M:KN) (Z:KT) (n n' j p q i c:Nat) (x:W5) (S0 A1 A2 W:Str) (ff:aq):List aq:=[wH w D n (n'+2) n' (n'+1) j Z.c Z.tc (c+2) c (c+1) (i+3) (i+1) i p q,bd (i+8) D.fWd (D.X p),bd (i+8) D.fWd (D.X j),aF (D.Wd (D.X p)) (D.Wd (D.X j)) x.ep,bd (i+7) D.fSt (D.X p),pI (D.St (D.X p):Int) (Z.T:Int) x.gp,bd (i+8) D.fWd (D.X q),bd (i+8) D.fWd (D.X j),aF (D.Wd (D.X q)) (D.Wd (D.X j)) x.eq,bd (i+7) D.fSt (D.X q),pI (D.St (D.X q):Int) (Z.T:Int) x.gq,bd (i+4) D.fSO (D.X j),c6 (i+5) [D.S (D.X j) 0,D.S (D.X j) 1,D.S (D.X j) 2] Z.c S0,a6 ⟨#[123]⟩ S0 A1,bd (i+6) D.fR (D.X j),a6 A1 (D.R (D.X j)) A2,a6 A2 pj W,ff]
def FX (k0 k1 k2 k3:Nat) (c3:CO) (M:KN) (ts:List an) (W:Str) (b1 J:Bool) (p q:Nat):aq:=nc W M.L ((0,78,aP [(87,k0),(71,k1),(77,k2),(96,k3)])::(1,k3+158,c3.o)::qo 18 (cO M.L ts M.eL)) (mm M b1 J p q)
def Mw (k0 k1 k2:Nat) (M:KN) (ts:List an) (W:Str) (b1 J:Bool) (p q:Nat):aq:=nd W M.L ((0,78,aP [(87,k0),(71,k1),(77,k2)])::qo 17 (cO M.L ts M.eL)) 0 [(87,k0),(71,k1),(77,k2)] 96 11 (mm M b1 J p q)
def so (T:List ad) (F:Obj) (D:KD) (M:KN) (Z:KT) (ts:List an) (n j al fo p q:Nat) (b1 J:Bool):List ad:=ft T F D M Z ts n j++[⟨al,aa (Ae D b1 J p q) (wJ b1 J)⟩,⟨fo,aa (mm M b1 J p q) (wJ b1 J)⟩]
def up:List W5:=[.a,.b,.c,.d,.e]
theorem wN (x):x∈up:=by cases x<;>simp[up]
def Oe {α:Type u} (L:W5->World->α):World->Bool->List (α×α):=λw b=>up.map λx=>(L x (wF w false b),L x (wF w true b))
def Of {α:Type u} (L:W5->World->α):World->Bool->List (α×α):=λw b=>up.map λx=>(L x (wF w false b),L x (wF w true b))
theorem Og {α:Type u} {L R:W5->World->α} (h:Oe L=Of R:=by kernel_rfl) (x):∀w,L x w=R x w:=vH λw a b=>by
 have z:=List.map_inj_left.mp (congrFun (congrFun h w) b) x (wN x);cases a
 .exact congrArg Prod.fst z
 .exact congrArg Prod.snd z
def Oh {α:Type u} (p:cc->Bool) (L:W5->cc->World->α):World->Bool->List (List (α×α)):=λw b=>up.map λx=>(pG.filter p).map λs=>(L x s (wF w false b),L x s (wF w true b))
def Oi {α:Type u} (p:cc->Bool) (L:W5->cc->World->α):World->Bool->List (List (α×α)):=λw b=>up.map λx=>(pG.filter p).map λs=>(L x s (wF w false b),L x s (wF w true b))
theorem Mx {α:Type u} {p} {L R:W5->cc->World->α} (h:Oh p L=Oi p R:=by kernel_rfl) (x):∀sh,p sh=true->∀w,L x sh w=R x sh w:=qL (funext λw=>funext λb=>List.map_inj_left.mp (congrFun (congrFun h w) b) x (wN x))
section
variable (w:World) (k0 k1 k2 k3:Nat) (c3:CO) (D:KD) (M:KN) (Z:KT) (n j p q:Nat) (S0 A1 A2 W:Str) (ep:Nat) (K:Nat->Int×Nat) (v:Nat->Value) (n' t g:Nat) (r:Nat->HR)
theorem Hn:∀x sh,Mt sh=true->∀w,bP (vL w 360 400 (wM w D M Z n n' j p q 9 35 x S0 A1 A2 W (FX k0 k1 k2 k3 c3 M M.ths W (x.ep&&x.gp) (x.eq&&x.gq) p q))) 400 default .base (a9 ((dg w).take 3) (aU w n)) (M6 x) (ft (dj k0 k1 k2 k3 c3) (aA sh ep K v) D M Z M.ths n j) n' t g (bO r 0 6) Mu
   (.fin (.done .next)) (λo=>(so (dj k0 k1 k2 k3 c3) (aA (Jx sh) (bD (o 2)) (KO (o 2)) (aD (aD (aD v 4 (.ref (n'+159))) 5 (.ref ((r 0).n+159))) 6 (.ref ((r 5).x+158)))) D M Z M.ths n j ((r 0).n+159) ((r 5).x+158) p q (x.ep&&x.gp) (x.eq&&x.gq)).map some) []:=Mx
theorem Ej (x0 x1 x2:an):∀(x:W5) sh,Jw sh=true->∀w,bP (vL w 360 400 (wM w D M Z n n' j p q 9 41 x S0 A1 A2 W (FX k0 k1 k2 k3 c3 M (M.ths++[x0,x1,x2]) W (x.ep&&x.gp) (x.eq&&x.gq) p q))) 400 default .base (a9 ((dg w).take 3) (aU w n)) (Lj x) (ft (dj k0 k1 k2 k3 c3) (aA sh ep K v) D M Z (M.ths++[x0,x1,x2]) n j) n' t g (bO r 0 6) JC
   (.fin (.done .next)) (λo=>(so (dj k0 k1 k2 k3 c3) (aA sh (bD (o 2)) (KO (o 2)) (aD (aD (aD v 4 (.ref (n'+159))) 5 (.ref ((r 0).n+159))) 6 (.ref ((r 5).x+158)))) D M Z (M.ths++[x0,x1,x2]) n j ((r 0).n+159) ((r 5).x+158) p q (x.ep&&x.gp) (x.eq&&x.gq)).map some) []:=Mx
theorem Ek (x0 x1 x2:an):∀(x:W5) w,bP (vL w 360 400 (wM w D M Z n n' j p q 8 40 x S0 A1 A2 W (Mw k0 k1 k2 M (M.ths++[x0,x1,x2]) W (x.ep&&x.gp) (x.eq&&x.gq) p q))) 400 default .base (a9 ((dg w).take 3) (aU w n)) (Lk x) (ft (wI k0 k1 k2) (aA .a2 ep K v) D M Z (M.ths++[x0,x1,x2]) n j) n' t g (bO r 0 6) Mv
   (.fin (.done .next)) (λo=>(so [⟨78,pH k0 k1 k2 ((r 5).y+5)⟩,⟨(r 5).y+5+158,fO 96 (r 5).y (r 5).z 11⟩] (aA .a3 (bD (o 1)) (KO (o 1)) (aD (aD (aD v 4 (.ref (n'+159))) 5 (.ref ((r 0).n+159))) 6 (.ref ((r 5).x+158)))) D M Z (M.ths++[x0,x1,x2]) n j ((r 0).n+159) ((r 5).x+158) p q (x.ep&&x.gp) (x.eq&&x.gq)).map some) []:=Og
end
def gM (w:World):Stmt:=bV (dg w) 3
def Cq:Nat:=0xa82a0a82a8a6298a5298a629800298a729ca729c00008a4290a4004a828ca328ca3284a22a0a8298a6294a6298a6000a629800298a5000a5294a0
def JD:Nat:=Cq+(0x54150541545314c5294c5314c0014c5394e5394e0000852148520065414651946517f1fcfffff<<<431)
def Cr:Nat:=0x2280a5294a5294a0004a1290a4290a428000288a2000a2000a000003
def Cs:Nat:=0x8a0294a5294a528000288a2000a2000a000003
def jw:cc->Bool
 |.a3=>true
 |.b2=>true
 |.b4=>true
 |_=>false
def Ct:cc->Bool
 |.a2=>true
 |.b1=>true
 |sh=>jw sh
section
variable (w:World) (D:KD) (M:KN) (n j p q:Nat) (ep:Nat) (K:Nat->Int×Nat) (v:Nat->Value) (n' t g:Nat)
def pL (D:KD) (M:KN) (n:Nat):List ad:=[⟨n+160,af (some (.ref (D.aW+158)))⟩,⟨n+168,af (some (.ref (M.aN+158)))⟩,D.lW,M.lN]
def dA (v:Nat->Value) (J fo:Nat):Nat->Value:=aD (aD v 5 (.ref (J+158))) 6 (.ref (fo+158))
theorem Oj (al fo):∀sh,jw sh=true->ay (vL w 360 400 []) 20 default .base (fM (mE (gM w)) (aU w n)) 160 [⟨n+158,aA sh ep K (dA v al fo)⟩] n' t g [] [0]
  (.fin (.done (.ret (.ref (fo+158))))) [some ⟨n+158,aA sh ep K (dA v al fo)⟩] []:=Mn
theorem JE (al fo):∀sh,jw sh=true->∀w,ay (vL w 360 400 [eA 3 (λi=>(D.X i:Int)) (λi=>D.tX i+1) (D.X p:Int) p,bd 4 M.fN p]) 200 default .base (fM (gT (gM w)) (aU w n)) Cq
  ([⟨n+158,aA sh ep K (dA v al fo)⟩]++pL D M n++[⟨al+158,aa [D.fW p] 1⟩]) n' t g [] [0,1,2,3,4,5,7]
  (.fin (.done (.ret (.ref (n'+159))))) (([⟨n+158,aA sh ep K (dA v al fo)⟩]++pL D M n++[⟨al+158,aa [D.fW p] 1⟩,⟨n'+159,aa [M.fN p] 1⟩]:List ad).map some) []:=qL
theorem Ol (al fo kn ak pk pa ek ea y1 ρ ρ2):∀sh,jw sh=true->∀w,ay (vL w 360 400 [c8 4 (kn+158) (am pk) ek (.int (D.X j:Int)),si 5 3 (am pa)]) 100 default .base (a9 ((dg w).drop 4) (aU w n)) Cr
  [⟨n+158,aA sh ep K (aD (aD (dA v al fo) 0 (.ref (kn+158))) 3 (.ref (ak+158)))⟩,⟨n+167,af (some (D.fW j))⟩,⟨fo+158,aa [y1] 1⟩,⟨al+158,aa [D.fW p] 1⟩,⟨kn+158,aa (am pk) ek⟩,⟨ak+158,aa (am pa) ea⟩] n' t g [ρ,ρ2] [0,1,4,5]
  (.fin (.done .next)) [some ⟨n+158,aA sh ep K (aD (aD (dA v al fo) 0 (.ref (kn+158))) 3 (.ref (ak+158)))⟩,some ⟨n+167,af (some (D.fW j))⟩,some ⟨kn+158,aa ((am pk).concat (.int (D.X j:Int) (D.tX j+1))) (ek+1)⟩,some ⟨ak+158,aa (am pa++[D.fW p]) (ea+1)⟩] []:=qL
theorem M7 (al fo):∀sh,jw sh=true->∀w,ay (vL w 360 400 [eA 3 (λi=>(D.X i:Int)) (λi=>D.tX i+1) (D.X p:Int) p,bd 4 M.fN p,eA 3 (λi=>(D.X i:Int)) (λi=>D.tX i+1) (D.X q:Int) q,bd 4 M.fN q]) 200 default .base (fM (gT (gM w)) (aU w n)) JD
  ([⟨n+158,aA sh ep K (dA v al fo)⟩]++pL D M n++[⟨al+158,aa [D.fW p,D.fW q] 2⟩]) n' t g [] [0,1,2,3,4,5,7]
  (.fin (.done (.ret (.ref (n'+159))))) (([⟨n+158,aA sh ep K (dA v al fo)⟩]++pL D M n++[⟨al+158,aa [D.fW p,D.fW q] 2⟩,⟨n'+159,aa [M.fN p,M.fN q] 2⟩]:List ad).map some) []:=qL
theorem Om (al fo kn ak pk pa ek ea y1 y2 ρ):∀sh,jw sh=true->∀w,ay (vL w 360 400 [c8 4 (kn+158) (am pk) ek (.int (D.X j:Int)),si 5 3 (am pa)]) 100 default .base (a9 ((dg w).drop 4) (aU w n)) Cs
  [⟨n+158,aA sh ep K (aD (aD (dA v al fo) 0 (.ref (kn+158))) 3 (.ref (ak+158)))⟩,⟨n+167,af (some (D.fW j))⟩,⟨fo+158,aa [y1,y2] 2⟩,⟨al+158,aa [D.fW p,D.fW q] 2⟩,⟨kn+158,aa (am pk) ek⟩,⟨ak+158,aa (am pa) ea⟩] n' t g [ρ] [0,1,4,5]
  (.fin (.done .next)) [some ⟨n+158,aA sh ep K (aD (aD (dA v al fo) 0 (.ref (kn+158))) 3 (.ref (ak+158)))⟩,some ⟨n+167,af (some (D.fW j))⟩,some ⟨kn+158,aa (am pk) ek⟩,some ⟨ak+158,aa (am pa++[D.fW p,D.fW q]) (ea+1)⟩] []:=qL
def lD (D:KD) (n j:Nat):List ad:=[⟨n+162,af (some (.ref (D.aR+158)))⟩,⟨n+167,af (some (D.fW j))⟩,D.lR]
def rB (D:KD) (j J:Nat) (b:Bool) (pa:List (Int×Nat)) (r:Bool):List aq:=[bd 3 D.fR (D.X j),eT (D.R (D.X j)) 0 J,aF ⟨#[J]⟩ ⟨#[46]⟩ b,sk 4 pa (D.X j:Int) r]
theorem On (ak pa ea c0 ρ):∀sh,Ct sh=true->∀w,ay (vL w 360 400 (rB D j c0 true pa false)) 100 default .base (ml (wD (lB w)) (aU w n)) 0x4290a4280a200c02004a328ca3288a1
  ([⟨n+158,aA sh ep K (aD v 3 (.ref (ak+158)))⟩]++lD D n j++[⟨ak+158,aa (am pa) ea⟩]) n' t g [ρ] [0,1,2,3,4] (.fin (.done (.ret (.bool true)))) (([⟨n+158,aA sh ep K (aD v 3 (.ref (ak+158)))⟩]++lD D n j++[⟨ak+158,aa (am pa) ea⟩]:List ad).map some) []:=qL
theorem Oo (ak pa ea c0 ρ):∀sh,jw sh=true->∀w,ay (vL w 360 400 (rB D j c0 true pa true)) 100 default .base (a9 [lB w] (aU w n)) 0x4290a4280a200c02004a328ca3288a1
  ([⟨n+158,aA sh ep K (aD v 3 (.ref (ak+158)))⟩]++lD D n j++[⟨ak+158,aa (am pa) ea⟩]) n' t g [ρ] [0,1,2,3,4] (.fin (.done .next)) (([⟨n+158,aA sh ep K (aD v 3 (.ref (ak+158)))⟩]++lD D n j++[⟨ak+158,aa (am pa) ea⟩]:List ad).map some) []:=qL
theorem Op (F pa c0 ρ):∀w,ay (vL w 360 400 (rB D j c0 false pa false)) 100 default .base (a9 [lB w] (aU w n)) 0xc02004a328ca3288a1
  ([⟨n+158,F⟩]++lD D n j) n' t g [ρ] [0,1,2,3] (.fin (.done .next)) (([⟨n+158,F⟩]++lD D n j:List ad).map some) []:=aT
def Af (w:World):Stmt:=bV (df w) 5
def ky:Stmt->Expr
 |.For t _ _ _ _=>t
 |_=>default
theorem Oq (it i ρ):∀w,ay (vL w 360 400 [az 0 (it+158) 1 (D.aW+158) (ap D.fW) D.eW i (D.fW i)]) 20 default .base (d8 (.ref (it+158))) 1184 [⟨it+158,aZ (D.aW+158) i⟩,D.lW] n' t g [ρ] [0,1]
  (.fin (.done (.ret (D.fW i)))) [some ⟨it+158,aZ (D.aW+158) (i+1)⟩,some D.lW] []:=aT
theorem Or (it ρ):∀w,ay (vL w 360 400 [dG 0 (it+158) 1 (D.aW+158) (ap D.fW) D.eW 8]) 20 default .base (d8 (.ref (it+158))) 170919072 [⟨it+158,aZ (D.aW+158) 8⟩,D.lW] n' t g [ρ] [1]
  (.fin (.done .next)) [some D.lW] []:=aT
theorem Os (o i):ay (vL w 360 400 []) 20 default .base (f9 (ky (Af w)) (aU w n) (D.fW i)) 164000 [⟨n+167,af o⟩] n' t g [] [0]
  (.fin (.done .next)) [some ⟨n+167,af (some (D.fW i))⟩] []:=by kernel_rfl
theorem Ot:∀w,ay (vL w 360 400 []) 20 (.block [] (aU w n)) .top (aM (.block [] (aU w n))) 0 [] n' t g [] [] (.ret (.ok .next)) [] []:=aT
end
section
variable {w:World} {d:Nat} {hs:Nat->List aq} (hd:d<=360) {l:List ad} (F:aj l) (H:∀n,(∀a∈aC l,a<n+158)->∀f∈hs n,ai w 400 f)
include hd F H
end
section
variable {w:World} {d:Nat} {hs:List aq} (hd:d<=360) {l:List ad} (F:aj l) (H:∀f∈hs,ai w 400 f)
include hd F H
end
theorem bH.live {w l l' L L'} (D:bH w s s' (aC l) l') (H:aQ s L) (hl:∀e∈l,e∈L) (FL:aj L)
  (h:∀e∈L',e∈l'\/(e∈L/\(e.a∉aC l))):bH w s s' (aC L) L':=by
 refine⟨D.top,D.more,D.tmore,D.drawn,D.os,λa o g n=>D.keep a o g λm=>n ?_,D.gkeep,λe J=>?_,λe J=>?_⟩
 .refine eO λU k_=>?_;obtain⟨e,J,rfl⟩:=cT.mp m;refine k_ ?_;exact fe (hl e J)
 .rcases h e J with q|q
  .rcases D.adr e q with z|z
   .refine eO λU k_=>?_;obtain⟨f,hf,OE⟩:=cT.mp z;refine k_ ?_;rw[<-OE];exact .inl (fe (hl f hf))
   .exact .inr z
  .exact .inl (fe q.1)
 .rcases h e J with q|q
  .exact D.has e q
  .exact D.keep _ _ (H e q.1) q.2
def cf (i rem:Nat):Obj:=dy "range_iterator" [.int (i:Int) 0,.int (rem:Int) 0,.int 1 0]
def uZ (a:Nat):Code:=.call (.builtin "range_iterator.__next__") ⟨[.ref a],[]⟩
theorem cJ.set2:∀{s n t x y z k a o o' f g r} (h1:s.heap.objs.size=n+158) (h3:s.toks<=t+1) (ho:s.heap.get? a=some o) (OE:(f o).isFreed=false) (hf:g (f o)=o') (hn:o'.isFreed=false),cJ s {s with heap:=(s.heap.update a f).update a g,toks:=t+1} ⟨n,t,s.gens.size,x,y,z⟩ ⟨r,[(k,a,o')],[]⟩:=by
 ext s n t x y z k a o o' f g:0;ext r:0;intro h1 h3 ho OE hf hn;have hs:Heap.SameBut a s.heap (s.heap.update a f):=Heap.SameBut.update ..;have J:Heap.SameBut a (s.heap.update a f) ((s.heap.update a f).update a g):=Heap.SameBut.update ..;have OF:(s.heap.update a f).get? a=some (f o):=Heap.get?_update_self _ ho OE;subst hf;refine⟨?_,?_,rfl,h3,rfl,rfl,rfl,λU U h=>h,λb o h hb=>?_,λq hq=>?_,λU h=>(nomatch h),List.Pairwise.nil⟩
 .show((s.heap.update a f).update a g).objs.size=n+158;rw[J.1,hs.1];exact h1
 .show _<=((s.heap.update a f).update a g).objs.size;rw[J.1,hs.1];exact bg _
 .have hne:b≠a:=λe=>hb _ aJ e.symm;exact(J.2 b hne).trans ((hs.2 b hne).trans h)
 .ext q ⟨hq⟩;cases hq with
  |head=>exact Heap.get?_update_self _ OF hn
  |tail _ h=>cases h
def gW (k a i rem:Nat):aq:=fX (uZ a) [(k,a,cf i (rem+1))] (.gen λρ=>⟨.ok (.ret (.int (i:Int) (ρ.x+1))),[(k,a,cf (i+1) rem)],[]⟩)
def gY (k a i:Nat):aq:=fX (uZ a) [(k,a,cf i 0)] (.gen λρ=>⟨.error (.ref (ρ.x+159)),[],[⟨ρ.x+158,bt []⟩,⟨ρ.x+159,gP (ρ.x+158)⟩]⟩)
theorem gZ:∀{w dh k a i rem},ai w dh (gW k a i rem):=by
 ext w dh k a i rem:0;refine eJ λA s hA hT hq=>?_;ext A s ⟨hA,hT,hq⟩;have J:s.heap.get? a=some (cf i (rem+1)):=hq _ aJ;refine cz F.slot_range_iterator_next (⟨_,J,rfl⟩:Shared.TypeIs _ (.ref a) "range_iterator") F.entry_range_iterator_next (F.args_range_iterator_next_1 _) ?_;show wpAny _ _ (field (.ref a) 0>>=_) _ _ s;refine ao (lT J rfl (x:=.int i 0) rfl ?_);show wpAny _ _ (field (.ref a) 1>>=_) _ _ s;refine ao (lT J rfl (x:=.int ((rem+1:Nat):Int) 0) rfl ?_);show wpAny _ _ (field (.ref a) 2>>=_) _ _ s;refine ao (lT J rfl (x:=.int 1 0) rfl ?_);have hl:¬(((rem+1:Nat):Int)<=0):=by simp
 simp only[hl,if_false];obtain⟨n,t',hn,ht⟩:=hT.nat;have h1:(s.heap.update a (Obj.mapFields λx=>x.setIfInBounds 0 (rawInt ((i:Int)+1)))).get? a=some (Obj.mapFields (λx=>x.setIfInBounds 0 (rawInt ((i:Int)+1))) (cf i (rem+1))):=Heap.get?_update_self _ J rfl;refine ao (wpAny_setField J rfl (by simp) ?_);refine ao (wpAny_setField h1 rfl (by simp) ?_);refine ao (m:=mkInt _) (wpAny_mkInt (aH ?_));refine⟨⟨n,t'+1,s.gens.size,t',0,0⟩,?_,?_⟩
 .show Except.ok (Flow.ret (Value.int _ s.toks))=_;rw[ht]
 .rw[ht];have e1:((i:Int)+1)=((i+1:Nat):Int):=by push_cast;rfl
  have e2:(((rem+1:Nat):Int) - 1)=(rem:Int):=by simp
  refine cJ.set2 (o':=cf (i+1) rem) hn (Dn ht) J rfl ?_ rfl;rw[e1,e2];rfl
theorem jT:∀{w dh k a i},ai w dh (gY k a i):=by
 ext w dh k a i:0;refine eJ λA s hA hT hq=>?_;ext A s ⟨hA,hT,hq⟩;have J:s.heap.get? a=some (cf i 0):=hq _ aJ;refine cz F.slot_range_iterator_next (⟨_,J,rfl⟩:Shared.TypeIs _ (.ref a) "range_iterator") F.entry_range_iterator_next (F.args_range_iterator_next_1 _) ?_;show wpAny _ _ (field (.ref a) 0>>=_) _ _ s;refine ao (lT J rfl (x:=.int i 0) rfl ?_);show wpAny _ _ (field (.ref a) 1>>=_) _ _ s;refine ao (lT J rfl (x:=.int ((0:Nat):Int) 0) rfl ?_);show wpAny _ _ (field (.ref a) 2>>=_) _ _ s;refine ao (lT J rfl (x:=.int 1 0) rfl ?_);have hl:(((0:Nat):Int)<=0):=by decide
 simp only[hl,if_true];refine ao (wpAny_rule ?_);refine ao ?_;show wpAny _ _ (newExc (.type "StopIteration") []>>=_) _ _ _;refine ao ?_;simp only[newExc,newTuple];refine ao (wpAny_newObj_type ?_ (by size_fits));refine ao (m:=firstArgMember _ _) (wpAny_of_eq (a:=Value.none) (by first|rfl|(simp only[firstArgMember];rfl)) ?_);refine wpAny_newObj_type ?_ (by size_fits);simp only[raiseNew];refine ao (wpAny_handled ?_);rw[show A.in1.handled=none from hA.hd];refine ao (aH (wpAny_throw ?_));obtain⟨n,t',hn,ht⟩:=hT.nat;ext n t' ⟨hn,ht⟩;refine⟨⟨n+2,t',s.gens.size,n,0,0⟩,?_,?_⟩
 .rw[k8,hn]
 .have P:=cJ.same (s:=s) (n:=n) (t:=t') (x:=n) (y:=0) (z:=0) (r:=.error (.ref (n+159))) hn (j9 ht);rw[<-ht] at P;have P2:=(P.push (x:=bt []) rfl).push (x:=gP (n+158)) rfl;rw[hn];exact P2
def wO (k:Nat) (o:Obj) (i:Nat) (v:Value):aq:=λc J=>some ⟨[(k,dP J k,o)],[(c,.call (.builtin "list.__getitem__") ⟨[.ref (dP J k),.int (i:Int) (cq (bI c 1))],[]⟩)],.pure 0 λ_=>.ok (.ret v)⟩
def aV (dd:Option Addr) (xs:List Value) (ep:Nat) (sl:Array (Option Value)):Obj:=⟨.type "list",dd,.seq xs.toArray ep,sl⟩
theorem Cu:∀{w A s a dd sl xs ep t k v} {R:Result->Shared->Prop} (ho:s.heap.get? a=some (aV dd xs ep sl)) (h0:0<=k) (J:k<2^63) (hx:xs.toArray[k.toNat]? =some v) (h:R (.ok (.ret v)) s),bf (model pw w) A (.call (.builtin "list.__getitem__") ⟨[.ref a,.int k t],[]⟩) R s:=by
 ext w A s a dd sl xs ep t k v R:0;intro ho h0 J hx h;refine cz slot_list_getitem (⟨_,ho,rfl⟩:Shared.TypeIs _ (.ref a) "list") entry_list_getitem (args_list_getitem _ _) ?_;show wpAny _ _ (Builtin.List.listSubscript? (.int k t)>>=_) _ _ s;refine ao (wpAny_listSubscript_int (fitsIndex_of h0 J) ?_);clear J;obtain⟨j,rfl⟩:=Int.eq_ofNat_of_zero_le h0;ext j ⟨h0,hx⟩;have OE:xs.toArray[j]? =some v:=hx;show wpAny _ _ ((seqItemAt a j>>=λr=>pure (r.map (j,·)))>>=_) _ _ s;refine ao (ao (wpAny_seqItemAt ho rfl (aH ?_)));rw[OE];exact aH h
theorem xR {w dh k dd sl xs ep i v} (h:xs[i]? =some v) (hi:i<2^63):ai w dh (wO k (aV dd xs ep sl) i v):=bj λc lk A s hA hT J=>Cu (J _ aJ) (Int.natCast_nonneg i) (by lia) (by simpa using h) ⟨rfl,rfl⟩
theorem fC {w dh a b r} (hb:b≠0) (h:a.fmod b=r):ai w dh (bB "int.__mod__" a b r):=cF λta J A s hA hT hq=>by
 have g:=AutoIntG6.int___mod___int_int_1 a ta b J (by simpa using hb);rw[h] at g;exact cE F.slot_int_mod (typeIs_int s _ _) F.entry_int_mod (F.args_int_mod_2 _ _) g ⟨rfl,rfl⟩
theorem qN {w dh a b r} (h:a+b=r):ai w dh (bB "int.__add__" a b r):=cF λta J A s hA hT hq=>by
 have g:=gives_int_add a b ta J;rw[h] at g;exact cE F.slot_int_add (typeIs_int s _ _) F.entry_int_add (F.args_int_add_2 _ _) g ⟨rfl,rfl⟩
def WX {α:Type} (w:World) (d:Nat) (p:Sem α) (l:List ad) (post:α->List ad->Prop):Prop:=
 ∀A s,aL d A->aK w s->aQ s l->wpAny (model pw w) A p (λx J=>∃l',post x l'/\bH w s J (aC l) l') (λU U=>False) s
theorem WX.mono {α:Type} {w d} {p:Sem α} {l} {post post':α->List ad->Prop} (h:WX w d p l post) (J:∀r l',post r l'->post' r l'):WX w d p l post':=λA s hA T H=>
 dR (h A s hA T H) (λU U ⟨l',h,D⟩=>⟨l',J _ _ h,D⟩) λU U x=>x
theorem WX.of {α:Type} {w d} {p:Sem α} {l l0} {post:α->List ad->Prop} (h:WX w d p l post) (hl:∀e∈l,e∈l0):WX w d p l0 post:=λA s hA T H=>
 dR (h A s hA T λe J=>H e (hl e J)) (λU U ⟨l',hp,D⟩=>⟨l',hp,D.sub (λa ha=>by
  obtain⟨e,J,rfl⟩:=cT.mp ha;exact fe (hl e J)) λU h=>h⟩) λU U x=>x
theorem WX.depth {α:Type} {w d d'} {p:Sem α} {l} {post:α->List ad->Prop} (h:WX w d p l post) (hd:d'<=d):WX w d' p l post:=λA s hA T H=>h A s (hA.mono hd) T H
def jj:List ad->Nat->ad
 |[],_=>⟨0,af none⟩
 |e::_,0=>e
 |_::r,i+1=>jj r i
theorem g7:∀{L i},i<L.length->jj L i∈L
 |[],_,h=>bh h (Nat.not_lt_zero _)
 |_::_,0,_=>.head _
 |_::r,i+1,h=>.tail _ (g7 (L:=r) (Nat.lt_of_succ_lt_succ h))
theorem kz:∀{L i j},L.Pairwise (λe f=>e.a≠f.a)->i<L.length->j<L.length->i≠j->(jj L i).a≠(jj L j).a
 |[],_,_,_,h,_,_=>bh h (Nat.not_lt_zero _)
 |_::_,0,0,_,_,_,n=>bh rfl n
 |_::r,0,j+1,p,_,h,_=>(lP.mp p).1 _ (g7 (L:=r) (Nat.lt_of_succ_lt_succ h))
 |_::r,i+1,0,p,h,_,_=>Ne.symm ((lP.mp p).1 _ (g7 (L:=r) (Nat.lt_of_succ_lt_succ h)))
 |_::r,i+1,j+1,p,h,h',n=>kz (L:=r) (lP.mp p).2 (Nat.lt_of_succ_lt_succ h) (Nat.lt_of_succ_lt_succ h') λe=>n (congrArg (·+1) e)
theorem nZ (h:e∈L):∃i,i<L.length/\jj L i=e:=by
 induction L with
 |nil=>cases h
 |cons x r ih=>
  rcases aY.mp h with rfl|h
  .exact⟨0,iT _,rfl⟩
  .obtain⟨i,J,h2⟩:=ih h;exact⟨i+1,Nat.succ_lt_succ J,h2⟩
theorem aj.at {L:List ad} (F:aj L) {ix:List Nat} (hn:ix.Nodup) (hb:∀i∈ix,i<L.length):aj (ix.map (jj L)):=by
 refine⟨mT.mpr (List.Pairwise.imp_of_mem (λ{i j} J hj OE=>kz F.apart (hb i J) (hb j hj) OE) hn),λe he=>?_⟩;obtain⟨i,J,rfl⟩:=cT.mp he;exact F.high _ (g7 (hb i J))
def mL:List Nat->Nat->Bool
 |[],_=>false
 |a::r,x=>match Nat.beq a x with
  |true=>true
  |false=>mL r x
theorem lE:∀{l x},mL l x=true↔x∈l
 |[],x=>by simp[mL]
 |a::r,x=>by
  dsimp only[mL];cases h:Nat.beq a x with
  |true=>simp[Nat.eq_of_beq_eq_true h]
  |false=>
   have:¬x=a:=λe=>by rw[e,Nat.beq_refl] at h;cases h
   simp[this,lE (l:=r)]
def eD:List Nat->Bool
 |[]=>true
 |a::r=>match mL r a with
  |true=>false
  |false=>eD r
theorem dZ:∀{l},eD l=true->l.Nodup
 |[],_=>List.nodup_nil
 |a::r,h=>by
  dsimp only[eD] at h;cases hm:mL r a with
  |true=>rw[hm] at h;cases h
  |false=>
   rw[hm] at h;exact List.nodup_cons.mpr ⟨λm=>(by rw[lE.mpr m] at hm;cases hm),dZ h⟩
def fQ (N:Nat):List Nat->Bool
 |[]=>true
 |a::r=>match Nat.blt a N with
  |true=>fQ N r
  |false=>false
theorem fG:∀{l},fQ N l=true->∀i∈l,i<N
 |[],_,_,h=>nomatch h
 |a::r,h,i,hi=>by
  dsimp only[fQ] at h;cases hb:Nat.blt a N with
  |true=>
   rw[hb] at h;rcases aY.mp hi with rfl|hi
   .exact uC hb
   .exact fG h i hi
  |false=>rw[hb] at h;cases h
theorem Ag {v:V} {w:World} (K:lZ v w) {A:Around} (hA:aL v.d₀ A) {l:List ad} {n t g:Nat} {s:Shared} (S:St v.kt l n t g s) {b:List Stmt} {J:Env} {Q:Flow->Shared->Prop} {E:Value->Shared->Prop}
  (nh OF orc:Nat) (ix:List Nat) (f:List HR->Flow) (OE:List HR->List (Option ad)) (ng:List HR->List (Nat×Code))
  (OH:∀rs,rs.length=nh->ay v OF default .base (a9 b J) orc l n t g rs ix (.fin (.done (f rs))) (OE rs) (ng rs))
  (OG:∀rs s',rs.length=nh->bu v.kt s s' (l.map (·.a)) (OE rs) (ng rs)->(ix.Nodup->jO (OE rs))->Q (f rs) s'):wpAny (model v.prog w) A (execs b J) Q E s:=by
 have h:wpAny (model v.prog w) A (a9 b J) (λf s'=>match f with|.done f=>Q f s'|_=>False) (λU U=>False) s:=by
  refine iW (B:=λt s=>wpAny (model v.prog w) A t (λf s'=>match f with|.done f=>Q f s'|_=>False) (λU U=>False) s) K hA S (c:=default) (tr:=a9 b J)
   (λm k s h=>ao h) nh OF orc ix (λrs=>.fin (.done (f rs))) OE ng OH λrs s' h D P=>?_
  exact aH (OG rs s' h D P)
 unfold a9 at h;rw[<-R.bindR_eq,<-Fast.te12563942051412417395] at h;intro Γ p OI;have h1:=h Γ p OI;rw[Sem.wp_bind] at h1;exact Sem.wp_mono _ Γ _ (λr p' s' q=>q) (λU U U x=>x.elim) p s h1
section
variable {w:World} {d D₀ dh:Nat} {hs:Nat->List aq} (hD:D₀+5<1000) (hh:dh<=950) (hd:d<=D₀) {l:List ad} (F:aj l) (H:∀n,(∀a∈aC l,a<n+158)->∀f∈hs n,ai w dh f)
include hD hh hd F H
theorem WX.stm {b:List Stmt} {OF:Env} {post:Flow->List ad->Prop} (nh J orc:Nat) (ix:List Nat) (f:Nat->Nat->Nat->List HR->Flow) (l':Nat->Nat->Nat->List HR->List ad)
  (OH:∀n t g rs,rs.length=nh->ay (vL w D₀ dh (hs n)) J default .base (a9 b OF) orc l n t g rs ix (.fin (.done (f n t g rs))) ((l' n t g rs).map some) [])
  (hn:∀n t g rs,rs.length=nh->(∀a∈aC l,a<n+158)->(∀e∈l' n t g rs,e.a∈aC l\/n+158<=e.a)->(eD ix=true->aj (l' n t g rs))->post (f n t g rs) (l' n t g rs)):WX w d (execs b OF) l post:=by
 intro A s hA T Hs;obtain⟨n,t,g,S⟩:=T.st Hs F;have OE:s.heap.objs.size=n+158:=S.size;have OG:∀a∈aC l,a<n+158:=λa ha=>by rw[<-OE];exact Hs.lt a ha
 refine Ag (v:=vL w D₀ dh (hs n)) (bE (H n OG) hD hh) (hA.mono hd) S nh J orc ix (λrs=>f n t g rs) (λrs=>(l' n t g rs).map some) (λU=>[]) (OH n t g) λrs s1 OJ D P=>?_;have D1:bH w s s1 (aC l) (l' n t g rs):=D.aft T;refine⟨_,hn n t g rs OJ OG (λe he=>by rw[<-OE];exact D1.adr e he) (λhx=>⟨?_,λe he=>?_⟩),D1⟩
 .have:=P (dZ hx);exact(mT.mp this).imp λh=>h _ _ rfl rfl
 .rcases D1.adr e he with q|q
  .obtain⟨f,hf,OI⟩:=cT.mp q;rw[<-OI];exact F.high f hf
  .left;exact au (ax (ii OE) q)
end
section
variable {w:World} {d D₀ dh:Nat} {hs:Nat->List aq} (hD:D₀+5<1000) (hh:dh<=950) (hd:d<=D₀) {l:List ad} (F:aj l) (H:∀n,(∀a∈aC l,a<n+158)->∀f∈hs n,ai w dh f)
include hD hh hd F H
theorem WX.stmR {b:List Stmt} {OE:Env} {post:Flow->List ad->Prop} (nh J orc:Nat) (ix:List Nat) (f:Nat->Nat->Nat->List HR->Flow) (l':Nat->Nat->Nat->List HR->(Nat->Obj)->List ad)
  (OF:∀n t g rs,rs.length=nh->bP (vL w D₀ dh (hs n)) J default .base (a9 b OE) orc l n t g rs ix (.fin (.done (f n t g rs))) (λo=>(l' n t g rs o).map some) [])
  (hn:∀n t g rs o,rs.length=nh->(∀a∈aC l,a<n+158)->(∀e∈l' n t g rs o,e.a∈aC l\/n+158<=e.a)->(eD ix=true->aj (l' n t g rs o))->post (f n t g rs) (l' n t g rs o)):WX w d (execs b OE) l post:=
 WX.stm hD hh hd F H nh J orc ix f (λn t g rs=>l' n t g rs (bl (vL w D₀ dh (hs n)) J default .base (a9 b OE) orc l n t g rs).obj) OF λn t g rs h1 h2 h3 h4=>hn n t g rs _ h1 h2 h3 h4
end
section
variable {w:World} {d D₀ dh:Nat} {hs:List aq} (hD:D₀+5<1000) (hh:dh<=950) (hd:d<=D₀) {l:List ad} (F:aj l) (H:∀f∈hs,ai w dh f)
include hD hh hd F H
theorem WX.tst {e:Expr} {OE:Env} {post:Bool->List ad->Prop} (nh J orc:Nat) (ix:List Nat) (b:Bool) (l':Nat->Nat->Nat->List HR->List ad)
  (OF:∀n t g rs,rs.length=nh->ay (vL w D₀ dh hs) J default .base (ml e OE) orc l n t g rs ix (.fin (.done (.ret (.bool b)))) ((l' n t g rs).map some) [])
  (hn:∀n t g rs,rs.length=nh->post b (l' n t g rs)):WX w d (isTrue e OE (eval e OE)) l post:=by
 intro A s hA T Hs;obtain⟨n,t,g,S⟩:=T.st Hs F;refine Ee (v:=vL w D₀ dh hs) (bE H hD hh) (hA.mono hd) S nh J orc ix b (λrs=>(l' n t g rs).map some) (λU=>[]) (OF n t g) λrs s1 OG D=>?_;exact⟨_,hn n t g rs OG,D.aft T⟩
theorem WX.exp {e:Expr} {OE:Env} {post:Value->List ad->Prop} (nh J orc:Nat) (ix:List Nat) (f:Nat->Nat->Nat->List HR->Value) (l':Nat->Nat->Nat->List HR->List ad)
  (OF:∀n t g rs,rs.length=nh->ay (vL w D₀ dh hs) J default .base (fM e OE) orc l n t g rs ix (.fin (.done (.ret (f n t g rs)))) ((l' n t g rs).map some) [])
  (hn:∀n t g rs,rs.length=nh->post (f n t g rs) (l' n t g rs)):WX w d (eval e OE) l post:=by
 intro A s hA T Hs;obtain⟨n,t,g,S⟩:=T.st Hs F;refine rn (v:=vL w D₀ dh hs) (bE H hD hh) (hA.mono hd) S nh J orc ix (λrs=>.fin (.done (.ret (f n t g rs)))) (λrs=>(l' n t g rs).map some) (λU=>[]) (OF n t g) λrs s1 OG D=>?_;exact⟨_,hn n t g rs OG,D.aft T⟩
theorem WX.asg {tg:Expr} {OE:Env} {x:Value} {post:Unit->List ad->Prop} (nh J orc:Nat) (ix:List Nat) (l':Nat->Nat->Nat->List HR->List ad)
  (OF:∀n t g rs,rs.length=nh->ay (vL w D₀ dh hs) J default .base (f9 tg OE x) orc l n t g rs ix (.fin (.done .next)) ((l' n t g rs).map some) [])
  (hn:∀n t g rs,rs.length=nh->post () (l' n t g rs)):WX w d (assign tg OE x) l post:=by
 intro A s hA T Hs;obtain⟨n,t,g,S⟩:=T.st Hs F;refine z6 (v:=vL w D₀ dh hs) (bE H hD hh) (hA.mono hd) S nh J orc ix (λrs=>.fin (.done .next)) (λrs=>(l' n t g rs).map some) (λU=>[]) (OF n t g) λrs s1 OG D=>?_;exact⟨_,hn n t g rs OG,D.aft T⟩
theorem WX.nxt {it:Value} {post:Option Value->List ad->Prop} (nh J orc:Nat) (ix:List Nat) (o:Option Value) (l':Nat->Nat->Nat->List HR->List ad)
  (OF:∀n t g rs,rs.length=nh->ay (vL w D₀ dh hs) J default .base (d8 it) orc l n t g rs ix (.fin (.done (Jb o))) ((l' n t g rs).map some) [])
  (hn:∀n t g rs,rs.length=nh->post o (l' n t g rs)):WX w d (pyNext it) l post:=by
 intro A s hA T Hs;obtain⟨n,t,g,S⟩:=T.st Hs F;refine i9 (v:=vL w D₀ dh hs) (bE H hD hh) (hA.mono hd) S nh J orc ix (λrs=>.fin (.done (Jb o))) (λrs=>(l' n t g rs).map some) (λU=>[]) (OF n t g) λrs s1 OE D=>?_;cases o with
 |none=>exact⟨_,hn n t g rs OE,D.aft T⟩
 |some v=>exact⟨_,hn n t g rs OE,D.aft T⟩
end
theorem WX.ifT {w:World} {d:Nat} {st:Stmt} {J:Env} {l:List ad} {post:Flow->List ad->Prop} (OH:st=.If (wD st) (fA st) [] (uP st))
  (h:WX w d (isTrue (wD st) J (eval (wD st) J)) l λb l1=>match b with
   |true=>WX w d (execs (fA st) J) l1 post
   |false=>post .next l1):WX w d (execs [st] J) l post:=by
 ext w d st J l post ⟨OH,h⟩;intro A s hA T Hs;ext A s ⟨hA,T,Hs⟩;refine wpAny_execs_cons ?_;rw[OH];refine wpAny_If ?_;refine dR (h A s hA T Hs) (λb s1 OF=>?_) λU U x=>x;obtain⟨l1,hp,D1⟩:=OF;cases b with
 |true=>
  rw[if_pos rfl];refine dR (hp A s1 hA D1.top D1.has) (λf s2 OG=>?_) λU U x=>x;obtain⟨l2,OE,D2⟩:=OG;cases f with
  |next=>exact aH ⟨l2,OE,D1.trans D2⟩
  |ret v=>exact⟨l2,OE,D1.trans D2⟩
  |brk=>exact⟨l2,OE,D1.trans D2⟩
  |cont=>exact⟨l2,OE,D1.trans D2⟩
 |false=>
  rw[if_neg (by decide)];exact aH (aH ⟨l1,hp,D1⟩)
theorem WX.app {w d l} {post:Flow->List ad->Prop} (h:WX w d (execs b env) l λf l'=>f=.next/\WX w d (execs b' env) l' post):WX w d (execs (b++b') env) l post:=
 SX.append (w:=w) (d:=d) (b:=b) (b':=b') h λf l' J=>by obtain⟨hf,h⟩:=J;subst hf;exact h
section
open Builtin.Str (strSliceIndices)
theorem yJ {x y:Str} (h:x.cps.toList=y.cps.toList):x=y:=by
 cases x;cases y;congr 1;exact Array.ext' h
theorem dM (l):(ae l).cps.toList=l:=by simp[ae]
theorem sq {x:Str} {b:Nat} (hb:b<=x.cps.toList.length):(cut x none (some (b:Int))).cps.toList=x.cps.toList.take b:=by
 have e:cut x none (some (b:Int))=cut x (some ((0:Nat):Int)) (some (b:Int)):=by
  unfold cut;rw[StrLaws.sliceIdx_none_lo];rfl
 rw[e,uj (iU _) hb];rfl
theorem El:∀{x:Str} (h:1<=x.cps.toList.length),(cut x none (some (-1))).cps.toList=x.cps.toList.take (x.cps.toList.length - 1):=by
 ext x:0;intro h;have hl:x.cps.toList.length=x.length:=by simp[Str.length]
 have e:cut x none (some (-1))=cut x none (some ((x.length - 1:Nat):Int)):=by
  unfold cut;rw[StrLaws.sliceIdx_neg_hi none x.length (by decide) (by lia)];have:(-1+(x.length:Int))=((x.length - 1:Nat):Int):=by lia
  rw[this]
 rw[e,sq ((au (ii hl))),hl]
theorem yK:∀{x} (h:2<=x.cps.toList.length),(cut x (some (-2)) none).cps.toList=x.cps.toList.drop (x.cps.toList.length - 2):=by
 ext x:0;intro h;have hl:x.cps.toList.length=x.length:=by simp[Str.length]
 have e:cut x (some (-2)) none=cut x (some ((x.length - 2:Nat):Int)) none:=by
  unfold cut;rw[StrLaws.sliceIdx_neg_lo none x.length (by decide) (by lia)];have:(-2+(x.length:Int))=((x.length - 2:Nat):Int):=by lia
  rw[this]
 rw[e,yw ((au (ii hl))),hl]
def cV (S R:List Nat):List Nat:=123::(S++R++[125,42])
def fm (S R:List Nat):List Nat:=123::(S++R++[125])
def cv (S R:List Nat) (l:Nat):List Nat:=123::(S++R++[125,l])
structure pM (S:List Nat):Prop where
 hd:∃a r,S=a::r/\a≠42/\a≠125
 len:S.length<=100
section
variable {S R:List Nat} (hS:pM S) (hR:R.length<=100)
include hS hR
theorem wP:(ae (cV S R)).length<=1000:=by
 have:=hS.len;rw[bz];simp[cV];exact au (ax hR this)
theorem wQ:((ae (cV S R)).cps.toList==cZ.cps.toList)=false:=by
 obtain⟨a,r,rfl,J,h2⟩:=hS.hd;rw[dM,eY];intro h;simp[cV,cZ] at h;exact J h.1
theorem sr:((ae (cV S R)).cps.toList==ck.cps.toList)=false:=by
 obtain⟨a,r,rfl,h1,J⟩:=hS.hd;rw[dM,eY];intro h;simp[cV,ck] at h;exact J h.1
theorem ss:((cut (ae (cV S R)) none (some 3)).cps.toList==m7.cps.toList)=false:=by
 obtain⟨a,r,rfl,J,h2⟩:=hS.hd;have:=sq (x:=ae (cV (a::r) R)) (b:=3) (by rw[dM];simp[cV];exact iT _);rw[show((3:Nat):Int)=3 from rfl] at this;rw[this,dM,eY];intro h;simp[cV,m7] at h;exact J h.1
theorem wR:pj=cut (ae (cV S R)) (some (-2)) none:=by
 refine yJ ?_;rw[yK (by rw[dM];simp[cV];exact bN _ _),dM];have e:cV S R=(123::(S++R))++[125,42]:=by rfl
 rw[e,List.drop_append_of_le_length (by simp;exact bg _),List.drop_eq_nil_of_le (by simp;exact bg _)];rfl
theorem yL:ae (fm S R)=cut (ae (cV S R)) none (some (-1)):=by
 refine yJ ?_;rw[El (by rw[dM];simp[cV]),dM,dM];have e:cV S R=fm S R++[42]:=by simp[cV,fm]
 rw[e,eh,List.length_singleton,Nat.add_sub_cancel,List.take_left'];rfl
end
theorem xS:∀{S S' R J l} (hl:S.length=S'.length) (h:125∉R) (h':125∉J),(cv S' J l).take (fm S R).length=fm S R↔S=S'/\R=J:=by
 ext S S' R J l:0;intro hl h h';constructor
 .intro e;have e1:(fm S R)=123::(S++(R++[125])):=by simp[fm]
  have e2:(cv S' J l)=123::(S'++(J++[125,l])):=by simp[cv]
  rw[e1,e2] at e;simp only[fu,List.take_succ_cons,List.cons.injEq,true_and,eh] at e;rw[List.take_append,uA ((au (ii hl)))] at e;have e3:=List.append_inj e hl.symm;refine⟨e3.1.symm,?_⟩;have e4:=e3.2;rw[hl] at e4;rw[show S'.length+(R.length+(([]:List Nat).length+1)) - S'.length=R.length+1 by rw[List.length_nil];lia] at e4;rcases Nat.lt_trichotomy R.length J.length with q|q|q
  .exfalso;have g:=congrArg (λx=>x[R.length]?) e4;simp only[List.getElem?_take,if_pos (Nat.lt_succ_self _)] at g;rw[List.getElem?_append_left q,List.getElem?_append_right (bg _)] at g;simp at g;exact h' (List.mem_of_getElem? g)
  .have g:=congrArg (List.take R.length) e4;rw[List.take_take,Nat.min_eq_left (Nat.le_succ _),List.take_left' rfl,List.take_left' q.symm] at g;exact g.symm
  .exfalso;have g:=congrArg (λx=>x[J.length]?) e4;simp only[List.getElem?_take,if_pos (Nat.lt_succ_of_lt q)] at g;rw[List.getElem?_append_right (bg _),List.getElem?_append_left q] at g;simp at g;exact h (List.mem_of_getElem? g.symm)
 .rintro⟨rfl,rfl⟩;have e:cv S R l=fm S R++[l]:=by simp[cv,fm]
  rw[e,List.take_left' rfl]
theorem Em (x:Str) (b:Nat):(cut x none (some (b:Int))).cps.toList=x.cps.toList.take b:=by
 have hl:x.cps.toList.length=x.length:=by simp[Str.length]
 by_cases h:b<=x.cps.toList.length
 .exact sq h
 .have e:cut x none (some (b:Int))=cut x none (some (x.length:Int)):=by
   unfold cut;rw[sliceIdx_hi_beyond x.length (by lia)]
  rw[e,sq (by exact bg _),uA (by exact bg _),uA (by exact au (Nat.lt_of_not_le h))]
theorem wT {N z:List Nat} {t:Nat}:iE .ns (ae N) ⟨#[]⟩ ((ae N).cps.size:Int) (some (ae z,t))=(z.take N.length==N):=by
 have hn:(ae N).cps.size=N.length:=by rfl
 show((cut (ae z) none (some _)).cps.toList==(ae N).cps.toList)=_;rw[hn,Em,dM,dM]
theorem En {S S' R R'} (hl:S.length=S'.length) (h:125∉R) (J:125∉R'):
  iE .ns (ae (fm S R)) ⟨#[]⟩ ((ae (fm S R)).cps.size:Int) (some (ae (cv S' R' l),t))=decide (S=S'/\R=R'):=by
 rw[wT];have:=xS (l:=l) hl h J;by_cases q:S=S'/\R=R'
 .rw[jW q,beq_iff_eq];exact this.mpr q
 .rw[iS q,eY];exact λe=>q (this.mp e)
theorem Cv {S R}:iE .ns (ae (fm S R)) ⟨#[]⟩ ((ae (fm S R)).cps.size:Int) (some (gS c,t))=false:=by
 have e:gS c=ae [65+c]:=rfl;rw[e,wT,eY];intro h;have:=congrArg List.length h;simp[fm] at this
theorem Ho {S R} (hS:pM S) (J:∀a r,S=a::r->a≠120):iE .ns (ae (fm S R)) ⟨#[]⟩ ((ae (fm S R)).cps.size:Int) (some (j6 c,t))=false:=by
 have e:j6 c=ae [123,120,125,97,65+c]:=rfl;rw[e,wT,eY];obtain⟨a,r,rfl,h1,h2⟩:=hS.hd;intro h;have h3:=J a r rfl;simp[fm] at h;exact h3 h.1.symm
def Ah (p q:Nat) (b1 J:Bool) (k:Nat):Bool:=match k==p with
 |true=>b1
 |false=>(k==q)&&J
theorem xT:∀j<8,∀c<3,∀b1 J:Bool,(List.range 8).filter (Ah (bY j c) (bG j c) b1 J)=(match b1 with|true=>[bY j c]|false=>[])++(match J with|true=>[bG j c]|false=>[]):=by decide+kernel
end
def bb (D:KD) (Z:KT) (j k:Nat):Bool:=((D.Wd (D.X k)).cps.toList==(D.Wd (D.X j)).cps.toList)&&decide (Z.T<D.St (D.X k))
structure cu (D:KD) (M:KN) (Z:KT) (m:Nat) (sL rL:Nat->List Nat):Prop where
 O:j7 D m
 hT:Z.T<3
 hc:Z.c<3
 S:∀w<8,[D.S w 0,D.S w 1,D.S w 2][Z.c]? =some (ae (sL w))
 R:∀w<8,D.R w=ae (rL w)
 N:∀k<8,M.N k=ae (cv (sL (D.X k)) (rL (D.X k)) (cH (D.X k) Z.c))
 sOk:∀w<8,pM (sL w)
 sLen:∀w<8,∀v<8,(sL w).length=(sL v).length
 s120:∀w<8,∀a r,sL w=a::r->a≠120
 rOk:∀w<8,125∉rL w/\(rL w).length<=50/\0<(rL w).length
 same:∀j<8,∀k<8,sL (D.X j)=sL (D.X k)↔k=j\/k=dw j Z.c
 row:∀j<8,∀k<8,Z.T<D.St (D.X j)->(rL (D.X j)=rL (D.X k)↔bb D Z j k=true)
 dot:∀w<8,((rL w).head?=some 46↔Z.T<D.St w)
 nb:∀j<8,Z.T<D.St (D.X j)->D.Wd (D.X (dw j Z.c))≠D.Wd (D.X j)->Z.T<D.St (D.X (dw j Z.c))
theorem iZ:∀j<8,∀c<3,dw j c<8/\dw j c≠j/\dw (dw j c) c=j/\bY j c<8/\bG j c<8/\bY j c<bG j c/\((bY j c=j/\bG j c=dw j c)\/(bY j c=dw j c/\bG j c=j)):=by decide+kernel
def mM (c:Nat) (xs:List an):Prop:=∀x∈xs,(∃t,x.tv=some (gS c,t))\/(∃t,x.tv=some (j6 c,t))\/x.tv=none
section
variable {D:KD} {M:KN} {Z:KT} {m:Nat} {sL rL:Nat->List Nat} (Q:cu D M Z m sL rL)
include Q
theorem cu.alike_self {j} (hd:Z.T<D.St (D.X j)):bb D Z j j=true:=by
 unfold bb;rw[jW hd,qG];rfl
theorem cu.hit:∀{j k t:Nat} (hj:j<8) (hk:k<8) (hd:Z.T<D.St (D.X j)),iE .ns (ae (fm (sL (D.X j)) (rL (D.X j)))) ⟨#[]⟩ ((ae (fm (sL (D.X j)) (rL (D.X j)))).cps.size:Int) (some (M.N k,t))=Ah (bY j Z.c) (bG j Z.c) (bb D Z j (bY j Z.c)) (bb D Z j (bG j Z.c)) k:=by
 ext D M Z m sL rL;intro Q;ext j k t:0;intro hj hk hd
 have hxj:=Q.O.lt hj
 have hxk:=Q.O.lt hk
 rw[Q.N k hk,En (Q.sLen _ hxj _ hxk) (Q.rOk _ hxj).1 (Q.rOk _ hxk).1]
 obtain⟨p1,p2, -,p4,p5,p6,p7⟩:=iZ j hj Z.c Q.hc
 have hs:=Q.same j hj k hk
 unfold Ah
 have hr:=Q.row j hj k hk hd
 by_cases e1:k=bY j Z.c
 .subst e1
  rw[qG]
  have:sL (D.X j)=sL (D.X (bY j Z.c)):=hs.mpr (by rcases p7 with⟨a,_⟩|⟨a,_⟩<;>simp[a])
  cases hb:bb D Z j (bY j Z.c) with
  |true=>rw[jW ⟨this,hr.mpr hb⟩]
  |false=>rw[iS λe=>by rw[hr.mp e.2] at hb;cases hb]
 .rw[eY.mpr e1]
  by_cases e2:k=bG j Z.c
  .subst e2
   rw[qG]
   have:sL (D.X j)=sL (D.X (bG j Z.c)):=hs.mpr (by rcases p7 with⟨_,a⟩|⟨_,a⟩<;>simp[a])
   cases hb:bb D Z j (bG j Z.c) with
   |true=>rw[jW ⟨this,hr.mpr hb⟩];rfl
   |false=>rw[iS λe=>by rw[hr.mp e.2] at hb;cases hb];rfl
  .rw[eY.mpr e2,iS λe=>?_]; ·rfl
   rcases hs.mp e.1 with q|q
   .rcases p7 with⟨a,_⟩|⟨_,a⟩
    .exact e1 (q.trans a.symm)
    .exact e2 (q.trans a.symm)
   .rcases p7 with⟨_,a⟩|⟨a,_⟩
    .exact e2 (q.trans a.symm)
    .exact e1 (q.trans a.symm)
theorem cu.found:∀{j} (hj:j<8) (hd:Z.T<D.St (D.X j)) {xs} (hx:mM Z.c xs),fi .ns (ae (fm (sL (D.X j)) (rL (D.X j)))) ⟨#[]⟩ ((ae (fm (sL (D.X j)) (rL (D.X j)))).cps.size:Int) (M.ths++xs)=mm M (bb D Z j (bY j Z.c)) (bb D Z j (bG j Z.c)) (bY j Z.c) (bG j Z.c):=by
 ext D M Z m sL rL;intro Q;ext j:0;intro hj hd;ext xs:0;intro hx;have J:=Q.O.lt hj;unfold fi;rw[List.filter_append,k6];have e2:xs.filter (λt:an=>iE .ns (ae (fm (sL (D.X j)) (rL (D.X j)))) ⟨#[]⟩ ((ae (fm (sL (D.X j)) (rL (D.X j)))).cps.size:Int) t.tv)=[]:=by
  rw[List.filter_eq_nil_iff];intro x OE;rcases hx x OE with⟨t,e⟩|⟨t,e⟩|e
  .rw[e,Cv];decide
  .rw[e,Ho (Q.sOk _ J) (Q.s120 _ J)];decide
  .rw[e];simp[iE]
 rw[e2];have e1:M.ths=(List.range 8).map M.th:=rfl;rw[e1,List.filter_map,List.map_map];have e3:(List.range 8).filter ((λt:an=>iE .ns (ae (fm (sL (D.X j)) (rL (D.X j)))) ⟨#[]⟩ ((ae (fm (sL (D.X j)) (rL (D.X j)))).cps.size:Int) t.tv)∘M.th)=(List.range 8).filter (Ah (bY j Z.c) (bG j Z.c) (bb D Z j (bY j Z.c)) (bb D Z j (bG j Z.c))):=by
  refine List.filter_congr λk hk=>?_;exact Q.hit hj (eM.mp hk) hd
 rw[e3,xT j hj Z.c Q.hc];cases bb D Z j (bY j Z.c)<;>cases bb D Z j (bG j Z.c)<;>rfl
theorem cu.fine {xs} (hx:mM Z.c xs):∀t∈M.ths++xs,tvFine t.tv:=λt ht=>by
 rcases dk.mp ht with ht|ht
 .have e1:M.ths=(List.range 8).map M.th:=rfl;rw[e1] at ht;refine eO λU k_=>?_;obtain⟨k,hk,rfl⟩:=cT.mp ht;refine k_ ?_;have hk:=eM.mp hk;have J:=Q.O.lt hk;show tvFine (some (M.N k,M.tN k));rw[Q.N k hk];have h1:=(Q.sOk _ J).len;have h2:=(Q.rOk _ J).2.1;refine⟨?_,?_⟩
  .rw[bz];simp[cv];exact au (ax h1 h2)
  .simp[ae,cv]
 .rcases hx t ht with⟨u,e⟩|⟨u,e⟩|e
  .rw[e];exact⟨by show(1:Nat)<=1000;decide,by show(0:Nat)<1;decide⟩
  .rw[e];exact⟨by show(5:Nat)<=1000;decide,by show(0:Nat)<5;decide⟩
  .rw[e];trivial
variable {w:World} {j:Nat} (hj:j<8) (hd:Z.T<D.St (D.X j)) {xs:List an} (hx:mM Z.c xs) (hxl:xs.length<=3)
include hj hd hx hxl
theorem cu.later:∀{k0 k1 k2 k3:Nat} {c3:CO} {i:Nat},ai w 400 (nc (ae (cV (sL (D.X j)) (rL (D.X j)))) M.L ((0,78,aP [(87,k0),(71,k1),(77,k2),(96,k3)])::(1,k3+158,c3.o)::qo i (cO M.L (M.ths++xs) M.eL)) (mm M (bb D Z j (bY j Z.c)) (bb D Z j (bG j Z.c)) (bY j Z.c) (bG j Z.c))):=by
 revert D M Z m sL rL w j xs;ext D M Z m sL rL:0;intro Q;ext w j:0;intro hj hd;ext xs:0;intro hx hxl;ext k0 k1 k2 k3 c3 i:0;have hS:=Q.sOk _ (Q.O.lt hj);have hR:(rL (D.X j)).length<=100:=by have:=(Q.rOk _ (Q.O.lt hj)).2.1;exact au this
 refine ai.mono (d:=600) (mh ⟨0,.head _⟩ λA s tw hA hT hq=>?_) (by decide);have OE:aQ s (cO M.L (M.ths++xs) M.eL):=pD _ i λq OF=>hq q (.tail _ (.tail _ OF));have J:(M.ths++xs).length<=5000:=by rw[eh];have:M.ths.length=8:=rfl;exact au (ax hxl (fk this))
 have:=BQ w tw M.L (M.ths++xs) M.eL k0 k1 k2 k3 c3.v c3.t c3.r _ _ _ (wP hS hR) (wQ hS hR) (sr hS hR) rfl (ss hS hR) (wR hS hR) (yL hS hR) (gv OE (Q.fine hx) J) hA hT (by
  refine ah ?_<|ah ?_ aE
  .exact hq _ aJ
  .exact hq _ cy) OE
 rw[Q.found hj hd hx] at this;exact this
theorem cu.first {k0 k1 k2}:ai w 400 (nd (ae (cV (sL (D.X j)) (rL (D.X j)))) M.L ((0,78,aP [(87,k0),(71,k1),(77,k2)])::qo i (cO M.L (M.ths++xs) M.eL)) 0 [(87,k0),(71,k1),(77,k2)] 96 11 (mm M (bb D Z j (bY j Z.c)) (bb D Z j (bG j Z.c)) (bY j Z.c) (bG j Z.c))):=by
 have hS:=Q.sOk _ (Q.O.lt hj);have hR:(rL (D.X j)).length<=100:=by have:=(Q.rOk _ (Q.O.lt hj)).2.1;exact au this
 refine ai.mono (d:=600) (mi λA s tw hA hT hq=>?_) (by decide);have OE:aQ s (cO M.L (M.ths++xs) M.eL):=pD _ i λq OF=>hq q (.tail _ OF);have J:(M.ths++xs).length<=5000:=by rw[eh];have:M.ths.length=8:=rfl;exact au (ax hxl (fk this))
 have:=BO w tw M.L (M.ths++xs) M.eL k0 k1 k2 _ _ _ (wP hS hR) (wQ hS hR) (sr hS hR) rfl (ss hS hR) (wR hS hR) (yL hS hR) (gv OE (Q.fine hx) J) hA hT (λe he=>by
  rw[cD] at he;subst he;exact hq _ aJ) OE
 rw[Q.found hj hd hx] at this;exact this
omit hx hxl in
theorem cu.hooks:∀{n n':Nat} {ff:aq} (OP:ai w 400 ff) {OK OM OH kW ON OL OG OJ OT iR iP:Nat} {T:List ad} {F:Obj} {ts:List an} (FL:aj (ft T F D M Z ts n j)) (OR:∀a∈aC (ft T F D M Z ts n j),a<n'+158) {ep gp eq gq:Bool}
  (h1:((D.Wd (D.X (bY j Z.c))).cps.toList==(D.Wd (D.X j)).cps.toList)=ep) (h2:decide ((D.St (D.X (bY j Z.c)):Int)>(Z.T:Int))=gp) (h3:((D.Wd (D.X (bG j Z.c))).cps.toList==(D.Wd (D.X j)).cps.toList)=eq) (h4:decide ((D.St (D.X (bG j Z.c)):Int)>(Z.T:Int))=gq),∀f∈[wH w D n (n'+2) n' (n'+1) j Z.c Z.tc OK OM OH kW ON OL (bY j Z.c) (bG j Z.c),bd OG D.fWd (D.X (bY j Z.c)),bd OG D.fWd (D.X j),aF (D.Wd (D.X (bY j Z.c))) (D.Wd (D.X j)) ep,bd OJ D.fSt (D.X (bY j Z.c)),pI (D.St (D.X (bY j Z.c)):Int) (Z.T:Int) gp,bd OG D.fWd (D.X (bG j Z.c)),bd OG D.fWd (D.X j),aF (D.Wd (D.X (bG j Z.c))) (D.Wd (D.X j)) eq,bd OJ D.fSt (D.X (bG j Z.c)),pI (D.St (D.X (bG j Z.c)):Int) (Z.T:Int) gq,
   bd OT D.fSO (D.X j),c6 iP [D.S (D.X j) 0,D.S (D.X j) 1,D.S (D.X j) 2] Z.c (ae (sL (D.X j))),a6 ⟨#[123]⟩ (ae (sL (D.X j))) (ae (123::sL (D.X j))),bd iR D.fR (D.X j),a6 (ae (123::sL (D.X j))) (D.R (D.X j)) (ae (123::(sL (D.X j)++rL (D.X j)))),a6 (ae (123::(sL (D.X j)++rL (D.X j)))) pj (ae (cV (sL (D.X j)) (rL (D.X j)))),ff],ai w 400 f:=by
 revert D M Z m sL rL w j;ext D M Z m sL rL:0;intro Q;ext w j:0;intro hj hd;ext n n' ff:0;intro OP;ext OK OM OH kW ON OL OG OJ OT iR iP T:0;ext F ts:0;intro FL OR;ext ep gp eq gq:0;intro h1 h2 h3 h4;have J:=Q.O.lt hj;obtain⟨p1,p2, -,p4,p5,p6,p7⟩:=iZ j hj Z.c Q.hc;have OI:=(Q.sOk _ J).len;obtain⟨-,OS,OV⟩:=Q.rOk _ J;obtain⟨a0,r0,OW, -, -⟩:=(Q.sOk _ J).hd;have OX:0<(sL (D.X j)).length:=by rw[OW];exact iT _
 have OF:∀{x y:List Nat},0<x.length->0<y.length->x.length+y.length<=1000->ai w 400 (a6 (ae x) (ae y) (ae (x++y))):=λ{x y} hx hy hl=>
  fy (lw x y).symm (λh=>by rw[bz] at h;lia) (λh=>by rw[bz] at h;lia) (by rw[bz,eh];exact bC hl (by decide))
 have OE:∀e∈[(⟨D.aW+158,aa (ap D.fW) D.eW⟩:ad),⟨n+167,af (some (D.fW j))⟩,⟨n+165,af (some (.int (Z.c:Int) (Z.tc+1)))⟩],e∈ft T F D M Z ts n j:=λe he=>by
  simp only[aY,bS,bT] at he;unfold ft Cl KD.lW;rcases he with rfl|rfl|rfl<;>simp
 refine ah ?_<|ah (bK (Q.O.lt p4))<|ah (bK J)<|ah (aO h1)<|ah (bK (Q.O.lt p4))<|ah (uX h2)<|ah (bK (Q.O.lt p5))<|ah (bK J)<|ah (aO h3)<|ah (bK (Q.O.lt p5))<|ah (uX h4)<|
  ah (bK J)<|ah (jQ (Q.S _ J) (by have:=Q.hc;exact(au this)))<|ah (OF (x:=[123]) (by decide) OX (by simp;exact(au OI)))<|ah (bK J)<|ah ?_<|ah ?_<|ah OP aE
 .refine Ck Q.O hj Q.hc OK OM OH kW ON OL ?_;have hl:∀e∈[(⟨D.aW+158,aa (ap D.fW) D.eW⟩:ad),⟨n+167,af (some (D.fW j))⟩,⟨n+165,af (some (.int (Z.c:Int) (Z.tc+1)))⟩],e.a<n'+158:=λe he=>OR _ (fe (OE e he));have aW:=hl _ aJ;have a7:=hl _ cy;have a5:=hl _ gr;have OO:∀e∈ft T F D M Z ts n j,∀f∈ft T F D M Z ts n j,e.a=f.a->e=f:=λe he f hf h=>by
   obtain⟨i,hi,rfl⟩:=nZ he;obtain⟨i',OU,rfl⟩:=nZ hf;by_cases OQ:i=i'
   .rw[OQ]
   .exact bh h (kz FL.apart hi OU OQ)
  have hne:∀{o:Option Value},D.aW+158≠n+167/\D.aW+158≠n+165:=λ{_}=>⟨λh=>by
   have:=OO _ (OE _ aJ) _ (OE _ cy) h;exact bh (congrArg (λe=>e.o.cls) this) (by simp[aa,af]),λh=>by
   have:=OO _ (OE _ aJ) _ (OE _ gr) h;exact bh (congrArg (λe=>e.o.cls) this) (by simp[aa,af])⟩
  have hne:=hne (o:=none);refine⟨?_,?_⟩
  .simp only[nY,de,fK,qE,lP,aY,bS,bT,List.Pairwise.nil,and_true,forall_eq_or_imp,forall_eq,false_imp_iff,implies_true];dsimp only at aW a7 a5;refine⟨⟨?_,?_,?_,?_,?_⟩,⟨?_,?_,?_,?_⟩,⟨?_,?_,?_⟩,⟨hne.1,hne.2⟩,?_⟩<;>lia
  .intro e he;simp only[nY,de,fK,qE,aY,bS,bT] at he;left;rcases he with rfl|rfl|rfl|rfl|rfl|rfl<;>(dsimp only;exact bN _ _)
 .rw[Q.R _ J];exact OF (x:=123::sL (D.X j)) (iT _) OV (by simp;exact(au (ax OI OS)))
 .have e:cV (sL (D.X j)) (rL (D.X j))=(123::(sL (D.X j)++rL (D.X j)))++[125,42]:=by rfl
  rw[e];exact OF (x:=123::(sL (D.X j)++rL (D.X j))) (y:=[125,42]) (iT _) (by decide) (by simp;exact(au (ax OI OS)))
end
theorem W5.of:∀e g e' g':Bool,((e&&g&&(e'||g'))||(e'&&g'&&(e||g)))=true->∃x:W5,e=x.ep/\g=x.gp/\e'=x.eq/\g'=x.gq
 |true,true,true,true,_=>⟨.a,rfl,rfl,rfl,rfl⟩
 |true,true,false,true,_=>⟨.b,rfl,rfl,rfl,rfl⟩
 |true,true,true,false,_=>⟨.c,rfl,rfl,rfl,rfl⟩
 |false,true,true,true,_=>⟨.d,rfl,rfl,rfl,rfl⟩
 |true,false,true,true,_=>⟨.e,rfl,rfl,rfl,rfl⟩
theorem cu.w5:∀{D:KD} {M:KN} {Z:KT} {m:Nat} {sL rL:Nat->List Nat} (Q:cu D M Z m sL rL) {j:Nat} (hj:j<8) (hd:Z.T<D.St (D.X j)),∃x:W5,((D.Wd (D.X (bY j Z.c))).cps.toList==(D.Wd (D.X j)).cps.toList)=x.ep/\decide ((D.St (D.X (bY j Z.c)):Int)>(Z.T:Int))=x.gp/\((D.Wd (D.X (bG j Z.c))).cps.toList==(D.Wd (D.X j)).cps.toList)=x.eq/\decide ((D.St (D.X (bG j Z.c)):Int)>(Z.T:Int))=x.gq/\
   bb D Z j (bY j Z.c)=(x.ep&&x.gp)/\bb D Z j (bG j Z.c)=(x.eq&&x.gq):=by
 ext D M Z m sL rL:0;intro Q;ext j:0;intro hj hd;have OE:∀k,decide ((D.St (D.X k):Int)>(Z.T:Int))=decide (Z.T<D.St (D.X k)):=λk=>decide_eq_decide.mpr Int.ofNat_lt;have J:∀k,bb D Z j k=(((D.Wd (D.X k)).cps.toList==(D.Wd (D.X j)).cps.toList)&&decide ((D.St (D.X k):Int)>(Z.T:Int))):=λk=>by rw[OE];rfl
 have OG:bb D Z j j=true:=by rw[J,OE,jW hd,qG];rfl
 have OF:(((D.Wd (D.X (dw j Z.c))).cps.toList==(D.Wd (D.X j)).cps.toList)||decide ((D.St (D.X (dw j Z.c)):Int)>(Z.T:Int)))=true:=by
  cases h:(D.Wd (D.X (dw j Z.c))).cps.toList==(D.Wd (D.X j)).cps.toList with
  |true=>rfl
  |false=>
   rw[OE,jW (Q.nb j hj hd λe=>by rw[e,qG] at h;cases h)];rfl
 have p7:=(iZ j hj Z.c Q.hc).2.2.2.2.2.2;obtain⟨x,e1,e2,e3,e4⟩:=W5.of ((D.Wd (D.X (bY j Z.c))).cps.toList==(D.Wd (D.X j)).cps.toList) (decide ((D.St (D.X (bY j Z.c)):Int)>(Z.T:Int))) ((D.Wd (D.X (bG j Z.c))).cps.toList==(D.Wd (D.X j)).cps.toList) (decide ((D.St (D.X (bG j Z.c)):Int)>(Z.T:Int))) (by
  rw[<-J,<-J];rcases p7 with⟨a,b⟩|⟨a,b⟩
  .rw[a,b,OG,OF];rfl
  .rw[a,b,OG,OF];exact Bool.or_true _)
 exact⟨x,e1,e2,e3,e4,by rw[J,e1,e2],by rw[J,e3,e4]⟩
def lF (D:KD) (M:KN) (Z:KT) (n j:Nat) (v:Nat->Value) (ts:List an) (sh:cc) (T:List ad->Prop):Flow->List ad->Prop:=λf l'=>f=.next/\aj l'/\∃J ep K x al fo,T J/\
 l'=ft J (aA sh ep K (aD (aD (aD v 4 x) 5 (.ref (al+158))) 6 (.ref (fo+158)))) D M Z ts n j++[⟨al+158,aa (Ae D (bb D Z j (bY j Z.c)) (bb D Z j (bG j Z.c)) (bY j Z.c) (bG j Z.c)) (wJ (bb D Z j (bY j Z.c)) (bb D Z j (bG j Z.c)))⟩,⟨fo+158,aa (mm M (bb D Z j (bY j Z.c)) (bb D Z j (bG j Z.c)) (bY j Z.c) (bG j Z.c)) (wJ (bb D Z j (bY j Z.c)) (bb D Z j (bG j Z.c)))⟩]
section
variable {w:World} {D:KD} {M:KN} {Z:KT} {m:Nat} {sL rL:Nat->List Nat} (Q:cu D M Z m sL rL) {k0 k1 k2 k3:Nat} {c3:CO} {n j:Nat} (hj:j<8) (hd:Z.T<D.St (D.X j)) {x0 x1 x2:an}
include Q hj hd
theorem JF {TB:List ad} {TA:(Nat->HR)->List ad} {sh sh':cc} {ts:List an} {a b u:Nat} {ff:Bool->Bool->aq} (J:ai w 400 (ff (bb D Z j (bY j Z.c)) (bb D Z j (bG j Z.c)))) {om:W5->Nat} {ix:List Nat} (OG:eD ix=true) {TP:List ad->Prop} (OF:∀r,TP (TA r)) {ep:Nat} {K:Nat->Int×Nat} {v:Nat->Value}
  (OI:∀(x:W5) n' t g r,bP (vL w 360 400 (wM w D M Z n n' j (bY j Z.c) (bG j Z.c) a b x (ae (sL (D.X j))) (ae (123::sL (D.X j))) (ae (123::(sL (D.X j)++rL (D.X j)))) (ae (cV (sL (D.X j)) (rL (D.X j)))) (ff (x.ep&&x.gp) (x.eq&&x.gq)))) 400 default .base (a9 ((dg w).take 3) (aU w n)) (om x) (ft TB (aA sh ep K v) D M Z ts n j) n' t g (bO r 0 6) ix (.fin (.done .next)) (λo=>(so (TA r) (aA sh' (bD (o u)) (KO (o u)) (aD (aD (aD v 4 (.ref (n'+159))) 5 (.ref ((r 0).n+159))) 6 (.ref ((r 5).x+158)))) D M Z ts n j ((r 0).n+159) ((r 5).x+158) (bY j Z.c) (bG j Z.c) (x.ep&&x.gp) (x.eq&&x.gq)).map some) [])
  (FL:aj (ft TB (aA sh ep K v) D M Z ts n j)):WX w 360 (execs ((dg w).take 3) (aU w n)) (ft TB (aA sh ep K v) D M Z ts n j) (lF D M Z n j v ts sh' TP):=by
 obtain⟨x,h1,h2,h3,h4,h5,h6⟩:=Q.w5 hj hd;unfold lF;rw[h5,h6] at J|-;refine WX.stmR (hs:=λn'=>wM w D M Z n n' j (bY j Z.c) (bG j Z.c) a b x (ae (sL (D.X j))) (ae (123::sL (D.X j))) (ae (123::(sL (D.X j)++rL (D.X j)))) (ae (cV (sL (D.X j)) (rL (D.X j)))) (ff (x.ep&&x.gp) (x.eq&&x.gq))) (by decide) (by decide) (bg _) FL (λn' OH=>Q.hooks hj hd J FL OH h1 h2 h3 h4) 6 400 (om x) ix (λU U U U=>.next)
  (λn' t g rs o=>so (TA (λi=>rs.getD i h0)) (aA sh' (bD (o u)) (KO (o u)) (aD (aD (aD v 4 (.ref (n'+159))) 5 (.ref (((λi=>rs.getD i h0) 0).n+159))) 6 (.ref (((λi=>rs.getD i h0) 5).x+158)))) D M Z ts n j (((λi=>rs.getD i h0) 0).n+159) (((λi=>rs.getD i h0) 5).x+158) (bY j Z.c) (bG j Z.c) (x.ep&&x.gp) (x.eq&&x.gq)) (λn' t g rs OE=>?_) λn' t g rs o OE U U hF=>⟨rfl,hF OG,_,_,_,_,(rs.getD 0 h0).n+1,(rs.getD 5 h0).x,OF _,rfl⟩
 have z:=OI x n' t g (λi=>rs.getD i h0);rw[c4 OE] at z;exact z
theorem Ai {sh:cc} (hs:Mt sh=true) {ep:Nat} {K:Nat->Int×Nat} {v:Nat->Value} (FL:aj (ft (dj k0 k1 k2 k3 c3) (aA sh ep K v) D M Z M.ths n j)):WX w 360 (execs ((dg w).take 3) (aU w n)) (ft (dj k0 k1 k2 k3 c3) (aA sh ep K v) D M Z M.ths n j) (lF D M Z n j v M.ths (Jx sh) (λT'=>T'=dj k0 k1 k2 k3 c3)):=by
 have J:=Q.later (w:=w) hj hd (xs:=[]) (λU h=>nomatch h) (by decide) (k0:=k0) (k1:=k1) (k2:=k2) (k3:=k3) (c3:=c3) (i:=18);rw[fT] at J;exact JF Q hj hd (ff:=λp q=>FX k0 k1 k2 k3 c3 M M.ths (ae (cV (sL (D.X j)) (rL (D.X j)))) p q (bY j Z.c) (bG j Z.c)) J (ix:=Mu) (TP:=λT'=>T'=dj k0 k1 k2 k3 c3) rfl (λU=>rfl) (λx n' t g r=>Hn k0 k1 k2 k3 c3 D M Z n j (bY j Z.c) (bG j Z.c) (ae (sL (D.X j))) (ae (123::sL (D.X j))) (ae (123::(sL (D.X j)++rL (D.X j)))) (ae (cV (sL (D.X j)) (rL (D.X j)))) ep K v n' t g r x sh hs w) FL
theorem FY {sh:cc} (hs:Jw sh=true) (hx:mM Z.c [x0,x1,x2]) {ep:Nat} {K:Nat->Int×Nat} {v:Nat->Value} (FL:aj (ft (dj k0 k1 k2 k3 c3) (aA sh ep K v) D M Z (M.ths++[x0,x1,x2]) n j)):WX w 360 (execs ((dg w).take 3) (aU w n)) (ft (dj k0 k1 k2 k3 c3) (aA sh ep K v) D M Z (M.ths++[x0,x1,x2]) n j) (lF D M Z n j v (M.ths++[x0,x1,x2]) sh (λJ=>J=dj k0 k1 k2 k3 c3)):=
 JF Q hj hd (ff:=λp q=>FX k0 k1 k2 k3 c3 M (M.ths++[x0,x1,x2]) (ae (cV (sL (D.X j)) (rL (D.X j)))) p q (bY j Z.c) (bG j Z.c)) (Q.later hj hd hx (bg 3) (i:=18)) (ix:=JC) (TP:=λJ=>J=dj k0 k1 k2 k3 c3) rfl (λU=>rfl) (λx n' t g r=>Ej k0 k1 k2 k3 c3 D M Z n j (bY j Z.c) (bG j Z.c) (ae (sL (D.X j))) (ae (123::sL (D.X j))) (ae (123::(sL (D.X j)++rL (D.X j)))) (ae (cV (sL (D.X j)) (rL (D.X j)))) ep K v n' t g r x0 x1 x2 x sh hs w) FL
theorem M8 (hx:mM Z.c [x0,x1,x2]) {ep:Nat} {K:Nat->Int×Nat} {v:Nat->Value} (J:aj (ft (wI k0 k1 k2) (aA .a2 ep K v) D M Z (M.ths++[x0,x1,x2]) n j)):WX w 360 (execs ((dg w).take 3) (aU w n)) (ft (wI k0 k1 k2) (aA .a2 ep K v) D M Z (M.ths++[x0,x1,x2]) n j) (lF D M Z n j v (M.ths++[x0,x1,x2]) .a3 (λT'=>∃k3 y z,T'=[⟨78,pH k0 k1 k2 k3⟩,⟨k3+158,fO 96 y z 11⟩])):=
 JF Q hj hd (ff:=λp q=>Mw k0 k1 k2 M (M.ths++[x0,x1,x2]) (ae (cV (sL (D.X j)) (rL (D.X j)))) p q (bY j Z.c) (bG j Z.c)) (Q.first hj hd hx (bg 3) (i:=17)) (ix:=Mv) rfl (λU=>⟨_,_,_,rfl⟩) (λx n' t g r=>Ek k0 k1 k2 D M Z n j (bY j Z.c) (bG j Z.c) (ae (sL (D.X j))) (ae (123::sL (D.X j))) (ae (123::(sL (D.X j)++rL (D.X j)))) (ae (cV (sL (D.X j)) (rL (D.X j)))) ep K v n' t g r x0 x1 x2 x w) J
end
theorem aj.same (F:aj L) (he:e∈L) (hf:f∈L) (h:e.a=f.a):e=f:=by
 obtain⟨i,hi,rfl⟩:=nZ he;obtain⟨j,hj,rfl⟩:=nZ hf;by_cases J:i=j
 .rw[J]
 .exact bh h (kz F.apart hi hj J)
theorem aj.parts (F:aj (A++B)) (J:e∈A) (hf:f∈B):e.a≠f.a:=(List.pairwise_append.mp F.apart).2.2 e J f hf
theorem aj.left (F:aj (A++B)):aj A:=⟨(List.pairwise_append.mp F.apart).1,λe h=>F.high e (gO _ h)⟩
theorem aj.right (F:aj (A++B)):aj B:=⟨(List.pairwise_append.mp F.apart).2.1,λe h=>F.high e (fJ _ h)⟩
theorem aj.join (J:aj A) (FB:aj B) (h:∀e∈A,∀f∈B,e.a≠f.a):aj (A++B):=⟨List.pairwise_append.mpr ⟨J.apart,FB.apart,h⟩,λe he=>(dk.mp he).elim (J.high e) (FB.high e)⟩
theorem aj.sub (F:aj B) (h:A.Sublist B):aj A:=⟨F.apart.sublist h,λe J=>F.high e (h.mem J)⟩
theorem aj.perm (F:aj B) (h:A.Perm B):aj A:=⟨(h.pairwise_iff (λ{_ _} p=>Ne.symm p)).mpr F.apart,λe J=>F.high e (h.mem_iff.mp J)⟩
theorem ni (F:aj (ch++R)) (hl:∀e∈l,e∈ch\/e∈R) (H:aQ s (ch++R)) (D:bH w s s' (aC l) l')
  (h1:∀e∈ch'++C,e∈l') (h2:∀e∈l,e∈ch\/e∈C) (F':aj (ch'++C)):aj (ch'++R)/\bH w s s' (aC (ch++R)) (ch'++R):=by
 have OE:∀e∈l,e∈ch++R:=λe he=>dk.mpr (hl e he);have OF:∀f∈R,f.a∈aC l->f∈C:=λf J hm=>by
  obtain⟨g,hg,OH⟩:=cT.mp hm;have:g=f:=F.same (OE g hg) (fJ _ J) OH;subst this;rcases h2 g hg with z|z
  .exact bh rfl (F.parts z J)
  .exact z
 refine⟨F'.left.join F.right λe he f J ha=>?_,D.live H OE F λe he=>?_⟩
 .have OG:(f.a:Nat)<s.heap.objs.size:=fv (H f (fJ _ J));rcases D.adr e (h1 e (gO _ he)) with q|q
  .exact F'.parts he (OF f J (ha▸q)) ha
  .exact lf (ax (fk ha) (ax OG q))
 .rcases dk.mp he with he|he
  .exact .inl (h1 e (gO _ he))
  .by_cases hm:e.a∈aC l
   .exact .inl (h1 e (fJ _ (OF e he hm)))
   .exact .inr ⟨fJ _ he,hm⟩
theorem WX.fr {α:Type} {p:Sem α} {post post2:α->List ad->Prop} (F:aj (ch++R)) (hl:∀e∈l,e∈ch\/e∈R) (h:WX w d p l post)
  (hp:∀x l',post x l'->∃ch' C,(∀e∈ch'++C,e∈l')/\(∀e∈l,e∈ch\/e∈C)/\aj (ch'++C)/\(aj (ch'++R)->post2 x (ch'++R))):WX w d p (ch++R) post2:=λA s hA T H=>
 dR (h A s hA T λe he=>H e (dk.mpr (hl e he))) (λx s' ⟨l',J,D⟩=>by
  obtain⟨ch',C,h1,h2,h3,h4⟩:=hp x l' J;obtain⟨F2,D2⟩:=ni F hl H D h1 h2 h3;exact⟨_,h4 F2,D2⟩) λU U x=>x
theorem CX.fr {post post2:Result->List ad->Prop} (F:aj (ch++R)) (hl:∀e∈l,e∈ch\/e∈R) (h:CX w d c l post)
  (hp:∀x l',post x l'->∃ch' C,(∀e∈ch'++C,e∈l')/\(∀e∈l,e∈ch\/e∈C)/\aj (ch'++C)/\(aj (ch'++R)->post2 x (ch'++R))):CX w d c (ch++R) post2:=λA s hA T H=>
 eG (h A s hA T λe he=>H e (dk.mpr (hl e he))) (λx s' ⟨l',J,D⟩=>by
  obtain⟨ch',C,h1,h2,h3,h4⟩:=hp x l' J;obtain⟨F2,D2⟩:=ni F hl H D h1 h2 h3;exact⟨_,h4 F2,D2⟩)
theorem WX.ro {α:Type} {p:Sem α} {post post2:α->List ad->Prop} (F:aj L) (hl:∀e∈l,e∈L) (h:WX w d p l post)
  (hp:∀x l',post x l'->(∀e∈l,e∈l')/\post2 x (l'++L)):WX w d p L post2:=λA s hA T H=>
 dR (h A s hA T λe he=>H e (hl e he)) (λx s' ⟨l',OE,D⟩=>by
  obtain⟨h1,h2⟩:=hp x l' OE;refine⟨_,h2,D.live H hl F λe he=>?_⟩;rcases dk.mp he with he|he
  .exact .inl he
  .by_cases hm:e.a∈aC l
   .obtain⟨g,hg,J⟩:=cT.mp hm;have:g=e:=F.same (hl g hg) he J;subst this;exact .inl (h1 g hg)
   .exact .inr ⟨he,hm⟩) λU U x=>x
theorem WX.as {α:Type} {p:Sem α} {post:α->List ad->Prop} (F:aj L) (h:L2.Perm L) (g:aj L2->WX w d p L2 post):WX w d p L post:=
 (g (F.perm h)).of λU he=>h.mem_iff.mp he
theorem CX.as {post:Result->List ad->Prop} (F:aj L) (h:L2.Perm L) (g:aj L2->CX w d c L2 post):CX w d c L post:=
 (g (F.perm h)).of λU he=>h.mem_iff.mp he
theorem WX.cut {α:Type} {w d} {p:Sem α} {L} {post post2:α->List ad->Prop} (h:WX w d p L post) (hp:∀x l',post x l'->∃J,(∀e∈J,e∈l')/\post2 x J):WX w d p L post2:=λA s hA T H=>
 dR (h A s hA T H) (λU U zp1000=>by
  obtain⟨l',h,D⟩:=zp1000;obtain⟨J,h1,h2⟩:=hp _ _ h;exact⟨J,h2,D.sub (λU h=>h) h1⟩) λU U x=>x
def et (ix:List Nat) (L:List ad):List ad:=ix.map (jj L)
def qO (ix:List Nat):Nat->List ad->List ad
 |_,[]=>[]
 |i,e::r=>match mL ix i with
  |true=>qO ix (i+1) r
  |false=>e::qO ix (i+1) r
theorem wU:∀L i,(∀k∈ix,k<i)->qO ix i L=L
 |[],_,_=>rfl
 |e::r,i,h=>by
  dsimp only[qO];cases hm:mL ix i with
  |true=>exact bh (h i (lE.mp hm)) (Nat.lt_irrefl _)
  |false=>exact congrArg (e:: ·) (wU r (i+1) λk hk=>Nat.lt_succ_of_lt (h k hk))
theorem pN {ix:List Nat}:∀(L M:List ad),∃J:List Nat,J.Nodup/\(∀j,j∈J↔(j∈ix/\M.length<=j/\j<M.length+L.length))/\(J.map (jj (M++L))++qO ix M.length L).Perm L
 |[],M=>⟨[],List.nodup_nil,λj=>by simp,.refl _⟩
 |e::r,M=>by
  obtain⟨J,h1,h2,h3⟩:=pN (ix:=ix) r (M++[e]);have hl:(M++[e]).length=M.length+1:=by simp
  have hM:M++e::r=M++[e]++r:=by simp
  have hn:jj (M++e::r) M.length=e:=by
   clear h1 h2 h3 hl hM;induction M with
   |nil=>rfl
   |cons a b ih=>exact ih
  rw[hl] at h2 h3;dsimp only[qO];cases hm:mL ix M.length with
  |true=>
   refine⟨M.length::J,List.nodup_cons.mpr ⟨λm=>by have:=(h2 _).mp m;exact(lf this.2.1),h1⟩,λj=>?_,?_⟩
   .rw[aY,h2,fu];constructor
    .rintro(rfl|⟨a,b,c⟩)
     .exact⟨lE.mp hm,bg _,by exact i7 It⟩
     .exact⟨a,by exact Nat.le_of_lt b,by exact(au c)⟩
    .rintro⟨a,b,c⟩;by_cases hj:j=M.length
     .exact .inl hj
     .exact .inr ⟨a,by lia,by exact(au c)⟩
   .rw[de,List.cons_append,hn,hM];exact h3.cons e
  |false=>
   refine⟨J,h1,λj=>?_,?_⟩
   .rw[h2,fu];constructor
    .rintro⟨a,b,c⟩;exact⟨a,by exact Nat.le_of_lt b,by exact(au c)⟩
    .rintro⟨a,b,c⟩;refine⟨a,?_,by exact(au c)⟩;by_cases hj:j=M.length
     .subst hj;rw[lE.mpr a] at hm;cases hm
     .lia
   .show(_++e::qO ix (M.length+1) r).Perm (e::r);refine(List.perm_middle).trans ?_;rw[hM];exact h3.cons e
theorem Cw {L} (hn:eD ix=true) (hb:fQ L.length ix=true):(et ix L++qO ix 0 L).Perm L:=by
 obtain⟨js,J,h2,h3⟩:=pN (ix:=ix) L [];have hp:ix.Perm js:=(List.perm_ext_iff_of_nodup (dZ hn) J).mpr λj=>by
  rw[h2];exact⟨λh=>⟨h,iU _,by simpa using fG hb j h⟩,λh=>h.1⟩
 exact((hp.map (jj L)).append_right _).trans h3
def FZ:List Nat->Nat
 |[]=>0
 |a::r=>max (a+1) (FZ r)
theorem Cy:∀{ix k},k∈ix->k<FZ ix
 |a::r,k,h=>by
  dsimp only[FZ];rcases aY.mp h with rfl|h
  .lia
  .have:=Cy h;lia
def Cz (ix:List Nat):Nat->Nat->List ad->List ad
 |0,_,L=>L
 |_+1,_,[]=>[]
 |k+1,i,e::r=>match mL ix i with
  |true=>Cz ix k (i+1) r
  |false=>e::Cz ix k (i+1) r
theorem CA:∀k i L,(∀j∈ix,j<i+k)->Cz ix k i L=qO ix i L
 |0,i,L,h=>(wU L i h).symm
 |_+1,_,[],_=>rfl
 |k+1,i,e::r,h=>by
  unfold Cz qO;rw[CA k (i+1) r λj hj=>by have:=h j hj;lia]
def lG (ix:List Nat) (L:List ad):List ad:=Cz ix (FZ ix) 0 L
theorem jG {L} (hn:eD ix=true) (hb:fQ L.length ix=true):(et ix L++lG ix L).Perm L:=by
 unfold lG;rw[CA _ _ _ λj hj=>by rw[Nat.zero_add];exact Cy hj];exact Cw hn hb
theorem WX.pk {α:Type} {w d} {p:Sem α} {L} {post:α->List ad->Prop} (ix) (hn:eD ix=true) (hb:fQ L.length ix=true) (F:aj L) (h:aj (et ix L++lG ix L)->WX w d p (et ix L++lG ix L) post):WX w d p L post:=
 WX.as F (jG hn hb) h
theorem Hp {L} (ix dr) (hn:eD (ix++dr)=true) (hb:fQ L.length (ix++dr)=true) (F:aj L):aj (et ix L++lG (ix++dr) L):=by
 refine(F.perm (jG hn hb)).sub ?_;unfold et;rw[k6];exact(List.sublist_append_left _ _).append (.refl _)
theorem WX.sel {α:Type} {w d} {p:Sem α} {L} {post post2:α->List ad->Prop} (h:WX w d p L post) (hp:∀x l',post x l'->aj l'/\∃ix dr,eD (ix++dr)=true/\fQ l'.length (ix++dr)=true/\(aj (et ix l'++lG (ix++dr) l')->post2 x (et ix l'++lG (ix++dr) l'))):WX w d p L post2:=
 WX.cut h λx l' hx=>by
  obtain⟨F,ix,dr,hn,hb,J⟩:=hp x l' hx;refine⟨_,λe he=>?_,J (Hp ix dr hn hb F)⟩;refine(jG hn hb).mem_iff.mp ?_;rcases dk.mp he with he|he
  .refine gO _ ?_;unfold et;rw[k6];exact gO _ he
  .exact fJ _ he
theorem wV (js) (hn:eD js=true) (hb:fQ X.length js=true) (h:Y=et js X++lG js X):Y.Perm X:=h▸jG hn hb
theorem WX.fr0 {α:Type} {w d} {p:Sem α} {l R} {post post2:α->List ad->Prop} (F:aj (l++R)) (h:WX w d p l post) (hp:∀x l',post x l'->aj l'/\(aj (l'++R)->post2 x (l'++R))):WX w d p (l++R) post2:=
 WX.fr F (λe J=>.inl J) h λx l' hx=>⟨l',[],λe J=>by rwa[fT] at J,λe J=>.inl J,by rw[fT];exact(hp x l' hx).1,(hp x l' hx).2⟩
theorem CX.fr0 {w d l R} {post post2:Result->List ad->Prop} (F:aj (l++R)) (h:CX w d c l post) (hp:∀x l',post x l'->aj l'/\(aj (l'++R)->post2 x (l'++R))):CX w d c (l++R) post2:=
 CX.fr F (λe J=>.inl J) h λx l' hx=>⟨l',[],λe J=>by rwa[fT] at J,λe J=>.inl J,by rw[fT];exact(hp x l' hx).1,(hp x l' hx).2⟩
theorem WX.out {α:Type} {w d} {p:Sem α} {L} {post post2:α->List ad->Prop} (h:WX w d p L post) (hp:∀x l',post x l'->aj l'/\∃J,J.Perm l'/\(aj J->post2 x J)):WX w d p L post2:=
 WX.cut h λx l' hx=>by
  obtain⟨F,J,h1,h2⟩:=hp x l' hx;exact⟨J,λe he=>h1.mem_iff.mp he,h2 (F.perm h1)⟩
def uq:List (List ad)->Nat->List ad
 |[],_=>[]
 |e::_,0=>e
 |_::r,i+1=>uq r i
inductive AT where
 |s (i:Nat)
 |p (a b:AT)
def AT.ev (S:List (List ad)):AT->List ad
 |.s i=>uq S i
 |.p a b=>a.ev S++b.ev S
def AT.fl:AT->List Nat
 |.s i=>[i]
 |.p a b=>a.fl++b.fl
def AT.r:List Nat->AT
 |[]=>.s 0
 |[i]=>.s i
 |i::j::l=>.p (.s i) (AT.r (j::l))
theorem AT.ev_eq (S:List (List ad)):∀t:AT,t.ev S=(t.fl.map (uq S)).flatten
 |.s i=>by simp[AT.ev,AT.fl]
 |.p a b=>by simp[AT.ev,AT.fl,AT.ev_eq S a,AT.ev_eq S b]
theorem AT.perm (S:List (List ad)) (t u:AT) (h:u.fl.isPerm t.fl=true):(u.ev S).Perm (t.ev S):=by
 rw[AT.ev_eq,AT.ev_eq];exact((List.isPerm_iff.mp h).map (uq S)).flatten
theorem AT.sub (S:List (List ad)) (t u:AT) (dr:List Nat) (h:(u.fl++dr).isPerm t.fl=true):(u.ev S++(dr.map (uq S)).flatten).Perm (t.ev S):=by
 rw[AT.ev_eq,AT.ev_eq,<-List.flatten_append,<-k6];exact((List.isPerm_iff.mp h).map (uq S)).flatten
theorem WX.re {α:Type} {w:World} {d:Nat} {p:Sem α} {post:α->List ad->Prop} (S:List (List ad)) (t u:AT) (h:u.fl.isPerm t.fl=true) (F:aj (t.ev S)) (k:aj (u.ev S)->WX w d p (u.ev S) post):WX w d p (t.ev S) post:=WX.as F (AT.perm S t u h) k
theorem WX.outD {α:Type} {w d} {p:Sem α} {L} {post post2:α->List ad->Prop} (h:WX w d p L post) (hp:∀x l',post x l'->aj l'/\∃J C,(J++C).Perm l'/\(aj J->post2 x J)):WX w d p L post2:=
 WX.cut h λx l' hx=>by
  obtain⟨F,J,C,h1,h2⟩:=hp x l' hx;exact⟨J,λe he=>h1.mem_iff.mp (gO _ he),h2 (F.perm h1).left⟩
section
variable {w:World} {d D₀ dh:Nat} {hs:List aq} (hD:D₀+5<1000) (hh:dh<=950) (hd:d<=D₀) {l R:List ad} (F:aj (l++R)) (H:∀f∈hs,ai w dh f)
include hD hh hd F H
theorem WX.stmP {b:List Stmt} {OF:Env} {post:Flow->List ad->Prop} (nh OE orc:Nat) (ix:List Nat) (hx:eD ix=true) (f:Nat->Nat->Nat->(Nat->HR)->Flow) (l':Nat->Nat->Nat->(Nat->HR)->(Nat->Obj)->List ad)
  (OG:∀n t g r,bP (vL w D₀ dh hs) OE default .base (a9 b OF) orc l n t g (bO r 0 nh) ix (.fin (.done (f n t g r))) (λo=>(l' n t g r o).map some) [])
  (hn:∀n t g r o,aj (l' n t g r o++R)->post (f n t g r) (l' n t g r o++R)):WX w d (execs b OF) (l++R) post:=
 WX.fr0 F (WX.stmR (hs:=λU=>hs) (post:=λx l2=>∃n t g r o,x=f n t g r/\l2=l' n t g r o/\aj l2) hD hh hd F.left (λU U=>H) nh OE orc ix (λn t g rs=>f n t g λi=>rs.getD i h0) (λn t g rs=>l' n t g λi=>rs.getD i h0)
  (λn t g rs OH=>by have z:=OG n t g λi=>rs.getD i h0;rwa[c4 OH] at z) λn t g rs o U U U hF=>⟨n,t,g,_,o,rfl,rfl,hF hx⟩) λx l2 J=>by obtain⟨n,t,g,r,o,e1,e2,hF⟩:=J;exact⟨hF,λF2=>by subst e1 e2;exact hn n t g r o F2⟩
end
theorem WX.stmS {w:World} {d D₀ dh:Nat} {hs:List aq} (hD:D₀+5<1000) (hh:dh<=950) (hd:d<=D₀) {L:List ad} (F:aj L) (H:∀f∈hs,ai w dh f)
  {b:List Stmt} {OE:Env} {post:Flow->List ad->Prop} (im:List Nat) (hn:eD im=true) (hb:fQ L.length im=true) (nh J orc:Nat) (ix:List Nat) (hx:eD ix=true) (f:Nat->Nat->Nat->(Nat->HR)->Flow) (l':Nat->Nat->Nat->(Nat->HR)->(Nat->Obj)->List ad)
  (OF:∀n t g r,bP (vL w D₀ dh hs) J default .base (a9 b OE) orc (et im L) n t g (bO r 0 nh) ix (.fin (.done (f n t g r))) (λo=>(l' n t g r o).map some) [])
  (hp:∀n t g r o,∃l2,l2.Perm (l' n t g r o++lG im L)/\(aj l2->post (f n t g r) l2)):WX w d (execs b OE) L post:=
 WX.pk im hn hb F λF2=>WX.out (WX.stmP (post:=λx l2=>∃n t g r o,x=f n t g r/\l2=l' n t g r o++lG im L/\aj l2) hD hh hd F2 H nh J orc ix hx f l' OF λn t g r o F3=>⟨n,t,g,r,o,rfl,rfl,F3⟩) λx l2 ⟨n,t,g,r,o,e1,e2,F3⟩=>⟨F3,by
  subst e1 e2;exact hp n t g r o⟩
theorem CX.pk {w d L} {post:Result->List ad->Prop} (ix) (hn:eD ix=true) (hb:fQ L.length ix=true) (F:aj L) (h:aj (et ix L++lG ix L)->CX w d c (et ix L++lG ix L) post):CX w d c L post:=
 CX.as F (jG hn hb) h
theorem wW {L im} (hb:fQ L.length im=true):∀e∈et im L,e∈L:=λe J=>by
 obtain⟨i,hi,rfl⟩:=cT.mp J;exact g7 (fG hb i hi)
section
variable {w:World} {d D₀ dh:Nat} {hs:List aq} (hD:D₀+5<1000) (hh:dh<=950) (hd:d<=D₀) {L:List ad} (F:aj L) (H:∀f∈hs,ai w dh f) (im:List Nat) (hn:eD im=true) (hb:fQ L.length im=true)
include hD hh hd F H hn hb
theorem WX.expR {e:Expr} {OF:Env} {post:Value->List ad->Prop} (nh OE orc:Nat) (ix:List Nat) (f:Nat->Nat->Nat->(Nat->HR)->Value) (nw:Nat->Nat->Nat->(Nat->HR)->List ad)
  (OG:∀n t g r,ay (vL w D₀ dh hs) OE default .base (fM e OF) orc (et im L) n t g (bO r 0 nh) ix (.fin (.done (.ret (f n t g r)))) ((et im L++nw n t g r).map some) [])
  (hp:∀n t g r,post (f n t g r) (nw n t g r++L)):WX w d (eval e OF) L post:=
 WX.cut (WX.ro (post2:=λx l2=>∃n t g r,x=f n t g r/\l2=(et im L++nw n t g r)++L) F (wW hb) (WX.exp (post:=λx l2=>∃n t g r,x=f n t g r/\l2=et im L++nw n t g r) hD hh hd (F.at (dZ hn) (fG hb)) H nh OE orc ix (λn t g rs=>f n t g λi=>rs.getD i h0) (λn t g rs=>et im L++nw n t g λi=>rs.getD i h0)
  (λn t g rs OH=>by have z:=OG n t g λi=>rs.getD i h0;rwa[c4 OH] at z) λn t g rs U=>⟨n,t,g,_,rfl,rfl⟩) λx l' J=>by obtain⟨n,t,g,r,e1,e2⟩:=J;exact⟨λe he=>by rw[e2];exact gO _ he,n,t,g,r,e1,by rw[e2]⟩) λx l' ⟨n,t,g,r,e1,e2⟩=>
  ⟨nw n t g r++L,λe he=>by
   rw[e2,i6];exact fJ _ he,e1▸hp n t g r⟩
theorem WX.tstO {post:Bool->List ad->Prop} (OF orc ix b)
  (OG:∀n t g,ay (vL w D₀ dh hs) OF default .base (ml e env) orc (et im L) n t g [] ix (.fin (.done (.ret (.bool b)))) ((et im L).map some) [])
  (hp:post b L):WX w d (isTrue e env (eval e env)) L post:=
 WX.cut (WX.ro (post2:=λx l2=>x=b/\l2=et im L++L) F (wW hb) (WX.tst (post:=λx l2=>x=b/\l2=et im L) hD hh hd (F.at (dZ hn) (fG hb)) H 0 OF orc ix b (λU U U U=>et im L)
  (λn t g rs OH=>by rw[dI.mp OH];exact OG n t g) λU U U U U=>⟨rfl,rfl⟩) λx l' J=>by obtain⟨e1,e2⟩:=J;exact⟨λe he=>by rw[e2];exact he,e1,by rw[e2]⟩) λx l' OE=>by obtain⟨e1,e2⟩:=OE;exact⟨L,λe he=>by rw[e2];exact fJ _ he,e1▸hp⟩
end
section
variable {w:World} {d D₀ dh:Nat} {hs:List aq} (hD:D₀+5<1000) (hh:dh<=950) (hd:d<=D₀) {l l' R:List ad} (F:aj (l++R)) (H:∀f∈hs,ai w dh f)
include hD hh hd F H
theorem WX.nxtK {OG:Value} {post:Option Value->List ad->Prop} (nh J orc:Nat) (ix:List Nat) (o:(Nat->HR)->Value) (he:aC l'=aC l)
  (OF:∀n t g r,ay (vL w D₀ dh hs) J default .base (d8 OG) orc l n t g (bO r 0 nh) ix (.fin (.done (.ret (o r)))) (l'.map some) []) (hp:∀r,aj (l'++R)->post (some (o r)) (l'++R)):WX w d (pyNext OG) (l++R) post:=by
 refine WX.fr0 F (post:=λx l2=>∃r,x=some (o r)/\l2=l') ?_ ?_
 .intro A s hA T Hs;obtain⟨n,t,g,S⟩:=T.st Hs F.left;refine i9 (v:=vL w D₀ dh hs) (bE H hD hh) (hA.mono hd) S nh J orc ix (λrs=>.fin (.done (.ret (o λi=>rs.getD i h0)))) (λU=>l'.map some) (λU=>[]) (λrs OE=>by have z:=OF n t g λi=>rs.getD i h0;rwa[c4 OE] at z) λrs s1 OE D=>?_;exact⟨_,⟨_,rfl,rfl⟩,D.aft T⟩
 .rintro x l2 ⟨r,e1,e2⟩;subst e1 e2;exact⟨dX F.left he,hp r⟩
theorem WX.nxtE {post:Option Value->List ad->Prop} (nh J orc ix) (he:l'.Sublist l)
  (OF:∀n t g r,ay (vL w D₀ dh hs) J default .base (d8 itv) orc l n t g (bO r 0 nh) ix (.fin (.done .next)) (l'.map some) []) (hp:aj (l'++R)->post none (l'++R)):WX w d (pyNext itv) (l++R) post:=by
 refine WX.fr0 F (post:=λx l2=>x=none/\l2=l') ?_ ?_
 .intro A s hA T Hs;obtain⟨n,t,g,S⟩:=T.st Hs F.left;refine i9 (v:=vL w D₀ dh hs) (bE H hD hh) (hA.mono hd) S nh J orc ix (λrs=>.fin (.done .next)) (λU=>l'.map some) (λU=>[]) (λrs OE=>by have z:=OF n t g λi=>rs.getD i h0;rwa[c4 OE] at z) λrs s1 OE D=>?_;exact⟨_,⟨rfl,rfl⟩,D.aft T⟩
 .rintro x l2 ⟨e1,e2⟩;subst e1 e2;exact⟨F.left.sub he,hp⟩
theorem WX.asgK {post:Unit->List ad->Prop} (J orc ix) (he:aC l'=aC l)
  (OE:∀n t g,ay (vL w D₀ dh hs) J default .base (f9 tg env x) orc l n t g [] ix (.fin (.done .next)) (l'.map some) []) (hp:aj (l'++R)->post () (l'++R)):WX w d (assign tg env x) (l++R) post:=by
 refine WX.fr0 F (WX.asg (post:=λU l2=>l2=l') hD hh hd F.left H 0 J orc ix (λU U U U=>l') (λn t g rs OF=>by rw[dI.mp OF];exact OE n t g) λU U U U U=>rfl) λx l2 e=>?_;subst e;exact⟨dX F.left he,hp⟩
end
theorem My {P:List ad->Prop} {G:Flow->List ad->Prop} (k:∀l,P l->G .next l):∀f L',(f=.next/\P L')->G f L':=by
 rintro f L' ⟨J,h⟩;subst J;exact k L' h
theorem Mz {G:Flow->List ad->Prop} (k:G .next X):∀f L',(f=.next/\L'=X)->G f L':=by
 rintro f L' ⟨hf,J⟩;subst hf J;exact k
theorem CB {A0 A1:Type} {X:A0->A1->List ad} {G:Flow->List ad->Prop} (k:∀a b,aj (X a b)->G .next (X a b)):∀f L',(f=.next/\aj L'/\∃a b,L'=X a b)->G f L':=by
 rintro f L' ⟨hf,F,a,b,J⟩;subst hf J;exact k a b F
theorem Ll {A0 A1:Type} {X:A0->A1->List ad} {J:A0->A1->Prop} {G:Flow->List ad->Prop} (k:∀a b,J a b->aj (X a b)->G .next (X a b)):∀f L',(f=.next/\aj L'/\∃a b,J a b/\L'=X a b)->G f L':=by
 rintro f L' ⟨hf,F,a,b,h0,hL⟩;subst hf hL;exact k a b h0 F
theorem MA {A0 A1 A2:Type} {X:A0->A1->A2->List ad} {G:Flow->List ad->Prop} (k:∀a b c,aj (X a b c)->G .next (X a b c)):∀f L',(f=.next/\aj L'/\∃a b c,L'=X a b c)->G f L':=by
 rintro f L' ⟨hf,F,a,b,c,J⟩;subst hf J;exact k a b c F
theorem Lm {A0 A1 A2:Type} {X:A0->A1->A2->List ad} {J:A0->A1->A2->Prop} {G:Flow->List ad->Prop} (k:∀a b c,J a b c->aj (X a b c)->G .next (X a b c)):∀f L',(f=.next/\aj L'/\∃a b c,J a b c/\L'=X a b c)->G f L':=by
 rintro f L' ⟨hf,F,a,b,c,h0,hL⟩;subst hf hL;exact k a b c h0 F
theorem Ou {A0 A1 A2 J:Type} {X:A0->A1->A2->J->List ad} {G:Flow->List ad->Prop} (k:∀a b c d,aj (X a b c d)->G .next (X a b c d)):∀f L',(f=.next/\aj L'/\∃a b c d,L'=X a b c d)->G f L':=by
 rintro f L' ⟨hf,F,a,b,c,d,hL⟩;subst hf hL;exact k a b c d F
theorem Ov {A0 A1 A2 J A4:Type} {X:A0->A1->A2->J->A4->List ad} {G:Flow->List ad->Prop} (k:∀a b c d e,aj (X a b c d e)->G .next (X a b c d e)):∀f L',(f=.next/\aj L'/\∃a b c d e,L'=X a b c d e)->G f L':=by
 rintro f L' ⟨hf,F,a,b,c,d,e,hL⟩;subst hf hL;exact k a b c d e F
theorem Ow {A0 A1 A2 J A4 A5:Type} {X:A0->A1->A2->J->A4->A5->List ad} {G:Flow->List ad->Prop} (k:∀a b c d e g,aj (X a b c d e g)->G .next (X a b c d e g)):∀f L',(f=.next/\aj L'/\∃a b c d e g,L'=X a b c d e g)->G f L':=by
 rintro f L' ⟨hf,F,a,b,c,d,e,g,hL⟩;subst hf hL;exact k a b c d e g F
theorem Ln {A0 A1 A2 J A4 A5:Type} {X:A0->A1->A2->J->A4->A5->List ad} {P0:A0->A1->A2->J->A4->A5->Prop} {G:Flow->List ad->Prop} (k:∀a b c d e g,P0 a b c d e g->aj (X a b c d e g)->G .next (X a b c d e g)):∀f L',(f=.next/\aj L'/\∃a b c d e g,P0 a b c d e g/\L'=X a b c d e g)->G f L':=by
 rintro f L' ⟨hf,F,a,b,c,d,e,g,h0,hL⟩;subst hf hL;exact k a b c d e g h0 F
theorem F0 {A0 A1 A2 J A4 A5 A6:Type} {X:A0->A1->A2->J->A4->A5->A6->List ad} {P0:A0->A1->A2->J->A4->A5->A6->Prop} {P1:A0->A1->A2->J->A4->A5->A6->Prop} {P2:A0->A1->A2->J->A4->A5->A6->Prop} {G:Flow->List ad->Prop} (k:∀a b c d e g i,P0 a b c d e g i->P1 a b c d e g i->P2 a b c d e g i->aj (X a b c d e g i)->G .next (X a b c d e g i)):∀f L',(f=.next/\aj L'/\∃a b c d e g i,P0 a b c d e g i/\P1 a b c d e g i/\P2 a b c d e g i/\L'=X a b c d e g i)->G f L':=by
 rintro f L' ⟨hf,F,a,b,c,d,e,g,i,h0,h1,h2,hL⟩;subst hf hL;exact k a b c d e g i h0 h1 h2 F
theorem Lo {A0 A1 A2 J A4 A5 A6 A7:Type} {X:A0->A1->A2->J->A4->A5->A6->A7->List ad} {P0:A0->A1->A2->J->A4->A5->A6->A7->Prop} {P1:A0->A1->A2->J->A4->A5->A6->A7->Prop} {G:Flow->List ad->Prop} (k:∀a b c d e g i j,P0 a b c d e g i j->P1 a b c d e g i j->aj (X a b c d e g i j)->G .next (X a b c d e g i j)):∀f L',(f=.next/\aj L'/\∃a b c d e g i j,P0 a b c d e g i j/\P1 a b c d e g i j/\L'=X a b c d e g i j)->G f L':=by
 rintro f L' ⟨hf,F,a,b,c,d,e,g,i,j,h0,h1,hL⟩;subst hf hL;exact k a b c d e g i j h0 h1 F
theorem Lp {A0 A1 A2 J A4 A5 A6 A7 A8:Type} {X:A0->A1->A2->J->A4->A5->A6->A7->A8->List ad} {P0:A0->A1->A2->J->A4->A5->A6->A7->A8->Prop} {P1:A0->A1->A2->J->A4->A5->A6->A7->A8->Prop} {P2:A0->A1->A2->J->A4->A5->A6->A7->A8->Prop} {P3:A0->A1->A2->J->A4->A5->A6->A7->A8->Prop} {G:Flow->List ad->Prop} (k:∀a b c d e g i j m,P0 a b c d e g i j m->P1 a b c d e g i j m->P2 a b c d e g i j m->P3 a b c d e g i j m->aj (X a b c d e g i j m)->G .next (X a b c d e g i j m)):∀f L',(f=.next/\aj L'/\∃a b c d e g i j m,P0 a b c d e g i j m/\P1 a b c d e g i j m/\P2 a b c d e g i j m/\P3 a b c d e g i j m/\L'=X a b c d e g i j m)->G f L':=by
 rintro f L' ⟨hf,F,a,b,c,d,e,g,i,j,m,h0,h1,h2,h3,hL⟩;subst hf hL;exact k a b c d e g i j m h0 h1 h2 h3 F
theorem CC {A0 A1 A2 J A4 A5 A6 A7 A8 A9:Type} {X:A0->A1->A2->J->A4->A5->A6->A7->A8->A9->List ad} {P0:A0->A1->A2->J->A4->A5->A6->A7->A8->A9->Prop} {P1:A0->A1->A2->J->A4->A5->A6->A7->A8->A9->Prop} {G:Flow->List ad->Prop} (k:∀a b c d e g i j m n,P0 a b c d e g i j m n->P1 a b c d e g i j m n->aj (X a b c d e g i j m n)->G .next (X a b c d e g i j m n)):∀f L',(f=.next/\aj L'/\∃a b c d e g i j m n,P0 a b c d e g i j m n/\P1 a b c d e g i j m n/\L'=X a b c d e g i j m n)->G f L':=by
 rintro f L' ⟨hf,F,a,b,c,d,e,g,i,j,m,n,h0,h1,hL⟩;subst hf hL;exact k a b c d e g i j m n h0 h1 F
theorem JG {A0 A1 A2 A3 A4 A5 A6 A7 A8 A9 J OE:Type} {X:A0->A1->A2->A3->A4->A5->A6->A7->A8->A9->J->OE->List ad} {P0:A0->A1->A2->A3->A4->A5->A6->A7->A8->A9->J->OE->Prop} {P1:A0->A1->A2->A3->A4->A5->A6->A7->A8->A9->J->OE->Prop} {G:Flow->List ad->Prop} (k:∀a b c d e g i j m n p q,P0 a b c d e g i j m n p q->P1 a b c d e g i j m n p q->aj (X a b c d e g i j m n p q)->G .next (X a b c d e g i j m n p q)):∀f L',(f=.next/\aj L'/\∃a b c d e g i j m n p q,P0 a b c d e g i j m n p q/\P1 a b c d e g i j m n p q/\L'=X a b c d e g i j m n p q)->G f L':=by
 rintro f L' ⟨hf,F,a,b,c,d,e,g,i,j,m,n,p,q,h0,h1,hL⟩;subst hf hL;exact k a b c d e g i j m n p q h0 h1 F
theorem MB {A0 A1:Type} {X:A0->A1->List ad} {G:Result->List ad->Prop} (k:∀a b,aj (X a b)->G (.ok .next) (X a b)):∀f L',(f=.ok .next/\aj L'/\∃a b,L'=X a b)->G f L':=by
 rintro f L' ⟨hf,F,a,b,J⟩;subst hf J;exact k a b F
set_option tactic.hygienic true in
theorem cP (h:v i=x):aD v i x=v:=by
 funext j;unfold aD;split
 .rename_i e;rw[Nat.eq_of_beq_eq_true e,h]
 .rfl
def iM (w:World) (D:KD) (M:KN) (Z:KT) (ts:List an) (n:Nat) (sh sh':cc) (T:List ad) (TP:List ad->Prop):Prop:=
 ∀j<8,Z.T<D.St (D.X j)->∀ep K v,aj (ft T (aA sh ep K v) D M Z ts n j)->WX w 360 (execs ((dg w).take 3) (aU w n)) (ft T (aA sh ep K v) D M Z ts n j) (lF D M Z n j v ts sh' TP)
def fP (D:KD) (k:Nat):Int×Nat:=((D.X k:Int),D.tX k+1)
def pO (D:KD) (Z:KT) (j:Nat):List Nat:=[bY j Z.c,bG j Z.c].filter (bb D Z j)
structure kf (v:Nat->Value) (kn ak:Nat):Prop where
 k:v 0=.ref (kn+158)
 a:v 3=.ref (ak+158)
theorem mN (a b):am (a++b)=am a++am b:=k6
theorem WX.cmpNe {w:World} {d:Nat} {J:Stmt} {OE:Env} {L:List ad} {post:Flow->List ad->Prop} (OF:J=.If (.Compare (mE J) [.NotEq] [gT J] (vZ J)) (Bv J) [] (uP J)) (hm:behindInMarks .NotEq (gT J)=false)
  (h:WX w d (eval (mE J) OE) L λv l1=>WX w d (eval (gT J) OE) l1 λv2 l2=>(∀A s,aL d A->aK w s->aQ s l2->RcNeAt A s v v2 false)/\post .next l2):WX w d (execs [J] OE) L post:=SX.ifNe OF hm h
theorem wX {w}:ai w dh (eT (ae (c::r)) 0 c):=nF (by decide) (by
 have:(ae (c::r)).length=r.length+1:=bz _;rw[this];simp[seqIndex?,ae])
theorem CD (w):dg w=(dg w).take 3++([gM w]++(dg w).drop 4):=by kernel_rfl
theorem Hq (w):lB w=.If (wD (lB w)) (dg w) [] (uP (lB w)):=by kernel_rfl
theorem Eo (w):gM w=.If (.Compare (mE (gM w)) [.NotEq] [gT (gM w)] (vZ (gM w))) (Bv (gM w)) [] (uP (gM w)):=by kernel_rfl
theorem Hr (w):behindInMarks .NotEq (gT (gM w))=false:=by kernel_rfl
theorem aj.re (F:aj L) (ix) (hn:eD ix=true) (hb:fQ L.length ix=true) (h:ix.map (jj L)=l):aj l:=h▸F.at (dZ hn) (fG hb)
def ei (D:KD) (M:KN) (Z:KT) (n j:Nat):List ad:=Cl D M Z n j++[D.lW,D.lSO,D.lS (D.X j),D.lR,D.lSt,D.lWd,⟨n+168,af (some (.ref (M.aN+158)))⟩,M.lN]
def gN (F:Obj) (n kn ak:Nat) (pk pa:List (Int×Nat)) (ek ea:Nat):List ad:=[⟨n+158,F⟩,⟨kn+158,aa (am pk) ek⟩,⟨ak+158,aa (am pa) ea⟩]
section
variable {w:World} {D:KD} {M:KN} {Z:KT} {n j:Nat} {sh':cc}
theorem Ep:∀(h4:jw sh'=true) {ep J fo e1:Nat} {K:Nat->Int×Nat} {v:Nat->Value} {R:List ad} {xs ys:List Value} {hs:List aq} {orc:Nat} (hh:∀f∈hs,ai w 400 f) (OH:∀y∈ys,∃z t,y=.str z t)
  (OG:∀n' t g,ay (vL w 360 400 hs) 200 default .base (fM (gT (gM w)) (aU w n)) orc ([⟨n+158,aA sh' ep K (dA v J fo)⟩]++pL D M n++[⟨J+158,aa xs e1⟩]) n' t g [] [0,1,2,3,4,5,7]
   (.fin (.done (.ret (.ref (n'+159))))) (([⟨n+158,aA sh' ep K (dA v J fo)⟩]++pL D M n++[⟨J+158,aa xs e1⟩,⟨n'+159,aa ys e1⟩]:List ad).map some) [])
  (F:aj (⟨n+158,aA sh' ep K (dA v J fo)⟩::⟨J+158,aa xs e1⟩::⟨fo+158,aa ys e1⟩::(ei D M Z n j++R))),WX w 360 (execs [gM w] (aU w n)) (⟨n+158,aA sh' ep K (dA v J fo)⟩::⟨J+158,aa xs e1⟩::⟨fo+158,aa ys e1⟩::(ei D M Z n j++R))
   (λf L'=>f=.next/\L'=(⟨n+158,aA sh' ep K (dA v J fo)⟩::⟨J+158,aa xs e1⟩::⟨fo+158,aa ys e1⟩::(ei D M Z n j++R))):=by
 ext w D M Z n j sh';intro h4;ext ep J fo e1 K v R xs ys hs orc:0;intro hh OH OG F;refine WX.cut (post:=λf L'=>f=.next/\∀e∈(⟨n+158,aA sh' ep K (dA v J fo)⟩::⟨J+158,aa xs e1⟩::⟨fo+158,aa ys e1⟩::(ei D M Z n j++R):List ad),e∈L') (WX.cmpNe (Eo _) (Hr _) ?_) λf l' OF=>by obtain⟨h1,h2⟩:=OF;exact⟨_,h2,h1,rfl⟩
 have Fp:=F.left (A:=_::_::_::ei D M Z n j);refine WX.ro (l:=[⟨n+158,aA sh' ep K (dA v J fo)⟩]) F (λe he=>by rw[cD] at he;subst he;exact .head _)
  (WX.exp (hs:=[]) (D₀:=360) (dh:=400) (by decide) (by decide) (bg _) (Fp.re [0] rfl rfl rfl) aE (post:=λx l'=>x=.ref (fo+158)/\l'=[⟨n+158,aA sh' ep K (dA v J fo)⟩]) 0 20 160 [0] (λU U U U=>.ref (fo+158)) (λU U U U=>[⟨n+158,aA sh' ep K (dA v J fo)⟩])
   (λn' t g rs OI=>by obtain rfl:=dI.mp OI;exact Oj w n ep K v n' t g J fo sh' h4) λU U U U U=>⟨rfl,rfl⟩) λx l' ⟨hx,OE⟩=>⟨λe he=>OE▸he,?_⟩
 subst hx;refine WX.of ?_ (λe he=>fJ _ he);refine WX.ro (l:=[⟨n+158,aA sh' ep K (dA v J fo)⟩]++pL D M n++[⟨J+158,aa xs e1⟩]) F (λe he=>?_) (WX.exp (hs:=hs) (D₀:=360) (dh:=400) (by decide) (by decide) (bg _) (Fp.re [0,4,18,12,19,1] rfl rfl rfl) hh
  (post:=λx l'=>∃a,x=.ref (a+158)/\l'=[⟨n+158,aA sh' ep K (dA v J fo)⟩]++pL D M n++[⟨J+158,aa xs e1⟩,⟨a+158,aa ys e1⟩]) 0 200 orc [0,1,2,3,4,5,7] (λn' U U U=>.ref (n'+159)) (λn' U U U=>[⟨n+158,aA sh' ep K (dA v J fo)⟩]++pL D M n++[⟨J+158,aa xs e1⟩,⟨n'+159,aa ys e1⟩])
  (λn' t g rs OI=>by obtain rfl:=dI.mp OI;exact OG n' t g) λn' U U U U=>⟨n'+1,rfl,rfl⟩) λx l' ⟨a,hx,OE⟩=>⟨λe he=>?_,λA s hA hT hS=>?_,rfl,λe he=>fJ _ he⟩
 .have:e∈[0,4,18,12,19,1].map (jj (⟨n+158,aA sh' ep K (dA v J fo)⟩::⟨J+158,aa xs e1⟩::⟨fo+158,aa ys e1⟩::ei D M Z n j)):=he;obtain⟨i,hi,rfl⟩:=cT.mp this;have:=g7 (L:=(⟨n+158,aA sh' ep K (dA v J fo)⟩::⟨J+158,aa xs e1⟩::⟨fo+158,aa ys e1⟩::ei D M Z n j)) (fG (N:=20) (l:=[0,4,18,12,19,1]) rfl i hi);exact gO (as:=⟨n+158,aA sh' ep K (dA v J fo)⟩::⟨J+158,aa xs e1⟩::⟨fo+158,aa ys e1⟩::ei D M Z n j) R this
 .subst OE;rcases dk.mp he with he|he
  .exact gO _ he
  .rw[cD] at he;subst he;simp
 .subst hx OE;have g1:=hS ⟨fo+158,aa ys e1⟩ (by simp);have g2:=hS ⟨a+158,aa ys e1⟩ (by simp);refine D8 (Nat.lt_of_le_of_lt hA.un (by decide)) g1 g2 rfl λi hi OJ=>?_;obtain⟨z,t,h⟩:=OH ys[i] (List.getElem_mem _);exact⟨z,t,t,h,h⟩
theorem Er:∀(h4:jw sh'=true) {ep al fo e1 kn ak ek ea K v R xs ys pk pa pk' J} (hv:kf v kn ak) (hk:pk.length<=100) (ha:pa.length<=100)
  (OH:(∃p y1,xs=[D.fW p]/\ys=[y1]/\e1=1/\pk'=pk++[fP D j]/\J=pa++[fP D p])\/∃p q y1 y2,xs=[D.fW p,D.fW q]/\ys=[y1,y2]/\e1=2/\pk=pk'/\J=pa++[fP D p,fP D q])
  (F:aj (⟨n+158,aA sh' ep K (dA v al fo)⟩::⟨al+158,aa xs e1⟩::⟨fo+158,aa ys e1⟩::(ei D M Z n j++([⟨kn+158,aa (am pk) ek⟩,⟨ak+158,aa (am pa) ea⟩]++R)))),WX w 360 (execs ((dg w).drop 4) (aU w n)) (⟨n+158,aA sh' ep K (dA v al fo)⟩::⟨al+158,aa xs e1⟩::⟨fo+158,aa ys e1⟩::(ei D M Z n j++([⟨kn+158,aa (am pk) ek⟩,⟨ak+158,aa (am pa) ea⟩]++R)))
   (λf L'=>f=.next/\aj L'/\∃OF OE,L'=[⟨kn+158,aa (am pk') OF⟩,⟨ak+158,aa (am J) OE⟩]++(⟨n+158,aA sh' ep K (dA v al fo)⟩::(ei D M Z n j++R))):=by
 ext w D M Z n j sh';intro h4;ext ep al fo e1 kn ak ek ea K v R xs:0;ext ys pk pa pk' J:0;intro hv hk ha OH F;have e3:aD (aD (dA v al fo) 0 (.ref (kn+158))) 3 (.ref (ak+158))=dA v al fo:=by
  have e0:aD (dA v al fo) 0 (.ref (kn+158))=dA v al fo:=cP hv.k;rw[e0];exact cP hv.a
 have OI:1000<=sizeLine:=by decide
 have OG:∀{nh orc eka eaa pk' J},(∀n' t g r,ay (vL w 360 400 [c8 4 (kn+158) (am pk) ek (.int (D.X j:Int)),si 5 3 (am pa)]) 100 default .base (a9 ((dg w).drop 4) (aU w n)) orc [⟨n+158,aA sh' ep K (dA v al fo)⟩,⟨n+167,af (some (D.fW j))⟩,⟨fo+158,aa ys e1⟩,⟨al+158,aa xs e1⟩,⟨kn+158,aa (am pk) ek⟩,⟨ak+158,aa (am pa) ea⟩] n' t g (bO r 0 nh) [0,1,4,5] (.fin (.done .next)) (([⟨n+158,aA sh' ep K (dA v al fo)⟩,⟨n+167,af (some (D.fW j))⟩,⟨kn+158,aa (am pk') eka⟩,⟨ak+158,aa (am J) eaa⟩]:List ad).map some) [])->
   WX w 360 (execs ((dg w).drop 4) (aU w n)) (⟨n+158,aA sh' ep K (dA v al fo)⟩::⟨al+158,aa xs e1⟩::⟨fo+158,aa ys e1⟩::(ei D M Z n j++([⟨kn+158,aa (am pk) ek⟩,⟨ak+158,aa (am pa) ea⟩]++R)))
   (λf L'=>f=.next/\aj L'/\∃OF OE,L'=[⟨kn+158,aa (am pk') OF⟩,⟨ak+158,aa (am J) OE⟩]++(⟨n+158,aA sh' ep K (dA v al fo)⟩::(ei D M Z n j++R))):=λ{nh orc eka eaa pk' J} h=>
  WX.stmS (D₀:=360) (dh:=400) (by decide) (by decide) (bg _) F (ah (eK (by simp only[am,lQ];exact(au (ax hk OI)))) (ah (wA (by simp only[am,lQ];exact(au ha))) aE)) [0,10,2,1,20,21] rfl rfl nh 100 orc [0,1,4,5] rfl (λU U U U=>.next) (λU U U U U=>[⟨n+158,aA sh' ep K (dA v al fo)⟩,⟨n+167,af (some (D.fW j))⟩,⟨kn+158,aa (am pk') eka⟩,⟨ak+158,aa (am J) eaa⟩]) h
   λU U U U U=>⟨[⟨kn+158,aa (am pk') eka⟩,⟨ak+158,aa (am J) eaa⟩]++(⟨n+158,aA sh' ep K (dA v al fo)⟩::(ei D M Z n j++R)),wV [2,3,0,4,5,6,7,8,9,10,1,11,12,13,14,15,16,17,18,19] rfl rfl (by kernel_rfl),λF=>⟨rfl,F,_,_,rfl⟩⟩
 rcases OH with⟨p,y1,rfl,rfl,rfl,rfl,rfl⟩|⟨p,q,y1,y2,rfl,rfl,rfl,rfl,rfl⟩
 .refine OG (eka:=ek+1) (eaa:=ea+1) (nh:=2) (orc:=Cr) λn' t g r=>?_;have z:=Ol D n j p ep K v n' t g al fo kn ak pk pa ek ea y1 (r 0) (r 1) sh' h4 w;rw[e3,List.concat_eq_append] at z;rw[mN,mN];exact z
 .refine OG (eka:=ek) (eaa:=ea+1) (nh:=1) (orc:=Cs) λn' t g r=>?_;have z:=Om D n j p q ep K v n' t g al fo kn ak pk pa ek ea y1 y2 (r 0) sh' h4 w;rw[e3] at z;rw[mN];exact z
end
def pP (D:KD) (Z:KT) (j:Nat) (pk:List (Int×Nat)):List (Int×Nat):=match(pO D Z j).length with
 |1=>pk++[fP D j]
 |_=>pk
def oI (D:KD) (Z:KT) (j:Nat) (pa:List (Int×Nat)):List (Int×Nat):=pa++(pO D Z j).map (fP D)
section
variable {w:World} {D:KD} {M:KN} {Z:KT} {m:Nat} {sL rL:Nat->List Nat} (Q:cu D M Z m sL rL) {n j:Nat} (hj:j<8) {sh sh':cc} {T:List ad} {TP:List ad->Prop} {ts:List an}
include Q hj
theorem cu.alks:∀(hd:Z.T<D.St (D.X j)),(bb D Z j (bY j Z.c)=true/\bb D Z j (bG j Z.c)=true/\pO D Z j=[bY j Z.c,bG j Z.c])\/(bb D Z j (bY j Z.c)=true/\bb D Z j (bG j Z.c)=false/\pO D Z j=[bY j Z.c])\/(bb D Z j (bY j Z.c)=false/\bb D Z j (bG j Z.c)=true/\pO D Z j=[bG j Z.c]):=by
 revert D M Z m sL rL j;ext D M Z m sL rL:0;intro Q;ext j:0;intro hj hd;obtain⟨x, -, -, -, -,J,h6⟩:=Q.w5 hj hd;have ha:∀{b1 b2},bb D Z j (bY j Z.c)=b1->bb D Z j (bG j Z.c)=b2->pO D Z j=(match b1 with|true=>[bY j Z.c]|false=>[])++match b2 with|true=>[bG j Z.c]|false=>[]:=λ{b1 b2} h1 h2=>by
  cases b1<;>cases b2<;>simp[pO,List.filter,h1,h2]
 cases x with
 |b=>exact .inr (.inl ⟨J,h6,ha J h6⟩)
 |c=>exact .inr (.inl ⟨J,h6,ha J h6⟩)
 |a=>exact .inl ⟨J,h6,ha J h6⟩
 |_=>exact .inr (.inr ⟨J,h6,ha J h6⟩)
theorem Es:∀(hd:Z.T<D.St (D.X j)) (h4:jw sh'=true) (hK:iM w D M Z ts n sh sh' T TP) {ep kn ak ek ea K v R pk pa} (hv:kf v kn ak) (hk:pk.length<=100) (ha:pa.length<=100)
  (F:aj (gN (aA sh ep K v) n kn ak pk pa ek ea++(ei D M Z n j++(T++(cO M.L ts M.eL++R))))),WX w 360 (execs (dg w) (aU w n)) (gN (aA sh ep K v) n kn ak pk pa ek ea++(ei D M Z n j++(T++(cO M.L ts M.eL++R))))
   (λf L'=>f=.next/\aj L'/\∃T' J K' v' OF OE,TP T'/\kf v' kn ak/\L'=gN (aA sh' J K' v') n kn ak (pP D Z j pk) (oI D Z j pa) OF OE++(ei D M Z n j++(T'++(cO M.L ts M.eL++R)))):=by
 revert w D M Z m sL rL n j sh sh' T TP ts;ext w D M Z m sL rL:0;intro Q;ext n j:0;intro hj;ext sh sh' T TP ts:0;intro hd h4 hK;ext ep kn ak ek ea K v R pk pa:0;intro hv hk ha F;have OG:∀{p k},p<8->ai w 400 (eA k (λi=>(D.X i:Int)) (λi=>D.tX i+1) (D.X p:Int) p):=λ{p k} hp=>sm hp rfl λi hi e=>by
  have:=Q.O.inj (Nat.lt_trans hi hp) hp (by exact_mod_cast e);exact lf (ax hi (ii this))
 have hg:∀{p k},p<8->ai w 400 (bd k M.fN p):=λhp=>bK hp;obtain⟨p1,p2, -,p4,p5,p6,p7⟩:=iZ j hj Z.c Q.hc;have OH:∀k,∃z t,M.fN k=.str z t:=λk=>⟨_,_,rfl⟩;have go:∀{xs ys e1 hs orc},Ae D (bb D Z j (bY j Z.c)) (bb D Z j (bG j Z.c)) (bY j Z.c) (bG j Z.c)=xs->mm M (bb D Z j (bY j Z.c)) (bb D Z j (bG j Z.c)) (bY j Z.c) (bG j Z.c)=ys->wJ (bb D Z j (bY j Z.c)) (bb D Z j (bG j Z.c))=e1->
   (∀f∈hs,ai w 400 f)->(∀y∈ys,∃z t,y=.str z t)->
   (∀J K' v' al fo n' t g,ay (vL w 360 400 hs) 200 default .base (fM (gT (gM w)) (aU w n)) orc ([⟨n+158,aA sh' J K' (dA v' al fo)⟩]++pL D M n++[⟨al+158,aa xs e1⟩]) n' t g [] [0,1,2,3,4,5,7]
    (.fin (.done (.ret (.ref (n'+159))))) (([⟨n+158,aA sh' J K' (dA v' al fo)⟩]++pL D M n++[⟨al+158,aa xs e1⟩,⟨n'+159,aa ys e1⟩]:List ad).map some) [])->
   ((∃p y1,xs=[D.fW p]/\ys=[y1]/\e1=1/\pP D Z j pk=pk++[fP D j]/\oI D Z j pa=pa++[fP D p])\/∃p q y1 y2,xs=[D.fW p,D.fW q]/\ys=[y1,y2]/\e1=2/\pk=pP D Z j pk/\oI D Z j pa=pa++[fP D p,fP D q])->
   WX w 360 (execs (dg w) (aU w n)) (gN (aA sh ep K v) n kn ak pk pa ek ea++(ei D M Z n j++(T++(cO M.L ts M.eL++R))))
    (λf L'=>f=.next/\aj L'/\∃T' J K' v' OF OE,TP T'/\kf v' kn ak/\L'=gN (aA sh' J K' v') n kn ak (pP D Z j pk) (oI D Z j pa) OF OE++(ei D M Z n j++(T'++(cO M.L ts M.eL++R)))):=λ{xs ys e1 hs orc} hx hy he hh OL OK OM=>by
  rw[CD];refine WX.app ?_;refine WX.re [[⟨n+158,aA sh ep K v⟩],[⟨kn+158,aa (am pk) ek⟩,⟨ak+158,aa (am pa) ea⟩],Cl D M Z n j,[D.lW,D.lSO,D.lS (D.X j),D.lR,D.lSt,D.lWd],[⟨n+168,af (some (.ref (M.aN+158)))⟩,M.lN],T,cO M.L ts M.eL,R] (.r [0,1,2,3,4,5,6,7]) (.p (.p (.p (.p (.p (.s 5) (.s 0)) (.s 2)) (.s 3)) (.s 6)) (.r [1,4,7])) rfl F λF2=>?_;have OI:=hK j hj hd ep K v F2.left;unfold lF at OI;rw[hx,hy,he] at OI;refine WX.fr0 F2 OI (Ln λT' J K' x al fo hT Fl=>⟨Fl,λF3=>⟨rfl,?_⟩⟩);have OJ:kf (aD v 4 x) kn ak:=⟨hv.k,hv.a⟩;refine WX.re [T',[⟨n+158,aA sh' J K' (dA (aD v 4 x) al fo)⟩],Cl D M Z n j,[D.lW,D.lSO,D.lS (D.X j),D.lR,D.lSt,D.lWd],cO M.L ts M.eL,[⟨al+158,aa xs e1⟩,⟨fo+158,aa ys e1⟩],[⟨kn+158,aa (am pk) ek⟩,⟨ak+158,aa (am pa) ea⟩],[⟨n+168,af (some (.ref (M.aN+158)))⟩,M.lN],R] (.p (.p (.p (.p (.p (.p (.s 0) (.s 1)) (.s 2)) (.s 3)) (.s 4)) (.s 5)) (.r [6,7,8])) (.r [1,5,2,3,7,6,0,4,8]) rfl F3 λF5=>?_;refine WX.app ((Ep h4 hh OL (OK J K' (aD v 4 x) al fo) F5).mono (Mz ⟨rfl,?_⟩));exact(Er h4 OJ hk ha OM F5).out (CB λOF OE Fl=>⟨Fl,_,AT.perm [[⟨kn+158,aa (am (pP D Z j pk)) OF⟩,⟨ak+158,aa (am (oI D Z j pa)) OE⟩],[⟨n+158,aA sh' J K' (dA (aD v 4 x) al fo)⟩],ei D M Z n j++(T'++(cO M.L ts M.eL++R))] (.r [0,1,2]) (.r [1,0,2]) rfl,λF=>⟨rfl,F,T',J,K',dA (aD v 4 x) al fo,OF,OE,hT,⟨OJ.k,OJ.a⟩,rfl⟩⟩)
 rcases Q.alks hj hd with⟨e1,e2,e3⟩|⟨e1,e2,e3⟩|⟨e1,e2,e3⟩
 .refine go (by rw[e1,e2];rfl) (by rw[e1,e2];rfl) (by rw[e1,e2];rfl) (ah (OG p4) (ah (hg p4) (ah (OG p5) (ah (hg p5) aE)))) (mS.mpr ⟨OH _,i5.mpr (OH _)⟩) (λJ K' v' al fo n' t g=>M7 D M n _ _ J K' v' n' t g al fo sh' h4 w) (.inr ⟨_,_,_,_,rfl,rfl,rfl,?_,?_⟩)
  .unfold pP;rw[e3];rfl
  .unfold oI;rw[e3];rfl
 .refine go (by rw[e1,e2];rfl) (by rw[e1,e2];rfl) (by rw[e1,e2];rfl) (ah (OG p4) (ah (hg p4) aE)) (i5.mpr (OH _)) (λJ K' v' al fo n' t g=>JE D M n _ J K' v' n' t g al fo sh' h4 w) (.inl ⟨_,_,rfl,rfl,rfl,?_,?_⟩)
  .unfold pP;rw[e3];rfl
  .unfold oI;rw[e3];rfl
 .refine go (by rw[e1,e2];rfl) (by rw[e1,e2];rfl) (by rw[e1,e2];rfl) (ah (OG p5) (ah (hg p5) aE)) (i5.mpr (OH _)) (λJ K' v' al fo n' t g=>JE D M n _ J K' v' n' t g al fo sh' h4 w) (.inl ⟨_,_,rfl,rfl,rfl,?_,?_⟩)
  .unfold pP;rw[e3];rfl
  .unfold oI;rw[e3];rfl
end
section
variable {w:World} {D:KD} {M:KN} {Z:KT} {m:Nat} {sL rL:Nat->List Nat} (Q:cu D M Z m sL rL) {n j:Nat} (hj:j<8) {sh sh':cc} {T:List ad} {TP:List ad->Prop} {ts:List an}
include Q hj
theorem cu.head:∃c r,rL (D.X j)=c::r/\(c=46↔Z.T<D.St (D.X j)):=by
 have hx:=Q.O.lt hj;have J:=Q.dot _ hx;have h2:=(Q.rOk _ hx).2.2;cases h:rL (D.X j) with
 |nil=>rw[h] at h2;exact bh h2 (by decide)
 |cons c r=>rw[h] at J;exact⟨c,r,rfl,by simpa using J⟩
theorem rC (hc:rL (D.X j)=c0::r) (hb:(c0==46)=b) {pa} (J:eg pa (D.X j:Int)=a):∀f∈rB D j c0 b pa a,ai w 400 f:=by
 have hx:=Q.O.lt hj;refine ah (bK hx) (ah ?_ (ah (aO ?_) (ah (pK J) aE)))
 .rw[Q.R _ hx,hc];exact wX
 .rw[<-hb];show([c0]==[46])=_;simp
variable {ep kn ak ek ea:Nat} {K:Nat->Int×Nat} {v:Nat->Value} {R:List ad} {pk pa:List (Int×Nat)} (hv:kf v kn ak) (F:aj (gN (aA sh ep K v) n kn ak pk pa ek ea++(ei D M Z n j++R)))
include hv F
theorem pQ:∀(h:¬Z.T<D.St (D.X j)\/(jw sh=true/\eg pa (D.X j:Int)=true)),WX w 360 (execs [lB w] (aU w n)) (gN (aA sh ep K v) n kn ak pk pa ek ea++(ei D M Z n j++R)) (λf L'=>f=.next/\L'=gN (aA sh ep K v) n kn ak pk pa ek ea++(ei D M Z n j++R)):=by
 revert w D M Z m sL rL n j sh ep kn ak ek ea K v R pk pa;ext w D M Z m sL rL:0;intro Q;ext n j:0;intro hj;ext sh ep kn ak ek ea K v R pk pa:0;intro hv F h;obtain⟨c0,r,hc,hd⟩:=Q.head hj;have Fp:aj (gN (aA sh ep K v) n kn ak pk pa ek ea++ei D M Z n j):=by rw[<-i6] at F;exact F.left
 have OJ:∀{e ix},fQ 20 ix=true->e∈ix.map (jj (gN (aA sh ep K v) n kn ak pk pa ek ea++ei D M Z n j))->e∈gN (aA sh ep K v) n kn ak pk pa ek ea++(ei D M Z n j++R):=λ{e ix} hb J=>by
  obtain⟨i,hi,rfl⟩:=cT.mp J;rw[<-i6];exact gO R (g7 (L:=gN (aA sh ep K v) n kn ak pk pa ek ea++ei D M Z n j) (fG (N:=20) hb i hi))
 refine WX.cut (post:=λf L'=>f=.next/\∀e∈gN (aA sh ep K v) n kn ak pk pa ek ea++(ei D M Z n j++R),e∈L') ?_ λf l' OF=>by obtain⟨h1,h2⟩:=OF;exact⟨_,h2,h1,rfl⟩
 by_cases OE:Z.T<D.St (D.X j)
 .obtain⟨h4,ha⟩:=h.resolve_left λq=>q OE;have e3:aD v 3 (.ref (ak+158))=v:=cP hv.a;refine WX.ro (l:=[⟨n+158,aA sh ep K v⟩]++lD D n j++[⟨ak+158,aa (am pa) ea⟩]) F (λe J=>OJ (ix:=[0,6,10,15,2]) rfl J)
   (WX.stm (hs:=λU=>rB D j c0 true pa true) (D₀:=360) (dh:=400) (by decide) (by decide) (bg _) (Fp.re [0,6,10,15,2] rfl rfl rfl) (λU U=>rC Q hj hc (by simp[hd.mpr OE]) ha)
    (post:=λf l'=>f=.next/\l'=[⟨n+158,aA sh ep K v⟩]++lD D n j++[⟨ak+158,aa (am pa) ea⟩]) 1 100 0x4290a4280a200c02004a328ca3288a1 [0,1,2,3,4] (λU U U U=>.next) (λU U U U=>[⟨n+158,aA sh ep K v⟩]++lD D n j++[⟨ak+158,aa (am pa) ea⟩]) (λn' t g rs OI=>?_) λU U U U U U U U=>⟨rfl,rfl⟩)
   λf l' OG=>by obtain⟨h1,h2⟩:=OG;exact⟨λe J=>h2▸J,h1,λe J=>fJ _ J⟩
  obtain⟨ρ,rfl⟩:=gR OI;have z:=Oo D n j ep K v n' t g ak pa ea c0 ρ sh h4 w;rw[e3] at z;exact z
 .refine WX.ro (l:=[⟨n+158,aA sh ep K v⟩]++lD D n j) F (λe J=>OJ (ix:=[0,6,10,15]) rfl J)
   (WX.stm (hs:=λU=>rB D j c0 false [] false) (D₀:=360) (dh:=400) (by decide) (by decide) (bg _) (Fp.re [0,6,10,15] rfl rfl rfl) ?_
    (post:=λf l'=>f=.next/\l'=[⟨n+158,aA sh ep K v⟩]++lD D n j) 1 100 0xc02004a328ca3288a1 [0,1,2,3] (λU U U U=>.next) (λU U U U=>[⟨n+158,aA sh ep K v⟩]++lD D n j) (λn' t g rs OI=>?_) λU U U U U U U U=>⟨rfl,rfl⟩)
   λf l' OH=>by obtain⟨h1,h2⟩:=OH;exact⟨λe J=>h2▸J,h1,λe J=>fJ _ J⟩
  .exact λU U=>rC Q hj hc (by simpa using λe=>OE (hd.mp e)) rfl
  .obtain⟨ρ,rfl⟩:=gR OI;exact Op D n j n' t g _ [] c0 ρ w
omit F in
theorem wY:∀{R} (hd:Z.T<D.St (D.X j)) (h5:Ct sh=true) (h4:jw sh'=true) (hK:iM w D M Z ts n sh sh' T TP) (hk:pk.length<=100) (ha:pa.length<=100) (OE:eg pa (D.X j:Int)=false)
  (F:aj (gN (aA sh ep K v) n kn ak pk pa ek ea++(ei D M Z n j++(T++(cO M.L ts M.eL++R))))),WX w 360 (execs [lB w] (aU w n)) (gN (aA sh ep K v) n kn ak pk pa ek ea++(ei D M Z n j++(T++(cO M.L ts M.eL++R))))
   (λf L'=>f=.next/\aj L'/\∃T' OH K' v' OG OF,TP T'/\kf v' kn ak/\L'=gN (aA sh' OH K' v') n kn ak (pP D Z j pk) (oI D Z j pa) OG OF++(ei D M Z n j++(T'++(cO M.L ts M.eL++R)))):=by
 revert w D M Z m sL rL n j sh sh' T TP ts ep kn ak ek ea K v pk pa;ext w D M Z m sL rL:0;intro Q;ext n j:0;intro hj;ext sh sh' T TP ts ep kn ak ek ea K v:0;ext pk pa:0;intro hv;ext R:0;intro hd h5 h4 hK hk ha OE F;obtain⟨c0,r,hc,OI⟩:=Q.head hj;have Fp:aj (gN (aA sh ep K v) n kn ak pk pa ek ea++ei D M Z n j):=by rw[<-i6] at F;exact F.left
 have e3:aD v 3 (.ref (ak+158))=v:=cP hv.a;refine WX.ifT (Hq _) ?_;refine WX.cut (post:=λb L'=>b=true/\∀e∈gN (aA sh ep K v) n kn ak pk pa ek ea++(ei D M Z n j++(T++(cO M.L ts M.eL++R))),e∈L')
  (WX.ro (l:=[⟨n+158,aA sh ep K v⟩]++lD D n j++[⟨ak+158,aa (am pa) ea⟩]) F (λe he=>?_)
   (WX.tst (hs:=rB D j c0 true pa false) (D₀:=360) (dh:=400) (by decide) (by decide) (bg _) (Fp.re [0,6,10,15,2] rfl rfl rfl) (rC Q hj hc (by simp[OI.mpr hd]) OE)
    (post:=λb l'=>b=true/\l'=[⟨n+158,aA sh ep K v⟩]++lD D n j++[⟨ak+158,aa (am pa) ea⟩]) 1 100 0x4290a4280a200c02004a328ca3288a1 [0,1,2,3,4] true (λU U U U=>[⟨n+158,aA sh ep K v⟩]++lD D n j++[⟨ak+158,aa (am pa) ea⟩]) (λn' t g rs OJ=>?_) λU U U U U=>⟨rfl,rfl⟩)
   λf l' J=>by obtain⟨h1,h2⟩:=J;exact⟨λe he=>h2▸he,h1,λe he=>fJ _ he⟩) λb l' ⟨h1,h2⟩=>⟨_,h2,?_⟩
 .have:e∈[0,6,10,15,2].map (jj (gN (aA sh ep K v) n kn ak pk pa ek ea++ei D M Z n j)):=he;obtain⟨i,hi,rfl⟩:=cT.mp this;rw[<-i6];exact gO _ (g7 (L:=gN (aA sh ep K v) n kn ak pk pa ek ea++ei D M Z n j) (fG (N:=20) (l:=[0,6,10,15,2]) rfl i hi))
 .obtain⟨ρ,rfl⟩:=gR OJ;have z:=On D n j ep K v n' t g ak pa ea c0 ρ sh h5 w;rw[e3] at z;exact z
 .subst h1;exact Es Q hj hd h4 hK hv hk ha F
end
def lH (D:KD) (Z:KT) (j:Nat):Bool:=decide (Z.T<D.St (D.X j))&& !(bb D Z j (dw j Z.c))
theorem n7 (x):∀l,eg l x=true↔ ∃p∈l,p.1=x
 |[]=>by simp[eg]
 |p::r=>by
  dsimp only[eg];have:=n7 x r;cases h:tU p.1 x with
  |true=>
   rw[qi,beq_iff_eq] at h;simp[h]
  |false=>
   rw[qi,eY] at h;simp[h,this]
structure pR (D:KD) (Z:KT) (i:Nat) (pa:List (Int×Nat)):Prop where
 asked:∀k<8,eg pa (D.X k:Int)=true↔ ∃j<i,Z.T<D.St (D.X j)/\k∈pO D Z j
 len:pa.length<=2*i
def dD (D:KD) (Z:KT) (i:Nat):List (Int×Nat):=((List.range i).filter (lH D Z)).map (fP D)
section
variable {D:KD} {M:KN} {Z:KT} {m:Nat} {sL rL:Nat->List Nat} (Q:cu D M Z m sL rL)
include Q
theorem cu.mem_alk:∀{j k} (hj:j<8),k∈pO D Z j↔(k=j\/k=dw j Z.c)/\bb D Z j k=true:=by
 ext D M Z m sL rL;intro Q;ext j k:0;intro hj;obtain⟨p1,p2, -,p4,p5,p6,J⟩:=iZ j hj Z.c Q.hc;unfold pO;rw[List.mem_filter];refine and_congr ?_ Iff.rfl;simp only[aY,bS,bT];rcases J with⟨a,b⟩|⟨a,b⟩<;>rw[a,b];exact or_comm
theorem cu.alike_sym (hd:Z.T<D.St (D.X j)) (h:bb D Z j k=true):Z.T<D.St (D.X k)/\bb D Z k j=true:=by
 unfold bb at h|-;simp only[mU,beq_iff_eq,oC] at h|-;exact⟨h.2,h.1.symm,hd⟩
theorem cu.step_ask:∀{j} (hj:j<8) (hd:Z.T<D.St (D.X j)) {pa} (I:pR D Z j pa) pk0,pP D Z j (pk0++dD D Z j)=pk0++dD D Z (j+1)/\pR D Z (j+1) (oI D Z j pa):=by
 ext D M Z m sL rL;intro Q;ext j:0;intro hj hd;ext pa:0;intro I;ext pk0:0;obtain⟨p1,p2,p3,p4,p5,p6,p7⟩:=iZ j hj Z.c Q.hc;have J:=Q.alike_self hd;have OE:=Q.alks hj hd;have OG:(pO D Z j).length<=2:=by rcases OE with⟨-, -,h⟩|⟨-, -,h⟩|⟨-, -,h⟩<;>rw[h]<;>simp
 refine⟨?_,λk hk=>?_,?_⟩
 .have e:dD D Z (j+1)=dD D Z j++(match lH D Z j with|true=>[fP D j]|false=>[]):=by
   unfold dD;rw[List.range_succ,List.filter_append,k6];cases h:lH D Z j<;>simp[List.filter,h]
  rw[e];have hs:lH D Z j= !(bb D Z j (dw j Z.c)):=by unfold lH;rw[jW hd];rfl
  rw[hs];unfold pP;rcases OE with⟨a,b,h⟩|⟨a,b,h⟩|⟨a,b,h⟩<;>rw[h]
  .have:bb D Z j (dw j Z.c)=true:=by
    rcases p7 with⟨x,y⟩|⟨x,y⟩
    .rw[<-y];exact b
    .rw[<-x];exact a
   rw[this];simp
  .have:bb D Z j (dw j Z.c)=false:=by
    rcases p7 with⟨x,y⟩|⟨x,y⟩
    .rw[<-y];exact b
    .rw[y,J] at b;cases b
   rw[this];simp
  .have:bb D Z j (dw j Z.c)=false:=by
    rcases p7 with⟨x,y⟩|⟨x,y⟩
    .rw[x,J] at a;cases a
    .rw[<-x];exact a
   rw[this];simp
 .ext k ⟨hk⟩;rw[n7];have h0:=I.asked k hk;rw[n7] at h0;unfold oI;constructor
  .rintro⟨p,hp,he⟩;rcases dk.mp hp with hp|hp
   .obtain⟨j',h1,h2⟩:=h0.mp ⟨p,hp,he⟩;exact⟨j',by exact j4 h1,h2⟩
   .obtain⟨k',OF,rfl⟩:=cT.mp hp;have OH:k'<8:=by rcases((Q.mem_alk hj).mp OF).1 with q|q<;>lia
    have:k'=k:=Q.O.inj OH hk (by have:(D.X k':Int)=D.X k:=he;exact_mod_cast this);subst this;exact⟨j,by exact bg _,hd,OF⟩
  .rintro⟨j',h1,h2,h3⟩;by_cases e:j'=j
   .subst e;exact⟨fP D k,fJ _ (jv h3),rfl⟩
   .obtain⟨p,hp,he⟩:=h0.mpr ⟨j',by lia,h2,h3⟩;exact⟨p,gO _ hp,he⟩
 .unfold oI;rw[eh,lQ];have:=I.len;exact au (ax OG this)
theorem cu.step_skip:∀{j} (hj:j<8) {pa} (I:pR D Z j pa) (h:¬Z.T<D.St (D.X j)\/eg pa (D.X j:Int)=true),dD D Z (j+1)=dD D Z j/\pR D Z (j+1) pa:=by
 ext D M Z m sL rL;intro Q;ext j:0;intro hj;ext pa:0;intro I h;obtain⟨p1,p2,p3,p4,p5,p6,p7⟩:=iZ j hj Z.c Q.hc;have OE:Z.T<D.St (D.X j)->eg pa (D.X j:Int)=true->bb D Z j (dw j Z.c)=true/\dw j Z.c<j/\Z.T<D.St (D.X (dw j Z.c)):=λhd ha=>by
  obtain⟨J,h1,h2,h3⟩:=(I.asked j hj).mp ha;ext J ⟨h1,h2,h3⟩;have h4:=(Q.mem_alk (Nat.lt_trans h1 hj)).mp h3;have OF:J<8:=Nat.lt_trans h1 hj;obtain⟨q1,q2,q3, -⟩:=iZ J OF Z.c Q.hc;rcases h4.1 with e|e
  .lia
  .have e2:dw j Z.c=J:=by rw[e];exact q3
   rw[e2];exact⟨(Q.alike_sym h2 h4.2).2,h1,h2⟩
 have hs:lH D Z j=false:=by
  unfold lH;rcases h with h|h
  .rw[iS h];rfl
  .by_cases hd:Z.T<D.St (D.X j)
   .rw[(OE hd h).1];simp
   .rw[iS hd];rfl
 refine⟨?_,λk hk=>?_,by have:=I.len;exact j4 this⟩
 .unfold dD;rw[List.range_succ,List.filter_append];simp[List.filter,hs]
 .ext k ⟨hk⟩;rw[I.asked k hk];constructor
  .rintro⟨J,h1,h2⟩;exact⟨J,by exact j4 h1,h2⟩
  .rintro⟨J,h1,h2,h3⟩;ext J ⟨h1,h2,h3⟩;by_cases e:J=j
   .subst e;have ha:=h.resolve_left λq=>q h2;obtain⟨k1,k2,k3⟩:=OE h2 ha;have h4:=(Q.mem_alk hj).mp h3;refine⟨dw J Z.c,k2,k3,(Q.mem_alk p1).mpr ⟨?_,?_⟩⟩
    .rw[p3];exact h4.1.symm
    .unfold bb at k1 h4|-;simp only[mU,beq_iff_eq,oC] at k1 h4|-;exact⟨h4.2.1.trans k1.1.symm,h4.2.2⟩
   .exact⟨J,by lia,h2,h3⟩
end
def kX (D:KD) (M:KN) (Z:KT) (n:Nat):List ad:=[⟨n+159,af (some (.int (Z.T:Int) (Z.tT+1)))⟩,⟨n+160,af (some (.ref (D.aW+158)))⟩,⟨n+161,af (some (.ref (D.aSO+158)))⟩,⟨n+162,af (some (.ref (D.aR+158)))⟩,
 ⟨n+163,af (some (.ref (D.aSt+158)))⟩,⟨n+164,af (some (.ref (D.aWd+158)))⟩,⟨n+165,af (some (.int (Z.c:Int) (Z.tc+1)))⟩,⟨n+169,af (some (.ref (M.L+158)))⟩,D.lW,D.lSO,D.lR,D.lSt,D.lWd,⟨n+168,af (some (.ref (M.aN+158)))⟩,M.lN]
def Aj (D:KD) (j:Nat):List ad:=((List.range 8).filter (· != j)).map λk=>D.lS (D.X k)
theorem Et (D:KD) {j:Nat} (hj:j<8):D.ins.Perm (D.lS (D.X j)::Aj D j):=by
 have h:∀j<8,(List.range 8).isPerm (j::(List.range 8).filter (· != j))=true:=by decide+kernel
 exact(List.isPerm_iff.mp (h j hj)).map λk=>D.lS (D.X k)
def g8 (F:Obj) (D:KD) (M:KN) (Z:KT) (ts:List an) (T R:List ad) (n kn ak:Nat) (pk pa:List (Int×Nat)) (ek ea:Nat) (o:Option Value) (it:List ad):List ad:=
 gN F n kn ak pk pa ek ea++((⟨n+167,af o⟩::it)++(kX D M Z n++(D.ins++(T++(cO M.L ts M.eL++R)))))
def vv (F:Obj) (D:KD) (M:KN) (Z:KT) (ts:List an) (T R:List ad) (n kn ak:Nat) (pk pa:List (Int×Nat)) (ek ea j:Nat) (it:List ad):List ad:=
 gN F n kn ak pk pa ek ea++(ei D M Z n j++(T++(cO M.L ts M.eL++(it++(Aj D j++R)))))
theorem qp {F:Obj} {D:KD} {M:KN} {Z:KT} {ts:List an} {T R:List ad} {n kn ak:Nat} {pk pa:List (Int×Nat)} {ek ea j:Nat} (hj:j<8) {it:List ad}:
  (vv F D M Z ts T R n kn ak pk pa ek ea j it).Perm (g8 F D M Z ts T R n kn ak pk pa ek ea (some (D.fW j)) it):=by
 have J:(g8 F D M Z ts T R n kn ak pk pa ek ea (some (D.fW j)) it).Perm (gN F n kn ak pk pa ek ea++((⟨n+167,af (some (D.fW j))⟩::it)++(kX D M Z n++((D.lS (D.X j)::Aj D j)++(T++(cO M.L ts M.eL++R)))))):=
  (((Et D hj).append_right _).append_left _|>.append_left _).append_left _
 refine List.Perm.trans ?_ J.symm;exact AT.perm [gN F n kn ak pk pa ek ea,[⟨n+167,af (some (D.fW j))⟩],it,(kX D M Z n).take 7,[⟨n+169,af (some (.ref (M.L+158)))⟩],[D.lW,D.lSO],[D.lR,D.lSt,D.lWd,⟨n+168,af (some (.ref (M.aN+158)))⟩,M.lN],[D.lS (D.X j)],Aj D j,T,cO M.L ts M.eL,R]
  (.p (.s 0) (.p (.p (.s 1) (.s 2)) (.p (.r [3,4,5,6]) (.p (.r [7,8]) (.r [9,10,11]))))) (.p (.s 0) (.p (.r [3,1,4,5,7,6]) (.r [9,10,2,8,11]))) (by decide+kernel)
def gh (w:World) (n it:Nat):Code:=.forLoop (ky (Af w)) (.ref (it+158)) [lB w] [] (aU w n)
def su:Expr->Bool
 |.Name .. =>true
 |_=>false
theorem lI (h:su tg=true) (it v):letOwnedTupleGo tg it v=pure ():=by
 cases tg<;>first|rfl|cases h
theorem Ak (w):su (ky (Af w))=true:=by kernel_rfl
theorem Eu (w n it):bq (gh w n it):=ba rfl
def itE (D:KD) (it i:Nat):List ad:=[⟨it+158,aZ (D.aW+158) i⟩]
theorem u0 (w n):CX w 355 (.block [] (aU w n)) [] (λr l'=>r=.ok .next/\l'=[]):=
 CX.run (w:=w) (d:=355) (D:=360) (dh:=400) (hk:=oR []) (bE aE) (by decide) cj (ba rfl) 0 20 0 [] (λU U U U=>.ret (.ok .next)) (λU U U U=>[])
  (λn' t g rs J=>by obtain rfl:=dI.mp J;exact Ot n n' t g w) λU U U U U U U=>⟨rfl,rfl⟩
section
variable {w:World} {D:KD} {M:KN} {Z:KT} {n:Nat}
theorem sv:∀{F ts T R kn ak ek ea pk pa o it i} {post:Result->List ad->Prop} (FL:aj (g8 F D M Z ts T R n kn ak pk pa ek ea o (itE D it i)))
  (hE:i=8->aj (g8 F D M Z ts T R n kn ak pk pa ek ea o [])->post (.ok .next) (g8 F D M Z ts T R n kn ak pk pa ek ea o []))
  (hN:i<8->aj (vv F D M Z ts T R n kn ak pk pa ek ea i (itE D it (i+1)))->WX w 360 (execs [lB w] (aU w n)) (vv F D M Z ts T R n kn ak pk pa ek ea i (itE D it (i+1)))
   λf l3=>f=.next/\CX w 355 (gh w n it) l3 post) (hi:i<=8),CX w 355 (gh w n it) (g8 F D M Z ts T R n kn ak pk pa ek ea o (itE D it i)) post:=by
 revert w D M Z n;ext w D M Z n F ts T R kn:0;ext ak ek ea pk pa o it i post:0;intro FL hE hN hi;refine CX.for_ (Eu _ _ _) (aX rfl) (aX rfl) (λv=>lI (Ak _) _ v) ?_;show WX _ _ _ _ _;refine WX.pk [4,13] rfl rfl FL λF2=>?_;by_cases h8:i=8
 .subst h8;refine WX.nxtE (l:=[⟨it+158,aZ (D.aW+158) 8⟩,D.lW]) (l':=[D.lW]) (hs:=[dG 0 (it+158) 1 (D.aW+158) (ap D.fW) D.eW 8]) (D₀:=360) (dh:=400) (by decide) (by decide) (bg _) F2 (ah (fF (by rfl)) aE) 1 20 170919072 [1] (.cons _ (.refl _)) (λn' t g r=>Or D n' t g it (r 0) w) λF4=>?_;refine CX.pk [1,2,3,4,5,6,7,8,9,10,11,12,0] rfl rfl F4 λF5=>?_;refine CX.fr0 (l:=[]) F5 (u0 w n) ?_;rintro r l' ⟨h1,h2⟩;subst h1 h2;exact⟨cj,hE rfl⟩
 .have J:i<8:=by lia
  refine WX.nxtK (l:=[⟨it+158,aZ (D.aW+158) i⟩,D.lW]) (l':=[⟨it+158,aZ (D.aW+158) (i+1)⟩,D.lW]) (hs:=[az 0 (it+158) 1 (D.aW+158) (ap D.fW) D.eW i (D.fW i)]) (D₀:=360) (dh:=400) (by decide) (by decide) (bg _) F2 (ah (c5 (fz _ J)) aE) 1 20 1184 [0,1] (λU=>D.fW i) rfl (λn' t g r=>Oq D n' t g it i (r 0) w) λU F4=>?_;show WX _ _ _ _ _;refine WX.pk [5] rfl rfl F4 λF5=>?_;refine WX.asgK (l:=[⟨n+167,af o⟩]) (l':=[⟨n+167,af (some (D.fW i))⟩]) (hs:=[]) (D₀:=360) (dh:=400) (by decide) (by decide) (bg _) F5 aE 20 164000 [0] rfl (λn' t g=>Os w D n n' t g o i) λF6=>?_;refine WX.pk [3,4,5,0,1,6,7,8,9,10,11,12,13,2] rfl rfl F6 λF7=>?_;exact WX.as F7 (qp J) λF8=>WX.mono (hN J F8) (My λU h=>h)
end
def jU (D:KD) (M:KN) (Z:KT) (ts:List an) (R:List ad) (n kn ak:Nat) (pk:List (Int×Nat)) (sh:cc) (T:List ad) (L':List ad):Prop:=
 aj L'/\∃o ep K v pa ek ea,kf v kn ak/\L'=g8 (aA sh ep K v) D M Z ts T R n kn ak pk pa ek ea o []
section
variable {w:World} {D:KD} {M:KN} {Z:KT} {m:Nat} {sL rL:Nat->List Nat} (Q:cu D M Z m sL rL) {n:Nat} {ts:List an} {R:List ad} {kn ak it:Nat} {pk0:List (Int×Nat)} (hk0:pk0.length<=20)
include Q hk0
theorem yM (D Z i):(dD D Z i).length<=i:=by
 unfold dD;rw[lQ];have:=List.length_filter_le (lH D Z) (List.range i);rw[List.length_range] at this;exact this
theorem yN:∀{sh T} (h4:∀j<8,Z.T<D.St (D.X j)->jw sh=true) (hK:iM w D M Z ts n sh sh T (·=T)),∀k i,8 - i=k->i<=8->∀o ep K v pa ek ea,kf v kn ak->pR D Z i pa->aj (g8 (aA sh ep K v) D M Z ts T R n kn ak (pk0++dD D Z i) pa ek ea o (itE D it i))->
   CX w 355 (gh w n it) (g8 (aA sh ep K v) D M Z ts T R n kn ak (pk0++dD D Z i) pa ek ea o (itE D it i)) (λr L'=>r=.ok .next/\jU D M Z ts R n kn ak (pk0++dD D Z 8) sh T L'):=by
 revert w D M Z m sL rL n ts R kn ak it pk0;ext w D M Z m sL rL:0;intro Q;ext n ts R kn ak it pk0:0;intro hk0;ext sh T:0;intro h4 hK;intro k;induction k with
 |zero=>
  intro i hk hi o ep K v pa ek ea hv I F;ext i o ep K v pa ek ea ⟨hk,hi,hv,I,F⟩;obtain rfl:i=8:=by lia
  exact sv F (λU F2=>⟨rfl,F2,o,ep,K,v,pa,ek,ea,hv,rfl⟩) (λh=>bh h (by decide)) hi
 |succ k ih=>
  ext k ⟨ih⟩;intro i hk hi o ep K v pa ek ea hv I F;ext i o ep K v pa ek ea ⟨hk,hi,hv,I,F⟩;have J:i<8:=i7 hk;have OJ:(pk0++dD D Z i).length<=100:=by rw[eh];have:=yM Q hk0 D Z i;exact au (ax hk0 (ax J this))
  have OK:=I.len;refine sv F (λh=>bh h ((ld (au J)))) (λU F2=>?_) hi;have go:∀{ep K v OE ek ea} {L'},kf v kn ak->pR D Z (i+1) OE->aj L'->L'=vv (aA sh ep K v) D M Z ts T R n kn ak (pk0++dD D Z (i+1)) OE ek ea i (itE D it (i+1))->
    CX w 355 (gh w n it) L' (λr L'=>r=.ok .next/\jU D M Z ts R n kn ak (pk0++dD D Z 8) sh T L'):=λ{ep K v OE ek ea L'} hv I F3 e=>by
   subst e;exact CX.as F3 (qp J).symm λF4=>ih (i+1) (ke hk) (by assumption) _ _ _ _ _ _ _ hv I F4
  by_cases hd:Z.T<D.St (D.X i)
  .cases ha:eg pa (D.X i:Int) with
   |false=>
    obtain⟨e1,I2⟩:=Q.step_ask J hd I pk0;have OF:=h4 i J hd;have h5:Ct sh=true:=by cases sh<;>first|rfl|exact bh OF (by decide)
    refine(wY Q J hv hd h5 OF hK OJ ((au (ax J (ax J OK)))) ha F2).mono λf L' OG=>?_;obtain⟨hf,F3,T',OO,K',v',ON,OM,hT,OL,hL⟩:=OG;refine⟨hf,?_⟩;subst hT;exact go OL I2 F3 (by rw[hL,e1];rfl)
   |true=>
    obtain⟨e1,I2⟩:=Q.step_skip J I (.inr ha);refine(pQ Q J hv F2 (.inr ⟨h4 i J hd,ha⟩)).mono λf L' OH=>?_;obtain⟨hf,hL⟩:=OH;refine⟨hf,?_⟩;exact go hv I2 (hL▸F2) (by rw[hL,e1];rfl)
  .obtain⟨e1,I2⟩:=Q.step_skip J I (.inl hd);refine(pQ Q J hv F2 (.inl hd)).mono λf L' OI=>?_;obtain⟨hf,hL⟩:=OI;refine⟨hf,?_⟩;exact go hv I2 (hL▸F2) (by rw[hL,e1];rfl)
theorem Ev:∀{sh sh' T} {TP:List ad->Prop} (h5:Ct sh=true) (h4:jw sh'=true) (hK:iM w D M Z ts n sh sh' T TP) (OH:∀T',TP T'->iM w D M Z ts n sh' sh' T' (·=T')),∀k i,8 - i=k->i<=8->(∀j<i,¬Z.T<D.St (D.X j))->∀o ep K v ek ea,kf v kn ak->aj (g8 (aA sh ep K v) D M Z ts T R n kn ak (pk0++dD D Z i) [] ek ea o (itE D it i))->
   CX w 355 (gh w n it) (g8 (aA sh ep K v) D M Z ts T R n kn ak (pk0++dD D Z i) [] ek ea o (itE D it i))
    (λr L'=>r=.ok .next/\(((∀j<8,¬Z.T<D.St (D.X j))/\jU D M Z ts R n kn ak (pk0++dD D Z 8) sh T L')\/((∃j<8,Z.T<D.St (D.X j))/\∃T',TP T'/\jU D M Z ts R n kn ak (pk0++dD D Z 8) sh' T' L'))):=by
 revert w D M Z m sL rL n ts R kn ak it pk0;ext w D M Z m sL rL:0;intro Q;ext n ts R kn ak it pk0:0;intro hk0;ext sh sh' T TP:0;intro h5 h4 hK OH;intro k;induction k with
 |zero=>
  intro i hk hi OE o ep K v ek ea hv F;ext i o ep K v ek ea ⟨hk,hi,OE,hv,F⟩;obtain rfl:i=8:=by lia
  exact sv F (λU F2=>⟨rfl,.inl ⟨OE,F2,o,ep,K,v,[],ek,ea,hv,rfl⟩⟩) (λh=>bh h (by simp+arith)) hi
 |succ k ih=>
  ext k ⟨ih⟩;intro i hk hi OE o ep K v ek ea hv F;ext i o ep K v ek ea ⟨hk,hi,OE,hv,F⟩;have J:i<8:=i7 hk;have OK:(pk0++dD D Z i).length<=100:=by rw[eh];have:=yM Q hk0 D Z i;exact au (ax hk0 (ax J this))
  have I:pR D Z i []:=⟨λk hk=>⟨λh=>by simp[eg] at h,λOF=>by obtain⟨j,h1,h2,_⟩:=OF;exact bh h2 (OE j h1)⟩,iU _⟩;refine sv F (λh=>bh h ((ld (au J)))) (λU F2=>?_) hi;by_cases hd:Z.T<D.St (D.X i)
  .obtain⟨e1,I2⟩:=Q.step_ask J hd I pk0;refine(wY Q J hv hd h5 h4 hK OK (iU _) rfl F2).mono λf L' OI=>?_;obtain⟨hf,F3,T',OO,K',v',ON,OM,hT,OL,hL⟩:=OI;refine⟨hf,?_⟩;rw[e1] at hL;subst hL;exact(CX.as F3 (qp J).symm λF4=>yN Q hk0 (λU U U=>h4) (OH T' hT) k (i+1) (ke hk) (by assumption) _ _ _ _ _ _ _ OL I2 F4).mono λr L' OG=>by obtain⟨h1,h2⟩:=OG;exact⟨h1,.inr ⟨⟨i,J,hd⟩,T',hT,h2⟩⟩
  .obtain⟨e1,I2⟩:=Q.step_skip J I (.inl hd);refine(pQ Q J hv F2 (.inl hd)).mono λf L' OJ=>?_;obtain⟨hf,hL⟩:=OJ;refine⟨hf,?_⟩;subst hL;refine CX.as F2 (qp J).symm λF4=>?_;rw[<-e1] at F4|-;exact ih (i+1) (ke hk) (by assumption) (λj hj=>by
    by_cases e:j=i
    .rw[e];exact hd
    .exact OE j (by lia)) _ _ _ _ _ _ hv F4
end
theorem BX.fr {w d l ch R} {post post2:Flow->List ad->Prop} (F:aj (ch++R)) (hl:∀e∈l,e∈ch\/e∈R) (h:BX w d tr l post)
  (hp:∀x l',post x l'->∃ch' C,(∀e∈ch'++C,e∈l')/\(∀e∈l,e∈ch\/e∈C)/\aj (ch'++C)/\(aj (ch'++R)->post2 x (ch'++R))):BX w d tr (ch++R) post2:=λA s hA T H=>
 dR (h A s hA T λe he=>H e (dk.mpr (hl e he))) (λx s' hx=>by
  cases x with
  |done f=>
   obtain⟨l',J,D⟩:=hx;obtain⟨ch',C,h1,h2,h3,h4⟩:=hp f l' J;obtain⟨F2,D2⟩:=ni F hl H D h1 h2 h3;exact⟨_,h4 F2,D2⟩
  |again c=>exact hx) λU U x=>x
theorem BX.of {w d l l0} {post:Flow->List ad->Prop} (h:BX w d tr l post) (hl:∀e∈l,e∈l0):BX w d tr l0 post:=λA s hA T H=>
 dR (h A s hA T λe J=>H e (hl e J)) (λx s' hx=>by
  cases x with
  |done f=>
   obtain⟨l',hp,D⟩:=hx;exact⟨l',hp,D.sub (λa ha=>by
    obtain⟨e,J,rfl⟩:=cT.mp ha;exact fe (hl e J)) λU h=>h⟩
  |again c=>exact hx) λU U x=>x
theorem BX.as {w d} {post:Flow->List ad->Prop} (F:aj L) (h:L2.Perm L) (g:aj L2->BX w d tr L2 post):BX w d tr L post:=
 (g (F.perm h)).of λU he=>h.mem_iff.mp he
section
variable {w:World} {d D₀ dh:Nat} {hs:List aq} (hD:D₀+5<1000) (hh:dh<=950) (hd:d<=D₀) {l ch R:List ad} (F:aj (ch++R)) (hl:∀e∈l,e∈ch\/e∈R) (Fl:aj l) (H:∀f∈hs,ai w dh f)
include hD hh hd F hl Fl H
theorem BX.callF {tr:Sem Fin} {post:Flow->List ad->Prop} (nh J orc:Nat) (ix:List Nat) (OE:Code) (c':Nat->Nat->Nat->List HR->Code) (gd:Bool) (l':Nat->Nat->Nat->List HR->(Nat->Obj)->List ad)
  (OF:∀n t g rs,rs.length=nh->bP (vL w D₀ dh hs) J default .base tr orc l n t g rs ix (.call false OE (c' n t g rs) gd) (λo=>(l' n t g rs o).map some) [])
  (hp:∀n t g rs o,rs.length=nh->(∀a∈aC l,a<n+158)->(∀e∈l' n t g rs o,e.a∈aC l\/n+158<=e.a)->(eD ix=true->aj (l' n t g rs o))->∃ch' C,(∀e∈ch'++C,e∈l' n t g rs o)/\(∀e∈l,e∈ch\/e∈C)/\aj (ch'++C)/\
   (aj (ch'++R)->∃post',CX w d (c' n t g rs) (ch'++R) post'/\∀r l2,post' r l2->BX w d ((bl (vL w D₀ dh hs) J default .base tr orc l n t g rs).kont r) l2 post)):BX w d tr (ch++R) post:=by
 revert hD hh hd F hl Fl H OF hp;ext w d D₀ dh hs l ch R tr post nh J ⟨orc,ix,OE,c',gd,l'⟩;ext orc ix OE c' gd l';intro hD hh hd F hl Fl H OF hp;intro A s hA T Hs;ext A s ⟨hA,T,Hs⟩;have Hl:aQ s l:=λe he=>Hs e (dk.mpr (hl e he));obtain⟨n,t,g,S⟩:=T.st Hl Fl;ext n t g ⟨S⟩;have OH:s.heap.objs.size=n+158:=S.size;have OL:∀a∈aC l,a<n+158:=λa ha=>by rw[<-OH];exact Hl.lt a ha
 refine iW (v:=vL w D₀ dh hs) (B:=λt s1=>wpAny (model pw w) A t (λOG s'=>match OG with|.done f=>∃l',post f l'/\bH w s s' (aC (ch++R)) l'|.again _=>False) (λU U=>False) s1) (bE H hD hh) (hA.mono hd) S (c:=default) (tr:=tr)
  (λm k s h=>ao h) nh J orc ix (λrs=>.call false OE (c' n t g rs) gd) (λrs=>(l' n t g rs (bl (vL w D₀ dh hs) J default .base tr orc l n t g rs).obj).map some) (λU=>[]) (OF n t g) λrs s1 OI D P=>?_
 ext rs s1 ⟨OI,D,P⟩;have D1:bH w s s1 (aC l) (l' n t g rs (bl (vL w D₀ dh hs) J default .base tr orc l n t g rs).obj):=D.aft T;obtain⟨ch',C,h1,h2,h3,h4⟩:=hp n t g rs _ OI OL (λe he=>by rw[<-OH];exact D1.adr e he) (λhx=>⟨by
   have:=P (dZ hx);exact(mT.mp this).imp λh=>h _ _ rfl rfl,λe he=>by
   rcases D1.adr e he with q|q
   .obtain⟨f,hf,OK⟩:=cT.mp q;rw[<-OK];exact Fl.high f hf
   .left;exact(au (ax (ii OH) q))⟩)
 obtain⟨F2,D2⟩:=ni F hl Hs D1 h1 h2 h3;obtain⟨post',z1,z2⟩:=h4 F2;intro l0;refine mz (eG (z1 A s1 hA D2.top D2.has) λr s2 OJ=>?_);obtain⟨l2,OM,D3⟩:=OJ;have z3:=z2 r l2 OM A s2 hA D3.top D3.has;refine dR z3 (λOG s3 x=>?_) λe s3 x=>x;cases OG with
 |done f=>
  obtain⟨l3,ON,D4⟩:=x;exact⟨l3,ON,D2.trans (D3.trans D4)⟩
 |again c2=>exact x.elim
end
theorem BX.pk {w d} {post:Flow->List ad->Prop} (ix) (hn:eD ix=true) (hb:fQ L.length ix=true) (F:aj L) (h:aj (et ix L++lG ix L)->BX w d tr (et ix L++lG ix L) post):BX w d tr L post:=
 BX.as F (jG hn hb) h
section
variable {w:World} {d D₀ dh:Nat} {hs:List aq} (hD:D₀+5<1000) (hh:dh<=950) (hd:d<=D₀) {l R:List ad} (F:aj (l++R)) (H:∀f∈hs,ai w dh f)
include hD hh hd F H
theorem BX.callP {tr:Sem Fin} {post:Flow->List ad->Prop} (nh J orc:Nat) (ix:List Nat) (hx:eD ix=true) (OE:Code) (c':Nat->Nat->Nat->(Nat->HR)->Code) (gd:Bool) (l':Nat->Nat->Nat->(Nat->HR)->(Nat->Obj)->List ad)
  (OG:∀n t g r,bP (vL w D₀ dh hs) J default .base tr orc l n t g (bO r 0 nh) ix (.call false OE (c' n t g r) gd) (λo=>(l' n t g r o).map some) [])
  (hp:∀n t g r o,aj (l' n t g r o++R)->∃post',CX w d (c' n t g r) (l' n t g r o++R) post'/\∀x l2,post' x l2->BX w d ((bl (vL w D₀ dh hs) J default .base tr orc l n t g (bO r 0 nh)).kont x) l2 post):BX w d tr (l++R) post:=
 BX.callF hD hh hd F (l:=l) (λe he=>.inl he) F.left H nh J orc ix OE (λn t g rs=>c' n t g λi=>rs.getD i h0) gd (λn t g rs=>l' n t g λi=>rs.getD i h0) (λn t g rs OF=>by have z:=OG n t g λi=>rs.getD i h0;rwa[c4 OF] at z)
  λn t g rs o OF U U hF=>⟨l' n t g (λi=>rs.getD i h0) o,[],λe he=>by rwa[fT] at he,λe he=>.inl he,by rw[fT];exact hF hx,λF2=>by have z:=hp n t g (λi=>rs.getD i h0) o F2;rwa[c4 OF] at z⟩
theorem BX.runP {tr:Sem Fin} {post:Flow->List ad->Prop} (nh J orc:Nat) (ix:List Nat) (hx:eD ix=true) (f:Nat->Nat->Nat->(Nat->HR)->Flow) (l':Nat->Nat->Nat->(Nat->HR)->(Nat->Obj)->List ad)
  (OF:∀n t g r,bP (vL w D₀ dh hs) J default .base tr orc l n t g (bO r 0 nh) ix (.fin (.done (f n t g r))) (λo=>(l' n t g r o).map some) [])
  (hn:∀n t g r o,aj (l' n t g r o++R)->post (f n t g r) (l' n t g r o++R)):BX w d tr (l++R) post:=by
 intro A s hA T Hs;have Hl:aQ s l:=λe he=>Hs e (gO _ he);have Fl:=F.left;obtain⟨n,t,g,S⟩:=T.st Hl Fl;have OI:s.heap.objs.size=n+158:=S.size;refine iW (v:=vL w D₀ dh hs) (B:=λt s1=>wpAny (model pw w) A t (λOG s'=>match OG with|.done f=>∃l',post f l'/\bH w s s' (aC (l++R)) l'|.again _=>False) (λU U=>False) s1) (bE H hD hh) (hA.mono hd) S (c:=default) (tr:=tr)
  (λm k s h=>ao h) nh J orc ix (λrs=>.fin (.done (f n t g λi=>rs.getD i h0))) (λrs=>(l' n t g (λi=>rs.getD i h0) (bl (vL w D₀ dh hs) J default .base tr orc l n t g rs).obj).map some) (λU=>[]) (λrs OE=>by have z:=OF n t g λi=>rs.getD i h0;rwa[c4 OE] at z) λrs s1 OE D P=>?_
 have D1:bH w s s1 (aC l) (l' n t g (λi=>rs.getD i h0) (bl (vL w D₀ dh hs) J default .base tr orc l n t g rs).obj):=D.aft T;have hF:aj (l' n t g (λi=>rs.getD i h0) (bl (vL w D₀ dh hs) J default .base tr orc l n t g rs).obj):=⟨by
   have:=P (dZ hx);exact(mT.mp this).imp λh=>h _ _ rfl rfl,λe he=>by
   rcases D1.adr e he with q|q
   .obtain⟨f,hf,OH⟩:=cT.mp q;rw[<-OH];exact Fl.high f hf
   .left;exact(au (ax (ii OI) q))⟩
 obtain⟨F2,D2⟩:=ni (ch':=l' n t g (λi=>rs.getD i h0) (bl (vL w D₀ dh hs) J default .base tr orc l n t g rs).obj) (C:=[]) F (λe he=>.inl he) Hs D1 (λe he=>by rwa[fT] at he) (λe he=>.inl he) (by rw[fT];exact hF);exact aH ⟨_,hn n t g _ _ F2,D2⟩
end
theorem BX.nil {w:World} {d D₀ dh:Nat} {hs:List aq} (hD:D₀+5<1000) (hh:dh<=950) (hd:d<=D₀) (H:∀f∈hs,ai w dh f) {tr:Sem Fin} {L:List ad} {post:Flow->List ad->Prop} {fl:Flow} (OE orc:Nat)
  (OF:∀n t g,ay (vL w D₀ dh hs) OE default .base tr orc [] n t g [] [] (.fin (.done fl)) [] []) (F:aj L) (hp:post fl L):BX w d tr L post:=
 BX.fr (l:=[]) (ch:=[]) (R:=L) (post:=λf l'=>f=fl/\l'=[]) F (λU h=>(nomatch h)) (BX.run (D:=D₀) (dh:=dh) (hk:=oR hs) (bE H hD hh) hd cj 0 OE orc [] (λU U U U=>.fin (.done fl)) (λU U U U=>[])
  (λn t g rs OG=>by obtain rfl:=dI.mp OG;exact OF n t g) λU U U U U U U=>⟨rfl,rfl⟩) λx l' J=>by obtain⟨h1,h2⟩:=J;exact⟨[],[],λU h=>(nomatch h),λU h=>(nomatch h),cj,λU=>by subst h1;exact hp⟩
def n8 (k:Nat) (o:Obj) (n:Nat):aq:=λc J=>some ⟨[(k,dP J k,o)],[(c,.call (.builtin "len") ⟨[.ref (dP J k)],[]⟩)],.pure 2 λt=>.ok (.ret (.int (n:Int) (t+1)))⟩
theorem xU {w dh k dd sl xs ep n} (h:xs.length=n) (hn:n<2^62):ai w dh (n8 k (aV dd xs ep sl) n):=by
 refine bj λc lk A s hA hT hq=>?_;have hl:s.heap.IsList _ xs.toArray:=⟨_,hq _ aJ,rfl,ep,rfl⟩;refine bf.mono (bf.of_call (Q:=λv J=>v=.int (n:Int) (s.toks+1)/\J={s with toks:=s.toks+2}) (call_len_list hl (by simp;lia) ⟨by simp[h],rfl⟩)) ?_;rintro r J ⟨v,rfl,rfl,rfl⟩;exact⟨rfl,rfl⟩
def Ox (m:Nat) (t u v:Nat):Obj:=dy "range" [.int 0 t,.int (m:Int) u,.int 1 v]
def jH (k m:Nat):aq:=λc J=>some ⟨[(k,dP J k,Ox m (cq (gy (dQ J k) 0)) (cq (gy (dQ J k) 1)) (cq (gy (dQ J k) 2)))],[(c,.call (.builtin "range.__iter__") ⟨[.ref (dP J k)],[]⟩)],.gen λρ=>⟨.ok (.ret (.ref (ρ.x+158))),[],[⟨ρ.x+158,cf 0 m⟩]⟩⟩
open Builtin.Range in
theorem sw:∀{w dh k m} (hm:m<2^60),ai w dh (jH k m):=by
 ext w dh k m:0;intro hm;refine bj λc lk A s hA hT hq=>?_;ext lk A s ⟨hA,hT,hq⟩;have ho:=hq _ aJ;have OE:rangeSize 0 m 1=(m:Int):=by unfold rangeSize;split<;>(try split)<;>lia
 have hf:∀i,0<=i->i<2^61->rangeFitsLong i=true:=by intro i h1 h2;unfold rangeFitsLong;simp only[mU,oC];lia
 have J:Builtin.Range.small 0 m 1=true:=by
  unfold Builtin.Range.small;rw[OE,hf 0 (by decide) (by decide),hf 1 (by decide) (by decide),hf m (by simp+arith) (by lia)];simp only[if_pos (show(1:Int)>0 by decide),hf ((m:Int)+(1 - 1)) (by simp+arith) (by lia)];simp
 obtain⟨n,t',hn,ht⟩:=hT.nat;unfold Builtin.Range.small at J;refine bf.mono (R:=λr s'=>r=.ok (.ret (.ref (n+158)))/\s'={s with heap:=s.heap.push (cf 0 m)}) ?_ ?_
 .exact cz F.slot_range_iter (⟨_,ho,rfl⟩:Shared.TypeIs _ (.ref _) "range") F.entry_range_iter (F.args_range_iter_1 _)
   (AutoRange.range___iter___range_1 _ 0 m 1 _ _ _ (by rw[J];decide) pw w A (λr s'=>r=.ok (.ret (.ref (n+158)))/\s'={s with heap:=s.heap.push (cf 0 m)}) s ⟨ho,by rw[hn],by rw[if_pos J,OE];rfl⟩)
 .rintro r s' ⟨rfl,rfl⟩;have P:=cJ.same (s:=s) (n:=n) (t:=t') (x:=n) (y:=0) (z:=0) (r:=.ok (.ret (.ref (n+158)))) hn ((au (fk ht)));rw[<-ht] at P;exact⟨⟨n+1,t',s.gens.size,n,0,0⟩,rfl,P.push (x:=cf 0 m) rfl⟩
def ig:Str:=⟨#[115,99,114,105,112,116]⟩
def pT:Str:=⟨#[99,101,108,108,115]⟩
def Oy:Str:=⟨#[107]⟩
def ci (w:World) (n it:Nat):Code:=Fv (bV (bU w 111) 1) (.ref it) (ej w 111 (n+158))
def d4 (b:Bool) (ep:Nat) (K:Nat->Int×Nat) (sc ce:Nat) (v:Value):Obj:=match b with
 |false=>bW ep K [(ig,.ref sc),(pT,.ref (ce+158))]
 |true=>bW ep K [(ig,.ref sc),(pT,.ref (ce+158)),(Oy,v)]
def jk (C:Nat->Int) (tC:Nat->Nat):Obj:=aa [.int (C 0) (tC 0+1),.int (C 1) (tC 1+1),.int (C 2) (tC 2+1)] 0
def iN (C:Nat->Int) (r:Nat) (x:Int):Nat->Int:=λi=>match Nat.beq i r with
 |true=>x
 |false=>C i
def gi (F:Obj) (n ce it sc:Nat) (C:Nat->Int) (tC:Nat->Nat) (J:Obj) (o:Obj):List ad:=[⟨n+158,F⟩,⟨ce+158,jk C tC⟩,⟨it+158,J⟩,⟨sc,o⟩]
def qq:Nat:=0x4a1284a128400284a10140400ca328ca3280a0284a1000a128402280a0280a0004a2
def rD (it k rem r:Nat) (o:Obj) (x m c:Int) (t:Nat) (y:Int):List aq:=[gW 2 (it+158) k rem,bB "int.__mod__" (k:Int) 3 (r:Int),wO 3 o k (.int x (t+1)),bB "int.__mod__" x 1000000 m,bB "int.__add__" c m y]
section
variable (w:World) (n ce it sc k rem:Nat) (dd:Option Addr) (xs:List Value) (eps:Nat) (sl:Array (Option Value)) (x m y:Int) (tx:Nat) (C:Nat->Int) (tC:Nat->Nat) (ep:Nat) (K:Nat->Int×Nat) (n' t g:Nat)
theorem Ht (ρ):∀w,bP (vL w 400 500 (rD it k rem 0 (aV dd xs eps sl) x m (C 0) tx y)) 100 (ci w n (it+158)) .top (aM (ci w n (it+158))) qq (gi (d4 false ep K sc ce .none) n ce it sc C tC (cf k (rem+1)) (aV dd xs eps sl)) n' t g [ρ] [0,1,2,3]
  (.again (ci w n (it+158)))
  (λob=>(gi (d4 true (bD (ob 0)) (KO (ob 0)) sc ce (.int (k:Int) (ρ.x+1))) n ce it sc (iN C 0 y) (λi=>bQ (ob 1) i) (cf (k+1) rem) (aV dd xs eps sl)).map some) []:=aT
theorem Hu (ρ):∀w,bP (vL w 400 500 (rD it k rem 1 (aV dd xs eps sl) x m (C 1) tx y)) 100 (ci w n (it+158)) .top (aM (ci w n (it+158))) qq (gi (d4 false ep K sc ce .none) n ce it sc C tC (cf k (rem+1)) (aV dd xs eps sl)) n' t g [ρ] [0,1,2,3]
  (.again (ci w n (it+158)))
  (λob=>(gi (d4 true (bD (ob 0)) (KO (ob 0)) sc ce (.int (k:Int) (ρ.x+1))) n ce it sc (iN C 1 y) (λi=>bQ (ob 1) i) (cf (k+1) rem) (aV dd xs eps sl)).map some) []:=aT
theorem Hv (ρ):∀w,bP (vL w 400 500 (rD it k rem 2 (aV dd xs eps sl) x m (C 2) tx y)) 100 (ci w n (it+158)) .top (aM (ci w n (it+158))) qq (gi (d4 false ep K sc ce .none) n ce it sc C tC (cf k (rem+1)) (aV dd xs eps sl)) n' t g [ρ] [0,1,2,3]
  (.again (ci w n (it+158)))
  (λob=>(gi (d4 true (bD (ob 0)) (KO (ob 0)) sc ce (.int (k:Int) (ρ.x+1))) n ce it sc (iN C 2 y) (λi=>bQ (ob 1) i) (cf (k+1) rem) (aV dd xs eps sl)).map some) []:=aT
theorem Hw (v ρ):∀w,bP (vL w 400 500 (rD it k rem 0 (aV dd xs eps sl) x m (C 0) tx y)) 100 (ci w n (it+158)) .top (aM (ci w n (it+158))) qq (gi (d4 true ep K sc ce v) n ce it sc C tC (cf k (rem+1)) (aV dd xs eps sl)) n' t g [ρ] [0,1,2,3]
  (.again (ci w n (it+158)))
  (λob=>(gi (d4 true (bD (ob 0)) (KO (ob 0)) sc ce (.int (k:Int) (ρ.x+1))) n ce it sc (iN C 0 y) (λi=>bQ (ob 1) i) (cf (k+1) rem) (aV dd xs eps sl)).map some) []:=aT
theorem Hx (v ρ):∀w,bP (vL w 400 500 (rD it k rem 1 (aV dd xs eps sl) x m (C 1) tx y)) 100 (ci w n (it+158)) .top (aM (ci w n (it+158))) qq (gi (d4 true ep K sc ce v) n ce it sc C tC (cf k (rem+1)) (aV dd xs eps sl)) n' t g [ρ] [0,1,2,3]
  (.again (ci w n (it+158)))
  (λob=>(gi (d4 true (bD (ob 0)) (KO (ob 0)) sc ce (.int (k:Int) (ρ.x+1))) n ce it sc (iN C 1 y) (λi=>bQ (ob 1) i) (cf (k+1) rem) (aV dd xs eps sl)).map some) []:=aT
theorem Hy (v ρ):∀w,bP (vL w 400 500 (rD it k rem 2 (aV dd xs eps sl) x m (C 2) tx y)) 100 (ci w n (it+158)) .top (aM (ci w n (it+158))) qq (gi (d4 true ep K sc ce v) n ce it sc C tC (cf k (rem+1)) (aV dd xs eps sl)) n' t g [ρ] [0,1,2,3]
  (.again (ci w n (it+158)))
  (λob=>(gi (d4 true (bD (ob 0)) (KO (ob 0)) sc ce (.int (k:Int) (ρ.x+1))) n ce it sc (iN C 2 y) (λi=>bQ (ob 1) i) (cf (k+1) rem) (aV dd xs eps sl)).map some) []:=aT
theorem Lq (ρ):∀w,ay (vL w 400 500 [gY 0 (it+158) k]) 100 (ci w n (it+158)) .top (aM (ci w n (it+158))) 169870496 [⟨it+158,cf k 0⟩] n' t g [ρ] []
  (.ret (.ok .next)) [] []:=aT
end
def wZ (sc:Nat):Code:=.call (.ref 111) ⟨[.ref sc],[]⟩
def ur:Nat:=0xffca4008a328ca328c0028ca300000004a10000300003284a100002284a11b86f
def Al (w:World) (n:Nat):Code:=.func (bU w 111) (ej w 111 (n+158))
theorem Lr (sc:Nat) (dd:Option Addr) (xs:List Value) (eps:Nat) (sl:Array (Option Value)) (m n t g:Nat) (ρ:HR):∀w,bP (vL w 400 500 [n8 0 (aV dd xs eps sl) m,jH 3 m]) 200 (wZ sc) .top (aM (wZ sc)) ur [⟨sc,aV dd xs eps sl⟩] n t g [ρ] [1,2,4,0]
  (.call true (Al w n) (ci w n (ρ.x+158)) false)
  (λob=>(gi (d4 false 2 (KO (ob 1)) sc (n+1) .none) n (n+1) ρ.x sc (λi=>match i with|0=>191|1=>74|_=>22205) (λi=>bQ (ob 2) i) (cf 0 m) (aV dd xs eps sl)).map some) []:=aT
theorem CX.apart {w} {post:Result->List ad->Prop} (hi:∀e∈l,158<=e.a\/e.a=78) (hd:l.Pairwise λe f=>e.o=f.o->e.a≠f.a) (h:aj l->CX w d c l post):CX w d c l post:=λA s hA T H=>
 h ⟨List.Pairwise.imp_of_mem (λ{e f} he hf p=>by
  intro ha;have J:=H e he;have h2:=H f hf;rw[ha,h2] at J;exact p (Option.some.inj J).symm ha) hd,hi⟩ A s hA T H
theorem iO (w n it):bq (ci w n it):=ba rfl
theorem sx (w n):bq (Al w n):=ba rfl
def cG (p:Int×Nat):Value:=.int p.1 (p.2+1)
def n9 (k:Nat) (C:Nat->Int):Prop:=∀i,0<=C i/\C i<=22205+1000000*(k:Int)
theorem n9.step {k r:Nat} {C:Nat->Int} (h:n9 k C) (x:Int):n9 (k+1) (iN C r (C r+x.fmod 1000000)):=λi=>by
 have J:=h i;have h2:=h r;have h3:=Int.fmod_nonneg_of_pos x (b:=1000000) (by decide);have h4:=Int.fmod_lt_of_pos x (b:=1000000) (by decide);unfold iN;split<;>lia
section
variable {w:World} {n ce it sc:Nat} {ps:List (Int×Nat)} {dd:Option Addr} {eps:Nat} {sl:Array (Option Value)}
theorem Hz:∀(J:ps.length<=63) (F:aj (gi (cn 0) n ce it sc (λU=>0) (λU=>0) (cn 0) (cn 0))),∀rem k,k+rem=ps.length->∀b ep K v C tC,n9 k C->
  CX w 400 (ci w n (it+158)) (gi (d4 b ep K sc ce v) n ce it sc C tC (cf k rem) (aV dd (ps.map cG) eps sl))
   (λr l'=>r=.ok .next/\∃b ep K v C tC,n9 63 C/\l'=[⟨n+158,d4 b ep K sc ce v⟩,⟨ce+158,jk C tC⟩,⟨sc,aV dd (ps.map cG) eps sl⟩]):=by
 ext w n ce it sc ps dd eps sl;intro J F;intro rem;induction rem with
 |zero=>
  intro k hk b ep K v C tC hC;ext k b ep K v C tC ⟨hk,hC⟩;have F1:aj [(⟨it+158,cf k 0⟩:ad)]:=d6 (bN _ _);have h1:CX w 400 (ci w n (it+158)) [⟨it+158,cf k 0⟩] (λr l'=>r=.ok .next/\l'=[]):=
   CX.run4 (hs:=[gY 0 (it+158) k]) (fq jT) (bg _) F1 (iO _ _ _) 1 100 _ [] (λU U U U=>.ret (.ok .next)) (λU U U U=>[])
    (λn' t g r=>Lq n it k n' t g (r 0) w) λU U U U U U=>⟨rfl,rfl⟩
  have h2:=h1.frame (f:=[⟨n+158,d4 b ep K sc ce v⟩,⟨ce+158,jk C tC⟩,⟨sc,aV dd (ps.map cG) eps sl⟩]) (by
   have hp:=F.apart;unfold gi at hp;simp only[lP,aY,bS,bT] at hp;obtain⟨p1,p2,p3, -⟩:=hp;intro e he;simp only[aY,bS,bT] at he;simp only[aC,de,fK,aY,bS,bT];rcases he with rfl|rfl|rfl
   .exact p1 ⟨it+158,cn 0⟩ (by simp)
   .exact p2 ⟨it+158,cn 0⟩ (by constructor<;>rfl)
   .exact λe=>p3 ⟨sc,cn 0⟩ rfl e.symm)
  refine(h2.of (l0:=gi (d4 b ep K sc ce v) n ce it sc C tC (cf k 0) (aV dd (ps.map cG) eps sl)) (λe he=>?_)).mono ?_
  .simp only[List.cons_append,List.nil_append,aY,bS,bT] at he;unfold gi;rcases he with rfl|rfl|rfl|rfl<;>simp
  .rintro r l' ⟨l1,rfl,rfl,rfl⟩;exact⟨rfl,b,ep,K,v,C,tC,λi=>⟨(hC i).1,by have:=(hC i).2;lia⟩,rfl⟩
 |succ rem ih=>
  ext rem ⟨ih⟩;intro k hk b ep K v C tC hC;ext k b ep K v C tC ⟨hk,hC⟩;have OG:k<ps.length:=Dm hk;have hx:(ps.map cG)[k]? =some (.int ps[k].1 (ps[k].2+1)):=by
   rw[List.getElem?_map,mR OG];rfl
  have FF:aj (gi (d4 b ep K sc ce v) n ce it sc C tC (cf k (rem+1)) (aV dd (ps.map cG) eps sl)):=dX F rfl;have hh:∀r:Nat,(k:Int).fmod 3=(r:Int)->∀f∈rD it k rem r (aV dd (ps.map cG) eps sl) ps[k].1 (ps[k].1.fmod 1000000) (C r) ps[k].2 (C r+ps[k].1.fmod 1000000),ai w 500 f:=λr hr=>
   ua gZ (fC (by decide) hr) (xR hx ((au (ax J (fk hk))))) (fC (by decide) rfl) (qN rfl)
  have nx:=λr v' OF K' OH=>ih (k+1) (y4 hk) true OF K' v' (iN C r (C r+ps[k].1.fmod 1000000)) OH (hC.step _);have OE:k%3=0\/k%3=1\/k%3=2:=by lia
  have hm:∀r:Nat,k%3=r->(k:Int).fmod 3=(r:Int):=λr e=>by
   rw[Int.fmod_eq_emod_of_nonneg _ (by decide)];lia
  cases b with
  |false=>
   rcases OE with e|e|e
   .exact CX.run4 (hh 0 (hm 0 e)) (bg _) FF (iO _ _ _) 1 100 _ _ (λU U U U=>.again (ci w n (it+158))) (λn' t g r=>(λob=>gi (d4 true (bD (ob 0)) (KO (ob 0)) sc ce (.int (k:Int) ((r 0).x+1))) n ce it sc (iN C 0 (C 0+ps[k].1.fmod 1000000)) (λi=>bQ (ob 1) i) (cf (k+1) rem) (aV dd (ps.map cG) eps sl)) (bl _ _ _ _ _ _ _ n' t g (bO r 0 1)).obj)
     (λn' t g r=>Ht n ce it sc k rem dd (ps.map cG) eps sl ps[k].1 _ _ ps[k].2 C tC ep K n' t g (r 0) w) λU U U U U U=>⟨aX rfl,nx 0 _ _ _ _⟩
   .exact CX.run4 (hh 1 (hm 1 e)) (bg _) FF (iO _ _ _) 1 100 _ _ (λU U U U=>.again (ci w n (it+158))) (λn' t g r=>(λob=>gi (d4 true (bD (ob 0)) (KO (ob 0)) sc ce (.int (k:Int) ((r 0).x+1))) n ce it sc (iN C 1 (C 1+ps[k].1.fmod 1000000)) (λi=>bQ (ob 1) i) (cf (k+1) rem) (aV dd (ps.map cG) eps sl)) (bl _ _ _ _ _ _ _ n' t g (bO r 0 1)).obj)
     (λn' t g r=>Hu n ce it sc k rem dd (ps.map cG) eps sl ps[k].1 _ _ ps[k].2 C tC ep K n' t g (r 0) w) λU U U U U U=>⟨aX rfl,nx 1 _ _ _ _⟩
   .exact CX.run4 (hh 2 (hm 2 e)) (bg _) FF (iO _ _ _) 1 100 _ _ (λU U U U=>.again (ci w n (it+158))) (λn' t g r=>(λob=>gi (d4 true (bD (ob 0)) (KO (ob 0)) sc ce (.int (k:Int) ((r 0).x+1))) n ce it sc (iN C 2 (C 2+ps[k].1.fmod 1000000)) (λi=>bQ (ob 1) i) (cf (k+1) rem) (aV dd (ps.map cG) eps sl)) (bl _ _ _ _ _ _ _ n' t g (bO r 0 1)).obj)
     (λn' t g r=>Hv n ce it sc k rem dd (ps.map cG) eps sl ps[k].1 _ _ ps[k].2 C tC ep K n' t g (r 0) w) λU U U U U U=>⟨aX rfl,nx 2 _ _ _ _⟩
  |true=>
   rcases OE with e|e|e
   .exact CX.run4 (hh 0 (hm 0 e)) (bg _) FF (iO _ _ _) 1 100 _ _ (λU U U U=>.again (ci w n (it+158))) (λn' t g r=>(λob=>gi (d4 true (bD (ob 0)) (KO (ob 0)) sc ce (.int (k:Int) ((r 0).x+1))) n ce it sc (iN C 0 (C 0+ps[k].1.fmod 1000000)) (λi=>bQ (ob 1) i) (cf (k+1) rem) (aV dd (ps.map cG) eps sl)) (bl _ _ _ _ _ _ _ n' t g (bO r 0 1)).obj)
     (λn' t g r=>Hw n ce it sc k rem dd (ps.map cG) eps sl ps[k].1 _ _ ps[k].2 C tC ep K n' t g v (r 0) w) λU U U U U U=>⟨aX rfl,nx 0 _ _ _ _⟩
   .exact CX.run4 (hh 1 (hm 1 e)) (bg _) FF (iO _ _ _) 1 100 _ _ (λU U U U=>.again (ci w n (it+158))) (λn' t g r=>(λob=>gi (d4 true (bD (ob 0)) (KO (ob 0)) sc ce (.int (k:Int) ((r 0).x+1))) n ce it sc (iN C 1 (C 1+ps[k].1.fmod 1000000)) (λi=>bQ (ob 1) i) (cf (k+1) rem) (aV dd (ps.map cG) eps sl)) (bl _ _ _ _ _ _ _ n' t g (bO r 0 1)).obj)
     (λn' t g r=>Hx n ce it sc k rem dd (ps.map cG) eps sl ps[k].1 _ _ ps[k].2 C tC ep K n' t g v (r 0) w) λU U U U U U=>⟨aX rfl,nx 1 _ _ _ _⟩
   .exact CX.run4 (hh 2 (hm 2 e)) (bg _) FF (iO _ _ _) 1 100 _ _ (λU U U U=>.again (ci w n (it+158))) (λn' t g r=>(λob=>gi (d4 true (bD (ob 0)) (KO (ob 0)) sc ce (.int (k:Int) ((r 0).x+1))) n ce it sc (iN C 2 (C 2+ps[k].1.fmod 1000000)) (λi=>bQ (ob 1) i) (cf (k+1) rem) (aV dd (ps.map cG) eps sl)) (bl _ _ _ _ _ _ _ n' t g (bO r 0 1)).obj)
     (λn' t g r=>Hy n ce it sc k rem dd (ps.map cG) eps sl ps[k].1 _ _ ps[k].2 C tC ep K n' t g v (r 0) w) λU U U U U U=>⟨aX rfl,nx 2 _ _ _ _⟩
end
theorem JH (sc m n t g ρ dd xs eps sl ep K v C tC n' t' g'):∀w J,ay (vL w 400 500 []) 50 (Al w n) .top ((bl (vL w 400 500 [n8 0 (aV dd xs eps sl) m,jH 3 m]) 200 (wZ sc) .top (aM (wZ sc)) ur [⟨sc,aV dd xs eps sl⟩] n t g [ρ]).kont (.ok .next)) 160 [⟨n+158,d4 J ep K sc (n+1) v⟩,⟨n+1+158,jk C tC⟩,⟨sc,aV dd xs eps sl⟩] n' t' g' [] [1,2]
   (.ret (.ok (.ret (.ref (n+1+158))))) [some ⟨n+1+158,jk C tC⟩,some ⟨sc,aV dd xs eps sl⟩] []:=d9
theorem Am:∀(w:World) {sc:Nat} (OF:158<=sc) {ps:List (Int×Nat)} (OE:ps.length<=63) {dd:Option Addr} {eps:Nat} {sl:Array (Option Value)},CX w 395 (wZ sc) [⟨sc,aV dd (ps.map cG) eps sl⟩] (λr l'=>aj l'/\∃a C tC,r=.ok (.ret (.ref (a+158)))/\n9 63 C/\l'=[⟨a+158,jk C tC⟩,⟨sc,aV dd (ps.map cG) eps sl⟩]):=by
 ext w sc:0;intro OF;ext ps:0;intro OE;ext dd eps sl:0;refine CX.run (D:=400) (hk:=oR [n8 0 (aV dd (ps.map cG) eps sl) ps.length,jH 3 ps.length]) (dh:=500) (bE (uh (xU (by simp) ((au OE))) (sw ((au OE))))) (by decide) (d6 OF) (bJ _ _) 1 200 ur [1,2,4,0]
  (λn t g rs=>.call true (Al w n) (ci w n ((rs.getD 0 h0).x+158)) false)
  (λn t g rs=>(λob=>gi (d4 false 2 (KO (ob 1)) sc (n+1) .none) n (n+1) (rs.getD 0 h0).x sc (λi=>match i with|0=>191|1=>74|_=>22205) (λi=>bQ (ob 2) i) (cf 0 ps.length) (aV dd (ps.map cG) eps sl)) (bl _ _ _ _ _ _ _ n t g rs).obj)
  (λn t g rs J=>by obtain⟨ρ,rfl⟩:=gR J;exact Lr sc dd (ps.map cG) eps sl ps.length n t g ρ w) λn t g rs J OH OG=>?_
 ext n t g rs ⟨J,OH,OG⟩;obtain⟨ρ,rfl⟩:=gR J;ext ρ ⟨J,OG⟩;have hs:sc<n+158:=OH sc aJ;have hit:sc=ρ.x+158\/n+158<=ρ.x+158:=by
  rcases OG ⟨ρ.x+158,cf 0 ps.length⟩ gr with q|q
  .simp only[aC,de,fK,cD] at q;exact .inl q.symm
  .exact .inr q
 refine⟨_,sx _ _,CX.apart ?_ ?_ λF=>Hz OE (dX F rfl) ps.length 0 (by simp) false _ _ .none _ _ ?_,?_⟩
 .refine ah ?_<|ah ?_<|ah ?_<|ah ?_ aE
  .exact .inl (bN _ _)
  .exact .inl (bN _ _)
  .exact .inl (bN _ _)
  .exact .inl OF
 .simp only[gi,lP,aY,bS,bT,List.Pairwise.nil,and_true];refine⟨?_,?_,?_,λU h=>h.elim⟩
  .rintro e (rfl|rfl|rfl) h
   .exact bh (congrArg Obj.cls h) (by simp[d4,jk,aa,bW])
   .exact bh (congrArg Obj.cls h) (by simp[d4,cf,dy,bW])
   .show n+158≠sc;exact ka hs
  .rintro e (rfl|rfl) h
   .exact bh (congrArg Obj.cls h) (by simp[jk,aa,cf,dy])
   .show n+1+158≠sc;exact ka (au hs)
  .rintro e rfl h;exact bh (congrArg Obj.cls h) (by simp[aV,cf,dy])
 .intro i
  match i with
  |0=>exact⟨by decide,by decide⟩
  |1=>exact⟨by decide,by decide⟩
  |i+2=>exact(by decide:(0:Int)<=22205/\(22205:Int)<=22205+1000000*((0:Nat):Int))
 .rintro r l2 ⟨rfl,b,ep,K,v,C,tC,hC,rfl⟩ OI;have F3:aj [(⟨n+158,d4 b ep K sc (n+1) v⟩:ad),⟨n+1+158,jk C tC⟩,⟨sc,aV dd (ps.map cG) eps sl⟩]:=by
   refine⟨?_,?_⟩
   .simp only[lP,aY,bS,bT,List.Pairwise.nil,and_true];refine⟨?_,?_,λU h=>h.elim⟩
    .rintro e (rfl|rfl)
     .show n+158≠n+1+158;exact ld (bg (Nat.succ (n+158)))
     .show n+158≠sc;exact ka hs
    .rintro e rfl;show n+1+158≠sc;exact ka (au hs)
   .refine ah ?_<|ah ?_<|ah ?_ aE
    .exact .inl (bN _ _)
    .exact .inl (bN _ _)
    .exact .inl OF
  exact TX.run (D:=400) (hk:=oR []) (dh:=500) (bE (λU h=>nomatch h)) (by decide) F3 (sx _ _) 0 50 160 [1,2] (λU U U U=>.ret (.ok (.ret (.ref (n+1+158))))) (λU U U U=>[⟨n+1+158,jk C tC⟩,⟨sc,aV dd (ps.map cG) eps sl⟩])
   (λn' t' g' rs J=>by
    obtain rfl:=dI.mp J;exact JH sc ps.length n t g ρ dd (ps.map cG) eps sl ep K v C tC n' t' g' w b) λU U U U U U U=>⟨⟨(lP.mp F3.apart).2,λe he=>F3.high e (.tail _ he)⟩,n+1,C,tC,rfl,hC,rfl⟩
def jl (w:World):Stmt:=bV (fA (gA w)) 3
def An (w:World):Stmt:=bV (bU w 145) 1
def sy (w:World) (n it:Nat):Code:=.forLoop (ky (An w)) (.ref (it+158)) (df w) [] (aU w n)
def pU:cc->cc
 |.a0=>.b1
 |.a1=>.a2
 |sh=>sh
def CE:cc->Bool
 |.a1=>true
 |.b3=>true
 |.b4=>true
 |_=>false
def w0:cc->Bool
 |.a2=>false
 |.b5=>false
 |_=>true
def CF:Nat:=0xa129ca329ca3000a329ca3000a1284a2294a4294a4000a4294a4284a0
section
variable (w:World) (D:KD) (M:KN) (n:Nat) (ep:Nat) (K:Nat->Int×Nat) (v:Nat->Value) (n' t g:Nat)
theorem JI (T tT c tc):∀w J,ay (vL w 360 400 [yH (T:Int) (c:Int) J]) 50 default .base (ml (wD (gA w)) (aU w n)) 1213600 [⟨n+159,af (some (.int (T:Int) (tT+1)))⟩,⟨n+165,af (some (.int (c:Int) (tc+1)))⟩] n' t g [] [0,1]
  (.fin (.done (.ret (.bool J)))) [some ⟨n+159,af (some (.int (T:Int) (tT+1)))⟩,some ⟨n+165,af (some (.int (c:Int) (tc+1)))⟩] []:=d9
theorem JJ (to):∀sh,CE sh=true->ay (vL w 360 400 []) 20 default .base (fM (mE (jl w)) (aU w n)) 160 [⟨n+158,aA sh ep K (aD v 1 (.ref (to+158)))⟩] n' t g [] [0]
  (.fin (.done (.ret (.ref (to+158))))) [some ⟨n+158,aA sh ep K (aD v 1 (.ref (to+158)))⟩] []:=Mn
def MC (M:KN) (n c tg du:Nat) (J:List Value):List ad:=[⟨n+166,af (some (.str (gS c) (tg+1)))⟩,⟨n+168,af (some (.ref (M.aN+158)))⟩,M.lN,⟨du+158,aa J 4⟩]
theorem JK (c tg du d0 d1 d2 d3):∀sh,CE sh=true->∀w,ay (vL w 360 400 [a6 ⟨#[123,120,125,97]⟩ (gS c) (j6 c)]) 200 default .base (fM (gT (jl w)) (aU w n)) CF
  ([⟨n+158,aA sh ep K (aD v 2 (.ref (du+158)))⟩]++MC M n c tg du [d0,d1,d2,d3]) n' t g [] [0,1,2,3,4,6,8,9,10]
  (.fin (.done (.ret (.ref (n'+163))))) (([⟨n+158,aA sh ep K (aD v 2 (.ref (du+158)))⟩]++MC M n c tg du [d0,d1,d2,d3]++[⟨n'+159,aa [d0,d1,d2,d3,.str (gS c) (tg+1)] 0⟩,⟨n'+161,aa (ap M.fN++[.str (gS c) (tg+1),.str (j6 c) (t+2)]) 0⟩,⟨n'+162,aa [.str (gS c) (tg+1)] 0⟩,⟨n'+163,aa [.ref (n'+159),.ref (n'+161),.ref (n'+162)] 0⟩]:List ad).map some) []:=qL
theorem Ls:∀sh,w0 sh=true->∀w,bP (vL w 360 400 []) 100 default .base (a9 ((df w).drop 4) (aU w n)) 0x3ff290a2000a2288a1280a0 [⟨n+158,aA sh ep K v⟩,⟨n+160,af (some (.ref (D.aW+158)))⟩,D.lW] n' t g [] [0,1,2,3,4]
  (.call false default (gh w n (n'+1)) false) (λo=>([⟨n+158,aA (pU sh) (bD (o 0)) (KO (o 0)) (aD v 3 (.ref (n'+158)))⟩,⟨n+160,af (some (.ref (D.aW+158)))⟩,D.lW,⟨n'+158,aa [] 0⟩,⟨n'+159,aZ (D.aW+158) 0⟩]:List ad).map some) []:=qL
theorem JL (n2 t2 g2):∀sh,w0 sh=true->∀w,ay (vL w 360 400 []) 20 default .base ((bl (vL w 360 400 []) 100 default .base (a9 ((df w).drop 4) (aU w n)) 0x3ff290a2000a2288a1280a0 [⟨n+158,aA sh ep K v⟩,⟨n+160,af (some (.ref (D.aW+158)))⟩,D.lW] n' t g []).kont (.ok .next)) 0 [] n2 t2 g2 [] []
  (.fin (.done .next)) [] []:=qL
theorem M9 (ρ):∀w,bP (vL w 360 400 [jH 2 3]) 100 default .base (a9 ((bU w 145).take 2) (aU w n)) 0xffca3004a2288a228800288a20000000003280a0 [⟨n+158,bW 0 K []⟩] n' t g [ρ] [0,1,3]
  (.call false default (sy w n ρ.x) false) (λo=>([⟨n+158,aA .a0 (bD (o 0)) (KO (o 0)) (aD v 0 (.ref (n'+158)))⟩,⟨n'+158,aa [] 0⟩,⟨ρ.x+158,cf 0 3⟩]:List ad).map some) []:=aT
theorem Lt (n2 t2 g2 ρ):∀w,ay (vL w 360 400 []) 20 default .base ((bl (vL w 360 400 [jH 2 3]) 100 default .base (a9 ((bU w 145).take 2) (aU w n)) 0xffca3004a2288a228800288a20000000003280a0 [⟨n+158,bW 0 K []⟩] n' t g [ρ]).kont (.ok .next)) 0 [] n2 t2 g2 [] []
  (.fin (.done .next)) [] []:=aT
theorem Lu (sh kn):ay (vL w 360 400 []) 20 default .base (a9 ((bU w 145).drop 2) (aU w n)) 160 [⟨n+158,aA sh ep K (aD v 0 (.ref (kn+158)))⟩] n' t g [] []
  (.fin (.done (.ret (.ref (kn+158))))) [] []:=by cases sh<;>kernel_rfl
theorem CG (it i rem ρ):∀w,ay (vL w 360 400 [gW 0 (it+158) i rem]) 20 default .base (d8 (.ref (it+158))) 1184 [⟨it+158,cf i (rem+1)⟩] n' t g [ρ] [0]
  (.fin (.done (.ret (.int (i:Int) (ρ.x+1))))) [some ⟨it+158,cf (i+1) rem⟩] []:=aT
theorem Ga (it i ρ):∀w,ay (vL w 360 400 [gY 0 (it+158) i]) 20 default .base (d8 (.ref (it+158))) 169870496 [⟨it+158,cf i 0⟩] n' t g [ρ] []
  (.fin (.done .next)) [] []:=aT
theorem Lv (o i ti):ay (vL w 360 400 []) 20 default .base (f9 (ky (An w)) (aU w n) (.int (i:Int) (ti+1))) 164000 [⟨n+165,af o⟩] n' t g [] [0]
  (.fin (.done .next)) [some ⟨n+165,af (some (.int (i:Int) (ti+1)))⟩] []:=by kernel_rfl
end
def CH (D:KD) (T tT:Nat):Code:=.call (.ref 145) ⟨[.int (T:Int) (tT+1),.ref (D.aW+158),.ref (D.aSO+158),.ref (D.aR+158),.ref (D.aSt+158),.ref (D.aWd+158)],[]⟩
def qr (D:KD) (n T tT:Nat):List ad:=[⟨n+159,af (some (.int (T:Int) (tT+1)))⟩,⟨n+160,af (some (.ref (D.aW+158)))⟩,⟨n+161,af (some (.ref (D.aSO+158)))⟩,⟨n+162,af (some (.ref (D.aR+158)))⟩,⟨n+163,af (some (.ref (D.aSt+158)))⟩,⟨n+164,af (some (.ref (D.aWd+158)))⟩]
theorem JM (D T tT n t g):∀w,ay (vL w 360 400 []) 100 (CH D T tT) .top (aM (CH D T tT)) 0x402298a6294a5290a428ca3288a2284a124091 [] n t g [] [0,1,2,3,4,5,6,7,8,9,10,11]
  (.again (.func (bU w 145) (aU w n))) (([⟨n+158,bW 0 (λU=>(0,0)) []⟩]++qr D n T tT++[⟨n+165,af none⟩,⟨n+166,af none⟩,⟨n+167,af none⟩,⟨n+168,af none⟩,⟨n+169,af none⟩]:List ad).map some) []:=aT
structure KW (D:KD) (T m:Nat) (sS:Nat->Nat->List Nat) (rL:Nat->List Nat):Prop where
 O:j7 D m
 hT:T<3
 S:∀w<8,∀c<3,D.S w c=ae (sS w c)
 R:∀w<8,D.R w=ae (rL w)
 sOk:∀w<8,∀c<3,pM (sS w c)
 sLen:∀c<3,∀w<8,∀v<8,(sS w c).length=(sS v c).length
 s120:∀w<8,∀c<3,∀a r,sS w c=a::r->a≠120
 rOk:∀w<8,125∉rL w/\(rL w).length<=50/\0<(rL w).length
 same:∀c<3,∀j<8,∀k<8,sS (D.X j) c=sS (D.X k) c↔k=j\/k=dw j c
 row:∀j<8,∀k<8,T<D.St (D.X j)->(rL (D.X j)=rL (D.X k)↔bb D ⟨T,0,0,0⟩ j k=true)
 dot:∀w<8,((rL w).head?=some 46↔T<D.St w)
 nb:∀c<3,∀j<8,T<D.St (D.X j)->D.Wd (D.X (dw j c))≠D.Wd (D.X j)->T<D.St (D.X (dw j c))
theorem KW.dat (Q:KW D T m sS rL) (hc:c<3) (hN:∀k<8,M.N k=ae (cv (sS (D.X k) c) (rL (D.X k)) (cH (D.X k) c))):
  cu D M ⟨T,tT,c,tc⟩ m (λw=>sS w c) rL where
 O:=Q.O
 hT:=Q.hT
 hc:=hc
 S:=λw J=>by
  have h:c=0\/c=1\/c=2:=iF hc;rcases h with rfl|rfl|rfl<;>exact congrArg some (Q.S w J _ (by decide))
 R:=Q.R
 N:=hN
 sOk:=λw J=>Q.sOk w J c hc
 sLen:=Q.sLen c hc
 s120:=λw J=>Q.s120 w J c hc
 rOk:=Q.rOk
 same:=Q.same c hc
 row:=Q.row
 dot:=Q.dot
 nb:=Q.nb c hc
def w1 (D:KD) (c:Nat) (sS:Nat->Nat->List Nat) (k:Nat):Str:=ae (123::sS (D.X k) c)
def w2 (D:KD) (c:Nat) (sS:Nat->Nat->List Nat) (rL:Nat->List Nat) (k:Nat):Str:=ae (123::(sS (D.X k) c++rL (D.X k)))
def w3 (D:KD) (c:Nat) (sS:Nat->Nat->List Nat) (rL:Nat->List Nat) (k:Nat):Str:=ae (fm (sS (D.X k) c) (rL (D.X k)))
def mO (D:KD) (c:Nat) (sS:Nat->Nat->List Nat) (rL:Nat->List Nat) (k:Nat):Str:=ae (cv (sS (D.X k) c) (rL (D.X k)) (cH (D.X k) c))
theorem Ew:∀{w D T m sS rL} (Q:KW D T m sS rL) {c} (hc:c<3),∀f∈um w D c (w1 D c sS) (w2 D c sS rL) (w3 D c sS rL) (mO D c sS rL),ai w 500 f:=by
 ext w D T m sS rL:0;intro Q;ext c:0;intro hc;have J:∀{x y},0<x.length->0<y.length->x.length+y.length<=1000->ai w 500 (a6 (ae x) (ae y) (ae (x++y))):=λ{x y} hx hy hl=>
  fy (lw x y).symm (λh=>by rw[bz] at h;lia) (λh=>by rw[bz] at h;lia) (by rw[bz,eh];exact bC hl (by decide))
 delta um
 intro f hf;rcases dk.mp hf with hf|hf
 .obtain⟨k,hk,hf⟩:=iQ.mp hf;have hk:=eM.mp hk;have hx:=Q.O.lt hk;have h1:=(Q.sOk _ hx c hc).len;obtain⟨a,r,h0, -, -⟩:=(Q.sOk _ hx c hc).hd;have h2:=Q.rOk _ hx;have h3:0<(sS (D.X k) c).length:=by rw[h0];exact iT _
  refine ah (P:=λf=>ai w 500 f) (bK hx) (ah ?_ (ah (bK hx) (ah ?_ (ah ?_ (ah (jR hx hc|>.mono (by decide)) (ah ?_ aE)))))) f hf
  .rw[Q.S _ hx c hc];exact J (x:=[123]) (by decide) h3 (by simp;exact(au h1))
  .rw[Q.R _ hx];exact J (x:=123::sS (D.X k) c) (iT _) h2.2.2 (by simp;exact(au (ax h1 h2.2.1)))
  .exact J (x:=123::(sS (D.X k) c++rL (D.X k))) (y:=[125]) (iT _) (by decide) (by simp;exact(au (ax h1 h2.2.1)))
  .have e4:mO D c sS rL k=ae (fm (sS (D.X k) c) (rL (D.X k))++[cH (D.X k) c]):=by simp[mO,fm,cv]
   rw[e4];exact J (x:=fm (sS (D.X k) c) (rL (D.X k))) (y:=[cH (D.X k) c]) (iT _) (iT _) (by simp[fm];exact(au (ax h1 h2.2.1)))
 .rw[cD] at hf;subst hf;exact py.mono (by decide)
def kY (D:KD) (Z:KT) (n:Nat):List ad:=[⟨n+159,af (some (.int (Z.T:Int) (Z.tT+1)))⟩,⟨n+160,af (some (.ref (D.aW+158)))⟩,⟨n+161,af (some (.ref (D.aSO+158)))⟩,⟨n+162,af (some (.ref (D.aR+158)))⟩,
 ⟨n+163,af (some (.ref (D.aSt+158)))⟩,⟨n+164,af (some (.ref (D.aWd+158)))⟩,⟨n+165,af (some (.int (Z.c:Int) (Z.tc+1)))⟩]
def dL (D:KD):List ad:=[D.lW,D.lSO,D.lR,D.lSt,D.lWd]
def kP (F:Obj) (n kn:Nat) (pk:List (Int×Nat)) (ek:Nat):List ad:=[⟨n+158,F⟩,⟨kn+158,aa (am pk) ek⟩]
def iB (D:KD) (Z:KT) (n:Nat) (P:List ad) (o6 o7 o8 o9:Option Value) (T R:List ad):List ad:=P++([⟨n+166,af o6⟩,⟨n+168,af o8⟩,⟨n+169,af o9⟩]++([⟨n+167,af o7⟩]++(kY D Z n++(dL D++(D.ins++(T++R))))))
def kg (D:KD) (M:KN) (Z:KT) (n:Nat) (P:List ad) (ts:List an) (o7:Option Value) (tg:Nat) (T R:List ad):List ad:=P++([⟨n+167,af o7⟩]++(kX D M Z n++(D.ins++(T++(cO M.L ts M.eL++([⟨n+166,af (some (.str (gS Z.c) (tg+1)))⟩]++R))))))
theorem HA:∀{w D m Z sS rL} (Q:KW D Z.T m sS rL) (hc:Z.c<3) {n kn ek F pk o6 o7 o8 o9 T R} (J:aj (iB D Z n (kP F n kn pk ek) o6 o7 o8 o9 T R)),WX w 360 (execs ((df w).take 3) (aU w n)) (iB D Z n (kP F n kn pk ek) o6 o7 o8 o9 T R)
   (λf L'=>f=.next/\aj L'/\∃M tg,(∀k<8,M.N k=ae (cv (sS (D.X k) Z.c) (rL (D.X k)) (cH (D.X k) Z.c)))/\L'=kg D M Z n (kP F n kn pk ek) M.ths o7 tg T R):=by
 ext w D m Z sS rL:0;intro Q hc;ext n kn ek F pk o6 o7 o8 o9 T R:0;intro J
 let M:(Nat->HR)->Nat->KN:=λr n'=>⟨mO D Z.c sS rL,λk=>(r (5*k+4)).x,λk=>(r (40+k)).x+2,λk=>(r (40+k)).x+1,λU=>2,λk=>kT w (r (40+k)).y,n'+1,8,(r 39).n+3,8⟩
 refine WX.stmS (hs:=um w D Z.c (w1 D Z.c sS) (w2 D Z.c sS rL) (w3 D Z.c sS rL) (mO D Z.c sS rL)) (D₀:=400) (dh:=500) (by decide) (by decide) (by decide) J (Ew Q hc) [13,14,18,19,20,21,22,23,24,25,15,7,8,9,12,2,3,4] rfl rfl 48 1400 vr z8 rfl (λU U U U=>.next)
  (λn' t g r U=>sd w D n Z.c Z.tc (t+1) (mO D Z.c sS rL) n' r) (λn' t g r=>?_) λn' t g r U=>⟨kg D (M r n') Z n (kP F n kn pk ek) (M r n').ths o7 (t+1) T R,?_,λF=>⟨rfl,F,M r n',t+1,λU U=>rfl,rfl⟩⟩
 .have h:Z.c=0\/Z.c=1\/Z.c=2:=iF hc;show bP _ _ _ _ _ _ (B4 D n Z.c Z.tc o6 o8 o9) _ _ _ _ _ _ _ _;generalize hZ:Z.c=c at h|-;rcases h with rfl|rfl|rfl
  .exact Je D n Z.tc o6 o8 o9 (w1 D 0 sS) (w2 D 0 sS rL) (w3 D 0 sS rL) (mO D 0 sS rL) n' t g r w
  .exact Jf D n Z.tc o6 o8 o9 (w1 D 1 sS) (w2 D 1 sS rL) (w3 D 1 sS rL) (mO D 1 sS rL) n' t g r w
  .exact Jg D n Z.tc o6 o8 o9 (w1 D 2 sS) (w2 D 2 sS rL) (w3 D 2 sS rL) (mO D 2 sS rL) n' t g r w
 .exact((((((List.perm_append_comm_assoc T (cO (M r n').L (M r n').ths (M r n').eL) _).trans ((List.perm_append_comm_assoc T _ R).append_left _)).append_left D.ins).append_left _).append_left _).append_left (kP F n kn pk ek)).trans
   (wV (X:=sd w D n Z.c Z.tc (t+1) (mO D Z.c sS rL) n' r++lG [13,14,18,19,20,21,22,23,24,25,15,7,8,9,12,2,3,4] (iB D Z n (kP F n kn pk ek) o6 o7 o8 o9 T R)) [36,37,38,39,11,12,13,40,41,14,17,0,1,10,42,43,16,18,2,3,4,5,6,7,8,9,19,20,21,22,23,24,25,26,27,28,29,30,31,32,33,34,35,15] rfl rfl (by kernel_rfl))
theorem w4 (hu:A.units<cLine) (h1:s.heap.get? a=some (aa xs e1)) (h2:s.heap.get? b=some (aa ys e2)) (hl:xs.length=ys.length)
  (h:∀i (hi:i<xs.length) (hj:i<ys.length),∃z t u,xs[i]=.str z t/\ys[i]=.str z u):EqAt A s (.ref a) (.ref b) true:=by
 by_cases J:a=b
 .subst J;exact EqAt.same _
 .have ha:s.heap.IsList a xs.toArray:=⟨_,h1,rfl,e1,rfl⟩;have hb:s.heap.IsList b ys.toArray:=⟨_,h2,rfl,e2,rfl⟩;have:=RcAt.lists (A:=A) (e:=λU=>true) ha hb (hl) hu λj k1 k2=>by
   obtain⟨z,t,u,e1,e2⟩:=h j (by simpa using k1) (by simpa using k2);have f1:xs.toArray[j]=.str z t:=by simpa using e1
   have f2:ys.toArray[j]=.str z u:=by simpa using e2
   rw[f1,f2];have:=EqAt.str_str (A:=A.in1) (s:=s) z t z u;rw[qG] at this;exact this
  have e:(List.range xs.toArray.size).all (λU=>true)=true:=by rw[oD];intros;rfl
  rw[e] at this;exact EqAt.of_refs J this
def CI (l:List Value):Prop:=∀x∈l,∃z t,x=.str z t
theorem yO (hu:A.units<cLine) (J:s.heap.get? a=some (aa xs e1)) (h2:s.heap.get? b=some (aa xs e2)) (hw:CI xs):EqAt A s (.ref a) (.ref b) true:=
 w4 hu J h2 rfl λi hi U=>by
  obtain⟨z,t,h⟩:=hw xs[i] (List.getElem_mem _);exact⟨z,t,t,h,h⟩
theorem Na:∀m<8,∀k<8,∀c<3,((match Nat.beq ((m^^^k)/2^c%2) 1 with|true=>65+c|false=>97+c)==65+c)=oH c (Nat.beq (m/2^c%2) 1) k:=by decide+kernel
section
variable {D:KD} {M:KN} {Z:KT} {m:Nat} {sL rL:Nat->List Nat} (Q:cu D M Z m sL rL)
include Q
theorem cu.let (hk:k<8):(cH (D.X k) Z.c==65+Z.c)=oH Z.c (Nat.beq (m/2^Z.c%2) 1) k:=by
 rw[Q.O.X k hk];exact Na m Q.O.mlt k hk Z.c Q.hc
theorem cu.suff (hk:k<8):ji .suff ⟨#[65+Z.c]⟩ ⟨#[125,65+Z.c]⟩ (-2) (some (M.N k))=oH Z.c (Nat.beq (m/2^Z.c%2) 1) k:=by
 have e:(ae (cv (sL (D.X k)) (rL (D.X k)) (cH (D.X k) Z.c))).cps.toList=(123::(sL (D.X k)++rL (D.X k)))++[125,cH (D.X k) Z.c]:=by rw[dM];rfl
 have J:((ae (cv (sL (D.X k)) (rL (D.X k)) (cH (D.X k) Z.c))).cps.toList==(⟨#[65+Z.c]⟩:Str).cps.toList)=false:=by
  rw[e,eY];intro h;have:=congrArg List.length h;simp at this
 show(match((M.N k).cps.toList==(⟨#[65+Z.c]⟩:Str).cps.toList) with|true=>true|false=>(cut (M.N k) (some (-2)) none).cps.toList==(⟨#[125,65+Z.c]⟩:Str).cps.toList)=_;rw[Q.N k hk,J];show((cut (ae (cv (sL (D.X k)) (rL (D.X k)) (cH (D.X k) Z.c))) (some (-2)) none).cps.toList==[125,65+Z.c])=_;rw[yK (by rw[e];simp;exact bN _ _),e,List.drop_left' (by simp;exact rfl)];rw[<-Q.let hk];simp
theorem cu.plain (hk:k<8):ji .plain ⟨#[]⟩ ⟨#[]⟩ 0 (some (M.N k))=false:=by
 show(match(M.N k).cps[0]? with|some c=>!(c==123)|none=>false)=_;rw[Q.N k hk];rfl
theorem cu.fineZ (hk:k<8):ie (some (M.N k)):=by
 have J:=Q.O.lt hk;have h1:=(Q.sOk _ J).len;have h2:=(Q.rOk _ J).2.1;rw[Q.N k hk];refine⟨?_,?_⟩
 .rw[bz];simp[cv];exact au (ax h1 h2)
 .simp[ae,cv]
theorem cu.last (hk:k<8):ai w 500 (eT (M.N k) (-1) (cH (D.X k) Z.c)):=nF (by decide) (by
 rw[Q.N k hk];have hl:(ae (cv (sL (D.X k)) (rL (D.X k)) (cH (D.X k) Z.c))).length=(sL (D.X k)).length+(rL (D.X k)).length+3:=by rw[bz];simp[cv];rfl
 rw[hl];have:seqIndex? (-1) ((sL (D.X k)).length+(rL (D.X k)).length+3)=some ((sL (D.X k)).length+(rL (D.X k)).length+2):=by
  unfold seqIndex?;simp;lia
 rw[this];simp only[ae,Option.bind_some,List.getElem?_toArray];have e:cv (sL (D.X k)) (rL (D.X k)) (cH (D.X k) Z.c)=(123::(sL (D.X k)++rL (D.X k))++[125])++[cH (D.X k) Z.c]:=by simp[cv]
 have J:(sL (D.X k)).length+(rL (D.X k)).length+2=(123::(sL (D.X k)++rL (D.X k))++[125]).length:=by simp;exact rfl
 rw[e,J,List.getElem?_concat_length])
omit Q in
theorem JN {α:Type} (f:Option Str->α) (g:Nat->α) (x y z:α) (a b c) (h:∀k<8,f (some (M.N k))=g k) (J:f a=x) (hb:f b=y) (hc:f c=z):
  (M.zs++[a,b,c]).map f=[g 0,g 1,g 2,g 3,g 4,g 5,g 6,g 7]++[x,y,z]:=by
 simp[KN.zs,h,J,hb,hc]
theorem cu.bsS:(qM M Z.c).map (ji .suff ⟨#[65+Z.c]⟩ ⟨#[125,65+Z.c]⟩ (-2))=nT Z.c (Nat.beq (m/2^Z.c%2) 1)++[true,false,false]:=by
 have h:Z.c=0\/Z.c=1\/Z.c=2:=by have:=Q.hc;exact iF this
 refine JN _ _ _ _ _ _ _ _ (λk hk=>Q.suff hk) ?_ ?_ rfl
 .rcases h with h|h|h<;>rw[h]<;>decide+kernel
 .rcases h with h|h|h<;>rw[h]<;>decide+kernel
theorem cu.bsA:(qM M Z.c).map (ji .any ⟨#[]⟩ ⟨#[]⟩ 0)=Jm:=rfl
theorem cu.bsP:(qM M Z.c).map (ji .plain ⟨#[]⟩ ⟨#[]⟩ 0)=Jn:=by
 have h:Z.c=0\/Z.c=1\/Z.c=2:=by have:=Q.hc;exact iF this
 refine JN _ (λU=>false) _ _ _ _ _ _ (λk hk=>Q.plain hk) ?_ ?_ rfl
 .rcases h with h|h|h<;>rw[h]<;>decide+kernel
 .rcases h with h|h|h<;>rw[h]<;>decide+kernel
theorem cu.zfine:∀z∈qM M Z.c,ie z:=by
 refine ah ?_<|ah ?_<|ah ?_<|ah ?_<|ah ?_<|ah ?_<|ah ?_<|ah ?_<|ah ?_<|ah ?_<|ah ?_ aE
 .exact Q.fineZ (by decide)
 .exact Q.fineZ (by decide)
 .exact Q.fineZ (by decide)
 .exact Q.fineZ (by decide)
 .exact Q.fineZ (by decide)
 .exact Q.fineZ (by decide)
 .exact Q.fineZ (by decide)
 .exact Q.fineZ (by decide)
 .exact⟨by show(1:Nat)<=1000;decide,by show(0:Nat)<1;decide⟩
 .exact⟨by show(5:Nat)<=1000;decide,by show(0:Nat)<5;decide⟩
 .trivial
theorem cu.k2hk {a b c:aq} (J:ai w 600 a) (hb:ai w 600 b) (hc:ai w 600 c) {i j:Nat}:
  ∀f∈Jo w M (λk=>cH (D.X k) Z.c) Z.c (Nat.beq (m/2^Z.c%2) 1) i j a b c,ai w 500 f:=by
 have h:Z.c=0\/Z.c=1\/Z.c=2:=by have:=Q.hc;exact iF this
 intro f hf;rcases dk.mp hf with hf|hf
 .rcases dk.mp hf with hf|hf
  .refine ah (P:=λf=>ai w 500 f) (J.mono (by decide)) (ah (hb.mono (by decide)) (ah (hc.mono (by decide)) (ah (py.mono (by decide)) (ah (fy ?_ (λh=>bh h (by decide)) (λh=>bh h (by show¬(1:Nat)=0;decide)) ?_) (ah (fy ?_ (λh=>bh h (by decide)) (λh=>bh h (by show¬(1:Nat)=0;decide)) ?_) aE))))) f hf
   .rcases h with h|h|h<;>rw[h]<;>decide+kernel
   .show(5:Nat)<=sizeLine;decide
   .rcases h with h|h|h<;>rw[h]<;>decide+kernel
   .show(4:Nat)<=sizeLine;decide
  .obtain⟨k,hk,hf⟩:=iQ.mp hf;have hk:=eM.mp hk;refine ah (P:=λf=>ai w 500 f) (Q.last hk) (ah (aO ?_) aE) f hf;rw[<-Q.let hk];show([cH (D.X k) Z.c]==[65+Z.c])=_;simp
 .rw[cD] at hf;subst hf;exact wA (by simp[KN.ths])
end
def lJ (M:KN) (c:Nat) (b:Bool) (tg tx to du a1 a2 J:Nat):List ad:=
 [⟨to+158,aa [.ref (a1+158),.ref (a2+158),.ref (J+158)] 3⟩,⟨a1+158,aa (mj M.fN (nT c b) 0++[.str (gS c) (tg+1)]) 5⟩,⟨a2+158,aa (ap M.fN++[.str (gS c) (tg+1),.str (j6 c) (tx+1)]) 10⟩,⟨J+158,aa [.str (gS c) (tg+1)] 1⟩,⟨du+158,aa (mj M.fN (nT c b) 0) 4⟩]
def mn (v:Nat->Value) (to J:Nat):Nat->Value:=aD (aD v 1 (.ref (to+158))) 2 (.ref (J+158))
def sz (M:KN) (n c:Nat) (b:Bool) (tg:Nat) (v:Nat->Value) (sh':cc) (TP:List ad->Prop):Flow->List ad->Prop:=λf l'=>f=.next/\aj l'/\∃J ep K x0 x1 x2 tx to du a1 a2 a3,TP J/\mM c [x0,x1,x2]/\
 l'=J++[⟨n+158,aA sh' ep K (mn v to du)⟩]++uW M n c tg++[M.lN]++cO M.L (M.ths++[x0,x1,x2]) (M.eL+1)++lJ M c b tg tx to du a1 a2 a3
def CJ (J:Int) (nb tb dv:Nat):CO:=⟨.str yu tb,tb+1,[.str vn (tb+2),.int J 0,.int 2 0,.int 0 0,.int 0 0,.int 51 0,.ref (nb+158),.bool true,.int 276 0,.ref (nb+159),.none,.ref (nb+160),.ref (nb+161),.ref (nb+162),.int ((tb+dv:Nat):Int) 0,.int J 0,.str vn (tb+dv+1)]⟩
def MD (k0 k1 k2:Nat) (J c1 c2:CO):List ad:=[⟨78,aP [(87,k0),(71,k1),(77,k2)]⟩,⟨k0+158,J.o⟩,⟨k1+158,c1.o⟩,⟨k2+158,c2.o⟩]
theorem Gc (w c tg r):mM c (Mo w c tg r):=by
 refine ah ?_<|ah ?_<|ah ?_ aE
 .exact .inl ⟨_,rfl⟩
 .exact .inr (.inl ⟨_,rfl⟩)
 .exact .inr (.inr rfl)
section
variable {w:World} {D:KD} {M:KN} {Z:KT} {m:Nat} {sL rL:Nat->List Nat} (Q:cu D M Z m sL rL)
include Q
theorem Ex (hc:Z.c=0) {n tg ep:Nat} {K:Nat->Int×Nat} {v:Nat->Value} (F:aj (mK [⟨78,aP []⟩] (aA .a0 ep K v) M n 0 tg)):
  WX w 360 (execs ((fA (gA w)).take 3) (aU w n)) (mK [⟨78,aP []⟩] (aA .a0 ep K v) M n 0 tg) (sz M n 0 (Nat.beq (m/2^0%2) 1) tg v .a1 (λT'=>∃k0 k1 k2 c0 c1 c2,T'=MD k0 k1 k2 c0 c1 c2)):=by
 revert Q hc F;ext w D M Z m sL rL n tg ep ⟨K,v⟩;ext K v;intro Q hc F;have hb:=@cu.k2hk D M Z m sL rL Q w;have q1:=Q.bsS;have q2:=@cu.bsA D M Z m sL rL Q;have q3:=Q.bsP;have q4:=Q.zfine;rw[hc] at hb q1 q2 q3 q4;generalize Nat.beq (m/2^0%2) 1=b at hb q1|-;refine WX.stmR (hs:=λU=>Mp w M (λk=>cH (D.X k) 0) b) (D₀:=400) (dh:=500) (by decide) (by decide) (by decide) F (λU U=>hb (xP (by decide) q1 q4 (by show 11<=11;decide) (by show 11<=5000;decide)) (z9 q2 q4 (by show 11<=11;decide) (by show 11<=5000;decide)) (wx q3 q4 (by show 11<=11;decide) (by show 11<=5000;decide))) 17 1000 (Mr b) Jk (λU U U U=>.next)
  (λn' t g rs o=>vt w (Jj (λi=>rs.getD i h0)) (aA .a1 (bD (o 1)) (KO (o 1)) (aD (aD v 1 (.ref ((rs.getD 5 h0).n+160))) 2 (.ref ((rs.getD 8 h0).n+161)))) M n 0 b tg (λi=>rs.getD i h0)) (λn' t g rs J=>?_)
  λn' t g rs o J U U hF=>⟨rfl,hF rfl,_,_,_,_,_,_,(rs.getD 0 h0).x,(rs.getD 5 h0).n+2,(rs.getD 8 h0).n+3,(rs.getD 6 h0).x,(rs.getD 7 h0).x,(rs.getD 8 h0).x,⟨_,_,_,CJ 87 _ _ 12,CJ 71 _ _ 8,CJ 77 _ _ 9,rfl⟩,Gc w 0 tg (λi=>rs.getD i h0),rfl⟩
 have z:=Jp M (λk=>cH (D.X k) 0) n tg ep K v n' t g (λi=>rs.getD i h0) b w;rw[c4 J] at z;exact z
theorem JO (x:Bool) (hc:Z.c=1\/Z.c=2) {k0 k1 k2 k3:Nat} {J c1 c2:CO} {n tg ep:Nat} {K:Nat->Int×Nat} {v:Nat->Value} (F:aj (mK (lA k0 k1 k2 k3 J c1 c2) (aA (Eb x) ep K v) M n Z.c tg)):
  WX w 360 (execs ((fA (gA w)).take 3) (aU w n)) (mK (lA k0 k1 k2 k3 J c1 c2) (aA (Eb x) ep K v) M n Z.c tg) (sz M n Z.c (Nat.beq (m/2^Z.c%2) 1) tg v (Ed x) (λT'=>T'=lA k0 k1 k2 k3 J c1 c2)):=by
 revert Q hc F;ext w D M Z m sL rL x k0 k1 ⟨k2,k3,J,c1,c2,n,tg,ep,K,v⟩;ext k2 k3 J c1 c2 n tg ep K v;intro Q hc F;have hb:=@cu.k2hk D M Z m sL rL Q w;have q1:=Q.bsS;have q2:=@cu.bsA D M Z m sL rL Q;have q3:=Q.bsP;have q4:=Q.zfine;generalize Nat.beq (m/2^Z.c%2) 1=b at hb q1|-;refine WX.stmR (hs:=λU=>Mq w M (λk=>cH (D.X k) Z.c) Z.c b) (D₀:=400) (dh:=500) (by decide) (by decide) (by decide) F (λU U=>hb (xQ (by rcases hc with h|h<;>rw[h]<;>decide) q1 q4 (by show 11<=11;decide) (by show 11<=5000;decide)) (Aa q2 q4 (by show 11<=11;decide) (by show 11<=5000;decide)) (wy q3 q4 (by show 11<=11;decide) (by show 11<=5000;decide))) 17 1000 (Ms Z.c b) Jl (λU U U U=>.next)
  (λn' t g rs o=>vt w (lA k0 k1 k2 k3 J c1 c2) (aA (Ed x) (bD (o 4)) (KO (o 4)) (aD (aD v 1 (.ref ((rs.getD 5 h0).n+160))) 2 (.ref ((rs.getD 8 h0).n+161)))) M n Z.c b tg (λi=>rs.getD i h0)) (λn' t g rs OE=>?_)
  λn' t g rs o OE U U hF=>⟨rfl,hF rfl,_,_,_,_,_,_,(rs.getD 0 h0).x,(rs.getD 5 h0).n+2,(rs.getD 8 h0).n+3,(rs.getD 6 h0).x,(rs.getD 7 h0).x,(rs.getD 8 h0).x,rfl,Gc w Z.c tg (λi=>rs.getD i h0),rfl⟩
 have z:=Jq w k0 k1 k2 k3 J c1 c2 M (λk=>cH (D.X k) Z.c) Z.c b x hc n tg ep K v n' t g (λi=>rs.getD i h0);rw[c4 OE] at z;exact z
end
def jm (M:KN):KN:={M with eL:=M.eL+1}
theorem HB (w):gA w=.If (wD (gA w)) (fA (gA w)) [] (uP (gA w)):=by kernel_rfl
theorem Ey (w):fA (gA w)=(fA (gA w)).take 3++[jl w]:=by kernel_rfl
theorem Ez (w):jl w=.If (.Compare (mE (jl w)) [.NotEq] [gT (jl w)] (vZ (jl w))) (Bv (jl w)) [] (uP (jl w)):=by kernel_rfl
theorem HC (w):behindInMarks .NotEq (gT (jl w))=false:=by kernel_rfl
theorem Lw:∀f b {c} (hc:c<3),∃J d1 d2 d3,mj f (nT c b) 0=[f J,f d1,f d2,f d3]:=by
 ext f b c:0;intro hc;have h:c=0\/c=1\/c=2:=iF hc;rcases h with rfl|rfl|rfl<;>cases b<;>exact⟨_,_,_,_,rfl⟩
section
variable {w:World} {D:KD} {M:KN} {n:Nat}
theorem JP:∀{sh} (hs:CE sh=true) {c} (hc:c<3) {b ep tg tx J du a1 a2 a3 K v R}
  (F:aj ((⟨n+158,aA sh ep K (mn v J du)⟩::(uW M n c tg++M.lN::lJ M c b tg tx J du a1 a2 a3))++R)),WX w 360 (execs [jl w] (aU w n)) ((⟨n+158,aA sh ep K (mn v J du)⟩::(uW M n c tg++M.lN::lJ M c b tg tx J du a1 a2 a3))++R)
   (λf L'=>f=.next/\L'=(⟨n+158,aA sh ep K (mn v J du)⟩::(uW M n c tg++M.lN::lJ M c b tg tx J du a1 a2 a3))++R):=by
 revert w M n;ext w M n sh:0;intro hs;ext c:0;intro hc;ext b ep tg tx J du a1 a2 a3 K v R:0;intro F;have e1:aD (mn v J du) 1 (.ref (J+158))=mn v J du:=cP rfl;have e2:aD (mn v J du) 2 (.ref (du+158))=mn v J du:=cP rfl;have h3:c=0\/c=1\/c=2:=iF hc;have OF:ai w 400 (a6 ⟨#[123,120,125,97]⟩ (gS c) (j6 c)):=by
  refine fy ?_ (λh=>bh h (by decide)) (λh=>bh h (by show¬(1:Nat)=0;decide)) (by show(5:Nat)<=sizeLine;decide);rcases h3 with rfl|rfl|rfl<;>decide+kernel
 obtain⟨d0,d1,d2,d3,hd⟩:=Lw M.fN b hc;ext d0 d1 d2 d3 ⟨hd⟩;have sg:∀t,CI [.str (gS c) t]:=λt x hx=>by rw[cD] at hx;exact⟨_,_,hx⟩
 refine WX.cut (WX.cmpNe (post:=λf L'=>f=.next/\∀e∈(⟨n+158,aA sh ep K (mn v J du)⟩::(uW M n c tg++M.lN::lJ M c b tg tx J du a1 a2 a3))++R,e∈L') (Ez _) (HC _) ?_) λf l' h=>⟨_,h.2,h.1,rfl⟩;refine WX.expR (D₀:=360) (dh:=400) (by decide) (by decide) (bg _) F aE [0] rfl rfl 0 20 160 [0] (λU U U U=>.ref (J+158)) (λU U U U=>[]) (λn' t g U=>by have z:=JJ w n ep K (mn v J du) n' t g J sh hs;rw[e1] at z;exact z) λU U U U=>?_;refine WX.expR (D₀:=360) (dh:=400) (by decide) (by decide) (bg _) F (ah OF aE) [0,1,2,4,9] rfl rfl 0 200 CF [0,1,2,3,4,6,8,9,10] (λn' U U U=>.ref (n'+163))
  (λn' t U U=>[⟨n'+159,aa [M.fN d0,M.fN d1,M.fN d2,M.fN d3,.str (gS c) (tg+1)] 0⟩,⟨n'+161,aa (ap M.fN++[.str (gS c) (tg+1),.str (j6 c) (t+2)]) 0⟩,⟨n'+162,aa [.str (gS c) (tg+1)] 0⟩,⟨n'+163,aa [.ref (n'+159),.ref (n'+161),.ref (n'+162)] 0⟩])
  (λn' t g U=>?_) λa t U U=>⟨λA s hA hT hS=>?_,rfl,λe he=>fJ _ he⟩
 .have z:=JK M n ep K (mn v J du) n' t g c tg du (M.fN d0) (M.fN d1) (M.fN d2) (M.fN d3) sh hs w;rw[e2,<-hd] at z;exact z
 .ext a t A s ⟨hA,hT,hS⟩;have hu:A.units<cLine:=Nat.lt_of_le_of_lt hA.un (by decide);have OE:A.in1.units<cLine:=by have:=hA.un;show A.units+1<9900;exact au this
  have g1:s.heap.get? (a1+158)=some (aa (mj M.fN (nT c b) 0++[.str (gS c) (tg+1)]) 5):=hS.nth 10 rfl;rw[hd] at g1;have q1:EqAt A.in1 s (.ref (a1+158)) (.ref (a+159)) true:=yO OE g1 (hS.nth 0 rfl) (mS.mpr ⟨⟨_,_,rfl⟩,mS.mpr ⟨⟨_,_,rfl⟩,mS.mpr ⟨⟨_,_,rfl⟩,mS.mpr ⟨⟨_,_,rfl⟩,sg _⟩⟩⟩⟩);have q3:EqAt A.in1 s (.ref (a3+158)) (.ref (a+162)) true:=yO OE (hS.nth 12 rfl) (hS.nth 2 rfl) (sg _);have q2:EqAt A.in1 s (.ref (a2+158)) (.ref (a+161)) true:=w4 OE (hS.nth 11 rfl) (hS.nth 1 rfl) rfl λi hi hj=>by
   match i,hi with
   |0,_|1,_|2,_|3,_|4,_|5,_|6,_|7,_|8,_|9,_=>exact⟨_,_,_,rfl,rfl⟩
   |i+10,h=>exact bh h (by show¬i+10<10;simp)
  have ha:s.heap.IsList (J+158) #[.ref (a1+158),.ref (a2+158),.ref (a3+158)]:=⟨_,hS.nth 9 rfl,rfl,3,rfl⟩;have hb:s.heap.IsList (a+163) #[.ref (a+159),.ref (a+161),.ref (a+162)]:=⟨_,hS.nth 3 rfl,rfl,0,rfl⟩;exact RcNeAt.lists (A:=A) (e:=λU=>true) ha hb rfl hu λj k1 k2=>by
   match j,k1 with
   |0,_=>exact q1
   |1,_=>exact q2
   |2,_=>exact q3
   |j+3,h=>exact bh h (by show¬j+3<3;simp)
end
section
variable {w:World} {D:KD} {M:KN} {Z:KT} {n kn ek tg ep:Nat} {K:Nat->Int×Nat} {v:Nat->Value} {pk:List (Int×Nat)} {o7:Option Value} {T R:List ad}
theorem yP {F:Obj} {ts:List an} {b:Bool} (hb:((Z.T:Int)==(Z.c:Int))=b) (J:aj (kg D M Z n (kP F n kn pk ek) ts o7 tg T R)) {post:Flow->List ad->Prop}
  (h:match b with
   |true=>WX w 360 (execs (fA (gA w)) (aU w n)) (kg D M Z n (kP F n kn pk ek) ts o7 tg T R) post
   |false=>post .next (kg D M Z n (kP F n kn pk ek) ts o7 tg T R)):
  WX w 360 (execs [gA w] (aU w n)) (kg D M Z n (kP F n kn pk ek) ts o7 tg T R) post:=by
 refine WX.ifT (HB _) (WX.tstO (D₀:=360) (dh:=400) (by decide) (by decide) (bg _) J (ah (Ab hb) aE) [3,9] rfl rfl 50 1213600 [0,1] b (λn' t g=>JI n n' t g Z.T Z.tT Z.c Z.tc w b) ?_);cases b<;>exact h
theorem Gd:∀{sh sh' c} (hZ:Z.c=c) {b} {TP:List ad->Prop} (hc:c<3) (hT:Z.T=c) (OG:CE sh'=true)
  (OE:aj (mK T (aA sh ep K v) M n c tg)->WX w 360 (execs ((fA (gA w)).take 3) (aU w n)) (mK T (aA sh ep K v) M n c tg) (sz M n c b tg v sh' TP))
  (FL:aj (kg D M Z n (kP (aA sh ep K v) n kn pk ek) M.ths o7 tg T R)),WX w 360 (execs [gA w] (aU w n)) (kg D M Z n (kP (aA sh ep K v) n kn pk ek) M.ths o7 tg T R)
   (λf L'=>f=.next/\aj L'/\∃T' ep K v' x0 x1 x2,TP T'/\mM c [x0,x1,x2]/\v' 0=v 0/\L'=kg D (jm M) Z n (kP (aA sh' ep K v') n kn pk ek) (M.ths++[x0,x1,x2]) o7 tg T' R):=by
 revert w D M Z n kn ek tg ep K v pk o7 T R;ext w D M Z n kn ek tg ep K:0;ext v pk o7 T R sh sh' c:0;intro hZ;ext b TP:0;intro hc hT OG OE FL;subst hZ;refine yP (b:=true) (by rw[hT];exact qG _) FL ?_;show WX _ _ _ _ _;rw[Ey];refine WX.app ?_;refine WX.re [[⟨n+158,aA sh ep K v⟩],[⟨kn+158,aa (am pk) ek⟩],[⟨n+167,af o7⟩],(kX D M Z n).take 7,[⟨n+169,af (some (.ref (M.L+158)))⟩],dL D,[⟨n+168,af (some (.ref (M.aN+158)))⟩],[M.lN],D.ins,T,cO M.L M.ths M.eL,[⟨n+166,af (some (.str (gS Z.c) (tg+1)))⟩],R] (.r [0,1,2,3,4,5,6,7,8,9,10,11,12]) (.p (.p (.p (.p (.p (.s 9) (.s 0)) (.r [11,6,4])) (.s 7)) (.s 10)) (.r [1,2,3,5,8,12])) (by decide+kernel) FL λF2=>?_;refine WX.fr0 F2 (OE F2.left) (JG λT' J K' x0 x1 x2 tx to du a1 a2 a3 OF hx Fl=>⟨Fl,λF3=>⟨rfl,?_⟩⟩);ext T' J K' x0 x1 x2 tx to du a1 a2 a3 ⟨OF,hx,Fl,F3⟩;refine WX.re [T',[⟨n+158,aA sh' J K' (mn v to du)⟩],uW M n Z.c tg,[M.lN],cO M.L (M.ths++[x0,x1,x2]) (M.eL+1),lJ M Z.c b tg tx to du a1 a2 a3,[⟨kn+158,aa (am pk) ek⟩],[⟨n+167,af o7⟩],(kX D M Z n).take 7,dL D,D.ins,R] (.p (.p (.p (.p (.p (.p (.s 0) (.s 1)) (.s 2)) (.s 3)) (.s 4)) (.s 5)) (.r [6,7,8,9,10,11])) (.p (.r [1,2,3,5]) (.r [0,4,6,7,8,9,10,11])) (by decide+kernel) F3 λF4=>?_;exact(JP OG hc F4).outD (Mz ⟨F4,_,_,AT.sub [T',[⟨n+158,aA sh' J K' (mn v to du)⟩],[⟨n+166,af (some (.str (gS Z.c) (tg+1)))⟩],[⟨n+168,af (some (.ref (M.aN+158)))⟩],[⟨n+169,af (some (.ref (M.L+158)))⟩],[M.lN],cO M.L (M.ths++[x0,x1,x2]) (M.eL+1),lJ M Z.c b tg tx to du a1 a2 a3,[⟨kn+158,aa (am pk) ek⟩],[⟨n+167,af o7⟩],(kX D M Z n).take 7,dL D,D.ins,R]
  (.p (.r [1,2,3,4,5,7]) (.r [0,6,8,9,10,11,12,13])) (.r [1,8,9,10,4,11,3,5,12,0,6,2,13]) [7] (by decide+kernel),λF=>⟨rfl,F,T',J,K',mn v to du,x0,x1,x2,OF,hx,rfl,rfl⟩⟩)
end
section
variable {w:World} {D:KD} {M:KN} {Z:KT} {n kn ek tg ep:Nat} {K:Nat->Int×Nat} {v:Nat->Value} {pk:List (Int×Nat)} {o7:Option Value} {T1 T2 R:List ad} {ts:List an}
theorem JQ (hs:w0 sh=true) (hv:v 0=.ref (kn+158)) (FL:aj (kg D M Z n (kP (aA sh ep K v) n kn pk ek) ts o7 tg (T1++T2) R)) {post:List ad->Prop}
  (h:∀ep K ak it,kf (aD v 3 (.ref (ak+158))) kn ak->aj (g8 (aA (pU sh) ep K (aD v 3 (.ref (ak+158)))) D M Z ts T1 (T2++([⟨n+166,af (some (.str (gS Z.c) (tg+1)))⟩]++R)) n kn ak pk [] ek 0 o7 (itE D it 0))->
   CX w 355 (gh w n it) (g8 (aA (pU sh) ep K (aD v 3 (.ref (ak+158)))) D M Z ts T1 (T2++([⟨n+166,af (some (.str (gS Z.c) (tg+1)))⟩]++R)) n kn ak pk [] ek 0 o7 (itE D it 0)) (λr L'=>r=.ok .next/\aj L'/\post L')):
  WX w 355 (execs ((df w).drop 4) (aU w n)) (kg D M Z n (kP (aA sh ep K v) n kn pk ek) ts o7 tg (T1++T2) R) (λf L'=>f=.next/\post L'):=by
 refine SX.of_bx (w:=w) (d:=355) ?_;refine BX.pk [0,4,11] rfl rfl FL λJ=>?_;refine BX.callP (l:=[⟨n+158,aA sh ep K v⟩,⟨n+160,af (some (.ref (D.aW+158)))⟩,D.lW]) (hs:=[]) (D₀:=360) (dh:=400) (by decide) (by decide) (by decide) J aE 0 100 0x3ff290a2000a2288a1280a0 [0,1,2,3,4] rfl default (λn' U U U=>gh w n (n'+1)) false
  (λn' U U U o=>[⟨n+158,aA (pU sh) (bD (o 0)) (KO (o 0)) (aD v 3 (.ref (n'+158)))⟩,⟨n+160,af (some (.ref (D.aW+158)))⟩,D.lW,⟨n'+158,aa [] 0⟩,⟨n'+159,aZ (D.aW+158) 0⟩]) (λn' t g U=>Ls D n ep K v n' t g sh hs w) λn' t g r o F3=>⟨λr L'=>r=.ok .next/\aj L'/\post L',?_,?_⟩
 .exact CX.as F3 (AT.perm [[⟨n+158,aA (pU sh) (bD (o 0)) (KO (o 0)) (aD v 3 (.ref (n'+158)))⟩],[⟨n+160,af (some (.ref (D.aW+158)))⟩],[D.lW],[⟨n'+158,aa [] 0⟩],[⟨n'+159,aZ (D.aW+158) 0⟩],[⟨kn+158,aa (am pk) ek⟩],[⟨n+167,af o7⟩],[⟨n+159,af (some (.int (Z.T:Int) (Z.tT+1)))⟩],((kX D M Z n).drop 2).take 6,(kX D M Z n).drop 9,D.ins,T1,T2,cO M.L ts M.eL,[⟨n+166,af (some (.str (gS Z.c) (tg+1)))⟩],R]
   (.p (.r [0,1,2,3,4]) (.p (.r [5,6,7,8,9,10]) (.p (.p (.s 11) (.s 12)) (.r [13,14,15])))) (.p (.r [0,5,3,6,4,7,1,8,2,9,10]) (.r [11,13,12,14,15])) (by decide+kernel)) λF4=>h (bD (o 0)) (KO (o 0)) n' (n'+1) ⟨hv,rfl⟩ F4
 .rintro r l2 ⟨hr,F5,hp⟩;subst hr;exact BX.nil (hs:=[]) (D₀:=360) (dh:=400) (by decide) (by decide) (by decide) aE 20 0 (λn2 t2 g2=>JL D n ep K v n' t g n2 t2 g2 sh hs w) F5 ⟨rfl,hp⟩
end
theorem CK (w):df w=(df w).take 3++([gA w]++(df w).drop 4):=by kernel_rfl
theorem JR {D Z T1 T2 R n kn ak pk pa ek ea tg}
  (FL:aj (g8 F D M Z ts T1 (T2++([⟨n+166,af (some (.str (gS Z.c) (tg+1)))⟩]++R)) n kn ak pk pa ek ea o [])):
  (∀e∈iB D Z n (kP F n kn pk ek) (some (.str (gS Z.c) (tg+1))) o (some (.ref (M.aN+158))) (some (.ref (M.L+158))) (T1++T2) R,e∈g8 F D M Z ts T1 (T2++([⟨n+166,af (some (.str (gS Z.c) (tg+1)))⟩]++R)) n kn ak pk pa ek ea o [])/\
   aj (iB D Z n (kP F n kn pk ek) (some (.str (gS Z.c) (tg+1))) o (some (.ref (M.aN+158))) (some (.ref (M.L+158))) (T1++T2) R):=by
 have J:=AT.sub [[⟨n+158,F⟩,⟨kn+158,aa (am pk) ek⟩],[⟨ak+158,aa (am pa) ea⟩],[⟨n+167,af o⟩],kY D Z n,[⟨n+169,af (some (.ref (M.L+158)))⟩],dL D,[⟨n+168,af (some (.ref (M.aN+158)))⟩],[M.lN],D.ins,T1,cO M.L ts M.eL,T2,[⟨n+166,af (some (.str (gS Z.c) (tg+1)))⟩],R] (.r [0,1,2,3,4,5,6,7,8,9,10,11,12,13]) (.p (.r [0,12,6,4,2,3,5,8]) (.p (.p (.s 9) (.s 11)) (.s 13))) [1,7,10] (by decide+kernel);exact⟨λe he=>J.mem_iff.mp (gO _ he),(FL.perm J).left⟩
def mo (D:KD) (Z:KT) (n kn:Nat) (R:List ad) (pk':List (Int×Nat)) (PO:cc->List ad->Prop):Flow->List ad->Prop:=λf L'=>f=.next/\aj L'/\∃OE J ep K v' OF o6 o7 o8 o9,PO OE J/\v' 0=.ref (kn+158)/\L'=iB D Z n (kP (aA OE ep K v') n kn pk' OF) o6 o7 o8 o9 J R
section
variable {w:World} {D:KD} {m:Nat} {Z:KT} {sS:Nat->Nat->List Nat} {rL:Nat->List Nat} (Q:KW D Z.T m sS rL) (hc:Z.c<3) {n kn ek ep:Nat} {K:Nat->Int×Nat} {v:Nat->Value} {pk pk':List (Int×Nat)} {o6 o7 o8 o9:Option Value} {T R:List ad} {sh:cc}
include Q hc
theorem rE {PI:KN->List an->cc->List ad->List ad->Prop} {PO:cc->List ad->Prop}
  (OJ:∀M tg,(∀k<8,M.N k=ae (cv (sS (D.X k) Z.c) (rL (D.X k)) (cH (D.X k) Z.c)))->aj (kg D M Z n (kP (aA sh ep K v) n kn pk ek) M.ths o7 tg T R)->WX w 360 (execs [gA w] (aU w n)) (kg D M Z n (kP (aA sh ep K v) n kn pk ek) M.ths o7 tg T R)
   (λf L'=>f=.next/\aj L'/\∃M' ts OE ep K v' T1 T2,PI M' ts OE T1 T2/\v' 0=.ref (kn+158)/\L'=kg D M' Z n (kP (aA OE ep K v') n kn pk ek) ts o7 tg (T1++T2) R))
  (OG:∀M' ts OE T1 T2,PI M' ts OE T1 T2->w0 OE=true/\∀ep K v ak it R',kf v kn ak->aj (g8 (aA (pU OE) ep K v) D M' Z ts T1 R' n kn ak pk [] ek 0 o7 (itE D it 0))->
   CX w 355 (gh w n it) (g8 (aA (pU OE) ep K v) D M' Z ts T1 R' n kn ak pk [] ek 0 o7 (itE D it 0)) (λr L'=>r=.ok .next/\∃OF J,PO OF (J++T2)/\jU D M' Z ts R' n kn ak pk' OF J L'))
  (FL:aj (iB D Z n (kP (aA sh ep K v) n kn pk ek) o6 o7 o8 o9 T R)):
  WX w 355 (execs (df w) (aU w n)) (iB D Z n (kP (aA sh ep K v) n kn pk ek) o6 o7 o8 o9 T R)
   (mo D Z n kn R pk' PO):=by
 revert Q hc OJ OG FL;revert K v pk pk' o6 o7 o8 o9 T R sh PI PO;ext w D m Z sS rL n kn ek ep;intro K v pk pk' o6 o7 o8 o9 T R sh PI;ext K v pk pk' o6 o7 o8 o9 T R sh PI;intro PO;ext PO;intro Q hc OJ OG FL;rw[CK];refine WX.app (((HA Q hc FL).depth (by decide)).mono (Ll λM tg hN F1=>⟨rfl,?_⟩));ext M tg ⟨hN,F1⟩;refine WX.app (((OJ M tg hN F1).depth (by decide)).mono (Lo λM' ts OE OO K' v' T1 T2 OM hv F2=>⟨rfl,?_⟩));ext M' ts OE OO K' v' T1 T2 ⟨OM,hv,F2⟩;obtain⟨hs,OG⟩:=OG M' ts OE T1 T2 OM;refine(JQ hs hv F2 (post:=λL'=>∃OF J,PO OF (J++T2)/\∃ak,jU D M' Z ts (T2++([⟨n+166,af (some (.str (gS Z.c) (tg+1)))⟩]++R)) n kn ak pk' OF J L') λep K ak it hI F3=>?_).cut ?_
 .refine(OG ep K _ ak it _ hI F3).mono ?_;intro r L' h_;obtain⟨hr,OF,J,OH,hE⟩:=h_;exact⟨hr,hE.1,OF,J,OH,ak,hE⟩
 .intro f L3 h_;ext f L3 ⟨h_⟩;obtain⟨hf,OF,J,OH,ak,F3,o,OI,OK,ON,pa,OL,ea,hI,hL⟩:=h_;ext OF J ak o OI OK ON pa OL ea ⟨OH,hI,hL⟩;subst hL;obtain⟨h1,h2⟩:=JR F3;exact⟨_,h1,hf,h2,OF,J++T2,OI,OK,ON,OL,_,_,_,_,OH,hI.k,rfl⟩
end
def pV (k0 k1 k2:Nat) (J c1 c2:CO):List ad:=[⟨k0+158,J.o⟩,⟨k1+158,c1.o⟩,⟨k2+158,c2.o⟩]
def kN (D:KD) (T:Nat):Prop:=∀j<8,¬T<D.St (D.X j)
def oe (D:KD) (T c:Nat) (sh:cc):Prop:=match c with
 |0=>sh=.a0
 |_=>match T with
  |0=>sh=.a3
  |_=>(c<=T/\(sh=.b2\/(sh=.b1/\kN D T)))\/(T<c/\(sh=.b4\/(sh=.b3/\kN D T)))
theorem fH {D sh} (hT:T≠0) (hc:c≠0):oe D T c sh↔(c<=T/\(sh=.b2\/(sh=.b1/\kN D T)))\/(T<c/\(sh=.b4\/(sh=.b3/\kN D T))):=by
 cases c with
 |zero=>exact bh rfl hc
 |succ c=>cases T with
  |zero=>exact bh rfl hT
  |succ T=>exact Iff.rfl
theorem pW {D sh} (hc:c≠0):oe D 0 c sh↔sh=.a3:=by
 cases c with
 |zero=>exact bh rfl hc
 |succ c=>exact Iff.rfl
def dN (TB:List ad):Prop:=∃k0 k1 k2 k3 J c1 c2 c3,TB=dj k0 k1 k2 k3 c3++pV k0 k1 k2 J c1 c2
def jn (T c:Nat) (TB:List ad):Prop:=match T with
 |0=>match c with
  |0=>TB=[⟨78,aP []⟩]
  |_=>dN TB
 |_=>dN TB
def u4 (D:KD) (Z:KT):cc->List ad->Prop:=λOE J=>oe D Z.T (Z.c+1) OE/\jn Z.T (Z.c+1) J
section
variable {w:World} {D:KD} {m:Nat} {Z:KT} {sS:Nat->Nat->List Nat} {rL:Nat->List Nat} (Q:KW D Z.T m sS rL) (hc:Z.c<3) {n kn ek ep:Nat} {K:Nat->Int×Nat} {v:Nat->Value} {pk:List (Int×Nat)} (hpk:pk.length<=20) {o6 o7 o8 o9:Option Value} {TB R:List ad} {sh:cc}
include Q hc
theorem w6 {sh sh'} {TP:List ad->Prop} (h:kN D Z.T):iM w D M Z ts n sh sh' T TP:=λj hj hd=>bh hd (h j hj)
include hpk
theorem sC:∀(hv:v 0=.ref (kn+158)) (OF:Z.c≠Z.T) (OH:w0 sh=true) {T1 T2} {PO:cc->List ad->Prop}
  (OG:∀M,(∀k<8,M.N k=ae (cv (sS (D.X k) Z.c) (rL (D.X k)) (cH (D.X k) Z.c)))->∀ep K v ak it R',kf v kn ak->aj (g8 (aA (pU sh) ep K v) D M Z M.ths T1 R' n kn ak pk [] ek 0 o7 (itE D it 0))->
   CX w 355 (gh w n it) (g8 (aA (pU sh) ep K v) D M Z M.ths T1 R' n kn ak pk [] ek 0 o7 (itE D it 0)) (λr L'=>r=.ok .next/\∃OI OE,PO OI (OE++T2)/\jU D M Z M.ths R' n kn ak (pk++dD D Z 8) OI OE L'))
  (FL:aj (iB D Z n (kP (aA sh ep K v) n kn pk ek) o6 o7 o8 o9 (T1++T2) R)),WX w 355 (execs (df w) (aU w n)) (iB D Z n (kP (aA sh ep K v) n kn pk ek) o6 o7 o8 o9 (T1++T2) R)
   (mo D Z n kn R (pk++dD D Z 8) PO):=by
 revert w D m Z sS rL n kn ek ep K v pk o6 o7 o8 o9 R sh;ext w D m Z sS rL:0;intro Q hc;ext n kn ek ep K v pk:0;intro hpk;ext o6 o7 o8 o9 R sh:0;intro hv OF OH;ext T1 T2 PO:0;intro OG FL;refine rE Q hc (PI:=λM' ts J S1 S2=>(∀k<8,M'.N k=ae (cv (sS (D.X k) Z.c) (rL (D.X k)) (cH (D.X k) Z.c)))/\ts=M'.ths/\J=sh/\S1=T1/\S2=T2)
  (λM tg hN F=>yP (b:=false) (by simp;exact λe=>OF (by exact_mod_cast e.symm)) F ⟨rfl,F,M,M.ths,sh,ep,K,v,T1,T2,⟨hN,rfl,rfl,rfl,rfl⟩,hv,rfl⟩) ?_ FL
 rintro M' ts J S1 S2 ⟨hN,e1,e2,e3,e4⟩;ext M' ts J S1 S2 ⟨hN,e1,e2,e3,e4⟩;subst e1 e2 e3 e4;exact⟨OH,λep K v ak it R' hI F=>OG M' hN ep K v ak it R' hI F⟩
omit Q hc hpk in
theorem Nb (D Z):pR D Z 0 []:=⟨λk hk=>⟨λh=>by simp[eg] at h,λJ=>by obtain⟨j,h1,_⟩:=J;exact bh h1 (Nat.not_lt_zero _)⟩,iU _⟩
omit Q hc in
theorem yQ (J:cu D M Z m sL rL) {sh} (h4:∀j<8,Z.T<D.St (D.X j)->jw sh=true) (hK:iM w D M Z ts n sh sh T1 (·=T1)) {ep ak it K v} (hI:kf v kn ak)
  (F:aj (g8 (aA sh ep K v) D M Z ts T1 R' n kn ak pk [] ek 0 o7 (itE D it 0))):
  CX w 355 (gh w n it) (g8 (aA sh ep K v) D M Z ts T1 R' n kn ak pk [] ek 0 o7 (itE D it 0)) (λr L'=>r=.ok .next/\jU D M Z ts R' n kn ak (pk++dD D Z 8) sh T1 L'):=by
 have e:pk=pk++dD D Z 0:=by simp[dD]
 have:=yN (w:=w) (R:=R') (it:=it) J hpk h4 hK 8 0 rfl (iU _) o7 ep K v [] ek 0 hI (Nb D Z);rw[<-e] at this;exact this F
omit Q hc in
theorem w7 (QD:cu D M Z m sL rL) {sh sh'} {TP:List ad->Prop} (h5:Ct sh=true) (h4:jw sh'=true) (hK:iM w D M Z ts n sh sh' T1 TP) (OE:∀J,TP J->iM w D M Z ts n sh' sh' J (·=J)) {ep ak it K v} (hI:kf v kn ak)
  (F:aj (g8 (aA sh ep K v) D M Z ts T1 R' n kn ak pk [] ek 0 o7 (itE D it 0))):
  CX w 355 (gh w n it) (g8 (aA sh ep K v) D M Z ts T1 R' n kn ak pk [] ek 0 o7 (itE D it 0))
   (λr L'=>r=.ok .next/\((kN D Z.T/\jU D M Z ts R' n kn ak (pk++dD D Z 8) sh T1 L')\/((∃j<8,Z.T<D.St (D.X j))/\∃J,TP J/\jU D M Z ts R' n kn ak (pk++dD D Z 8) sh' J L'))):=by
 have e:pk=pk++dD D Z 0:=by simp[dD]
 have:=Ev (w:=w) (R:=R') (it:=it) QD hpk h5 h4 hK OE 8 0 rfl (iU _) (λj h=>bh h (Nat.not_lt_zero _)) o7 ep K v ek 0 hI;rw[<-e] at this;exact this F
omit Q hc hpk in
theorem Lx (J:cu D M Z m sL rL):iM w D M Z M.ths n .a3 .a3 (dj k0 k1 k2 k3 c3) (·=dj k0 k1 k2 k3 c3):=λU hj hd U U U F=>Ai J hj hd (sh:=.a3) rfl F
omit Q hc hpk in
theorem Ge (J:cu D M Z m sL rL):iM w D M Z M.ths n .b2 .b2 (dj k0 k1 k2 k3 c3) (·=dj k0 k1 k2 k3 c3):=λU hj hd U U U F=>Ai J hj hd (sh:=.b2) rfl F
omit Q hc hpk in
theorem Ly (J:cu D M Z m sL rL):iM w D M Z M.ths n .b1 .b2 (dj k0 k1 k2 k3 c3) (·=dj k0 k1 k2 k3 c3):=λU hj hd U U U F=>Ai J hj hd (sh:=.b1) rfl F
omit Q hc hpk in
theorem Lz (J:cu D M Z m sL rL):iM w D M Z M.ths n .b4 .b4 (dj k0 k1 k2 k3 c3) (·=dj k0 k1 k2 k3 c3):=λU hj hd U U U F=>Ai J hj hd (sh:=.b4) rfl F
theorem Ao:∀(hv:v 0=.ref (kn+158)) (OI:Z.c≠Z.T) (OG:oe D Z.T Z.c sh) (OF:jn Z.T Z.c TB) (FL:aj (iB D Z n (kP (aA sh ep K v) n kn pk ek) o6 o7 o8 o9 TB R)),WX w 355 (execs (df w) (aU w n)) (iB D Z n (kP (aA sh ep K v) n kn pk ek) o6 o7 o8 o9 TB R)
   (mo D Z n kn R (pk++dD D Z 8) (u4 D Z)):=by
 revert w D m Z sS rL n kn ek ep K v pk o6 o7 o8 o9 TB R sh;ext w D m Z sS rL:0;intro Q hc;ext n kn ek ep K v pk:0;intro hpk;ext o6 o7 o8 o9 TB R sh:0;intro hv OI OG OF FL;have OK:dN TB:=by
  unfold jn at OF;split at OF
  .split at OF
   .lia
   .exact OF
  .exact OF
 obtain⟨k0,k1,k2,k3,c0,c1,c2,c3,rfl⟩:=OK;ext k0 k1 k2 k3 c0 c1 c2 c3 ⟨OF,FL⟩;have OH:∀{T c},jn T (c+1) (dj k0 k1 k2 k3 c3++pV k0 k1 k2 c0 c1 c2):=λ{T c}=>by
  cases T<;>exact⟨k0,k1,k2,k3,c0,c1,c2,c3,rfl⟩
 have QD:=λ{M:KN} (hN:∀k<8,M.N k=ae (cv (sS (D.X k) Z.c) (rL (D.X k)) (cH (D.X k) Z.c)))=>Q.dat (tT:=Z.tT) (tc:=Z.tc) hc hN;have st:∀{sh'},pU sh=sh'->w0 sh=true->(∀j<8,Z.T<D.St (D.X j)->jw sh'=true)->(∀M,(∀k<8,M.N k=ae (cv (sS (D.X k) Z.c) (rL (D.X k)) (cH (D.X k) Z.c)))->iM w D M Z M.ths n sh' sh' (dj k0 k1 k2 k3 c3) (·=dj k0 k1 k2 k3 c3))->oe D Z.T (Z.c+1) sh'->
   WX w 355 (execs (df w) (aU w n)) (iB D Z n (kP (aA sh ep K v) n kn pk ek) o6 o7 o8 o9 (dj k0 k1 k2 k3 c3++pV k0 k1 k2 c0 c1 c2) R)
   (mo D Z n kn R (pk++dD D Z 8) (u4 D Z)):=λ{sh'} e OL h4 hK OJ=>
  sC Q hc hpk hv OI OL (PO:=u4 D Z) (λM hN ep K v ak it R' hI F=>by
   rw[e] at F|-;exact(yQ hpk (QD hN) h4 (hK M hN) hI F).mono λr L' h=>⟨h.1,sh',_,⟨OJ,OH⟩,h.2⟩) FL
 by_cases c0:Z.c=0
 .have J:Z.T≠0:=λe=>OI (c0.trans e.symm);have e:sh=.a0:=by rw[c0] at OG;exact OG
  subst e;refine sC Q hc hpk hv OI rfl (PO:=u4 D Z) (λM hN ep K v ak it R' hI F=>?_) FL;refine(w7 hpk (QD hN) (sh:=.b1) (sh':=.b2) (TP:=(·=dj k0 k1 k2 k3 c3)) rfl rfl (Ly (QD hN)) (λT' e=>by subst e;exact Ge (QD hN)) hI F).mono ?_;rintro r L' ⟨hr,h⟩;refine⟨hr,?_⟩;rcases h with⟨OE,h⟩|⟨_,T',rfl,h⟩
  .exact⟨.b1,_,⟨(fH J (by simp)).mpr (.inl ⟨by lia,.inr ⟨rfl,OE⟩⟩),OH⟩,h⟩
  .exact⟨.b2,_,⟨(fH J (by simp+arith)).mpr (.inl ⟨by lia,.inl rfl⟩),OH⟩,h⟩
 .by_cases J:Z.T=0
  .rw[J] at OG;have e:=(pW c0).mp OG;subst e;exact st (sh':=.a3) rfl rfl (λU U U=>rfl) (λM hN=>Lx (QD hN)) (by rw[J];exact(pW (by simp+arith)).mpr rfl)
  .rcases(fH J c0).mp OG with⟨h1,rfl|⟨rfl,OE⟩⟩|⟨h1,rfl|⟨rfl,OE⟩⟩
   .exact st (sh':=.b2) rfl rfl (λU U U=>rfl) (λM hN=>Ge (QD hN)) ((fH J (by lia)).mpr (.inl ⟨by lia,.inl rfl⟩))
   .exact st (sh':=.b1) rfl rfl (λj hj hd=>bh hd (OE j hj)) (λM hN=>w6 Q hc OE) ((fH J (by lia)).mpr (.inl ⟨by lia,.inr ⟨rfl,OE⟩⟩))
   .exact st (sh':=.b4) rfl rfl (λU U U=>rfl) (λM hN=>Lz (QD hN)) ((fH J (by lia)).mpr (.inr ⟨by exact(au h1),.inl rfl⟩))
   .exact st (sh':=.b3) rfl rfl (λj hj hd=>bh hd (OE j hj)) (λM hN=>w6 Q hc OE) ((fH J (by lia)).mpr (.inr ⟨by exact(au h1),.inr ⟨rfl,OE⟩⟩))
end
section
variable {w:World} {D:KD} {m:Nat} {Z:KT} {sS:Nat->Nat->List Nat} {rL:Nat->List Nat} (Q:KW D Z.T m sS rL) (hc:Z.c<3) {n kn ek ep:Nat} {K:Nat->Int×Nat} {v:Nat->Value} {pk:List (Int×Nat)} (hpk:pk.length<=20) {o6 o7 o8 o9:Option Value} {TB R:List ad} {sh:cc}
include Q hc hpk
def ME (Z:KT) (D:KD) (sS:Nat->Nat->List Nat) (rL:Nat->List Nat) (J:cc) (T1 T2:List ad):KN->List an->cc->List ad->List ad->Prop:=λM' ts sh S1 S2=>∃M x0 x1 x2,(∀k<8,M.N k=ae (cv (sS (D.X k) Z.c) (rL (D.X k)) (cH (D.X k) Z.c)))/\mM Z.c [x0,x1,x2]/\M'=jm M/\ts=M.ths++[x0,x1,x2]/\sh=J/\S1=T1/\S2=T2
set_option tactic.hygienic true in
theorem Ap:∀(hv:v 0=.ref (kn+158)) (OE:Z.c=0) (J:Z.T=0) (OG:∀j<8,0<D.St (D.X j)) (FL:aj (iB D Z n (kP (aA .a0 ep K v) n kn pk ek) o6 o7 o8 o9 [⟨78,aP []⟩] R)),WX w 355 (execs (df w) (aU w n)) (iB D Z n (kP (aA .a0 ep K v) n kn pk ek) o6 o7 o8 o9 [⟨78,aP []⟩] R)
   (mo D Z n kn R (pk++dD D Z 8) (u4 D Z)):=by
 revert w D m Z sS rL n kn ek ep K v pk o6 o7 o8 o9 R;ext w D m Z sS rL:0;intro Q hc;ext n kn ek ep K v pk:0;intro hpk;ext o6 o7 o8 o9 R:0;intro hv OE J OG FL;have QD:=λ{M:KN} (hN:∀k<8,M.N k=ae (cv (sS (D.X k) Z.c) (rL (D.X k)) (cH (D.X k) Z.c)))=>Q.dat (tT:=Z.tT) (tc:=Z.tc) hc hN;refine rE Q hc (PI:=λM' ts sh S1 S2=>∃k0 k1 k2 c0 c1 c2,ME Z D sS rL .a1 (wI k0 k1 k2) (pV k0 k1 k2 c0 c1 c2) M' ts sh S1 S2)
  (λM tg hN F=>?_) (λM' ts OO S1 S2 OK=>?_) FL
 .ext M tg ⟨hN,F⟩;refine(Gd (c:=0) (sh':=.a1) (TP:=λT'=>∃k0 k1 k2 c0 c1 c2,T'=MD k0 k1 k2 c0 c1 c2) OE (by decide) J rfl (λFk=>Ex (QD hN) OE Fk) F).mono (F0 λT' OJ K' v' x0 x1 x2 hT hx OL F2=>?_);ext T' OJ K' v' x0 x1 x2 ⟨hT,hx,OL,F2⟩;refine eO λ_ k_=>?_;rename_i OM;ext OM ⟨k_⟩;obtain⟨k0,k1,k2,c0,c1,c2,hT⟩:=hT;ext k0 k1 k2 c0 c1 c2 ⟨hT⟩;refine k_ ?_;subst hT;exact⟨rfl,F2,jm M,_,.a1,OJ,K',v',wI k0 k1 k2,pV k0 k1 k2 c0 c1 c2,⟨k0,k1,k2,c0,c1,c2,M,x0,x1,x2,hN,OE▸hx,rfl,rfl,rfl,rfl,rfl⟩,OL.trans hv,rfl⟩
 .ext M' ts OO S1 S2 ⟨OK⟩;refine eO λ_ k_=>?_;rename_i OI;ext OI ⟨k_⟩;obtain⟨k0,k1,k2,c0,c1,c2,M,x0,x1,x2,hN,hx,rfl,rfl,rfl,rfl,rfl⟩:=OK;ext k0 k1 k2 c0 c1 c2 M x0 x1 x2 ⟨hN,hx,k_⟩;refine k_ ?_;refine⟨rfl,λep K v ak it R' hI F=>?_⟩;ext ep K v ak it R' ⟨hI,F⟩;have OH:∀k<8,(jm M).N k=ae (cv (sS (D.X k) Z.c) (rL (D.X k)) (cH (D.X k) Z.c)):=hN;refine(w7 hpk (QD OH) (sh:=.a2) (sh':=.a3) (ts:=(jm M).ths++[x0,x1,x2]) (TP:=λT'=>∃k3 y z,T'=[⟨78,pH k0 k1 k2 k3⟩,⟨k3+158,fO 96 y z 11⟩]) rfl rfl (λj hj hd ep K v F=>M8 (QD OH) hj hd hx F) (λT' OF=>by
   obtain⟨k3,y,z,e⟩:=OF;subst e;exact λj hj hd ep K v F=>FY (c3:=CJ 96 y z 11) (QD OH) hj hd (sh:=.a3) rfl hx F) hI F).mono λr L' h=>⟨h.1,?_⟩
  ext r L' ⟨h⟩;rcases h.2 with⟨ON,h⟩|⟨_,T',⟨k3,y,z,rfl⟩,h⟩
  .exact bh (OG 0 (by decide)) (by have:=ON 0 (by decide);rw[J] at this;exact this)
  .ext k3 y z ⟨h⟩;refine⟨.a3,_,⟨by rw[J];exact(pW (ka (bN (Nat.succ 0) (KT.c Z)))).mpr rfl,?_⟩,h⟩;rw[J,OE];exact⟨k0,k1,k2,k3,c0,c1,c2,CJ 96 y z 11,rfl⟩
omit Q hc hpk in
theorem CL:(kg D M Z n P ts o7 tg (lA k0 k1 k2 k3 c0 c1 c2) ([⟨k3+158,c3.o⟩]++R)).Perm (kg D M Z n P ts o7 tg (dj k0 k1 k2 k3 c3++pV k0 k1 k2 c0 c1 c2) R):=
 AT.perm [P,[⟨n+167,af o7⟩],kX D M Z n,D.ins,[⟨78,pH k0 k1 k2 k3⟩],[⟨k3+158,c3.o⟩],pV k0 k1 k2 c0 c1 c2,cO M.L ts M.eL,[⟨n+166,af (some (.str (gS Z.c) (tg+1)))⟩],R] (.r [0,1,2,3,4,5,6,7,8,9]) (.r [0,1,2,3,4,6,7,8,5,9]) (by decide+kernel)
set_option tactic.hygienic true in
theorem Aq:∀(hv:v 0=.ref (kn+158)) (OG:Z.c=Z.T) (OE:Z.T≠0) (OP:oe D Z.T Z.c sh) (OF:jn Z.T Z.c TB) (FL:aj (iB D Z n (kP (aA sh ep K v) n kn pk ek) o6 o7 o8 o9 TB R)),WX w 355 (execs (df w) (aU w n)) (iB D Z n (kP (aA sh ep K v) n kn pk ek) o6 o7 o8 o9 TB R)
   (mo D Z n kn R (pk++dD D Z 8) (u4 D Z)):=by
 revert w D m Z sS rL n kn ek ep K v pk o6 o7 o8 o9 TB R sh;ext w D m Z sS rL:0;intro Q hc;ext n kn ek ep K v pk:0;intro hpk;ext o6 o7 o8 o9 TB R sh:0;intro hv OG OE OP OF FL;have QD:=λ{M:KN} (J:∀k<8,M.N k=ae (cv (sS (D.X k) Z.c) (rL (D.X k)) (cH (D.X k) Z.c)))=>Q.dat (tT:=Z.tT) (tc:=Z.tc) hc J;have OQ:dN TB:=by
  unfold jn at OF;split at OF
  .rename_i h;exact bh h OE
  .exact OF
 refine eO λ_ k_=>?_;rename_i OJ;ext OJ ⟨k_⟩;obtain⟨k0,k1,k2,k3,c0,c1,c2,c3,rfl⟩:=OQ;ext k0 k1 k2 k3 c0 c1 c2 c3 ⟨OF,FL,k_⟩;refine k_ ?_;have OL:jn Z.T (Z.c+1) (dj k0 k1 k2 k3 c3++pV k0 k1 k2 c0 c1 c2):=by
  unfold jn;split
  .rename_i h;exact bh h OE
  .exact⟨k0,k1,k2,k3,c0,c1,c2,c3,rfl⟩
 have OK:Z.c=1\/Z.c=2:=by lia
 have go:∀{sh'},CE sh'=true->w0 sh'=true->pU sh'=sh'->(∀j<8,Z.T<D.St (D.X j)->jw sh'=true)->
   (∀M,(∀k<8,M.N k=ae (cv (sS (D.X k) Z.c) (rL (D.X k)) (cH (D.X k) Z.c)))->∀x0 x1 x2,mM Z.c [x0,x1,x2]->iM w D (jm M) Z ((jm M).ths++[x0,x1,x2]) n sh' sh' (dj k0 k1 k2 k3 c3) (·=dj k0 k1 k2 k3 c3))->oe D Z.T (Z.c+1) sh'->
   (∀M,(∀k<8,M.N k=ae (cv (sS (D.X k) Z.c) (rL (D.X k)) (cH (D.X k) Z.c)))->∀tg,∃b,aj (mK (lA k0 k1 k2 k3 c0 c1 c2) (aA sh ep K v) M n Z.c tg)->WX w 360 (execs ((fA (gA w)).take 3) (aU w n)) (mK (lA k0 k1 k2 k3 c0 c1 c2) (aA sh ep K v) M n Z.c tg) (sz M n Z.c b tg v sh' (λT'=>T'=lA k0 k1 k2 k3 c0 c1 c2)))->
   WX w 355 (execs (df w) (aU w n)) (iB D Z n (kP (aA sh ep K v) n kn pk ek) o6 o7 o8 o9 (dj k0 k1 k2 k3 c3++pV k0 k1 k2 c0 c1 c2) R)
   (mo D Z n kn R (pk++dD D Z 8) (u4 D Z)):=λ{sh'} hK hA hn h4 ON OH OM=>by
  ext sh' ⟨hK,hA,hn,h4,ON,OH,OM⟩;refine rE Q hc (PI:=ME Z D sS rL sh' (dj k0 k1 k2 k3 c3) (pV k0 k1 k2 c0 c1 c2))
   (λM tg J F=>?_) (λM' ts OU S1 S2 OO=>?_) FL
  .ext M tg ⟨J,F⟩;obtain⟨b,hk⟩:=OM M J tg;refine WX.as F CL λF2=>?_;refine(Gd (b:=b) (TP:=λT'=>T'=lA k0 k1 k2 k3 c0 c1 c2) rfl hc OG.symm hK hk F2).out (F0 λT' OR K' v' x0 x1 x2 hT hx OT F3=>?_);subst hT;exact⟨F3,_,CL.symm,λF4=>⟨rfl,F4,jm M,_,sh',OR,K',v',dj k0 k1 k2 k3 c3,pV k0 k1 k2 c0 c1 c2,⟨M,x0,x1,x2,J,hx,rfl,rfl,rfl,rfl,rfl⟩,OT.trans hv,rfl⟩⟩
  .ext M' ts OU S1 S2 ⟨OO⟩;refine eO λ_ k_=>?_;obtain⟨M,x0,x1,x2,J,hx,rfl,rfl,rfl,rfl,rfl⟩:=OO;refine k_ ?_;refine⟨hA,λep K v ak it R' hI F=>?_⟩;rw[hn] at F|-;have OS:∀k<8,(jm M).N k=ae (cv (sS (D.X k) Z.c) (rL (D.X k)) (cH (D.X k) Z.c)):=J;exact(yQ hpk (QD OS) (ts:=(jm M).ths++[x0,x1,x2]) h4 (ON M J x0 x1 x2 hx) hI F).mono λr L' h=>⟨h.1,_,_,⟨OH,OL⟩,h.2⟩
 rcases(fH OE (by lia)).mp OP with⟨h1,rfl|⟨rfl,OI⟩⟩|⟨h1,_⟩
 .refine go (sh':=.b4) rfl rfl rfl (λ_ _ _=>rfl) (λM J x0 x1 x2 hx j hj hd ep K v F=>FY (QD (M:=jm M) J) hj hd (sh:=.b4) rfl hx F) ((fH OE (by simp+arith)).mpr (.inr ⟨by exact(au (ii OG)),.inl rfl⟩)) λM J tg=>?_;exact⟨_,λF=>JO (QD J) true OK F⟩
 .refine go (sh':=.b3) rfl rfl rfl (λj hj hd=>bh hd (OI j hj)) (λM J x0 x1 x2 hx=>w6 Q hc OI) ((fH OE (by simp+arith)).mpr (.inr ⟨by exact(au (ii OG)),.inr ⟨rfl,OI⟩⟩)) λM J tg=>?_;exact⟨_,λF=>JO (QD J) false OK F⟩
 .lia
theorem EA (OG:Z.T=0->∀j<8,0<D.St (D.X j)) (hv:v 0=.ref (kn+158)) (J:oe D Z.T Z.c sh) (OE:jn Z.T Z.c TB) (FL:aj (iB D Z n (kP (aA sh ep K v) n kn pk ek) o6 o7 o8 o9 TB R)):
  WX w 355 (execs (df w) (aU w n)) (iB D Z n (kP (aA sh ep K v) n kn pk ek) o6 o7 o8 o9 TB R)
   (mo D Z n kn R (pk++dD D Z 8) (u4 D Z)):=by
 by_cases h:Z.c=Z.T
 .by_cases hT:Z.T=0
  .have OF:=h.trans hT;have e1:sh=.a0:=by rw[OF] at J;exact J
   have e2:TB=[⟨78,aP []⟩]:=by rw[OF,hT] at OE;exact OE
   subst e1 e2;exact Ap Q hc hpk hv OF hT (OG hT) FL
  .exact Aq Q hc hpk hv h hT J OE FL
 .exact Ao Q hc hpk hv h J OE FL
end
section
variable {w:World} {d D₀ dh:Nat} {hs:List aq} (hD:D₀+5<1000) (hh:dh<=950) (hd:d<=D₀) {l ch R:List ad} (F:aj (ch++R)) (hl:∀e∈l,e∈ch\/e∈R) (Fl:aj l) (H:∀f∈hs,ai w dh f)
include hD hh hd F hl Fl H
theorem CX.runF {c:Code} (hc:bq c) {post:Result->List ad->Prop} (nh J orc:Nat) (ix:List Nat) (sh:Nat->Nat->Nat->List HR->Sh) (l':Nat->Nat->Nat->List HR->(Nat->Obj)->List ad)
  (OE:∀n t g rs,rs.length=nh->bP (vL w D₀ dh hs) J c .top (aM c) orc l n t g rs ix (sh n t g rs) (λo=>(l' n t g rs o).map some) [])
  (hp:∀n t g rs o,rs.length=nh->(∀a∈aC l,a<n+158)->(∀e∈l' n t g rs o,e.a∈aC l\/n+158<=e.a)->(eD ix=true->aj (l' n t g rs o))->∃ch' C,(∀e∈ch'++C,e∈l' n t g rs o)/\(∀e∈l,e∈ch\/e∈C)/\aj (ch'++C)/\
   (aj (ch'++R)->match sh n t g rs with
    |.ret r=>post r (ch'++R)
    |.again c'=>c'.quiet=true/\CX w d c' (ch'++R) post
    |_=>False)):CX w d c (ch++R) post:=by
 revert hD hh hd F hl Fl H hc OE hp;ext w d D₀ dh hs l ch R c post nh J ⟨orc,ix,sh,l'⟩;ext orc ix sh l';intro hD hh hd F hl Fl H hc OE hp;intro A s hA T Hs;ext A s ⟨hA,T,Hs⟩;have Hl:aQ s l:=λe he=>Hs e (dk.mpr (hl e he));obtain⟨n,t,g,S⟩:=T.st Hl Fl;ext n t g ⟨S⟩;have OH:s.heap.objs.size=n+158:=S.size;have OJ:∀a∈aC l,a<n+158:=λa ha=>by rw[<-OH];exact Hl.lt a ha
 refine oO (v:=vL w D₀ dh hs) (bE H hD hh) (hA.mono hd) S hc nh J orc ix (λrs=>sh n t g rs) (λrs=>(l' n t g rs (bl (vL w D₀ dh hs) J c .top (aM c) orc l n t g rs).obj).map some) (λU=>[]) (OE n t g) λrs s1 OG D P=>?_;ext rs s1 ⟨OG,D,P⟩;have D1:bH w s s1 (aC l) (l' n t g rs (bl (vL w D₀ dh hs) J c .top (aM c) orc l n t g rs).obj):=D.aft T;obtain⟨ch',C,h1,h2,h3,h4⟩:=hp n t g rs _ OG OJ (λe he=>by rw[<-OH];exact D1.adr e he) (λhx=>⟨by
   have:=P (dZ hx);exact(mT.mp this).imp λh=>h _ _ rfl rfl,λe he=>by
   rcases D1.adr e he with q|q
   .obtain⟨f,hf,OI⟩:=cT.mp q;rw[<-OI];exact Fl.high f hf
   .left;omega⟩)
 obtain⟨F2,D2⟩:=ni F hl Hs D1 h1 h2 h3;have z:=h4 F2;revert z;cases sh n t g rs with
 |ret r=>exact λz=>⟨_,z,D2⟩
 |again c'=>exact λz=>⟨z.1,eG (z.2 A s1 hA D2.top D2.has) λr s' OF=>by obtain⟨l2,hp,D3⟩:=OF;exact⟨l2,hp,D2.trans D3⟩⟩
 |call tp OK c' gd=>cases tp<;>exact λz=>z.elim
 |fin f=>exact λz=>z.elim
 |raise e=>exact λz=>z.elim
 |yield v=>exact λz=>z.elim
end
section
variable {w:World} {d D₀ dh:Nat} {hs:List aq} (hD:D₀+5<1000) (hh:dh<=950) (hd:d<=D₀) {l R:List ad} (F:aj (l++R)) (H:∀f∈hs,ai w dh f)
include hD hh hd F H
theorem CX.runP {c:Code} (hc:bq c) {post:Result->List ad->Prop} (nh J orc:Nat) (ix:List Nat) (hx:eD ix=true) (sh:Nat->Nat->Nat->(Nat->HR)->Sh) (l':Nat->Nat->Nat->(Nat->HR)->(Nat->Obj)->List ad)
  (OF:∀n t g r,bP (vL w D₀ dh hs) J c .top (aM c) orc l n t g (bO r 0 nh) ix (sh n t g r) (λo=>(l' n t g r o).map some) [])
  (hp:∀n t g r o,aj (l' n t g r o++R)->match sh n t g r with
    |.ret x=>post x (l' n t g r o++R)
    |.again c'=>c'.quiet=true/\CX w d c' (l' n t g r o++R) post
    |_=>False):CX w d c (l++R) post:=
 CX.runF hD hh hd F (l:=l) (λe he=>.inl he) F.left H hc nh J orc ix (λn t g rs=>sh n t g λi=>rs.getD i h0) (λn t g rs=>l' n t g λi=>rs.getD i h0) (λn t g rs OE=>by have z:=OF n t g λi=>rs.getD i h0;rwa[c4 OE] at z)
  λn t g rs o OE U U hF=>⟨l' n t g (λi=>rs.getD i h0) o,[],λe he=>by rwa[fT] at he,λe he=>.inl he,by rw[fT];exact hF hx,λF2=>hp n t g (λi=>rs.getD i h0) o F2⟩
end
def jo (D:KD) (T:Nat) (i:Nat):List (Int×Nat):=(List.range i).flatMap λc=>dD D ⟨T,0,c,0⟩ 8
theorem og (D T tT i tc):jo D T (i+1)=jo D T i++dD D ⟨T,tT,i,tc⟩ 8:=by
 unfold jo;rw[List.range_succ,rP,rO];rfl
def CM (D:KD) (n T tT:Nat) (P:List ad) (J o6 o7 o8 o9:Option Value) (TB it R:List ad):List ad:=P++([⟨n+165,af J⟩]++(it++([⟨n+166,af o6⟩,⟨n+168,af o8⟩,⟨n+169,af o9⟩]++([⟨n+167,af o7⟩]++(qr D n T tT++(dL D++(D.ins++(TB++R))))))))
theorem w8 {D n T tT i ti TB it R}:(iB D ⟨T,tT,i,ti⟩ n P o6 o7 o8 o9 TB (it++R)).Perm (CM D n T tT P (some (.int (i:Int) (ti+1))) o6 o7 o8 o9 TB it R):=
 AT.perm [P,[⟨n+165,af (some (.int (i:Int) (ti+1)))⟩],it,[⟨n+166,af o6⟩,⟨n+168,af o8⟩,⟨n+169,af o9⟩],[⟨n+167,af o7⟩],qr D n T tT,dL D,D.ins,TB,R] (.r [0,1,2,3,4,5,6,7,8,9]) (.r [0,3,4,5,1,6,7,8,2,9]) rfl
theorem sD (w):su (ky (An w))=true:=by kernel_rfl
theorem w9 (w n it):bq (sy w n it):=ba rfl
section
variable {w:World} {D:KD} {m T tT:Nat} {sS:Nat->Nat->List Nat} {rL:Nat->List Nat} (Q:KW D T m sS rL) {n kn it:Nat} {R:List ad}
include Q
theorem HD (i) (hi:i<=2):(jo D T i).length<=20:=by
 have h:∀c,(dD D ⟨T,0,c,0⟩ 8).length<=8:=λc=>by
  unfold dD;rw[lQ];have:=List.length_filter_le (lH D ⟨T,0,c,0⟩) (List.range 8);rw[List.length_range] at this;exact this
 have h0:=h 0;have J:=h 1;have:i=0\/i=1\/i=2:=by lia
 rcases this with rfl|rfl|rfl
 .exact iU _
 .rw[og D T 0 0 0,eh];show 0+_<=20;exact au h0
 .rw[og D T 0 1 0,og D T 0 0 0,eh,eh];show 0+_+_<=20;exact au (ax h0 J)
def xb (D:KD) (n T tT kn:Nat) (R:List ad) (L':List ad):Prop:=aj L'/\∃sh TB ep K v ek J o6 o7 o8 o9,dN TB/\v 0=.ref (kn+158)/\L'=CM D n T tT (kP (aA sh ep K v) n kn (jo D T 3) ek) J o6 o7 o8 o9 TB [] R
theorem HF:∀(OF:T=0->∀j<8,0<D.St (D.X j)),∀k i,3 - i=k->i<=3->∀sh TB ep K v ek oc o6 o7 o8 o9,oe D T i sh->jn T i TB->v 0=.ref (kn+158)->aj (CM D n T tT (kP (aA sh ep K v) n kn (jo D T i) ek) oc o6 o7 o8 o9 TB [⟨it+158,cf i (3 - i)⟩] R)->
  CX w 350 (sy w n it) (CM D n T tT (kP (aA sh ep K v) n kn (jo D T i) ek) oc o6 o7 o8 o9 TB [⟨it+158,cf i (3 - i)⟩] R) (λr L'=>r=.ok .next/\xb D n T tT kn R L'):=by
 revert w D m T tT sS rL n kn it R;ext w D m T tT sS rL:0;intro Q;ext n kn it R:0;intro OF;intro k;induction k with
 |zero=>
  intro i hk hi sh TB ep K v ek oc o6 o7 o8 o9 OE J hv FL;ext i sh TB ep K v ek oc o6 o7 o8 o9 ⟨hk,hi,OE,J,hv,FL⟩;obtain rfl:i=3:=by lia
  refine CX.for_ (w9 _ _ _) (aX rfl) (aX rfl) (λv=>lI (sD _) _ v) ?_;show WX _ _ _ _ _;refine WX.pk [3] rfl rfl FL λF2=>?_;refine WX.nxtE (l:=[⟨it+158,cf 3 0⟩]) (l':=[]) (hs:=[gY 0 (it+158) 3]) (D₀:=360) (dh:=400) (by decide) (by decide) (by decide) F2 (ah jT aE) 1 20 169870496 [] (List.nil_sublist _) (λn' t g r=>Ga n' t g it 3 (r 0) w) λF4=>?_;refine CX.fr0 (l:=[]) F4 ((u0 w n).depth (by decide)) ?_;rintro r l' ⟨h1,h2⟩;subst h1 h2;exact⟨cj,λF5=>⟨rfl,F5,sh,TB,ep,K,v,ek,oc,o6,o7,o8,o9,by cases T<;>exact J,hv,rfl⟩⟩
 |succ k ih=>
  ext k ⟨ih⟩;intro i hk hi sh TB ep K v ek oc o6 o7 o8 o9 OE J hv FL;ext i sh TB ep K v ek oc o6 o7 o8 o9 ⟨hk,hi,OE,J,hv,FL⟩;have OH:i<3:=i7 hk;have e3:3 - i=(3 - (i+1))+1:=Mh hk;rw[e3] at FL|-;refine CX.for_ (w9 _ _ _) (aX rfl) (aX rfl) (λv=>lI (sD _) _ v) ?_;show WX _ _ _ _ _;refine WX.pk [3] rfl rfl FL λF2=>?_;refine WX.nxtK (l:=[⟨it+158,cf i ((3 - (i+1))+1)⟩]) (l':=[⟨it+158,cf (i+1) (3 - (i+1))⟩]) (hs:=[gW 0 (it+158) i (3 - (i+1))]) (D₀:=360) (dh:=400) (by decide) (by decide) (by decide) F2 (ah gZ aE) 1 20 1184 [0] (λr=>.int (i:Int) ((r 0).x+1)) rfl (λn' t g r=>CG n' t g it i _ (r 0) w) λr F4=>?_;ext r;generalize(r 0).x=ti;show WX _ _ _ _ _;refine WX.pk [3] rfl rfl F4 λF5=>?_;refine WX.asgK (l:=[⟨n+165,af oc⟩]) (l':=[⟨n+165,af (some (.int (i:Int) (ti+1)))⟩]) (hs:=[]) (D₀:=360) (dh:=400) (by decide) (by decide) (by decide) F5 aE 20 164000 [0] rfl (λn' t g=>Lv w n n' t g oc i ti) λF6=>?_;refine WX.pk [2,3,0,1] rfl rfl F6 λF7=>?_;refine WX.as (L:=CM D n T tT (kP (aA sh ep K v) n kn (jo D T i) ek) (some (.int (i:Int) (ti+1))) o6 o7 o8 o9 TB [⟨it+158,cf (i+1) (3 - (i+1))⟩] R) F7 w8 λF8=>?_;refine WX.mono (EA (Z:=⟨T,tT,i,ti⟩) Q OH (HD Q i ((au OH))) (λh=>OF h) hv OE J F8) (CC λOM OI OK K2 v2 OJ q6 q7 q8 q9 h2 OL F9=>?_);show CX _ _ _ _ _;refine CX.as F9 w8.symm λOG=>?_;rw[<-og] at OG|-;exact ih (i+1) (ke hk) (by assumption) OM OI OK K2 v2 OJ _ q6 q7 q8 q9 h2.1 h2.2 OL OG
end
def HG (n:Nat):List ad:=[⟨n+165,af none⟩,⟨n+166,af none⟩,⟨n+167,af none⟩,⟨n+168,af none⟩,⟨n+169,af none⟩]
theorem Ar:∀{w D m T tT sS rL} (Q:KW D T m sS rL) (OE:T=0->∀j<8,0<D.St (D.X j)) {TB R} (OG:jn T 0 TB) (FL:aj (dL D++(D.ins++(TB++R)))),CX w 349 (CH D T tT) (dL D++(D.ins++(TB++R))) (λr L'=>aj L'/\∃kn ek J,r=.ok (.ret (.ref (kn+158)))/\dN J/\L'=[⟨kn+158,aa (am (jo D T 3)) ek⟩]++(dL D++(D.ins++(J++R)))):=by
 ext w D m T tT sS rL:0;intro Q OE;ext TB R:0;intro OG FL;refine CX.runP (l:=[]) (hs:=[]) (D₀:=360) (dh:=400) (by decide) (by decide) (by decide) FL aE (bJ _ _) 0 100 0x402298a6294a5290a428ca3288a2284a124091 [0,1,2,3,4,5,6,7,8,9,10,11] rfl (λn U U U=>.again (.func (bU w 145) (aU w n)))
  (λn U U U U=>[(⟨n+158,bW 0 (λU=>(0,0)) []⟩:ad)]++qr D n T tT++HG n) (λn t g U=>JM D T tT n t g w) λn t g r o F2=>⟨aX rfl,?_⟩
 ext n ⟨F2⟩;refine CX.func (w:=w) (d:=349) ?_;show WX _ _ _ _ _;rw[<-List.take_append_drop 2 (bU w 145)];refine WX.app (WX.mono (post:=λf L'=>f=.next/\∃kn,xb D n T tT kn R L') ?_ (My ?_))
 .refine SX.of_bx (w:=w) (d:=350) ?_;refine BX.callP (l:=[⟨n+158,bW 0 (λU=>(0,0)) []⟩]) (hs:=[jH 2 3]) (D₀:=360) (dh:=400) (by decide) (by decide) (by decide) F2 (ah (sw (by decide)) aE) 1 100 0xffca3004a2288a228800288a20000000003280a0 [0,1,3] rfl default
   (λU U U r=>sy w n (r 0).x) false (λn' U U r o=>[⟨n+158,aA .a0 (bD (o 0)) (KO (o 0)) (aD (λU=>.none) 0 (.ref (n'+158)))⟩,⟨n'+158,aa [] 0⟩,⟨(r 0).x+158,cf 0 3⟩])
   (λn' t g r=>M9 n (λU=>(0,0)) (λU=>.none) n' t g (r 0) w) λn' t g r o F3=>⟨λr L'=>r=.ok .next/\xb D n T tT n' R L',?_,?_⟩
  .refine CX.pk [0,1,9,2,10,12,13,11,3,4,5,6,7,8] rfl rfl F3 λF4=>?_;exact HF Q OE 3 0 rfl (by decide) .a0 TB _ _ _ 0 none none none none none rfl OG rfl F4
  .rintro x l2 ⟨hr,hE⟩;subst hr;exact BX.nil (hs:=[]) (D₀:=360) (dh:=400) (by decide) (by decide) (by decide) aE 20 0 (λn2 t2 g2=>Lt n (λU=>(0,0)) n' t g n2 t2 g2 (r 0) w) hE.1 ⟨rfl,n',hE⟩
 .intro L' h_;ext L' ⟨h_⟩;obtain⟨kn,FE,sh,J,ep,K,v,ek,oc,o6,o7,o8,o9,OF,hv,hL⟩:=h_;ext kn sh J ep K v ek oc o6 o7 o8 o9 ⟨OF,hv,hL⟩;subst hL;refine⟨rfl,?_⟩;have e0:aD v 0 (.ref (kn+158))=v:=cP hv;refine WX.pk [0] rfl rfl FE λFE=>?_;refine WX.outD (WX.fr0 (l:=[⟨n+158,aA sh ep K v⟩]) (post2:=λf l'=>f=.ret (.ref (kn+158))/\aj l'/\l'=[⟨kn+158,aa (am (jo D T 3)) ek⟩]++([⟨n+165,af oc⟩]++([]++([⟨n+166,af o6⟩,⟨n+168,af o8⟩,⟨n+169,af o9⟩]++([⟨n+167,af o7⟩]++(qr D n T tT++(dL D++(D.ins++(J++R)))))))))
   FE (WX.stm (w:=w) (d:=350) (hs:=λU=>[]) (D₀:=360) (dh:=400) (by decide) (by decide) (by decide) (FE.left (A:=[⟨n+158,aA sh ep K v⟩])) (λU U=>aE) (post:=λf l'=>f=.ret (.ref (kn+158))/\l'=[]) 0 20 160 [] (λU U U U=>.ret (.ref (kn+158))) (λU U U U=>[]) (λn' t g rs OI=>?_) λU U U U U U U U=>⟨rfl,rfl⟩) ?_) ?_
  .rw[dI.mp OI];have z:=Lu w n ep K v n' t g sh kn;rw[e0] at z;exact z
  .rintro f l' ⟨h1,h2⟩;subst h1 h2;exact⟨cj,λF4=>⟨rfl,F4,rfl⟩⟩
  .intro f l' h_;obtain⟨hf,F4,OH⟩:=h_;subst hf OH;exact⟨F4,_,_,AT.sub [[⟨kn+158,aa (am (jo D T 3)) ek⟩],[⟨n+165,af oc⟩,⟨n+166,af o6⟩,⟨n+168,af o8⟩,⟨n+169,af o9⟩,⟨n+167,af o7⟩]++qr D n T tT,dL D,D.ins,J,R] (.r [0,1,2,3,4,5]) (.r [0,2,3,4,5]) [1] rfl,λF=>⟨F,kn,ek,J,rfl,OF,rfl⟩⟩
section
open PySem.Sre (M ops)
def C2:Array Nat:= #[14,9,4,1,2,16,10,16,13,0,7,7,16,13,16,10,15,18,5,16,10,15,13,11,16,13,5,5,0,16,10,1,15,2,0,1]
def m2 (text:Array Nat) (lim start pc pos handed:Nat) (J:Bool) (frames:List Sre.Frame) (weight:Nat) (answer:Option Bool) (seen:Sre.Seen):M:=
 {code:=C2,text,lim,start,lastStart:=lim,pc,pos,handed,outermost:=J,marks:= #[],frames,weight,answer,seen}
def fS (s:Nat):Sre.Frame:={wait:=.nextStart,pc:=10,pos:=s,outermost:=true}
def fB (pc s:Nat):Sre.Frame:={wait:=.nextBranch,pc,pos:=s,outermost:=true}
def fN (s:Nat):Sre.Frame:={wait:=.lookNot,pc:=26,pos:=s,outermost:=true}
theorem aI (n) (m m':M) (h:m.outcome=none) (hs:m.step=m'):M.runFor (n+1) m=M.runFor n m':=by
 show(if m.outcome.isSome then m else M.runFor n m.step)=_;rw[h,hs];rfl
theorem gG:∀n (m:M),m.outcome.isSome=true->M.runFor n m=m
 |0,_,_=>rfl
 |n+1,m,h=>by
  show(if m.outcome.isSome then m else M.runFor n m.step)=_;rw[if_pos h]
theorem fD:∀a b (m:M),M.runFor (a+b) m=M.runFor b (M.runFor a m)
 |0,b,m=>by rw[Nat.zero_add];rfl
 |a+1,b,m=>by
  by_cases h:m.outcome.isSome=true
  .rw[gG _ _ h,gG _ _ h,gG _ _ h]
  .rw[show a+1+b=(a+b)+1 by lia];show(if m.outcome.isSome then m else M.runFor (a+b) m.step)=M.runFor b (if m.outcome.isSome then m else M.runFor a m.step);rw[if_neg h,if_neg h];exact fD a b _
section
variable {text:Array Nat} {lim s:Nat}
def Gf (pc c:Nat):Prop:=(c=13/\(pc=12\/pc=24))\/(c=10/\(pc=14\/pc=19\/pc=29))
theorem nj:∀{OF pc pos handed OE c om J seen} (OG:Gf pc c) (h1:pos<lim) (h2:text.getD pos 0=c),(m2 text lim OF pc pos handed om J OE none seen).step=m2 text lim OF (pc+2) (pos+1) handed om J OE none (seen.add 16):=by
 revert text lim;ext text lim OF pc pos handed OE c om J seen:0;intro OG h1 h2;have hn:¬pos>=lim:=by lia
 rcases OG with⟨rfl,rfl|rfl⟩|⟨rfl,rfl|rfl|rfl⟩;iterate 2
  .show(if pos>=lim then _ else match(Except.ok (text.getD pos 0==13,seen.add 16):Except String (Bool×Sre.Seen)) with|.error OH=>_|.ok (false,seen)=>_|.ok (true,seen)=>_)=_;rw[if_neg hn,h2];rfl
 iterate 3
  .show(if pos>=lim then _ else match(Except.ok (text.getD pos 0==10,seen.add 16):Except String (Bool×Sre.Seen)) with|.error OH=>_|.ok (false,seen)=>_|.ok (true,seen)=>_)=_;rw[if_neg hn,h2];rfl
theorem sE:∀{OF pc pos handed OE c om J seen} (OG:Gf pc c) (h:pos<lim->text.getD pos 0≠c),(m2 text lim OF pc pos handed om J OE none seen).step=m2 text lim OF pc pos handed om J OE (some false) (seen.add 16):=by
 revert text lim;ext text lim OF pc pos handed OE c om J seen:0;intro OG h;by_cases hn:pos>=lim
 .rcases OG with⟨rfl,rfl|rfl⟩|⟨rfl,rfl|rfl|rfl⟩;iterate 2
   .show(if pos>=lim then _ else match(Except.ok (text.getD pos 0==13,seen.add 16):Except String (Bool×Sre.Seen)) with|.error OH=>_|.ok (false,seen)=>_|.ok (true,seen)=>_)=_;rw[if_pos hn];rfl
  iterate 3
   .show(if pos>=lim then _ else match(Except.ok (text.getD pos 0==10,seen.add 16):Except String (Bool×Sre.Seen)) with|.error OH=>_|.ok (false,seen)=>_|.ok (true,seen)=>_)=_;rw[if_pos hn];rfl
 .have h:=h (by lia);rcases OG with⟨rfl,rfl|rfl⟩|⟨rfl,rfl|rfl|rfl⟩;iterate 2
   .show(if pos>=lim then _ else match(Except.ok (text.getD pos 0==13,seen.add 16):Except String (Bool×Sre.Seen)) with|.error OH=>_|.ok (false,seen)=>_|.ok (true,seen)=>_)=_;rw[if_neg hn,eY.mpr h];rfl
  iterate 3
   .show(if pos>=lim then _ else match(Except.ok (text.getD pos 0==10,seen.add 16):Except String (Bool×Sre.Seen)) with|.error OH=>_|.ok (false,seen)=>_|.ok (true,seen)=>_)=_;rw[if_neg hn,eY.mpr h];rfl
def mA (text:Array Nat) (lim s:Nat) (seen:Sre.Seen):M:=m2 text lim s 10 s s true [fS s] 1 none seen
theorem JS (h1:s<lim) (J:text.getD s 0=10) {seen:Sre.Seen}:∃m',M.runFor 9 (mA text lim s seen)=m'/\m'.outcome=some .matched/\m'.start=s/\m'.handed=s+1:=by
 unfold mA;rw[aI 8 _ (m2 text lim s 12 s s true [fB 11 s,fS s] 2 (none) (seen.add 7)) rfl (rfl)];rw[aI 7 _ (m2 text lim s 12 s s true [fB 11 s,fS s] 2 (some false) ((seen.add 7).add 16)) rfl (sE (.inl ⟨rfl,.inl rfl⟩) λU=>by rw[J];decide)];rw[aI 6 _ (m2 text lim s 19 s s true [fB 18 s,fS s] 2 (none) ((seen.add 7).add 16)) rfl (rfl)];rw[aI 5 _ (m2 text lim s 21 (s+1) s true [fB 18 s,fS s] 2 (none) (((seen.add 7).add 16).add 16)) rfl (nj (.inr ⟨rfl,.inr (.inl rfl)⟩) h1 J)];rw[aI 4 _ (m2 text lim s 35 (s+1) s true [fB 18 s,fS s] 2 (none) ((((seen.add 7).add 16).add 16).add 15)) rfl (rfl)];rw[aI 3 _ (m2 text lim s 35 (s+1) (s+1) true [fB 18 s,fS s] 2 (some true) (((((seen.add 7).add 16).add 16).add 15).add 1)) rfl (rfl)];rw[aI 2 _ (m2 text lim s 18 s (s+1) true [fS s] 1 (some true) (((((seen.add 7).add 16).add 16).add 15).add 1)) rfl (rfl)];rw[aI 1 _ (m2 text lim s 10 s (s+1) true [] 0 (some true) (((((seen.add 7).add 16).add 16).add 15).add 1)) rfl (rfl)];rw[aI 0 _ ({m2 text lim s 10 s (s+1) true [] 0 (some true) (((((seen.add 7).add 16).add 16).add 15).add 1) with outcome:=some .matched}) rfl (rfl)];exact⟨_,rfl,rfl,rfl,rfl⟩
theorem EB (J:s<lim) (h2:text.getD s 0=13) (h3:s+1<lim) (h4:text.getD (s+1) 0=10) {seen:Sre.Seen}:∃m',M.runFor 8 (mA text lim s seen)=m'/\m'.outcome=some .matched/\m'.start=s/\m'.handed=s+1+1:=by
 unfold mA;rw[aI 7 _ (m2 text lim s 12 s s true [fB 11 s,fS s] 2 (none) (seen.add 7)) rfl (rfl)];rw[aI 6 _ (m2 text lim s 14 (s+1) s true [fB 11 s,fS s] 2 (none) ((seen.add 7).add 16)) rfl (nj (.inl ⟨rfl,.inl rfl⟩) J h2)];rw[aI 5 _ (m2 text lim s 16 (s+1+1) s true [fB 11 s,fS s] 2 (none) (((seen.add 7).add 16).add 16)) rfl (nj (.inr ⟨rfl,.inl rfl⟩) h3 h4)];rw[aI 4 _ (m2 text lim s 35 (s+1+1) s true [fB 11 s,fS s] 2 (none) ((((seen.add 7).add 16).add 16).add 15)) rfl (rfl)];rw[aI 3 _ (m2 text lim s 35 (s+1+1) (s+1+1) true [fB 11 s,fS s] 2 (some true) (((((seen.add 7).add 16).add 16).add 15).add 1)) rfl (rfl)];rw[aI 2 _ (m2 text lim s 11 s (s+1+1) true [fS s] 1 (some true) (((((seen.add 7).add 16).add 16).add 15).add 1)) rfl (rfl)];rw[aI 1 _ (m2 text lim s 10 s (s+1+1) true [] 0 (some true) (((((seen.add 7).add 16).add 16).add 15).add 1)) rfl (rfl)];rw[aI 0 _ ({m2 text lim s 10 s (s+1+1) true [] 0 (some true) (((((seen.add 7).add 16).add 16).add 15).add 1) with outcome:=some .matched}) rfl (rfl)];exact⟨_,rfl,rfl,rfl,rfl⟩
theorem JT:∀(h1:s<lim) (J:text.getD s 0=13) (h3:s+1<lim->text.getD (s+1) 0≠10) {seen},∃m',M.runFor 15 (mA text lim s seen)=m'/\m'.outcome=some .matched/\m'.start=s/\m'.handed=s+1:=by
 ext text lim s;intro h1 J h3;ext seen:0;unfold mA;rw[aI 14 _ (m2 text lim s 12 s s true [fB 11 s,fS s] 2 (none) (seen.add 7)) rfl (rfl)];rw[aI 13 _ (m2 text lim s 14 (s+1) s true [fB 11 s,fS s] 2 (none) ((seen.add 7).add 16)) rfl (nj (.inl ⟨rfl,.inl rfl⟩) h1 J)];rw[aI 12 _ (m2 text lim s 14 (s+1) s true [fB 11 s,fS s] 2 (some false) (((seen.add 7).add 16).add 16)) rfl (sE (.inr ⟨rfl,.inl rfl⟩) h3)];rw[aI 11 _ (m2 text lim s 19 s s true [fB 18 s,fS s] 2 (none) (((seen.add 7).add 16).add 16)) rfl (rfl)];rw[aI 10 _ (m2 text lim s 19 s s true [fB 18 s,fS s] 2 (some false) ((((seen.add 7).add 16).add 16).add 16)) rfl (sE (.inr ⟨rfl,.inr (.inl rfl)⟩) λU=>by rw[J];decide)];rw[aI 9 _ (m2 text lim s 24 s s true [fB 23 s,fS s] 2 (none) ((((seen.add 7).add 16).add 16).add 16)) rfl (rfl)];rw[aI 8 _ (m2 text lim s 26 (s+1) s true [fB 23 s,fS s] 2 (none) (((((seen.add 7).add 16).add 16).add 16).add 16)) rfl (nj (.inl ⟨rfl,.inr rfl⟩) h1 J)];rw[aI 7 _ (m2 text lim s 29 (s+1) (s+1) false [fN (s+1),fB 23 s,fS s] 3 (none) ((((((seen.add 7).add 16).add 16).add 16).add 16).add 5)) rfl (rfl)];rw[aI 6 _ (m2 text lim s 29 (s+1) (s+1) false [fN (s+1),fB 23 s,fS s] 3 (some false) (((((((seen.add 7).add 16).add 16).add 16).add 16).add 5).add 16)) rfl (sE (.inr ⟨rfl,.inr (.inr rfl)⟩) h3)];rw[aI 5 _ (m2 text lim s 32 (s+1) (s+1) true [fB 23 s,fS s] 2 (none) (((((((seen.add 7).add 16).add 16).add 16).add 16).add 5).add 16)) rfl (rfl)];rw[aI 4 _ (m2 text lim s 35 (s+1) (s+1) true [fB 23 s,fS s] 2 (none) ((((((((seen.add 7).add 16).add 16).add 16).add 16).add 5).add 16).add 15)) rfl (rfl)];rw[aI 3 _ (m2 text lim s 35 (s+1) (s+1) true [fB 23 s,fS s] 2 (some true) (((((((((seen.add 7).add 16).add 16).add 16).add 16).add 5).add 16).add 15).add 1)) rfl (rfl)];rw[aI 2 _ (m2 text lim s 23 s (s+1) true [fS s] 1 (some true) (((((((((seen.add 7).add 16).add 16).add 16).add 16).add 5).add 16).add 15).add 1)) rfl (rfl)];rw[aI 1 _ (m2 text lim s 10 s (s+1) true [] 0 (some true) (((((((((seen.add 7).add 16).add 16).add 16).add 16).add 5).add 16).add 15).add 1)) rfl (rfl)];rw[aI 0 _ ({m2 text lim s 10 s (s+1) true [] 0 (some true) (((((((((seen.add 7).add 16).add 16).add 16).add 16).add 5).add 16).add 15).add 1) with outcome:=some .matched}) rfl (rfl)];exact⟨_,rfl,rfl,rfl,rfl⟩
end
def jp (c:Nat):Prop:=c=10\/c=13
theorem xc (c seen):Sre.inSet C2 c 36 5 true seen=(if c==10 then .ok (true,seen.add 16) else if c==13 then .ok (true,(seen.add 16).add 16) else .ok (false,((seen.add 16).add 16).add 0)):=rfl
theorem us {m:M} (hc:m.code=C2) {p:Nat} (hp:p<m.lim) (he:jp (m.text.getD p 0)):∀k s J seen,p - s=k->s<=p->k<J->(∀i,s<=i->i<p->¬jp (m.text.getD i 0))->∃OF,M.admitted m J s seen=.ok (some p,OF):=by
 ext m p ⟨hc,hp,he⟩;intro k;induction k with
 |zero=>
  intro s J seen hk hs hf OE;obtain rfl:s=p:=by omega
  cases J with
  |zero=>omega
  |succ J=>
   ext s seen J ⟨hp,he,hk,hs,OE,hf⟩;dsimp only[M.admitted];rw[if_neg (by omega),hc,show C2.size=36 from rfl,xc];rcases he with h|h
   .rw[h];exact⟨_,rfl⟩
   .rw[h];exact⟨_,rfl⟩
 |succ k ih=>
  ext k ⟨ih⟩;intro s J seen hk hs hf OE;cases J with
  |zero=>omega
  |succ J=>
   ext s seen J ⟨hk,hs,OE,hf⟩;dsimp only[M.admitted];have h:=OE s (bg _) (by omega);have h1:(m.text.getD s 0==10)=false:=eY.mpr λe=>h (.inl e);have h2:(m.text.getD s 0==13)=false:=eY.mpr λe=>h (.inr e);rw[if_neg (by omega),hc,show C2.size=36 from rfl,xc,h1,h2];exact ih (s+1) J _ (by omega) (by omega) (by omega) λi hi OG=>OE i (by omega) OG
theorem ut:∀{m:M} (hc:m.code=C2),∀k s J seen,m.lim - s=k->k<J->(∀i,s<=i->i<m.lim->¬jp (m.text.getD i 0))->∃OF,M.admitted m J s seen=.ok (none,OF):=by
 ext m:0;intro hc;intro k;induction k with
 |zero=>
  intro s J seen hk hf OE;cases J with
  |zero=>omega
  |succ J=>
   dsimp only[M.admitted];rw[if_pos (by omega)];exact⟨_,rfl⟩
 |succ k ih=>
  intro s J seen hk hf OE;cases J with
  |zero=>omega
  |succ J=>
   dsimp only[M.admitted];have h:=OE s (bg _) (by omega);have h1:(m.text.getD s 0==10)=false:=eY.mpr λe=>h (.inl e);have h2:(m.text.getD s 0==13)=false:=eY.mpr λe=>h (.inr e);rw[if_neg (by omega),hc,show C2.size=36 from rfl,xc,h1,h2];exact ih (s+1) J _ (by omega) (by omega) λi hi OG=>OE i (by omega) OG
def kO (code text:Array Nat) (J lim p e:Nat):Prop:=∃N m',N<=4*lim+40/\M.runFor N (Sre.forSearch code text 0 J lim false)=m'/\m'.outcome=some .matched/\m'.start=p/\m'.handed=e
def mq (code text:Array Nat) (J lim:Nat):Prop:=∃N m',N<=4*lim+40/\M.runFor N (Sre.forSearch code text 0 J lim false)=m'/\m'.outcome=some .failed
theorem CN {text:Array Nat} {start lim:Nat} (h:start<lim):Sre.forSearch C2 text 0 start lim false=M.attemptFrom {code:=C2,text,lim,start,lastStart:=lim,pc:=10,pos:=start,handed:=start,marks:= #[],mustAdvance:=false,seen:=({}:Sre.Seen).add 14} start true:=by
 dsimp only[Sre.forSearch];have:¬(start>lim||lim - start<(Sre.header C2).1)=true:=by
  simp only[Bool.or_eq_true,oC,show(Sre.header C2).1=1 from rfl];omega
 rw[if_neg this];rfl
theorem oh:∀{text start lim p} (h1:start<=p) (hp:p<lim) (he:jp (text.getD p 0)) (OE:∀i,start<=i->i<p->¬jp (text.getD i 0)),∃seen,Sre.forSearch C2 text 0 start lim false=mA text lim p seen:=by
 ext text start lim p:0;intro h1 hp he OE;rw[CN (by omega)];obtain⟨J,h⟩:=us (m:={code:=C2,text,lim,start,lastStart:=lim,pc:=10,pos:=start,handed:=start,marks:= #[],mustAdvance:=false,seen:=({}:Sre.Seen).add 14}) rfl hp he (p - start) start (lim+1 - start) (({}:Sre.Seen).add 14) rfl h1 (by omega) OE;refine⟨J,?_⟩;show(match M.admitted _ (lim+1 - start) start (({}:Sre.Seen).add 14) with|.ok (some s,seen)=>_|.ok (none,seen)=>_|.error OF=>_)=_;rw[h];rfl
theorem xd:∀{text start lim} (hs:start<=lim) (OE:∀i,start<=i->i<lim->¬jp (text.getD i 0)),mq C2 text start lim:=by
 ext text start lim:0;intro hs OE;by_cases h:start<lim
 .obtain⟨J,h2⟩:=ut (m:={code:=C2,text,lim,start,lastStart:=lim,pc:=10,pos:=start,handed:=start,marks:= #[],mustAdvance:=false,seen:=({}:Sre.Seen).add 14}) rfl (lim - start) start (lim+1 - start) (({}:Sre.Seen).add 14) rfl (by show lim - start<_;omega) OE;refine⟨1,_,by omega,rfl,?_⟩;rw[CN h];have:M.attemptFrom {code:=C2,text,lim,start,lastStart:=lim,pc:=10,pos:=start,handed:=start,marks:= #[],mustAdvance:=false,seen:=({}:Sre.Seen).add 14} start true=M.say {code:=C2,text,lim,start,lastStart:=lim,pc:=10,pos:=start,handed:=start,marks:= #[],mustAdvance:=false,seen:=J} false:=by
   show(match M.admitted _ (lim+1 - start) start (({}:Sre.Seen).add 14) with|.ok (some s,seen)=>_|.ok (none,seen)=>_|.error OF=>_)=_;rw[h2]
  rw[this];rfl
 .refine⟨1,_,by omega,rfl,?_⟩;dsimp only[Sre.forSearch];have:(start>lim||lim - start<(Sre.header C2).1)=true:=by
   simp only[Bool.or_eq_true,oC,show(Sre.header C2).1=1 from rfl];omega
  rw[if_pos this];rfl
theorem CP (h1:J<=p) (hp:p<lim) (he:text.getD p 0=10) (OE:∀i,J<=i->i<p->¬jp (text.getD i 0)):kO C2 text J lim p (p+1):=by
 obtain⟨seen,h⟩:=oh h1 hp (.inl he) OE;obtain⟨m',h2⟩:=JS hp he (seen:=seen);exact⟨_,m',by omega,h▸h2.1,h2.2⟩
theorem xW (h1:J<=p) (hp:p<lim) (he:text.getD p 0=13) (h3:p+1<lim) (h4:text.getD (p+1) 0=10) (OE:∀i,J<=i->i<p->¬jp (text.getD i 0)):kO C2 text J lim p (p+1+1):=by
 obtain⟨seen,h⟩:=oh h1 hp (.inr he) OE;obtain⟨m',h2⟩:=EB hp he h3 h4 (seen:=seen);exact⟨_,m',by omega,h▸h2.1,h2.2⟩
theorem CR (h1:J<=p) (hp:p<lim) (he:text.getD p 0=13) (h3:p+1<lim->text.getD (p+1) 0≠10) (OE:∀i,J<=i->i<p->¬jp (text.getD i 0)):kO C2 text J lim p (p+1):=by
 obtain⟨seen,h⟩:=oh h1 hp (.inr he) OE;obtain⟨m',h2⟩:=JT hp he h3 (seen:=seen);exact⟨_,m',by omega,h▸h2.1,h2.2⟩
def C1:Array Nat:= #[14,4,0,1,1,6,1,16,46,1]
def m1 (text:Array Nat) (lim start pc pos handed:Nat) (J:Bool) (frames:List Sre.Frame) (weight:Nat) (answer:Option Bool) (seen:Sre.Seen):M:=
 {code:=C1,text,lim,start,lastStart:=lim,pc,pos,handed,outermost:=J,marks:= #[],frames,weight,answer,seen}
def f1 (s:Nat) (first:Bool):Sre.Frame:={wait:=.nextStart,pc:=5,pos:=s,outermost:=first}
def qP (text:Array Nat) (lim s:Nat) (first:Bool) (seen:Sre.Seen):M:=m1 text lim s 5 s s first [f1 s first] 1 none seen
def jV (text:Array Nat) (lim s:Nat):Prop:=(s=0\/text.getD (s - 1) 0=10)/\s<lim/\text.getD s 0=46
section
variable {text:Array Nat} {lim s:Nat}
theorem CS {om:Bool} {J:List Sre.Frame} {seen:Sre.Seen} (h:s=0\/text.getD (s - 1) 0=10):(m1 text lim s 5 s s om J 1 none seen).step=m1 text lim s 7 s s om J 1 none ((seen.add 6).add 44):=by
 have hb:(s==0||text.getD (s - 1) 0==10)=true:=by simpa using h
 show(if(s==0||text.getD (s - 1) 0==10)=true then m1 text lim s 7 s s om J 1 none ((seen.add 6).add 44) else m1 text lim s 5 s s om J 1 (some false) ((seen.add 6).add 44))=_;rw[hb];rfl
theorem LA {om:Bool} {J:List Sre.Frame} {seen:Sre.Seen} (h:¬(s=0\/text.getD (s - 1) 0=10)):(m1 text lim s 5 s s om J 1 none seen).step=m1 text lim s 5 s s om J 1 (some false) ((seen.add 6).add 44):=by
 have hb:(s==0||text.getD (s - 1) 0==10)=false:=by
  rw[Bool.eq_false_iff];intro e;exact h (by simpa using e)
 show(if(s==0||text.getD (s - 1) 0==10)=true then m1 text lim s 7 s s om J 1 none ((seen.add 6).add 44) else m1 text lim s 5 s s om J 1 (some false) ((seen.add 6).add 44))=_;rw[hb];rfl
theorem HH {om:Bool} {J:List Sre.Frame} {seen:Sre.Seen} (h1:s<lim) (h2:text.getD s 0=46):(m1 text lim s 7 s s om J 1 none seen).step=m1 text lim s 9 (s+1) s om J 1 none (seen.add 16):=by
 show(if s>=lim then _ else match(Except.ok (text.getD s 0==46,seen.add 16):Except String (Bool×Sre.Seen)) with|.error OE=>_|.ok (false,seen)=>_|.ok (true,seen)=>_)=_;rw[if_neg (by lia),h2];rfl
theorem JU {om:Bool} {J:List Sre.Frame} {seen:Sre.Seen} (h:s<lim->text.getD s 0≠46):(m1 text lim s 7 s s om J 1 none seen).step=m1 text lim s 7 s s om J 1 (some false) (seen.add 16):=by
 ext text lim s om J seen ⟨h⟩;show(if s>=lim then _ else match(Except.ok (text.getD s 0==46,seen.add 16):Except String (Bool×Sre.Seen)) with|.error OE=>_|.ok (false,seen)=>_|.ok (true,seen)=>_)=_;by_cases hn:s>=lim
 .rw[if_pos hn];rfl
 .rw[if_neg hn,eY.mpr (h (by lia))];rfl
theorem EC {first:Bool} {seen:Sre.Seen} (h:jV text lim s):∃m',M.runFor 5 (qP text lim s first seen)=m'/\m'.outcome=some .matched/\m'.start=s/\m'.handed=s+1:=by
 unfold qP;rw[aI 4 _ _ rfl (CS h.1),aI 3 _ _ rfl (HH h.2.1 h.2.2),aI 2 _ (m1 text lim s 9 (s+1) (s+1) first [f1 s first] 1 (some true) ((((seen.add 6).add 44).add 16).add 1)) rfl (by cases first<;>rfl),
  aI 1 _ (m1 text lim s 5 s (s+1) first [] 0 (some true) ((((seen.add 6).add 44).add 16).add 1)) rfl rfl]
 exact⟨_,rfl,rfl,rfl,rfl⟩
theorem uu {first:Bool} {seen:Sre.Seen} (h:¬jV text lim s):∃N J,N<=3/\M.runFor N (qP text lim s first seen)=(if s<lim then qP text lim (s+1) false J else m1 text lim s 5 s s first [] 0 (some false) J):=by
 ext text lim s first seen ⟨h⟩;have OE:∀pc J,(m1 text lim s pc s s first [f1 s first] 1 (some false) J).step=(if s<lim then qP text lim (s+1) false J else m1 text lim s 5 s s first [] 0 (some false) J):=λpc J=>by
  ext pc J;show(if(false:Bool)=true then _ else if s<lim then _ else _)=_;rw[if_neg (by decide)];by_cases hl:s<lim
  .rw[if_pos hl,if_pos hl];rfl
  .rw[if_neg hl,if_neg hl];rfl
 by_cases hb:s=0\/text.getD (s - 1) 0=10
 .refine⟨3,((seen.add 6).add 44).add 16,bg _,?_⟩;unfold qP;rw[aI 2 _ _ rfl (CS hb),aI 1 _ _ rfl (JU λh1 h2=>h ⟨hb,h1,h2⟩),aI 0 _ _ rfl (OE 7 _)];rfl
 .refine⟨2,(seen.add 6).add 44,by decide,?_⟩;unfold qP;rw[aI 1 _ _ rfl (LA hb),aI 0 _ _ rfl (OE 5 _)];rfl
theorem CT {p:Nat} (hp:jV text lim p):∀k s first seen,p - s=k->s<=p->(∀i,s<=i->i<p->¬jV text lim i)->∃N m',N<=3*k+5/\M.runFor N (qP text lim s first seen)=m'/\m'.outcome=some .matched/\m'.start=p/\m'.handed=p+1:=by
 ext text lim p ⟨hp⟩;intro k;induction k with
 |zero=>
  intro s first seen hk hs hno;obtain rfl:s=p:=by lia
  obtain⟨m',h⟩:=EC (first:=first) (seen:=seen) hp;exact⟨5,m',by exact bg _,h⟩
 |succ k ih=>
  ext k ⟨ih⟩;intro s first seen hk hs hno;ext s first seen ⟨hk,hs,hno⟩;obtain⟨N,J,hN,h⟩:=uu (first:=first) (seen:=seen) (hno s (bg _) (i7 hk));have hl:s<lim:=by have:=hp.2.1;exact au (ax hs this)
  rw[if_pos hl] at h;obtain⟨N2,m',OE,h2,h3⟩:=ih (s+1) false J (ke hk) (i7 hk) λi hi OF=>hno i (Nat.le_of_lt hi) OF;exact⟨N+N2,m',by exact(au (ax hN OE)),by rw[fD,h];exact h2,h3⟩
theorem CU:∀k s first seen,lim - s=k->s<=lim->(∀i,s<=i->i<=lim->¬jV text lim i)->∃N m',N<=3*k+4/\M.runFor N (qP text lim s first seen)=m'/\m'.outcome=some .failed:=by
 ext text lim;intro k;induction k with
 |zero=>
  intro s first seen hk hs hno;ext s first seen ⟨hk,hs,hno⟩;obtain⟨N,J,hN,h⟩:=uu (first:=first) (seen:=seen) (hno s (bg _) hs);rw[if_neg (ML hk)] at h;exact⟨N+1,_,by exact(au hN),by rw[fD,h],rfl⟩
 |succ k ih=>
  ext k ⟨ih⟩;intro s first seen hk hs hno;ext s first seen ⟨hk,hs,hno⟩;obtain⟨N,J,hN,h⟩:=uu (first:=first) (seen:=seen) (hno s (bg _) hs);rw[if_pos (i7 hk)] at h;obtain⟨N2,m',OE,h2,h3⟩:=ih (s+1) false J (ke hk) (i7 hk) λi hi OF=>hno i (Nat.le_of_lt hi) OF;exact⟨N+N2,m',by exact(au (ax hN OE)),by rw[fD,h];exact h2,h3⟩
theorem CV {J:Nat} (h:J<lim):Sre.forSearch C1 text 0 J lim false=qP text lim J true (({}:Sre.Seen).add 14):=by
 dsimp only[Sre.forSearch];have:¬(J>lim||lim - J<(Sre.header C1).1)=true:=by
  simp only[Bool.or_eq_true,oC,show(Sre.header C1).1=1 from rfl];lia
 rw[if_neg this];rfl
theorem JV (h1:J<=p) (hp:jV text lim p) (OE:∀i,J<=i->i<p->¬jV text lim i):kO C1 text J lim p (p+1):=by
 have hl:=hp.2.1;obtain⟨N,m',hN,h⟩:=CT hp (p - J) J true (({}:Sre.Seen).add 14) rfl h1 OE;refine⟨N,m',by lia,?_⟩;rw[CV ((au (ax h1 hl)))];exact h
theorem xX (hs:J<=lim) (OE:∀i,J<=i->i<=lim->¬jV text lim i):mq C1 text J lim:=by
 ext text lim J ⟨hs,OE⟩;by_cases h:J<lim
 .obtain⟨N,m',hN,h2⟩:=CU (lim - J) J true (({}:Sre.Seen).add 14) rfl hs OE;refine⟨N,m',by lia,?_⟩;rw[CV h];exact h2
 .refine⟨1,_,by exact iT _,rfl,?_⟩;dsimp only[Sre.forSearch];have:(J>lim||lim - J<(Sre.header C1).1)=true:=by
   simp only[Bool.or_eq_true,oC,show(Sre.header C1).1=1 from rfl];lia
  rw[if_pos this];rfl
end
end
section
variable {M:Model} {A:Around} {E:Value->Shared->Prop} {s:Shared}
theorem sG {Q:Sre.M->Shared->Prop} (ho:m'.outcome.isSome=true) (h:Q m' s):∀J N m,Sre.M.runFor N m=m'->N<=4*J->1<=J->wpAny M A (Builtin.Re.reDrive J m) Q E s:=by
 intro J;induction J with
 |zero=>intro N m _ _ h1;omega
 |succ t ih=>
  intro N m hr hN h1;dsimp only[Builtin.Re.reDrive];by_cases hs:(Sre.M.runFor 4 m).outcome.isSome=true
  .show wpAny M A (if(Sre.M.runFor 4 m).outcome.isSome=true then pure (Sre.M.runFor 4 m) else _) Q E s;rw[if_pos hs];have e:Sre.M.runFor 4 m=m':=by
    rw[<-hr];by_cases h4:N<=4
    .rw[show 4=N+(4 - N) by omega,fD,hr,gG _ _ ho]
    .rw[show N=4+(N - 4) by omega,fD,gG _ _ hs]
   rw[e];exact aH h
  .show wpAny M A (if(Sre.M.runFor 4 m).outcome.isSome=true then pure (Sre.M.runFor 4 m) else _) Q E s;rw[if_neg hs];have h4:4<N:=by
    refine Nat.lt_of_not_le λh4=>hs ?_;rw[show 4=N+(4 - N) by omega,fD,hr,gG _ _ ho];exact ho
   refine ao (wpAny_rule (ih (N - 4) _ ?_ (by omega) (by omega)));rw[<-fD,<-hr];congr 1;show 4+(N - 4)=N;omega
theorem rF {f:Nat->Bool} {g:Nat->String} {Q:PUnit->Shared->Prop} (h:Q PUnit.unit s):∀l:List Nat,wpAny M A (forIn (m:=Sem) l PUnit.unit λi (_:PUnit)=>if f i=true then(rule (g i)>>=λU=>pure (ForInStep.yield PUnit.unit)) else pure (ForInStep.yield PUnit.unit)) Q E s
 |[]=>by
  rw[List.forIn_nil];exact aH h
 |a::l=>by
  rw[List.forIn_cons];have ih:=rF (f:=f) (g:=g) h l;refine ao ?_;by_cases J:f a=true
  .rw[if_pos J];exact ao (wpAny_rule (aH ih))
  .rw[if_neg J];exact aH ih
theorem xY {m:Sre.M} {N:Nat} {m':Sre.M} {Q:Option Sre.M->Shared->Prop} (hN:N<=2^60) (hr:Sre.M.runFor N m=m') (J:m'.outcome=some .matched) (h:Q (some m') s):wpAny M A (Builtin.Re.reRunToEnd m) Q E s:=by
 unfold Builtin.Re.reRunToEnd;refine ao (sG (by rw[J];rfl) ?_ (2^64) N m hr (bC hN (by decide)) (by decide));refine ao (rF ?_ _);rw[J];exact aH h
theorem As {m:Sre.M} {N:Nat} {m':Sre.M} {Q:Option Sre.M->Shared->Prop} (hN:N<=2^60) (hr:Sre.M.runFor N m=m') (J:m'.outcome=some .failed) (h:Q none s):wpAny M A (Builtin.Re.reRunToEnd m) Q E s:=by
 unfold Builtin.Re.reRunToEnd;refine ao (sG (by rw[J];rfl) ?_ (2^64) N m hr (bC hN (by decide)) (by decide));refine ao (rF ?_ _);rw[J];exact aH h
end
def g9 (c:Array Nat):Array Value:=c.map λ(n:Nat)=>.int (n:Int) 0
def Au (v:Value) (fl:Int) (tf:Nat) (J:Nat) (kind:Int):Obj:=⟨.type "re.Pattern",none,.fields #[v,.int fl tf,.int 0 0,.none,.none,.ref J,.int kind 0],#[]⟩
def LB:Value:=.str ⟨#[40,63,58,92,114,92,110,124,92,110,124,92,114,40,63,33,92,110,41,41]⟩ 346
def LC:Value:=.bytes #[40,63,109,41,94,92,46] 330
theorem Nc (w):(kt w).get 62=some (Au LB 32 385 61 0):=by kernel_rfl
theorem Nd (w):(kt w).get 61=some ⟨.type "tuple",none,.seq (g9 C2) 0,#[]⟩:=by kernel_rfl
theorem Nf (w):(kt w).get 57=some (Au LC 8 343 56 1):=by kernel_rfl
theorem Ng (w):(kt w).get 56=some ⟨.type "tuple",none,.seq (g9 C1) 0,#[]⟩:=by kernel_rfl
inductive bL where
 |str (x:Str)
 |byt (b:Array UInt8)
namespace bL
def val:bL->Nat->Value
 |.str x,t=>.str x t
 |.byt b,t=>.bytes b t
def arr:bL->Array Nat
 |.str x=>x.cps
 |.byt b=>b.map (·.toNat)
def kind:bL->Nat
 |.str _=>0
 |.byt _=>1
def cut (x:bL) (b e:Nat):bL:=match x with
 |.str x=>.str ⟨x.cps.extract b e⟩
 |.byt y=>.byt (((y.map (·.toNat)).extract b e).map (·.toUInt8))
end bL
section
variable {M:Model} {A:Around} {E:Value->Shared->Prop} {s:Shared}
theorem qu {Q:Bool->Shared->Prop} (h:Q true s):wpAny M A (Builtin.Bytes.slotIsOwn (.bytes b t) "__buffer__") Q E s:=by
 have hT:typeOf (.bytes b t)=pure (.type "bytes"):=rfl;have hb:typeLookup (.type "bytes") (Str.ofString "__buffer__")=pure (some (.builtin "bytes.__buffer__")):=by rw[typeLookup_type,qD];kernel_rfl
 have hi:isSubtype (.type "bytes") (.type "bytes")=pure true:=by rw[isSubtype_type];kernel_rfl
 unfold Builtin.Bytes.slotIsOwn;refine ao (oB hT hb ?_);have J:("bytes.__buffer__".endsWith ("." ++ "__buffer__"))=true:=by decide+kernel
 have e2: "bytes.__buffer__".dropRight ("__buffer__".length+1)= "bytes" :=by decide+kernel
 show wpAny M A (if(!("bytes.__buffer__".endsWith ("." ++ "__buffer__")))=true then _ else isInstance (.bytes b t) (.type ("bytes.__buffer__".dropRight ("__buffer__".length+1)))) _ _ _;rw[J,e2,if_neg (by decide)];exact wpAny_isInstance_val hT hi h
theorem uv {Q:Bool->Shared->Prop} (h:Q false s):wpAny M A (Builtin.Bytes.ownRelease (.bytes b t)) Q E s:=by
 have hT:typeOf (.bytes b t)=pure (.type "bytes"):=rfl;have J:typeLookup (.type "bytes") (Str.ofString "__release_buffer__")=pure none:=by rw[typeLookup_type,qD];kernel_rfl
 unfold Builtin.Bytes.ownRelease Builtin.Bytes.slotIsOwn;exact ao (ao (oB hT J (aH (aH h))))
theorem JW:∀{id b t} {Q:Option (Array UInt8)->Shared->Prop} (h:Q (some b) s),wpAny M A (Builtin.Bytes.bufferQuiet? id (.bytes b t)) Q E s:=by
 revert M A E s;ext M A E s id b t Q:0;intro h;unfold Builtin.Bytes.bufferQuiet?;refine ao (wpAny_attempt ?_);have hT:typeOf (.bytes b t)=pure (.type "bytes"):=rfl;have hb:typeLookup (.type "bytes") (Str.ofString "__buffer__")=pure (some (.builtin "bytes.__buffer__")):=by rw[typeLookup_type,qD];kernel_rfl
 unfold Builtin.Bytes.buffer?;refine ao (oB hT hb ?_);dsimp only;refine ao (qu ?_);show wpAny M A (specialOf (.bytes b t) (Str.ofString "__buffer__")>>=_) _ _ _;refine ao (oB hT hb ?_);refine ao (uv ?_);show wpAny M A (Builtin.Bytes.payload (.bytes b t)>>=_) _ _ _;refine ao (ao (aH (aH (aH ?_))));exact aH h
theorem yR {Q:Bool->Shared->Prop} (h:Q true s):wpAny M A (isInstance (.bytes b t) (.type "bytes")) Q E s:=
 wpAny_isInstance_val rfl (by rw[isSubtype_type];kernel_rfl) h
theorem xZ {x:bL} {t:Nat} {Q:Array Nat×Nat->Shared->Prop} (h:Q (x.arr,x.kind) s):wpAny M A (Builtin.Re.reTextOf (x.val t)) Q E s:=by
 unfold Builtin.Re.reTextOf;cases x with
 |str x=>exact ao (aH (aH h))
 |byt b=>
  refine ao (ao (aH (aH ?_)));exact ao (JW (aH h))
theorem oi:∀{x:bL} {t pa J:Nat} {pv:Value} {fl:Int} {tf:Nat} {code:Array Nat} {Q:Builtin.Re.ReTarget->Shared->Prop} (hp:s.heap.get? pa=some (Au pv fl tf J x.kind)) (ht:s.heap.get? J=some ⟨.type "tuple",none,.seq (g9 code) 0,#[]⟩)
  (h:Q {pattern:=.ref pa,string:=x.val t,code,text:=x.arr,kind:=x.kind,groups:=0,pos:=0,lim:=x.arr.size} s),wpAny M A (Builtin.Re.reWholeTarget (.ref pa) (x.val t)) Q E s:=by
 revert M A E s;ext M A E s x t pa J pv fl tf code:0;ext Q:0;intro hp ht h;unfold Builtin.Re.reWholeTarget;refine ao (wpAny_fieldsOf hp rfl ?_);refine ao (xZ ?_);have hc:(Array.map Int.toNat (Array.map Builtin.Re.reRawOf (g9 code)))=code:=by
  unfold g9;rw[Array.map_map,Array.map_map]
  conv=>rhs;rw[<-Array.map_id code]
  congr 1
 have hg:∀{Q:Array Int->Shared->Prop},Q (Array.map Builtin.Re.reRawOf (g9 code)) s->wpAny M A (Builtin.Re.reRawItems (.ref J)) Q E s:=λ{Q} h=>ao (wpAny_seqItems ht rfl (aH h));cases x with
 |str x=>
  dsimp only;refine ao (aH ?_);refine ao (hg ?_);rw[hc];exact aH h
 |byt b=>
  ext b ⟨hp,h⟩;dsimp only;refine ao (ao (yR (aH ?_)));refine ao (hg ?_);rw[hc];exact aH h
end
def i3 (ps:List (Array UInt8×Nat)):List Value:=ps.map λp=>.bytes p.1 p.2
def gl (ps:List (Array UInt8×Nat)):Array UInt8:=ps.foldl (λa p=>a++p.1) #[]
section
variable {M:Model} {A:Around} {E:Value->Shared->Prop} {s:Shared}
theorem LD:∀{id b t} {Q:Option (Array UInt8×Option Value)->Shared->Prop} (h:Q (some (b,none)) s),wpAny M A (Builtin.Bytes.takeBufferQuiet? id (.bytes b t) 0) Q E s:=by
 revert M A E s;ext M A E s id b t Q:0;intro h;unfold Builtin.Bytes.takeBufferQuiet?;refine ao (wpAny_attempt ?_);have hT:typeOf (.bytes b t)=pure (.type "bytes"):=rfl;have hb:typeLookup (.type "bytes") (Str.ofString "__buffer__")=pure (some (.builtin "bytes.__buffer__")):=by rw[typeLookup_type,qD];kernel_rfl
 unfold Builtin.Bytes.takeBuffer?;refine ao (oB hT hb ?_);dsimp only;refine ao (qu ?_);refine ao (oB hT hb ?_);refine ao ?_;unfold Builtin.Bytes.buffer?;refine ao (oB hT hb ?_);dsimp only;refine ao (qu ?_);show wpAny M A (specialOf (.bytes b t) (Str.ofString "__buffer__")>>=_) _ _ _;refine ao (oB hT hb ?_);refine ao (uv ?_);show wpAny M A (Builtin.Bytes.payload (.bytes b t)>>=_) _ _ _;refine ao (ao (aH (aH (aH (aH ?_)))));exact aH h
theorem xe {Q:Unit->Shared->Prop} (h:Q () s):∀tk J,(∀p∈tk,p.2=none)->wpAny M A (Builtin.Bytes.joinLetGo tk J) Q E s
 |[],_,_=>aH h
 |(x,u)::r,J,hn=>by
  have:u=none:=hn _ aJ;subst this;dsimp only[Builtin.Bytes.joinLetGo];refine ao (wpAny_letGo ?_);exact xe h r J λp hp=>hn p (.tail _ hp)
end
section
variable {M:Model} {A:Around} {E:Value->Shared->Prop} {s:Shared}
theorem qQ {J:Type} {b:J} {f:Nat->J->Sem (ForInStep J)} {Q:J->Shared->Prop} (I:Nat->J->Prop) (h0:I 0 b) (hs:∀i c,i<n->I i c->∀{Q':ForInStep J->Shared->Prop},(∀c',I (i+1) c'->Q' (.yield c') s)->wpAny M A (f i c) Q' E s)
  (hQ:∀c,I n c->Q c s):wpAny M A (forIn [:n] b f) Q E s:=by
 have OF:∀k i c,i+k=n->I i c->wpAny M A (forIn (List.range' i k) c f) Q E s:=by
  intro k;induction k with
  |zero=>
   intro i c hi hI;have:i=n:=by assumption
   subst this;exact aH (hQ c hI)
  |succ k ih=>
   intro i c hi hI;rw[List.range'_succ,List.forIn_cons];exact ao (hs i c (Dm hi) hI λc' OE=>ih (i+1) c' (y4 hi) OE)
 rw[Std.Legacy.Range.forIn_eq_forIn_range'];have:([:n]:Std.Legacy.Range).size=n:=by simp[Std.Legacy.Range.size]
 rw[this];exact OF n 0 b (by simp) h0
end
section
variable {M:Model} {A:Around} {E:Value->Shared->Prop} {s:Shared}
theorem Av:∀l:List (Array UInt8×Nat),Builtin.Bytes.joined #[] (l.map (·.1))=gl l:=by
 have J:∀(l:List (Array UInt8×Nat)) (i:Nat) (acc:Array UInt8),((l.map (·.1)).zipIdx i).foldl (λout (x:Array UInt8×Nat)=>(if x.2>0 then out++ #[] else out)++x.1) acc=l.foldl (λa p=>a++p.1) acc:=by
  intro l;induction l with
  |nil=>intro i acc;rfl
  |cons p r ih=>
   intro i acc;have ih:=ih (i+1) (acc++p.1);simp only[de,List.zipIdx_cons,k7,Array.append_empty,ite_self] at ih|-;exact ih
 intro l;exact J l 0 #[]
theorem CW (l:List (Array UInt8×Nat)) {i:Nat} (h:i<l.length):((l.take i).map (·.1)).toArray.push l[i].1=((l.take (i+1)).map (·.1)).toArray:=by
 rw[List.take_add_one,mR h,List.push_toArray,k6];rfl
theorem qR:∀(l:List (Array UInt8×Nat)) (a:Array UInt8) (k:Nat),(l.map (·.1)).foldl (λ(n:Nat) (b:Array UInt8)=>n+b.size) (a.size+k)=(l.foldl (λa p=>a++p.1) a).size+k
 |[],_,_=>rfl
 |p::r,a,k=>by
  have:=qR r (a++p.1) k;rw[Array.size_append] at this;rw[de,k7,k7,<-this];congr 1;simp+arith
theorem ED:∀{la ts ep:Nat} {ps:List (Array UInt8×Nat)} (ho:s.heap.get? la=some (aa (i3 ps) ep)) (hl:(gl ps).size<=10000) (hne:ps≠[]) {Q:Fin->Shared->Prop}
  (h:∀t,(t=s.toks\/∃p,ps=[p]/\t=p.2)->Q (.done (.ret (.bytes (gl ps) t))) {s with toks:=s.toks+1}/\Q (.done (.ret (.bytes (gl ps) t))) s),wpAny M A (Builtin.«bytes.join» ⟨[.bytes #[] ts,.ref la],[]⟩) Q E s:=by
 revert M A E s;ext M A E s la ts ep ps:0;intro ho hl hne;ext Q:0;intro h
 have hlist:s.TypeIs (.ref la) "list" :=⟨_,ho,rfl⟩
 unfold Builtin.«bytes.join» Builtin.Bytes.joinM
 refine ao ?_
 refine aH ?_
 show wpAny M A (Builtin.Bytes.joinItems (.ref la)>>=_) _ _ _
 refine ao ?_
 unfold Builtin.Bytes.joinItems
 refine ao (wpAny_typeOf hlist ?_)
 refine aH ?_
 refine ao (wpAny_seqItems ho rfl ?_)
 match ps,ho,hl,hne,h with
 |[p],ho,hl,hne,h=>
  show wpAny M A (do rule "bytes.join.one-item";ret (.bytes p.1 p.2)) _ _ _
  refine ao (wpAny_rule (aH ?_))
  have:=(h p.2 (.inr ⟨p,rfl,rfl⟩)).2
  have e:gl [p]=p.1:=by simp[gl]
  rw[e] at this
  exact this
 |[],ho,hl,hne,h=>exact bh rfl hne
 |p::q::r,ho,hl,hne,h=>
  clear hne
  generalize hps:p::q::r=ps at ho hl h|-
  have hsz:(i3 ps).toArray.size=ps.length:=by simp[i3]
  subst hps
  show wpAny M A (_>>=_) _ _ _
  refine ao (qQ (I:=λi c=>c.1=(((p::q::r).take i).map (·.1)).toArray/\∀y∈c.2,y.2=none/\y.1.onHeap=false) ⟨rfl,λU h=>(nomatch h)⟩ (λi c hi ⟨hc1,hc2⟩ Q' hQ'=>?_) λc ⟨hc1,hc2⟩=>?_)
  .refine ao (wpAny_seqItems ho rfl ?_)
   have bG:i<(p::q::r).length:=by rw[<-hsz];exact hi
   have hx:(i3 (p::q::r)).toArray.getD i Value.none=.bytes (p::q::r)[i].1 (p::q::r)[i].2:=by
    have:(i3 (p::q::r))[i]? =some (.bytes (p::q::r)[i].1 (p::q::r)[i].2):=by
     unfold i3
     rw[List.getElem?_map,mR bG];rfl
    rw[Array.getD_eq_getD_getElem?,List.getElem?_toArray,this];rfl
   have hany:(c.snd.any λx=>x.fst.onHeap)=false:=by
    rw[List.any_eq_false]
    intro y hy
    rw[(hc2 y hy).2];decide
   dsimp only
   rw[hx,hany,if_neg (by decide)]
   refine ao (wpAny_holding (LD ?_))
   dsimp only
   refine ao (wpAny_seqItems ho rfl ?_)
   dsimp only
   rw[if_neg (by simp)]
   refine aH (hQ' _ ⟨?_,λy hy=>?_⟩)
   .show c.1.push _=_
    rw[hc1];exact CW _ bG
   .rcases dk.mp hy with hy|hy
    .exact hc2 y hy
    .rw[cD] at hy
     subst hy
     exact⟨rfl,rfl⟩
  .show wpAny M A (Builtin.Bytes.payload (.bytes #[] ts)>>=_) _ _ _
   refine ao (ao (aH (aH ?_)))
   have hc:c.1.toList=(p::q::r).map (·.1):=by rw[hc1,hsz,List.take_length]
   have hsum:c.1.foldl (λ(n:Nat) (b:Array UInt8)=>n+b.size) ((#[]:Array UInt8).size*(c.1.size - 1))=(gl (p::q::r)).size:=by
    rw[<-Array.foldl_toList,hc]
    have:=qR (p::q::r) #[] 0
    simpa[gl] using this
   have htl:Builtin.Bytes.tooLong (c.1.foldl (λ(n:Nat) (b:Array UInt8)=>n+b.size) ((#[]:Array UInt8).size*(c.1.size - 1)))=false:=by
    rw[hsum]
    unfold Builtin.Bytes.tooLong
    have:10000<=sizeLine:=by decide
    simp;exact au (ax hl this)
   dsimp only
   rw[htl,if_neg (by decide),hc,Av]
   refine ao (wpAny_mkBytes ?_ (by have:10000<=sizeLine:=(by decide);exact au (ax hl this)))
   refine ao (wpAny_holding (wpAny_point ?_))
   refine ao (xe ?_ _ _ λy hy=>(hc2 y hy).1)
   exact aH (h s.toks (.inl rfl)).1
end
theorem bH.seq:∀{w:World} {s:Shared} {a:Nat} {xs:List Value} {ep tk:Nat} {v:Value} (T:aK w s) (ho:s.heap.get? (a+158)=some (aa xs ep)) (ht:s.toks<=tk),bH w s {s with heap:=s.heap.update (a+158) (Obj.mapSeq (·.push v)),toks:=tk} (aC [⟨a+158,aa xs ep⟩]) [⟨a+158,aa (xs++[v]) (ep+1)⟩]:=by
 ext w s a xs ep tk v:0;intro T ho ht;have hs:Heap.SameBut (a+158) s.heap (s.heap.update (a+158) (Obj.mapSeq (·.push v))):=Heap.SameBut.update ..;have e:Obj.mapSeq (·.push v) (aa xs ep)=aa (xs++[v]) (ep+1):=by
  simp[aa,Obj.mapSeq]
 have OE:(s.heap.update (a+158) (Obj.mapSeq (·.push v))).get? (a+158)=some (aa (xs++[v]) (ep+1)):=by
  rw[<-e];exact Heap.get?_update_self _ ho rfl
 refine⟨⟨λb o h=>?_,by show 158<=(s.heap.update _ _).objs.size;rw[hs.1];exact T.size,bC T.toks ht⟩,by show _<=(s.heap.update _ _).objs.size;rw[hs.1];exact bg _,ht,rfl,rfl,λb o h hb=>?_,λU U h=>h,λe J=>?_,λe J=>?_⟩
 .have:=oQ _ _ _ h;exact(hs.2 b (λe=>by have e':(b:Nat)=a+158:=e;lia)).trans (T.top b o h)
 .exact(hs.2 b (λe=>hb (by rw[e];exact .head _))).trans h
 .rw[cD] at J;subst J;exact .inl aJ
 .rw[cD] at J;subst J;exact OE
theorem nk:entryFor table "re.Pattern.sub.loop" =some Builtin.«re.Pattern.sub.loop»:=entryFor_of_tree (by kernel_rfl)
def dE (ps:List (bL×Nat)):List Value:=ps.map λp=>p.1.val (p.2+1)
def oj (pa:Nat) (x:bL) (t:Nat) (y:bL) (tr:Nat) (n:Int) (J la:Nat):Code:=
 .builtin "re.Pattern.sub.loop" ⟨[.ref pa,x.val t,y.val tr,rawInt 0,rawInt 0,rawInt n,rawInt (J:Int),rawInt (J:Int),.bool false,.ref (la+158),.bool false],[]⟩
structure qv (w:World) (pa tup:Nat) (code:Array Nat) (kind:Nat):Prop where
 pat:∀s,aK w s->∃pv fl tf,s.heap.get? pa=some (Au pv fl tf tup kind)
 tup:∀s,aK w s->s.heap.get? tup=some ⟨.type "tuple",none,.seq (g9 code) 0,#[]⟩
theorem x6 (x:bL) (t:Nat):(x.val t != Value.none)=true:=by cases x<;>rfl
theorem rG {M:Model} {A:Around} {E:Value->Shared->Prop} {s:Shared} {x:bL} {b e:Nat} (hl:x.arr.size<=5000) {Q:Value->Shared->Prop} (h:Q ((x.cut b e).val s.toks) {s with toks:=s.toks+1}):wpAny M A (Builtin.Re.reSlice x.arr x.kind b e) Q E s:=by
 have h5:5000<=sizeLine:=by decide
 unfold Builtin.Re.reSlice
 cases x with
 |str x=>
  refine wpAny_mkStr h ?_
  show(x.cps.extract b e).size<=_
  have:x.cps.size<=5000:=hl
  rw[Array.size_extract];lia
 |byt y=>
  refine wpAny_mkBytes h ?_
  have:(y.map (·.toNat)).size<=5000:=hl
  show(Array.map _ ((y.map (·.toNat)).extract b e)).size<=_
  rw[Array.size_map,Array.size_extract];lia
theorem u5 {M:Model} {A:Around} {E:Value->Shared->Prop} {s:Shared} {y:bL} {t:Nat} {Q:Unit->Shared->Prop} (h:Q () s):wpAny M A (Builtin.Re.reLiteralCannotBeTurned (y.val t)) Q E s:=by
 unfold Builtin.Re.reLiteralCannotBeTurned;cases y with
 |str y=>exact ao (aH (aH h))
 |byt b=>exact ao (ao (aH (aH (ao (yR (aH h))))))
theorem EE:∀{w:World} {d pa tup:Nat} {code:Array Nat} {x y:bL} (P:qv w pa tup code x.kind) (hx:x.arr.size<=5000) {t tr:Nat} {n:Int} {dn la ep p e:Nat} {ps:List (bL×Nat)} (hps:ps.length<=9000) (hf:kO code x.arr dn x.arr.size p e) (hpe:e≠p)
  {post:Result->List ad->Prop} (h:∀tk ep',CX w d (oj pa x t y (tr+1) (n+1) e la) [⟨la+158,aa (dE (ps++(if dn<p then [(x.cut dn p,tk)] else [])++[(y,tr)])) ep'⟩] post),CX w d (oj pa x t y (tr+1) n dn la) [⟨la+158,aa (dE ps) ep⟩] post:=by
 ext w d pa tup code x y:0;intro P hx;ext t tr n dn la ep p e ps:0;intro hps hf hpe;ext post:0;intro h
 intro A s hA T H
 ext A s ⟨hA,T,H⟩;have ho:s.heap.get? (la+158)=some (aa (dE ps) ep):=H _ aJ
 obtain⟨pv1,fl,tf,hpat⟩:=P.pat s T
 have htup:=P.tup s T
 have hl9:9100<=sizeLine:=by decide
 have hpl:(dE ps).length=ps.length:=by simp[dE]
 refine codeAny_builtin nk ?_
 unfold Builtin.«re.Pattern.sub.loop»
 refine ao (oi hpat htup ?_)
 refine ao (u5 ?_)
 dsimp only
 refine ao ?_
 rw[if_neg (by simp)]
 obtain⟨N,m,hN,hr,ho1,ho2,ho3⟩:=hf
 ext N m ⟨hN,hr,ho1,ho2,ho3⟩
 have hN60:N<=2^60:=by
  have:(5000:Nat)*4+40<=2^60:=by decide
  lia
 refine xY (N:=N) (m':=m) hN60 (by rw[rR];exact hr) ho1 ?_
 have hm:(m.handed==m.start)=false:=by rw[ho2,ho3];exact eY.mpr hpe
 dsimp only
 rw[rR,hm,ho2,ho3]
 have item:∀(s1:Shared) (qs:List (bL×Nat)) (ep1:Nat),qs.length<=9001->aK w s1->s1.heap.get? (la+158)=some (aa (dE qs) ep1)->bH w s s1 (aC [⟨la+158,aa (dE ps) ep⟩]) [⟨la+158,aa (dE qs) ep1⟩]->
   (∀ep',CX w d (oj pa x t y (tr+1) (n+1) e la) [⟨la+158,aa (dE (qs++[(y,tr)])) ep'⟩] post)->
   wpAny (model pw w) (A.under (oj pa x t y (tr+1) n dn la)) (if(y.val (tr+1) != Value.none)=true then(do
     let _<-updateSeq (la+158) λx=>x.push (y.val (tr+1))
     again (oj pa x t y (tr+1) (n+1) e la)) else again (oj pa x t y (tr+1) (n+1) e la))
    (λfin s'=>match fin with|.done f=>(∃l',post (.ok f) l'/\bH w s s' (aC [⟨la+158,aa (dE ps) ep⟩]) l')|.again c'=>c'.quiet=true/\codeAny (model pw w) A c' (λr s'=>∃l',post r l'/\bH w s s' (aC [⟨la+158,aa (dE ps) ep⟩]) l') s')
    (λe s'=>∃l',post (.error e) l'/\bH w s s' (aC [⟨la+158,aa (dE ps) ep⟩]) l') s1:=λs1 qs ep1 hq T1 ho1 D1 hn=>by
  ext s1 qs ep1 ⟨hq,T1,ho1,D1,hn⟩;rw[if_pos (x6 _ _)]
  have hql:(dE qs).length=qs.length:=by simp[dE]
  refine ao (wpAny_updateSeq ho1 rfl ?_ (by simp;exact(au (ax hl9 (ax hq (fk hql))))) (by simp;exact(au (ax hl9 (ax hq (fk hql))))))
  have D2:=bH.seq (v:=y.val (tr+1)) (tk:=s1.toks) T1 ho1 (bg _)
  have e2:dE qs++[y.val (tr+1)]=dE (qs++[(y,tr)]):=by simp[dE]
  rw[e2] at D2
  have D3:=D1.trans D2
  refine aH ⟨aX rfl,?_⟩
  refine eG (hn (ep1+1) A _ hA D2.top D2.has) λr s' zp1000=>by obtain⟨l',hp,D4⟩:=zp1000;exact⟨l',hp,D3.trans D4⟩
 by_cases hdp:dn<p
 .rw[if_pos hdp]
  refine ao (rG hx ?_)
  refine ao (wpAny_updateSeq ho rfl ?_ (by simp;exact(au (ax hps (ax hl9 (fk hpl))))) (by simp;exact(au (ax hps (ax hl9 (fk hpl))))))
  have t1:=T.toks
  have D2:=bH.seq (v:=(x.cut dn p).val s.toks) (tk:=s.toks+1) T ho (k9 _ _)
  have e2:dE ps++[(x.cut dn p).val s.toks]=dE (ps++[(x.cut dn p,s.toks - 1)]):=by
   simp[dE,mV t1]
  rw[e2] at D2
  rw[if_pos (by decide)]
  refine ao (aH ?_)
  refine item _ _ _ (by simp;assumption) D2.top (D2.has _ aJ) D2 λep'=>?_
  have:=h (s.toks - 1) ep'
  rw[if_pos hdp] at this
  exact this
 .rw[if_neg hdp,if_pos (by decide)]
  refine ao (aH ?_)
  refine item s ps ep ((au hps)) T ho (bH.refl T H) λep'=>?_
  have:=h 0 ep'
  rw[if_neg hdp,fT] at this
  exact this
theorem mr:Slot "bytes" "join" "bytes.join" :=
 .of (owner:= "bytes") (n:= "join") (by rw[typeLookup_type,qD];kernel_rfl) (by decide+kernel) (by decide+kernel) (by decide+kernel)
  (by first|exact .inl (by decide+kernel)|exact .inr (by decide+kernel)) (by rw[isSubtype_type];kernel_rfl)
theorem rH:entryFor table "bytes.join" =some Builtin.«bytes.join»:=entryFor_of_tree (by kernel_rfl)
theorem sH (a b):argsOk "bytes.join" ⟨[a,b],[]⟩:=by
 unfold argsOk;rw[signature?_of (id:= "bytes.join") (n:=['n','i','o','j']) (o:=['s','e','t','y','b']) (by kernel_rfl) (rows:=Manifest.sig_bytes) (by kernel_rfl)];kernel_rfl
theorem pX (s:Shared) (b:Array UInt8) (t:Nat):s.TypeIs (.bytes b t) "bytes" :=rfl
def bL.s:bL->Str
 |.str x=>x
 |.byt _=>⟨#[]⟩
def bL.b:bL->Array UInt8
 |.str _=> #[]
 |.byt b=>b
def eu (x:bL) (l:List bL):bL:=match x with
 |.str _=>.str ⟨(l.flatMap λt=>t.s.cps.toList).toArray⟩
 |.byt _=>.byt (l.flatMap λt=>t.b.toList).toArray
def mt (x:bL) (l:List bL):Prop:=∀t∈l,t.kind=x.kind
theorem bH.toks {w s s1 a l} (D:bH w s s1 a l) {k} (h:s1.toks<=k):bH w s {s1 with toks:=k} a l:=
 ⟨⟨D.top.top,D.top.size,bC D.top.toks h⟩,D.more,bC D.tmore h,D.drawn,D.os,D.keep,D.gkeep,D.adr,D.has⟩
theorem CY:∀l:List Str,Builtin.Str.glued ⟨#[]⟩ l=⟨(l.flatMap λt=>t.cps.toList).toArray⟩
 |[]=>rfl
 |x::r=>by
  have J:∀(r:List Str) (a:Array Nat),r.foldl (λacc p=>acc++(#[]:Array Nat)++p.cps) a=(a.toList++r.flatMap λt=>t.cps.toList).toArray:=by
   intro r;induction r with
   |nil=>intro a;simp
   |cons p r ih=>intro a;rw[k7,ih];simp
  show Str.mk (r.foldl (λacc p=>acc++(#[]:Array Nat)++p.cps) x.cps)=_;rw[J];rfl
theorem Aw (l:List (Array UInt8×Nat)):gl l=(l.flatMap λp=>p.1.toList).toArray:=by
 have J:∀(l:List (Array UInt8×Nat)) (a:Array UInt8),l.foldl (λa p=>a++p.1) a=(a.toList++l.flatMap λp=>p.1.toList).toArray:=by
  intro l;induction l with
  |nil=>intro a;simp
  |cons p r ih=>intro a;rw[k7,ih];simp
 rw[gl,J];simp
theorem CZ (x l) (h:mt x l):(eu x l).arr.size=(l.map λt=>t.arr.size).sum:=by
 cases x with
 |str x=>
  show((l.flatMap λt=>t.s.cps.toList).toArray).size=_;rw[List.size_toArray,List.length_flatMap];congr 1;refine qF λt J=>?_;have:=h t J;cases t with
  |str y=>simp[bL.s,bL.arr]
  |byt b=>cases this
 |byt x=>
  show(((l.flatMap λt=>t.b.toList).toArray).map (·.toNat)).size=_;rw[Array.size_map,List.size_toArray,List.length_flatMap];congr 1;refine qF λt J=>?_;have:=h t J;cases t with
  |byt y=>simp[bL.b,bL.arr]
  |str b=>cases this
section
variable {prog:Program} {w:World} {A:Around} {E:Value->Shared->Prop} {s:Shared}
theorem HI:∀{x:bL} {qs:List (bL×Nat)} {la ep tj:Nat} (hk:mt x (qs.map (·.1))) (hne:qs≠[]) (OE:(eu x (qs.map (·.1))).arr.size<=9000) (ht:1<=s.toks) (ho:s.heap.get? (la+158)=some (aa (dE qs) ep)) {Q:Value->Shared->Prop}
  (h:∀tk k,s.toks<=k->Q ((eu x (qs.map (·.1))).val (tk+1)) {s with toks:=k}),wpAny (model prog w) A (call (.builtin (if x.kind==0 then "str.join" else "bytes.join")) [(x.cut 0 0).val tj,.ref (la+158)]) Q E s:=by
 revert prog w A E s;ext prog w A E s x qs la ep tj:0;intro hk hne OE ht ho;ext Q:0;intro h;have h9:9000<=sizeLine:=by decide
 have J:∀tk,Q ((eu x (qs.map (·.1))).val (tk+1)) s:=λtk=>h tk s.toks (bg _);have e0:s.toks - 1+1=s.toks:=mV ht;cases x with
 |str x=>
  have hl:dE qs=strValues (qs.map λp=>(p.1.s,p.2+1)):=by
   unfold dE strValues;rw[List.map_map];refine qF λp hp=>?_;have:=hk p.1 (jv hp);cases h:p.1 with
   |str y=>simp[bL.val,bL.s,h]
   |byt b=>rw[h] at this;cases this
  have hm:(qs.map λp=>(p.1.s,p.2+1)).map (·.1)=(qs.map (·.1)).map bL.s:=by rw[List.map_map,List.map_map];rfl
  have hg:Builtin.Str.glued ⟨#[]⟩ ((qs.map (·.1)).map bL.s)=(⟨((qs.map (·.1)).flatMap λt=>t.s.cps.toList).toArray⟩:Str):=by
   rw[CY,List.flatMap_map]
  have OF:x.cps.extract 0 0= #[]:=by simp
  have hL:Builtin.Str.tooLong (((qs.map λp=>(p.1.s,p.2+1)).map (·.1)).toArray.foldl (·+ ·.length+(⟨x.cps.extract 0 0⟩:Str).length) 0)=false:=by
   rw[hm,OF];have OM:∀(l:List bL) (n:Nat),mt (.str x) l->(l.map bL.s).foldl (λ(a:Nat) (b:Str)=>a+b.length+(⟨#[]⟩:Str).length) n=n+(l.map λt=>t.arr.size).sum:=by
    intro l;induction l with
    |nil=>intro n _;rfl
    |cons t r ih=>
     intro n hs;have ht:=hs t aJ;rw[de,k7,ih _ λy hy=>hs y (.tail _ hy),de,List.sum_cons];cases t with
     |str y=>show n+y.cps.size+0+_=n+(y.cps.size+_);simp+arith
     |byt b=>cases ht
   rw[List.foldl_toArray,OM _ _ hk,Nat.zero_add,<-CZ _ _ hk];unfold Builtin.Str.tooLong;simp;exact au (ax h9 OE)
  show wpAny _ _ (call (.builtin "str.join") [.str ⟨x.cps.extract 0 0⟩ tj,.ref (la+158)]) _ _ _;refine call_meets F.slot_str_join (typeIs_str _ _ _) F.entry_str_join (F.args_str_join_2 _ _) (meets_str_join_list _ _ (la+158) _ hL) ⟨⟨_,ho,rfl,ep,by rw[hl];rfl⟩,?_⟩;show(joinMade (⟨x.cps.extract 0 0⟩:Str) _).post _ _;rw[OF]
  match qs,hne,hk,OE,hm,hg,h,J with
  |[p],_,hk,OE,hm,hg,h,J=>
   have hp:=hk p.1 aJ;have e:(eu (.str x) ([p].map (·.1)))=.str p.1.s:=by
    show bL.str ⟨([p.1].flatMap λt=>t.s.cps.toList).toArray⟩=_;simp
   have:=J p.2;rw[e] at this;exact this
  |p::q::r,_,hk,OE,hm,hg,h,J=>
   show(Made.str (Builtin.Str.glued ⟨#[]⟩ (((p::q::r).map λp=>(p.1.s,p.2+1)).map (·.1)))).post _ _;rw[hm,hg];refine⟨bC OE h9,?_⟩;have:=h (s.toks - 1) (s.toks+1) (k9 _ _);rw[e0] at this;exact this
 |byt x=>
  have hl:dE qs=i3 (qs.map λp=>(p.1.b,p.2+1)):=by
   unfold dE i3;rw[List.map_map];refine qF λp hp=>?_;have:=hk p.1 (jv hp);cases h:p.1 with
   |byt y=>simp[bL.val,bL.b,h]
   |str b=>rw[h] at this;cases this
  have OH:eu (.byt x) (qs.map (·.1))=.byt (gl (qs.map λp=>(p.1.b,p.2+1))):=by
   rw[Aw,List.flatMap_map];show bL.byt _=bL.byt _;rw[List.flatMap_map]
  have OF:(x.map (·.toNat)).extract 0 0= #[]:=by simp
  show wpAny _ _ (call (.builtin "bytes.join") [.bytes (((x.map (·.toNat)).extract 0 0).map (·.toUInt8)) tj,.ref (la+158)]) _ _ _;refine wpAny_call (codeAny_call_builtin mr.plain rH (mr.check _ _ _ _ _ _ _ _ (pX _ _ _) (sH _ _) ?_));show wpAny _ _ (Builtin.«bytes.join» ⟨[.bytes (((x.map (·.toNat)).extract 0 0).map (·.toUInt8)) tj,.ref (la+158)],[]⟩) _ _ _;rw[OF,show(#[]:Array Nat).map (·.toUInt8)= #[] from Array.map_empty ..];rw[hl] at ho;rw[OH] at OE h J;have OG:(gl (qs.map λp=>(p.1.b,p.2+1))).size<=9000:=by
   have:((gl (qs.map λp=>(p.1.b,p.2+1))).map (·.toNat)).size<=9000:=OE;rwa[Array.size_map] at this
  generalize OI:qs.map (λp=>(p.1.b,p.2+1))=bs at ho OE OG h J;have OJ:bs≠[]:=by rw[<-OI];simpa using hne
  refine ED ho (bC OG (by decide)) OJ λt OL=>?_;rcases OL with rfl|⟨p,hp,rfl⟩
  .have h1:=h (s.toks - 1) (s.toks+1) (k9 _ _);have h2:=J (s.toks - 1);rw[e0] at h1 h2;exact⟨h1,h2⟩
  .have:∃k,p.2=k+1:=by
    have:p∈qs.map λp=>(p.1.b,p.2+1):=by rw[OI,hp];exact .head _
    obtain⟨q,_,rfl⟩:=cT.mp this;exact⟨q.2,rfl⟩
   obtain⟨k,OK⟩:=this;rw[OK];exact⟨h k (s.toks+1) (k9 _ _),J k⟩
end
theorem HJ:∀{w d pa OU code x y} (P:qv w pa OU code x.kind) (hx:x.arr.size<=5000) {t tr n J la ep ps} (OL:ps.length<=9000) (hf:mq code x.arr J x.arr.size)
  (hk:mt x (ps.map (·.1))) (hne:ps≠[]\/J<x.arr.size) (OF:(eu x (ps.map (·.1)++if J<x.arr.size then [x.cut J x.arr.size] else [])).arr.size<=9000),CX w d (oj pa x t y (tr+1) n J la) [⟨la+158,aa (dE ps) ep⟩] (λr l'=>∃tk,r=.ok (.ret ((eu x (ps.map (·.1)++if J<x.arr.size then [x.cut J x.arr.size] else [])).val (tk+1)))/\l'=[]):=by
 ext w d pa OU code x y:0;intro P hx;ext t tr n J la ep ps:0;intro OL hf hk hne OF;intro A s hA T H;ext A s ⟨hA,T,H⟩;have ho:s.heap.get? (la+158)=some (aa (dE ps) ep):=H _ aJ;obtain⟨OV,fl,tf,OR⟩:=P.pat s T;have OT:=P.tup s T;have OQ:9100<=sizeLine:=by decide
 have OS:(dE ps).length=ps.length:=by simp[dE]
 refine codeAny_builtin nk ?_;unfold Builtin.«re.Pattern.sub.loop»;refine ao (oi OR OT ?_);refine ao (u5 ?_);dsimp only;refine ao ?_;rw[if_neg (by simp)];obtain⟨N,m,hN,hr,OI⟩:=hf;have OM:N<=2^60:=by
  have:(5000:Nat)*4+40<=2^60:=by decide
  lia
 refine As (N:=N) (m':=m) OM (by rw[rR];exact hr) OI ?_;dsimp only;rw[rR];have OJ:∀s1 qs OG,mt x (qs.map (·.1))->qs≠[]->(eu x (qs.map (·.1))).arr.size<=9000->aK w s1->s1.heap.get? (la+158)=some (aa (dE qs) OG)->bH w s s1 (aC [⟨la+158,aa (dE ps) ep⟩]) [⟨la+158,aa (dE qs) OG⟩]->
   wpAny (model pw w) (A.under (oj pa x t y (tr+1) n J la)) (do
     let OE<-Builtin.Re.reSlice x.arr x.kind 0 0
     let text<-if((<-seqItems? (.ref (la+158))).getD #[]).isEmpty then pure OE else call (.builtin (if x.kind==0 then "str.join" else "bytes.join")) [OE,.ref (la+158)]
     if(false:Bool)=true then ret (<-holding [text] do newTuple [text,<-mkInt n]) else ret text)
    (λOJ s'=>match OJ with|.done f=>(∃l',(∃tk,(.ok f:Result)=.ok (.ret ((eu x (qs.map (·.1))).val (tk+1)))/\l'=[])/\bH w s s' (aC [⟨la+158,aa (dE ps) ep⟩]) l')|.again c'=>c'.quiet=true/\codeAny (model pw w) A c' (λr s'=>∃l',(∃tk,r=.ok (.ret ((eu x (qs.map (·.1))).val (tk+1)))/\l'=[])/\bH w s s' (aC [⟨la+158,aa (dE ps) ep⟩]) l') s')
    (λe s'=>∃l',(∃tk,(.error e:Result)=.ok (.ret ((eu x (qs.map (·.1))).val (tk+1)))/\l'=[])/\bH w s s' (aC [⟨la+158,aa (dE ps) ep⟩]) l') s1:=λs1 qs OG OO OH OK T1 OI D1=>by
  ext s1 qs OG ⟨OO,OH,OK,T1,OI,D1⟩;have t1:=T1.toks;refine ao (rG hx ?_);refine ao (wpAny_seqItems OI rfl ?_);have ON:((some (dE qs).toArray).getD #[]).isEmpty=false:=by
   cases qs with
   |nil=>exact bh rfl OH
   |cons a r=>rfl
  rw[ON];refine ao (HI (s:={s1 with toks:=s1.toks+1}) OO OH OK (by show 1<=s1.toks+1;exact iT _) OI λtk k OP=>?_);refine aH ⟨[],⟨tk,rfl,rfl⟩,?_⟩;have D2:bH w s {s1 with toks:=k} (aC [⟨la+158,aa (dE ps) ep⟩]) [⟨la+158,aa (dE qs) OG⟩]:=D1.toks (by have:s1.toks+1<=k:=OP;exact Nat.le_of_lt OP);exact D2.sub (λU h=>h) (λU h=>nomatch h)
 by_cases hd:J<x.arr.size
 .have eZ:(if J<x.arr.size then [x.cut J x.arr.size] else [])=[x.cut J x.arr.size]:=if_pos hd;rw[eZ] at OF|-;rw[if_pos hd];refine ao (rG hx ?_);refine ao (wpAny_updateSeq ho rfl ?_ (by simp;exact(au (ax OL (ax OQ (fk OS))))) (by simp;exact(au (ax OL (ax OQ (fk OS))))));have t1:=T.toks;have D2:=bH.seq (v:=(x.cut J x.arr.size).val s.toks) (tk:=s.toks+1) T ho (k9 _ _);have e2:dE ps++[(x.cut J x.arr.size).val s.toks]=dE (ps++[(x.cut J x.arr.size,s.toks - 1)]):=by
   simp[dE,mV t1]
  rw[e2] at D2;have em:(ps++[(x.cut J x.arr.size,s.toks - 1)]).map (·.1)=ps.map (·.1)++[x.cut J x.arr.size]:=by simp
  rw[<-em] at OF|-;refine OJ _ _ _ (λz hz=>?_) (by simp) OF D2.top (D2.has _ aJ) D2;rw[em] at hz;rcases dk.mp hz with hz|hz
  .exact hk z hz
  .rw[cD] at hz;subst hz;cases x<;>rfl
 .have eZ:(if J<x.arr.size then [x.cut J x.arr.size] else [])=[]:=if_neg hd;rw[eZ,fT] at OF|-;rw[if_neg hd];exact OJ s ps ep hk (hne.resolve_right hd) OF T ho (bH.refl T H)
def nl (code x:Array Nat):Nat->List (Nat×Nat)->Prop
 |dn,[]=>mq code x dn x.size
 |dn,q::r=>kO code x dn x.size q.1 q.2/\dn<=q.1/\q.1<q.2/\q.2<=x.size/\nl code x q.2 r
def cM (x y:bL):Nat->List (Nat×Nat)->List bL
 |dn,[]=>if dn<x.arr.size then [x.cut dn x.arr.size] else []
 |dn,q::r=>(if dn<q.1 then [x.cut dn q.1] else [])++[y]++cM x y q.2 r
theorem yS {w d pa tup code x y} (P:qv w pa tup code x.kind) (hx:x.arr.size<=5000) (hy:y.kind=x.kind) {t tr la}:∀ms J n ep ps,nl code x.arr J ms->ps.length+2*ms.length<=9000->mt x (ps.map (·.1))->(ps≠[]\/ms≠[]\/J<x.arr.size)->
  (eu x (ps.map (·.1)++cM x y J ms)).arr.size<=9000->
  CX w d (oj pa x t y (tr+1) n J la) [⟨la+158,aa (dE ps) ep⟩] (λr l'=>∃tk,r=.ok (.ret ((eu x (ps.map (·.1)++cM x y J ms)).val (tk+1)))/\l'=[])
 |[],J,n,ep,ps,hm,hl,hk,hne,OE=>HJ P hx (by simpa using hl) hm hk (hne.imp id λh=>h.resolve_left λh=>h rfl) OE
 |q::r,J,n,ep,ps,hm,hl,hk,hne,OE=>by
  obtain⟨h1,h2,h3,h4,h5⟩:=hm;rw[fu] at hl;refine EE P hx ((au hl)) h1 (ka h3) λtk OF=>?_;have em:ps.map (·.1)++cM x y J (q::r)=(ps++(if J<q.1 then [(x.cut J q.1,tk)] else [])++[(y,tr)]).map (·.1)++cM x y q.2 r:=by
   by_cases hd:J<q.1<;>simp[cM,hd]
  rw[em] at OE|-;refine yS P hx hy r q.2 (n+1) OF _ h5 ?_ (λz hz=>?_) (.inl (by simp)) OE
  .by_cases hd:J<q.1<;>simp[hd]<;>exact au hl
  .obtain⟨p,hp,rfl⟩:=cT.mp hz;rcases dk.mp hp with hp|hp
   .rcases dk.mp hp with hp|hp
    .exact hk _ (jv hp)
    .by_cases hd:J<q.1
     .rw[if_pos hd,cD] at hp;subst hp;cases x<;>rfl
     .rw[if_neg hd] at hp;cases hp
   .rw[cD] at hp;subst hp;exact hy
theorem qS:Slot "re.Pattern" "sub" "re.Pattern.sub" :=
 .of (owner:= "re.Pattern") (n:= "sub") (by rw[typeLookup_type,qD];kernel_rfl) (by decide+kernel) (by decide+kernel) (by decide+kernel)
  (by first|exact .inl (by decide+kernel)|exact .inr (by decide+kernel)) (by rw[isSubtype_type];kernel_rfl)
theorem xf:entryFor table "re.Pattern.sub" =some Builtin.«re.Pattern.sub»:=entryFor_of_tree (by kernel_rfl)
theorem x7 (a b c):argsOk "re.Pattern.sub" ⟨[a,b,c],[]⟩:=by
 unfold argsOk;rw[signature?_of (id:= "re.Pattern.sub") (n:=['b','u','s']) (o:=['n','r','e','t','t','a','P','.','e','r']) (by kernel_rfl) (rows:=Manifest.sig_re_Pattern) (by kernel_rfl)];kernel_rfl
theorem EF (a b):Builtin.Re.reNamed "re.Pattern.sub" "sub" ["repl","string","count"] 2 [a,b] []=pure [some a,some b,none]:=by rfl
theorem Ax:typeLookup (.type "str") (Str.ofString "__call__")=pure none:=by rw[typeLookup_type,qD];kernel_rfl
theorem Ay:typeLookup (.type "bytes") (Str.ofString "__call__")=pure none:=by rw[typeLookup_type,qD];kernel_rfl
def JX (y:bL):Prop:=match y with
 |.str x=>x.cps.contains 92=false
 |.byt b=>b.contains 92=false
theorem xg:∀{w d pa ON code x y} (P:qv w pa ON code x.kind) (hx:x.arr.size<=5000) (hy:y.kind=x.kind) (hb:JX y) {t tr J} (hm:nl code x.arr 0 J) (hl:J.length<=4000) (hne:J≠[]\/0<x.arr.size)
  (OL:(eu x (cM x y 0 J)).arr.size<=9000),CX w d (.call (.builtin "re.Pattern.sub") ⟨[.ref pa,y.val (tr+1),x.val t],[]⟩) [] (λr l'=>∃tk,r=.ok (.ret ((eu x (cM x y 0 J)).val (tk+1)))/\l'=[]):=by
 ext w d pa ON code x y:0;intro P hx hy hb;ext t tr J:0;intro hm hl hne OL;intro A s hA T H;ext A s ⟨hA,T,H⟩;obtain⟨OP,fl,tf,OH⟩:=P.pat s T;have OM:=P.tup s T;have hT:s.TypeIs (.ref pa) "re.Pattern" :=⟨_,OH,rfl⟩;refine codeAny_call_builtin qS.plain xf (qS.check _ _ _ _ _ _ _ _ hT (x7 _ _ _) ?_);show wpAny _ _ (Builtin.Re.reSubstitute "re.Pattern.sub" "sub" false ⟨[.ref pa,y.val (tr+1),x.val t],[]⟩) _ _ _;unfold Builtin.Re.reSubstitute;dsimp only;rw[EF];refine ao (aH ?_);dsimp only;refine ao (aH ?_);have OJ:∀{Q:Option Value->Shared->Prop} {E:Value->Shared->Prop},Q none s->wpAny (model pw w) A.in1 (specialOf (y.val (tr+1)) (Str.ofString "__call__")) Q E s:=λ{Q E} h=>by
  cases y with
  |str y=>exact oB rfl Ax h
  |byt y=>exact oB rfl Ay h
 refine ao (OJ ?_);rw[if_neg (by decide)];have OE:wpAny (model pw w) A.in1 (do
   let _<-holding [y.val (tr+1)] (Builtin.Re.reWholeTarget (.ref pa) (x.val t))
   let l<-newList []
   again (.builtin "re.Pattern.sub.loop" ⟨[.ref pa,x.val t,y.val (tr+1),rawInt 0,rawInt 0,rawInt 0,rawInt 0,rawInt 0,.bool false,l,.bool false],[]⟩))
   (λOE s'=>match OE with|.done f=>(∃l',(∃tk,(.ok f:Result)=.ok (.ret ((eu x (cM x y 0 J)).val (tk+1)))/\l'=[])/\bH w s s' (aC []) l')|.again c'=>c'.quiet=true/\codeAny (model pw w) A c' (λr s'=>∃l',(∃tk,r=.ok (.ret ((eu x (cM x y 0 J)).val (tk+1)))/\l'=[])/\bH w s s' (aC []) l') s')
   (λe s'=>∃l',(∃tk,(.error e:Result)=.ok (.ret ((eu x (cM x y 0 J)).val (tk+1)))/\l'=[])/\bH w s s' (aC []) l') s:=by
  refine ao (wpAny_holding (oi OH OM ?_));refine ao (wpAny_newList ?_ (by simp[sizeLine]));have OG:=T.size;obtain⟨la,OK⟩:∃la,s.heap.objs.size=la+158:=⟨s.heap.objs.size - 158,by exact vz OG⟩;have D:bH w s {s with heap:=s.heap.push (aa [] 0)} (aC []) [⟨la+158,aa [] 0⟩]:=by
   refine⟨⟨λa o h=>ju _ (T.top a o h),by show 158<=(s.heap.push _).objs.size;rw[k8];exact j4 OG,T.toks⟩,by show _<=(s.heap.push _).objs.size;rw[k8];exact k9 _ _,bg _,rfl,rfl,λa o h U=>ju _ h,λU U h=>h,λe he=>?_,λe he=>?_⟩
   .rw[cD] at he;subst he;exact .inr (by show _<=la+158;exact j9 OK)
   .rw[cD] at he;subst he;show(s.heap.push _).get? (la+158)=_;rw[<-OK];exact Heap.get?_push_size _ rfl
  refine aH ⟨aX rfl,?_⟩;rw[OK];have OO:=yS (d:=d) P hx hy (t:=t) (tr:=tr) (la:=la) J 0 0 0 [] hm (by simp;exact(au (ax hl hl))) (λU h=>nomatch h) (.inr hne) OL;exact eG (OO A _ hA D.top D.has) λr s' OF=>by obtain⟨l',⟨tk,h1,h2⟩,D4⟩:=OF;exact⟨l',⟨tk,h1,h2⟩,D.trans D4⟩
 cases y with
 |str y=>
  have OI:y.cps.contains 92=false:=hb;refine ao (aH ?_);dsimp only;refine ao (aH ?_);rw[OI,if_neg (by decide),if_pos (by decide)];exact ao (aH OE)
 |byt y=>
  have OI:y.contains 92=false:=hb;refine ao (ao (aH (aH ?_)));dsimp only;refine ao (JW ?_);dsimp only;refine ao (aH ?_);rw[OI,if_neg (by decide),if_pos (by decide)];exact ao (aH OE)
def jq (l J:List Nat):Nat->List (Nat×Nat)->List Nat
 |dn,[]=>l.drop dn
 |dn,q::r=>(l.take q.1).drop dn++J++jq l J q.2 r
theorem yT (x:bL) (b e:Nat):(x.cut b e).arr.toList=(x.arr.toList.take e).drop b:=by
 cases x with
 |str x=>show(x.cps.extract b e).toList=_;simp[bL.arr,List.drop_take]
 |byt y=>
  show((((y.map (·.toNat)).extract b e).map (·.toUInt8)).map (·.toNat)).toList=_;have:((λ(x:UInt8)=>x.toNat)∘(λ(x:Nat)=>UInt8.ofNat x)∘ λ(x:UInt8)=>x.toNat)=λu=>u.toNat:=by
   funext u;simp
  simp[bL.arr,List.drop_take,this]
theorem xh (x l) (h:mt x l):(eu x l).arr.toList=l.flatMap λt=>t.arr.toList:=by
 cases x with
 |str x=>
  show((l.flatMap λt=>t.s.cps.toList).toArray).toList=_;rw[List.toList_toArray];induction l with
  |nil=>rfl
  |cons t r ih=>
   rw[rQ,rQ,ih λy J=>h y (.tail _ J)];have:=h t aJ;cases t with
   |str y=>rfl
   |byt b=>cases this
 |byt x=>
  show(((l.flatMap λt=>t.b.toList).toArray).map (·.toNat)).toList=_;rw[Array.toList_map,List.toList_toArray];induction l with
  |nil=>rfl
  |cons t r ih=>
   rw[rQ,rQ,k6,ih λy J=>h y (.tail _ J)];have:=h t aJ;cases t with
   |byt y=>simp[bL.b,bL.arr]
   |str b=>cases this
theorem xi (x:bL) (b e:Nat):(x.cut b e).kind=x.kind:=by cases x<;>rfl
theorem mP (hy:y.kind=x.kind):∀ms J,mt x (cM x y J ms)
 |[],J=>λt ht=>by
  dsimp only[cM] at ht;split at ht
  .rw[cD] at ht;subst ht;exact xi _ _ _
  .cases ht
 |q::r,J=>λt ht=>by
  dsimp only[cM] at ht;rcases dk.mp ht with ht|ht
  .rcases dk.mp ht with ht|ht
   .split at ht
    .rw[cD] at ht;subst ht;exact xi _ _ _
    .cases ht
   .rw[cD] at ht;subst ht;exact hy
  .exact mP hy r q.2 t ht
theorem ol:∀ms J,((cM x y J ms).flatMap λt=>t.arr.toList)=jq x.arr.toList y.arr.toList J ms
 |[],J=>by
  unfold cM jq;by_cases h:J<x.arr.size
  .rw[if_pos h,rO,yT];rw[uA (by simp)]
  .rw[if_neg h,uB (by simp;exact Is h)];rfl
 |q::r,J=>by
  unfold cM jq;rw[rP,rP,ol r q.2,rO];by_cases h:J<q.1
  .rw[if_pos h,rO,yT]
  .rw[if_neg h];have:(x.arr.toList.take q.1).drop J=[]:=uB (by rw[List.length_take];exact MM h (List.length (Array.toList (bL.arr x))));rw[this];rfl
def co:List Nat->List Nat
 |[]=>[]
 |13::10::r=>13::10::co r
 |c::r=>match c==10||c==13 with
  |true=>13::10::co r
  |false=>c::co r
theorem yU:∀{r},(∀J,r≠10::J)->co (13::r)=13::10::co r:=λ{r} h=>by
 rw[co]
 .rfl
 .intro J _ e;exact h J e
theorem on (h:(c==10||c==13)=false):co (c::r)=c::co r:=by
 have J:c≠13:=λe=>by rw[e] at h;cases h
 rw[co]
 .rw[h]
 .intro r' e _;exact J e
def bA:Bool->List Nat->List Nat
 |_,[]=>[]
 |b,c::r=>match b&&c==46 with
  |true=>46::46::bA false r
  |false=>c::bA (c==10) r
theorem oq (a:Array Nat) (i:Nat):a.getD i 0=a.toList.getD i 0:=by
 rw[Array.getD_eq_getD_getElem?,List.getD_eq_getElem?_getD,Array.getElem?_toList]
theorem nn {l:List Nat} {J i:Nat} (h:J<=i) (hi:i<l.length):(l.take (i+1)).drop J=(l.take i).drop J++[l[i]]:=by
 rw[List.take_add_one,mR hi,List.drop_append_of_le_length (by rw[List.length_take];lia)];rfl
theorem x8:∀{a},∀k i dn,a.size - i=k->dn<=i->i<=a.size->(∀j,dn<=j->j<i->¬jp (a.getD j 0))->∃ms,nl C2 a dn ms/\ms.length<=k/\jq a.toList [13,10] dn ms=(a.toList.take i).drop dn++co (a.toList.drop i):=by
 ext a:0;intro k;induction k using Nat.strongRecOn with
 |_ k ih=>
  ext k ⟨ih⟩;intro i dn hk J hi OI;ext i dn ⟨hk,J,hi,OI⟩;by_cases he:i=a.size
  .subst he;refine⟨[],xd J OI,iU _,?_⟩;rw[uB (l:=a.toList) (i:=a.size) (by simp)];rw[uA (by simp)];simp[jq,co]
  .have OF:i<a.size:=by lia
   have hl:i<a.toList.length:=by simpa using OF
   have OH:a.getD i 0=a.toList[i]:=by rw[oq,List.getD_eq_getElem?_getD,mR hl];rfl
   have OE:a.toList.drop i=a.toList[i]::a.toList.drop (i+1):=List.drop_eq_getElem_cons hl;by_cases OJ:a.getD i 0=10
   .obtain⟨ms,h1,h2,h3⟩:=ih (a.size - (i+1)) (by lia) (i+1) (i+1) rfl (bg _) OF (λj h1 h2=>bh h2 ((Nat.not_lt_of_le (au h1))));refine⟨(i,i+1)::ms,⟨CP J OF OJ OI,J,Nat.lt_succ_self _,OF,h1⟩,by simp;lia,?_⟩;show(a.toList.take i).drop dn++[13,10]++jq a.toList [13,10] (i+1) ms=_;rw[h3,OE,<-OH,OJ,uB (l:=a.toList.take (i+1)) (by rw[List.length_take];lia)];simp[co]
   .by_cases OG:a.getD i 0=13
    .by_cases hn:i+1<a.size/\a.getD (i+1) 0=10
     .have ON:i+1<a.toList.length:=by simpa using hn.1
      have OM:a.getD (i+1) 0=a.toList[i+1]:=by rw[oq,List.getD_eq_getElem?_getD,mR ON];rfl
      have OL:a.toList.drop (i+1)=a.toList[i+1]::a.toList.drop (i+1+1):=List.drop_eq_getElem_cons ON;obtain⟨ms,h1,h2,h3⟩:=ih (a.size - (i+1+1)) (by lia) (i+1+1) (i+1+1) rfl (bg _) hn.1 (λj h1 h2=>bh h2 ((Nat.not_lt_of_le (au h1))));refine⟨(i,i+1+1)::ms,⟨xW J OF OG hn.1 hn.2 OI,J,by exact k9 _ _,hn.1,h1⟩,by simp;lia,?_⟩;show(a.toList.take i).drop dn++[13,10]++jq a.toList [13,10] (i+1+1) ms=_;rw[h3,OE,OL,<-OH,<-OM,OG,hn.2,uB (l:=a.toList.take (i+1+1)) (by rw[List.length_take];lia)];simp[co]
     .obtain⟨ms,h1,h2,h3⟩:=ih (a.size - (i+1)) (by lia) (i+1) (i+1) rfl (bg _) OF (λj h1 h2=>bh h2 ((Nat.not_lt_of_le (au h1))));refine⟨(i,i+1)::ms,⟨CR J OF OG (λh e=>hn ⟨h,e⟩) OI,J,Nat.lt_succ_self _,OF,h1⟩,by simp;lia,?_⟩;show(a.toList.take i).drop dn++[13,10]++jq a.toList [13,10] (i+1) ms=_;rw[h3,OE,<-OH,OG,uB (l:=a.toList.take (i+1)) (by rw[List.length_take];lia)];have:co (13::a.toList.drop (i+1))=13::10::co (a.toList.drop (i+1)):=yU λr' e=>by
       have OK:i+1<a.toList.length:=by
        have:=congrArg List.length e;rw[List.length_drop,fu] at this;exact i7 this
       rw[List.drop_eq_getElem_cons OK] at e;refine hn ⟨by simpa using OK,?_⟩;rw[oq,List.getD_eq_getElem?_getD,mR OK];exact(List.cons.inj e).1
      rw[this];simp
    .have hne:¬jp (a.getD i 0):=λh=>h.elim OJ OG;obtain⟨ms,h1,h2,h3⟩:=ih (a.size - (i+1)) (by lia) (i+1) dn rfl (j4 J) OF (λj OO OP=>by
      by_cases e:j=i
      .rw[e];exact hne
      .exact OI j OO (by lia))
     refine⟨ms,h1,by lia,?_⟩;rw[h3,nn J hl,OE];have hb:(a.toList[i]==10||a.toList[i]==13)=false:=by
      rw[OH] at OJ OG;rw[eY.mpr OJ,eY.mpr OG];rfl
     rw[on hb];simp
theorem vh:∀{a},∀k i dn,a.size - i=k->dn<=i->i<=a.size->(∀j,dn<=j->j<i->¬jV a a.size j)->∃ms,nl C1 a dn ms/\ms.length<=k/\jq a.toList [46,46] dn ms=(a.toList.take i).drop dn++bA (decide (i=0\/a.getD (i - 1) 0=10)) (a.toList.drop i):=by
 ext a:0;intro k;induction k with
 |zero=>
  intro i dn hk J hi OH;obtain rfl:i=a.size:=by lia
  refine⟨[],xX J (λj h1 h2 hd=>?_),iU _,?_⟩
  .exact OH j h1 hd.2.1 hd
  .rw[uB (l:=a.toList) (i:=a.size) (by simp),uA (by simp)];simp[jq,bA]
 |succ k ih=>
  ext k ⟨ih⟩;intro i dn hk J hi OH;ext i dn ⟨hk,J,hi,OH⟩;have OG:i<a.size:=i7 hk;have hl:i<a.toList.length:=by simpa using OG
  have OF:a.getD i 0=a.toList[i]:=by rw[oq,List.getD_eq_getElem?_getD,mR hl];rfl
  have OE:a.toList.drop i=a.toList[i]::a.toList.drop (i+1):=List.drop_eq_getElem_cons hl;by_cases hd:jV a a.size i
  .obtain⟨ms,h1,h2,h3⟩:=ih (i+1) (i+1) (ke hk) (bg _) OG (λj h1 h2=>bh h2 (by lia));refine⟨(i,i+1)::ms,⟨JV J hd OH,J,Nat.lt_succ_self _,OG,h1⟩,by simp;assumption,?_⟩;show(a.toList.take i).drop dn++[46,46]++jq a.toList [46,46] (i+1) ms=_;have e1:decide (i=0\/a.getD (i - 1) 0=10)=true:=jW hd.1;have e2:decide (i+1=0\/a.getD (i+1 - 1) 0=10)=false:=iS λh=>by
    rcases h with h|h
    .exact lf (fk h)
    .rw[Nat.add_sub_cancel,hd.2.2] at h;cases h
   rw[h3,OE,<-OF,hd.2.2,uB (l:=a.toList.take (i+1)) (by rw[List.length_take];lia),e1,e2];simp[bA]
  .obtain⟨ms,h1,h2,h3⟩:=ih (i+1) dn (ke hk) (j4 J) OG (λj OI OJ=>by
    by_cases e:j=i
    .rw[e];exact hd
    .exact OH j OI (by lia))
   refine⟨ms,h1,by exact j4 h2,?_⟩;rw[h3,nn J hl,OE];have e2:decide (i+1=0\/a.getD (i+1 - 1) 0=10)=(a.toList[i]==10):=by
    rw[Nat.add_sub_cancel,OF];by_cases h:a.toList[i]=10
    .rw[jW (.inr h),beq_iff_eq.mpr h]
    .rw[iS (λe=>e.elim (ka (bN (Nat.succ 0) i)) h),eY.mpr h]
   have e1:(decide (i=0\/a.getD (i - 1) 0=10)&&a.toList[i]==46)=false:=by
    by_cases h:i=0\/a.getD (i - 1) 0=10
    .rw[jW h,Bool.true_and,eY];intro e;exact hd ⟨h,OG,OF.trans e⟩
    .rw[iS h];rfl
   rw[e2];show _=_++(match(decide (i=0\/a.getD (i - 1) 0=10)&&a.toList[i]==46) with|true=>46::46::bA false (a.toList.drop (i+1))|false=>a.toList[i]::bA (a.toList[i]==10) (a.toList.drop (i+1)));rw[e1];simp
theorem HK (w):qv w 62 61 C2 0:=⟨λs T=>⟨_,_,_,T.top _ _ (Nc _)⟩,λs T=>T.top _ _ (Nd _)⟩
theorem HL (w):qv w 57 56 C1 1:=⟨λs T=>⟨_,_,_,T.top _ _ (Nf _)⟩,λs T=>T.top _ _ (Ng _)⟩
theorem EG:∀l,(co l).length<=2*l.length:=by
 intro l;induction l using co.induct with
 |case1=>exact bg _
 |case2 r ih=>show(co r).length+1+1<=2*(r.length+1+1);exact au ih
 |case3 c r h hb ih=>
  rw[co]
  .rw[hb];show(co r).length+1+1<=2*(r.length+1);exact au ih
  .exact h
 |case4 c r h hb ih=>rw[on hb];show(co r).length+1<=2*(r.length+1);exact y0 ih
theorem ou:∀l b,(bA b l).length<=2*l.length
 |[],_=>bg _
 |c::r,b=>by
  dsimp only[bA];have J:=ou r false;have h2:=ou r (c==10);split<;>simp<;>lia
def gm:Str:=⟨#[97,115,99,105,105]⟩
def mu (x:Str):Array UInt8:=x.cps.map (·.toUInt8)
theorem EH (x:Str) (t u:Nat):Builtin.«str.encode» ⟨[.str x t,.str gm u],[]⟩=(do ret (<-Builtin._codecs.encodeRoad "str.encode" (.str x t) x gm none)):=by kernel_rfl
theorem HM (id self x errors):Builtin._codecs.encodeRoad id self x gm errors=(do mkBytes (<-Builtin._codecs.encodeNarrow id Builtin._codecs.asciiCodec errors self x)):=by
 first|rfl|(unfold Builtin._codecs.encodeRoad;rfl)
section
variable {M:Model} {A:Around} {E:Value->Shared->Prop} {s:Shared}
theorem Az {J:Type} {b b1:J} {n} {f:Nat->J->Sem (ForInStep J)} {Q:J->Shared->Prop} (hn:0<n) (h1:∀{Q':ForInStep J->Shared->Prop},Q' (.yield b1) s->wpAny M A (f 0 b) Q' E s) (h2:∀i {Q':ForInStep J->Shared->Prop},Q' (.done b1) s->wpAny M A (f i b1) Q' E s)
  (hQ:Q b1 s):wpAny M A (forIn [:n] b f) Q E s:=by
 rw[Std.Legacy.Range.forIn_eq_forIn_range'];have:([:n]:Std.Legacy.Range).size=n:=by simp[Std.Legacy.Range.size]
 rw[this];show wpAny M A (forIn (List.range' 0 n) b f) Q E s;cases n with
 |zero=>lia
 |succ k=>
  rw[List.range'_succ,List.forIn_cons];refine ao (h1 ?_);show wpAny M A (forIn (List.range' 1 k) b1 f) Q E s;cases k with
  |zero=>exact aH hQ
  |succ j=>
   rw[List.range'_succ,List.forIn_cons];exact ao (h2 1 (aH hQ))
theorem xj:∀{id:String} {OE:Value} {x:Str} {er:Option Str} (ha:∀c∈x.cps.toList,c<128) (h0:0<x.length) (hl:x.cps.size<=5000) {Q:Array UInt8->Shared->Prop} (h:Q (mu x) s),wpAny M A (Builtin._codecs.encodeNarrow id Builtin._codecs.asciiCodec er OE x) Q E s:=by
 revert M A E s;ext M A E s id OE x er:0;intro ha h0 hl;ext Q:0;intro h;unfold Builtin._codecs.encodeNarrow;dsimp only;have J:∀c∈x.cps.toList,Builtin._codecs.asciiCodec.bad c=false:=λc hc=>by
  have:=ha c hc;show decide (c>=128)=false;rw[decide_eq_false_iff_not];lia
 have OM:x.cps.extract 0=x.cps:=by simp
 have OF:Array.findIdx? Builtin._codecs.asciiCodec.bad x.cps=none:=by
  rw[Array.findIdx?_eq_none_iff];intro c hc;exact J c (Array.mem_toList_iff.mpr hc)
 have OH:∃c,x.cps[0]? =some c/\Builtin._codecs.asciiCodec.bad c=false:=by
  have OJ:0<x.cps.size:=h0;refine⟨x.cps[0],Array.getElem?_eq_getElem OJ,J _ ?_⟩;exact Array.mem_toList_iff.mpr (Array.getElem_mem _)
 obtain⟨c,OK,OL⟩:=OH;have OG:∀(l:List Nat) (a:Array UInt8),l.foldl (λacc y=>acc++(Builtin._codecs.asciiCodec.bytesOf y).toArray) a=a++(l.map (·.toUInt8)).toArray:=by
  intro l;induction l with
  |nil=>intro a;rfl
  |cons p r ih=>
   intro a;rw[k7,ih];show a++[p.toUInt8].toArray++_=_;simp
 have OI:Array.foldl (λacc y=>acc++(Builtin._codecs.asciiCodec.bytesOf y).toArray) #[] (x.cps.extract 0 x.cps.size)=mu x:=by
  rw[Array.extract_size,<-Array.foldl_toList,OG];unfold mu;apply Array.ext';simp
 refine ao (Az (b1:=(x.cps.size,mu x,({}:Builtin._codecs.Faults))) h0 (λ{Q'} h=>?_) (λi {Q'} h=>?_) (aH h))
 .dsimp only;rw[if_neg (by decide),OK];dsimp only;rw[OL,if_pos (by decide),OM,OF];show wpAny M A (pure (ForInStep.yield (0+x.cps.size,Array.foldl (λacc y=>acc++(Builtin._codecs.asciiCodec.bytesOf y).toArray) #[] (x.cps.extract 0 x.cps.size),({}:Builtin._codecs.Faults)))) _ _ _;rw[OI,Nat.zero_add];exact aH h
 .dsimp only;have ON:¬(mu x).size>sizeLine:=by
   have h5:5000<=sizeLine:=by decide
   unfold mu;rw[Array.size_map];lia
  rw[if_neg ON,Array.getElem?_eq_none (bg _)];exact aH h
theorem JY {x:Str} {t u:Nat} (ha:∀c∈x.cps.toList,c<128) (h0:0<x.length) (hl:x.cps.size<=5000) {Q:Fin->Shared->Prop} (h:Q (.done (.ret (.bytes (mu x) s.toks))) {s with toks:=s.toks+1}):wpAny M A (Builtin.«str.encode» ⟨[.str x t,.str gm u],[]⟩) Q E s:=by
 rw[EH,HM];have J:5000<=sizeLine:=by decide
 refine ao (ao (xj ha h0 hl (wpAny_mkBytes (aH h) ?_)));unfold mu;rw[Array.size_map];exact au (ax hl J)
end
def uw (x:Str):aq:=λc _=>some ⟨[],[(c,.call (.builtin "str.encode") ⟨[.str x (dF (bI c 0)+1),.str gm (dF (bI c 1)+1)],[]⟩)],.gen λρ=>⟨.ok (.ret (.bytes (mu x) (ρ.x+1))),[],[]⟩⟩
theorem AA (ha:∀c∈x.cps.toList,c<128) (h0:0<x.length) (hl:x.cps.size<=5000):ai w dh (uw x):=by
 refine bj λc lk A s hA hT hq=>?_;obtain⟨n,t',hn,J⟩:=hT.nat;refine cz F.slot_str_encode (typeIs_str s _ _) F.entry_str_encode (F.args_str_encode_2 _ _) (JY ha h0 hl ?_);refine⟨⟨n,t'+1,s.gens.size,t',0,0⟩,by rw[J],?_⟩;rw[J];exact cJ.same hn (Dn J)
def mv (b:Array UInt8):Str:=⟨b.map (·.toNat)⟩
section
variable {M:Model} {A:Around} {E:Value->Shared->Prop} {s:Shared}
theorem Nh:∀{id:String} {b:Array UInt8} {t:Nat} {Q:Option (Array UInt8)->Shared->Prop} (h:Q (some b) s),wpAny M A (Builtin.Bytes.buffer? id (.bytes b t)) Q E s:=by
 revert M A E s;ext M A E s id b t Q:0;intro h;have hT:typeOf (.bytes b t)=pure (.type "bytes"):=rfl;have hb:typeLookup (.type "bytes") (Str.ofString "__buffer__")=pure (some (.builtin "bytes.__buffer__")):=by rw[typeLookup_type,qD];kernel_rfl
 unfold Builtin.Bytes.buffer?;refine ao (oB hT hb ?_);dsimp only;refine ao (qu ?_);show wpAny M A (specialOf (.bytes b t) (Str.ofString "__buffer__")>>=_) _ _ _;refine ao (oB hT hb ?_);refine ao (uv ?_);show wpAny M A (Builtin.Bytes.payload (.bytes b t)>>=_) _ _ _;refine ao (ao (aH (aH ?_)));exact aH h
theorem Gg {id:String} {b:Array UInt8} {t:Nat} {Q:Array UInt8->Shared->Prop} (h:Q b s):wpAny M A (Builtin.Bytes.bytesLike id (.bytes b t)) Q E s:=by
 unfold Builtin.Bytes.bytesLike;exact ao (Nh (aH h))
set_option tactic.hygienic true in
theorem C0:∀{id er b} (ha:∀c∈b.toList,c.toNat<128) (hl:b.size<=5000) {Q:Array Nat×Nat->Shared->Prop} (h:Q ((mv b).cps,b.size) s),wpAny M A (Builtin._codecs.runDecoder id Builtin._codecs.asciiDecoder er true b 0 []) Q E s:=by
 revert M A E s;ext M A E s id er b:0;intro ha hl;ext Q:0;intro h;unfold Builtin._codecs.runDecoder;refine ao (qQ (I:=λi c=>c.1=i/\c.2.1=((b.toList.take i).map (·.toNat)).toArray) ⟨rfl,rfl⟩ (λi c hi ⟨OE,J⟩ Q' OG=>?_) λc ⟨OE,J⟩=>?_)
 .rename_i OF;ext i c Q' ⟨hi,OF,OG,OE,J⟩;obtain⟨p,out,st⟩:=c;ext p out st ⟨OF,OE,J⟩;dsimp only at OE J|-;subst OE;have h5:5000<=sizeLine:=by decide
  have OI:p<b.toList.length:=by simpa using hi
  have OJ:¬out.size>sizeLine:=by
   rw[J,List.size_toArray,lQ,List.length_take];lia
  rw[if_neg OJ,if_neg (by lia)];have OH:b.getD p 0=b.toList[p]:=by
   rw[Array.getD_eq_getD_getElem?,<-Array.getElem?_toList,mR OI];rfl
  have hf:Builtin._codecs.asciiDecoder.find true b p=.text [(b.toList[p]).toNat] (p+1):=by
   show(if(b.getD p 0).toNat<128 then Builtin._codecs.Found.char (b.getD p 0).toNat (p+1) else _)=_;rw[OH,if_pos (ha _ (List.getElem_mem _))];rfl
  rw[hf];refine aH (OG _ ⟨rfl,?_⟩);show out++[(b.toList[p]).toNat].toArray=_;rw[J,List.take_add_one,mR OI,k6];simp
 .obtain⟨p,out,st⟩:=c;dsimp only at OE J|-;subst OE;have:out=(mv b).cps:=by
   rw[J,uA (by simp)];apply Array.ext';simp[mv]
  rw[this];exact aH h
end
theorem HN (id b):Builtin._codecs.decodeRoad id b gm none []=(do mkStr ⟨(<-Builtin._codecs.runDecoder id Builtin._codecs.asciiDecoder none true b 0 []).1⟩):=by
 first|rfl|(unfold Builtin._codecs.decodeRoad;rfl)
theorem ux:entryFor table "_codecs.decode.text" =some Builtin.«_codecs.decode.text»:=entryFor_of_tree (by kernel_rfl)
theorem pY:entryFor table "bytes.decode" =some Builtin.«bytes.decode»:=entryFor_of_tree (by kernel_rfl)
theorem qB:Slot "bytes" "decode" "bytes.decode" :=
 .of (owner:= "bytes") (n:= "decode") (by rw[typeLookup_type,qD];kernel_rfl) (by decide+kernel) (by decide+kernel) (by decide+kernel)
  (by first|exact .inl (by decide+kernel)|exact .inr (by decide+kernel)) (by rw[isSubtype_type];kernel_rfl)
theorem qC (a b):argsOk "bytes.decode" ⟨[a,b],[]⟩:=by
 unfold argsOk;rw[signature?_of (id:= "bytes.decode") (n:=['e','d','o','c','e','d']) (o:=['s','e','t','y','b']) (by kernel_rfl) (rows:=Manifest.sig_bytes) (by kernel_rfl)];kernel_rfl
theorem EI:builtinKind "_codecs.decode.text" =none:=by decide+kernel
theorem HO:Manifest.signature? "_codecs.decode.text" =none:=by decide+kernel
section
variable {prog:Program} {w:World} {A:Around} {E:Value->Shared->Prop} {s:Shared}
theorem AC:∀{b:Array UInt8} {t u v:Nat} (J:∀c∈b.toList,c.toNat<128) (hl:b.size<=5000) {Q:Value->Shared->Prop} (h:Q (.str (mv b) s.toks) {s with toks:=s.toks+1}),wpAny (model prog w) A (call (.builtin "_codecs.decode.text") [.bytes b t,.str gm u,.none,.str (Str.ofString "bytes.decode") v]) Q E s:=by
 revert prog w A E s;ext prog w A E s b t u v:0;intro J hl;ext Q:0;intro h;refine wpAny_call (codeAny_call_builtin (by decide+kernel) ux ?_);simp only[checkBuiltinCall,EI,HO];refine aH ?_;unfold Builtin.«_codecs.decode.text»;dsimp only;refine ao (aH ?_);refine ao (Gg ?_);refine ao (m:=Builtin._codecs.dataHeld _ _) ?_;dsimp only[Builtin._codecs.dataHeld];refine ao (Gg (aH ?_));show wpAny _ _ (Builtin._codecs.decodeRoad _ b gm none []>>=_) _ _ _;rw[HN];have h5:5000<=sizeLine:=by decide
 refine ao (ao (C0 J hl (wpAny_mkStr (aH h) ?_)));show(b.map (·.toNat)).size<=sizeLine;rw[Array.size_map];exact au (ax hl h5)
theorem HP (a):Builtin.Bytes.bindOptional "bytes.decode" "decode" ["encoding","errors"] [a] []=pure [some a,none]:=by rfl
theorem JZ:∀{b:Array UInt8} {t u:Nat} (ha:∀c∈b.toList,c.toNat<128) (h0:0<b.size) (hl:b.size<=5000) {Q:Fin->Shared->Prop} (h:Q (.done (.ret (.str (mv b) (s.toks+3)))) {s with toks:=s.toks+4}),wpAny (model prog w) A (Builtin.«bytes.decode» ⟨[.bytes b t,.str gm u],[]⟩) Q E s:=by
 revert prog w A E s;ext prog w A E s b t u:0;intro ha h0 hl;ext Q:0;intro h;unfold Builtin.«bytes.decode» Builtin.Bytes.decodeM;dsimp only;show wpAny _ _ (Builtin.Bytes.bindOptional "bytes.decode" "decode" ["encoding","errors"] [.str gm u] []>>=_) _ _ _;rw[HP];refine ao (aH ?_);dsimp only;have s1:gm.cps.any Str.isSurrogate=false:=by decide+kernel
 have s2:gm.cps.contains 0=false:=by decide+kernel
 refine ao (m:=Builtin.Bytes.checkCodecArg _ _ _ _) ?_;dsimp only[Builtin.Bytes.checkCodecArg];refine ao (aH ?_);dsimp only;rw[s1,s2,if_neg (by decide),if_neg (by decide)];refine aH ?_;refine ao (aH ?_);rw[if_neg (by decide)];show wpAny _ _ (Builtin.Bytes.payload (.bytes b t)>>=_) _ _ _;refine ao (ao (aH (aH ?_)));have J:b.isEmpty=false:=by
  rw[Array.isEmpty,decide_eq_false_iff_not];exact ka h0
 rw[J,if_neg (by decide)];have h9:(1000:Nat)<=sizeLine:=by decide
 refine ao (wpAny_mkStr ?_ (by show(5:Nat)<=sizeLine;exact bN _ _));refine ao (ao (aH (wpAny_mkStr ?_ (by show(5:Nat)<=sizeLine;exact bN _ _))));refine ao (aH ?_);refine ao (wpAny_mkStr ?_ (by decide+kernel));refine ao (AC ha hl ?_);exact aH h
end
def qw (b:Array UInt8):aq:=λc _=>some ⟨[],[(c,.call (.builtin "bytes.decode") ⟨[.bytes b (dF (bI c 0)+1),.str gm (dF (bI c 1)+1)],[]⟩)],.gen λρ=>⟨.ok (.ret (.str (mv b) (ρ.x+1))),[],[]⟩⟩
theorem AD {w dh b} (ha:∀c∈b.toList,c.toNat<128) (h0:0<b.size) (hl:b.size<=5000):ai w dh (qw b):=by
 refine bj λc lk A s hA hT hq=>?_;obtain⟨n,t',hn,J⟩:=hT.nat;refine cz qB (pX s _ _) pY (qC _ _) (JZ ha h0 hl ?_);refine⟨⟨n,t'+4,s.gens.size,t'+3,0,0⟩,by rw[J],?_⟩;rw[J];exact cJ.same hn (au (fk J))
theorem CX.gen0 {w:World} {A:Around} {s:Shared} {d:Nat} {c:Code} {val:Nat->Value} (h:CX w d c [] (λr l'=>∃tk,r=.ok (.ret (val (tk+1)))/\l'=[])) (hA:aL d A) (T:aK w s):
  (gL.gen λρ=>⟨.ok (.ret (val (ρ.x+1))),[],[]⟩).ok (model pw w) A c s:=
 bf.of_code (eG (h A s hA T (λU h=>nomatch h)) λr s' J=>by
  obtain⟨l',⟨tk,hr,hl⟩,D⟩:=J;subst hr hl;exact⟨⟨s'.heap.objs.size - 158,s'.toks - 1,s'.gens.size,tk,0,0⟩,rfl,D.hstep (λU h=>nomatch h) (λU h=>nomatch h) (λU h=>nomatch h) .nil (λU h=>nomatch h)⟩)
def ow:Str:=⟨#[13,10]⟩
def rI (x y:Str):aq:=λc _=>some ⟨[],[(c,.call (.builtin "re.Pattern.sub") ⟨[.ref 62,.str ow (dF (bI c 1)+1),.str x (dF (bI c 2)+1)],[]⟩)],jc y⟩
def rJ (x y:Array UInt8):aq:=λc _=>some ⟨[],[(c,.call (.builtin "re.Pattern.sub") ⟨[.ref 57,.bytes #[46,46] (dF (bI c 1)+1),.bytes x (dF (bI c 2)+1)],[]⟩)],.gen λρ=>⟨.ok (.ret (.bytes y (ρ.x+1))),[],[]⟩⟩
theorem HQ:∀{w:World} {d:Nat} {l:List Nat} (h0:0<l.length) (hl:l.length<=1000) {tr t:Nat},CX w d (.call (.builtin "re.Pattern.sub") ⟨[.ref 62,.str ow (tr+1),.str (ae l) t],[]⟩) [] (λr l'=>∃tk,r=.ok (.ret (.str (ae (co l)) (tk+1)))/\l'=[]):=by
 ext w d l:0;intro h0 hl;ext tr t:0;have OF:(ae l).cps.size=l.length:=by rfl
 obtain⟨ms,h1,h2,h3⟩:=x8 (a:=(ae l).cps) ((ae l).cps.size - 0) 0 0 rfl (bg _) (iU _) (λj U h=>bh h (Nat.not_lt_zero _));have OE:(eu (.str (ae l)) (cM (.str (ae l)) (.str ow) 0 ms)).arr.toList=co l:=by
  rw[xh _ _ (mP (x:=.str (ae l)) (y:=.str ow) rfl ms 0),ol];show jq (ae l).cps.toList [13,10] 0 ms=_;rw[h3,dM];rfl
 have J:eu (.str (ae l)) (cM (.str (ae l)) (.str ow) 0 ms)=.str (ae (co l)):=by
  have e:∀(T:bL),T.kind=0->T=.str (ae T.arr.toList):=λT hT=>by
   cases T with
   |str z=>show bL.str z=.str ⟨z.cps.toList.toArray⟩;simp
   |byt b=>cases hT
  rw[e (eu (.str (ae l)) _) rfl,OE]
 have:=xg (d:=d) (x:=.str (ae l)) (y:=.str ow) (t:=t) (tr:=tr) (HK w) (by show(ae l).cps.size<=5000;exact(au (ax hl (fk OF)))) rfl (by show(ow.cps.contains 92)=false;decide+kernel) h1 (by rw[OF] at h2;exact(au (ax hl h2))) (.inr (by show 0<(ae l).cps.size;assumption)) (by
  have:=EG l;rw[J];show(ae (co l)).cps.size<=9000;simp[ae];exact(au (ax hl (ax hl this))))
 rw[J] at this;exact this
theorem x9 (h0:0<l.length) (hl:l.length<=1000):ai w dh (rI (ae l) (ae (co l))):=bj λc lk A s hA hT J=>CX.gen0 (val:=λt=>.str (ae (co l)) t) (HQ h0 hl) hA hT
def bR (l:List Nat):Array UInt8:=(l.map (·.toUInt8)).toArray
theorem C3:∀{w:World} {d:Nat} {l:List Nat} (h0:0<l.length) (hl:l.length<=2000) (ha:∀c∈l,c<128) {tr t:Nat},CX w d (.call (.builtin "re.Pattern.sub") ⟨[.ref 57,.bytes #[46,46] (tr+1),.bytes (bR l) t],[]⟩) [] (λr l'=>∃tk,r=.ok (.ret (.bytes (bR (bA true l)) (tk+1)))/\l'=[]):=by
 ext w d l:0;intro h0 hl ha;ext tr t:0;have OF:((bR l).map (·.toNat)).toList=l:=by
  unfold bR;simp only[List.map_toArray,List.map_map]
  conv=>rhs;rw[<-List.map_id l]
  refine qF λc hc=>?_;have:=ha c hc;show(c.toUInt8).toNat=c;simp;exact au this
 have OE:((bR l).map (·.toNat)).size=l.length:=by simp[bR]
 obtain⟨ms,h1,h2,h3⟩:=vh (a:=(bR l).map (·.toNat)) (((bR l).map (·.toNat)).size - 0) 0 0 rfl (bg _) (iU _) (λj U h=>bh h (Nat.not_lt_zero _));have OG:(eu (.byt (bR l)) (cM (.byt (bR l)) (.byt #[46,46]) 0 ms)).arr.toList=bA true l:=by
  rw[xh _ _ (mP (x:=.byt (bR l)) (y:=.byt #[46,46]) rfl ms 0),ol];have OH:(bL.byt #[46,46]).arr.toList=[46,46]:=by decide+kernel
  rw[OH];show jq ((bR l).map (·.toNat)).toList [46,46] 0 ms=_;rw[h3,OF];simp
 have J:eu (.byt (bR l)) (cM (.byt (bR l)) (.byt #[46,46]) 0 ms)=.byt (bR (bA true l)):=by
  have e:∀(T:bL),T.kind=1->T=.byt (bR T.arr.toList):=λT hT=>by
   cases T with
   |byt z=>
    show bL.byt z=.byt (((z.map (·.toNat)).toList.map (·.toUInt8)).toArray);congr 1;apply Array.ext';simp only[Array.toList_map,List.map_map]
    conv=>lhs;rw[<-List.map_id z.toList]
    refine qF λc U=>?_;show c=(c.toNat).toUInt8;simp
   |str b=>cases hT
  rw[e (eu (.byt (bR l)) _) rfl,OG]
 have:=xg (d:=d) (x:=.byt (bR l)) (y:=.byt #[46,46]) (t:=t) (tr:=tr) (HL w) (by show((bR l).map (·.toNat)).size<=5000;exact(au (ax hl (fk OE)))) rfl (by show((#[46,46]:Array UInt8).contains 92)=false;decide+kernel) h1 (by rw[OE] at h2;exact(au (ax hl h2))) (.inr (by show 0<((bR l).map (·.toNat)).size;exact(au (ax h0 (ii OE))))) (by
  have:=ou l true;rw[J];show((bR (bA true l)).map (·.toNat)).size<=9000;simp[bR];exact(au (ax hl (ax hl this))))
 rw[J] at this;exact this
theorem ya {w dh l} (h0:0<l.length) (hl:l.length<=2000) (J:∀c∈l,c<128):ai w dh (rJ (bR l) (bR (bA true l))):=bj λc lk A s hA hT hq=>CX.gen0 (val:=λt=>.bytes (bR (bA true l)) t) (C3 h0 hl J) hA hT
def AE (x:Str) (t:Nat):Code:=.call (.ref 76) ⟨[.str x (t+1)],[]⟩
def sI (x:Array UInt8) (t:Nat):Code:=.call (.ref 69) ⟨[.bytes x (t+1)],[]⟩
theorem J0 (x y tx n t g ρ):∀w,ay (vL w 400 500 [rI x y]) 100 (AE x tx) .top (aM (AE x tx)) 0x4a000c3e0f83e0f80300002280a012c4c [] n t g [ρ] []
  (.ret (.ok (.ret (.str y (ρ.x+1))))) [] []:=aT
theorem EJ (x y tx n t g ρ):∀w,ay (vL w 400 500 [rJ x y]) 100 (sI x tx) .top (aM (sI x tx)) 0x1280390e4390e40300002280a011045 [] n t g [ρ] []
  (.ret (.ok (.ret (.bytes y (ρ.x+1))))) [] []:=aT
theorem EK {w l} (h0:0<l.length) (hl:l.length<=1000) {tx}:CX w 400 (AE (ae l) tx) [] (λr l'=>∃tk,r=.ok (.ret (.str (ae (co l)) (tk+1)))/\l'=[]):=
 CX.run4 (hs:=[rI (ae l) (ae (co l))]) (fq (x9 h0 hl)) (bg _) cj (bJ _ _) 1 100 _ [] (λU U U r=>.ret (.ok (.ret (.str (ae (co l)) ((r 0).x+1))))) (λU U U U=>[])
  (λn t g r=>J0 _ _ tx n t g (r 0) w) λn t g r U U=>⟨_,rfl,rfl⟩
theorem AF {w l} (h0:0<l.length) (hl:l.length<=2000) (J:∀c∈l,c<128) {tx}:CX w 400 (sI (bR l) tx) [] (λr l'=>∃tk,r=.ok (.ret (.bytes (bR (bA true l)) (tk+1)))/\l'=[]):=
 CX.run4 (hs:=[rJ (bR l) (bR (bA true l))]) (fq (ya h0 hl J)) (bg _) cj (bJ _ _) 1 100 _ [] (λU U U r=>.ret (.ok (.ret (.bytes (bR (bA true l)) ((r 0).x+1))))) (λU U U U=>[])
  (λn t g r=>EJ _ _ tx n t g (r 0) w) λn t g r U U=>⟨_,rfl,rfl⟩
def AG (x y:Str):aq:=λc _=>some ⟨[],[(c,AE x (dF (bI c 0)))],jc y⟩
def qx (x y:Array UInt8):aq:=λc _=>some ⟨[],[(c,sI x (dF (bI c 0)))],.gen λρ=>⟨.ok (.ret (.bytes y (ρ.x+1))),[],[]⟩⟩
theorem EM (h0:0<l.length) (hl:l.length<=1000):ai w 400 (AG (ae l) (ae (co l))):=bj λc lk A s hA hT J=>CX.gen0 (val:=λt=>.str (ae (co l)) t) (EK h0 hl) hA hT
theorem AH {w l} (h0:0<l.length) (hl:l.length<=2000) (J:∀c∈l,c<128):ai w 400 (qx (bR l) (bR (bA true l))):=bj λc lk A s hA hT hq=>CX.gen0 (val:=λt=>.bytes (bR (bA true l)) t) (AF h0 hl J) hA hT
def jI:Str:=⟨#[99,111,114,110,101,114,115]⟩
def sJ:Str:=⟨#[101,110,100,115]⟩
def sM:Str:=⟨#[108,105,110,101,115]⟩
def vw:Str:=⟨#[114,101,115,116]⟩
def AI:Str:=⟨#[109,97,100,101]⟩
def Gh:Str:=⟨#[115,101,110,116]⟩
def LE:Str:=⟨#[104,105,103,104]⟩
def Ni:Str:=⟨#[108,111,119]⟩
def J3:Str:=⟨#[100,114,101,115,115]⟩
def Gi:Str:=⟨#[111,110,101,115]⟩
def br (w:World) (n:Nat):Env:=
 {ej w 157 (n+158) with cells:=[(ku,n+171),(gU,n+170),(FP,n+169),(z7,n+168),(yy,n+167),(B2,n+166),(Gi,n+165),(wt,n+164),(J3,n+163),(c9,n+162),(Ni,n+161),(LE,n+160),(pT,n+159)]}
def a4 (w:World):List Stmt:=bU w 157
def Nj (sc:Nat) (v:Nat->Value):Nat->List (Str×Value)
 |0=>[(ig,.ref sc)]
 |1=>[(ig,.ref sc),(jI,v 0),(nS,v 1)]
 |2=>[(ig,.ref sc),(jI,v 0),(nS,v 1),(sJ,v 2)]
 |3=>[(ig,.ref sc),(jI,v 0),(nS,v 1),(sJ,v 2),(vw,v 4),(sM,v 3)]
 |4=>[(ig,.ref sc),(jI,v 0),(nS,v 1),(sJ,v 2),(vw,v 4),(sM,v 3),(AI,v 5)]
 |5=>[(ig,.ref sc),(jI,v 0),(nS,v 1),(sJ,v 2),(vw,v 4),(sM,v 3),(AI,v 5),(Gh,v 6)]
 |_=>[(ig,.ref sc),(jI,v 0),(nS,v 1),(sJ,v 2),(vw,v 4),(sM,v 3),(AI,v 5),(Gh,v 6),(nB,v 7)]
def bF (m ep:Nat) (K:Nat->Int×Nat) (sc:Nat) (v:Nat->Value):Obj:=bW ep K (Nj sc v m)
theorem iC {w dh a b r} (hb:b≠0) (hs:b.natAbs<2^1000) (h:a.fdiv b=r):ai w dh (bB "int.__floordiv__" a b r):=cF λta J A s hA hT hq=>by
 have hd:¬Builtin.divisionGoesByPylong a b=true:=by
  dsimp only[Builtin.divisionGoesByPylong];have h0:(b==0)=false:=by simpa using hb
  have h1:b.natAbs.log2<1000:=(Nat.log2_lt (by lia)).mpr hs;simp only[h0,Bool.false_eq_true,if_false,mU,oC,not_and];intro h2;lia
 have g:=AutoIntG4.int___floordiv___int_int_1 a ta b J (by simpa using hb) hd;rw[h] at g;exact cE F.slot_int_floordiv (typeIs_int s _ _) F.entry_int_floordiv (F.args_int_floordiv_2 _ _) g ⟨rfl,rfl⟩
def rK (a:Int) (b:Nat):Int:=if(b:Int)>=((Builtin.Int.intBits a:Nat):Int) then(if a<0 then -1 else 0) else a.fdiv (2^b)
theorem HS (h:0<=a):0<=rK a b:=by
 unfold rK;split
 .rw[if_neg (by lia)];exact Int.le_refl _
 .exact Int.fdiv_nonneg h (Int.pow_nonneg (by decide))
set_option tactic.hygienic true in
theorem AJ {w:World} {dh:Nat} {a:Int} {b:Nat}:ai w dh (bB "int.__rshift__" a b (rK a b)):=cF λta J A s hA hT hq=>by
 have g:Gives (Builtin.«int.__rshift__» ⟨[.int a ta,.int b J],[]⟩) (.int (rK a b)):=by
  unfold rK;split
  .rename_i h;exact AutoIntG9.int___rshift___int_int_1 a ta b J (by simp) h
  .rename_i h;exact AutoIntG0.int___rshift___int_int_2 a ta b J (by lia) h
 exact cE F.slot_int_rshift (typeIs_int s _ _) F.entry_int_rshift (F.args_int_rshift_2 _ _) g ⟨rfl,rfl⟩
def EN (a:Int):Bool:=a.toNat%2==1
theorem AK {w:World} {dh:Nat} {a r:Int} (h0:0<=a) (h:(match EN a with|true=>1|false=>0)=r):ai w dh (bB "int.__and__" a 1 r):=cF λta J A s hA hT hq=>by
 have e:Builtin.bitAnd a 1=r:=by
  rw[<-h];obtain⟨k,rfl⟩:=Int.eq_ofNat_of_zero_le h0;show((Int.toNat (k:Int)&&& 1:Nat):Int)=_;unfold EN;rw[rR,Nat.and_one_is_mod];have:k%2=0\/k%2=1:=by lia
  rcases this with e|e<;>rw[e]<;>rfl
 have g:Gives (Builtin.«int.__and__» ⟨[.int a ta,.int 1 J],[]⟩) (.int (Builtin.bitAnd a 1)):=.of_eq rfl;rw[e] at g;exact cE F.slot_int_and (typeIs_int s _ _) F.entry_int_and (F.args_int_and_2 _ _) g ⟨rfl,rfl⟩
def rM (x h l hv r:Nat):aq:=λc _=>some ⟨[],[(c,kK x h l hv (dF (bI c 0)) (dF (bI c 1)) (dF (bI c 2)) (dF (bI c 3)))],.gen (Bx r)⟩
def sN:Nat->Nat
 |0=>4
 |1=>3
 |2=>4
 |_=>2
def sO:Nat->Nat
 |0=>0
 |1=>1
 |2=>2
 |_=>0
def sP:Nat->Nat
 |1=>1
 |_=>2
def mw:Nat->Nat
 |0=>6
 |1=>0
 |2=>2
 |3=>1
 |4=>4
 |5=>5
 |6=>3
 |_=>7
theorem HT:∀q<4,∀x<8,∃p∈m4,p.q.x=x/\p.q.h=sN q/\p.q.l=sO q/\p.q.hv=sP q/\p.r=mw x:=by
 have h:(List.range 4).all (λq=>(List.range 8).all λx=>m4.any λp=>p.q.x==x&&(p.q.h==sN q&&(p.q.l==sO q&&(p.q.hv==sP q&&p.r==mw x))))=true:=by decide+kernel
 intro q hq x hx;have h1:=oD.mp (oD.mp h q (eM.mpr hq)) x (eM.mpr hx);obtain⟨p,hp,J⟩:=List.any_eq_true.mp h1;simp only[mU,beq_iff_eq] at J;exact⟨p,hp,J⟩
theorem yb {w q x} (hq:q<4) (hx:x<8):ai w 600 (rM x (sN q) (sO q) (sP q) (mw x)):=by
 obtain⟨p,J,h1,h2,h3,h4,h5⟩:=HT q hq x hx;rw[<-h1,<-h2,<-h3,<-h4];have z:=xI w J;rw[h5,<-h1] at z;exact bj λc lk A s hA hT hq=>bf.of_code (z _ _ _ _ A s hA hT (λU h=>nomatch h))
def xk (k x c:Nat) (D:Nat->Nat) (y:Str):aq:=λcd J=>some ⟨[(k,Ix (bI cd 2) - 158+158,aa (iA D λi=>bQ (dQ J k) i+1) (bD (dQ J k)))],[(cd,jf x c (dF (bI cd 0)) (dF (bI cd 1)) (Ix (bI cd 2) - 158))],.gen (hV y)⟩
theorem C4 {w k x c D} (hx:x<8) (hc:c<3) (hD:∀k,D k<4):ai w 500 (xk k x c D (dK x c D)):=bj λcd lk A s hA hT J=>bf.of_code (B1 w hx hc hD _ _ _ _ _ A s hA hT (dJ (J _ aJ)))
def Gj (sc:Nat):Code:=.call (.ref 157) ⟨[.ref sc],[]⟩
def eX (n:Nat):List ad:=[⟨n+159,af none⟩,⟨n+160,af none⟩,⟨n+161,af none⟩,⟨n+162,af none⟩,⟨n+163,af none⟩,⟨n+164,af none⟩,⟨n+165,af none⟩,⟨n+166,af none⟩,⟨n+167,af none⟩,⟨n+168,af none⟩,⟨n+169,af none⟩,⟨n+170,af none⟩,⟨n+171,af none⟩]
theorem J4 (sc n t g v):∀w,bP (vL w 310 400 []) 60 (Gj sc) .top (aM (Gj sc)) 1128270896722077 [] n t g [] [0,1,2,3,4,5,6,7,8,9,10,11,12,13]
  (.again (.func (a4 w) (br w n))) (λo=>([⟨n+158,bF 0 (bD (o 0)) (KO (o 0)) sc v⟩]++eX n:List ad).map some) []:=aT
section
variable (w:World) (n sc:Nat) (ep:Nat) (K:Nat->Int×Nat) (v:Nat->Value) (n' t g:Nat)
theorem Nk:∀w,bP (vL w 310 400 []) 60 default .base (a9 ((a4 w).take 1) (br w n)) 1098554441731 [⟨n+158,bF 0 ep K sc v⟩,⟨n+159,af none⟩] n' t g [] [0,1]
  (.call false default (wZ sc) false) (λU=>([⟨n+158,bF 0 ep K sc v⟩,⟨n+159,af none⟩]:List ad).map some) []:=aT
theorem LF (a n2 t2 J:Nat):∀w,ay (vL w 310 400 []) 60 default .base ((bl (vL w 310 400 []) 60 default .base (a9 ((a4 w).take 1) (br w n)) 1098554441731 [⟨n+158,bF 0 ep K sc v⟩,⟨n+159,af none⟩] n' t g []).kont (.ok (.ret (.ref (a+158))))) 164000 [⟨n+159,af none⟩] n2 t2 J [] [0]
  (.fin (.done .next)) (([⟨n+159,af (some (.ref (a+158)))⟩]:List ad).map some) []:=aT
end
section
variable (w:World) (n a:Nat) (C:Nat->Int) (tC:Nat->Nat) (n' t g:Nat)
def kA (n a:Nat) (C:Nat->Int) (tC:Nat->Nat) (q J tl tv:Nat):List ad:=[⟨n+160,af (some (.int (sN q:Nat) (J+1)))⟩,⟨n+161,af (some (.int (sO q:Nat) (tl+1)))⟩,⟨n+162,af (some (.int (sP q:Nat) (tv+1)))⟩,⟨n+159,af (some (.ref (a+158)))⟩,⟨a+158,jk C tC⟩]
def pZ (n a:Nat) (C:Nat->Int) (tC:Nat->Nat):List ad:=[⟨n+160,af none⟩,⟨n+161,af none⟩,⟨n+162,af none⟩,⟨n+159,af (some (.ref (a+158)))⟩,⟨a+158,jk C tC⟩]
def sQ:Nat:=0x29400294a5294002a4a9000a92a4a9004a429000290a4290a3+((rp 0x2a8a52a8aa2a8002a8aa 0 80 4)+0x288a2284a1280a02b0aa<<<320)<<<200
def J5:Nat:=sQ+(0x4000000000000000000040000000000000000000400000000000000000004000000000000000010000100401<<<150)
def J6:Nat:=sQ+(0x4000000000000000000040000000000000000000400000000000000000004000000000000000010000100401<<<151)
def J7:Nat:=sQ+(0xc0000000000000000000c0000000000000000000c0000000000000000000c000000000000000030000300c03<<<150)
theorem J8:∀w,bP (vL w 310 400 [bB "int.__mod__" (C 1) 4 (0:Nat)]) 200 default .base (a9 (((a4 w).drop 1).take 1) (br w n)) sQ (pZ n a C tC) n' t g [] [0,1,2,3,4]
  (.fin (.done .next)) (λo=>(kA n a C tC 0 (bQ (o 0) 0) (bQ (o 1) 0) (bQ (o 2) 0)).map some) []:=aT
theorem J9:∀w,bP (vL w 310 400 [bB "int.__mod__" (C 1) 4 (1:Nat)]) 200 default .base (a9 (((a4 w).drop 1).take 1) (br w n)) J5 (pZ n a C tC) n' t g [] [0,1,2,3,4]
  (.fin (.done .next)) (λo=>(kA n a C tC 1 (bQ (o 0) 0) (bQ (o 1) 0) (bQ (o 2) 0)).map some) []:=aT
theorem Ka:∀w,bP (vL w 310 400 [bB "int.__mod__" (C 1) 4 (2:Nat)]) 200 default .base (a9 (((a4 w).drop 1).take 1) (br w n)) J6 (pZ n a C tC) n' t g [] [0,1,2,3,4]
  (.fin (.done .next)) (λo=>(kA n a C tC 2 (bQ (o 0) 0) (bQ (o 1) 0) (bQ (o 2) 0)).map some) []:=aT
theorem Kb:∀w,bP (vL w 310 400 [bB "int.__mod__" (C 1) 4 (3:Nat)]) 200 default .base (a9 (((a4 w).drop 1).take 1) (br w n)) J7 (pZ n a C tC) n' t g [] [0,1,2,3,4]
  (.fin (.done .next)) (λo=>(kA n a C tC 3 (bQ (o 0) 0) (bQ (o 1) 0) (bQ (o 2) 0)).map some) []:=aT
end
def j2 (C:Nat->Int) (k:Nat):Nat:=((C 1).fdiv (4^(k+1))).fmod 4|>.toNat
def EO (n sc a:Nat) (C:Nat->Int) (tC:Nat->Nat) (ep:Nat) (K:Nat->Int×Nat) (v:Nat->Value) (h l hv:Nat) (J tl tv:Nat):List ad:=[⟨n+158,bF 0 ep K sc v⟩,⟨n+163,af none⟩,⟨n+160,af (some (.int (h:Nat) (J+1)))⟩,⟨n+161,af (some (.int (l:Nat) (tl+1)))⟩,⟨n+162,af (some (.int (hv:Nat) (tv+1)))⟩,⟨n+159,af (some (.ref (a+158)))⟩,⟨a+158,jk C tC⟩]
def EP (C:Nat->Int) (x1 x2 x3:Int) (D:Nat->Nat) (h l hv:Nat) (J:Nat->Nat) (S:Nat->Nat->Str):List aq:=
 [bB "int.__floordiv__" (C 1) 4 x1,bB "int.__mod__" x1 4 (D 0:Nat),bB "int.__floordiv__" (C 1) 16 x2,bB "int.__mod__" x2 4 (D 1:Nat),bB "int.__floordiv__" (C 1) 64 x3,bB "int.__mod__" x3 4 (D 2:Nat)]++
 ((List.range 8).map (λx=>rM x h l hv (J x))++(List.range 8).flatMap λx=>(List.range 3).map λc=>xk 9 x c D (S x c))
def Nl (J:Nat->Nat) (r:Nat->HR) (i:Nat):Value:=.int (J i:Nat) ((r i).x+1)
def u6 (S:Nat->Nat->Str) (r:Nat->HR) (x:Nat):List Value:=[.str (S x 0) ((r (8+3*x)).x+1),.str (S x 1) ((r (9+3*x)).x+1),.str (S x 2) ((r (10+3*x)).x+1)]
def qT (r:Nat->HR):Nat->Nat
 |0=>(r 7).n+9
 |x+1=>(r (10+3*x)).n+4
def vx (n sc ep:Nat) (K:Nat->Int×Nat) (v:Nat->Value) (J:Nat->Nat) (S:Nat->Nat->Str) (n':Nat) (r:Nat->HR) (a:Nat) (C:Nat->Int) (tC:Nat->Nat):List ad:=
 [⟨n+158,bF 1 ep K sc (aD (aD v 0 (.ref (n'+166))) 1 (.ref ((r 7).n+162)))⟩,⟨n'+166,aa (ap (Nl J r)) 8⟩,⟨(r 7).n+162,aa (ap λx=>.ref (qT r x+158)) 8⟩,
  ⟨qT r 0+158,aa (u6 S r 0) 3⟩,⟨qT r 1+158,aa (u6 S r 1) 3⟩,⟨qT r 2+158,aa (u6 S r 2) 3⟩,⟨qT r 3+158,aa (u6 S r 3) 3⟩,⟨qT r 4+158,aa (u6 S r 4) 3⟩,⟨qT r 5+158,aa (u6 S r 5) 3⟩,⟨qT r 6+158,aa (u6 S r 6) 3⟩,⟨qT r 7+158,aa (u6 S r 7) 3⟩,⟨n+159,af (some (.ref (a+158)))⟩,⟨a+158,jk C tC⟩]
def LG:Nat:=0xa82a0a72a0a82a0002a0a8000a829c0029ca7+((rp 0x2a0a829ca82a0a8000a82a4a92a4a900002004002a8a629800298a6298a52a8aa 0x2008000000000000000000000000000 260 3)+0xae2b8ae2b8002b8ae000ae2b4ad2b4ad000ad2b4ad2b4002b4ad0000000003284a12a8aa2a8ac<<<780)<<<150+((rp 0x2b8ae2b8ae000ae2bcaf2bcaf0000721ca428ca22c0032c0b02b8ae2b8ae 0x1000000000000000000000000000000 240 8)+0xb42d0b42d0002d0b4000b42ccb32ccb3000b32ccb32cc002ccb300000000032c0b02c0a0280b2<<<1920)<<<1240+((rp (0xb92e4b92e4002e4b9000b92e0b82e0b8000b82e0b82e0002e0b800000000032dcb72d0b42d0b4+((rp 0xb92e4b92e4002e4ba2e8ba2e80003c8c284bb2dc032ecbb2e4b92e4b9 0x4000000000000000000000000000 230 3)+0xb42d0b42d0002d0b52d4b52d4002ecbb2ecbd<<<690)<<<310) (0x60180601806000060180601800018060000000000000000000000000+((rp 0x60180600003000000180000006018060180601806018060180001806 0 230 3)+0x60180601806018060180001806<<<690)<<<240) 1150 8)+(0x2bc002bcaf280a0280e9+((rp 175 0 30 8)+0xea3a8b53a8ea3a8003a8ea000ea2d4002d4b5280af<<<240)<<<80+((rp (0x3b4003b4ba000ba2e8ec3b0ec+((rp 0x3aceb3aceb000ec3b0ec3b4ed2e8ed3b4ed000ed 0 160 3)+0xea3a8b53a8ea3a8003a8ef3b4ed2e8ed3b4ed000ed<<<480)<<<100) (0xc0000c06000060180000000+((rp 0xc030180300c0300003 0 160 3)+0x300c030180300c0300003<<<480)<<<100) 750 8)+(0xeb000eb3acec3b0ec3b0ec3b106+((rp 235 0 30 24)+235<<<720)<<<110)<<<6000)<<<490)<<<9200)<<<3470
theorem LH (n sc a C tC ep K v h l hv th tl tv x1 x2 x3 D cr S n' t g r):∀w,bP (vL w 310 400 (EP C x1 x2 x3 D h l hv cr S)) 4200 default .base (a9 (((a4 w).drop 2).take 4) (br w n)) LG
   (EO n sc a C tC ep K v h l hv th tl tv) n' t g (bO r 0 32) [0,15,21,26,32,38,44,50,56,62,68,5,6]
   (.fin (.done .next)) (λo=>(vx n sc (bD (o 0)) (KO (o 0)) v cr S n' r a C tC).map some) []:=aT
def EQ (n sc ep:Nat) (K:Nat->Int×Nat) (v:Nat->Value) (ca:Nat) (tcr:Nat->Nat) (D:KD) (a:Nat) (C:Nat->Int) (tC:Nat->Nat) (R:List ad):List ad:=
 [⟨n+158,bF 1 ep K sc v⟩,⟨ca+158,aa (ap λi=>.int (mw i:Nat) (tcr i+1)) 8⟩,D.lSO,D.lS 0,D.lS 1,D.lS 2,D.lS 3,D.lS 4,D.lS 5,D.lS 6,D.lS 7,⟨n+159,af (some (.ref (a+158)))⟩,⟨a+158,jk C tC⟩,
  ⟨n+164,af none⟩,⟨n+165,af none⟩,⟨n+166,af none⟩,⟨n+167,af none⟩,⟨n+168,af none⟩,⟨n+169,af none⟩,⟨n+170,af none⟩,⟨n+171,af none⟩]++R
def MF (S:Nat->Nat->Str) (r:Nat->HR):KD:={X:=id,tX:=id,S:=S,tS:=λw c=>(r (8+c+3*w)).x,R:=λU=>⟨#[]⟩,tR:=id,St:=id,tSt:=id,Wd:=λU=>⟨#[]⟩,tWd:=id,aW:=0,aSO:=(r 7).n+4,aS:=qT r,aR:=0,aSt:=0,aWd:=0,eW:=0,eSO:=8,eS:=λU=>3,eR:=0,eSt:=0,eWd:=0}
theorem xl (C k):j2 C k<4/\((j2 C k:Nat):Int)=((C 1).fdiv (4^(k+1))).fmod 4:=by
 unfold j2;exact⟨y5 rfl rfl,y6 rfl rfl⟩
theorem ER:∀{w C q} (J:q<4),∀f∈EP C ((C 1).fdiv 4) ((C 1).fdiv 16) ((C 1).fdiv 64) (j2 C) (sN q) (sO q) (sP q) mw (λx c=>dK x c (j2 C)),ai w 400 f:=by
 ext w C q:0;intro J;have hD:∀k,j2 C k<4:=λk=>(xl C k).1;have hm:∀k,((C 1).fdiv (4^(k+1))).fmod 4=((j2 C k:Nat):Int):=λk=>(xl C k).2.symm;have cr:∀{x},x<8->ai w 400 (rM x (sN q) (sO q) (sP q) (mw x)):=λhx=>(yb J hx).mono (by decide);have se:∀{x c},x<8->c<3->ai w 400 (xk 9 x c (j2 C) (dK x c (j2 C))):=λhx hc=>(C4 hx hc hD).mono (by decide)
 delta EP
 intro f hf;rcases dk.mp hf with hf|hf
 .exact ah (P:=λf=>ai w 400 f) (iC (by decide) (by decide) rfl) (ah (fC (by decide) (hm 0)) (ah (iC (by decide) (by decide) rfl) (ah (fC (by decide) (hm 1)) (ah (iC (by decide) (by decide) rfl) (ah (fC (by decide) (hm 2)) aE))))) f hf
 .rcases dk.mp hf with hf|hf
  .refine eO λU k_=>?_;obtain⟨x,hx,rfl⟩:=cT.mp hf;refine k_ ?_;exact cr (eM.mp hx)
  .refine eO λU k_=>?_;obtain⟨x,hx,hf⟩:=iQ.mp hf;refine k_ ?_;refine eO λU k_=>?_;obtain⟨c,hc,rfl⟩:=cT.mp hf;refine k_ ?_;exact se (eM.mp hx) (eM.mp hc)
section
variable {w:World} {n sc ep:Nat} {K:Nat->Int×Nat} {v:Nat->Value} {ps:List (Int×Nat)} {dd:Option Addr} {eps:Nat} {sl:Array (Option Value)} {R:List ad}
theorem LI:∀{b} (hb:b=(a4 w).take 1) (OF:158<=sc) (OE:ps.length<=63) (F:aj ([⟨n+158,bF 0 ep K sc v⟩]++eX n++([⟨sc,aV dd (ps.map cG) eps sl⟩]++R))),WX w 302 (execs b (br w n)) ([⟨n+158,bF 0 ep K sc v⟩]++eX n++([⟨sc,aV dd (ps.map cG) eps sl⟩]++R))
   (λf L'=>f=.next/\aj L'/\∃a C tC,n9 63 C/\L'=[⟨n+159,af (some (.ref (a+158)))⟩,⟨a+158,jk C tC⟩,⟨sc,aV dd (ps.map cG) eps sl⟩,⟨n+158,bF 0 ep K sc v⟩]++(eX n).drop 1++R):=by
 revert w n sc ep K v ps dd eps sl R;ext w n sc ep K v ps dd eps sl:0;ext R b:0;intro hb OF OE F;subst hb;refine SX.of_bx (w:=w) (d:=302) ?_;refine BX.pk [0,1] rfl rfl F λF2=>?_;refine BX.callP (l:=[⟨n+158,bF 0 ep K sc v⟩,⟨n+159,af none⟩]) (hs:=[]) (D₀:=310) (dh:=400) (by decide) (by decide) (by decide) F2 aE 0 60 _ [0,1] rfl default (λU U U U=>wZ sc) false (λU U U U U=>[⟨n+158,bF 0 ep K sc v⟩,⟨n+159,af none⟩])
  (λn' t g U=>Nk n sc ep K v n' t g w) λn' t g r o F3=>?_
 refine⟨λr L'=>aj L'/\∃a C tC,n9 63 C/\r=.ok (.ret (.ref (a+158)))/\L'=[⟨a+158,jk C tC⟩,⟨sc,aV dd (ps.map cG) eps sl⟩]++([⟨n+158,bF 0 ep K sc v⟩,⟨n+159,af none⟩]++(eX n).drop 1++R),?_,λr l2 ⟨F5,a,C,tC,hC,hr,OG⟩=>?_⟩
 .refine CX.pk [14] rfl rfl F3 λF4=>?_;refine CX.fr (l:=[⟨sc,aV dd (ps.map cG) eps sl⟩]) F4 (λe he=>.inl he) ((Am w OF OE).depth (by decide)) λr l' J=>by obtain⟨Fl,a,C,tC,hr,hC,hl⟩:=J;exact⟨l',[],λe he=>by rwa[fT] at he,λe he=>.inl he,by rw[fT];exact Fl,λF5=>⟨F5,a,C,tC,hC,hr,by subst hl;rfl⟩⟩
 .subst hr OG;refine BX.pk [3] rfl rfl F5 λF6=>?_;refine BX.runP (l:=[⟨n+159,af none⟩]) (hs:=[]) (D₀:=310) (dh:=400) (by decide) (by decide) (by decide) F6 aE 0 60 _ [0] rfl (λU U U U=>.next) (λU U U U U=>[⟨n+159,af (some (.ref (a+158)))⟩])
   (λn2 t2 g2 U=>LF n sc ep K v n' t g a n2 t2 g2 w) λn2 t2 g2 r o F7=>⟨rfl,F7,a,C,tC,hC,rfl⟩
theorem LJ:∀{b:List Stmt} (hb:b=((a4 w).drop 1).take 1) {a:Nat} {C:Nat->Int} {tC:Nat->Nat} (F:aj (pZ n a C tC++R)),WX w 302 (execs b (br w n)) (pZ n a C tC++R) (λf L'=>f=.next/\aj L'/\∃q th tl tv,q<4/\L'=kA n a C tC q th tl tv++R):=by
 revert w n R;ext w n R b:0;intro hb;ext a C tC:0;intro F;obtain⟨q,hq,hm⟩:∃q:Nat,q<4/\(C 1).fmod 4=(q:Int):=by
  exact⟨((C 1).fmod 4).toNat,y5 rfl rfl,(y6 rfl rfl).symm⟩
 have hH:∀f∈[bB "int.__mod__" (C 1) 4 (q:Nat)],ai w 400 f:=fq (fC (by decide) hm);have h4:q=0\/q=1\/q=2\/q=3:=by lia
 have J:∀orc,(∀n' t g,bP (vL w 310 400 [bB "int.__mod__" (C 1) 4 (q:Nat)]) 200 default .base (a9 b (br w n)) orc (pZ n a C tC) n' t g [] [0,1,2,3,4]
   (.fin (.done .next)) (λo=>(kA n a C tC q (bQ (o 0) 0) (bQ (o 1) 0) (bQ (o 2) 0)).map some) [])->WX w 302 (execs b (br w n)) (pZ n a C tC++R)
   (λf L'=>f=.next/\aj L'/\∃q th tl tv,q<4/\L'=kA n a C tC q th tl tv++R):=λorc hr=>
  WX.stmP (D₀:=310) (dh:=400) (by decide) (by decide) (by decide) F hH 0 200 orc [0,1,2,3,4] rfl (λU U U U=>.next) (λU U U U o=>kA n a C tC q (bQ (o 0) 0) (bQ (o 1) 0) (bQ (o 2) 0))
   (λn' t g U=>hr n' t g) λn' t g r o F4=>⟨rfl,F4,q,_,_,_,hq,rfl⟩
 rcases h4 with rfl|rfl|rfl|rfl
 .exact J _ λn' t g=>by subst hb;exact J8 n a C tC n' t g w
 .exact J _ λn' t g=>by subst hb;exact J9 n a C tC n' t g w
 .exact J _ λn' t g=>by subst hb;exact Ka n a C tC n' t g w
 .exact J _ λn' t g=>by subst hb;exact Kb n a C tC n' t g w
theorem LK {b} (hb:b=((a4 w).drop 2).take 4) {a C tC q th tl tv} (hq:q<4) (F:aj (EO n sc a C tC ep K v (sN q) (sO q) (sP q) th tl tv++R)):
  WX w 302 (execs b (br w n)) (EO n sc a C tC ep K v (sN q) (sO q) (sP q) th tl tv++R)
   (λf L'=>f=.next/\aj L'/\∃n' ep K r,L'=vx n sc ep K v mw (λx c=>dK x c (j2 C)) n' r a C tC++R):=
 WX.stmP (D₀:=310) (dh:=400) (by decide) (by decide) (by decide) F (ER hq) 32 4200 _ [0,15,21,26,32,38,44,50,56,62,68,5,6] rfl (λU U U U=>.next) (λn' U U r o=>vx n sc (bD (o 0)) (KO (o 0)) v mw (λx c=>dK x c (j2 C)) n' r a C tC)
  (λn' t g r=>by
   have z:=LH n sc a C tC ep K v (sN q) (sO q) (sP q) th tl tv ((C 1).fdiv 4) ((C 1).fdiv 16) ((C 1).fdiv 64) (j2 C) mw (λx c=>dK x c (j2 C)) n' t g r w;subst hb;exact z) λn' t g r o J=>⟨rfl,J,n',_,_,_,rfl⟩
theorem HU:∀{b0 b1 b2} (OF:b0=(a4 w).take 1) (OG:b1=((a4 w).drop 1).take 1) (OH:b2=((a4 w).drop 2).take 4) (OI:158<=sc) (OE:ps.length<=63) (F:aj ([⟨n+158,bF 0 ep K sc v⟩]++eX n++([⟨sc,aV dd (ps.map cG) eps sl⟩]++R))),WX w 302 (execs (b0++(b1++b2)) (br w n)) ([⟨n+158,bF 0 ep K sc v⟩]++eX n++([⟨sc,aV dd (ps.map cG) eps sl⟩]++R))
   (λf L'=>f=.next/\aj L'/\∃ep K v ca tcr D a C tC,n9 63 C/\D.S=(λx c=>dK x c (j2 C))/\v 0=.ref (ca+158)/\v 1=.ref (D.aSO+158)/\L'=EQ n sc ep K v ca tcr D a C tC ([⟨sc,aV dd (ps.map cG) eps sl⟩]++R)):=by
 revert w n sc ep K v ps dd eps sl R;ext w n sc ep K v ps dd eps sl:0;ext R b0 b1 b2:0;intro OF OG OH OI OE F;refine WX.app (WX.mono (LI OF OI OE F) ?_);intro f L' h_;ext f L' ⟨h_⟩;obtain⟨hf,F2,a,C,tC,hC,hL⟩:=h_;ext a C tC ⟨hC,hL⟩;subst hL;refine⟨hf,WX.app ?_⟩;refine WX.mono (post:=λf L'=>f=.next/\aj L'/\∃q th tl tv,q<4/\L'=kA n a C tC q th tl tv++([⟨sc,aV dd (ps.map cG) eps sl⟩,⟨n+158,bF 0 ep K sc v⟩]++(eX n).drop 4++R)) ?_ ?_
 .exact WX.pk [4,5,6,0,1] rfl rfl F2 λF3=>LJ OG F3
 intro f L' h_;ext f L' ⟨h_⟩;obtain⟨hf,F3,q,th,tl,tv,hq,hL⟩:=h_;ext q th tl tv ⟨hq,hL⟩;subst hL;refine⟨hf,WX.cut (WX.pk [6,7,0,1,2,3,4] rfl rfl F3 λF4=>LK OH hq F4) ?_⟩;intro f L' h_;ext f L' ⟨h_⟩;obtain⟨hf,F5,n',J,K2,r,hL⟩:=h_;ext n' J K2 r ⟨hL⟩;subst hL;have z:(EQ n sc J K2 (aD (aD v 0 (.ref (n'+166))) 1 (.ref ((r 7).n+162))) (n'+8) (λi=>(r i).x) (MF (λx c=>dK x c (j2 C)) r) a C tC ([⟨sc,aV dd (ps.map cG) eps sl⟩]++R)).Perm (vx n sc J K2 v mw (λx c=>dK x c (j2 C)) n' r a C tC++([⟨sc,aV dd (ps.map cG) eps sl⟩]++(eX n).drop 5++R)):=
  (List.perm_append_comm_assoc ((eX n).drop 5) [⟨sc,aV dd (ps.map cG) eps sl⟩] R).append_left ((EQ n sc J K2 (aD (aD v 0 (.ref (n'+166))) 1 (.ref ((r 7).n+162))) (n'+8) (λi=>(r i).x) (MF (λx c=>dK x c (j2 C)) r) a C tC []).take 13)
 exact⟨_,λe he=>z.mem_iff.mp he,hf,F5.perm z,J,K2,_,n'+8,_,_,a,C,tC,hC,rfl,rfl,rfl,rfl⟩
end
def LL {σ:Type} (w:World) (code:Code) (E:σ->Nat->List Value->Nat->List ad) (i:Nat) (out:Option (Nat->Value)):Prop:=
 ∀(s:σ) (xs:List Value) (el:Nat),xs.length<=1000->∃(hs:List aq) (nh J orc:Nat) (ix:List Nat) (sf:Nat->Nat->Nat->(Nat->HR)->(Nat->Obj)->σ) (tk:Nat->Nat->Nat->(Nat->HR)->(Nat->Obj)->Nat),
  (∀f∈hs,ai w 500 f)/\∀n t g r,bP (vL w 400 500 hs) J code .top (aM code) orc (E s i xs el) n t g (bO r 0 nh) ix (.again code)
   (λo=>(match out with
    |none=>E (sf n t g r o) (i+1) xs el
    |some f=>E (sf n t g r o) (i+1) (xs.concat (f (tk n t g r o))) (el+1)).map some) []
def Nm {σ:Type} (w:World) (code:Code) (E:σ->Nat->List Value->Nat->List ad) (E':σ->List Value->Nat->List ad) (N:Nat):Prop:=
 ∀(s:σ) (xs:List Value) (el:Nat),∃(hs:List aq) (nh J orc:Nat) (ix:List Nat),(∀f∈hs,ai w 500 f)/\∀n t g r,ay (vL w 400 500 hs) J code .top (aM code) orc (E s N xs el) n t g (bO r 0 nh) ix (.ret (.ok .next))
   ((E' s xs el).map some) []
theorem C5 {σ:Type} {w:World} {code:Code} {E:σ->Nat->List Value->Nat->List ad} {E':σ->List Value->Nat->List ad} {N:Nat} {out:Nat->Option (Nat->Value)} (hN:N<=500) (hc:bq code) (hq:code.quiet=true) {A:List Nat} (hA:∀s i xs el,aC (E s i xs el)=A) {s0:σ} (F:aj (E s0 0 [] 0))
  (hT:∀i<N,LL w code E i (out i)) (hE:Nm w code E E' N):
  CX w 400 code (E s0 0 [] 0) (λr l'=>r=.ok .next/\∃(s:σ) (ps:List (Nat×Nat)),ps.map (·.1)=(List.range N).filter (λi=>(out i).isSome)/\l'=E' s (ps.map (cx out)) ps.length):=by
 have OG:∀k i,N - i=k->i<=N->∀(s:σ) (ps:List (Nat×Nat)),ps.map (·.1)=(List.range i).filter (λi=>(out i).isSome)->
   CX w 400 code (E s i (ps.map (cx out)) ps.length) (λr l'=>r=.ok .next/\∃(s:σ) (ps:List (Nat×Nat)),ps.map (·.1)=(List.range N).filter (λi=>(out i).isSome)/\l'=E' s (ps.map (cx out)) ps.length):=by
  intro k;induction k with
  |zero=>
   intro i hk hi s ps OE;obtain rfl:i=N:=by lia
   refine eO λU k_=>?_;obtain⟨hs,nh,J,orc,ix,hh,hr⟩:=hE s (ps.map (cx out)) ps.length;refine k_ ?_;exact CX.run4 (l:=E s i (ps.map (cx out)) ps.length) hh (bg _) (dX F (by rw[hA,hA])) hc nh J orc ix (λU U U U=>.ret (.ok .next)) (λU U U U=>E' s (ps.map (cx out)) ps.length) hr λU U U U U U=>⟨rfl,s,ps,OE,rfl⟩
  |succ k ih=>
   intro i hk hi s ps OE;have OF:(ps.map (cx out)).length<=1000:=by
    have h1:=congrArg List.length OE;have h2:=List.length_filter_le (λi=>(out i).isSome) (List.range i);simp only[lQ,List.length_range] at h1 h2|-;lia
   refine eO λU k_=>?_;obtain⟨hs,nh,J,orc,ix,sf,tk,hh,hr⟩:=hT i (i7 hk) s (ps.map (cx out)) ps.length OF;refine k_ ?_;refine CX.run4 (l:=E s i (ps.map (cx out)) ps.length) hh (bg _) (dX F (by rw[hA,hA])) hc nh J orc ix (λU U U U=>.again code) (λn t g r=>(λo=>match out i with
    |none=>E (sf n t g r o) (i+1) (ps.map (cx out)) ps.length
    |some f=>E (sf n t g r o) (i+1) ((ps.map (cx out)).concat (f (tk n t g r o))) (ps.length+1)) (bl _ _ _ _ _ _ _ n t g (bO r 0 nh)).obj) hr λn t g r U U=>⟨hq,?_⟩
   clear hr;generalize(bl (vL w 400 500 hs) J code .top (aM code) orc (E s i (ps.map (cx out)) ps.length) n t g (bO r 0 nh)).obj=o;cases ho:out i with
   |none=>exact ih (i+1) (ke hk) (i7 hk) _ ps (by rw[OE,List.range_succ,List.filter_append];simp[ho])
   |some f=>
    have e1:(ps.map (cx out)).concat (f (tk n t g r o))=(ps++[(i,tk n t g r o)]).map (cx out):=by simp[cx,ho]
    have e2:ps.length+1=(ps++[(i,tk n t g r o)]).length:=by simp
    show CX w 400 code (E (sf n t g r o) (i+1) ((ps.map (cx out)).concat (f (tk n t g r o))) (ps.length+1)) _;rw[e1,e2];exact ih (i+1) (ke hk) (i7 hk) _ (ps++[(i,tk n t g r o)]) (by rw[k6,OE,List.range_succ,List.filter_append];simp[ho])
 exact OG N 0 (by rfl) (iU _) s0 [] rfl
def AL (la:Nat):Code:=.call (.builtin "min") ⟨[.ref (la+158)],[]⟩
def gI (it be:Nat):Code:=.builtin "min.loop" ⟨[.ref (it+158),.none,.ref (be+158)],[]⟩
section
variable (w:World) (la it be:Nat) (xs:List Value) (ep:Nat) (n t g:Nat)
theorem LM:∀w,ay (vL w 400 500 []) 60 (AL la) .top (aM (AL la)) 1334367311636889600 [⟨la+158,aa xs ep⟩] n t g [] [1,2,0]
  (.again (gI n (n+1))) (([⟨n+158,aZ (la+158) 0⟩,⟨n+1+158,aa [] 0⟩,⟨la+158,aa xs ep⟩]:List ad).map some) []:=aT
theorem LN (i J:Nat) (a:Int) (ta:Nat) (ρ:HR):∀w,ay (vL w 400 500 [az 0 (it+158) 2 (la+158) xs ep i (.int a ta)]) 60 (gI it be) .top (aM (gI it be)) 1334368583854227617 [⟨it+158,aZ (la+158) i⟩,⟨be+158,aa [] J⟩,⟨la+158,aa xs ep⟩] n t g [ρ] [0,1,2]
  (.again (gI it be)) (([⟨it+158,aZ (la+158) (i+1)⟩,⟨be+158,aa [.int a ta,.int a ta] (J+1)⟩,⟨la+158,aa xs ep⟩]:List ad).map some) []:=aT
theorem LO (i J:Nat) (a b:Int) (ta tb:Nat) (ρ:HR):∀w,ay (vL w 400 500 [az 0 (it+158) 2 (la+158) xs ep i (.int a ta),iv a b true]) 60 (gI it be) .top (aM (gI it be)) 0x4a1284a100801280a1 [⟨it+158,aZ (la+158) i⟩,⟨be+158,aa [.int b tb,.int b tb] J⟩,⟨la+158,aa xs ep⟩] n t g [ρ] [0,1,2]
  (.again (gI it be)) (([⟨it+158,aZ (la+158) (i+1)⟩,⟨be+158,aa [.int a ta,.int a ta] J⟩,⟨la+158,aa xs ep⟩]:List ad).map some) []:=aT
theorem LP (i eb:Nat) (a b:Int) (ta J:Nat) (ρ:HR):∀w,ay (vL w 400 500 [az 0 (it+158) 2 (la+158) xs ep i (.int a ta),iv a b false]) 60 (gI it be) .top (aM (gI it be)) 1101660324001 [⟨it+158,aZ (la+158) i⟩,⟨be+158,aa [.int b J,.int b J] eb⟩,⟨la+158,aa xs ep⟩] n t g [ρ] [0,1,2]
  (.again (gI it be)) (([⟨it+158,aZ (la+158) (i+1)⟩,⟨be+158,aa [.int b J,.int b J] eb⟩,⟨la+158,aa xs ep⟩]:List ad).map some) []:=aT
theorem Nn (i eb:Nat) (b:Int) (J:Nat) (ρ:HR):∀w,ay (vL w 400 500 [dG 0 (it+158) 2 (la+158) xs ep i]) 60 (gI it be) .top (aM (gI it be)) 0xa1284a129001280a1 [⟨it+158,aZ (la+158) i⟩,⟨be+158,aa [.int b J,.int b J] eb⟩,⟨la+158,aa xs ep⟩] n t g [ρ] [2]
  (.ret (.ok (.ret (.int b J)))) (([⟨la+158,aa xs ep⟩]:List ad).map some) []:=aT
end
theorem kD (it be):bq (gI it be):=ba rfl
theorem ES:∀{w la it be ep ps} (F:aj [⟨it+158,aZ (la+158) 0⟩,⟨be+158,aa [] 0⟩,⟨la+158,aa (am ps) ep⟩]),∀k i,i+k=ps.length->∀p J,p∈ps->(∀j (h:j<ps.length),j<i->p.1<=(ps[j]).1)->
  CX w 400 (gI it be) [⟨it+158,aZ (la+158) i⟩,⟨be+158,aa [.int p.1 p.2,.int p.1 p.2] J⟩,⟨la+158,aa (am ps) ep⟩] (λr l'=>∃q∈ps,(∀p∈ps,q.1<=p.1)/\r=.ok (.ret (.int q.1 q.2))/\l'=[⟨la+158,aa (am ps) ep⟩]):=by
 ext w la it be ep ps:0;intro F;intro k;induction k with
 |zero=>
  intro i hi p J hp hm;refine CX.run4 (hs:=[dG 0 (it+158) 2 (la+158) (am ps) ep i]) (fq (fF (by rw[List.getElem?_eq_none];unfold am;rw[lQ];exact j9 (id (Eq.symm hi))))) (bg _) (l:=[⟨it+158,aZ (la+158) i⟩,⟨be+158,aa [.int p.1 p.2,.int p.1 p.2] J⟩,⟨la+158,aa (am ps) ep⟩]) (dX F rfl) (kD _ _) 1 60 _ _ (λU U U U=>.ret (.ok (.ret (.int p.1 p.2)))) (λU U U U=>[⟨la+158,aa (am ps) ep⟩])
   (λn t g r=>Nn la it be _ ep n t g i J p.1 p.2 (r 0) w) λU U U U U U=>⟨p,hp,λq hq=>?_,rfl,rfl⟩
  obtain⟨j,hj,rfl⟩:=List.mem_iff_getElem.mp hq;exact hm j hj ((au (ax (ii hi) hj)))
 |succ k ih=>
  intro i hi p J hp hm;have OF:i<ps.length:=Dm hi;have hx:(am ps)[i]? =some (.int ps[i].1 ps[i].2):=by unfold am;rw[List.getElem?_map,mR OF];rfl
  by_cases hc:ps[i].1<p.1
  .refine CX.run4 (hs:=[az 0 (it+158) 2 (la+158) (am ps) ep i (.int ps[i].1 ps[i].2),iv ps[i].1 p.1 true]) (uh (c5 hx) (ma (jW hc))) (bg _) (l:=[⟨it+158,aZ (la+158) i⟩,⟨be+158,aa [.int p.1 p.2,.int p.1 p.2] J⟩,⟨la+158,aa (am ps) ep⟩]) (dX F rfl) (kD _ _) 1 60 _ _ (λU U U U=>.again (gI it be)) (λU U U U=>[⟨it+158,aZ (la+158) (i+1)⟩,⟨be+158,aa [.int ps[i].1 ps[i].2,.int ps[i].1 ps[i].2] J⟩,⟨la+158,aa (am ps) ep⟩])
    (λn t g r=>LO la it be _ ep n t g i J _ _ _ _ (r 0) w) λU U U U U U=>⟨aX rfl,ih (i+1) (y4 hi) ps[i] J (List.getElem_mem _) λj hj OE=>?_⟩
   by_cases e:j=i
   .subst e;exact Int.le_refl _
   .have:=hm j hj (by lia);lia
  .refine CX.run4 (hs:=[az 0 (it+158) 2 (la+158) (am ps) ep i (.int ps[i].1 ps[i].2),iv ps[i].1 p.1 false]) (uh (c5 hx) (ma (iS hc))) (bg _) (l:=[⟨it+158,aZ (la+158) i⟩,⟨be+158,aa [.int p.1 p.2,.int p.1 p.2] J⟩,⟨la+158,aa (am ps) ep⟩]) (dX F rfl) (kD _ _) 1 60 _ _ (λU U U U=>.again (gI it be)) (λU U U U=>[⟨it+158,aZ (la+158) (i+1)⟩,⟨be+158,aa [.int p.1 p.2,.int p.1 p.2] J⟩,⟨la+158,aa (am ps) ep⟩])
    (λn t g r=>LP la it be _ ep n t g i J _ _ _ _ (r 0) w) λU U U U U U=>⟨aX rfl,ih (i+1) (y4 hi) p J hp λj hj OE=>?_⟩
   by_cases e:j=i
   .subst e;lia
   .exact hm j hj (by lia)
theorem ET:∀{w la ep ps} (hne:0<ps.length),CX w 400 (AL la) [⟨la+158,aa (am ps) ep⟩] (λr l'=>∃q∈ps,(∀p∈ps,q.1<=p.1)/\r=.ok (.ret (.int q.1 q.2))/\l'=[⟨la+158,aa (am ps) ep⟩]):=by
 ext w la ep ps:0;intro hne;have hx:(am ps)[0]? =some (.int ps[0].1 ps[0].2):=by unfold am;rw[List.getElem?_map,mR hne];rfl
 refine CX.runP (R:=[]) (hs:=[]) (D₀:=400) (dh:=500) (by decide) (by decide) (bg _) (l:=[⟨la+158,aa (am ps) ep⟩]) (d6 (bN _ _)) aE (bJ _ _) 0 60 1334367311636889600 [1,2,0] rfl (λn U U U=>.again (gI n (n+1)))
  (λn U U U U=>[⟨n+158,aZ (la+158) 0⟩,⟨n+1+158,aa [] 0⟩,⟨la+158,aa (am ps) ep⟩]) (λn t g U=>LM la _ ep n t g w) λn t g r o F=>⟨aX rfl,?_⟩
 exact CX.run4 (hs:=[az 0 (n+158) 2 (la+158) (am ps) ep 0 (.int ps[0].1 ps[0].2)]) (fq (c5 hx)) (bg _) F (kD _ _) 1 60 _ _ (λU U U U=>.again (gI n (n+1))) (λU U U U=>[⟨n+158,aZ (la+158) (0+1)⟩,⟨n+1+158,aa [.int ps[0].1 ps[0].2,.int ps[0].1 ps[0].2] (0+1)⟩,⟨la+158,aa (am ps) ep⟩])
  (λn2 t g r=>LN la n (n+1) _ ep n2 t g 0 0 _ _ (r 0) w) λU U U U U U=>⟨aX rfl,ES F (ps.length - 1) 1 (MJ hne) ps[0] 1 (List.getElem_mem _) λj hj J=>by
   obtain rfl:j=0:=(Iu (bg 0) J);exact Int.le_refl _⟩
def Gk (k:Nat) (a:Int) (ps:List (Int×Nat)) (m:Int):aq:=λc J=>some ⟨[(k,dP J k - 158+158,aa (am ((a,bQ (dQ J k) 0+1)::ps)) (bD (dQ J k)))],[(c,AL (dP J k - 158))],.gen λρ=>⟨.ok (.ret (.int m (ρ.x+1))),[],[]⟩⟩
theorem EU:∀{w k a m ps} (hp:∀p∈ps,0<p.2) (hm:∀t,∀q∈(a,t)::ps,(∀p∈(a,t)::ps,q.1<=p.1)->q.1=m),ai w 400 (Gk k a ps m):=by
 ext w k a m ps:0;intro hp hm;refine bj λc lk A s hA hT hq=>?_;ext lk A s ⟨hA,hT,hq⟩;refine bf.of_code (eG (ET (ps:=(a,bQ (dQ lk k) 0+1)::ps) (ep:=bD (dQ lk k)) (iT _) A s hA hT (dJ (hq _ aJ))) λr s' J=>?_);obtain⟨l',⟨q,OE,OF,hr,hl⟩,D⟩:=J;have h0:0<q.2:=by
  rcases aY.mp OE with rfl|h
  .exact iT _
  .exact hp _ h
 subst hl hr;have z:=bH.hstep D (dJ (hq _ aJ)) (o:=(λρ:HR=>(⟨.ok (.ret (.int m (ρ.x+1))),[],[]⟩:j5)) ⟨0,0,0,q.2 - 1,0,0⟩) (x:=q.2 - 1) (y:=0) (z:=0) (λU h=>(nomatch h)) (λU h=>(nomatch h)) .nil λe he=>.inr he;refine⟨_,?_,z⟩;show Except.ok (Flow.ret (.int q.1 q.2))=.ok (.ret (.int m (q.2 - 1+1)));rw[hm _ q OE OF,mV h0]
def C6 (k1 k2:Nat) (a:Int) (ps:List (Int×Nat)):aq:=λc J=>some ⟨[(k1,dP J k1,aa [.int a (bQ (dQ J k1) 0+1)] (bD (dQ J k1))),(k2,dP J k2,aa (am ps) (bD (dQ J k2)))],[(c,.call (.builtin "list.__add__") ⟨[.ref (dP J k1),.ref (dP J k2)],[]⟩)],.gen λρ=>⟨.ok (.ret (.ref (ρ.x+158))),[],[⟨ρ.x+158,aa (am ((a,bQ (dQ J k1) 0+1)::ps)) 0⟩]⟩⟩
theorem C7:∀{w dh k1 k2 a ps} (hl:ps.length<=1000),ai w dh (C6 k1 k2 a ps):=by
 ext w dh k1 k2 a ps:0;intro hl;refine bj λc J A s hA hT hq=>?_;ext J A s ⟨hA,hT,hq⟩;have OE:=hq _ aJ;have OF:=hq _ cy;obtain⟨n,t',hn,ht⟩:=hT.nat;refine fE F.slot_list_add (⟨_,OE,rfl⟩:Shared.TypeIs _ (.ref (dP J k1)) "list") F.entry_list_add (F.args_list_add_2 _ _) (AutoSeq1.list___add___list_list_0 (dP J k1) [Value.int a (bQ (dQ J k1) 0+1)].toArray (bD (dQ J k1)) (dP J k2) (am ps).toArray (bD (dQ J k2)) (by
  have:(1000+1:Nat)<=sizeLine:=by decide
  simp only[List.size_toArray,am,lQ,fu,List.length_nil];exact(au (ax hl this)))) ⟨OE,OF,⟨n+1,t',s.gens.size,n,0,0⟩,?_,?_⟩
 .rw[hn]
 .have P:=cJ.same (s:=s) (n:=n) (t:=t') (x:=n) (y:=0) (z:=0) (r:=.ok (.ret (.ref (n+158)))) hn (j9 ht);rw[<-ht] at P;have P2:=P.push (x:=aa (am ((a,bQ (dQ J k1) 0+1)::ps)) 0) rfl;have e3:(aa (am ((a,bQ (dQ J k1) 0+1)::ps)) 0)={cls:=Value.type "list",data:=Data.seq ([Value.int a (bQ (dQ J k1) 0+1)].toArray++(am ps).toArray)}:=by simp[aa,am]
  rw[<-e3];exact P2
def C8 (w:World) (i:Nat):Expr:=Ad (bV (a4 w) i)
def sR (w:World) (n:Nat) (e:Expr) (cells:List (Str×Addr)) (cd:Nat):Env:=
 {scope:={kL e with names:=(kL e).names.map wG},locals:=cd,globals:=3,cells,qual:=(br w n).qual,func:=none,code:=(iI w 157).code,frame:=some (n+158),builtins:=(iI w 157).builtins}
def kQ:Str:=⟨#[99,111,114,110,101,114]⟩
def gE (w:World) (n cd it acc:Nat):Code:=.compLoop (C8 w 6) 0 (.ref it) (.ref acc) (sR w n (C8 w 6) [(pT,n+159)] cd)
def kR (w:World) (n cd it acc:Nat):Code:=.compStart (C8 w 6) 0 (.ref it) (.ref acc) (sR w n (C8 w 6) [(pT,n+159)] cd)
def wS (b:Bool):Str:=match b with
 |true=>⟨#[120]⟩
 |false=>⟨#[120,120]⟩
def lK (tcr:Nat->Nat) (i:Nat):Value:=.int (mw i:Nat) (tcr i+1)
def AM (n ca a:Nat) (tcr:Nat->Nat) (C:Nat->Int) (tC:Nat->Nat):List ad:=[⟨ca+158,aa (ap (lK tcr)) 8⟩,⟨n+159,af (some (.ref (a+158)))⟩,⟨a+158,jk C tC⟩]
def iq (w:World) (n cd it acc ca a:Nat) (tcr:Nat->Nat) (C:Nat->Int) (tC:Nat->Nat):nV:=
 {code:=gE w n (cd+158) (it+158) (acc+158),cd,it,acc,nm:=kQ,h:=aB w kQ,vs:=lK tcr,itO:=aZ (ca+158),itE:=en 8,Fx:=AM n ca a tcr C tC}
def EV (it acc ca:Nat) (tcr:Nat->Nat) (J s d:Int) (b:Bool) (i:Nat) (xs:List Value) (el:Nat):List aq:=
 [az 1 (it+158) 3 (ca+158) (ap (lK tcr)) 8 i (lK tcr i),bB "int.__rshift__" J (mw i:Nat) s,bB "int.__and__" s 1 d,c8 2 (acc+158) xs el (λt=>.str (wS b) t)]
section
variable (w:World) (n cd it acc ca a:Nat) (tcr:Nat->Nat) (C:Nat->Int) (tC:Nat->Nat) (s:Int) (i:Nat) (xs:List Value) (el z:Nat) (n' t g:Nat)
theorem No (ρ OE:HR):∀w J,ay (vL w 400 500 (EV it acc ca tcr (C 0) s (match J with|true=>1|false=>0) J 0 xs el)) 100 (gE w n (cd+158) (it+158) (acc+158)) .top (aM (gE w n (cd+158) (it+158) (acc+158))) 0x10100000c02280a529400294a5294a4280a0004a1
  ((iq w n cd it acc ca a tcr C tC).E z 0 (aZ (ca+158) 0) xs el) n' t g [ρ,OE] [0,1,2,3,4,5]
  (.again (gE w n (cd+158) (it+158) (acc+158)))
  (((iq w n cd it acc ca a tcr C tC).E ρ.t 1 (aZ (ca+158) 1) (xs.concat (.str (wS J) (ρ.t+6))) (el+1)).map some) []:=d9
theorem Np (ρ OE:HR):∀w J,ay (vL w 400 500 (EV it acc ca tcr (C 0) s (match J with|true=>1|false=>0) J (i+1) xs el)) 100 (gE w n (cd+158) (it+158) (acc+158)) .top (aM (gE w n (cd+158) (it+158) (acc+158))) 0x10100000c02280a529400294a5294a4280a0004a1
  ((iq w n cd it acc ca a tcr C tC).E z (i+1) (aZ (ca+158) (i+1)) xs el) n' t g [ρ,OE] [0,1,2,3,4,5]
  (.again (gE w n (cd+158) (it+158) (acc+158)))
  (((iq w n cd it acc ca a tcr C tC).E z (i+2) (aZ (ca+158) (i+2)) (xs.concat (.str (wS J) (ρ.t+6))) (el+1)).map some) []:=d9
theorem LQ (v:Value) (ρ:HR):∀w,ay (vL w 400 500 [dG 1 (it+158) 3 (ca+158) (ap (lK tcr)) 8 8]) 100 (gE w n (cd+158) (it+158) (acc+158)) .top (aM (gE w n (cd+158) (it+158) (acc+158))) 175113377
  ((iq w n cd it acc ca a tcr C tC).E z 8 (aZ (ca+158) 8) xs el) n' t g [ρ] [0,1,2,3,4,5]
  (.ret (.ok .next)) (((iq w n cd it acc ca a tcr C tC).E z 8 (en 8) xs el).map some) []:=aT
theorem Nq:ay (vL w 400 500 []) 20 (kR w n (cd+158) (it+158) (acc+158)) .top (aM (kR w n (cd+158) (it+158) (acc+158))) 1185
  ((iq w n cd it acc ca a tcr C tC).E 0 0 (aZ (ca+158) 0) [] 0) n' t g [] [0,1,2,3,4,5]
  (.again (gE w n (cd+158) (it+158) (acc+158))) (((iq w n cd it acc ca a tcr C tC).E 0 0 (aZ (ca+158) 0) [] 0).map some) []:=by kernel_rfl
end
def AN:Nat:=0x3ff294a2000a2288a0
def AO (n sc ca a ep:Nat) (K:Nat->Int×Nat) (v:Nat->Value) (tcr:Nat->Nat) (C:Nat->Int) (tC:Nat->Nat):List ad:=[⟨n+158,bF 1 ep K sc v⟩,⟨n+164,af none⟩]++AM n ca a tcr C tC
theorem Kc (n sc ca a ep K v tcr C tC n' t g):∀w,bP (vL w 310 400 []) 60 default .base (a9 (((a4 w).drop 6).take 1) (br w n)) AN (AO n sc ca a ep K (aD v 0 (.ref (ca+158))) tcr C tC) n' t g [] [7,5,6,2,3,4,0,1]
   (.call false default (kR w n (n'+2+158) (n'+158) (n'+1+158)) true) (λU=>((iq w n (n'+2) n' (n'+1) ca a tcr C tC).E 0 0 (aZ (ca+158) 0) [] 0++[⟨n+158,bF 1 ep K sc (aD v 0 (.ref (ca+158)))⟩,⟨n+164,af none⟩]:List ad).map some) []:=aT
theorem Ke (w n sc ca a ep K v tcr C tC n' t g z x n2 t2 g2):
  ay (vL w 310 400 []) 60 default .base ((bl (vL w 310 400 []) 60 default .base (a9 (((a4 w).drop 6).take 1) (br w n)) AN (AO n sc ca a ep K (aD v 0 (.ref (ca+158))) tcr C tC) n' t g []).kont (.ok .next)) 177194412441760
   [⟨n'+2+158,fL kQ (aB w kQ) z x⟩,⟨n+164,af none⟩] n2 t2 g2 [] [1] (.fin (.done .next)) [some ⟨n+164,af (some (.ref (n'+1+158)))⟩] []:=by revert w;exact aT
theorem Nr {α:Type} {l:List α} (h:l.length=8):∃a b c d e f g i,l=[a,b,c,d,e,f,g,i]:=by
 iterate 8 (obtain⟨_,l,rfl⟩:=List.exists_cons_of_length_eq_add_one h;replace h:=Nat.succ.inj h)
 obtain rfl:=List.eq_nil_of_length_eq_zero h
 exact⟨_,_,_,_,_,_,_,_,rfl⟩
set_option tactic.hygienic true in
theorem Gl:∀{out:Nat->Option (Nat->Value)} {f:Nat->Nat->Value} {ps:List (Nat×Nat)} (ho:∀i<8,out i=some (f i)) (h:ps.map (·.1)=(List.range 8).filter (λi=>(out i).isSome)),ps.length=8/\∃tk:Nat->Nat,ps.map (cx out)=ap λi=>f i (tk i):=by
 ext out f ps:0;intro ho h;have h8:(List.range 8).filter (λi=>(out i).isSome)=List.range 8:=List.filter_eq_self.mpr λi hi=>by rw[ho i (eM.mp hi)];rfl
 rw[h8] at h;have hl:ps.length=8:=by simpa using congrArg List.length h
 refine eO λ_ J=>?_;rename_i OE;ext OE ⟨J⟩;obtain⟨p0,p1,p2,p3,p4,p5,p6,p7,rfl⟩:=Nr hl;ext p0 p1 p2 p3 p4 p5 p6 p7 ⟨h,hl,J⟩;refine J ?_;simp only[de,fK] at h;have hr:List.range 8=[0,1,2,3,4,5,6,7]:=rfl;rw[hr] at h;simp only[List.cons.injEq,and_true] at h;refine eO λ_ J=>?_;obtain⟨h0,h1,h2,h3,h4,h5,h6,h7⟩:=h;refine J ?_;refine⟨rfl,λi=>match i with|0=>p0.2|1=>p1.2|2=>p2.2|3=>p3.2|4=>p4.2|5=>p5.2|6=>p6.2|_=>p7.2,?_⟩;have e:∀(p:Nat×Nat) i,i<8->p.1=i->cx out p=f i p.2:=λp i hi hp=>by unfold cx;rw[hp,ho i hi]
 simp only[de,fK,ap];rw[e p0 0 (by decide) h0,e p1 1 (by decide) h1,e p2 2 (by decide) h2,e p3 3 (by decide) h3,e p4 4 (by decide) h4,e p5 5 (by decide) h5,e p6 6 (by decide) h6,e p7 7 (by decide) h7]
def wB (C:Nat->Int) (x:Nat):Bool:=EN (rK (C 0) (mw x))
def Kf (C:Nat->Int) (tw:Nat->Nat) (x:Nat):Value:=.str (wS (wB C x)) (tw x+1)
theorem EW (w n cd it acc):bq (gE w n cd it acc):=ba rfl
theorem C9 (w n cd it acc):bq (kR w n cd it acc):=ba rfl
theorem EY:∀{w:World} {n sc ca a ep:Nat} {K:Nat->Int×Nat} {v:Nat->Value} {tcr:Nat->Nat} {C:Nat->Int} {tC:Nat->Nat} {R:List ad} {b:List Stmt} (hb:b=((a4 w).drop 6).take 1) (hC:0<=C 0) (hv:v 0=.ref (ca+158))
  (F:aj (AO n sc ca a ep K v tcr C tC++R)),WX w 302 (execs b (br w n)) (AO n sc ca a ep K v tcr C tC++R)
   (λf L'=>f=.next/\aj L'/\∃wa tw,L'=[⟨n+164,af (some (.ref (wa+158)))⟩,⟨wa+158,aa (ap (Kf C tw)) 8⟩,⟨n+158,bF 1 ep K sc v⟩]++(AM n ca a tcr C tC++R)):=by
 ext w n sc ca a ep K v tcr C:0;ext tC R b:0;intro hb hC hv F;have OI:aD v 0 (.ref (ca+158))=v:=cP hv;subst hb;refine WX.sel (post:=λf L'=>f=.next/\aj L'/\∃it wa tw,L'=[⟨n+164,af (some (.ref (wa+158)))⟩,⟨it+158,en 8⟩,⟨wa+158,aa (ap (Kf C tw)) 8⟩]++(AM n ca a tcr C tC++[⟨n+158,bF 1 ep K sc v⟩]++R)) ?_ (MA λit wa tw F3=>⟨F3,[0,2,6],[1],rfl,rfl,λF4=>⟨rfl,F4,wa,tw,rfl⟩⟩);refine SX.of_bx (w:=w) (d:=302) ?_;have OE:=λn' t g=>Kc n sc ca a ep K v tcr C tC n' t g w;rw[OI] at OE;refine BX.callP (hs:=[]) (D₀:=310) (dh:=400) (by decide) (by decide) (by decide) F aE 0 60 AN _ rfl default (λn' U U U=>kR w n (n'+2+158) (n'+158) (n'+1+158)) true
  (λn' U U U U=>(iq w n (n'+2) n' (n'+1) ca a tcr C tC).E 0 0 (aZ (ca+158) 0) [] 0++[⟨n+158,bF 1 ep K sc v⟩,⟨n+164,af none⟩])
  (λn' t g U=>OE n' t g) λn' t g r o F2=>?_
 ext n' t g r ⟨F2⟩;rw[i6] at F2|-;have OF:CX w 302 (kR w n (n'+2+158) (n'+158) (n'+1+158)) ((iq w n (n'+2) n' (n'+1) ca a tcr C tC).E 0 0 (aZ (ca+158) 0) [] 0)
   (λr l'=>r=.ok .next/\∃(z:Nat) (ps:List (Nat×Nat)),ps.map (·.1)=(List.range 8).filter (λi=>((λi=>some λt=>Value.str (wS (wB C i)) (t+1):Nat->Option (Nat->Value)) i).isSome)/\l'=(iq w n (n'+2) n' (n'+1) ca a tcr C tC).E z 8 (en 8) (ps.map (cx λi=>some λt=>Value.str (wS (wB C i)) (t+1))) ps.length):=by
  refine(CX.run4 (d:=400) (hs:=[]) aE (bg _) F2.left (C9 _ _ _ _ _) 0 20 _ [0,1,2,3,4,5] (λU U U U=>.again (gE w n (n'+2+158) (n'+158) (n'+1+158))) (λU U U U=>(iq w n (n'+2) n' (n'+1) ca a tcr C tC).E 0 0 (aZ (ca+158) 0) [] 0)
   (λn2 t2 J U=>Nq w n (n'+2) n' (n'+1) ca a tcr C tC n2 t2 J) λU U U U U U=>⟨aX rfl,?_⟩).depth (by decide)
  refine rA (S:=iq w n (n'+2) n' (n'+1) ca a tcr C tC) (by decide) (EW _ _ _ _ _) (aX rfl) F2.left (λi hi z xs el hx=>?_) λz xs el=>⟨[dG 1 (n'+158) 3 (ca+158) (ap (lK tcr)) 8 8],1,100,_,_,fq (fF (by rfl)),λn2 t2 J r=>LQ n (n'+2) n' (n'+1) ca a tcr C tC xs el z n2 t2 J (lK tcr 7) (r 0) w⟩;ext i z xs el ⟨hi,hx⟩;have hh:∀f∈EV n' (n'+1) ca tcr (C 0) (rK (C 0) (mw i)) (match wB C i with|true=>1|false=>0) (wB C i) i xs el,ai w 500 f:=
   nH (c5 (fz _ hi)) AJ (AK (HS hC) rfl) (eK (bC hx (by decide)))
  cases i with
  |zero=>exact⟨_,2,100,_,_,λU U U r=>(r 0).t,λU U U r=>(r 0).t+5,hh,λn2 t2 J r=>No n (n'+2) n' (n'+1) ca a tcr C tC _ xs el z n2 t2 J (r 0) (r 1) w (wB C 0)⟩
  |succ i=>exact⟨_,2,100,_,_,λU U U U=>z,λU U U r=>(r 0).t+5,hh,λn2 t2 J r=>Np n (n'+2) n' (n'+1) ca a tcr C tC _ i xs el z n2 t2 J (r 0) (r 1) w (wB C (i+1))⟩
 refine⟨_,CX.fr0 (l:=(iq w n (n'+2) n' (n'+1) ca a tcr C tC).E 0 0 (aZ (ca+158) 0) [] 0) F2 OF (post2:=λr l'=>r=.ok .next/\aj l'/\∃z tw,l'=(iq w n (n'+2) n' (n'+1) ca a tcr C tC).E z 8 (en 8) (ap (Kf C tw)) 8++([⟨n+158,bF 1 ep K sc v⟩,⟨n+164,af none⟩]++R)) ?_,MB λz tw F4=>?_⟩
 .intro r l' h_;ext r l' ⟨h_⟩;obtain⟨hr,z,ps,OG,hl⟩:=h_;ext z ps ⟨OG,hl⟩;obtain⟨h8,tw,OH⟩:=Gl (f:=λi t=>Value.str (wS (wB C i)) (t+1)) (λi hi=>rfl) OG;ext tw ⟨OH⟩;rw[h8,OH] at hl;subst hl;exact⟨dX F2.left rfl,λF4=>⟨hr,F4,z,tw,rfl⟩⟩
 .refine BX.pk [0,7] rfl rfl F4 λF5=>?_;have hk:=Ke w n sc ca a ep K v tcr C tC n' t g;rw[OI] at hk;refine BX.runP (l:=[⟨n'+2+158,fL kQ (aB w kQ) z (lK tcr 7)⟩,⟨n+164,af none⟩]) (hs:=[]) (D₀:=310) (dh:=400) (by decide) (by decide) (by decide) F5 aE 0 60 _ [1] rfl (λU U U U=>.next) (λU U U U U=>[⟨n+164,af (some (.ref (n'+1+158)))⟩])
   (λn2 t2 J U=>hk z (lK tcr 7) n2 t2 J) λn2 t2 J r o F6=>⟨rfl,F6,n',n'+1,tw,rfl⟩
def Ns:Expr->Expr
 |.ListComp (.Call _ (.BinOp _ _ r _::_) _ _) _ _ _=>r
 |_=>default
def EZ (w:World):Expr:=Ns (C8 w 8)
def Gm (w:World) (n wc cd:Nat):Env:=sR w n (EZ w) [(jh,wc),(wt,n+164),(Gi,n+165)] cd
def ew (w:World) (n wc cd it acc:Nat):Code:=.compLoop (EZ w) 0 (.ref it) (.ref acc) (Gm w n wc cd)
def kU (w:World) (n wc cd it acc:Nat):Code:=.compStart (EZ w) 0 (.ref it) (.ref acc) (Gm w n wc cd)
def u7:Nat->Nat
 |0=>0
 |1=>1
 |2=>1
 |3=>2
 |4=>1
 |5=>2
 |6=>2
 |_=>3
def no (tOn:Nat->Nat) (x:Nat):Value:=.int (u7 x:Nat) (tOn x+1)
def bi (W:Nat->Str) (tw:Nat->Nat) (x:Nat):Value:=.str (W x) (tw x+1)
def gn (n wc wa oa x tx:Nat) (W:Nat->Str) (tw tOn:Nat->Nat):List ad:=[⟨wc+158,af (some (.int (x:Nat) (tx+1)))⟩,⟨n+164,af (some (.ref (wa+158)))⟩,⟨wa+158,aa (ap (bi W tw)) 8⟩,⟨n+165,af (some (.ref (oa+158)))⟩,⟨oa+158,aa (ap (no tOn)) 0⟩]
def Nt (h:Int) (s:Nat×Nat):Nat->Obj
 |0=>cn 0
 |i+1=>fL nX h s.1 (.int (i:Int) (s.2+1))
def i4 (h:Int) (cd it acc:Nat) (Fx:List ad) (s:Nat×Nat) (i rem:Nat) (xs:List Value) (el:Nat):List ad:=[⟨cd+158,Nt h s i⟩,⟨it+158,cf i rem⟩,⟨acc+158,aa xs el⟩]++Fx
def AP (it:Nat) (W:Nat->Str) (tw:Nat->Nat) (x i rem:Nat) (b:Bool):List aq:=
 [gW 1 (it+158) i rem,bd 5 (bi W tw) i,bd 5 (bi W tw) x,dm (W i) (W x) b]
def E1 (it acc:Nat) (W:Nat->Str) (tw tOn:Nat->Nat) (x i rem y:Nat) (xs:List Value) (el:Nat):List aq:=
 [gW 1 (it+158) i rem,bd 5 (bi W tw) i,bd 5 (bi W tw) x,dm (W i) (W x) true,bB "int.__xor__" (x:Nat) (i:Nat) (y:Nat),bd 7 (no tOn) y,c8 2 (acc+158) xs el (λU=>no tOn y)]
section
variable (w:World) (n wc cd it acc wa oa x tx:Nat) (W:Nat->Str) (tw tOn:Nat->Nat) (s:Nat×Nat) (i rem y:Nat) (xs:List Value) (el:Nat) (n' t g:Nat)
theorem Nu (ρ):∀w,ay (vL w 400 500 (AP it W tw x 0 rem false)) 100 (ew w n (wc+158) (cd+158) (it+158) (acc+158)) .top (aM (ew w n (wc+158) (cd+158) (it+158) (acc+158))) 0x40400ca5294a528ca4008a5294a5280a4280a0004a1
  (i4 (aB w nX) cd it acc (gn n wc wa oa x tx W tw tOn) s 0 (rem+1) xs el) n' t g [ρ] [0,1,2,3,4,5,6,7]
  (.again (ew w n (wc+158) (cd+158) (it+158) (acc+158)))
  ((i4 (aB w nX) cd it acc (gn n wc wa oa x tx W tw tOn) (ρ.t,ρ.x) 1 rem xs el).map some) []:=aT
theorem Nv (ρ):∀w,ay (vL w 400 500 (AP it W tw x (i+1) rem false)) 100 (ew w n (wc+158) (cd+158) (it+158) (acc+158)) .top (aM (ew w n (wc+158) (cd+158) (it+158) (acc+158))) 0x40400ca5294a528ca4008a5294a5280a4280a0004a1
  (i4 (aB w nX) cd it acc (gn n wc wa oa x tx W tw tOn) s (i+1) (rem+1) xs el) n' t g [ρ] [0,1,2,3,4,5,6,7]
  (.again (ew w n (wc+158) (cd+158) (it+158) (acc+158)))
  ((i4 (aB w nX) cd it acc (gn n wc wa oa x tx W tw tOn) (s.1,ρ.x) (i+2) rem xs el).map some) []:=aT
theorem Nw (ρ ρ2):∀w,ay (vL w 400 500 (E1 it acc W tw tOn x 0 rem y xs el)) 100 (ew w n (wc+158) (cd+158) (it+158) (acc+158)) .top (aM (ew w n (wc+158) (cd+158) (it+158) (acc+158))) 0x101c0629ca729c05280a32980400ca5294a528ca4008a5294a5280a4280a0004a1
  (i4 (aB w nX) cd it acc (gn n wc wa oa x tx W tw tOn) s 0 (rem+1) xs el) n' t g [ρ,ρ2] [0,1,2,3,4,5,6,7]
  (.again (ew w n (wc+158) (cd+158) (it+158) (acc+158)))
  ((i4 (aB w nX) cd it acc (gn n wc wa oa x tx W tw tOn) (ρ.t,ρ.x) 1 rem (xs.concat (no tOn y)) (el+1)).map some) []:=aT
theorem Nx (ρ ρ2):∀w,ay (vL w 400 500 (E1 it acc W tw tOn x (i+1) rem y xs el)) 100 (ew w n (wc+158) (cd+158) (it+158) (acc+158)) .top (aM (ew w n (wc+158) (cd+158) (it+158) (acc+158))) 0x101c0629ca729c05280a32980400ca5294a528ca4008a5294a5280a4280a0004a1
  (i4 (aB w nX) cd it acc (gn n wc wa oa x tx W tw tOn) s (i+1) (rem+1) xs el) n' t g [ρ,ρ2] [0,1,2,3,4,5,6,7]
  (.again (ew w n (wc+158) (cd+158) (it+158) (acc+158)))
  ((i4 (aB w nX) cd it acc (gn n wc wa oa x tx W tw tOn) (s.1,ρ.x) (i+2) rem (xs.concat (no tOn y)) (el+1)).map some) []:=aT
theorem LR (ρ):∀w,ay (vL w 400 500 [gY 1 (it+158) 8]) 100 (ew w n (wc+158) (cd+158) (it+158) (acc+158)) .top (aM (ew w n (wc+158) (cd+158) (it+158) (acc+158))) 177210529
  (i4 (aB w nX) cd it acc (gn n wc wa oa x tx W tw tOn) s 8 0 xs el) n' t g [ρ] [0,1,2,3,4,5,6,7]
  (.ret (.ok .next)) ((i4 (aB w nX) cd it acc (gn n wc wa oa x tx W tw tOn) s 8 0 xs el).map some) []:=aT
theorem Ny:ay (vL w 400 500 []) 20 (kU w n (wc+158) (cd+158) (it+158) (acc+158)) .top (aM (kU w n (wc+158) (cd+158) (it+158) (acc+158))) 1185
  (i4 (aB w nX) cd it acc (gn n wc wa oa x tx W tw tOn) s 0 8 [] 0) n' t g [] [0,1,2,3,4,5,6,7]
  (.again (ew w n (wc+158) (cd+158) (it+158) (acc+158))) ((i4 (aB w nX) cd it acc (gn n wc wa oa x tx W tw tOn) s 0 8 [] 0).map some) []:=by kernel_rfl
end
theorem E3 (w n wc cd it acc):bq (ew w n wc cd it acc):=ba rfl
theorem Da (w n wc cd it acc):bq (kU w n wc cd it acc):=ba rfl
def jJ (b:Nat->Bool) (x i:Nat):Bool:=b i != b x
def lL (tOn:Nat->Nat) (b:Nat->Bool) (x:Nat):List (Int×Nat):=((List.range 8).filter (jJ b x)).map λi=>((u7 (x^^^i):Nat),tOn (x^^^i)+1)
def ox (tOn:Nat->Nat) (b:Nat->Bool) (x i:Nat):Option (Nat->Value):=match jJ b x i with
 |true=>some λU=>no tOn (x^^^i)
 |false=>none
theorem HV:∀{w:World} {n wc cd it acc wa oa x tx:Nat} {b:Nat->Bool} {tw tOn:Nat->Nat} (hx:x<8) (F:aj (i4 (aB w nX) cd it acc (gn n wc wa oa x tx (λi=>wS (b i)) tw tOn) (0,0) 0 8 [] 0)),CX w 400 (kU w n (wc+158) (cd+158) (it+158) (acc+158)) (i4 (aB w nX) cd it acc (gn n wc wa oa x tx (λi=>wS (b i)) tw tOn) (0,0) 0 8 [] 0)
   (λr l'=>r=.ok .next/\∃s,l'=i4 (aB w nX) cd it acc (gn n wc wa oa x tx (λi=>wS (b i)) tw tOn) s 8 0 (am (lL tOn b x)) (lL tOn b x).length):=by
 ext w n wc cd it acc wa oa x tx:0;ext b tw tOn:0;intro hx F;refine CX.run4 (d:=400) (hs:=[]) aE (bg _) F (Da _ _ _ _ _ _) 0 20 _ [0,1,2,3,4,5,6,7] (λU U U U=>.again (ew w n (wc+158) (cd+158) (it+158) (acc+158))) (λU U U U=>i4 (aB w nX) cd it acc (gn n wc wa oa x tx (λi=>wS (b i)) tw tOn) (0,0) 0 8 [] 0)
  (λn2 t2 J U=>Ny w n wc cd it acc wa oa x tx _ tw tOn _ n2 t2 J) λU U U U U U=>⟨aX rfl,?_⟩
 refine CX.mono (C5 (σ:=Nat×Nat) (E:=λs i xs el=>i4 (aB w nX) cd it acc (gn n wc wa oa x tx (λi=>wS (b i)) tw tOn) s i (8 - i) xs el) (E':=λs xs el=>i4 (aB w nX) cd it acc (gn n wc wa oa x tx (λi=>wS (b i)) tw tOn) s 8 0 xs el)
  (N:=8) (out:=ox tOn b x) (by decide) (E3 _ _ _ _ _ _) (aX rfl) (A:=aC (i4 (aB w nX) cd it acc (gn n wc wa oa x tx (λi=>wS (b i)) tw tOn) (0,0) 0 8 [] 0)) (λU U U U=>rfl) F (λi hi s xs el OG=>?_) λs xs el=>⟨[gY 1 (it+158) 8],1,100,_,_,fq jT,λn2 t2 J r=>LR n wc cd it acc wa oa x tx _ tw tOn s xs el n2 t2 J (r 0) w⟩) λr l' ⟨hr,s,ps,OE,hl⟩=>⟨hr,s,?_⟩
 .ext i s xs el ⟨hi,OG⟩;have hne:∀v,jJ b x i=v->((wS (b i)).cps.toList != (wS (b x)).cps.toList)=v:=λv h=>by
   unfold jJ at h;rw[<-h];cases b i<;>cases b x<;>decide
  have h1:ai w 500 (bd 5 (bi (λi=>wS (b i)) tw) i):=bK hi;have h2:ai w 500 (bd 5 (bi (λi=>wS (b i)) tw) x):=bK hx;unfold ox;cases hb:jJ b x i with
  |false=>
   have hh:∀f∈AP it (λi=>wS (b i)) tw x i (7 - i) false,ai w 500 f:=nH gZ h1 h2 (f6 (hne _ hb));cases i with
   |zero=>exact⟨_,1,100,_,_,λU U U r U=>((r 0).t,(r 0).x),λU U U U U=>0,hh,λn2 t2 J r=>Nu n wc cd it acc wa oa x tx _ tw tOn s 7 xs el n2 t2 J (r 0) w⟩
   |succ i=>exact⟨_,1,100,_,_,λU U U r U=>(s.1,(r 0).x),λU U U U U=>0,hh,λn2 t2 J r=>by
     have e1:8 - (i+1)=7 - (i+1)+1:=MK hi;have e2:8 - (i+1+1)=7 - (i+1):=ke e1;have z:=Nv n wc cd it acc wa oa x tx (λi=>wS (b i)) tw tOn s i (7 - (i+1)) xs el n2 t2 J (r 0) w;rw[<-e1] at z;dsimp only;rw[e2];exact z⟩
  |true=>
   have hh:∀f∈E1 it acc (λi=>wS (b i)) tw tOn x i (7 - i) (x^^^i) xs el,ai w 500 f:=
    ah (P:=λf=>ai w 500 f) gZ (ah h1 (ah h2 (ah (f6 (hne _ hb)) (ah (nU (by
     have h:∀x:Nat,x<8->∀i:Nat,i<8->Builtin.bitXor (x:Int) (i:Int)=((x^^^i:Nat):Int):=by decide+kernel
     exact h x hx i hi)) (ah (bK (Eg x hx i hi)) (ah (eK (bC OG (by decide))) aE))))))
   cases i with
   |zero=>exact⟨_,2,100,_,_,λU U U r U=>((r 0).t,(r 0).x),λU U U U U=>0,hh,λn2 t2 J r=>Nw n wc cd it acc wa oa x tx _ tw tOn s 7 (x^^^0) xs el n2 t2 J (r 0) (r 1) w⟩
   |succ i=>exact⟨_,2,100,_,_,λU U U r U=>(s.1,(r 0).x),λU U U U U=>0,hh,λn2 t2 J r=>by
     have e1:8 - (i+1)=7 - (i+1)+1:=by lia
     have e2:8 - (i+1+1)=7 - (i+1):=ke e1;have z:=Nx n wc cd it acc wa oa x tx (λi=>wS (b i)) tw tOn s i (7 - (i+1)) (x^^^(i+1)) xs el n2 t2 J (r 0) (r 1) w;rw[<-e1] at z;dsimp only;rw[e2];exact z⟩
 .have hf:(List.range 8).filter (λi=>(ox tOn b x i).isSome)=(List.range 8).filter (jJ b x):=by
   congr 1;funext i;unfold ox;cases jJ b x i<;>rfl
  rw[hf] at OE;have hv:ps.map (cx (ox tOn b x))=am (lL tOn b x):=by
   rw[sn (g:=λi=>no tOn (x^^^i)) (λi f h t=>?_) OE λi hi=>?_]
   .unfold lL am;rw[List.map_map];rfl
   .ext i f t ⟨h⟩;unfold ox at h;cases hb:jJ b x i with
    |true=>rw[hb] at h;cases h;rfl
    |false=>rw[hb] at h;cases h
   .unfold ox;rw[(List.mem_filter.mp hi).2];rfl
  have OF:ps.length=(lL tOn b x).length:=by
   have:=congrArg List.length OE;unfold lL;simpa using this
  rw[hl,hv,OF]
def AQ (n wc cd it acc wa oa x tx OE OF J OG kw kl ko kq:Nat) (W:Nat->Str) (tw tOn:Nat->Nat):List (Nat×Nat×Obj):=
 [(OE,cd+158,cn 0),(OF,it+158,cf 0 8),(J,acc+158,aa [] 0),(OG,wc+158,af (some (.int (x:Nat) (tx+1)))),(kw,n+164,af (some (.ref (wa+158)))),(kl,wa+158,aa (ap (bi W tw)) 8),(ko,n+165,af (some (.ref (oa+158)))),(kq,oa+158,aa (ap (no tOn)) 0)]
def lM (c:Code) (i:Nat):Nat:=match c with
 |.compStart _ _ (.ref it) (.ref acc) J=>[it,acc,J.locals].getD i 0 - 158
 |_=>0
def Kg (w:World) (n wa oa x OF OG OE J kw kl ko kq:Nat) (b:Nat->Bool) (tw tOn:Nat->Nat):aq:=λc lk=>some ⟨AQ n (dP lk J - 158) (lM c 2) (lM c 0) (lM c 1) wa oa x (bQ (dQ lk J) 0) OF OG OE J kw kl ko kq (λi=>wS (b i)) tw tOn,
 [(c,kU w n (dP lk J - 158+158) (lM c 2+158) (lM c 0+158) (lM c 1+158))],
 .gen λρ=>⟨.ok .next,[(OF,lM c 2+158,fL nX (aB w nX) ρ.y (.int 7 (ρ.z+1))),(OG,lM c 0+158,cf 8 0),(OE,lM c 1+158,aa (am (lL tOn b x)) (lL tOn b x).length)],[]⟩⟩
def MG (o:Obj):Nat:=match o.data with
 |.dict _ _=>0
 |.fields _=>1
 |.seq xs _=>match xs.toList with
  |[]=>2
  |.str _ _::_=>3
  |_=>4
 |.cell (some (.ref a))=>a+10
 |_=>6
theorem CX.tags {w d c l} {post:Result->List ad->Prop} (hi:∀e∈l,158<=e.a) (hd:(l.map λe=>MG e.o).Nodup) (h:aj l->CX w d c l post):CX w d c l post:=
 CX.apart (λe J=>.inl (hi e J)) ((mT.mp hd).imp λh q=>bh (congrArg MG q) h) h
theorem HW:∀{w n wa oa x OF OG OE J kw kl ko kq b tw tOn} (hx:x<8) (OI:wa≠oa),ai w 400 (Kg w n wa oa x OF OG OE J kw kl ko kq b tw tOn):=by
 ext w n wa oa x OF OG OE J kw:0;ext kl ko kq b tw tOn:0;intro hx OI;refine bj λc lk A s hA hT hq=>?_;ext c lk A s ⟨hA,hT,hq⟩;have H:aQ s ((AQ n (dP lk J - 158) (lM c 2) (lM c 0) (lM c 1) wa oa x (bQ (dQ lk J) 0) OF OG OE J kw kl ko kq (λi=>wS (b i)) tw tOn).map qE):=λe he=>by
  obtain⟨q,OH,rfl⟩:=cT.mp he;exact hq q OH
 generalize dP lk J - 158=wc at H|-;generalize bQ (dQ lk J) 0=tx at H|-;generalize lM c 2=cd at H|-;generalize lM c 0=it at H|-;generalize lM c 1=acc at H|-;have S0:CX w 400 (kU w n (wc+158) (cd+158) (it+158) (acc+158)) ((AQ n wc cd it acc wa oa x tx OF OG OE J kw kl ko kq (λi=>wS (b i)) tw tOn).map qE)
   (λr l'=>r=.ok .next/\∃s,l'=i4 (aB w nX) cd it acc (gn n wc wa oa x tx (λi=>wS (b i)) tw tOn) s 8 0 (am (lL tOn b x)) (lL tOn b x).length):=by
  have h:∀{a k},158<=k->158<=a+k:=λhk=>bC hk (bN _ _);refine CX.tags (ah (h (by decide)) (ah (h (by decide)) (ah (h (by decide)) (ah (h (by decide)) (ah (h (by decide)) (ah (h (by decide)) (ah (h (by decide)) (ah (h (by decide)) aE)))))))) ?_ λF=>HV (tx:=tx) hx F;show [0,1,2,6,wa+158+10,3,oa+158+10,4].Nodup;simp only[List.nodup_cons,aY,bS,bT,not_false_eq_true,List.nodup_nil,and_true];lia
 refine bf.of_code (eG (S0 A s hA hT H) ?_);rintro r s' ⟨l',⟨hr,σ,hl⟩,D⟩;subst hl hr;refine⟨_,rfl,bH.hstep D H (x:=0) (y:=σ.1) (z:=σ.2) (ah (gx (i:=0) rfl) (ah (gx (i:=1) rfl) (ah (gx (i:=2) rfl) aE))) (λU h=>(nomatch h)) .nil ?_⟩;exact ah (.inl ⟨_,.head _,rfl⟩) (ah (.inl ⟨_,cy,rfl⟩) (ah (.inl ⟨_,gr,rfl⟩) (ah (.inr (gx (i:=3) rfl)) (ah (.inr (gx (i:=4) rfl)) (ah (.inr (gx (i:=5) rfl)) (ah (.inr (gx (i:=6) rfl)) (ah (.inr (gx (i:=7) rfl)) aE)))))))
def oy:Nat->List Nat->Nat
 |a,[]=>a
 |a,b::r=>oy (min a b) r
theorem yV:∀l a,oy a l<=a/\∀x∈l,oy a l<=x
 |[],a=>⟨bg _,λU h=>(nomatch h)⟩
 |b::r,a=>by
  obtain⟨J,h2⟩:=yV r (min a b);refine⟨bC J (Nat.min_le_left _ _),λx hx=>?_⟩;rcases aY.mp hx with rfl|hx
  .exact bC J (Nat.min_le_right _ _)
  .exact h2 x hx
theorem xm:∀l a,oy a l=a\/oy a l∈l
 |[],a=>.inl rfl
 |b::r,a=>by
  rcases xm r (min a b) with h|h
  .dsimp only[oy];rw[h];by_cases J:a<=b
   .left;exact Nat.min_eq_left J
   .right;rw[Nat.min_eq_right (MI J)];exact .head _
  .right;exact .tail _ h
def cw (b:Nat->Bool) (x:Nat):Nat:=oy 4 (((List.range 8).filter (jJ b x)).map λi=>u7 (x^^^i))
theorem HX:∀{tOn b x t q} (h1:q∈((4:Int),t)::lL tOn b x) (J:∀p∈((4:Int),t)::lL tOn b x,q.1<=p.1),q.1=((cw b x:Nat):Int):=by
 ext tOn b x t q:0;intro h1 J;obtain⟨m1,m2⟩:=yV (((List.range 8).filter (jJ b x)).map λi=>u7 (x^^^i)) 4;have OF:((cw b x:Nat):Int)<=q.1:=by
  rcases aY.mp h1 with rfl|h
  .show((cw b x:Nat):Int)<=4;unfold cw;lia
  .obtain⟨i,hi,rfl⟩:=cT.mp h;have:=m2 _ (jv (f:=λi=>u7 (x^^^i)) hi);show((cw b x:Nat):Int)<=((u7 (x^^^i):Nat):Int);unfold cw;lia
 have OE:q.1<=((cw b x:Nat):Int):=by
  rcases xm (((List.range 8).filter (jJ b x)).map λi=>u7 (x^^^i)) 4 with h|h
  .have:=J _ aJ;show q.1<=((oy 4 _:Nat):Int);rw[h];exact this
  .obtain⟨i,hi,he⟩:=cT.mp h;have:=J (((u7 (x^^^i):Nat):Int),tOn (x^^^i)+1) (.tail _ (cT.mpr ⟨i,hi,rfl⟩));show q.1<=((oy 4 _:Nat):Int);rw[<-he];exact this
 lia
def Gn (n n':Nat) (tOn:Nat->Nat):List ad:=[⟨n+165,af (some (.ref (n'+158)))⟩,⟨n'+158,aa (ap (no tOn)) 0⟩]
theorem LS (n n' t g):∀w,bP (vL w 310 400 []) 60 default .base (a9 (((a4 w).drop 7).take 1) (br w n)) 164000 [⟨n+165,af none⟩] n' t g [] [0,1]
  (.fin (.done .next)) (λo=>(Gn n n' (λi=>bQ (o 1) i)).map some) []:=aT
def Kh (n wa oa:Nat) (W:Nat->Str) (tw tOn:Nat->Nat):List ad:=[⟨n+166,af none⟩,⟨n+165,af (some (.ref (oa+158)))⟩,⟨oa+158,aa (ap (no tOn)) 0⟩,⟨n+164,af (some (.ref (wa+158)))⟩,⟨wa+158,aa (ap (bi W tw)) 8⟩]
def AR (w:World) (n wa oa:Nat) (b:Nat->Bool) (tw tOn:Nat->Nat):List aq:=(List.range 8).flatMap λx=>[Kg w n wa oa x (14+6*x) (12+6*x) (13+6*x) 9 3 4 1 2 b tw tOn,C6 (10+6*x) (13+6*x) 4 (lL tOn b x),Gk (15+6*x) 4 (lL tOn b x) ((cw b x:Nat):Int)]
def Go (J:Nat->Nat) (tSt:Nat->Nat) (x:Nat):Value:=.int (J x:Nat) (tSt x+1)
def Gp:Nat:=0xa6298a629800298a6000a6294a5294a5000a5294a529400294a50000000003+((rp 0xa6298a629800298a729ca729c0000c022a8ad2a8ae2b8ae004ac2acab2acab000ab2acab2ac002acab0000000003000032a4a9298a6298a6 0xc0301806018060180600c06018060180600006018060180001806000000000000000000000000000000 450 8)+167936219<<<3600)<<<250
theorem LT (n wa oa b tw tOn n' t g r):∀w,ay (vL w 310 400 (AR w n wa oa b tw tOn)) 1000 default .base (a9 (((a4 w).drop 8).take 1) (br w n)) Gp (Kh n wa oa (λi=>wS (b i)) tw tOn) n' t g (bO r 0 24) [0,7,3,4]
  (.fin (.done .next)) (([⟨n+166,af (some (.ref (n'+2+158)))⟩,⟨n'+2+158,aa (ap (Go (cw b) λx=>(r (3*x+2)).x)) 8⟩,⟨n+164,af (some (.ref (wa+158)))⟩,⟨wa+158,aa (ap (bi (λi=>wS (b i)) tw)) 8⟩]:List ad).map some) []:=aT
theorem E4:∀{w n wa oa b tw tOn} (J:wa≠oa),∀f∈AR w n wa oa b tw tOn,ai w 400 f:=by
 ext w n wa oa b tw tOn:0;intro J
 delta AR
 intro f hf;obtain⟨x,hx,hf⟩:=iQ.mp hf;refine ah (P:=λf=>ai w 400 f) (HW (eM.mp hx) J) (ah (C7 ?_) (ah (EU (λp hp=>?_) λt q h1 h2=>HX h1 h2) aE)) f hf
 .unfold lL;rw[lQ];have:=List.length_filter_le (jJ b x) (List.range 8);rw[List.length_range] at this;exact au this
 .obtain⟨i,hi,rfl⟩:=cT.mp hp;exact iT _
theorem E5:∀{w:World} {n wa:Nat} {W:Nat->Str} {b:Nat->Bool} {tw:Nat->Nat} {R:List ad} {b7 b8:List Stmt} (h7:b7=((a4 w).drop 7).take 1) (h8:b8=((a4 w).drop 8).take 1) (hW:∀i,W i=wS (b i))
  (F:aj ([⟨n+165,af none⟩,⟨n+166,af none⟩,⟨n+164,af (some (.ref (wa+158)))⟩,⟨wa+158,aa (ap (bi W tw)) 8⟩]++R)),WX w 302 (execs (b7++b8) (br w n)) ([⟨n+165,af none⟩,⟨n+166,af none⟩,⟨n+164,af (some (.ref (wa+158)))⟩,⟨wa+158,aa (ap (bi W tw)) 8⟩]++R)
   (λf L'=>f=.next/\aj L'/\∃sa tSt,L'=[⟨n+166,af (some (.ref (sa+158)))⟩,⟨sa+158,aa (ap (Go (cw b) tSt)) 8⟩,⟨n+164,af (some (.ref (wa+158)))⟩,⟨wa+158,aa (ap (bi W tw)) 8⟩]++R):=by
 ext w n wa W b tw R b7 b8:0;intro h7 h8 hW F;obtain rfl:W=λi=>wS (b i):=funext hW;refine WX.app ?_;refine WX.mono (post:=λf L'=>f=.next/\aj L'/\∃oa tOn,L'=[⟨n+165,af (some (.ref (oa+158)))⟩,⟨oa+158,aa (ap (no tOn)) 0⟩]++([⟨n+166,af none⟩,⟨n+164,af (some (.ref (wa+158)))⟩,⟨wa+158,aa (ap (bi (λi=>wS (b i)) tw)) 8⟩]++R)) ?_ ?_
 .refine WX.pk [0] rfl rfl F λF1=>?_;refine WX.stmP (l:=[⟨n+165,af none⟩]) (hs:=[]) (D₀:=310) (dh:=400) (by decide) (by decide) (by decide) F1 aE 0 60 _ [0,1] rfl (λU U U U=>.next) (λn' U U U o=>Gn n n' (λi=>bQ (o 1) i))
   (λn' t g U=>by subst h7;exact LS n n' t g w) λn' t g r o J=>⟨rfl,J,n',_,rfl⟩
 .rintro f L' ⟨hf,J,oa,tOn,hL⟩;subst hL;have OE:wa≠oa:=λe=>by
   have h:=J.parts (A:=[⟨n+165,af (some (.ref (oa+158)))⟩,⟨oa+158,aa (ap (no tOn)) 0⟩]) (e:=⟨oa+158,aa (ap (no tOn)) 0⟩) (f:=⟨wa+158,aa (ap (bi (λi=>wS (b i)) tw)) 8⟩) (by simp) (by simp);exact h (by rw[e])
  refine⟨hf,WX.pk [2,0,1,3,4] rfl rfl J λF3=>?_⟩;refine WX.stmP (l:=Kh n wa oa (λi=>wS (b i)) tw tOn) (hs:=AR w n wa oa b tw tOn) (D₀:=310) (dh:=400) (by decide) (by decide) (by decide) F3 (E4 OE) 24 1000 Gp [0,7,3,4] rfl (λU U U U=>.next)
   (λn' U U r U=>[⟨n+166,af (some (.ref (n'+2+158)))⟩,⟨n'+2+158,aa (ap (Go (cw b) λx=>(r (3*x+2)).x)) 8⟩,⟨n+164,af (some (.ref (wa+158)))⟩,⟨wa+158,aa (ap (bi (λi=>wS (b i)) tw)) 8⟩])
   (λn' t g r=>?_) λn' t g r o F4=>⟨rfl,F4,n'+2,_,rfl⟩
  have z:=LT n wa oa b tw tOn n' t g r w;subst h8;exact z
def mQ:Nat->Str
 |0=>⟨#[10]⟩
 |1=>⟨#[13]⟩
 |_=>⟨#[13,10]⟩
def AS (C:Nat->Int) (J:Int) (qk:Nat->Int) (m:Nat) (e:Nat->Nat) (E W Rw:Nat->Str):List aq:=
 ((List.range 8).flatMap λk=>[bB "int.__mod__" (C 2) 8 (m:Nat),bB "int.__xor__" (m:Nat) (k:Nat) ((m^^^k:Nat))])++
 (((List.range 8).flatMap λk=>[bB "int.__floordiv__" (C 2) 8 J,bB "int.__floordiv__" J (3^k) (qk k),bB "int.__mod__" (qk k) 3 (e k:Nat),c6 (17+k) [mQ 0,mQ 1,mQ 2] (e k) (E k)])++
 (List.range 8).map λi=>a6 ⟨#[46]⟩ (W i) (Rw i))
def xV (m:Nat) (tX:Nat->Nat) (k:Nat):Value:=.int (m^^^k:Nat) (tX k+1)
def E6 (n sc wa a ep:Nat) (K:Nat->Int×Nat) (v:Nat->Value) (C:Nat->Int) (tC:Nat->Nat) (W:Nat->Str) (tw:Nat->Nat):List ad:=[⟨n+158,bF 1 ep K sc v⟩,⟨n+167,af none⟩,⟨n+168,af none⟩,⟨n+159,af (some (.ref (a+158)))⟩,⟨a+158,jk C tC⟩,⟨n+164,af (some (.ref (wa+158)))⟩,⟨wa+158,aa (ap (bi W tw)) 8⟩]
def AU (n sc wa ep:Nat) (K:Nat->Int×Nat) (v:Nat->Value) (m:Nat) (E W Rw:Nat->Str) (tw tX tE tR:Nat->Nat) (xa ea J:Nat):List ad:=
 [⟨n+158,bF 2 ep K sc (aD v 2 (.ref (ea+158)))⟩,⟨n+167,af (some (.ref (xa+158)))⟩,⟨xa+158,aa (ap (xV m tX)) 8⟩,⟨ea+158,aa (ap (bi E tE)) 8⟩,⟨n+168,af (some (.ref (J+158)))⟩,⟨J+158,aa (ap (bi Rw tR)) 8⟩,⟨n+164,af (some (.ref (wa+158)))⟩,⟨wa+158,aa (ap (bi W tw)) 8⟩]
def Gq:Nat:=0xa82a0a82a0002a0a8000a829ca729ca7000a729ca729c0029ca70000000003+((rp 0xa82a0a82a0002a0a92a4a92a400008aa004a429000290a4290a32a8aa2a0a82a0a8 0x80000800000000000000000000000000000000 270 8)+0xae2b8ae2b8002b8ae000ae2b4ad2b4ad000ad2b4ad2b4002b4ad0000000003284a12a8aa2a8ac<<<2160)<<<250+((rp 0x2b8ae2b8ae000ae2bcaf2bcaf00000050b12c4b104c12000b0044a429000290a4290a32c0b02b8ae2b8ae 0x100100401010040000001000000000000000000000000000000000 340 8)+(0x2ecbb298bb2ecbb000bb2ec002eca6000a6298a52c0b02c0a0280ba+((rp 0xbb2eca62ecbb2ec002ecbc2f0bc2f0000c4bd2f4bd 1073741824 170 8)+0x288a22f4bd2f4bf<<<1360)<<<220)<<<2720)<<<2720
theorem LU (n sc wa a ep K v C tC W tw q8 qk m e E Rw n' t g r):∀w,bP (vL w 310 400 (AS C q8 qk m e E W Rw)) 1500 default .base (a9 (((a4 w).drop 9).take 3) (br w n)) Gq (E6 n sc wa a ep K v C tC W tw) n' t g (bO r 0 16) [0,1,9,15,2,28,5,6]
  (.fin (.done .next)) (λo=>(AU n sc wa (bD (o 0)) (KO (o 0)) v m E W Rw tw (λi=>bQ (o 9) i) (λk=>(r k).x) (λk=>(r (8+k)).x) (n'+2) (n'+8) ((r 7).n+3)).map some) []:=aT
theorem E7:∀{w:World} {C:Nat->Int} {m:Nat} {e:Nat->Nat} {W:Nat->Str} {wl:Nat->List Nat} (hm:(C 2).fmod 8=(m:Int)) (OE:m<8) (he:∀k<8,(((C 2).fdiv 8).fdiv (3^k)).fmod 3=(e k:Int)) (J:∀k,e k<3) (hW:∀i<8,W i=ae (wl i)) (OF:∀i<8,0<(wl i).length/\(wl i).length<=100),∀f∈AS C ((C 2).fdiv 8) (λk=>((C 2).fdiv 8).fdiv (3^k)) m e (λk=>mQ (e k)) W (λi=>ae (46::wl i)),ai w 400 f:=by
 ext w C m e W wl:0;intro hm OE he J hW OF
 delta AS;dsimp only
 intro f hf;rcases dk.mp hf with hf|hf
 .obtain⟨k,hk,hf⟩:=iQ.mp hf;have hk:=eM.mp hk;refine ah (P:=λf=>ai w 400 f) (fC (by decide) hm) (ah (nU ?_) aE) f hf;have h:∀x:Nat,x<8->∀i:Nat,i<8->Builtin.bitXor (x:Int) (i:Int)=((x^^^i:Nat):Int):=by decide+kernel
  exact h m OE k hk
 .rcases dk.mp hf with hf|hf
  .obtain⟨k,hk,hf⟩:=iQ.mp hf;have hk:=eM.mp hk;have hp:∀k:Nat,k<8->(3^k:Int)≠0/\(3^k:Int).natAbs<2^20:=by decide+kernel
   have OG:(2:Nat)^20<=2^1000:=Nat.pow_le_pow_right (by decide) (by decide);refine ah (P:=λf=>ai w 400 f) (iC (by decide) (by decide) rfl) (ah (iC (hp k hk).1 (Nat.lt_of_lt_of_le (hp k hk).2 OG) rfl) (ah (fC (by decide) (he k hk)) (ah (jQ ?_ ?_) aE))) f hf
   .have h3:e k=0\/e k=1\/e k=2:=by have:=J k;exact iF (J k)
    rcases h3 with h|h|h<;>rw[h]<;>rfl
   .have:=J k;exact au this
  .obtain⟨i,hi,rfl⟩:=cT.mp hf;have hi:=eM.mp hi;rw[hW i hi];have h2:=OF i hi;have hb:(101:Nat)<=sizeLine:=by decide
   exact fy (lw [46] (wl i)).symm (λh=>by rw[show(⟨#[46]⟩:Str)=ae [46] from rfl,bz] at h;trivial) (λh=>by rw[bz] at h;lia) (by rw[bz,fu];exact(au (ax h2.2 hb)))
theorem HY:∀{w:World} {n sc wa a ep:Nat} {K:Nat->Int×Nat} {v:Nat->Value} {C:Nat->Int} {tC:Nat->Nat} {W:Nat->Str} {tw:Nat->Nat} {R:List ad} {wl:Nat->List Nat} {b:List Stmt} (hb:b=((a4 w).drop 9).take 3) (hW:∀i<8,W i=ae (wl i)) (OF:∀i<8,0<(wl i).length/\(wl i).length<=100)
  (F:aj (E6 n sc wa a ep K v C tC W tw++R)),WX w 302 (execs b (br w n)) (E6 n sc wa a ep K v C tC W tw++R)
   (λf L'=>f=.next/\aj L'/\∃(ep:Nat) (K:Nat->Int×Nat) (m:Nat) (e tX tE tR:Nat->Nat) (xa ea ra:Nat),m<8/\(∀k,e k<3)/\L'=AU n sc wa ep K v m (λk=>mQ (e k)) W (λi=>ae (46::wl i)) tw tX tE tR xa ea ra++R):=by
 ext w n sc wa a ep K v C tC:0;ext W tw R wl b:0;intro hb hW OF F;obtain⟨m,OE,hm⟩:∃m:Nat,m<8/\(C 2).fmod 8=(m:Int):=by
  exact⟨((C 2).fmod 8).toNat,y5 rfl rfl,(y6 rfl rfl).symm⟩
 obtain⟨e,J,he⟩:∃e:Nat->Nat,(∀k,e k<3)/\∀k<8,(((C 2).fdiv 8).fdiv (3^k)).fmod 3=(e k:Int):=by
  exact⟨λk=>((((C 2).fdiv 8).fdiv (3^k)).fmod 3).toNat,λk=>y5 rfl rfl,λk U=>(y6 rfl rfl).symm⟩
 refine WX.stmP (hs:=AS C ((C 2).fdiv 8) (λk=>((C 2).fdiv 8).fdiv (3^k)) m e (λk=>mQ (e k)) W (λi=>ae (46::wl i))) (D₀:=310) (dh:=400) (by decide) (by decide) (by decide) F (E7 hm OE he J hW OF) 16 1500 Gq [0,1,9,15,2,28,5,6] rfl (λU U U U=>.next)
  (λn' U U r o=>AU n sc wa (bD (o 0)) (KO (o 0)) v m (λk=>mQ (e k)) W (λi=>ae (46::wl i)) tw (λi=>bQ (o 9) i) (λk=>(r k).x) (λk=>(r (8+k)).x) (n'+2) (n'+8) ((r 7).n+3))
  (λn' t g r=>?_) λn' t g r o F2=>⟨rfl,F2,_,_,m,e,_,_,_,_,_,_,OE,J,rfl⟩
 have z:=LU n sc wa a ep K v C tC W tw ((C 2).fdiv 8) (λk=>((C 2).fdiv 8).fdiv (3^k)) m e (λk=>mQ (e k)) (λi=>ae (46::wl i)) n' t g r w;subst hb;exact z
theorem yc {v:V} {w:World} (K:lZ v w) {A:Around} (hA:aL v.d₀ A) {l:List ad} {n t g:Nat} {s:Shared} (S:St v.kt l n t g s) {x:Value} {Q:Option Value->Shared->Prop} {E:Value->Shared->Prop}
  (nh OF orc:Nat) (ix:List Nat) (o:List HR->Value) (OE:List HR->List (Option ad)) (ng:List HR->List (Nat×Code))
  (OH:∀rs,rs.length=nh->ay v OF default .base (d8 x) orc l n t g rs ix (.fin (.done (.ret (o rs)))) (OE rs) (ng rs))
  (OG:∀rs J,rs.length=nh->bu v.kt s J (l.map (·.a)) (OE rs) (ng rs)->(ix.Nodup->jO (OE rs))->Q (some (o rs)) J):wpAny (model v.prog w) A (pyNext x) Q E s:=by
 have h:wpAny (model v.prog w) A (d8 x) (λf J=>match f with|.done .next=>Q none J|.done (.ret v)=>Q (some v) J|_=>False) (λU U=>False) s:=by
  refine iW (B:=λt s=>wpAny (model v.prog w) A t (λf J=>match f with|.done .next=>Q none J|.done (.ret v)=>Q (some v) J|_=>False) (λU U=>False) s) K hA S (c:=default) (tr:=d8 x)
   (λm k s h=>ao h) nh OF orc ix (λrs=>.fin (.done (.ret (o rs)))) OE ng OH λrs J h D P=>?_
  exact aH (OG rs J h D P)
 unfold d8 at h;rw[<-R.bindR_eq,<-Fast.te9404975358583537561] at h;intro Γ p OI;have h1:=h Γ p OI;rw[Sem.wp_bind] at h1;refine Sem.wp_mono _ Γ _ (λr p' J q=>?_) (λU U U x=>x.elim) p s h1;cases r<;>exact q
section
variable {w:World} {d D₀ dh:Nat} {hs:List aq} (hD:D₀+5<1000) (hh:dh<=950) (hd:d<=D₀) {l R:List ad} (F:aj (l++R)) (H:∀f∈hs,ai w dh f)
include hD hh hd F H
theorem WX.nxtP {it:Value} {post:Option Value->List ad->Prop} (nh OE orc:Nat) (ix:List Nat) (hx:eD ix=true) (o:Nat->Nat->Nat->List HR->Value) (l':Nat->Nat->Nat->List HR->List ad)
  (OG:∀n t g rs,rs.length=nh->ay (vL w D₀ dh hs) OE default .base (d8 it) orc l n t g rs ix (.fin (.done (.ret (o n t g rs)))) ((l' n t g rs).map some) [])
  (hn:∀n t g rs,rs.length=nh->aj (l' n t g rs++R)->post (some (o n t g rs)) (l' n t g rs++R)):WX w d (pyNext it) (l++R) post:=by
 have Fl:=F.left;refine WX.fr F (l:=l) (post:=λx l2=>∃n t g rs,rs.length=nh/\x=some (o n t g rs)/\l2=l' n t g rs/\aj l2) (λe he=>.inl he) ?_ λx l2 J=>by obtain⟨n,t,g,rs,OF,e1,e2,hF⟩:=J;exact⟨l2,[],λe he=>by rwa[fT] at he,λe he=>.inl he,by rw[fT];exact hF,λF2=>by subst e1 e2;exact hn n t g rs OF F2⟩
 intro A s hA T Hs;obtain⟨n,t,g,S⟩:=T.st Hs Fl;refine yc (v:=vL w D₀ dh hs) (bE H hD hh) (hA.mono hd) S nh OE orc ix (λrs=>o n t g rs) (λrs=>(l' n t g rs).map some) (λU=>[]) (OG n t g) λrs s1 OF D P=>?_;have D1:bH w s s1 (aC l) (l' n t g rs):=D.aft T;refine⟨_,⟨n,t,g,rs,OF,rfl,rfl,⟨?_,λe he=>?_⟩⟩,D1⟩
 .have:=P (dZ hx);exact(mT.mp this).imp λh=>h _ _ rfl rfl
 .rcases D1.adr e he with q|q
  .obtain⟨f,hf,OH⟩:=cT.mp q;rw[<-OH];exact Fl.high f hf
  .left;have:=S.size;exact au (ax q (ii this))
end
def AV:Expr->Expr
 |.ListComp e _ _ _=>e
 |_=>default
def mx:Expr->Comprehension
 |.ListComp _ (g::_) _ _=>g
 |_=>default
def LV:Expr->Pos
 |.ListComp _ _ _ p=>p
 |_=>default
def MH (e:Expr):Expr:=.ListComp (AV e) [⟨(mx e).target,(mx e).iter,[],0⟩] (kL e) (LV e)
theorem CX.comp1':∀{w:World} {d:Nat} {OG J OE:Expr} {scope:Scope} {pos:Pos} {it acc:Value} {OF:Env} {l:List ad} {post:Result->List ad->Prop} (hc:bq (.compLoop (.ListComp OG [⟨J,OE,[],0⟩] scope pos) 0 it acc OF)) (hq:(Code.compLoop (.ListComp OG [⟨J,OE,[],0⟩] scope pos) 0 it acc OF).quiet=true)
  (h:WX w (d+5) (pyNext it) l λo l1=>match o with
   |none=>post (.ok .next) l1
   |some v=>WX w (d+5) (letOwnedTupleGo J it v) l1 λU l2=>WX w (d+5) (assign J OF v) l2 λU l3=>WX w (d+5) (eval OG OF) l3 λx l4=>
     CX w (d+5) (.call (.builtin "list.append") ⟨[acc,x],[]⟩) l4 λr l5=>r=.ok (.ret .none)/\CX w d (.compLoop (.ListComp OG [⟨J,OE,[],0⟩] scope pos) 0 it acc OF) l5 post),CX w d (.compLoop (.ListComp OG [⟨J,OE,[],0⟩] scope pos) 0 it acc OF) l post:=by
 ext w d OG J OE scope pos it acc OF l post:0;intro hc hq h;intro A s hA T Hs;ext A s ⟨hA,T,Hs⟩;have OH:=hA.under hc;refine l8 ?_;show wpAny _ _ ((compTurn (.ListComp OG [⟨J,OE,[],0⟩] scope pos) 0 it acc OF).onRaise (λx=>do noteFrame x OF;theTreesLotGoes x)) _ _ s
 suffices hh:wpAny (model pw w) (A.under (.compLoop (.ListComp OG [⟨J,OE,[],0⟩] scope pos) 0 it acc OF)) (compTurn (.ListComp OG [⟨J,OE,[],0⟩] scope pos) 0 it acc OF) (λOJ s'=>match OJ with
   |.done f=>∃l',post (.ok f) l'/\bH w s s' (aC l) l'
   |.again c'=>c'.quiet=true/\codeAny (model pw w) A c' (λr s'=>∃l',post r l'/\bH w s s' (aC l) l') s') (λU U=>False) s from
  wpAny_onRaise (dR hh (λOJ s' x=>by cases OJ<;>exact x) λU U x=>x.elim)
 rw[compTurn_list1];refine ao (wpAny_standAt ?_);refine ao (dR (h _ s OH T Hs) (λo s1 OK=>?_) λU U x=>x.elim);obtain⟨l1,hp,D1⟩:=OK;cases o with
 |none=>exact aH ⟨l1,hp,D1⟩
 |some v=>
  refine ao (dR (hp _ s1 OH D1.top D1.has) (λU s2 zo78=>?_) λU U x=>x.elim);obtain⟨l2,ON,D2⟩:=zo78;refine ao (dR (ON _ s2 OH D2.top D2.has) (λU s3 zo79=>?_) λU U x=>x.elim);obtain⟨l3,OO,D3⟩:=zo79;refine ao (ao (dR (OO _ s3 OH D3.top D3.has) (λx s4 OL=>?_) λU U x=>x.elim));obtain⟨l4,OP,D4⟩:=OL;refine ao (wpAny_call (eG (OP _ s4 OH D4.top D4.has) λr s5 OM=>?_));obtain⟨l5,⟨hr,OQ⟩,D5⟩:=OM;subst hr;exact aH (aH ⟨hq,eG (OQ A s5 hA D5.top D5.has) λr s' OI=>by obtain⟨l6,OR,D6⟩:=OI;exact⟨l6,OR,D1.trans (D2.trans (D3.trans (D4.trans (D5.trans D6))))⟩⟩)
theorem CX.comp1 {w:World} {d:Nat} {e e':Expr} {it acc:Value} {J:Env} {l:List ad} {post:Result->List ad->Prop} (he:e'=MH e) (hc:bq (.compLoop e' 0 it acc J)) (hq:(Code.compLoop e' 0 it acc J).quiet=true)
  (h:WX w (d+5) (pyNext it) l λo l1=>match o with
   |none=>post (.ok .next) l1
   |some v=>WX w (d+5) (letOwnedTupleGo (mx e).target it v) l1 λU l2=>WX w (d+5) (assign (mx e).target J v) l2 λU l3=>WX w (d+5) (eval (AV e) J) l3 λx l4=>
     CX w (d+5) (.call (.builtin "list.append") ⟨[acc,x],[]⟩) l4 λr l5=>r=.ok (.ret .none)/\CX w d (.compLoop e' 0 it acc J) l5 post):CX w d (.compLoop e' 0 it acc J) l post:=by
 subst he;exact CX.comp1' hc hq h
theorem yW {w:World} {s:Shared} {h':Heap} {a:Nat} {o':Obj} (T:aK w s) (ha:158<=a) (h1:h'.get? a=some o') (h2:Heap.SameBut a s.heap h'):bH w s {s with heap:=h'} (aC [⟨a,o'⟩]) [⟨a,o'⟩]:=
 have J:∀(b:Nat) o,s.heap.get? b=some o->b≠a->h'.get? b=some o:=λb o hb hn=>(h2.2 b hn).trans hb
 ⟨⟨λb o hb=>J b o (T.top b o hb) λe=>by have:=(oQ _ b o hb).1;exact(lf (ax ha (ax (ii e) this))),by show 158<=h'.objs.size;rw[h2.1];exact T.size,T.toks⟩,by show _<=h'.objs.size;rw[h2.1];exact bg _,bg _,rfl,rfl,λb o hb hn=>J b o hb λe=>hn (e▸ .head _),λU U h=>h,λe he=>.inl (fe he),λe he=>by
  obtain rfl:=cD.mp he;exact h1⟩
def oz (a J la:Nat):Obj:=dy "zip" [.int ((a+158:Nat):Int) 0,.bool false,.bool false,.ref (J+158),.ref (la+158)]
def ex (J la:Nat):Obj:=dy "zip" [.none,.bool false,.bool false,.ref (J+158),.ref (la+158)]
theorem Ki:∀{w:World} {d:Nat} {tg:Expr} (ht:vk tg=true) {zp a J la:Nat},WX w d (letOwnedTupleGo tg (.ref (zp+158)) (.ref (a+158))) [⟨zp+158,oz a J la⟩] (λU l'=>l'=[⟨zp+158,ex J la⟩]):=by
 ext w d tg:0;intro ht;ext zp a J la:0;intro A s hA T Hs;have he:s.heap.get? (zp+158)=some (oz a J la):=Hs _ aJ;cases tg with
 |Tuple OG x1 pos=>
  unfold letOwnedTupleGo;refine ao (wpAny_load he ?_);show wpAny _ A (if(["enumerate","zip","dict_itemiterator","dict_reverseitemiterator","odict_iterator","itertools.zip_longest","itertools.pairwise"].contains "zip" &&
    (#[.int ((a+158:Nat):Int) 0,.bool false,.bool false,.ref (J+158),.ref (la+158)]:Array Value)[0]? ==some (rawInt ((a+158:Nat):Int)))=true then _ else _) _ _ s
  rw[if_pos (by simp[rawInt])];refine ao (wpAny_rule ?_);show wpAny _ A (setField (.ref (zp+158)) 0 .none) _ _ s;exact wpAny_setField_rec he (by simp) λh' OE OF=>⟨_,rfl,yW T (bN _ _) OE OF⟩
 |_=>cases ht
theorem Kj:∀{w:World} {d acc el:Nat} {xs:List Value} {v:Value} (hl:xs.length<=sizeLine),CX w d (.call (.builtin "list.append") ⟨[.ref (acc+158),v],[]⟩) [⟨acc+158,aa xs el⟩] (λr l'=>r=.ok (.ret .none)/\l'=[⟨acc+158,aa (xs.concat v) (el+1)⟩]):=by
 ext w d acc el xs v:0;intro hl;intro A s hA T Hs;have J:s.heap.get? (acc+158)=some (aa xs el):=Hs _ aJ;refine codeAny_call_builtin slot_list_append.plain entry_list_append (slot_list_append.check _ _ _ _ _ _ _ _ (⟨_,J,rfl⟩:Shared.TypeIs _ (.ref (acc+158)) "list") (args_list_append _ _) ?_);show wpAny _ _ (updateSeq (acc+158) (·.push v)>>=λU=>ret .none) _ _ s;refine ao (wpAny_updateSeq (xs:=xs.toArray) (n:=el) J rfl (aH ?_) (hl) (by simp;assumption));exact⟨_,⟨rfl,rfl⟩,yW (o':=aa (xs.concat v) (el+1)) T (bN _ _) (by
  have:=Heap.get?_update_self (Obj.mapSeq (·.push v)) J rfl;rw[this];simp[aa,Obj.mapSeq]) (Heap.SameBut.update ..)⟩
def vy (w:World):Stmt:=bV (a4 w) 12
def dc (w:World):List Stmt:=ul (vy w)
def Nz:Expr->Expr
 |.Call _ (.BinOp (.BinOp (.Call _ (e::_) _ _) _ _ _) _ _ _::_) _ _=>e
 |_=>default
def qU (w:World):Expr:=Nz (Ad (bV (dc w) 3))
def qy (w:World) (n cd:Nat):Env:=sR w n (qU w) [] cd
def sU (w:World) (n cd it acc:Nat):Code:=.compLoop (qU w) 0 (.ref it) (.ref acc) (qy w n cd)
def kZ (w:World) (n cd it acc:Nat):Code:=.compStart (qU w) 0 (.ref it) (.ref acc) (qy w n cd)
theorem Db (w):qU w=MH (qU w):=by kernel_rfl
theorem HZ (w):vk (mx (qU w)).target=true:=by kernel_rfl
def AW:Str:=⟨#[108,105,110,101]⟩
def E8:Str:=⟨#[101,110,100]⟩
def E9 (ep:Nat) (K:Nat->Int×Nat) (J:List (Str×Value)):Obj:=⟨.type "dict",none,.dict (tL K 0 J).toArray ep,#[]⟩
structure ZD where
 zp:Nat
 its:Nat
 la:Nat
 i1:Nat
 i2:Nat
 ll:Nat
 ea:Nat
 cd:Nat
 acc:Nat
 L:Nat->Str
 tl:Nat->Nat
 E:Nat->Str
 tE:Nat->Nat
namespace ZD
variable (Z:ZD)
def last:Nat->List Value
 |0=>[.none,.none]
 |i+1=>[bi Z.L Z.tl i,bi Z.E Z.tE i]
def cdO (K:Nat->Int×Nat):Nat->Obj
 |0=>cn 0
 |i+1=>E9 2 K [(AW,bi Z.L Z.tl i),(E8,bi Z.E Z.tE i)]
def A (z:Obj) (i j:Nat):List ad:=[⟨Z.zp+158,z⟩,⟨Z.its+158,bt [.ref (Z.i1+158),.ref (Z.i2+158)]⟩,⟨Z.la+158,bt (Z.last j)⟩,⟨Z.i1+158,aZ (Z.ll+158) i⟩,⟨Z.i2+158,aZ (Z.ea+158) i⟩,⟨Z.ll+158,aa (ap (bi Z.L Z.tl)) 8⟩,⟨Z.ea+158,aa (ap (bi Z.E Z.tE)) 8⟩]
def B (K:Nat->Int×Nat) (i:Nat) (xs:List Value) (el:Nat):List ad:=[⟨Z.cd+158,Z.cdO K i⟩,⟨Z.acc+158,aa xs el⟩]
def hn (i:Nat):List aq:=[az 3 (Z.i1+158) 5 (Z.ll+158) (ap (bi Z.L Z.tl)) 8 i (bi Z.L Z.tl i),az 4 (Z.i2+158) 6 (Z.ea+158) (ap (bi Z.E Z.tE)) 8 i (bi Z.E Z.tE i)]
end ZD
section
variable (w:World) (Z:ZD) (n i:Nat) (K:Nat->Int×Nat) (n' t g:Nat)
theorem NA (ρ ρ2):∀w,ay (vL w 400 500 (Z.hn 0)) 100 default .base (d8 (.ref (Z.zp+158))) 0xa0280a0280a2288a2288a2008a4288a2288a2004a3280a0280a0284a0280a0000a0 (Z.A (ex Z.its Z.la) 0 0) n' t g [ρ,ρ2] [0,1,2,3,4,5,6,7]
  (.fin (.done (.ret (.ref (ρ2.n+158))))) ((Z.A (oz ρ2.n Z.its Z.la) 1 1++[⟨ρ2.n+158,bt (Z.last 1)⟩]:List ad).map some) []:=aT
theorem NB (ρ ρ2):∀w,ay (vL w 400 500 (Z.hn (i+1))) 100 default .base (d8 (.ref (Z.zp+158))) 0xa0280a0280a2288a2288a2008a4288a2288a2004a3280a0280a0284a0280a0000a0 (Z.A (ex Z.its Z.la) (i+1) (i+1)) n' t g [ρ,ρ2] [0,1,2,3,4,5,6,7]
  (.fin (.done (.ret (.ref (ρ2.n+158))))) ((Z.A (oz ρ2.n Z.its Z.la) (i+2) (i+2)++[⟨ρ2.n+158,bt (Z.last (i+2))⟩]:List ad).map some) []:=aT
theorem NC (ρ):∀w,ay (vL w 400 500 [dG 3 (Z.i1+158) 5 (Z.ll+158) (ap (bi Z.L Z.tl)) 8 8]) 100 default .base (d8 (.ref (Z.zp+158))) 0xa8280a0004a3280a0280a0284a0280a0000a0 (Z.A (ex Z.its Z.la) 8 8) n' t g [ρ] [5,6]
  (.fin (.done .next)) (([⟨Z.ll+158,aa (ap (bi Z.L Z.tl)) 8⟩,⟨Z.ea+158,aa (ap (bi Z.E Z.tE)) 8⟩]:List ad).map some) []:=aT
theorem ND (a:Nat):∀w,bP (vL w 400 500 []) 100 default .base (f9 (mx (qU w)).target (qy w n (Z.cd+158)) (.ref (a+158))) 0xa0280a0280a4288a2284a2288a2000a2288a2284a2288a2000a2288a2284a2288a2000a2288a1000a1284a1 [⟨Z.cd+158,Z.cdO K 0⟩,⟨a+158,bt (Z.last 1)⟩] n' t g [] [0]
  (.fin (.done .next)) (λo=>([⟨Z.cd+158,Z.cdO (KO (o 0)) 1⟩]:List ad).map some) []:=Mk
theorem NE (a:Nat):∀w,ay (vL w 400 500 []) 100 default .base (f9 (mx (qU w)).target (qy w n (Z.cd+158)) (.ref (a+158))) 0xa0280a0280a4288a2284a2288a2000a2288a2284a2288a2000a2288a2284a2288a2000a2288a1000a1284a1 [⟨Z.cd+158,Z.cdO K (i+1)⟩,⟨a+158,bt (Z.last (i+2))⟩] n' t g [] [0]
  (.fin (.done .next)) (([⟨Z.cd+158,Z.cdO K (i+2)⟩]:List ad).map some) []:=Mk
theorem Oz (y ρ):∀w,ay (vL w 400 500 [a6 (Z.L i) (Z.E i) y]) 100 default .base (fM (AV (qU w)) (qy w n (Z.cd+158))) 1212576 [⟨Z.cd+158,Z.cdO K (i+1)⟩] n' t g [ρ] [0]
  (.fin (.done (.ret (.str y (ρ.x+1))))) (([⟨Z.cd+158,Z.cdO K (i+1)⟩]:List ad).map some) []:=aT
theorem OA (acc):∀w,ay (vL w 400 500 []) 20 (kZ w n (Z.cd+158) (Z.zp+158) (acc+158)) .top (aM (kZ w n (Z.cd+158) (Z.zp+158) (acc+158))) 1184 [⟨Z.zp+158,ex Z.its Z.la⟩] n' t g [] [0]
  (.again (sU w n (Z.cd+158) (Z.zp+158) (acc+158))) (([⟨Z.zp+158,ex Z.its Z.la⟩]:List ad).map some) []:=aT
end
theorem xn (w n cd it acc):bq (sU w n cd it acc):=ba rfl
theorem Dc (w n cd it acc):bq (kZ w n cd it acc):=ba rfl
def jK (Y:Nat->Str) (tk:Nat->Nat) (i:Nat):List Value:=(List.range i).map (bi Y tk)
theorem Dd (Y:Nat->Str) (tk:Nat->Nat) (i x:Nat):(jK Y tk i).concat (.str (Y i) (x+1))=jK Y (λj=>if j=i then x else tk j) (i+1):=by
 unfold jK;rw[List.range_succ,k6,List.concat_eq_append];congr 1
 .refine qF λj hj=>?_;have:=eM.mp hj;have hne:¬j=i:=ld this;simp[bi,hne]
 .simp[bi]
set_option tactic.hygienic true in
theorem Fa:∀{w:World} {n:Nat} (Z:ZD) {Y:Nat->Str} (hY:∀i<8,ai w 500 (a6 (Z.L i) (Z.E i) (Y i))),∀k i,8 - i=k->i<=8->∀K tk,aj (Z.A (ex Z.its Z.la) i i++Z.B K i (jK Y tk i) i)->
  CX w 395 (sU w n (Z.cd+158) (Z.zp+158) (Z.acc+158)) (Z.A (ex Z.its Z.la) i i++Z.B K i (jK Y tk i) i)
   (λr l'=>r=.ok .next/\aj l'/\∃K tk,l'=[⟨Z.ll+158,aa (ap (bi Z.L Z.tl)) 8⟩,⟨Z.ea+158,aa (ap (bi Z.E Z.tE)) 8⟩]++Z.B K 8 (jK Y tk 8) 8):=by
 ext w n Z Y:0;intro hY;intro k;induction k with
 |zero=>
  intro i hk hi K tk F;ext i K tk ⟨hk,hi,F⟩;obtain rfl:i=8:=by lia
  refine CX.comp1 (Db _) (xn _ _ _ _ _) (aX rfl) ?_;refine WX.fr F (l:=Z.A (ex Z.its Z.la) 8 8) (λe J=>.inl J) (WX.nxt (hs:=[dG 3 (Z.i1+158) 5 (Z.ll+158) (ap (bi Z.L Z.tl)) 8 8]) (D₀:=400) (dh:=500) (by decide) (by decide) (by decide) F.left (fq (fF rfl))
   (post:=λo' l'=>o'=none/\l'=[⟨Z.ll+158,aa (ap (bi Z.L Z.tl)) 8⟩,⟨Z.ea+158,aa (ap (bi Z.E Z.tE)) 8⟩]) 1 100 _ [5,6] none (λU U U U=>[⟨Z.ll+158,aa (ap (bi Z.L Z.tl)) 8⟩,⟨Z.ea+158,aa (ap (bi Z.E Z.tE)) 8⟩]) (λn' t g rs OE=>by
    obtain⟨ρ,rfl⟩:=gR OE;exact NC Z n' t g ρ w) λU U U U U=>⟨rfl,rfl⟩) λo' l' ⟨h1,h2⟩=>⟨[⟨Z.ll+158,aa (ap (bi Z.L Z.tl)) 8⟩,⟨Z.ea+158,aa (ap (bi Z.E Z.tE)) 8⟩],[],λe J=>by rw[h2];rwa[fT] at J,λe J=>.inl J,F.left.sub (.cons _ (.cons _ (.cons _ (.cons _ (.cons _ (.refl _)))))),λF4=>?_⟩
  subst h1;exact⟨rfl,F4,K,tk,rfl⟩
 |succ k ih=>
  ext k ⟨ih⟩;intro i hk hi K tk F;ext i K tk ⟨hk,hi,F⟩;have OF:i<8:=i7 hk;refine CX.comp1 (Db _) (xn _ _ _ _ _) (aX rfl) ?_;have hn:∀f∈Z.hn i,ai w 500 f:=uh (c5 (fz _ OF)) (c5 (fz _ OF));have nx:∃orc,∀n' t g rs,rs.length=2->ay (vL w 400 500 (Z.hn i)) 100 default .base (d8 (.ref (Z.zp+158))) orc (Z.A (ex Z.its Z.la) i i) n' t g rs [0,1,2,3,4,5,6,7]
    (.fin (.done (.ret (.ref ((rs.getD 1 h0).n+158))))) ((Z.A (oz (rs.getD 1 h0).n Z.its Z.la) (i+1) (i+1)++[⟨(rs.getD 1 h0).n+158,bt (Z.last (i+1))⟩]:List ad).map some) []:=by
   cases i with
   |zero=>exact⟨_,λn' t g rs OE=>by obtain⟨ρ,OH,rfl⟩:=iJ OE;exact NA Z n' t g ρ OH w⟩
   |succ i=>exact⟨_,λn' t g rs OE=>by obtain⟨ρ,OH,rfl⟩:=iJ OE;exact NB Z i n' t g ρ OH w⟩
  obtain⟨orc,nx⟩:=nx;refine WX.nxtP (hs:=Z.hn i) (D₀:=400) (dh:=500) (by decide) (by decide) (by decide) F hn 2 100 orc [0,1,2,3,4,5,6,7] rfl (λU U U rs=>.ref ((rs.getD 1 h0).n+158))
   (λU U U rs=>Z.A (oz (rs.getD 1 h0).n Z.its Z.la) (i+1) (i+1)++[⟨(rs.getD 1 h0).n+158,bt (Z.last (i+1))⟩]) nx λn' t g rs OE F1=>?_
  ext rs ⟨OE,F1⟩;generalize(rs.getD 1 h0).n=a at F1|-;show WX _ _ _ _ _;refine WX.pk [0] rfl rfl F1 λOI=>?_;refine WX.fr OI (l:=[⟨Z.zp+158,oz a Z.its Z.la⟩]) (λe J=>.inl J) (Ki (HZ _)) λU l' hl=>⟨[⟨Z.zp+158,ex Z.its Z.la⟩],[],λe J=>by rw[hl];exact J,λe J=>.inl J,d6 (bN _ _),λF2=>?_⟩;have as:WX w 400 (assign (mx (qU w)).target (qy w n (Z.cd+158)) (.ref (a+158))) [⟨Z.cd+158,Z.cdO K i⟩,⟨a+158,bt (Z.last (i+1))⟩] (λU l'=>∃K',l'=[⟨Z.cd+158,Z.cdO K' (i+1)⟩]):=by
   have Fl:aj [⟨Z.cd+158,Z.cdO K i⟩,⟨a+158,bt (Z.last (i+1))⟩]:=F2.at (ix:=[8,7]) (dZ rfl) (fG rfl);cases i with
   |zero=>exact WX.asg (hs:=[]) (D₀:=400) (dh:=500) (by decide) (by decide) (by decide) Fl aE 0 100 _ [0] (λn' t g rs=>(λo=>[⟨Z.cd+158,Z.cdO (KO (o 0)) 1⟩]) (bl _ _ _ _ _ _ _ n' t g rs).obj) (λn' t g rs OE=>by obtain rfl:=dI.mp OE;exact ND Z n K n' t g a w) λU U U U U=>⟨_,rfl⟩
   |succ i=>exact WX.asg (hs:=[]) (D₀:=400) (dh:=500) (by decide) (by decide) (by decide) Fl aE 0 100 _ [0] (λn' t g rs=>[⟨Z.cd+158,Z.cdO K (i+2)⟩]) (λn' t g rs OE=>by obtain rfl:=dI.mp OE;exact NE Z n i K n' t g a w) λU U U U U=>⟨_,rfl⟩
  refine WX.pk [8,7] rfl rfl F2 λF3=>?_;refine WX.fr F3 (l:=[⟨Z.cd+158,Z.cdO K i⟩,⟨a+158,bt (Z.last (i+1))⟩]) (λe J=>.inl J) as λU l' zo63=>?_;obtain⟨K',hl⟩:=zo63;refine⟨[⟨Z.cd+158,Z.cdO K' (i+1)⟩],[],λe J=>by rw[hl];exact J,λe J=>.inl J,d6 (bN _ _),λF4=>?_⟩;rename_i OG;ext l' K' ⟨OG,hl,F4⟩;refine WX.fr F4 (l:=[⟨Z.cd+158,Z.cdO K' (i+1)⟩]) (λe J=>.inl J) (WX.exp (hs:=[a6 (Z.L i) (Z.E i) (Y i)]) (D₀:=400) (dh:=500) (by decide) (by decide) (by decide) F4.left (fq (hY i OF))
   (post:=λx l'=>∃tx,x=.str (Y i) (tx+1)/\l'=[⟨Z.cd+158,Z.cdO K' (i+1)⟩]) 1 100 _ [0] (λU U U rs=>.str (Y i) ((rs.getD 0 h0).x+1)) (λU U U U=>[⟨Z.cd+158,Z.cdO K' (i+1)⟩]) (λn' t g rs OE=>by
    obtain⟨ρ,rfl⟩:=gR OE;exact Oz Z n i K' n' t g (Y i) ρ w) λU U U rs U=>⟨_,rfl,rfl⟩) λx l' ⟨tx,hx,hl⟩=>⟨[⟨Z.cd+158,Z.cdO K' (i+1)⟩],[],λe J=>by rw[hl];exact J,λe J=>.inl J,d6 (bN _ _),λF5=>?_⟩
  subst hx;refine CX.pk [8] rfl rfl F5 λF6=>?_;refine CX.fr F6 (l:=[⟨Z.acc+158,aa (jK Y tk i) i⟩]) (λe J=>.inl J) (Kj (by
   have h:(8:Nat)<=sizeLine:=by decide
   unfold jK;rw[lQ,List.length_range];exact(au (ax OF h)))) λr l' ⟨hr,hl⟩=>⟨[⟨Z.acc+158,aa (jK Y (λj=>if j=i then tx else tk j) (i+1)) (i+1)⟩],[],λe J=>by rw[hl,Dd];exact J,λe J=>.inl J,d6 (bN _ _),λF7=>⟨hr,?_⟩⟩
  refine CX.pk [2,3,4,5,6,7,8,1,0] rfl rfl F7 λF8=>?_;exact ih (i+1) (ke hk) (by assumption) K' _ F8
def fp (q:Bool) (k:Nat):Nat:=match q with
 |true=>k
 |false=>6
def NF:Expr->Expr
 |.Tuple (e::_) _ _=>e
 |_=>default
def Kk (w:World):Expr:=NF (Ad (bV (dc w) 2))
def Gr (w:World) (n cd:Nat):Env:=sR w n (Kk w) [(z7,n+168),(gU,n+170)] cd
def ef (w:World) (n cd it acc:Nat):Code:=.compLoop (Kk w) 0 (.ref it) (.ref acc) (Gr w n cd)
def jL (w:World) (n cd it acc:Nat):Code:=.compStart (Kk w) 0 (.ref it) (.ref acc) (Gr w n cd)
def NG (D:KD) (n kn:Nat) (pk:List (Int×Nat)) (ek:Nat):List ad:=[D.lW,⟨n+170,af (some (.ref (kn+158)))⟩,⟨kn+158,aa (am pk) ek⟩,⟨n+168,af (some (.ref (D.aR+158)))⟩,D.lR]
def fI (w:World) (D:KD) (n cd it acc kn:Nat) (pk:List (Int×Nat)) (ek:Nat):nV:=
 {code:=ef w n (cd+158) (it+158) (acc+158),cd,it,acc,nm:=jh,h:=aB w jh,vs:=D.fW,itO:=aZ (D.aW+158),itE:=en 8,Fx:=NG D n kn pk ek}
def Fb (D:KD) (it acc i:Nat) (pk:List (Int×Nat)) (xs:List Value) (el:Nat):List aq:=
 [az 1 (it+158) 3 (D.aW+158) (ap D.fW) D.eW i (D.fW i),sk 5 pk (D.X i:Int) false,bd 7 D.fR (D.X i),c8 2 (acc+158) xs el (λU=>D.fR (D.X i))]
def AY (D:KD) (it acc i:Nat) (pk:List (Int×Nat)) (y:Str) (xs:List Value) (el:Nat):List aq:=
 [az 1 (it+158) 3 (D.aW+158) (ap D.fW) D.eW i (D.fW i),sk 5 pk (D.X i:Int) true,bd 7 D.fR (D.X i),a6 ⟨#[33]⟩ (D.R (D.X i)) y,c8 2 (acc+158) xs el (λt=>.str y t)]
section
variable (w:World) (D:KD) (n cd it acc kn:Nat) (pk:List (Int×Nat)) (ek i:Nat) (xs:List Value) (el z:Nat) (n' t g:Nat)
theorem NH (ρ ρ2):∀w,ay (vL w 400 500 (Fb D it acc 0 pk xs el)) 100 (ef w n (cd+158) (it+158) (acc+158)) .top (aM (ef w n (cd+158) (it+158) (acc+158))) 0x4040000329ca729ca029802294a5290a0280a0004a1
  ((fI w D n cd it acc kn pk ek).E z 0 (aZ (D.aW+158) 0) xs el) n' t g [ρ,ρ2] [0,1,2,3,4,5,6,7]
  (.again (ef w n (cd+158) (it+158) (acc+158)))
  (((fI w D n cd it acc kn pk ek).E ρ.t 1 (aZ (D.aW+158) 1) (xs.concat (.str (D.R (D.X 0)) (D.tR (D.X 0)+1))) (el+1)).map some) []:=aT
theorem NI (ρ ρ2):∀w,ay (vL w 400 500 (Fb D it acc (i+1) pk xs el)) 100 (ef w n (cd+158) (it+158) (acc+158)) .top (aM (ef w n (cd+158) (it+158) (acc+158))) 0x4040000329ca729ca029802294a5290a0280a0004a1
  ((fI w D n cd it acc kn pk ek).E z (i+1) (aZ (D.aW+158) (i+1)) xs el) n' t g [ρ,ρ2] [0,1,2,3,4,5,6,7]
  (.again (ef w n (cd+158) (it+158) (acc+158)))
  (((fI w D n cd it acc kn pk ek).E z (i+2) (aZ (D.aW+158) (i+2)) (xs.concat (.str (D.R (D.X (i+1))) (D.tR (D.X (i+1))+1))) (el+1)).map some) []:=aT
theorem NJ (y ρ ρ2 ρ3):∀w,ay (vL w 400 500 (AY D it acc 0 pk y xs el)) 100 (ef w n (cd+158) (it+158) (acc+158)) .top (aM (ef w n (cd+158) (it+158) (acc+158))) 0x4050100329ca729ca029802294a5290a0280a0004a1
  ((fI w D n cd it acc kn pk ek).E z 0 (aZ (D.aW+158) 0) xs el) n' t g [ρ,ρ2,ρ3] [0,1,2,3,4,5,6,7]
  (.again (ef w n (cd+158) (it+158) (acc+158)))
  (((fI w D n cd it acc kn pk ek).E ρ.t 1 (aZ (D.aW+158) 1) (xs.concat (.str y (ρ2.x+1))) (el+1)).map some) []:=aT
theorem NK (y ρ ρ2 ρ3):∀w,ay (vL w 400 500 (AY D it acc (i+1) pk y xs el)) 100 (ef w n (cd+158) (it+158) (acc+158)) .top (aM (ef w n (cd+158) (it+158) (acc+158))) 0x4050100329ca729ca029802294a5290a0280a0004a1
  ((fI w D n cd it acc kn pk ek).E z (i+1) (aZ (D.aW+158) (i+1)) xs el) n' t g [ρ,ρ2,ρ3] [0,1,2,3,4,5,6,7]
  (.again (ef w n (cd+158) (it+158) (acc+158)))
  (((fI w D n cd it acc kn pk ek).E z (i+2) (aZ (D.aW+158) (i+2)) (xs.concat (.str y (ρ2.x+1))) (el+1)).map some) []:=aT
theorem LW (ρ):∀w,ay (vL w 400 500 [dG 1 (it+158) 3 (D.aW+158) (ap D.fW) D.eW 8]) 100 (ef w n (cd+158) (it+158) (acc+158)) .top (aM (ef w n (cd+158) (it+158) (acc+158))) 177210529
  ((fI w D n cd it acc kn pk ek).E z 8 (aZ (D.aW+158) 8) xs el) n' t g [ρ] [0,1,2,3,4,5,6,7]
  (.ret (.ok .next)) (((fI w D n cd it acc kn pk ek).E z 8 (en 8) xs el).map some) []:=aT
theorem NL:ay (vL w 400 500 []) 20 (jL w n (cd+158) (it+158) (acc+158)) .top (aM (jL w n (cd+158) (it+158) (acc+158))) 1185
  ((fI w D n cd it acc kn pk ek).E 0 0 (aZ (D.aW+158) 0) [] 0) n' t g [] [0,1,2,3,4,5,6,7]
  (.again (ef w n (cd+158) (it+158) (acc+158))) (((fI w D n cd it acc kn pk ek).E 0 0 (aZ (D.aW+158) 0) [] 0).map some) []:=by kernel_rfl
end
def kh (D:KD) (n sc ep:Nat) (K:Nat->Int×Nat) (v:Nat->Value) (q:Bool) (T tT:Nat):List ad:=[⟨n+158,bF (fp q 2) ep K sc v⟩,⟨n+169,af (some (.int (T:Int) (tT+1)))⟩,⟨n+167,af (some (.ref (D.aW+158)))⟩,⟨n+168,af (some (.ref (D.aR+158)))⟩,⟨n+166,af (some (.ref (D.aSt+158)))⟩,⟨n+164,af (some (.ref (D.aWd+158)))⟩]
def AZ:Nat:=0x3ff244a5290a3280a228403
section
variable (w:World) (D:KD) (n sc ep:Nat) (K:Nat->Int×Nat) (v:Nat->Value) (q:Bool) (T tT:Nat) (n' t g:Nat)
theorem LX:bP (vL w 310 400 []) 60 default .base (a9 ((dc w).take 1) (br w n)) AZ (kh D n sc ep K (aD v 1 (.ref (D.aSO+158))) q T tT) n' t g [] [0,1,2,3,4,5]
  (.call false default (CH D T tT) false) (λU=>(kh D n sc ep K (aD v 1 (.ref (D.aSO+158))) q T tT).map some) []:=by revert w q;exact d9
theorem OB (o:Option Value) (kn n2 t2 J:Nat):ay (vL w 310 400 []) 60 default .base ((bl (vL w 310 400 []) 60 default .base (a9 ((dc w).take 1) (br w n)) AZ (kh D n sc ep K (aD v 1 (.ref (D.aSO+158))) q T tT) n' t g []).kont (.ok (.ret (.ref (kn+158))))) 164000 [⟨n+170,af o⟩] n2 t2 J [] [0]
  (.fin (.done .next)) (([⟨n+170,af (some (.ref (kn+158)))⟩]:List ad).map some) []:=by revert w q;exact d9
end
def Ba:Nat:=0xffca328800288a2284a0
section
variable (w:World) (D:KD) (n sc ep:Nat) (K:Nat->Int×Nat) (v:Nat->Value) (q:Bool) (kn n' t g:Nat)
theorem LY:∀w,bP (vL w 310 400 []) 60 default .base (a9 (((dc w).drop 1).take 2) (br w n)) Ba [⟨n+170,af (some (.ref (kn+158)))⟩,⟨n+167,af (some (.ref (D.aW+158)))⟩,D.lW] n' t g [] [5,3,4,2,0,1]
  (.call false default (jL w n (n'+2+158) (n'+158) (n'+1+158)) true) (λU=>([⟨n'+2+158,cn 0⟩,⟨n'+158,aZ (D.aW+158) 0⟩,⟨n'+1+158,aa [] 0⟩,D.lW,⟨n+170,af (some (.ref (kn+158)))⟩,⟨n+167,af (some (.ref (D.aW+158)))⟩]:List ad).map some) []:=aT
def d5 (T:Nat):List Nat:=match T with
 |1=>[97]
 |_=>[]
def De:Nat:=0x284a1284a1298a4290a3290a429000290a4290a3290a429000290a4290a3290a429000290a428c0028ca328c0000000288a0280a0
theorem OC (T:Nat) (hT:T=0\/T=1\/T=2) (z:Nat) (x:Value) (tT n2 t2 J:Nat):bP (vL w 310 400 []) 100 default .base ((bl (vL w 310 400 []) 60 default .base (a9 (((dc w).drop 1).take 2) (br w n)) Ba [⟨n+170,af (some (.ref (kn+158)))⟩,⟨n+167,af (some (.ref (D.aW+158)))⟩,D.lW] n' t g []).kont (.ok .next)) De
  [⟨n'+2+158,fL jh (aB w jh) z x⟩,⟨n+158,bF (fp q 2) ep K sc v⟩,⟨n+169,af (some (.int (T:Nat) (tT+1)))⟩] n2 t2 J [] [1,2]
  (.fin (.done .next)) (λo=>([⟨n+158,bF (fp q 3) (bD (o 1)) (KO (o 1)) sc (aD (aD v 3 (.ref (n'+1+158))) 4 (.str (ae (d5 T)) (bQ (o 1) 4+1)))⟩,⟨n+169,af (some (.int (T:Nat) (tT+1)))⟩]:List ad).map some) []:=by revert w;rcases hT with rfl|rfl|rfl<;>cases q<;>exact aT
end
section
variable {w:World} {D:KD} {m T tT n sc ep:Nat} {K:Nat->Int×Nat} {v:Nat->Value} {q:Bool} {sS:Nat->Nat->List Nat} {rL:Nat->List Nat} {TB R:List ad}
theorem LZ:∀{b} (hb:b=(dc w).take 1) (Q:KW D T m sS rL) (OE:T=0->∀j<8,0<D.St (D.X j)) (OI:jn T 0 TB) (hv:v 1=.ref (D.aSO+158)) {o}
  (F:aj (kh D n sc ep K v q T tT++([⟨n+170,af o⟩]++(dL D++(D.ins++(TB++R)))))),WX w 310 (execs b (br w n)) (kh D n sc ep K v q T tT++([⟨n+170,af o⟩]++(dL D++(D.ins++(TB++R)))))
   (λf L'=>f=.next/\aj L'/\∃kn ek J,dN J/\L'=[⟨n+170,af (some (.ref (kn+158)))⟩]++([⟨kn+158,aa (am (jo D T 3)) ek⟩]++(kh D n sc ep K v q T tT++(dL D++(D.ins++(J++R)))))):=by
 revert w D m T tT n sc ep K v q sS rL TB R;ext w D m T tT n sc ep K v:0;ext q sS rL TB R b:0;intro hb Q OE OI hv;ext o:0;intro F;subst hb;have OJ:aD v 1 (.ref (D.aSO+158))=v:=cP hv;refine SX.of_bx (w:=w) (d:=310) ?_;have hr:=LX w D n sc ep K v q T tT;have hk:=OB w D n sc ep K v q T tT;rw[OJ] at hr hk;refine BX.callP (hs:=[]) (D₀:=310) (dh:=400) (by decide) (by decide) (by decide) F aE 0 60 AZ [0,1,2,3,4,5] rfl default (λU U U U=>CH D T tT) false (λU U U U U=>kh D n sc ep K v q T tT)
  (λn' t g U=>hr n' t g) λn' t g r o' F2=>?_
 ext n' t g r;refine⟨λr L'=>aj L'/\∃kn ek J,r=.ok (.ret (.ref (kn+158)))/\dN J/\L'=[⟨kn+158,aa (am (jo D T 3)) ek⟩]++(dL D++(D.ins++(J++(kh D n sc ep K v q T tT++([⟨n+170,af o⟩]++R))))),?_,?_⟩
 .refine CX.as F2 (L2:=dL D++(D.ins++(TB++(kh D n sc ep K v q T tT++([⟨n+170,af o⟩]++R))))) ?_ λF3=>CX.depth (d:=349) (Ar (w:=w) (tT:=tT) (R:=kh D n sc ep K v q T tT++([⟨n+170,af o⟩]++R)) Q OE OI F3) (by decide);exact AT.perm [kh D n sc ep K v q T tT,[⟨n+170,af o⟩],dL D,D.ins,TB,R] (.r [0,1,2,3,4,5]) (.r [2,3,4,0,1,5]) rfl
 .rintro r l2 ⟨F5,kn,ek,J,OH,OF,OG⟩;ext r l2 kn ek J ⟨F5,OH,OF,OG⟩;subst OH OG;refine BX.as F5 (L2:=[⟨n+170,af o⟩]++([⟨kn+158,aa (am (jo D T 3)) ek⟩]++(kh D n sc ep K v q T tT++(dL D++(D.ins++(J++R)))))) ?_ λF6=>?_
  .exact AT.perm [[⟨kn+158,aa (am (jo D T 3)) ek⟩],dL D,D.ins,J,kh D n sc ep K v q T tT,[⟨n+170,af o⟩],R] (.r [0,1,2,3,4,5,6]) (.r [5,0,4,1,2,3,6]) rfl
  .refine BX.runP (l:=[⟨n+170,af o⟩]) (hs:=[]) (D₀:=310) (dh:=400) (by decide) (by decide) (by decide) F6 aE 0 60 _ [0] rfl (λU U U U=>.next) (λU U U U U=>[⟨n+170,af (some (.ref (kn+158)))⟩])
    (λn2 t2 g2 U=>hk n' t g o kn n2 t2 g2) λn2 t2 g2 r o' F7=>⟨rfl,F7,kn,ek,J,OF,rfl⟩
end
theorem Fc (w n cd it acc):bq (ef w n cd it acc):=ba rfl
theorem Df (w n cd it acc):bq (jL w n cd it acc):=ba rfl
def kF (b:Bool) (r:List Nat):List Nat:=match b with
 |true=>33::r
 |false=>r
def Dg (D:KD) (b:Nat->Bool) (rL:Nat->List Nat) (i t:Nat):Value:=match b i with
 |true=>.str (ae (33::rL (D.X i))) (t+1)
 |false=>.str (ae (rL (D.X i))) (D.tR (D.X i)+1)
theorem H0:∀{w:World} {D:KD} {n cd it acc kn:Nat} {pk:List (Int×Nat)} {ek:Nat} {rL:Nat->List Nat} {b:Nat->Bool} (hX:∀i<8,D.X i<8) (hR:∀x<8,D.R x=ae (rL x)) (OH:∀x<8,0<(rL x).length/\(rL x).length<=50) (hb:∀i<8,eg pk (D.X i:Int)=b i)
  (F:aj ((fI w D n cd it acc kn pk ek).E 0 0 (aZ (D.aW+158) 0) [] 0)),CX w 310 (jL w n (cd+158) (it+158) (acc+158)) ((fI w D n cd it acc kn pk ek).E 0 0 (aZ (D.aW+158) 0) [] 0)
   (λr l'=>r=.ok .next/\∃z tl,l'=(fI w D n cd it acc kn pk ek).E z 8 (en 8) (ap (bi (λi=>ae (kF (b i) (rL (D.X i)))) tl)) 8):=by
 ext w D n cd it acc kn pk ek rL:0;ext b:0;intro hX hR OH hb F;have OF:CX w 310 (jL w n (cd+158) (it+158) (acc+158)) ((fI w D n cd it acc kn pk ek).E 0 0 (aZ (D.aW+158) 0) [] 0)
   (λr l'=>r=.ok .next/\∃(z:Nat) (ps:List (Nat×Nat)),ps.map (·.1)=(List.range 8).filter (λi=>((λi=>some (Dg D b rL i):Nat->Option (Nat->Value)) i).isSome)/\l'=(fI w D n cd it acc kn pk ek).E z 8 (en 8) (ps.map (cx λi=>some (Dg D b rL i))) ps.length):=by
  refine(CX.run4 (d:=400) (hs:=[]) aE (bg _) F (Df _ _ _ _ _) 0 20 _ [0,1,2,3,4,5,6,7] (λU U U U=>.again (ef w n (cd+158) (it+158) (acc+158))) (λU U U U=>(fI w D n cd it acc kn pk ek).E 0 0 (aZ (D.aW+158) 0) [] 0)
   (λn2 t2 J U=>NL w D n cd it acc kn pk ek n2 t2 J) λU U U U U U=>⟨aX rfl,?_⟩).depth (by decide)
  refine rA (S:=fI w D n cd it acc kn pk ek) (by decide) (Fc _ _ _ _ _) (aX rfl) F (λi hi z xs el hx=>?_) λz xs el=>⟨[dG 1 (it+158) 3 (D.aW+158) (ap D.fW) D.eW 8],1,100,_,_,fq (fF (by rfl)),λn2 t2 J r=>LW D n cd it acc kn pk ek xs el z n2 t2 J (r 0) w⟩;ext i z xs el ⟨hi,hx⟩;have hxl:=bC hx (by decide:1000<=sizeLine);have h2:=OH _ (hX i hi);have OE:=hb i hi;dsimp only[Dg];cases hv:b i with
  |false=>
   rw[hv] at OE;have hh:∀f∈Fb D it acc i pk xs el,ai w 500 f:=nH (c5 (fz _ hi)) (pK OE) (bK (hX i hi)) (eK hxl);rw[<-hR _ (hX i hi)];cases i with
   |zero=>exact⟨_,2,100,_,_,λU U U r=>(r 0).t,λU U U U=>0,hh,λn2 t2 J r=>NH D n cd it acc kn pk ek xs el z n2 t2 J (r 0) (r 1) w⟩
   |succ i=>exact⟨_,2,100,_,_,λU U U U=>z,λU U U U=>0,hh,λn2 t2 J r=>NI D n cd it acc kn pk ek i xs el z n2 t2 J (r 0) (r 1) w⟩
  |true=>
   rw[hv] at OE;have OG:(51:Nat)<=sizeLine:=by decide
   have ha:ai w 500 (a6 ⟨#[33]⟩ (D.R (D.X i)) (ae (33::rL (D.X i)))):=by
    rw[hR _ (hX i hi)];exact fy (lw [33] (rL (D.X i))).symm (λh=>by rw[show(⟨#[33]⟩:Str)=ae [33] from rfl,bz] at h;trivial) (λh=>by rw[bz] at h;lia) (by rw[bz,fu];exact(au (ax h2.2 OG)))
   have hh:∀f∈AY D it acc i pk (ae (33::rL (D.X i))) xs el,ai w 500 f:=ua (c5 (fz _ hi)) (pK OE) (bK (hX i hi)) ha (eK hxl);cases i with
   |zero=>exact⟨_,3,100,_,_,λU U U r=>(r 0).t,λU U U r=>(r 1).x,hh,λn2 t2 J r=>NJ D n cd it acc kn pk ek xs el z n2 t2 J _ (r 0) (r 1) (r 2) w⟩
   |succ i=>exact⟨_,3,100,_,_,λU U U U=>z,λU U U r=>(r 1).x,hh,λn2 t2 J r=>NK D n cd it acc kn pk ek i xs el z n2 t2 J _ (r 0) (r 1) (r 2) w⟩
 refine OF.mono λr l' OI=>?_;obtain⟨hr,z,ps,OJ,hl⟩:=OI;obtain⟨h8,tl,OK⟩:=Gl (f:=Dg D b rL) (λi hi=>rfl) OJ;rw[h8,OK] at hl;refine⟨hr,z,λi=>match b i with|true=>tl i|false=>D.tR (D.X i),?_⟩;rw[hl];congr 2;funext i;unfold Dg bi kF;dsimp only;cases b i<;>rfl
def Kl (D:KD) (n sc ep:Nat) (K:Nat->Int×Nat) (v:Nat->Value) (q:Bool) (T tT kn:Nat) (pk:List (Int×Nat)) (ek:Nat):List ad:=
 [⟨n+170,af (some (.ref (kn+158)))⟩,⟨n+167,af (some (.ref (D.aW+158)))⟩,D.lW,⟨kn+158,aa (am pk) ek⟩,⟨n+168,af (some (.ref (D.aR+158)))⟩,D.lR,⟨n+158,bF (fp q 2) ep K sc v⟩,⟨n+169,af (some (.int (T:Int) (tT+1)))⟩]
theorem L4:∀{w:World} {D:KD} {T tT n sc ep kn ek:Nat} {K:Nat->Int×Nat} {v:Nat->Value} {q:Bool} {pk:List (Int×Nat)} {rL:Nat->List Nat} {kb:Nat->Bool} {R:List ad} {b:List Stmt} (hb:b=((dc w).drop 1).take 2) (hT:T<3)
  (hX:∀i<8,D.X i<8) (hR:∀x<8,D.R x=ae (rL x)) (OE:∀x<8,0<(rL x).length/\(rL x).length<=50) (hk:∀i<8,eg pk (D.X i:Int)=kb i)
  (F:aj (Kl D n sc ep K v q T tT kn pk ek++R)),WX w 310 (execs b (br w n)) (Kl D n sc ep K v q T tT kn pk ek++R)
   (λf L'=>f=.next/\aj L'/\∃ep K ll tl tr,L'=[⟨n+158,bF (fp q 3) ep K sc (aD (aD v 3 (.ref (ll+158))) 4 (.str (ae (d5 T)) (tr+1)))⟩,⟨ll+158,aa (ap (bi (λi=>ae (kF (kb i) (rL (D.X i)))) tl)) 8⟩,⟨n+170,af (some (.ref (kn+158)))⟩,⟨n+167,af (some (.ref (D.aW+158)))⟩,D.lW,⟨n+168,af (some (.ref (D.aR+158)))⟩,D.lR,⟨n+169,af (some (.int (T:Int) (tT+1)))⟩]++R):=by
 ext w D T tT n sc ep kn ek K:0;ext v q pk rL kb R b:0;intro hb hT hX hR OE hk F;subst hb;refine WX.sel (post:=λf L'=>f=.next/\aj L'/\∃it ep K ll tl tr,L'=[⟨n+158,bF (fp q 3) ep K sc (aD (aD v 3 (.ref (ll+158))) 4 (.str (ae (d5 T)) (tr+1)))⟩,⟨n+169,af (some (.int (T:Int) (tT+1)))⟩,⟨it+158,en 8⟩,⟨ll+158,aa (ap (bi (λi=>ae (kF (kb i) (rL (D.X i)))) tl)) 8⟩,D.lW,⟨n+170,af (some (.ref (kn+158)))⟩,⟨kn+158,aa (am pk) ek⟩,⟨n+168,af (some (.ref (D.aR+158)))⟩,D.lR,⟨n+167,af (some (.ref (D.aW+158)))⟩]++R) ?_ ?_
 .refine SX.of_bx (w:=w) (d:=310) ?_;refine BX.pk [0,1,2] rfl rfl F λF1=>?_;refine BX.callP (l:=[⟨n+170,af (some (.ref (kn+158)))⟩,⟨n+167,af (some (.ref (D.aW+158)))⟩,D.lW]) (hs:=[]) (D₀:=310) (dh:=400) (by decide) (by decide) (by decide) F1 aE 0 60 Ba [5,3,4,2,0,1] rfl default (λn' U U U=>jL w n (n'+2+158) (n'+158) (n'+1+158)) true
   (λn' U U U U=>[⟨n'+2+158,cn 0⟩,⟨n'+158,aZ (D.aW+158) 0⟩,⟨n'+1+158,aa [] 0⟩,D.lW,⟨n+170,af (some (.ref (kn+158)))⟩,⟨n+167,af (some (.ref (D.aW+158)))⟩])
   (λn' t g U=>LY D n kn n' t g w) λn' t g r o F2=>?_
  ext n' t g r ⟨F2⟩;refine⟨λr L'=>r=.ok .next/\aj L'/\∃z tl,L'=(fI w D n (n'+2) n' (n'+1) kn pk ek).E z 8 (en 8) (ap (bi (λi=>ae (kF (kb i) (rL (D.X i)))) tl)) 8++([⟨n+167,af (some (.ref (D.aW+158)))⟩,⟨n+158,bF (fp q 2) ep K sc v⟩,⟨n+169,af (some (.int (T:Int) (tT+1)))⟩]++R),?_,?_⟩
  .refine CX.pk [0,1,2,3,4,6,7,8] rfl rfl F2 λF3=>?_;refine CX.fr0 (l:=(fI w D n (n'+2) n' (n'+1) kn pk ek).E 0 0 (aZ (D.aW+158) 0) [] 0) F3 (H0 hX hR OE hk F3.left) ?_;rintro r l' ⟨hr,z,tl,hl⟩;subst hl;exact⟨dX F3.left rfl,λJ=>⟨hr,J,z,tl,rfl⟩⟩
  .refine MB λz tl J=>?_;ext z tl ⟨J⟩;refine BX.pk [0,9,10] rfl rfl J λF5=>?_;have OF:=λn2 t2 g2=>OC w D n sc ep K v q kn n' t g T (iF hT) z (D.fW 7) tT n2 t2 g2;exact BX.runP (l:=[⟨n'+2+158,fL jh (aB w jh) z (D.fW 7)⟩,⟨n+158,bF (fp q 2) ep K sc v⟩,⟨n+169,af (some (.int (T:Int) (tT+1)))⟩]) (hs:=[]) (D₀:=310) (dh:=400) (by decide) (by decide) (by decide) F5 aE 0 100 De [1,2] rfl (λU U U U=>.next)
    (λU U U U o=>[⟨n+158,bF (fp q 3) (bD (o 1)) (KO (o 1)) sc (aD (aD v 3 (.ref (n'+1+158))) 4 (.str (ae (d5 T)) (bQ (o 1) 4+1)))⟩,⟨n+169,af (some (.int (T:Int) (tT+1)))⟩])
    (λn2 t2 g2 U=>OF n2 t2 g2) λn2 t2 g2 r o F6=>⟨rfl,F6,n',_,_,n'+1,tl,_,rfl⟩
 .exact Ow λit ep K ll tl tr F3=>⟨F3,[0,3,5,9,4,7,8,1],[2,6],rfl,rfl,λJ=>⟨rfl,J,ep,K,ll,tl,tr,rfl⟩⟩
def xo (n' ll ea:Nat) (L:Nat->Str) (tl:Nat->Nat) (E:Nat->Str) (tE:Nat->Nat):ZD:=⟨n'+4,n'+2,n'+3,n',n'+1,ll,ea,n'+6,n'+5,L,tl,E,tE⟩
def xp (v:Nat->Value) (ll ea tr:Nat) (rs:Str):Nat->Value:=aD (aD (aD v 2 (.ref (ea+158))) 3 (.ref (ll+158))) 4 (.str rs (tr+1))
def Bb:Nat:=0xffca729c0029ca729ca7000a729ca428800288a228ca1000a128400000a02800000c03
def Gs (n sc ep ll ea:Nat) (K:Nat->Int×Nat) (v:Nat->Value) (q:Bool) (L:Nat->Str) (tl:Nat->Nat) (E:Nat->Str) (tE:Nat->Nat):List ad:=[⟨n+158,bF (fp q 3) ep K sc v⟩,⟨ll+158,aa (ap (bi L tl)) 8⟩,⟨ea+158,aa (ap (bi E tE)) 8⟩]
section
variable (w:World) (n sc ep ll ea tr:Nat) (rs:Str) (K:Nat->Int×Nat) (v:Nat->Value) (q:Bool) (L:Nat->Str) (tl:Nat->Nat) (E:Nat->Str) (tE:Nat->Nat) (n' t g:Nat)
theorem L5:ay (vL w 310 400 []) 100 default .base (a9 (((dc w).drop 3).take 1) (br w n)) Bb (Gs n sc ep ll ea K (xp v ll ea tr rs) q L tl E tE) n' t g [] [7,5,6,3,4,1,2,9,8,0]
  (.call false default (kZ w n (n'+6+158) (n'+4+158) (n'+5+158)) true) (((xo n' ll ea L tl E tE).A (ex (n'+2) (n'+3)) 0 0++(xo n' ll ea L tl E tE).B (λU=>(0,0)) 0 [] 0++[⟨n+158,bF (fp q 3) ep K sc (xp v ll ea tr rs)⟩]:List ad).map some) []:=by revert w q;exact d9
theorem OD (K2 Y tk J J1 J2 M ρ1 ρ2 ρ3 ρ4 n2 t2 g2):bP (vL w 310 400 [iz 1 ⟨#[]⟩ [Y 0,Y 1,Y 2,Y 3,Y 4,Y 5,Y 6,Y 7] J,a6 J ⟨#[13,10,10,13,46,13]⟩ J1,a6 J1 rs J2,AG J2 M]) 100 default .base
  ((bl (vL w 310 400 []) 100 default .base (a9 (((dc w).drop 3).take 1) (br w n)) Bb (Gs n sc ep ll ea K (xp v ll ea tr rs) q L tl E tE) n' t g []).kont (.ok .next)) 0x288a20104c00ca200801280a0280a0280a0
  [⟨n'+6+158,E9 2 K2 [(AW,bi L tl 7),(E8,bi E tE 7)]⟩,⟨n'+5+158,aa (jK Y tk 8) 8⟩,⟨n+158,bF (fp q 3) ep K sc (xp v ll ea tr rs)⟩] n2 t2 g2 [ρ1,ρ2,ρ3,ρ4] [2]
  (.fin (.done .next)) (λo=>([⟨n+158,bF (fp q 4) (bD (o 2)) (KO (o 2)) sc (aD (xp v ll ea tr rs) 5 (.str M (ρ4.x+1)))⟩]:List ad).map some) []:=by revert w q;exact d9
end
theorem Fd (J:v 2=.ref (ea+158)) (h3:v 3=.ref (ll+158)) (h4:v 4=.str rs (tr+1)):xp v ll ea tr rs=v:=by
 unfold xp;rw[cP J,cP h3,cP h4]
def qV (ls es:Nat->List Nat):List Nat:=bo [] [ls 0++es 0,ls 1++es 1,ls 2++es 2,ls 3++es 3,ls 4++es 4,ls 5++es 5,ls 6++es 6,ls 7++es 7]
def qW (ls es:Nat->List Nat) (rest:List Nat):List Nat:=qV ls es++[13,10,10,13,46,13]++rest
theorem H6 (hl:∀i<8,(ls i).length<=51) (J:∀i<8,(es i).length<=2):(qV ls es).length<=424:=by
 unfold qV bo;have l0:=hl 0 (by decide);have l1:=hl 1 (by decide);have l2:=hl 2 (by decide);have l3:=hl 3 (by decide);have l4:=hl 4 (by decide);have l5:=hl 5 (by decide);have l6:=hl 6 (by decide);have l7:=hl 7 (by decide);have e0:=J 0 (by decide);have e1:=J 1 (by decide);have e2:=J 2 (by decide);have e3:=J 3 (by decide);have e4:=J 4 (by decide);have e5:=J 5 (by decide);have e6:=J 6 (by decide);have e7:=J 7 (by decide);simp only[eh,rQ,List.flatMap_nil,List.nil_append,fT];exact au (ax l0 (ax l1 (ax l2 (ax l3 (ax l4 (ax l5 (ax l6 (ax l7 (ax e0 (ax e1 (ax e2 (ax e3 (ax e4 (ax e5 (ax e6 e7)))))))))))))))
theorem L6:∀{w:World} {n sc ep ll ea tr:Nat} {K:Nat->Int×Nat} {v:Nat->Value} {q:Bool} {ls es:Nat->List Nat} {rest:List Nat} {tl tE:Nat->Nat} {R:List ad} {b:List Stmt} (hb:b=((dc w).drop 3).take 1)
  (hl:∀i<8,(ls i).length<=51) (J:∀i<8,(es i).length<=2) (hr:rest.length<=1) (h2:v 2=.ref (ea+158)) (h3:v 3=.ref (ll+158)) (h4:v 4=.str (ae rest) (tr+1))
  (F:aj (Gs n sc ep ll ea K v q (λi=>ae (ls i)) tl (λi=>ae (es i)) tE++R)),WX w 310 (execs b (br w n)) (Gs n sc ep ll ea K v q (λi=>ae (ls i)) tl (λi=>ae (es i)) tE++R)
   (λf L'=>f=.next/\aj L'/\∃ep K tm,L'=[⟨n+158,bF (fp q 4) ep K sc (aD v 5 (.str (ae (co (qW ls es rest))) (tm+1)))⟩,⟨ll+158,aa (ap (bi (λi=>ae (ls i)) tl)) 8⟩,⟨ea+158,aa (ap (bi (λi=>ae (es i)) tE)) 8⟩]++R):=by
 ext w n sc ep ll ea tr K v q:0;ext ls es rest tl tE R b:0;intro hb hl J hr h2 h3 h4 F;subst hb;have OF:=L5 w n sc ep ll ea tr (ae rest) K v q (λi=>ae (ls i)) tl (λi=>ae (es i)) tE;have hk:=OD w n sc ep ll ea tr (ae rest) K v q (λi=>ae (ls i)) tl (λi=>ae (es i)) tE;rw[Fd h2 h3 h4] at OF hk;have OE:=H6 hl J;refine SX.of_bx (w:=w) (d:=310) ?_;refine BX.callP (hs:=[]) (D₀:=310) (dh:=400) (by decide) (by decide) (by decide) F aE 0 100 Bb [7,5,6,3,4,1,2,9,8,0] rfl default (λn' U U U=>kZ w n (n'+6+158) (n'+4+158) (n'+5+158)) true
  (λn' U U U U=>(xo n' ll ea (λi=>ae (ls i)) tl (λi=>ae (es i)) tE).A (ex (n'+2) (n'+3)) 0 0++(xo n' ll ea (λi=>ae (ls i)) tl (λi=>ae (es i)) tE).B (λU=>(0,0)) 0 [] 0++[⟨n+158,bF (fp q 3) ep K sc v⟩])
  (λn' t g U=>by exact OF n' t g) λn' t g r o F2=>?_
 ext n' t g r ⟨F2⟩;generalize hZ:xo n' ll ea (λi=>ae (ls i)) tl (λi=>ae (es i)) tE=Z at F2|-;rw[i6] at F2|-;refine⟨λr L'=>r=.ok .next/\aj L'/\∃K2 tk,L'=[⟨Z.ll+158,aa (ap (bi Z.L Z.tl)) 8⟩,⟨Z.ea+158,aa (ap (bi Z.E Z.tE)) 8⟩]++Z.B K2 8 (jK (λi=>ae (ls i++es i)) tk 8) 8++([⟨n+158,bF (fp q 3) ep K sc v⟩]++R),?_,?_⟩
 .have OG:CX w 310 (kZ w n (n'+6+158) (n'+4+158) (n'+5+158)) (Z.A (ex (n'+2) (n'+3)) 0 0++Z.B (λU=>(0,0)) 0 [] 0)
    (λr l'=>r=.ok .next/\aj l'/\∃K tk,l'=[⟨Z.ll+158,aa (ap (bi Z.L Z.tl)) 8⟩,⟨Z.ea+158,aa (ap (bi Z.E Z.tE)) 8⟩]++Z.B K 8 (jK (λi=>ae (ls i++es i)) tk 8) 8):=by
   subst hZ;refine CX.depth (d:=395) ?_ (by decide);refine CX.pk [0] rfl rfl F2.left λF3=>?_;refine CX.runP (l:=[⟨n'+4+158,ex (n'+2) (n'+3)⟩]) (hs:=[]) (D₀:=400) (dh:=500) (by decide) (by decide) (by decide) F3 aE (Dc _ _ _ _ _) 0 20 _ [0] rfl (λU U U U=>.again (sU w n (n'+6+158) (n'+4+158) (n'+5+158))) (λU U U U U=>[⟨n'+4+158,ex (n'+2) (n'+3)⟩])
    (λn2 t2 g2 U=>OA (xo n' ll ea (λi=>ae (ls i)) tl (λi=>ae (es i)) tE) n n2 t2 g2 (n'+5) w) λn2 t2 g2 r o F4=>⟨aX rfl,?_⟩
   exact Fa (xo n' ll ea (λi=>ae (ls i)) tl (λi=>ae (es i)) tE) (λi hi=>ez (by have:=hl i hi;have:=J i hi;lia)) 8 0 rfl (by decide) (λU=>(0,0)) (λU=>0) F4
  refine CX.fr F2 (l:=Z.A (ex (n'+2) (n'+3)) 0 0++Z.B (λU=>(0,0)) 0 [] 0) (λe J=>.inl J) OG ?_;rintro r l' ⟨hr,Fl,K2,tk,OH⟩;exact⟨l',[],λe J=>by rwa[fT] at J,λe J=>.inl J,by rw[fT];exact Fl,λF4=>⟨hr,F4,K2,tk,by subst OH;rfl⟩⟩
 .rintro r l2 ⟨hr,F4,K2,tk,OI⟩;subst hr OI hZ;refine BX.pk [2,3,4] rfl rfl F4 λF5=>?_;refine BX.runP (l:=[⟨n'+6+158,E9 2 K2 [(AW,bi (λi=>ae (ls i)) tl 7),(E8,bi (λi=>ae (es i)) tE 7)]⟩,⟨n'+5+158,aa (jK (λi=>ae (ls i++es i)) tk 8) 8⟩,⟨n+158,bF (fp q 3) ep K sc v⟩])
   (hs:=[iz 1 (ae []) ([ls 0++es 0,ls 1++es 1,ls 2++es 2,ls 3++es 3,ls 4++es 4,ls 5++es 5,ls 6++es 6,ls 7++es 7].map ae) (ae (qV ls es)),a6 (ae (qV ls es)) (ae [13,10,10,13,46,13]) (ae (qV ls es++[13,10,10,13,46,13])),a6 (ae (qV ls es++[13,10,10,13,46,13])) (ae rest) (ae (qW ls es rest)),AG (ae (qW ls es rest)) (ae (co (qW ls es rest)))])
   (D₀:=310) (dh:=400) (by decide) (by decide) (by decide) F5 (nH (ly ?_ (by unfold qV at OE;exact(au OE))) (ez (by simp;exact(au OE))) (ez (by simp;exact(au (ax hr OE)))) (EM (by unfold qW;simp only[eh,fu];exact j4 (bN (Nat.succ 0) (List.length (qV ls es)+5))) (by unfold qW;simp only[eh,fu,List.length_nil];exact(au (ax hr OE))))) 4 100 _ [2] rfl (λU U U U=>.next)
   (λU U U r o=>[⟨n+158,bF (fp q 4) (bD (o 2)) (KO (o 2)) sc (aD v 5 (.str (ae (co (qW ls es rest))) ((r 3).x+1)))⟩])
   (λn2 t2 g2 r=>hk n' t g K2 (λi=>ae (ls i++es i)) tk _ _ _ _ (r 0) (r 1) (r 2) (r 3) n2 t2 g2) λn2 t2 g2 r o F6=>⟨rfl,F6,_,_,_,rfl⟩
  have l0:=hl 0 (by decide);have l1:=hl 1 (by decide);have l2:=hl 2 (by decide);have l3:=hl 3 (by decide);have l4:=hl 4 (by decide);have l5:=hl 5 (by decide);have l6:=hl 6 (by decide);have l7:=hl 7 (by decide);have e0:=J 0 (by decide);have e1:=J 1 (by decide);have e2:=J 2 (by decide);have e3:=J 3 (by decide);have e4:=J 4 (by decide);have e5:=J 5 (by decide);have e6:=J 6 (by decide);have e7:=J 7 (by decide);simp only[de,fK,eh,List.length_nil,List.sum_cons,List.sum_nil];exact au (ax l0 (ax l1 (ax l2 (ax l3 (ax l4 (ax l5 (ax l6 (ax l7 (ax e0 (ax e1 (ax e2 (ax e3 (ax e4 (ax e5 (ax e6 e7)))))))))))))))
def Bc (t f:Nat):aq:=λc _=>some ⟨[],[(c,zV t f (dF (bI c 0)) (dF (bI c 1)))],.gen (hV (ui t f))⟩
theorem Fe {w t f} (J:1<=t) (h2:t<=3) (h3:1<=f) (h4:f<=4):ai w 800 (Bc t f):=bj λc lk A s hA hT hq=>bf.of_code (DU w J h2 h3 h4 _ _ A s hA hT (λU h=>nomatch h))
def Gt (v:Nat->Value) (ll tr J:Nat) (rs M:Str):Nat->Value:=aD (aD (aD v 3 (.ref (ll+158))) 4 (.str rs (tr+1))) 5 (.str M (J+1))
theorem Ff (J:v 3=.ref (ll+158)) (h4:v 4=.str rs (tr+1)) (h5:v 5=.str M (tm+1)):Gt v ll tr tm rs M=v:=by
 unfold Gt;rw[cP J,cP h4,cP h5]
def gJ:Str:=⟨#[13,10]⟩
def Bd (D:KD) (T:Nat) (L J:Nat->Str) (rs M M2 S DJ OE:Str) (Qb:Array UInt8):List aq:=
 [iz 10 gJ [L 0,L 1,L 2,L 3,L 4,L 5,L 6,L 7,⟨#[]⟩,⟨#[]⟩,⟨#[]⟩,⟨#[46]⟩,rs] M,dm M M false,a6 M ⟨#[10,46,13,46,98]⟩ M2,uw M2,qx (mu M2) Qb,qw Qb]++
 ((List.range 8).flatMap λi=>[bB "int.__add__" (T:Nat) 1 ((T+1:Nat):Int),bd 6 D.fSt (D.X i),Bc (T+1) (D.St (D.X i)),bd 8 D.fWd (D.X i),a6 (ui (T+1) (D.St (D.X i))) (D.Wd (D.X i)) (J i)])++
 [kM (mv Qb) S,iz 17 gJ [J 0,J 1,J 2,J 3,J 4,J 5,J 6,J 7,⟨#[]⟩,⟨#[]⟩,⟨#[]⟩,⟨#[46,46]⟩,rs] DJ,a6 DJ ⟨#[10,46,46,13,46,98]⟩ OE,dm S OE false]
def Fg (D:KD) (n sc ep ll T tT:Nat) (K:Nat->Int×Nat) (v:Nat->Value) (q:Bool) (L:Nat->Str) (tl:Nat->Nat):List ad:=
 [⟨n+158,bF (fp q 4) ep K sc v⟩,⟨ll+158,aa (ap (bi L tl)) 8⟩,⟨n+169,af (some (.int (T:Int) (tT+1)))⟩,⟨n+167,af (some (.ref (D.aW+158)))⟩,D.lW,⟨n+166,af (some (.ref (D.aSt+158)))⟩,D.lSt,⟨n+164,af (some (.ref (D.aWd+158)))⟩,D.lWd]
def Be (D:KD) (n sc ep T tT:Nat) (K:Nat->Int×Nat) (v:Nat->Value) (q:Bool):List ad:=
 [⟨n+158,bF (fp q 6) ep K sc v⟩,⟨n+169,af (some (.int (T:Int) (tT+1)))⟩,⟨n+167,af (some (.ref (D.aW+158)))⟩,D.lW,⟨n+166,af (some (.ref (D.aSt+158)))⟩,D.lSt,⟨n+164,af (some (.ref (D.aWd+158)))⟩,D.lWd]
def Gu:Nat:=0x2acab290ab2acab000ab2ac002aca4000a4290a3280a0018051140400ca000c02004a9284a928400284a9284a0280a0+((rp 0xab2aca42acab2ac002acac2b0ac2b00002c0a2a0a82a0ad29c0926008298a6298ad29407288032b4ad 0x1405000000000000005000050000000000000050000000000 330 8)+0x320c4302c0ac2c0ac000ac2c0ac280a00bc2d280032b4ad2b4a0280af<<<2640)<<<380
theorem L7 (w D n sc ep ll tr tm T tT K v q L Du tl rs M M2 S DJ DJ2 Qb n' t g r):
  bP (vL w 310 400 (Bd D T L Du rs M M2 S DJ DJ2 Qb)) 800 default .base (a9 (((dc w).drop 4).take 4) (br w n)) Gu (Fg D n sc ep ll T tT K (Gt v ll tr tm rs M) q L tl) n' t g (bO r 0 24) [0,2,3,4,5,6,7,8]
   (.fin (.done .next)) (λo=>(Be D n sc (bD (o 0)) T tT (KO (o 0)) (aD (aD (Gt v ll tr tm rs M) 6 (.str (mv Qb) ((r 4).x+1))) 7 (.ref ((r 4).n+1+158))) q).map some) []:=by revert w q;exact d9
section
open Builtin.Str (occurrences partsBetween strSub)
open PySem.StrLaws (ChainG At)
def cm:List Nat:=[13,10]
theorem u8 (s p):bo s [p]=p:=by simp[bo]
theorem sV (s p q r):bo s (p::q::r)=p++(s++bo s (q::r)):=by simp[bo]
theorem xq:∀{l} r,(∀c∈l,c≠10/\c≠13)->co (l++r)=l++co r
 |[],_,_=>rfl
 |c::l,r,h=>by
  have hc:=h c aJ;rw[List.cons_append,on (by simp[hc.1,hc.2]),xq r λd hd=>h d (.tail _ hd)];rfl
def eE:Nat->List Nat
 |0=>[10]
 |1=>[13]
 |_=>[13,10]
theorem Km (e):mQ e=ae (eE e):=match e with
 |0=>rfl
 |1=>rfl
 |_+2=>rfl
theorem H7 (e) {r} (h:∀J,r≠10::J):co (eE e++r)=cm++co r:=by
 unfold eE;split
 .show co (10::r)=_;rw[co]
  .rfl
  .intro J e _;cases e
 .exact yU h
 .rfl
theorem u9 {es:Nat->Nat}:∀(k:Nat) (f:Nat->List Nat) {r:List Nat},(∀i<k,∀c∈f i,c≠10/\c≠13)->(∀i<k,f i≠[])->(∀r',r≠10::r')->
  co (((List.range k).flatMap λi=>f i++eE (es i))++r)=((List.range k).flatMap λi=>f i++cm)++co r
 |0,_,_,_,_,_=>rfl
 |k+1,f,r,J,h2,h3=>by
  have hk:=Nat.lt_succ_self k;rw[List.range_succ,rP,rP,i6,u9 k f (λi hi=>J i (Nat.lt_succ_of_lt hi)) (λi hi=>h2 i (Nat.lt_succ_of_lt hi))]
  .rw[i6];congr 1;rw[rO,rO,i6,xq _ (J k hk),H7 _ h3,i6]
  .intro r' e;rw[rO] at e;obtain⟨c,l,hc⟩:=List.exists_cons_of_ne_nil (h2 k hk);rw[hc] at e;have:=(J k hk c (by rw[hc];exact .head _)).1;simp at e;exact this e.1
def vc:List Nat->List Nat
 |46::r=>46::46::r
 |l=>l
theorem uy:∀{l} r,(∀c∈l,c≠10)->bA false (l++r)=l++bA false r
 |[],_,_=>rfl
 |c::l,r,h=>by
  have hc:=h c aJ;have e:bA false (c::(l++r))=c::bA (c==10) (l++r):=by rw[bA];rfl
  rw[List.cons_append,e,eY.mpr hc,uy r λd hd=>h d (.tail _ hd)];rfl
set_option tactic.hygienic true in
theorem Kn (r) (h:∀c∈l,c≠10):bA true (l++cm++r)=vc l++cm++bA true r:=by
 ext l r ⟨h⟩;have OE:∀b,bA b (cm++r)=cm++bA true r:=λb=>by cases b<;>rfl
 cases l with
 |nil=>exact OE true
 |cons c l=>
  ext c l ⟨h⟩;have hc:=h c aJ;have hl:∀d∈l,d≠10:=λd hd=>h d (.tail _ hd);rw[i6,List.cons_append];by_cases J:c=46
  .subst J;have e:bA true (46::(l++(cm++r)))=46::46::bA false (l++(cm++r)):=by rw[bA];rfl
   rw[e,uy _ hl,OE];simp[vc]
  .have e:bA true (c::(l++(cm++r)))=c::bA false (l++(cm++r)):=by
    rw[bA,eY.mpr J,eY.mpr hc];rfl
   have e2:vc (c::l)=c::l:=by
    unfold vc;split
    .rename_i h;exact bh (List.cons.inj h).1 J
    .rfl
   rw[e,e2,uy _ hl,OE];simp
theorem yX:∀(k:Nat) (f:Nat->List Nat) (r:List Nat),(∀i<k,∀c∈f i,c≠10)->bA true (((List.range k).flatMap λi=>f i++cm)++r)=((List.range k).flatMap λi=>vc (f i)++cm)++bA true r
 |0,_,_,_=>rfl
 |k+1,f,r,h=>by
  rw[List.range_succ,rP,rP,i6,yX k f _ λi J=>h i (Nat.lt_succ_of_lt J),i6];congr 1;rw[rO,rO,Kn r (h k (Nat.lt_succ_self k))]
set_option tactic.hygienic true in
theorem uz:∀l k,At (ae l) gJ (ae l).length k↔l[k]? =some 13/\l[k+1]? =some 10:=by
 ext l k:0;have hx:((ae l).cps.extract k (k+2)).toList=(l.drop k).take 2:=by
  have:=StrLaws.strSub_toList (ae l) k (k+2);have e:k+2 - k=2:=It;rw[e] at this;exact this
 have h0:((l.drop k).take 2)[0]? =l[k]? :=by rw[List.getElem?_take_of_lt (by decide),List.getElem?_drop];rfl
 have h1:((l.drop k).take 2)[1]? =l[k+1]? :=by rw[List.getElem?_take_of_lt (by decide),List.getElem?_drop]
 unfold At Builtin.Str.subAt;constructor
 .rintro⟨-,h⟩;have h2:(l.drop k).take 2=[13,10]:=by
   rw[<-hx];exact congrArg Array.toList (eq_of_beq h)
  rw[<-h0,<-h1,h2];exact⟨rfl,rfl⟩
 .rintro⟨a,b⟩;have OF:k+1<l.length:=(List.getElem?_eq_some_iff.mp b).1;refine⟨by rw[bz];show k+2<=l.length;assumption,?_⟩;have h2:(l.drop k).take 2=[13,10]:=by
   have OE:((l.drop k).take 2).length=2:=by rw[List.length_take,List.length_drop];lia
   match hd:(l.drop k).take 2,OE with
   |[x,y],_=>
    rename_i J;ext x y ⟨J,hd⟩;rw[hd] at h0 h1;rw[a] at h0;rw[b] at h1;cases h0;cases h1;rfl
  have h3:(ae l).cps.extract k (k+2)= #[13,10]:=by
   apply Array.toList_inj.mp;rw[hx,h2]
  show((ae l).cps.extract k (k+2)== #[13,10])=true;rw[h3];rfl
def j3 (p:List Nat):Prop:=∀k:Nat,p[k]? =some 13->k+1<p.length/\p[k+1]? ≠some 10
def my:Nat->List (List Nat)->List Nat
 |_,[]=>[]
 |_,[_]=>[]
 |o,p::q::r=>(o+p.length)::my (o+p.length+2) (q::r)
theorem xr {L p s:List Nat} {o:Nat} (hd:L.drop o=p++s) (hc:j3 p) {k:Nat} (h1:o<=k) (h2:k<o+p.length):¬(L[k]? =some 13/\L[k+1]? =some 10):=by
 rintro⟨a,b⟩;have ha:L[k]? =p[k - o]? :=by
  have:(L.drop o)[k - o]? =L[o+(k - o)]? :=List.getElem?_drop;rw[hd,List.getElem?_append_left (by lia),show o+(k - o)=k by lia] at this;exact this.symm
 rw[ha] at a;obtain⟨J,h4⟩:=hc _ a;have hb:L[k+1]? =p[k - o+1]? :=by
  have:(L.drop o)[k - o+1]? =L[o+(k - o+1)]? :=List.getElem?_drop;rw[hd,List.getElem?_append_left J,show o+(k - o+1)=k+1 by lia] at this;exact this.symm
 rw[hb] at b;exact h4 b
theorem sW (L:List Nat):∀(ps:List (List Nat)) (o:Nat),ps≠[]->(∀p∈ps,j3 p)->L.drop o=bo cm ps->o<=L.length->∃f,ChainG (ae L) gJ (ae L).length o (my o ps) f/\∀k,f<=k->¬At (ae L) gJ (ae L).length k
 |[],_,h,_,_,_=>bh rfl h
 |[p],o,_,hc,hd,ho=>by
  rw[u8] at hd;refine⟨o,rfl,λk hk hA=>?_⟩;have h:=(uz L k).mp hA;by_cases hlt:k<o+p.length
  .exact xr (s:=[]) (by rw[fT];exact hd) (hc p aJ) hk hlt h
  .have hl:L.length=o+p.length:=by
    have:=congrArg List.length hd;rw[List.length_drop] at this;lia
   rw[List.getElem?_eq_none ((au (ax (Nat.le_of_not_lt hlt) (fk hl))))] at h;cases h.1
 |p::q::r,o,_,hc,hd,ho=>by
  rw[sV] at hd;have hlen:o+p.length+2<=L.length:=by
   have:=congrArg List.length hd;rw[List.length_drop,eh,eh] at this;have h2:cm.length=2:=rfl;lia
  have hd2:L.drop (o+p.length)=cm++bo cm (q::r):=by
   rw[<-List.drop_drop,hd,List.drop_left]
  have hd3:L.drop (o+p.length+2)=bo cm (q::r):=by
   rw[<-List.drop_drop,hd2];rfl
  obtain⟨f,h1,h2⟩:=sW L (q::r) (o+p.length+2) (List.cons_ne_nil _ _) (λx hx=>hc x (.tail _ hx)) hd3 hlen;have hat:At (ae L) gJ (ae L).length (o+p.length):=by
   refine(uz _ _).mpr ⟨?_,?_⟩
   .have:(L.drop (o+p.length))[0]? =L[o+p.length+0]? :=List.getElem?_drop;rw[hd2] at this;exact this.symm
   .have:(L.drop (o+p.length))[1]? =L[o+p.length+1]? :=List.getElem?_drop;rw[hd2] at this;exact this.symm
  exact⟨f,⟨k9 _ _,hat,λk hk hlt hA=>xr hd (hc p aJ) hk hlt ((uz L k).mp hA),h1⟩,h2⟩
theorem qb {x y:Str} {hi:Nat}:∀{cs OE:List Nat} {o f J:Nat},ChainG x y hi o cs f->(∀k,f<=k->¬At x y hi k)->ChainG x y hi o OE J->(∀k,J<=k->¬At x y hi k)->cs=OE
 |[],[],_,_,_,_,_,_,_=>rfl
 |[],c::r,o,f,J,h,hn,h',_=>by
  have e:f=o:=h;exact bh h'.2.1 (hn c (by rw[e];exact h'.1))
 |c::r,[],o,f,J,h,_,h',hn'=>by
  have e:J=o:=h';exact bh h.2.1 (hn' c (by rw[e];exact h.1))
 |c::r,c'::r',o,f,J,h,hn,h',hn'=>by
  have e:c=c':=by
   rcases Nat.lt_trichotomy c c' with hlt|e|hlt
   .exact bh h.2.1 (h'.2.2.1 c h.1 hlt)
   .exact e
   .exact bh h'.2.1 (h.2.2.1 c' h'.1 hlt)
  subst e;rw[qb h.2.2.2 hn h'.2.2.2 hn']
theorem xt:∀{ps:List (List Nat)} (h0:ps≠[]) (hc:∀p∈ps,j3 p),occurrences (ae (bo cm ps)) gJ 0 (ae (bo cm ps)).length ((ae (bo cm ps)).length+1)=my 0 ps:=by
 ext ps:0;intro h0 hc;obtain⟨f,h1,h2⟩:=StrLaws.occ_tight (ae (bo cm ps)) gJ (by decide);obtain⟨f',h3,h4⟩:=sW (bo cm ps) ps 0 h0 hc rfl (iU _);exact qb h1 h2 h3 h4
theorem sX (L):∀ps o,ps≠[]->L.drop o=bo cm ps->o<=L.length->
  ((o::(my o ps).map (·+2)).zip (my o ps++[L.length])).map (λ(i,j)=>strSub (ae L) i j)=ps.map ae
 |[],_,h,_,_=>bh rfl h
 |[p],o,_,hd,ho=>by
  rw[u8] at hd;have hl:L.length=o+p.length:=by
   have:=congrArg List.length hd;rw[List.length_drop] at this;lia
  have e:strSub (ae L) o L.length=ae p:=by
   unfold strSub ae;congr 1;apply Array.toList_inj.mp;have:=StrLaws.strSub_toList (ae L) o L.length;unfold strSub ae at this;rw[this,hl];simp[hd]
  simp[my,e]
 |p::q::r,o,_,hd,ho=>by
  rw[sV] at hd;have J:o+p.length+2<=L.length:=by
   have:=congrArg List.length hd;rw[List.length_drop,eh,eh] at this;have h2:cm.length=2:=rfl;lia
  have OE:L.drop (o+p.length)=cm++bo cm (q::r):=by
   rw[<-List.drop_drop,hd,List.drop_left]
  have OF:L.drop (o+p.length+2)=bo cm (q::r):=by
   rw[<-List.drop_drop,OE];rfl
  have ih:=sX L (q::r) (o+p.length+2) (List.cons_ne_nil _ _) OF J;have e:strSub (ae L) o (o+p.length)=ae p:=by
   unfold strSub ae;congr 1;apply Array.toList_inj.mp;have:=StrLaws.strSub_toList (ae L) o (o+p.length);unfold strSub ae at this;rw[this,show o+p.length - o=p.length by lia];simp[hd]
  show((o::((o+p.length)::my (o+p.length+2) (q::r)).map (·+2)).zip (((o+p.length)::my (o+p.length+2) (q::r))++[L.length])).map _=_;rw[de,List.cons_append,List.zip_cons_cons,de,de,ih];show strSub (ae L) o (o+p.length)::_=_;rw[e]
theorem xu (h0:ps≠[]) (hc:∀p∈ps,j3 p):partsBetween (ae (bo cm ps)) (occurrences (ae (bo cm ps)) gJ 0 (ae (bo cm ps)).length ((ae (bo cm ps)).length+1)) gJ.length=ps.map ae:=by
 rw[xt h0 hc];have:=sX (bo cm ps) ps 0 h0 rfl (iU _);dsimp only[partsBetween];rw[bz];exact this
end
def cK (b:Bool):List Nat:=match b with
 |true=>[120]
 |false=>[120,120]
theorem Ko (b):wS b=ae (cK b):=by cases b<;>rfl
def il (f:Nat->List Nat) (a r:List Nat):List (List Nat):=[f 0,f 1,f 2,f 3,f 4,f 5,f 6,f 7,[],[],[],a,r]
theorem jM (f a r):bo cm (il f a r)=((List.range 8).flatMap λi=>f i++cm)++(cm++(cm++(cm++(a++(cm++r))))):=by
 simp[il,bo,List.range,List.range.loop,cm]
theorem Fh (ls es):qV ls es=(List.range 8).flatMap λi=>ls i++es i:=by
 rfl
def sY (rest:List Nat):Prop:=rest=[]\/rest=[97]
theorem H8 {ls:Nat->List Nat} {e:Nat->Nat} {rest:List Nat} (hr:sY rest) (J:∀i<8,∀c∈ls i,c≠10/\c≠13) (h2:∀i<8,ls i≠[]):co (qW ls (λi=>eE (e i)) rest)=bo cm (il ls [46] rest):=by
 unfold qW;rw[Fh,i6,u9 8 ls J h2 (by intro r' h;cases h),jM];congr 1;rcases hr with rfl|rfl<;>rfl
theorem H9 {ls ds rest} (hr:sY rest) (h1:∀i<8,∀c∈ls i,c≠10/\c≠13) (hd:∀i<8,vc (ls i)=ds i):
  bA true (bo cm (il ls [46] rest)++[10,46,13,46,98])=bo cm (il ds [46,46] (rest++[10,46,46,13,46,98])):=by
 rw[jM,jM,i6,yX 8 ls _ λi J c hc=>(h1 i J c hc).1];have e:((List.range 8).flatMap λi=>vc (ls i)++cm)=(List.range 8).flatMap λi=>ds i++cm:=by
  rw[List.flatMap_def,List.flatMap_def];congr 1;exact qF λi J=>by rw[hd i (eM.mp J)]
 rw[e];congr 1;rcases hr with rfl|rfl<;>rfl
theorem Kp:bo cm (il ds [46,46] rest)++[10,46,46,13,46,98]=bo cm (il ds [46,46] (rest++[10,46,46,13,46,98])):=by
 rw[jM,jM];simp
theorem Fi:∀{T f} (hT:T<3) (J:1<=f) (h4:f<=4) w,vc (kF (f==T+1) (dH T f++w))=dH (T+1) f++w:=by
 ext T f:0;intro hT J h4;ext w:0;have ht:T=0\/T=1\/T=2:=iF hT;have hf:f=1\/f=2\/f=3\/f=4:=by lia
 rcases ht with rfl|rfl|rfl<;>rcases hf with rfl|rfl|rfl|rfl<;>rfl
theorem vd (T f):∀c∈dH T f,c=33\/c=46:=by
 unfold dH;intro c hc;split at hc
 .exact .inr (List.eq_of_mem_replicate hc)
 .rcases aY.mp hc with h|h
  .exact .inl h
  .exact .inr (List.eq_of_mem_replicate h)
theorem yY (hT:T<3) (J:f<=4):0<(dH T f).length/\(dH T f).length<=5:=by
 unfold dH;split<;>simp<;>lia
theorem xv (T f w):(dH T f++w).head?=some 46↔T<f:=by
 unfold dH;by_cases h:T<f
 .have:Nat.blt T f=true:=Nat.ble_eq_true_of_le h;rw[this];simp[h,List.replicate_succ]
 .have:Nat.blt T f=false:=by
   rw[<-Bool.not_eq_true];exact λe=>h (uC e)
  rw[this];simp[h]
theorem qz (h:T<f):dH T f=List.replicate (T+1) 46:=by
 unfold dH;have:Nat.blt T f=true:=Nat.ble_eq_true_of_le h;rw[this]
theorem Fj (h:cK a=cK b):a=b:=by cases a<;>cases b<;>first|rfl|exact bh h (by decide)
theorem sZ (b):∀c∈cK b,c=120:=by cases b<;>trivial
theorem kH {k b T f}:∀c∈kF k (dH T f++cK b),c=33\/c=46\/c=120:=by
 have h:∀c∈dH T f++cK b,c=33\/c=46\/c=120:=λc hc=>by
  rcases dk.mp hc with hc|hc
  .rcases vd T f c hc with h|h<;>simp[h]
  .simp[sZ b c hc]
 intro c hc;cases k with
 |true=>
  rcases aY.mp hc with rfl|hc
  .exact .inl rfl
  .exact h c hc
 |false=>exact h c hc
def bM (M x:Nat):Bool:=Nat.testBit M x
theorem L8:∀(b:Nat->Bool),∃M,M<256/\∀x<8,b x=bM M x:=by
 ext b:0;have h:∀J b1 b2 b3 b4 b5 b6 b7:Bool,∃M,M<256/\(bM M 0=J/\bM M 1=b1/\bM M 2=b2/\bM M 3=b3/\bM M 4=b4/\bM M 5=b5/\bM M 6=b6/\bM M 7=b7):=λJ b1 b2 b3 b4 b5 b6 b7=>
  ⟨J.toNat+2*b1.toNat+4*b2.toNat+8*b3.toNat+16*b4.toNat+32*b5.toNat+64*b6.toNat+128*b7.toNat,by revert J b1 b2 b3 b4 b5 b6 b7;decide+kernel⟩
 obtain⟨M,hM,h0,h1,h2,h3,h4,h5,h6,h7⟩:=h (b 0) (b 1) (b 2) (b 3) (b 4) (b 5) (b 6) (b 7);ext M ⟨hM,h0,h1,h2,h3,h4,h5,h6,h7⟩;refine⟨M,hM,λx hx=>?_⟩;ext x ⟨hx⟩;have:x=0\/x=1\/x=2\/x=3\/x=4\/x=5\/x=6\/x=7:=y3 hx;rcases this with rfl|rfl|rfl|rfl|rfl|rfl|rfl|rfl
 .exact h0.symm
 .exact h1.symm
 .exact h2.symm
 .exact h3.symm
 .exact h4.symm
 .exact h5.symm
 .exact h6.symm
 .exact h7.symm
theorem ve {b b'} (h:∀x<8,b x=b' x) {x} (hx:x<8):cw b x=cw b' x:=by
 unfold cw;congr 2;refine List.filter_congr λi J=>?_;unfold jJ;rw[h i (eM.mp J),h x hx]
def Gv (M x:Nat):Bool:=
 let s:=cw (bM M) x
 (decide (1<=s)&&decide (s<=4))&&((List.range 3).all (λc=>bM M (x^^^2^c)==bM M x||s==1)&&
  (List.range 3).all λT=>(decide (T<s)&&(List.range 3).any λc=>!(bM M (x^^^2^c)==bM M x&&decide (T<cw (bM M) (x^^^2^c))))==(s==T+1))
theorem Ia:(List.range 256).all (λM=>(List.range 8).all λx=>Gv M x)=true:=by decide+kernel
theorem qc:∀{b x} (hx:x<8),1<=cw b x/\cw b x<=4/\(∀c<3,b (x^^^2^c)≠b x->cw b x=1)/\
  ∀T<3,((T<cw b x/\∃c<3,¬(b (x^^^2^c)=b x/\T<cw b (x^^^2^c)))↔cw b x=T+1):=by
 ext b x:0;intro hx;obtain⟨M,J,hb⟩:=L8 b;ext M ⟨J,hb⟩;have h:=oD.mp (oD.mp Ia M (eM.mpr J)) x (eM.mpr hx);dsimp only[Gv] at h;simp only[mU,oC,oD,eM,Bool.or_eq_true,beq_iff_eq] at h;obtain⟨⟨h1,h2⟩,h3,h4⟩:=h;have hn:∀c<3,x^^^2^c<8:=λc hc=>by
  have:∀x<8,∀c<3,x^^^2^c<8:=by decide
  exact this x hx c hc
 have e:cw b x=cw (bM M) x:=ve hb hx;rw[e];refine⟨h1,h2,λc hc hne=>?_,λT hT=>?_⟩
 .rcases h3 c hc with q|q
  .rw[hb _ (hn c hc),hb x hx] at hne;exact bh q hne
  .exact q
 .have h5:=h4 T hT;have h6:(decide (T<cw (bM M) x)&&(List.range 3).any λc=>!(bM M (x^^^2^c)==bM M x&&decide (T<cw (bM M) (x^^^2^c))))=true↔cw (bM M) x=T+1:=by rw[h5];simp
  rw[<-h6];simp only[mU,oC,List.any_eq_true,eM,Bool.not_eq_true',Bool.and_eq_false_iff,eY,decide_eq_false_iff_not];refine and_congr_right λU=>exists_congr λc=>and_congr_right λhc=>?_;rw[hb _ (hn c hc),hb x hx,ve hb (hn c hc)];by_cases q:bM M (x^^^2^c)=bM M x<;>simp[q]
theorem qX:∀a,gB a a=true
 |[]=>rfl
 |a::r=>by
  dsimp only[gB];rw[Nat.beq_refl];exact qX r
def Kq (c:Nat) (D:Nat->Nat) (x:Nat):Bool:=
 match dq x c D with
 |[]=>false
 |h::r=>(h != 42&&(h != 125&&h != 120))&&(Nat.ble (h::r).length 100&&(List.range 8).all λy=>Nat.beq (h::r).length (dq y c D).length&&(gB (h::r) (dq y c D)==(Nat.beq y x||Nat.beq y (x^^^2^c))))
theorem Ib:(List.range 3).all (λc=>(List.range 4).all λa=>(List.range 4).all λb=>(List.range 4).all λd=>(List.range 8).all λx=>Kq c (D3 a b d) x)=true:=by decide+kernel
theorem xw:∀x c D,dq x c D=dq x c (D3 (D 0) (D 1) (D 2)):=by
 ext x c D:0;have a0:=nR x D (k:=0) (by decide);have a1:=nR x D (k:=1) (by decide);have a2:=nR x D (k:=2) (by decide);have J:cB x D c=cB x (D3 (D 0) (D 1) (D 2)) c:=by unfold cB;split<;>rfl
 have hb:cL x D c=cL x (D3 (D 0) (D 1) (D 2)) c:=by unfold cL;split<;>rfl
 unfold dq;rfl
theorem s7:∀{D} (hD:∀k,D k<4) {x c} (hx:x<8) (hc:c<3),pM (dq x c D)/\(∀a r,dq x c D=a::r->a≠120)/\∀y<8,(dq x c D).length=(dq y c D).length/\(dq x c D=dq y c D↔y=x\/y=x^^^2^c):=by
 ext D:0;intro hD;ext x c:0;intro hx hc;have h:=Ib;simp only[oD,eM] at h;have J:=h c hc (D 0) (hD 0) (D 1) (hD 1) (D 2) (hD 2) x hx;rw[xw x c D];have hy:∀y,dq y c D=dq y c (D3 (D 0) (D 1) (D 2)):=λy=>xw y c D;simp only[hy];generalize D3 (D 0) (D 1) (D 2)=E at J|-;unfold Kq at J;generalize hs:dq x c E=s at J|-;cases s with
 |nil=>cases J
 |cons a r=>
  ext a r ⟨hs,J⟩;simp only[mU,oD,eM,bne_iff_ne,ne_eq,beq_iff_eq] at J;obtain⟨⟨q1,q2,q3⟩,q4,q5⟩:=J;refine⟨⟨⟨a,r,rfl,q1,q2⟩,uC q4⟩,λa' r' e=>by cases e;exact q3,λy hy=>?_⟩;obtain⟨p1,p2⟩:=q5 y hy;refine⟨Nat.eq_of_beq_eq_true p1,?_⟩;have p3:gB (a::r) (dq y c E)=true↔(Nat.beq y x||Nat.beq y (x^^^2^c))=true:=by rw[p2]
  have p4:gB (a::r) (dq y c E)=true↔a::r=dq y c E:=⟨pz,λe=>by rw[<-e];exact qX _⟩;rw[<-p4,p3,Bool.or_eq_true];exact or_congr ⟨Nat.eq_of_beq_eq_true,λe=>by rw[e];exact Nat.beq_refl _⟩ ⟨Nat.eq_of_beq_eq_true,λe=>by rw[e];exact Nat.beq_refl _⟩
theorem Dh:∀m<8,∀j<8,∀k<8,(m^^^k=m^^^j↔k=j):=by decide+kernel
theorem Di:∀m<8,∀j<8,∀k<8,∀c<3,(m^^^k=(m^^^j)^^^2^c↔k=dw j c):=by decide+kernel
theorem Dj:∀m<8,∀j<8,∀c<3,m^^^dw j c=(m^^^j)^^^2^c:=by decide+kernel
structure eI (D:KD) (T m:Nat) (b:Nat->Bool) (Dr:Nat->Nat):Prop where
 hm:m<8
 hT:T<3
 X:∀k<8,D.X k=m^^^k
 S:∀w<8,∀c<3,D.S w c=ae (dq w c Dr)
 R:∀w<8,D.R w=ae (dH T (cw b w)++cK (b w))
 St:∀w<8,D.St w=cw b w
 Wd:∀w<8,D.Wd w=wS (b w)
 dr:∀k,Dr k<4
section
variable {D:KD} {T m:Nat} {b:Nat->Bool} {Dr:Nat->Nat} (Q:eI D T m b Dr)
include Q
theorem eI.ord:j7 D m:=⟨Q.hm,Q.X⟩
theorem eI.lt (h:k<8):D.X k<8:=Q.ord.lt h
theorem eI.alk {j k} (hj:j<8) (hk:k<8) {tT c tc}:bb D ⟨T,tT,c,tc⟩ j k=true↔b (D.X k)=b (D.X j)/\T<cw b (D.X k):=by
 unfold bb;rw[Q.Wd _ (Q.lt hk),Q.Wd _ (Q.lt hj),Q.St _ (Q.lt hk)];have e:((wS (b (D.X k))).cps.toList==(wS (b (D.X j))).cps.toList)=(b (D.X k)==b (D.X j)):=by cases b (D.X k)<;>cases b (D.X j)<;>rfl
 rw[e,mU,beq_iff_eq,oC]
theorem eI.nbX (hj:j<8) (hc:c<3):D.X (dw j c)=D.X j^^^2^c:=by
 rw[Q.X _ (lC j hj c hc),Q.X j hj];exact Dj m Q.hm j hj c hc
theorem eI.kw:KW D T m (λw c=>dq w c Dr) (λw=>dH T (cw b w)++cK (b w)) where
 O:=Q.ord
 hT:=Q.hT
 S:=Q.S
 R:=Q.R
 sOk:=λw J c hc=>(s7 Q.dr J hc).1
 sLen:=λc hc w J v hv=>((s7 Q.dr J hc).2.2 v hv).1
 s120:=λw J c hc=>(s7 Q.dr J hc).2.1
 rOk:=λw J=>by
  have h1:=yY (T:=T) (f:=cw b w) Q.hT (qc J).2.1;have h2:0<(cK (b w)).length/\(cK (b w)).length<=2:=by cases b w<;>decide
  refine⟨λh=>?_,by rw[eh];exact(au (ax h1.2 h2.2)),by rw[eh];exact(au h1.1)⟩;rcases dk.mp h with h|h
  .rcases vd _ _ _ h with h|h<;>exact bh h (by decide)
  .exact bh (sZ _ _ h) (by decide)
 same:=λc hc j hj k hk=>by
  have x1:=Dh m Q.hm j hj k hk;have x2:=Di m Q.hm j hj k hk c hc;rw[((s7 Q.dr (Q.lt hj) hc).2.2 _ (Q.lt hk)).2,Q.X k hk,Q.X j hj,x1,x2]
 row:=λj hj k hk hd=>by
  rw[Q.St _ (Q.lt hj)] at hd;rw[Q.alk hj hk,qz hd];constructor
  .intro h;have OE:T<cw b (D.X k):=by
    rw[<-xv T (cw b (D.X k)) (cK (b (D.X k))),<-h];rfl
   rw[qz OE] at h;exact⟨(Fj (List.append_cancel_left h)).symm,OE⟩
  .rintro⟨h1,h2⟩;rw[qz h2,h1]
 dot:=λw J=>by rw[xv,Q.St w J]
 nb:=λc hc j hj hd hne=>by
  rw[Q.St _ (Q.lt hj)] at hd;rw[Q.St _ (Q.lt (lC j hj c hc))];rw[Q.Wd _ (Q.lt (lC j hj c hc)),Q.Wd _ (Q.lt hj),Q.nbX hj hc] at hne;have h1:=(qc (b:=b) (Q.lt hj)).2.2.1 c hc λe=>hne (by rw[e]);have h2:=(qc (b:=b) (Q.lt (lC j hj c hc))).1;exact au (ax hd (ax (fk h1) h2))
theorem eI.hall:T=0->∀j<8,0<D.St (D.X j):=λU j hj=>by
 rw[Q.St _ (Q.lt hj)];exact(qc (Q.lt hj)).1
theorem eI.known:∀{i} (J:i<8),eg (jo D T 3) (D.X i:Int)=(cw b (D.X i)==T+1):=by
 ext D T m b Dr;intro Q;ext i:0;intro J;have OE:eg (jo D T 3) (D.X i:Int)=true↔cw b (D.X i)=T+1:=by
  rw[n7,<-(qc (b:=b) (Q.lt J)).2.2.2 T Q.hT];have hs:∀j<8,∀c<3,lH D ⟨T,0,c,0⟩ j=true↔T<cw b (D.X j)/\¬(b (D.X j^^^2^c)=b (D.X j)/\T<cw b (D.X j^^^2^c)):=λj hj c hc=>by
   dsimp only[lH];have ha:=Q.alk hj (lC j hj c hc) (tT:=0) (c:=c) (tc:=0);rw[Q.nbX hj hc] at ha;rw[<-ha,mU,oC,Bool.not_eq_true',Bool.not_eq_true,Q.St _ (Q.lt hj)]
  constructor
  .rintro⟨p,hp,he⟩;obtain⟨c,hc,hp⟩:=iQ.mp hp;have hc:=eM.mp hc;unfold dD at hp;obtain⟨j,hj,rfl⟩:=cT.mp hp;obtain⟨hj,OF⟩:=List.mem_filter.mp hj;have hj:=eM.mp hj;have he:((D.X j:Nat):Int)=(D.X i:Nat):=he;obtain rfl:=Q.ord.inj hj J (by exact_mod_cast he);obtain⟨h1,h2⟩:=(hs _ hj c hc).mp OF;exact⟨h1,c,hc,h2⟩
  .rintro⟨h1,c,hc,h2⟩;have h3:=(hs i J c hc).mpr ⟨h1,h2⟩;refine⟨fP D i,iQ.mpr ⟨c,eM.mpr hc,?_⟩,rfl⟩;unfold dD;exact cT.mpr ⟨i,List.mem_filter.mpr ⟨eM.mpr J,h3⟩,rfl⟩
 cases h:eg (jo D T 3) (D.X i:Int) with
 |true=>exact(beq_iff_eq.mpr (OE.mp h)).symm
 |false=>exact(eY.mpr λe=>by rw[OE.mpr e] at h;cases h).symm
end
theorem jr (f a r):(bo cm (il f a r)).length=(f 0).length+(f 1).length+(f 2).length+(f 3).length+(f 4).length+(f 5).length+(f 6).length+(f 7).length+24+a.length+r.length:=by
 simp only[il,bo,cm,rQ,List.flatMap_nil,eh,fu,List.length_nil];simp+arith
theorem xx {P:Nat->Prop} {f a r} (hf:∀i<8,∀c∈f i,P c) (ha:∀c∈a,P c) (hr:∀c∈r,P c) (OE:P 13) (J:P 10):∀c∈bo cm (il f a r),P c:=by
 have h2:∀c∈cm,P c:=by
  unfold cm;refine ah ?_<|ah ?_ aE
  .exact OE
  .exact J
 rw[jM];intro c hc;simp only[dk,iQ,eM] at hc;rcases hc with⟨i,hi,hc|hc⟩|hc|hc|hc|hc|hc|hc
 .exact hf i hi c hc
 all_goals first|exact h2 c hc|exact ha c hc|exact hr c hc
theorem L9 (l):mu (ae l)=bR l:=by simp[mu,ae,bR]
theorem Gw (h:∀c∈l,c<128):mv (bR l)=ae l:=by
 have e:(l.map (·.toUInt8)).map (·.toNat)=l:=by
  rw[List.map_map]
  conv=>rhs;rw[<-List.map_id l]
  refine qF λc hc=>?_;have:=h c hc;show c.toUInt8.toNat=c;simp[UInt8.toNat_ofNat];exact au this
 unfold mv bR ae;simp only[List.map_toArray,e]
section
variable {D:KD} {T m:Nat} {b:Nat->Bool} {Dr:Nat->Nat}
def lO (D:KD) (T:Nat) (b:Nat->Bool) (i:Nat):List Nat:=kF (cw b (D.X i)==T+1) (dH T (cw b (D.X i))++cK (b (D.X i)))
def gw (D:KD) (T:Nat) (b:Nat->Bool) (i:Nat):List Nat:=dH (T+1) (cw b (D.X i))++cK (b (D.X i))
def cQ (D:KD) (T:Nat) (b:Nat->Bool):List Nat:=bo cm (il (gw D T b) [46,46] (d5 T++[10,46,46,13,46,98]))
theorem jN {T} (hT:T<3):sY (d5 T):=by
 have:T=0\/T=1\/T=2:=iF hT;rcases this with rfl|rfl|rfl
 .exact .inl rfl
 .exact .inr rfl
 .exact .inl rfl
theorem rN (b):0<(cK b).length/\(cK b).length<=2:=by cases b<;>decide
variable (Q:eI D T m b Dr)
include Q
theorem eI.ln_len (J:i<8):0<(lO D T b i).length/\(lO D T b i).length<=8:=by
 have h1:=yY (T:=T) (f:=cw b (D.X i)) Q.hT (qc (Q.lt J)).2.1;have h2:=rN (b (D.X i));unfold lO kF;split<;>simp only[fu,eh]<;>lia
theorem eI.du_len (J:i<8):0<(gw D T b i).length/\(gw D T b i).length<=8:=by
 have h2:=rN (b (D.X i));have h4:=(qc (b:=b) (Q.lt J)).2.1;have hT:=Q.hT;unfold gw dH;split<;>simp only[fu,eh,List.length_replicate]<;>lia
theorem eI.du_signs:∀c∈gw D T b i,c=33\/c=46\/c=120:=kH (k:=false) (T:=T+1)
theorem eI.made (e:Nat->Nat):co (qW (lO D T b) (λi=>eE (e i)) (d5 T))=bo cm (il (lO D T b) [46] (d5 T)):=
 H8 (jN Q.hT) (λi U c hc=>by rcases kH c hc with h|h|h<;>subst h<;>decide) (λi J h=>by have:=(Q.ln_len J).1;rw[h] at this;cases this)
end
section
variable {w:World} {D:KD} {T m:Nat} {b:Nat->Bool} {Dr:Nat->Nat} (Q:eI D T m b Dr)
def j8 (D:KD) (T:Nat) (b:Nat->Bool):List Nat:=bo cm (il (lO D T b) [46] (d5 T))
def jt (D:KD) (T:Nat) (b:Nat->Bool):List Nat:=j8 D T b++[10,46,13,46,98]
def s8 (D:KD) (T:Nat) (b:Nat->Bool):List Nat:=bo cm (il (gw D T b) [46,46] (d5 T))
theorem yZ (J:∀i<8,(f i).length<=8) (ha:a.length<=2) (hr:r.length<=1):((il f a r).map λz=>z.length+cm.length).sum<=100000:=by
 have h0:=J 0 (by decide);have h1:=J 1 (by decide);have h2:=J 2 (by decide);have h3:=J 3 (by decide);have h4:=J 4 (by decide);have h5:=J 5 (by decide);have h6:=J 6 (by decide);have h7:=J 7 (by decide);simp only[il,cm,de,fK,fu,List.length_nil,List.sum_cons,List.sum_nil];exact au (ax ha (ax hr (ax h0 (ax h1 (ax h2 (ax h3 (ax h4 (ax h5 (ax h6 h7)))))))))
theorem oA {T} (hT:T<3):(d5 T).length<=1:=by
 rcases jN hT with h|h<;>rw[h]<;>decide
theorem Ic (D T b):Bd D T (λi=>ae (lO D T b i)) (λi=>ae (gw D T b i)) (ae (d5 T)) (ae (j8 D T b)) (ae (jt D T b)) (ae (cQ D T b)) (ae (s8 D T b)) (ae (cQ D T b)) (bR (cQ D T b))=
   [iz 10 (ae cm) ((il (lO D T b) [46] (d5 T)).map ae) (ae (j8 D T b)),dm (ae (j8 D T b)) (ae (j8 D T b)) false,a6 (ae (j8 D T b)) (ae [10,46,13,46,98]) (ae (jt D T b)),uw (ae (jt D T b)),qx (mu (ae (jt D T b))) (bR (cQ D T b)),qw (bR (cQ D T b))]++
   (((List.range 8).flatMap λi=>[bB "int.__add__" (T:Nat) 1 ((T+1:Nat):Int),bd 6 D.fSt (D.X i),Bc (T+1) (D.St (D.X i)),bd 8 D.fWd (D.X i),a6 (ui (T+1) (D.St (D.X i))) (D.Wd (D.X i)) (ae (gw D T b i))])++
   [kM (mv (bR (cQ D T b))) (ae (cQ D T b)),iz 17 (ae cm) ((il (gw D T b) [46,46] (d5 T)).map ae) (ae (s8 D T b)),a6 (ae (s8 D T b)) (ae [10,46,46,13,46,98]) (ae (cQ D T b)),dm (ae (cQ D T b)) (ae (cQ D T b)) false]):=by kernel_rfl
include Q
theorem eI.sent:bA true (jt D T b)=cQ D T b:=
 H9 (jN Q.hT) (λi U c hc=>by rcases kH c hc with h|h|h<;>subst h<;>decide) (λi J=>Fi Q.hT (qc (Q.lt J)).1 (qc (Q.lt J)).2.1 _)
theorem eI.len1:(j8 D T b).length<=90:=by
 have h:=λ{i} (hi:i<8)=>(Q.ln_len hi).2;have h0:=h (i:=0) (by decide);have J:=h (i:=1) (by decide);have h2:=h (i:=2) (by decide);have h3:=h (i:=3) (by decide);have h4:=h (i:=4) (by decide);have h5:=h (i:=5) (by decide);have h6:=h (i:=6) (by decide);have h7:=h (i:=7) (by decide);have hr:=oA Q.hT;unfold j8;rw[jr];show _+1+_<=90;exact au (ax h0 (ax J (ax h2 (ax h3 (ax h4 (ax h5 (ax h6 (ax h7 hr))))))))
theorem eI.dlen (r) (hr:r.length<=7):(bo cm (il (gw D T b) [46,46] r)).length<=97:=by
 have h:=λ{i} (hi:i<8)=>(Q.du_len hi).2;have h0:=h (i:=0) (by decide);have J:=h (i:=1) (by decide);have h2:=h (i:=2) (by decide);have h3:=h (i:=3) (by decide);have h4:=h (i:=4) (by decide);have h5:=h (i:=5) (by decide);have h6:=h (i:=6) (by decide);have h7:=h (i:=7) (by decide);rw[jr];show _+2+_<=97;exact au (ax hr (ax h0 (ax J (ax h2 (ax h3 (ax h4 (ax h5 (ax h6 h7))))))))
theorem eI.slen:(cQ D T b).length<=97:=Q.dlen _ (by have:=oA Q.hT;rw[eh];show _+6<=7;exact(au this))
theorem eI.asc1:∀c∈jt D T b,c<128:=λc hc=>by
 rcases dk.mp hc with hc|hc
 .refine xx (P:=λc=>c<128) (λi U c hc=>?_) (by decide) (λc hc=>?_) (by decide) (by decide) c hc
  .rcases kH c hc with h|h|h<;>subst h<;>decide
  .rcases jN Q.hT with h|h<;>rw[h] at hc<;>simp at hc;subst hc;decide
 .exact(by decide:∀c∈[10,46,13,46,98],c<128) c hc
theorem eI.asc2:∀c∈cQ D T b,c<128/\c≠34:=λc hc=>by
 refine xx (P:=λc=>c<128/\c≠34) (λi U c hc=>?_) (by decide) (λc hc=>?_) (by decide) (by decide) c hc
 .rcases Q.du_signs c hc with h|h|h<;>subst h<;>decide
 .rcases dk.mp hc with hc|hc
  .rcases jN Q.hT with h|h<;>rw[h] at hc<;>simp at hc;subst hc;decide
  .exact(by decide:∀c∈[10,46,46,13,46,98],c<128/\c≠34) c hc
theorem eI.bd_hooks:∀f∈Bd D T (λi=>ae (lO D T b i)) (λi=>ae (gw D T b i)) (ae (d5 T)) (ae (j8 D T b)) (ae (jt D T b)) (ae (cQ D T b)) (ae (s8 D T b)) (ae (cQ D T b)) (bR (cQ D T b)),ai w 400 f:=by
 ext w D T m b Dr ⟨Q⟩;have l1:=Q.len1;have ls:=Q.slen;have lr:=oA Q.hT;have l2:(jt D T b).length<=95:=by unfold jt;rw[eh];show _+5<=95;exact au l1
 have l0:0<(jt D T b).length:=by unfold jt;rw[eh];show 0<_+5;exact iT _
 have OK:0<(cQ D T b).length:=by unfold cQ;rw[jr];simp+arith
 have OF:(s8 D T b).length<=97:=Q.dlen _ ((au lr));have OI:mv (bR (cQ D T b))=ae (cQ D T b):=Gw λc hc=>(Q.asc2 c hc).1;have hq:ai w 400 (qx (mu (ae (jt D T b))) (bR (cQ D T b))):=by
  rw[L9,<-Q.sent];exact AH l0 ((au l2)) Q.asc1
 have OE:ai w 400 (qw (bR (cQ D T b))):=AD (λc hc=>by
  have OG:c∈(cQ D T b).map (·.toUInt8):=hc;obtain⟨x,hx,rfl⟩:=cT.mp OG;have:=(Q.asc2 x hx).1;show x.toUInt8.toNat<128;simp[UInt8.toNat_ofNat];lia) (by simp[bR];exact OK) (by simp[bR];exact(au ls))
 have OJ:ai w 400 (kM (mv (bR (cQ D T b))) (ae (cQ D T b))):=by
  rw[OI];refine(uT ((au ls)) (oD.mpr λc hc=>jW (Q.asc2 c hc).1) (z0 _ ?_)).mono (by decide);intro h;have h':34∈cQ D T b:=by simpa[ae] using h
  exact(Q.asc2 34 h').2 rfl
 have OH:s8 D T b++[10,46,46,13,46,98]=cQ D T b:=by unfold s8 cQ;exact Kp
 have e:=Ic D T b;rw[e];intro f hf;rcases dk.mp hf with hf|hf
 .exact ah (P:=λf=>ai w 400 f) (ly (yZ (λi J=>(Q.ln_len J).2) (by decide) lr) (bC l1 (by decide))) (ah (f6 (by simp)) (ah (ez (bC (Nat.add_le_add_right l1 5) (by decide))) (ah (AA (by simpa[ae] using Q.asc1) (by rw[bz];exact l0) (by simp only[ae,List.size_toArray];exact(au l2))) (ah hq (ah OE aE))))) f hf
 .rcases dk.mp hf with hf|hf
  .obtain⟨i,J,hf⟩:=iQ.mp hf;have J:=eM.mp J;have hx:=Q.lt J;have hs:=qc (b:=b) hx;have hT:=Q.hT;refine ah (P:=λf=>ai w 400 f) (qN (by push_cast;rfl)) (ah (bK hx) (ah ?_ (ah (bK hx) (ah ?_ aE)))) f hf
   .rw[Q.St _ hx];exact(Fe (iT _) (by assumption) hs.1 hs.2.1).mono (by decide)
   .rw[Q.St _ hx,Q.Wd _ hx,Ko];refine ez (a:=dH (T+1) (cw b (D.X i))) (b:=cK (b (D.X i))) ?_;have:=(Q.du_len J).2;unfold gw at this;rw[eh] at this;exact au this
  .refine ah (P:=λf=>ai w 400 f) OJ (ah (ly (yZ (λi J=>(Q.du_len J).2) (by decide) lr) (bC OF (by decide))) (ah ?_ (ah (f6 (by simp)) aE))) f hf;rw[<-OH];exact ez (bC (Nat.add_le_add_right OF 6) (by decide))
end
theorem Ma {w:World} {D:KD} {T m:Nat} {b:Nat->Bool} {Dr:Nat->Nat} (Q:eI D T m b Dr) {n sc ep ll tr tm tT:Nat} {K:Nat->Int×Nat} {v:Nat->Value} {q:Bool} {tl:Nat->Nat} {R:List ad} {bs:List Stmt} (hb:bs=((dc w).drop 4).take 4)
  (h3:v 3=.ref (ll+158)) (h4:v 4=.str (ae (d5 T)) (tr+1)) (h5:v 5=.str (ae (j8 D T b)) (tm+1)) (F:aj (Fg D n sc ep ll T tT K v q (λi=>ae (lO D T b i)) tl++R)):
  WX w 310 (execs bs (br w n)) (Fg D n sc ep ll T tT K v q (λi=>ae (lO D T b i)) tl++R)
   (λf L'=>f=.next/\aj L'/\∃ep K ts dv,L'=Be D n sc ep T tT K (aD (aD v 6 (.str (ae (cQ D T b)) (ts+1))) 7 dv) q++R):=by
 have J:mv (bR (cQ D T b))=ae (cQ D T b):=Gw λc hc=>(Q.asc2 c hc).1;have hr:=L7 w D n sc ep ll tr tm T tT K v q (λi=>ae (lO D T b i)) (λi=>ae (gw D T b i)) tl (ae (d5 T)) (ae (j8 D T b)) (ae (jt D T b)) (ae (cQ D T b)) (ae (s8 D T b)) (ae (cQ D T b)) (bR (cQ D T b));rw[Ff h3 h4 h5,J] at hr;refine WX.stmP (hs:=Bd D T (λi=>ae (lO D T b i)) (λi=>ae (gw D T b i)) (ae (d5 T)) (ae (j8 D T b)) (ae (jt D T b)) (ae (cQ D T b)) (ae (s8 D T b)) (ae (cQ D T b)) (bR (cQ D T b))) (D₀:=310) (dh:=400) (by decide) (by decide) (by decide) F Q.bd_hooks 24 800 Gu [0,2,3,4,5,6,7,8] rfl (λU U U U=>.next)
  (λU U U r o=>Be D n sc (bD (o 0)) T tT (KO (o 0)) (aD (aD v 6 (.str (ae (cQ D T b)) ((r 4).x+1))) 7 (.ref ((r 4).n+1+158))) q)
  (λn' t g r=>?_) λn' t g r o F2=>⟨rfl,F2,_,_,_,_,rfl⟩
 have z:=hr n' t g r;subst hb;exact z
section
open Builtin.Str (occurrences partsBetween strSub)
def qY:Nat->List Str->List Value
 |_,[]=>[]
 |t,p::r=>.str p (t+1)::qY (t+1) r
theorem xy:∀(ps:List Str) (t:Nat),strsFrom (t+1) ps=qY t ps
 |[],_=>rfl
 |p::r,t=>by unfold strsFrom qY;rw[xy r (t+1)]
def qA (x:Str) (ps:List Str):aq:=λc _=>some ⟨[],[(c,.call (.builtin "str.split") ⟨[.str x (dF (bI c 0)+1),.str gJ (dF (bI c 1)+1)],[]⟩)],.gen λρ=>⟨.ok (.ret (.ref (ρ.x+158))),[],[⟨ρ.x+158,aa (qY ρ.y ps) 0⟩]⟩⟩
theorem Bf {w dh x ps} (h1:(decide (x.length<gJ.length)||decide (Builtin.Str.strKind x<Builtin.Str.strKind gJ))=false)
  (hf:(occurrences x gJ 0 x.length (x.length+1)).isEmpty=false) (hx:x.length<=sizeLine) (hp:partsBetween x (occurrences x gJ 0 x.length (x.length+1)) gJ.length=ps) (hn:ps.length<=sizeLine):ai w dh (qA x ps):=by
 refine bj λc lk A s hA hT hq=>?_;obtain⟨n,J,OE,ht⟩:=hT.nat;refine fE F.slot_str_split (typeIs_str s _ _) F.entry_str_split (F.args_str_split_2 _ _) (meets_str_split_sep x gJ _ _ h1 rfl hf hx (by rw[hp];exact hn)) ?_;rw[hp];refine⟨⟨n+1,J+ps.length,s.gens.size,n,J,0⟩,by rw[OE],?_⟩;have P:=cJ.same (s:=s) (n:=n) (t:=J+ps.length) (x:=n) (y:=J) (z:=0) (r:=.ok (.ret (.ref (n+158)))) OE (au (fk ht));have P2:=P.push (x:=aa (qY J ps) 0) rfl;have e3:(aa (qY J ps) 0)={cls:=Value.type "list",data:=Data.seq (strsFrom s.toks ps).toArray}:=by
  rw[ht,xy];rfl
 rw[<-e3];have e4:J+ps.length+1=s.toks+ps.length:=Iu (fk ht) (ii ht);rw[e4] at P2;exact P2
def Kr (v:Nat->Value) (ts:Nat) (S:Str):Nat->Value:=aD v 6 (.str S (ts+1))
theorem Mb (w n sc ep ts K v q o S ps n' t g ρ):
  ay (vL w 310 400 [qA S ps]) 60 default .base (a9 (((dc w).drop 8).take 1) (br w n)) 173041255584 [⟨n+158,bF (fp q 6) ep K sc (Kr v ts S)⟩,⟨n+171,af o⟩] n' t g [ρ] [0,1,2]
   (.fin (.done .next)) (([⟨n+158,bF (fp q 6) ep K sc (Kr v ts S)⟩,⟨n+171,af (some (.ref (ρ.x+158)))⟩,⟨ρ.x+158,aa (qY ρ.y ps) 0⟩]:List ad).map some) []:=by revert w q;exact d9
def Bg (D:KD) (m:Nat) (ps:List Str) (Y:Nat->Str):List aq:=
 [eA 2 (λi=>(D.X i:Int)) (λi=>D.tX i+1) 0 (m^^^0),c6 4 ps (m^^^0) (Y 0),eA 2 (λi=>(D.X i:Int)) (λi=>D.tX i+1) 1 (m^^^1),c6 4 ps (m^^^1) (Y 1),eA 2 (λi=>(D.X i:Int)) (λi=>D.tX i+1) 2 (m^^^2),c6 4 ps (m^^^2) (Y 2),eA 2 (λi=>(D.X i:Int)) (λi=>D.tX i+1) 3 (m^^^3),c6 4 ps (m^^^3) (Y 3),eA 2 (λi=>(D.X i:Int)) (λi=>D.tX i+1) 4 (m^^^4),c6 4 ps (m^^^4) (Y 4),eA 2 (λi=>(D.X i:Int)) (λi=>D.tX i+1) 5 (m^^^5),c6 4 ps (m^^^5) (Y 5),eA 2 (λi=>(D.X i:Int)) (λi=>D.tX i+1) 6 (m^^^6),c6 4 ps (m^^^6) (Y 6),eA 2 (λi=>(D.X i:Int)) (λi=>D.tX i+1) 7 (m^^^7),c6 4 ps (m^^^7) (Y 7)]
def Fm (D:KD) (n ta ty:Nat) (ps:List Str):List ad:=[⟨n+168,af (some (.ref (D.aR+158)))⟩,⟨n+167,af (some (.ref (D.aW+158)))⟩,D.lW,⟨n+171,af (some (.ref (ta+158)))⟩,⟨ta+158,aa (qY ty ps) 0⟩]
def Gx:Nat:=0xa6298a629800298a6000a6294a5294a5000a5294a529400294a50000000003+((rp 0xa6298a629800298a729ca729c00008a4290a4004a8288a2288a2284a32a0a8298a6298a6 0x8000000000800000000000000000000000000000000 290 8)+0x280a02a0a82a0aa<<<2320)<<<250
theorem Mc (D m n ta ty p0 p1 p2 p3 p4 p5 p6 p7 p8 p9 pa pb pc Y n' t g r):∀w,ay (vL w 310 400 (Bg D m [p0,p1,p2,p3,p4,p5,p6,p7,p8,p9,pa,pb,pc] Y)) 600 default .base (a9 (((dc w).drop 9).take 1) (br w n)) Gx (Fm D n ta ty [p0,p1,p2,p3,p4,p5,p6,p7,p8,p9,pa,pb,pc]) n' t g (bO r 0 8) [0,1,2,3,7]
   (.fin (.done .next)) (([⟨n+168,af (some (.ref (n'+2+158)))⟩,⟨n+167,af (some (.ref (D.aW+158)))⟩,D.lW,⟨n+171,af (some (.ref (ta+158)))⟩,⟨n'+2+158,aa (ap (bi Y λx=>(r x).x)) 8⟩]:List ad).map some) []:=aT
def ir (D:KD) (T:Nat) (b:Nat->Bool):List (List Nat):=il (gw D T b) [46,46] (d5 T++[10,46,46,13,46,98])
theorem eF (h:13∉p):j3 p:=λk hk=>bh (List.mem_of_getElem? hk) h
theorem Bh (hr:sY r):j3 (r++[10,46,46,13,46,98]):=by
 have h:∀l,(List.range l.length).all (λk=>l[k]? != some 13||(decide (k+1<l.length)&&l[k+1]? != some 10))=true->j3 l:=λl h k hk=>by
  have J:k<l.length:=(List.getElem?_eq_some_iff.mp hk).1;have:=oD.mp h k (eM.mpr J);rw[hk] at this;simpa using this
 rcases hr with rfl|rfl
 .exact h _ (by decide)
 .exact h _ (by decide)
section
variable {w:World} {D:KD} {T m:Nat} {b:Nat->Bool} {Dr:Nat->Nat} (Q:eI D T m b Dr)
include Q
theorem eI.du13:13∉gw D T b i:=λh=>by rcases Q.du_signs 13 h with h|h|h<;>exact bh h (by decide)
theorem eI.clean:∀p∈ir D T b,j3 p:=by
 unfold ir il;refine ah ?_<|ah ?_<|ah ?_<|ah ?_<|ah ?_<|ah ?_<|ah ?_<|ah ?_<|ah ?_<|ah ?_<|ah ?_<|ah ?_<|ah ?_ aE
 .exact eF Q.du13
 .exact eF Q.du13
 .exact eF Q.du13
 .exact eF Q.du13
 .exact eF Q.du13
 .exact eF Q.du13
 .exact eF Q.du13
 .exact eF Q.du13
 .exact eF (by decide)
 .exact eF (by decide)
 .exact eF (by decide)
 .exact eF (by decide)
 .exact Bh (jN Q.hT)
theorem eI.split:ai w 400 (qA (ae (cQ D T b)) ((ir D T b).map ae)):=by
 have hs:cQ D T b=bo cm (ir D T b):=rfl;have ho:=xt (ps:=ir D T b) (List.cons_ne_nil _ _) Q.clean;have hp:=xu (ps:=ir D T b) (List.cons_ne_nil _ _) Q.clean;have hl:=Q.slen;rw[<-hs] at ho hp;have hb:(97:Nat)<=sizeLine:=by decide
 refine Bf ?_ (by rw[ho];rfl) (by rw[bz];exact(au (ax hl hb))) hp (by rw[lQ];exact(by decide:13<=sizeLine));have h1:Builtin.Str.strKind (ae (cQ D T b))=1:=by
  unfold Builtin.Str.strKind;rw[if_pos];rw[Array.all_eq_true'];intro c hc;have J:c∈cQ D T b:=by simpa[ae] using hc
  have:=(Q.asc2 c J).1;exact jW ((au this))
 have h2:¬(ae (cQ D T b)).length<gJ.length:=by
  rw[bz];have:24<=(cQ D T b).length:=by unfold cQ;rw[jr];simp+arith
  show¬_<2;exact Nat.not_lt_of_le (au this)
 rw[h1];simp only[Bool.or_eq_false_iff,decide_eq_false_iff_not];exact⟨h2,by decide+kernel⟩
theorem Id {n sc ep ts:Nat} {K:Nat->Int×Nat} {v:Nat->Value} {q:Bool} {o:Option Value} {R:List ad} {bs:List Stmt} (hb:bs=((dc w).drop 8).take 1) (h6:v 6=.str (ae (cQ D T b)) (ts+1))
  (F:aj ([⟨n+158,bF (fp q 6) ep K sc v⟩,⟨n+171,af o⟩]++R)):
  WX w 310 (execs bs (br w n)) ([⟨n+158,bF (fp q 6) ep K sc v⟩,⟨n+171,af o⟩]++R)
   (λf L'=>f=.next/\aj L'/\∃ta ty,L'=[⟨n+158,bF (fp q 6) ep K sc v⟩,⟨n+171,af (some (.ref (ta+158)))⟩,⟨ta+158,aa (qY ty ((ir D T b).map ae)) 0⟩]++R):=by
 have hv:Kr v ts (ae (cQ D T b))=v:=cP h6;have J:=Mb w n sc ep ts K v q o (ae (cQ D T b)) ((ir D T b).map ae);rw[hv] at J;exact WX.stmP (hs:=[qA (ae (cQ D T b)) ((ir D T b).map ae)]) (D₀:=310) (dh:=400) (by decide) (by decide) (by decide) F (fq Q.split) 1 60 _ [0,1,2] rfl (λU U U U=>.next)
  (λU U U r U=>[⟨n+158,bF (fp q 6) ep K sc v⟩,⟨n+171,af (some (.ref ((r 0).x+158)))⟩,⟨(r 0).x+158,aa (qY (r 0).y ((ir D T b).map ae)) 0⟩])
  (λn' t g r=>by subst hb;exact J n' t g (r 0)) λn' t g r o' F2=>⟨rfl,F2,_,_,rfl⟩
def Gy (D:KD) (T:Nat) (b:Nat->Bool) (J:Nat) (tR:Nat->Nat):KD:={D with R:=λx=>ae (dH (T+1) (cw b x)++cK (b x)),tR:=tR,aR:=J,eR:=8}
theorem eI.rw_hooks:∀f∈Bg D m ((ir D T b).map ae) (λx=>ae (dH (T+1) (cw b x)++cK (b x))),ai w 400 f:=by
 ext w D T m b Dr ⟨Q⟩;have e:Bg D m ((ir D T b).map ae) (λx=>ae (dH (T+1) (cw b x)++cK (b x)))=(List.range 8).flatMap λx=>[eA 2 (λi=>(D.X i:Int)) (λi=>D.tX i+1) (x:Nat) (m^^^x),c6 4 ((ir D T b).map ae) (m^^^x) (ae (dH (T+1) (cw b x)++cK (b x)))]:=rfl;rw[e];intro f J;ext f ⟨J⟩;obtain⟨x,hx,J⟩:=iQ.mp J;ext x ⟨hx,J⟩;have hx:=eM.mp hx;have hj:m^^^x<8:=Eg m Q.hm x hx;have hX:D.X (m^^^x)=x:=by
  rw[Q.X _ hj];exact(by decide+kernel:∀m<8,∀x<8,m^^^(m^^^x)=x) m Q.hm x hx
 have hd:gw D T b (m^^^x)=dH (T+1) (cw b x)++cK (b x):=by unfold gw;rw[hX]
 refine ah (P:=λf=>ai w 400 f) (sm hj (by rw[hX]) λi hi e=>?_) (ah (jQ ?_ ((au hj))) aE) f J
 .have:D.X i=D.X (m^^^x):=by rw[hX];exact_mod_cast e
  have:=Q.ord.inj ((au (ax hj hi))) hj this;exact lf (ax hi (ii this))
 .rw[<-hd];generalize m^^^x=j at hj;have:j=0\/j=1\/j=2\/j=3\/j=4\/j=5\/j=6\/j=7:=y3 hj;rcases this with rfl|rfl|rfl|rfl|rfl|rfl|rfl|rfl<;>rfl
theorem Fo {n ta ty R bs} (hb:bs=((dc w).drop 9).take 1)
  (F:aj (Fm D n ta ty ((ir D T b).map ae)++R)):
  WX w 310 (execs bs (br w n)) (Fm D n ta ty ((ir D T b).map ae)++R)
   (λf L'=>f=.next/\aj L'/\∃J tR,L'=[⟨n+168,af (some (.ref (J+158)))⟩,⟨n+167,af (some (.ref (D.aW+158)))⟩,D.lW,⟨n+171,af (some (.ref (ta+158)))⟩,(Gy D T b J tR).lR]++R):=by
 refine WX.stmP (hs:=Bg D m ((ir D T b).map ae) (λx=>ae (dH (T+1) (cw b x)++cK (b x)))) (D₀:=310) (dh:=400) (by decide) (by decide) (by decide) F Q.rw_hooks 8 600 Gx [0,1,2,3,7] rfl (λU U U U=>.next)
  (λn' U U r U=>[⟨n+168,af (some (.ref (n'+2+158)))⟩,⟨n+167,af (some (.ref (D.aW+158)))⟩,D.lW,⟨n+171,af (some (.ref (ta+158)))⟩,⟨n'+2+158,aa (ap (bi (λx=>ae (dH (T+1) (cw b x)++cK (b x))) λx=>(r x).x)) 8⟩])
  (λn' t g r=>?_) λn' t g r o' F2=>⟨rfl,F2,n'+2,_,rfl⟩
 have z:=Mc D m n ta ty (ae (gw D T b 0)) (ae (gw D T b 1)) (ae (gw D T b 2)) (ae (gw D T b 3)) (ae (gw D T b 4)) (ae (gw D T b 5)) (ae (gw D T b 6)) (ae (gw D T b 7)) (ae []) (ae []) (ae []) (ae [46,46]) (ae (d5 T++[10,46,46,13,46,98])) (λx=>ae (dH (T+1) (cw b x)++cK (b x))) n' t g r w;subst hb;exact z
theorem eI.next (hT:T+1<3):eI (Gy D T b ra tR) (T+1) m b Dr where
 hm:=Q.hm
 hT:=hT
 X:=Q.X
 S:=Q.S
 R:=λU U=>rfl
 St:=Q.St
 Wd:=Q.Wd
 dr:=Q.dr
end
end
def Gz (D:KD) (n sc ep:Nat) (K:Nat->Int×Nat) (v:Nat->Value) (q:Bool) (T tT:Nat) (J o2:Option Value) (ea:Nat) (E:Nat->Str) (tE:Nat->Nat) (TB R:List ad):List ad:=
 kh D n sc ep K v q T tT++([⟨n+170,af J⟩]++(dL D++([⟨n+171,af o2⟩,⟨ea+158,aa (ap (bi E tE)) 8⟩]++(D.ins++(TB++R)))))
def Ie (D:KD) (T:Nat) (b:Nat->Bool) (n sc tT ea:Nat) (v:Nat->Value) (E:Nat->Str) (tE:Nat->Nat) (R:List ad) (f:Flow) (L':List ad):Prop:=
 f=.next/\aj L'/\∃ep K v' J o2 TB ra tR,dN TB/\v' 1=v 1/\v' 2=v 2/\L'=Gz (Gy D T b ra tR) n sc ep K v' false T tT J o2 ea E tE TB R
theorem Ig (e):(eE e).length<=2:=by unfold eE;split<;>decide
theorem Ih:∀{w:World} {D:KD} {T m:Nat} {b:Nat->Bool} {Dr:Nat->Nat} (Q:eI D T m b Dr) {n sc ep tT ea:Nat} {K:Nat->Int×Nat} {v:Nat->Value} {q:Bool} {o1 o2:Option Value} {e:Nat->Nat} {tE:Nat->Nat} {TB R:List ad} {b0 b1 b3 b4 b8 b9:List Stmt}
  (e0:b0=(dc w).take 1) (e1:b1=((dc w).drop 1).take 2) (e3:b3=((dc w).drop 3).take 1) (e4:b4=((dc w).drop 4).take 4) (e8:b8=((dc w).drop 8).take 1) (e9:b9=((dc w).drop 9).take 1)
  (OI:jn T 0 TB) (OJ:v 1=.ref (D.aSO+158)) (OK:v 2=.ref (ea+158)) (F:aj (Gz D n sc ep K v q T tT o1 o2 ea (λi=>ae (eE (e i))) tE TB R)),WX w 310 (execs (b0++(b1++(b3++(b4++(b8++b9))))) (br w n)) (Gz D n sc ep K v q T tT o1 o2 ea (λi=>ae (eE (e i))) tE TB R) (Ie D T b n sc tT ea v (λi=>ae (eE (e i))) tE R):=by
 ext w D T m b Dr:0;intro Q;ext n sc ep tT ea K v q o1 o2 e tE:0;ext TB R b0 b1 b3 b4 b8 b9:0;intro e0 e1 e3 e4 e8 e9 OI OJ OK F;have ON:∀x<8,0<(dH T (cw b x)++cK (b x)).length/\(dH T (cw b x)++cK (b x)).length<=50:=λx hx=>⟨(Q.kw.rOk x hx).2.2,(Q.kw.rOk x hx).2.1⟩;refine WX.re [kh D n sc ep K v q T tT,[⟨n+170,af o1⟩],dL D,[⟨n+171,af o2⟩,⟨ea+158,aa (ap (bi (λi=>ae (eE (e i))) tE)) 8⟩],D.ins,TB,R] (.r [0,1,2,3,4,5,6]) (.r [0,1,2,4,5,3,6]) rfl F λF1=>?_;refine WX.app (WX.mono (LZ e0 Q.kw Q.hall OI OJ F1) (Lm λkn ek OE OH F2=>⟨rfl,?_⟩));ext kn ek OE ⟨OH,F2⟩;refine WX.re [[⟨n+170,af (some (.ref (kn+158)))⟩,⟨kn+158,aa (am (jo D T 3)) ek⟩],kh D n sc ep K v q T tT,dL D,D.ins,OE,[⟨n+171,af o2⟩,⟨ea+158,aa (ap (bi (λi=>ae (eE (e i))) tE)) 8⟩],R] (.r [0,1,2,3,4,5,6]) (.r [0,1,2,5,3,4,6]) rfl F2 λF3=>?_;refine WX.app (WX.pk [0,4,8,1,5,10,2,3] rfl rfl F3 λF4=>?_);refine WX.mono (L4 (D:=D) (T:=T) (tT:=tT) (sc:=sc) (ep:=ep) (K:=K) (v:=v) (q:=q) (kn:=kn) (ek:=ek) (rL:=λx=>dH T (cw b x)++cK (b x)) (kb:=λi=>cw b (D.X i)==T+1) e1 Q.hT (λi hi=>Q.lt hi) Q.R ON (λi hi=>Q.known hi) F4) (Ov λep K ll tl tr F5=>⟨rfl,?_⟩);ext ep K ll tl tr ⟨F5⟩;refine WX.app (WX.pk [0,1,14] rfl rfl F5 λF6=>?_);refine WX.mono (L6 (ls:=lO D T b) (es:=λi=>eE (e i)) (rest:=d5 T) e3 (λi hi=>bC (Q.ln_len hi).2 (by decide)) (λi hi=>Ig _) (oA Q.hT) OK rfl rfl F6) ?_;rw[Q.made];refine MA λep K tm F7=>⟨rfl,?_⟩;ext ep K tm ⟨F7⟩;refine WX.app (WX.pk [0,1,8,4,5,9,12,10,13] rfl rfl F7 λF8=>?_);refine WX.mono (Ma Q e4 rfl rfl rfl F8) (Ou λep K ts dv F9=>⟨rfl,?_⟩);ext ep K ts dv ⟨F9⟩;refine WX.app (WX.pk [0,13] rfl rfl F9 λOL=>?_);refine WX.mono (Id (ts:=ts) Q e8 rfl OL) (CB λta ty OF=>⟨rfl,?_⟩);ext ta ty ⟨OF⟩;refine WX.sel (WX.pk [12,4,5,1,2] rfl rfl OF λOM=>Fo Q e9 OM) (CB λra tR OG=>⟨OG,[5,6,1,0,7,9,12,2,14,4,8,10,3,11],[13],rfl,rfl,λJ=>?_⟩);ext ra tR ⟨OG,J⟩;have hq:fp q 6=fp false 2:=by cases q<;>rfl
 rw[hq] at J|-;exact⟨rfl,J,ep,K,aD (aD (aD (aD (aD v 3 (.ref (ll+158))) 4 (.str (ae (d5 T)) (tr+1))) 5 (.str (ae (bo cm (il (lO D T b) [46] (d5 T)))) (tm+1))) 6 (.str (ae (cQ D T b)) (ts+1))) 7 dv,some (.ref (kn+158)),some (.ref (ta+158)),OE,ra,tR,OH,rfl,rfl,rfl⟩
def s9 (w:World) (n it:Nat):Code:=.forLoop (ky (vy w)) (.ref (it+158)) (dc w) [] (br w n)
theorem tA (w):su (ky (vy w))=true:=by kernel_rfl
theorem xz (w n it):bq (s9 w n it):=ba rfl
theorem Bi (l:List Stmt):l=l.take 1++((l.drop 1).take 2++((l.drop 3).take 1++((l.drop 4).take 4++((l.drop 8).take 1++l.drop 9)))):=by
 have h:∀(k j:Nat) (l:List Stmt),(l.drop k).take j++l.drop (k+j)=l.drop k:=λk j l=>by
  rw[<-List.drop_drop];exact List.take_append_drop j (l.drop k)
 have h0:=h 0 1 l;have J:=h 1 2 l;have h3:=h 3 1 l;have h4:=h 4 4 l;have h8:=h 8 1 l;rw[h8,h4,h3,J];exact h0.symm
theorem Dk (w):(dc w).drop 9=((dc w).drop 9).take 1:=by kernel_rfl
theorem Ii (w):dc w=(dc w).take 1++(((dc w).drop 1).take 2++(((dc w).drop 3).take 1++(((dc w).drop 4).take 4++(((dc w).drop 8).take 1++((dc w).drop 9).take 1)))):=by
 have h:=Bi (dc w);rw[Dk w] at h;exact h
theorem WX.cong {w d b b' env l} {post:Flow->List ad->Prop} (h:b=b') (hx:WX w d (execs b' env) l post):WX w d (execs b env) l post:=by subst h;exact hx
section
variable (w:World) (n n' t g:Nat)
theorem NM:∀w,ay (vL w 310 400 []) 60 default .base (a9 (((a4 w).drop 12).take 1) (br w n)) 0xffca1280a0280a0000a0280a028000280a00000000003 [] n' t g [] [1]
  (.call false default (s9 w n (n'+1)) false) (([⟨n'+1+158,cf 0 3⟩]:List ad).map some) []:=aT
theorem Md (n2 t2 g2):∀w,ay (vL w 310 400 []) 20 default .base ((bl (vL w 310 400 []) 60 default .base (a9 (((a4 w).drop 12).take 1) (br w n)) 0xffca1280a0280a0000a0280a028000280a00000000003 [] n' t g []).kont (.ok .next)) 0 [] n2 t2 g2 [] []
  (.fin (.done .next)) [] []:=aT
theorem Me:∀w,ay (vL w 310 400 []) 20 default .base (a9 ((a4 w).drop 13) (br w n)) 0 [] n' t g [] []
  (.fin (.done (.ret (.bool true)))) [] []:=aT
theorem Mf (o:Option Value) (i ti:Nat):ay (vL w 310 400 []) 20 default .base (f9 (ky (vy w)) (br w n) (.int (i:Int) (ti+1))) 164000 [⟨n+169,af o⟩] n' t g [] [0]
  (.fin (.done .next)) [some ⟨n+169,af (some (.int (i:Int) (ti+1)))⟩] []:=by kernel_rfl
theorem Mg:ay (vL w 310 400 []) 20 (.block [] (br w n)) .top (aM (.block [] (br w n))) 0 [] n' t g [] [] (.ret (.ok .next)) [] []:=by kernel_rfl
end
theorem Fq (w n):CX w 303 (.block [] (br w n)) [] (λr l'=>r=.ok .next/\l'=[]):=
 CX.run (w:=w) (d:=303) (D:=310) (dh:=400) (hk:=oR []) (bE aE) (by decide) cj (ba rfl) 0 20 0 [] (λU U U U=>.ret (.ok .next)) (λU U U U=>[])
  (λn' t g rs J=>by obtain rfl:=dI.mp J;exact Mg w n n' t g) λU U U U U U U=>⟨rfl,rfl⟩
def Ks (D:KD) (n:Nat):List ad:=[⟨n+167,af (some (.ref (D.aW+158)))⟩,⟨n+168,af (some (.ref (D.aR+158)))⟩,⟨n+166,af (some (.ref (D.aSt+158)))⟩,⟨n+164,af (some (.ref (D.aWd+158)))⟩]
def NN (D:KD) (n:Nat) (J o2:Option Value) (ea:Nat) (E:Nat->Str) (tE:Nat->Nat):List ad:=[⟨n+170,af J⟩]++(dL D++([⟨n+171,af o2⟩,⟨ea+158,aa (ap (bi E tE)) 8⟩]++D.ins))
def tD (D:KD) (n sc ep:Nat) (K:Nat->Int×Nat) (v:Nat->Value) (q:Bool) (oc:Option Value) (it:List ad) (J o2:Option Value) (ea:Nat) (E:Nat->Str) (tE:Nat->Nat) (TB R:List ad):List ad:=
 it++([⟨n+169,af oc⟩]++([⟨n+158,bF (fp q 2) ep K sc v⟩]++(Ks D n++(NN D n J o2 ea E tE++(TB++R)))))
theorem xA {D n sc ep T tT ea K v q it o1 o2 E tE TB R}:
  (Gz D n sc ep K v q T tT o1 o2 ea E tE TB (it++R)).Perm (tD D n sc ep K v q (some (.int (T:Int) (tT+1))) it o1 o2 ea E tE TB R):=
 AT.perm [it,[⟨n+169,af (some (.int (T:Int) (tT+1)))⟩],[⟨n+158,bF (fp q 2) ep K sc v⟩],Ks D n,[⟨n+170,af o1⟩],dL D,[⟨n+171,af o2⟩,⟨ea+158,aa (ap (bi E tE)) 8⟩],D.ins,TB,R] (.r [0,1,2,3,4,5,6,7,8,9]) (.r [2,1,3,4,5,6,7,8,0,9]) rfl
theorem Ij:∀{w:World} {m:Nat} {b:Nat->Bool} {Dr:Nat->Nat} {n sc it ea:Nat} {e:Nat->Nat} {tE:Nat->Nat} {R:List ad},∀k i,3 - i=k->i<=3->∀(D:KD) ep K v q oc o1 o2 TB,(i<3->eI D i m b Dr)->jn i 0 TB->v 1=.ref (D.aSO+158)->v 2=.ref (ea+158)->
  aj (tD D n sc ep K v q oc [⟨it+158,cf i (3 - i)⟩] o1 o2 ea (λi=>ae (eE (e i))) tE TB R)->
  CX w 303 (s9 w n it) (tD D n sc ep K v q oc [⟨it+158,cf i (3 - i)⟩] o1 o2 ea (λi=>ae (eE (e i))) tE TB R) (λr L'=>r=.ok .next/\aj L'/\(∀e∈R,e∈L')/\∃TB,dN TB/\∀e∈TB,e∈L'):=by
 ext w m b Dr n sc it ea e tE:0;ext R:0;intro k;induction k with
 |zero=>
  intro i hk hi D ep K v q oc o1 o2 TB hQ J OE OF F;ext i D ep K v q oc o1 o2 TB ⟨hk,hi,hQ,J,OE,OF,F⟩;obtain rfl:i=3:=by lia
  refine CX.for_ (xz _ _ _) (aX rfl) (aX rfl) (λv=>lI (tA _) _ v) ?_;show WX _ _ _ _ _;refine WX.nxtE (l:=[⟨it+158,cf 3 0⟩]) (l':=[]) (hs:=[gY 0 (it+158) 3]) (D₀:=360) (dh:=400) (by decide) (by decide) (by decide) F (ah jT aE) 1 20 169870496 [] (List.nil_sublist _) (λn' t g r=>Ga n' t g it 3 (r 0) w) λF4=>?_;refine CX.fr0 (l:=[]) F4 (Fq w n) ?_;rintro r l' ⟨h1,h2⟩;subst h1 h2;have hm:∀{X:List ad},(∀f∈X,f∈TB++R)->∀f∈X,f∈tD D n sc ep K v q oc [] o1 o2 ea (λi=>ae (eE (e i))) tE TB R:=λh e he=>fJ _ (fJ _ (fJ _ (fJ _ (fJ _ (h e he)))));exact⟨cj,λF5=>⟨rfl,F5,hm (λe he=>fJ _ he),TB,J,hm λe he=>gO _ he⟩⟩
 |succ k ih=>
  ext k ⟨ih⟩;intro i hk hi D ep K v q oc o1 o2 TB hQ J OE OF F;ext i D ep K v q oc o1 o2 TB ⟨hk,hi,hQ,J,OE,OF,F⟩;have OG:i<3:=i7 hk;have e3:3 - i=(3 - (i+1))+1:=Mh hk;rw[e3] at F|-;refine CX.for_ (xz _ _ _) (aX rfl) (aX rfl) (λv=>lI (tA _) _ v) ?_;show WX _ _ _ _ _;refine WX.nxtK (l:=[⟨it+158,cf i ((3 - (i+1))+1)⟩]) (l':=[⟨it+158,cf (i+1) (3 - (i+1))⟩]) (hs:=[gW 0 (it+158) i (3 - (i+1))]) (D₀:=360) (dh:=400) (by decide) (by decide) (by decide) F (ah gZ aE) 1 20 1184 [0] (λr=>.int (i:Int) ((r 0).x+1)) rfl (λn' t g r=>CG n' t g it i _ (r 0) w) λr F4=>?_;ext r;generalize(r 0).x=ti;show WX _ _ _ _ _;refine WX.pk [1] rfl rfl F4 λF5=>?_;refine WX.asgK (l:=[⟨n+169,af oc⟩]) (l':=[⟨n+169,af (some (.int (i:Int) (ti+1)))⟩]) (hs:=[]) (D₀:=310) (dh:=400) (by decide) (by decide) (by decide) F5 aE 20 164000 [0] rfl (λn' t g=>Mf w n n' t g oc i ti) λF6=>?_;show WX _ _ _ _ _;refine WX.pk [1] rfl rfl F6 λF7=>?_;have OI:aj (tD D n sc ep K v q (some (.int (i:Int) (ti+1))) [⟨it+158,cf (i+1) (3 - (i+1))⟩] o1 o2 ea (λi=>ae (eE (e i))) tE TB R):=F7;refine WX.as OI xA λF8=>?_;refine WX.cong (Ii _) ?_;refine WX.depth (d:=310) (WX.mono (Ih (hQ OG) rfl rfl rfl rfl rfl rfl J OE OF F8) ?_) (by decide);intro f L' h_;ext f L' ⟨h_⟩;obtain⟨hf,F9,OK,K2,v2,q1,q2,OJ,ra,tR,OL,h1,h2,hL⟩:=h_;subst hf hL;show CX _ _ _ _ _;refine CX.as F9 xA.symm λOH=>?_;exact ih (i+1) (ke hk) (by assumption) (Gy D i b ra tR) OK K2 v2 false _ q1 q2 OJ (λh=>(hQ OG).next h) OL (h1.trans OE) (h2.trans OF) OH
theorem Dl (w:World):a4 w=(a4 w).take 1++(((a4 w).drop 1).take 1++((a4 w).drop 2).take 4)++(((a4 w).drop 6).take 1++((((a4 w).drop 7).take 1++((a4 w).drop 8).take 1)++(((a4 w).drop 9).take 3++(((a4 w).drop 12).take 1++(a4 w).drop 13)))):=by
 ext w;generalize a4 w=l;have h:∀(k j:Nat) (l:List Stmt),(l.drop k).take j++l.drop (k+j)=l.drop k:=λk j l=>by
  rw[<-List.drop_drop];exact List.take_append_drop j (l.drop k)
 have h0:=h 0 1 l;have h1:=h 1 1 l;have h2:=h 2 4 l;have h6:=h 6 1 l;have h7:=h 7 1 l;have h8:=h 8 1 l;have h9:=h 9 3 l;have J:=h 12 1 l;rw[J,h9];rw[i6 ((l.drop 7).take 1),h8,h7,h6,i6,i6,h2,h1];exact h0.symm
def Fr (S:Nat->Nat->Str) (J:KD) (m:Nat) (b:Nat->Bool) (tX tR tSt tw:Nat->Nat) (xa ra sa wa:Nat):KD:=
 {X:=λk=>m^^^k,tX:=tX,S:=S,tS:=J.tS,R:=λx=>ae (46::cK (b x)),tR:=tR,St:=cw b,tSt:=tSt,Wd:=λx=>wS (b x),tWd:=tw,aW:=xa,aSO:=J.aSO,aS:=J.aS,aR:=ra,aSt:=sa,aWd:=wa,eW:=8,eSO:=J.eSO,eS:=J.eS,eR:=8,eSt:=8,eWd:=8}
theorem Ik {D0 m} (hm:m<8) {b tX tR tSt tw xa ra sa wa Dr} (hD:∀k,Dr k<4) (hS:D0.S=λx c=>dK x c Dr):eI (Fr D0.S D0 m b tX tR tSt tw xa ra sa wa) 0 m b Dr where
 hm:=hm
 hT:=by decide
 X:=λU U=>rfl
 S:=λw U c U=>by show D0.S w c=_;rw[hS];rfl
 R:=λw J=>by rw[qz (qc J).1];rfl
 St:=λU U=>rfl
 Wd:=λU U=>rfl
 dr:=hD
section
variable {w:World} {n sc:Nat}
theorem Ku:∀{ep:Nat} {K:Nat->Int×Nat} {v:Nat->Value} {D:KD} {m:Nat} {b:Nat->Bool} {Dr:Nat->Nat} {e tE:Nat->Nat} {ea:Nat} {R:List ad} {OE OF:List Stmt} (OG:OE=((a4 w).drop 12).take 1) (OH:OF=(a4 w).drop 13) (Q:eI D 0 m b Dr)
  (OI:v 1=.ref (D.aSO+158)) (OJ:v 2=.ref (ea+158)) (F:aj (tD D n sc ep K v true none [] none none ea (λi=>ae (eE (e i))) tE [⟨78,aP []⟩] R)),WX w 302 (execs (OE++OF) (br w n)) (tD D n sc ep K v true none [] none none ea (λi=>ae (eE (e i))) tE [⟨78,aP []⟩] R) (λf L'=>f=.ret (.bool true)/\(∀e∈R,e∈L')/\∃TB,dN TB/\∀e∈TB,e∈L'):=by
 revert w n sc;ext w n sc ep K v D m b Dr:0;ext e tE ea R OE OF:0;intro OG OH Q OI OJ F;refine WX.app (WX.mono (post:=λf L'=>f=.next/\aj L'/\(∀e∈R,e∈L')/\∃TB,dN TB/\∀e∈TB,e∈L') ?_ λf L' ⟨hf,F2,hR,TB,OK,hT⟩=>⟨hf,?_⟩)
 .subst OG;refine SX.of_bx (w:=w) (d:=302) ?_;refine BX.callP (l:=[]) (hs:=[]) (D₀:=310) (dh:=400) (by decide) (by decide) (by decide) F aE 0 60 _ [1] rfl default (λn' U U U=>s9 w n (n'+1)) false (λn' U U U U=>[⟨n'+1+158,cf 0 3⟩])
   (λn' t g U=>NM n n' t g w) λn' t g r o F3=>?_
  refine⟨λr L'=>r=.ok .next/\aj L'/\(∀e∈R,e∈L')/\∃TB,dN TB/\∀e∈TB,e∈L',?_,?_⟩
  .exact(Ij 3 0 rfl (by decide) D ep K v true none none none [⟨78,aP []⟩] (λU=>Q) rfl OI OJ F3).depth (by decide)
  .rintro r L' ⟨hr,F4,hx⟩;subst hr;exact BX.nil (hs:=[]) (D₀:=310) (dh:=400) (by decide) (by decide) (by decide) aE 20 0 (λn2 t2 g2=>Md n n' t g n2 t2 g2 w) F4 ⟨rfl,F4,hx⟩
 .refine WX.fr (ch:=[]) (l:=[]) F2 (λU h=>(nomatch h)) (WX.stm (hs:=λU=>[]) (D₀:=310) (dh:=400) (by decide) (by decide) (by decide) cj (λU U=>aE)
   (post:=λf l'=>f=.ret (.bool true)/\l'=[]) 0 20 0 [] (λU U U U=>.ret (.bool true)) (λU U U U=>[]) (λn' t g rs OL=>by obtain rfl:=dI.mp OL;subst OH;exact Me n n' t g w) λU U U U U U U U=>⟨rfl,rfl⟩)
   λf l' J=>by obtain⟨h1,h2⟩:=J;exact⟨[],[],λU h=>(nomatch h),λU h=>(nomatch h),cj,λU=>⟨h1,hR,TB,OK,hT⟩⟩
def Kv (n sc ep:Nat) (K:Nat->Int×Nat) (v:Nat->Value) (D:KD) (m:Nat) (b:Nat->Bool) (tX tR tSt tw tcr tE:Nat->Nat) (E:Nat->Str) (xa ra sa wa ea ca:Nat) (J:ad):List ad:=
 [⟨n+158,bF 2 ep K sc (aD v 2 (.ref (ea+158)))⟩,⟨n+167,af (some (.ref (xa+158)))⟩,⟨xa+158,aa (ap (xV m tX)) 8⟩,⟨ea+158,aa (ap (bi E tE)) 8⟩,⟨n+168,af (some (.ref (ra+158)))⟩,⟨ra+158,aa (ap (bi (λi=>ae (46::cK (b i))) tR)) 8⟩,⟨n+164,af (some (.ref (wa+158)))⟩,⟨wa+158,aa (ap (bi (λi=>wS (b i)) tw)) 8⟩,
  ⟨n+166,af (some (.ref (sa+158)))⟩,⟨sa+158,aa (ap (Go (cw b) tSt)) 8⟩,⟨ca+158,aa (ap (lK tcr)) 8⟩,D.lSO,D.lS 0,D.lS 1,D.lS 2,D.lS 3,D.lS 4,D.lS 5,D.lS 6,D.lS 7,⟨n+169,af none⟩,⟨n+170,af none⟩,⟨n+171,af none⟩,J,⟨78,aP []⟩]
theorem Kw:∀{ep:Nat} {K:Nat->Int×Nat} {v:Nat->Value} {D:KD} {m:Nat} {b:Nat->Bool} {Dr:Nat->Nat} {tX tR tSt tw tcr tE e:Nat->Nat} {xa ra sa wa ea ca:Nat} {OE:ad} {OF OG:List Stmt} (OI:OF=((a4 w).drop 12).take 1) (OJ:OG=(a4 w).drop 13) (hm:m<8) (hD:∀k,Dr k<4) (hS:D.S=λx c=>dK x c Dr) (OK:v 1=.ref (D.aSO+158))
  (F:aj (Kv n sc ep K v D m b tX tR tSt tw tcr tE (λi=>ae (eE (e i))) xa ra sa wa ea ca OE)),WX w 302 (execs (OF++OG) (br w n)) (Kv n sc ep K v D m b tX tR tSt tw tcr tE (λi=>ae (eE (e i))) xa ra sa wa ea ca OE) (λf L'=>f=.ret (.bool true)/\OE∈L'/\∃TB,dN TB/\∀e∈TB,e∈L'):=by
 revert w n sc;ext w n sc ep K v D m b Dr:0;ext tX tR tSt tw tcr tE e xa ra sa wa ea:0;ext ca OE OF OG:0;intro OI OJ hm hD hS OK F;have J:∀R,aj (tD (Fr D.S D m b tX tR tSt tw xa ra sa wa) n sc ep K (aD v 2 (.ref (ea+158))) true none [] none none ea (λi=>ae (eE (e i))) tE [⟨78,aP []⟩] R)->
   WX w 302 (execs (OF++OG) (br w n)) (tD (Fr D.S D m b tX tR tSt tw xa ra sa wa) n sc ep K (aD v 2 (.ref (ea+158))) true none [] none none ea (λi=>ae (eE (e i))) tE [⟨78,aP []⟩] R) (λf L'=>f=.ret (.bool true)/\(∀e∈R,e∈L')/\∃TB,dN TB/\∀e∈TB,e∈L'):=
  λR F=>Ku OI OJ (Ik hm hD hS) OK rfl F
 have J:=λF=>WX.mono (post':=λf L'=>f=.ret (.bool true)/\OE∈L'/\∃TB,dN TB/\∀e∈TB,e∈L') (J [⟨ca+158,aa (ap (lK tcr)) 8⟩,OE] F) λf L' OH=>by obtain⟨h1,h2,h3⟩:=OH;exact⟨h1,h2 _ (by simp),h3⟩
 have h:m=0\/m=1\/m=2\/m=3\/m=4\/m=5\/m=6\/m=7:=y3 hm;rcases h with rfl|rfl|rfl|rfl|rfl|rfl|rfl|rfl
 .exact WX.pk [20,0,1,4,8,6,21,2,11,5,9,7,22,3,12,13,14,15,16,17,18,19,24] rfl rfl F J
 .exact WX.pk [20,0,1,4,8,6,21,2,11,5,9,7,22,3,13,12,15,14,17,16,19,18,24] rfl rfl F J
 .exact WX.pk [20,0,1,4,8,6,21,2,11,5,9,7,22,3,14,15,12,13,18,19,16,17,24] rfl rfl F J
 .exact WX.pk [20,0,1,4,8,6,21,2,11,5,9,7,22,3,15,14,13,12,19,18,17,16,24] rfl rfl F J
 .exact WX.pk [20,0,1,4,8,6,21,2,11,5,9,7,22,3,16,17,18,19,12,13,14,15,24] rfl rfl F J
 .exact WX.pk [20,0,1,4,8,6,21,2,11,5,9,7,22,3,17,16,19,18,13,12,15,14,24] rfl rfl F J
 .exact WX.pk [20,0,1,4,8,6,21,2,11,5,9,7,22,3,18,19,16,17,14,15,12,13,24] rfl rfl F J
 .exact WX.pk [20,0,1,4,8,6,21,2,11,5,9,7,22,3,19,18,17,16,15,14,13,12,24] rfl rfl F J
theorem Il:∀{ep:Nat} {K:Nat->Int×Nat} {v:Nat->Value} {ps:List (Int×Nat)} {dd:Option Addr} {eps:Nat} {sl:Array (Option Value)} {b0 b1 b2 b6 b7 b8 b9 OE OF:List Stmt}
  (h0:b0=(a4 w).take 1) (h1:b1=((a4 w).drop 1).take 1) (h2:b2=((a4 w).drop 2).take 4) (h6:b6=((a4 w).drop 6).take 1) (h7:b7=((a4 w).drop 7).take 1) (h8:b8=((a4 w).drop 8).take 1) (h9:b9=((a4 w).drop 9).take 3) (OG:OE=((a4 w).drop 12).take 1) (OH:OF=(a4 w).drop 13)
  (OI:158<=sc) (J:ps.length<=63) (F:aj ([⟨n+158,bF 0 ep K sc v⟩]++eX n++([⟨sc,aV dd (ps.map cG) eps sl⟩]++[⟨78,aP []⟩]))),WX w 302 (execs (b0++(b1++b2)++(b6++((b7++b8)++(b9++(OE++OF))))) (br w n)) ([⟨n+158,bF 0 ep K sc v⟩]++eX n++([⟨sc,aV dd (ps.map cG) eps sl⟩]++[⟨78,aP []⟩])) (λf L'=>f=.ret (.bool true)/\⟨sc,aV dd (ps.map cG) eps sl⟩∈L'/\∃TB,dN TB/\∀e∈TB,e∈L'):=by
 revert w n sc;ext w n sc ep K v ps dd eps sl:0;ext b0 b1 b2 b6 b7 b8 b9 OE OF:0;intro h0 h1 h2 h6 h7 h8 h9 OG OH OI J F;refine WX.app (WX.mono (HU h0 h1 h2 OI J F) (Lp λep K v ca tcr D a C tC hC hS OJ OK F1=>⟨rfl,?_⟩));ext ep K v ca tcr D a C tC ⟨hC,hS,OJ,OK,F1⟩;refine WX.app (WX.pk [0,13,1,11,12] rfl rfl F1 λF2=>WX.mono (EY h6 (hC 0).1 OJ F2) (CB λwa tw F3=>⟨rfl,?_⟩));ext wa tw ⟨F3⟩;refine WX.app (WX.pk [15,16,0,1] rfl rfl F3 λF4=>WX.mono (E5 (W:=λi=>wS (wB C i)) (b:=wB C) h7 h8 (λU=>rfl) F4) (CB λsa tSt F5=>⟨rfl,?_⟩));ext sa tSt ⟨F5⟩;refine WX.app (WX.pk [4,17,18,6,7,2,3] rfl rfl F5 λF6=>WX.mono (HY (wl:=λi=>cK (wB C i)) h9 (λi U=>Ko _) (λi U=>by have:=rN (wB C i);exact⟨au this.1,au this.2⟩) F6) (CC λep K m e tX tE tR xa ea ra hm OL F7=>⟨rfl,?_⟩));have hE:(λk=>mQ (e k))=λi=>ae (eE (e i)):=funext λk=>Km _;rw[hE] at F7|-;exact Kw OG OH hm (λk=>(xl C k).1) hS OK F7
theorem Fs {ps:List (Int×Nat)} {dd:Option Addr} {eps:Nat} {sl:Array (Option Value)} (OE:158<=sc) (J:ps.length<=63) (F:aj ([⟨sc,aV dd (ps.map cG) eps sl⟩]++[⟨78,aP []⟩])):
  CX w 301 (Gj sc) ([⟨sc,aV dd (ps.map cG) eps sl⟩]++[⟨78,aP []⟩]) (λr L'=>r=.ok (.ret (.bool true))/\⟨sc,aV dd (ps.map cG) eps sl⟩∈L'/\∃TB,dN TB/\∀e∈TB,e∈L'):=by
 refine CX.runP (l:=[]) (hs:=[]) (D₀:=310) (dh:=400) (by decide) (by decide) (by decide) F aE (bJ _ _) 0 60 1128270896722077 [0,1,2,3,4,5,6,7,8,9,10,11,12,13] rfl (λn U U U=>.again (.func (a4 w) (br w n)))
  (λn U U U o=>[⟨n+158,bF 0 (bD (o 0)) (KO (o 0)) sc (λU=>.none)⟩]++eX n) (λn t g U=>by exact J4 sc n t g (λU=>.none) w) λn t g r o F2=>⟨aX rfl,?_⟩
 refine CX.func (w:=w) (d:=301) ?_;show WX _ _ _ _ _;refine WX.cong (Dl _) ?_;refine WX.mono (Il (w:=w) (n:=n) rfl rfl rfl rfl rfl rfl rfl rfl rfl OE J F2) ?_;rintro f L' ⟨hf,h⟩;subst hf;exact⟨rfl,h⟩
end
theorem xB {R:WRecords} {cl:Str->Option Addr} {P:Params} {J:List DictEntry->List DictEntry}:∀(ns:List Int) (s:Shared) (r:List Value×Shared),layAllW R cl P J (ofPys (ns.map PyData.int)) s=some r->1<=s.toks->∃ps:List (Int×Nat),ps.length=ns.length/\r.1=ps.map cG
 |[],s,r,e,_=>by
  have:layAllW R cl P J (ofPys (List.map PyData.int [])) s=some ([],s):=by rfl
  rw[this] at e;cases e;exact⟨[],rfl,rfl⟩
 |n::ns,s,r,e,ht=>by
  simp only[de,ofPys,ofPy,layAllW,layW] at e;cases q:layAllW R cl P J (ofPys (List.map PyData.int ns)) {s with toks:=s.toks+1} with
  |none=>rw[q] at e;cases e
  |some r'=>
   rw[q] at e;cases e;obtain⟨ps,h1,h2⟩:=xB ns _ r' q (Nat.le_succ_of_le ht);refine⟨(n,s.toks - 1)::ps,by rw[fu,fu,h1],?_⟩;have:s.toks - 1+1=s.toks:=NO ht;simp only[de,cG,this,h2]
set_option tactic.hygienic true in
theorem Im {R:WRecords} {w:World} {s₀ J:Shared} {ns:List Int} {a:Addr} {as:List Addr} (L:Laid R w s₀ J [ofPy (PyData.list (ns.map PyData.int))] [.ref a] as) (ht:1<=s₀.toks):∃ps:List (Int×Nat),ps.length=ns.length/\J.heap.get? a=some (aV none (ps.map cG) 0 #[]):=by
 ext R w s₀ J ns a as ⟨L,ht⟩;obtain⟨OE,_,e⟩:=L.laid;rename_i OF;ext OE ⟨OF,e⟩;simp only[ofPy,layAllW,layW] at e;cases q:layAllW R (classAt s₀.heap) w.params OE (ofPys (List.map PyData.int ns)) s₀ with
 |none=>rw[q] at e;cases e
 |some r=>
  ext r ⟨q⟩;rw[q] at e;obtain⟨ps,h1,h2⟩:=xB ns s₀ r q ht;simp only[Option.some.injEq,Prod.mk.injEq,List.cons.injEq,Value.ref.injEq] at e;obtain⟨⟨ea,_⟩,es⟩:=e;refine⟨ps,h1,?_⟩;rw[<-es,<-ea,<-h2];exact Heap.get?_push_size _ rfl
def GB (o:Obj):Option Value:=match o.data with
 |.fields vs=>vs[11]?
 |_=>none
def Kx (w:World):Obj:=((kt w).get 82).getD (aP [])
theorem Ky (w):(kt w).get 82=some (Kx w):=by kernel_rfl
theorem Io (w):(Kx w).cls=.type "code" :=by kernel_rfl
theorem Ip (w):GB (Kx w)=some (.ref 78):=by kernel_rfl
set_option tactic.hygienic true in
theorem Ft (T:aK w s):isCodeTable s.heap 78:=by
 have h:=Ip w;unfold GB at h;split at h
 .rename_i vs hv;exact⟨82,_,vs,T.top _ _ (Ky w),Io _,hv,h⟩
 .cases h
theorem Iq {w:World} {s s':Shared} {sc:Nat} {o:Obj} {l' TB:List ad} (T:aK w s) (OE:s.heap.get? 78=some (aP [])) (OG:s.heap.get? sc=some o) (D:bH w s s' (aC ([⟨sc,o⟩]++[⟨78,aP []⟩])) l') (hs:⟨sc,o⟩∈l') (hT:dN TB) (OF:∀e∈TB,e∈l'):OldK s.heap s'.heap:=by
 obtain⟨k0,k1,k2,k3,c0,c1,c2,c3,rfl⟩:=hT;have h2:s'.heap.get? 78=some (pH k0 k1 k2 k3):=D.has ⟨78,pH k0 k1 k2 k3⟩ (OF _ (gO _ aJ));have h3:s'.heap.get? sc=some o:=D.has ⟨sc,o⟩ hs;have J:∀b x,s.heap.get? b=some x->b=78\/s'.heap.get? b=some x:=λb x e=>by
  by_cases h:b=sc
  .subst h;right;rw[h3,<-OG,e]
  .by_cases h':b=78
   .exact .inl h'
   .exact .inr (D.keep b x e (by simp[aC,h,h']))
 refine⟨λb x e=>?_,λb x e=>?_⟩
 .rcases J b x e with rfl|h
  .rw[OE] at e;cases e;exact .inr (.inl ⟨Ft T,rfl,#[],_,rfl,by rw[h2,Array.empty_append];rfl⟩)
  .exact .inl h
 .rcases J b x e with rfl|h
  .exact⟨_,h2⟩
  .exact⟨_,h⟩
theorem Ir {w:World} {A:Around} {c:ClaimW} {cl:Str->Option Addr} {OG:ExcName->Option Value} {OE:List WData} {J:Shared} {ps:List (Int×Nat)} {sc:Nat} (hA:aL 301 A) (T:aK w J) (OI:J.heap.get? 78=some (aP [])) (OL:J.heap.get? sc=some (aV none (ps.map cG) 0 #[])) (OF:158<=sc) (OH:ps.length<=63) (hg:J.gens= #[])
  (hr:∀k,c.raises OE k=false) (hp:c.post OE (.bool true) OE=true):wpAny (model pw w) A (call (.ref 157) [.ref sc]) (λv s'=>GoodWG c cl OG OE J (.ok (.ret v)) s') (λe s'=>GoodWG c cl OG OE J (.error e) s') J:=by
 have F:aj ([⟨sc,aV none (ps.map cG) 0 #[]⟩]++[⟨78,aP []⟩]):=⟨by simp;exact(ka (au OF)),λe he=>by
  simp at he;rcases he with rfl|rfl
  .exact .inl OF
  .exact .inr rfl⟩
 have h:CX w 301 (Gj sc) ([⟨sc,aV none (ps.map cG) 0 #[]⟩]++[⟨78,aP []⟩]) (λr L'=>r=.ok (.ret (.bool true))/\⟨sc,aV none (ps.map cG) 0 #[]⟩∈L'/\∃TB,dN TB/\∀e∈TB,e∈L'):=by
  exact Fs (w:=w) OF OH F
 refine enter_call (eG (h A J hA T λe he=>?_) ?_)
 .simp at he;rcases he with rfl|rfl<;>assumption
 .rintro r s' ⟨l',⟨OK,hs,TB,hT,OJ⟩,D⟩;subst OK;refine⟨.inl ⟨_,_,[],rfl,hr,ReadsW.bool true,hp,λU=>⟨List.nodup_nil,λU hm=>(nomatch hm)⟩⟩,Iq T OI OL D hs hT OJ,D.os,λy hy=>?_⟩;have q:=congrArg Prod.snd D.drawn;dsimp only[ij] at q;rw[hg] at q;have q:s'.gens.all GenState.bare=true:=q.trans (by simp);rw[Array.all_eq_true'] at q;exact q y hy
theorem yz (P):(hd.ktop_282 P).get 78=some (aP []):=by kernel_rfl
theorem Kz {a b:Nat} (h:a=b) (J:¬(((63:Nat):Int)<(b:Int))):a<=63:=by omega
end Internal
open Internal PySem PySem.Spec PySem.Calls PyProof.Rows PySem.W PySem.W.X PySem.SeqAt
set_option maxHeartbeats 4000000 in
theorem PySem.Challenge.cw_jc0007_01_holds : PySem.Challenge.rw_jc0007_01.Holds := by
 exact Internal.hd (by
  k_fill
  intro w s0 s1 mg mb G y fa o pm cd doc dV kV ho hd1 hcd hD hmg hg args vals as L hpre hlay hrd hwl hlo
  z_open y L KX ZH ZN ZT
  refine Ground.open G ?_
  intro T B D TE TW
  wrow_args hpre hlay hrd hwl hlo
  obtain⟨hat,hsz⟩:=script_at L
  have htk:=script_toks L ZT
  obtain⟨ps,hps,hsc⟩:=Im L (by rw[ZT];decide)
  rw[ZN] at hat hsz
  subst hat
  x_fa T KX hmg
  all_lens
  have ZH:KT.Holds s1.heap 1 0 (hd.ktop_282 w.params):=by exact ZH
  have hsz:s1.heap.objs.size=159:=hsz
  have htk:515≤s1.toks:=htk
  have T1:aK w s1:=⟨λa o h=>by
   have z:=KT.Holds.get ZH (qg _ _ _ _ h).2
   rw[Nat.one_mul,Nat.add_zero] at z
   exact z,by omega,by omega⟩
  have h78:s1.heap.get? 78=some (aP []):=by
   have z:=KT.Holds.get ZH (j:=78) (yz w.params)
   rw[Nat.one_mul,Nat.add_zero] at z
   exact z
  refine Ir (w:=w) (ps:=ps) (sc:=158) ⟨rfl,by decide,by decide⟩ T1 h78 hsc (by decide) (Kz hps (by assumption)) hg (λU=>rfl) ?_
  first|rfl|wrow_post)
