import PyProof.Rows.All
import Wide.All
import OpenK.AllK
import Wide.FinOn
import PyProof.RulesRaise
import PyProof.RulesTry
import PyProof.AssignAttr
import PyProof.Rules3
import PyProof.CallFns
import PyProof.SliceList
import PyProof.CallStr
import PyProof.PassesOwn
import PyProof.DictKinds
import PyProof.DictItems
import PyProof.IsRules
import PyProof.NeData
import PyProof.ExcFactsAll.ValueError
import PyProof.ExcFactsAll.ZeroDivisionError
import PyProof.ExcStrAll.ValueError
import PyProof.ExcStrAll.ZeroDivisionError
import PyProof.ExcStrCall
import PyProof.StrLawsIn
import PyProof.StrOps
import PyProof.StrBlock
import PyProof.ListRange
import PyProof.RulesAs
import PyProof.P3In
import PyProof.RulesDel
import PyProof.StrCalls
import PyProof.StrCalls2
import PyProof.Rows.CallKw2
import PyProof.Rows.FactsExc_ValueError
import PyProof.Rows.FactsExc_ZeroDivisionError
import PyProof.StrCalls3
import PyProof.SliceMore
import PyProof.Rows.StrCase
import PyProof.Rows.TupAdd
import PyProof.TypeOfCall
import PyProof.StrReplace2
import PyProof.Rows.RaiseClass
import KE.BitLaws
import OpenK.KRaise
import KE.KNest
import KE.KLam
import KE.KIntText
import KE.KNestM
import KE.KPairComp
import KE.KPar
import KE.KRevIter
import KE.KRevSl
import KE.KSortAsk
import KE.KStateDown
import PySem.Challenge.RW_wc0026_01
set_option Elab.async false
set_option tactic.hygienic false
set_option compiler.extract_closed false
set_option bootstrap.genMatcherCode false
set_option maxRecDepth 100000
set_option maxHeartbeats 8000000
set_option linter.all false
open List (all_append all_cons all_eq_true all_map append_assoc append_cancel_left append_nil cons_append contains_eq_mem contains_iff_mem dropLast_concat dropLast_sublist drop_one drop_zero eq_of_mem_replicate filter_append filter_congr filter_cons filter_eq_nil_iff filter_eq_self filter_filter filter_map filter_nil filter_sublist flatMap_append flatMap_cons flatMap_map flatMap_nil foldl_append foldl_cons forIn_cons forIn_nil getElem_mem length_append length_cons length_drop length_dropLast length_filter_le length_map length_range length_replicate length_reverse length_set length_singleton length_take lookup_append lookup_cons lookup_nil map_append map_congr_left map_cons map_flatMap map_map map_nil map_replicate map_reverse map_set map_take mem_append mem_append_left mem_append_right mem_cons mem_cons_of_mem mem_cons_self mem_map mem_map_of_mem mem_of_mem_tail mem_of_mem_take mem_or_eq_of_mem_set mem_singleton mem_singleton_self nil_append nodup_append nodup_cons not_mem_nil pairwise_map range_succ replicate_succ reverse_cons reverse_perm reverse_reverse size_toArray sum_cons tail_cons take_add_one take_length take_of_length_le take_succ_eq_append_getElem take_take take_zero zip_cons_cons)
open Nat (le_refl le_trans le_succ pow_le_pow_right ne_of_lt)
open Int (toNat_natCast emod_nonneg emod_lt_of_pos)
open Option (some_ne_none map_eq_some_iff)
open PySem.Builtin.Int (intBits)
section
namespace Mine.Tactic
theorem oi {α : Type u} {a b : α} (h : some a = some b) : a = b := Option.some.inj h
theorem lS {α:Type u} {a b:α} (h:a ∈ [b]):a = b:=List.mem_singleton.mp h
theorem lM {α:Type u} {β:Type v} {f:α→β} {l:List α} {b:β} (h:b ∈ l.map f):∃ a,a ∈ l ∧ f a = b:=List.mem_map.mp h
theorem lA {α:Type u} {a:α} {s t:List α} (h:a ∈ s ++ t):a ∈ s ∨ a ∈ t:=List.mem_append.mp h
theorem lC {α:Type u} {a b:α} {l:List α} (h:a ∈ b :: l):a = b ∨ a ∈ l:=List.mem_cons.mp h
theorem lF {α:Type u} {a:α} {p:α→Bool} {l:List α} (h:a ∈ l.filter p):a ∈ l ∧ p a = true:=List.mem_filter.mp h
theorem lG {α:Type u} {a:α} {i:Nat} {l:List α} (h:l[i]? = some a):∃ h:i < l.length,l[i] = a:=List.getElem?_eq_some_iff.mp h
theorem le0 (n:Nat):n ≤ n:=le_refl n
theorem le1 (n:Nat):n ≤ n + 1:=le_succ n
theorem le2 (n:Nat):n ≤ n + 1 + 1:=Nat.le_add_right n 2
theorem inI {α β:Type} {p q:α→β→Prop} (a b) (h:p a b):p a b ∨ q a b:=.inl h
def aO (s:String):Lean.Syntax:=.atom .none s
def aN (a:List Lean.Syntax):Lean.Syntax:=.node .none `null a.toArray
def aT (s:String) (a:List Lean.Syntax):Lean.Syntax:=.node .none (.str `Lean.Parser.Tactic s) a.toArray
def aS (a:List Lean.Syntax):=aT "tacticSeq" [aT "tacticSeq1Indented" [aN a]]
def aL:=aT "tacticRfl" [aO "rfl"]
def aR:=aS [aL]
def aI:=aS [aT "intros" [aO "intros",aN []],aO ";",aL]
def aD:=aS [aT "decide" [aO "decide",aT "optConfig" [aN []]]]
def aG (t:Lean.Syntax):=aN [aO "|",aS [t]]
def aP (n:String):=aG (aT "apply" [aO "apply",.ident .none ⟨"",0,0⟩ (.str .anonymous n) []])
def aF (t:Lean.Syntax) (l:List String):=aT "first" [aO "first",aN (aG t :: l.map aP)]
def aW:=aS [aT "repeat'" [aO "repeat'",aS [aF (aT "tacticInfer_instance" [aO "infer_instance"]) ["neB", "neA", "neM", "neZ", "neS", "neD", "neW", "neT", "neO", "neE", "ne2", "neF"]]]]
def aK:=aS [aF (aT "assumption" [aO "assumption"]) ["le0", "le1", "le2", "inI"]]
@[elab_as_elim] theorem rwb {α:Sort u} {m:α→Prop} {b a:α} (e:a = b) (k:m b):m a:=e ▸ k
@[elab_as_elim] theorem rwf {α:Sort u} {m:α→Prop} {a b:α} (e:a = b) (k:m a):m b:=e ▸ k
theorem ts {α:Sort u} {a b c:α} (e:a = b) (h:a = c):b = c:=e.symm.trans h
theorem Yd {p0 p1:Prop} {C:Prop} (h:p0 ∧ p1) (k:p0→p1→C):C:=by obtain ⟨h0,h1⟩:=h;exact k h0 h1
theorem V5 {p0 p1 p2:Prop} {C:Prop} (h:p0 ∧ p1 ∧ p2) (k:p0→p1→p2→C):C:=by obtain ⟨h0,h1,h2⟩:=h;exact k h0 h1 h2
theorem I5 {p0 p1 p2 p3:Prop} {C:Prop} (h:p0 ∧ p1 ∧ p2 ∧ p3) (k:p0→p1→p2→p3→C):C:=by obtain ⟨h0,h1,h2,h3⟩:=h;exact k h0 h1 h2 h3
theorem Jcy {p0 p1 p2 p3 p4:Prop} {C:Prop} (h:p0 ∧ p1 ∧ p2 ∧ p3 ∧ p4) (k:p0→p1→p2→p3→p4→C):C:=by obtain ⟨h0,h1,h2,h3,h4⟩:=h;exact k h0 h1 h2 h3 h4
theorem Jdr {p0 p1 p2 p3 p4 p5:Prop} {C:Prop} (h:p0 ∧ p1 ∧ p2 ∧ p3 ∧ p4 ∧ p5) (k:p0→p1→p2→p3→p4→p5→C):C:=by obtain ⟨h0,h1,h2,h3,h4,h5⟩:=h;exact k h0 h1 h2 h3 h4 h5
theorem Jdq {p0 p1 p2 p3 p4 p5 p6:Prop} {C:Prop} (h:p0 ∧ p1 ∧ p2 ∧ p3 ∧ p4 ∧ p5 ∧ p6) (k:p0→p1→p2→p3→p4→p5→p6→C):C:=by obtain ⟨h0,h1,h2,h3,h4,h5,h6⟩:=h;exact k h0 h1 h2 h3 h4 h5 h6
theorem el11.{u0} {α0:Sort u0} {p0:α0→Prop} {C:Prop} (h:∃ x0,p0 x0) (k:∀ x0,p0 x0→C):C:=by obtain ⟨x0,h0⟩:=h;exact k x0 h0
theorem el12.{u0} {α0:Sort u0} {p0 p1:α0→Prop} {C:Prop} (h:∃ x0,p0 x0 ∧ p1 x0) (k:∀ x0,p0 x0→p1 x0→C):C:=by obtain ⟨x0,h0,h1⟩:=h;exact k x0 h0 h1
theorem el13.{u0} {α0:Sort u0} {p0 p1 p2:α0→Prop} {C:Prop} (h:∃ x0,p0 x0 ∧ p1 x0 ∧ p2 x0) (k:∀ x0,p0 x0→p1 x0→p2 x0→C):C:=by obtain ⟨x0,h0,h1,h2⟩:=h;exact k x0 h0 h1 h2
theorem el14.{u0} {α0:Sort u0} {p0 p1 p2 p3:α0→Prop} {C:Prop} (h:∃ x0,p0 x0 ∧ p1 x0 ∧ p2 x0 ∧ p3 x0) (k:∀ x0,p0 x0→p1 x0→p2 x0→p3 x0→C):C:=by obtain ⟨x0,h0,h1,h2,h3⟩:=h;exact k x0 h0 h1 h2 h3
theorem el21.{u0,u1} {α0:Sort u0} {α1:Sort u1} {p0:α0→α1→Prop} {C:Prop} (h:∃ x0 x1,p0 x0 x1) (k:∀ x0 x1,p0 x0 x1→C):C:=by obtain ⟨x0,x1,h0⟩:=h;exact k x0 x1 h0
theorem el22.{u0,u1} {α0:Sort u0} {α1:Sort u1} {p0 p1:α0→α1→Prop} {C:Prop} (h:∃ x0 x1,p0 x0 x1 ∧ p1 x0 x1) (k:∀ x0 x1,p0 x0 x1→p1 x0 x1→C):C:=by obtain ⟨x0,x1,h0,h1⟩:=h;exact k x0 x1 h0 h1
theorem el23.{u0,u1} {α0:Sort u0} {α1:Sort u1} {p0 p1 p2:α0→α1→Prop} {C:Prop} (h:∃ x0 x1,p0 x0 x1 ∧ p1 x0 x1 ∧ p2 x0 x1) (k:∀ x0 x1,p0 x0 x1→p1 x0 x1→p2 x0 x1→C):C:=by obtain ⟨x0,x1,h0,h1,h2⟩:=h;exact k x0 x1 h0 h1 h2
theorem el24.{u0,u1} {α0:Sort u0} {α1:Sort u1} {p0 p1 p2 p3:α0→α1→Prop} {C:Prop} (h:∃ x0 x1,p0 x0 x1 ∧ p1 x0 x1 ∧ p2 x0 x1 ∧ p3 x0 x1) (k:∀ x0 x1,p0 x0 x1→p1 x0 x1→p2 x0 x1→p3 x0 x1→C):C:=by obtain ⟨x0,x1,h0,h1,h2,h3⟩:=h;exact k x0 x1 h0 h1 h2 h3
theorem el32.{u0,u1,u2} {α0:Sort u0} {α1:Sort u1} {α2:Sort u2} {p0 p1:α0→α1→α2→Prop} {C:Prop} (h:∃ x0 x1 x2,p0 x0 x1 x2 ∧ p1 x0 x1 x2) (k:∀ x0 x1 x2,p0 x0 x1 x2→p1 x0 x1 x2→C):C:=by obtain ⟨x0,x1,x2,h0,h1⟩:=h;exact k x0 x1 x2 h0 h1
theorem el33.{u0,u1,u2} {α0:Sort u0} {α1:Sort u1} {α2:Sort u2} {p0 p1 p2:α0→α1→α2→Prop} {C:Prop} (h:∃ x0 x1 x2,p0 x0 x1 x2 ∧ p1 x0 x1 x2 ∧ p2 x0 x1 x2) (k:∀ x0 x1 x2,p0 x0 x1 x2→p1 x0 x1 x2→p2 x0 x1 x2→C):C:=by obtain ⟨x0,x1,x2,h0,h1,h2⟩:=h;exact k x0 x1 x2 h0 h1 h2
theorem el34.{u0,u1,u2} {α0:Sort u0} {α1:Sort u1} {α2:Sort u2} {p0 p1 p2 p3:α0→α1→α2→Prop} {C:Prop} (h:∃ x0 x1 x2,p0 x0 x1 x2 ∧ p1 x0 x1 x2 ∧ p2 x0 x1 x2 ∧ p3 x0 x1 x2) (k:∀ x0 x1 x2,p0 x0 x1 x2→p1 x0 x1 x2→p2 x0 x1 x2→p3 x0 x1 x2→C):C:=by obtain ⟨x0,x1,x2,h0,h1,h2,h3⟩:=h;exact k x0 x1 x2 h0 h1 h2 h3
theorem el35.{u0,u1,u2} {α0:Sort u0} {α1:Sort u1} {α2:Sort u2} {p0 p1 p2 p3 p4:α0→α1→α2→Prop} {C:Prop} (h:∃ x0 x1 x2,p0 x0 x1 x2 ∧ p1 x0 x1 x2 ∧ p2 x0 x1 x2 ∧ p3 x0 x1 x2 ∧ p4 x0 x1 x2) (k:∀ x0 x1 x2,p0 x0 x1 x2→p1 x0 x1 x2→p2 x0 x1 x2→p3 x0 x1 x2→p4 x0 x1 x2→C):C:=by obtain ⟨x0,x1,x2,h0,h1,h2,h3,h4⟩:=h;exact k x0 x1 x2 h0 h1 h2 h3 h4
theorem el43.{u0,u1,u2,u3} {α0:Sort u0} {α1:Sort u1} {α2:Sort u2} {α3:Sort u3} {p0 p1 p2:α0→α1→α2→α3→Prop} {C:Prop} (h:∃ x0 x1 x2 x3,p0 x0 x1 x2 x3 ∧ p1 x0 x1 x2 x3 ∧ p2 x0 x1 x2 x3) (k:∀ x0 x1 x2 x3,p0 x0 x1 x2 x3→p1 x0 x1 x2 x3→p2 x0 x1 x2 x3→C):C:=by obtain ⟨x0,x1,x2,x3,h0,h1,h2⟩:=h;exact k x0 x1 x2 x3 h0 h1 h2
theorem el62.{u0,u1,u2,u3,u4,u5} {α0:Sort u0} {α1:Sort u1} {α2:Sort u2} {α3:Sort u3} {α4:Sort u4} {α5:Sort u5} {p0 p1:α0→α1→α2→α3→α4→α5→Prop} {C:Prop} (h:∃ x0 x1 x2 x3 x4 x5,p0 x0 x1 x2 x3 x4 x5 ∧ p1 x0 x1 x2 x3 x4 x5) (k:∀ x0 x1 x2 x3 x4 x5,p0 x0 x1 x2 x3 x4 x5→p1 x0 x1 x2 x3 x4 x5→C):C:=by obtain ⟨x0,x1,x2,x3,x4,x5,h0,h1⟩:=h;exact k x0 x1 x2 x3 x4 x5 h0 h1
theorem el25.{u0,u1} {α0:Sort u0} {α1:Sort u1} {p0 p1 p2 p3 p4:α0→α1→Prop} {C:Prop} (h:∃ x0 x1,p0 x0 x1 ∧ p1 x0 x1 ∧ p2 x0 x1 ∧ p3 x0 x1 ∧ p4 x0 x1) (k:∀ x0 x1,p0 x0 x1→p1 x0 x1→p2 x0 x1→p3 x0 x1→p4 x0 x1→C):C:=by obtain ⟨x0,x1,h0,h1,h2,h3,h4⟩:=h;exact k x0 x1 h0 h1 h2 h3 h4
theorem el44.{u0,u1,u2,u3} {α0:Sort u0} {α1:Sort u1} {α2:Sort u2} {α3:Sort u3} {p0 p1 p2 p3:α0→α1→α2→α3→Prop} {C:Prop} (h:∃ x0 x1 x2 x3,p0 x0 x1 x2 x3 ∧ p1 x0 x1 x2 x3 ∧ p2 x0 x1 x2 x3 ∧ p3 x0 x1 x2 x3) (k:∀ x0 x1 x2 x3,p0 x0 x1 x2 x3→p1 x0 x1 x2 x3→p2 x0 x1 x2 x3→p3 x0 x1 x2 x3→C):C:=by obtain ⟨x0,x1,x2,x3,h0,h1,h2,h3⟩:=h;exact k x0 x1 x2 x3 h0 h1 h2 h3
theorem el45.{u0,u1,u2,u3} {α0:Sort u0} {α1:Sort u1} {α2:Sort u2} {α3:Sort u3} {p0 p1 p2 p3 p4:α0→α1→α2→α3→Prop} {C:Prop} (h:∃ x0 x1 x2 x3,p0 x0 x1 x2 x3 ∧ p1 x0 x1 x2 x3 ∧ p2 x0 x1 x2 x3 ∧ p3 x0 x1 x2 x3 ∧ p4 x0 x1 x2 x3) (k:∀ x0 x1 x2 x3,p0 x0 x1 x2 x3→p1 x0 x1 x2 x3→p2 x0 x1 x2 x3→p3 x0 x1 x2 x3→p4 x0 x1 x2 x3→C):C:=by obtain ⟨x0,x1,x2,x3,h0,h1,h2,h3,h4⟩:=h;exact k x0 x1 x2 x3 h0 h1 h2 h3 h4
noncomputable abbrev Ed (α:Type):=α × α × Int
section
variable {α:Type} [DecidableEq α]
noncomputable def keep (p:α→Bool) (E:List (Ed α)):List (Ed α):=E.filter fun e=>p e.1 && p e.2.1
noncomputable def off (v:α):α→Bool:=fun x=>x != v
noncomputable def Zc (e:Ed α):α→Bool:=fun x=>x != e.1 && x != e.2.1
noncomputable def mt:List (Ed α)→List (List α × Int)
 | []=>[([],1)]
 | l :: E=>mt E ++ ((mt E).filter fun e=>!e.1.contains l.1 && !e.1.contains l.2.1).map fun e=>(e.1 ++ [l.1,l.2.1],e.2 * l.2.2)
theorem Jcp:mt ([]:List (Ed α)) = [([],1)]:=rfl
theorem Oi (l:Ed α) (E:List (Ed α)):mt (l :: E) = mt E ++ ((mt E).filter fun e=>!e.1.contains l.1 && !e.1.contains l.2.1).map fun e=>(e.1 ++ [l.1,l.2.1],e.2 * l.2.2):=rfl
noncomputable def M (E:List (Ed α)):Int:=((mt E).map (·.2)).sum
theorem keep_keep (p q:α→Bool) (E:List (Ed α)):keep p (keep q E) = keep (fun x=>p x && q x) E:=by
 unfold keep;simp only [filter_filter];refine filter_congr fun e Z=>?_
 try dsimp only
 cases p e.1 <;> cases p e.2.1 <;> cases q e.1 <;> cases q e.2.1 <;> rfl
theorem Ub {p q:α→Bool} {E:List (Ed α)} (h:∀ e ∈ E,(p e.1 && p e.2.1) = (q e.1 && q e.2.1)):keep p E = keep q E:=filter_congr h
theorem Vg {p q:α→Bool} {E:List (Ed α)} (h:∀ x,p x = q x):keep p E = keep q E:=by rw [funext h]
theorem Jet (a b c d:Bool):(a && (b && (c && d))) = (b && (c && (a && d))):=by revert a b c d;decide
theorem Z9 {p:α→Bool} {E:List (Ed α)} (h:∀ e ∈ E,p e.1 = true ∧ p e.2.1 = true):keep p E = E:=by
 unfold keep;rw [filter_eq_self];intro e he;simp only [(h e he).1,(h e he).2];rfl
theorem G0 (p:α→Bool) (E F:List (Ed α)):keep p (E ++ F) = keep p E ++ keep p F:=filter_append ..
theorem Ju (p:α→Bool) (e:Ed α) (E:List (Ed α)):keep p (e :: E) = if p e.1 && p e.2.1 then e :: keep p E else keep p E:=by
 unfold keep;simp only [filter_cons]
theorem Uu (p:α→Bool) (E:List (Ed α)):(keep p E).length ≤ E.length:=length_filter_le ..
theorem Jbe (p:α→Bool):∀ E:List (Ed α),(mt E).filter (fun e=>e.1.all p) = mt (keep p E):=by
 intro zs
 induction zs with
 | nil=>
  exact rfl
 | cons l E IH=>
  have ih:=IH;rw [Ju]
  by_cases h:(p l.1 && p l.2.1) = true
  ·refine rwb (if_pos h) ?_;simp only [Bool.and_eq_true] at h;simp only [Oi];simp only [filter_append,ih,filter_map,filter_filter]
   congr 2
   simp only [← ih,filter_filter];refine filter_congr fun e Z=>?_;simp only [Function.comp,all_append,all_cons,List.all_nil,h.1,h.2,Bool.and_true];exact Bool.and_comm _ _
  ·refine rwb (if_neg h) ?_;simp only [Oi];rewrite [filter_append];refine rwb ih ?_;have e:(((mt E).filter fun e=>!e.1.contains l.1 && !e.1.contains l.2.1).map fun e=>(e.1 ++ [l.1,l.2.1],e.2 * l.2.2)).filter (fun e=>e.1.all p) = []:=by
    rw [filter_eq_nil_iff];intro e he q;refine el12 (lM he) fun e0 Z z2=>?_;subst z2;apply h;simp only [all_append,all_cons,List.all_nil,Bool.and_true,Bool.and_eq_true] at q;simp only [q.2.1,q.2.2];rfl
   simp only [e,append_nil]
theorem sum_append (a b:List Int):(a ++ b).sum = a.sum + b.sum:=by
 induction a with
 | nil=>simp
 | cons x a ih=>simp only [cons_append,sum_cons,ih];lia
theorem Ja6 (c:Int):∀ a:List (List α × Int),(a.map fun e=>e.2 * c).sum = (a.map (·.2)).sum * c:=by
 intro zs
 induction zs with
 | nil=>
  simp
 | cons x a IH=>
  simp only [map_cons,sum_cons,map_cons,sum_cons,IH,Int.add_mul]
theorem Zn (l:Ed α) (E:List (Ed α)):M (l :: E) = M E + M (keep (Zc l) E) * l.2.2:=by
 unfold M;rw [← Jbe];show ((mt E ++ _).map _).sum = _;simp only [map_append,sum_append,map_map]
 congr 1
 refine rwb (show ((fun x:List α × Int=>x.2) ∘ fun e:List α × Int=>(e.1 ++ [l.1,l.2.1],e.2 * l.2.2)) = fun e=>e.2 * l.2.2 from rfl) ?_;rw [Ja6]
 congr 3
 refine filter_congr fun e Z=>?_;unfold Zc;rw [Bool.eq_iff_iff];simp only [Bool.and_eq_true,Bool.not_eq_true',contains_eq_mem,decide_eq_false_iff_not,all_eq_true,bne_iff_ne]
 constructor
 ·rintro ⟨h1,h2⟩ x hx;exact ⟨fun e=>h1 (e ▸ hx),fun e=>h2 (e ▸ hx)⟩
 ·intro h;exact ⟨fun q=>(h _ q).1 rfl,fun q=>(h _ q).2 rfl⟩
theorem Jc2 {E F:List (Ed α)} (h:E.Perm F):∀ p:α→Bool,M (keep p E) = M (keep p F):=by
 induction h with
 | nil=>intro p;rfl
 | cons l _ ih=>
  intro p;simp only [Ju,Ju];split
  ·simp only [Zn,Zn,ih p,keep_keep,keep_keep,ih]
  ·exact ih p
 | swap a b E=>
  intro p;have kt:∀ (c:Ed α),(p c.1 && p c.2.1) = true→∀ F,keep p (c :: F) = c :: keep p F:=fun c hc F=>by (rewrite [Ju];exact rwb (if_pos hc) rfl)
  have kf:∀ (c:Ed α),¬ (p c.1 && p c.2.1) = true→∀ F,keep p (c :: F) = keep p F:=fun c hc F=>by (rewrite [Ju];exact rwb (if_neg hc) rfl)
  by_cases ha:(p a.1 && p a.2.1) = true <;> by_cases hb:(p b.1 && p b.2.1) = true
  ·simp only [kt b hb,kt a ha,kt a ha,kt b hb,Zn,Zn,Zn,Zn,Ju,Ju];have e1:(Zc b a.1 && Zc b a.2.1) = (Zc a b.1 && Zc a b.2.1):=by
    unfold Zc;rw [Bool.eq_iff_iff];simp only [Bool.and_eq_true,bne_iff_ne,ne_eq]
    constructor
    ·(refine fun zz=>V5 zz fun z0 h3 h4=>?_;obtain ⟨h1,h2⟩:=z0);exact ⟨⟨Ne.symm h1,Ne.symm h3⟩,Ne.symm h2,Ne.symm h4⟩
    ·(refine fun zz=>V5 zz fun z0 h3 h4=>?_;obtain ⟨h1,h2⟩:=z0);exact ⟨⟨Ne.symm h1,Ne.symm h3⟩,Ne.symm h2,Ne.symm h4⟩
   refine rwb e1 ?_;split
   ·simp only [Zn,Zn,keep_keep,keep_keep,keep_keep,keep_keep];have e2:keep (fun x=>Zc a x && (Zc b x && p x)) E = keep (fun x=>Zc b x && (Zc a x && p x)) E:=Vg fun x=>Bool.and_left_comm ..;simp only [e2];generalize M (keep (fun x=>Zc b x && (Zc a x && p x)) E) = z;simp only [Int.add_mul,Int.add_mul,Int.mul_right_comm z];lia
   ·lia
  ·rw [kf b hb,kt a ha,kt a ha,kf b hb]
  ·rw [kt b hb,kf a ha,kf a ha,kt b hb]
  ·rw [kf b hb,kf a ha,kf a ha,kf b hb]
 | trans _ _ ih1 ih2=>intro p;simp only [ih1,ih2]
theorem Pf {E F:List (Ed α)} (h:E.Perm F):M E = M F:=by
 have:=Jc2 h fun Z=>true
 rwa [Z9 (fun Z Z=>⟨rfl,rfl⟩),Z9 (fun Z Z=>⟨rfl,rfl⟩)] at this
theorem C1 {E F:List (Ed α)} (h:∀ e ∈ E,∀ f ∈ F,f.1 ≠ e.1 ∧ f.1 ≠ e.2.1 ∧ f.2.1 ≠ e.1 ∧ f.2.1 ≠ e.2.1):∀ p:α→Bool,M (keep p E ++ F) = M (keep p E) * M F:=by
 induction E with
 | nil=>intro p;show M F = 1 * M F;lia
 | cons l E ih=>
  have ih:=ih fun e he=>h e (.tail _ he);intro p;rw [Ju];split
  ·rw [cons_append,Zn,Zn,ih,G0,keep_keep,Z9 (E:=F) fun f hf=>?_,ih,Int.add_mul,Int.mul_right_comm];have:=h l (.head _) f hf;unfold Zc;exact ⟨by simp [this.1,this.2.1],by simp [this.2.2.1,this.2.2.2]⟩
  ·exact ih p
theorem Ie {E F:List (Ed α)} (h:∀ e ∈ E,∀ f ∈ F,f.1 ≠ e.1 ∧ f.1 ≠ e.2.1 ∧ f.2.1 ≠ e.1 ∧ f.2.1 ≠ e.2.1):M (E ++ F) = M E * M F:=by
 have:=C1 h fun Z=>true
 rwa [Z9 fun Z Z=>⟨rfl,rfl⟩] at this
noncomputable def nb1 (v:α) (e:Ed α):List (α × Int):=(if e.1 = v then [(e.2.1,e.2.2)] else []) ++ (if e.2.1 = v then [(e.1,e.2.2)] else [])
noncomputable def nb (E:List (Ed α)) (v:α):List (α × Int):=E.flatMap (nb1 v)
noncomputable def Wi (g:α→Int) (l:List (α × Int)):Int:=(l.map fun c=>c.2 * g c.1).sum
theorem Tx (g:α→Int) (a b:List (α × Int)):Wi g (a ++ b) = Wi g a + Wi g b:=by
 unfold Wi;simp only [map_append,sum_append]
theorem Ga {g g':α→Int} {l:List (α × Int)} (h:∀ c ∈ l,g c.1 = g' c.1):Wi g l = Wi g' l:=by
 unfold Wi
 congr 1
 exact map_congr_left fun c hc=>by rw [h c hc]
theorem Wh (g:α→Int):Wi g [] = 0:=rfl
theorem Z6 (g:α→Int) (c:α × Int) (l:List (α × Int)):Wi g (c :: l) = c.2 * g c.1 + Wi g l:=by
 unfold Wi;simp only [map_cons,sum_cons]
theorem Us (e:Ed α) (E:List (Ed α)) (v:α):nb (e :: E) v = nb1 v e ++ nb E v:=by unfold nb;simp only [flatMap_cons]
theorem Oh {p:α→Bool} {v:α} (hv:p v = true):∀ E:List (Ed α),nb (keep p E) v = (nb E v).filter fun c=>p c.1:=by
 intro zs
 induction zs with
 | nil=>
  exact rfl
 | cons e E IH=>
  have ih:=IH;simp only [Ju,Us,filter_append,← ih];have e1:(nb1 v e).filter (fun c=>p c.1) = if p e.1 && p e.2.1 then nb1 v e else []:=by
   unfold nb1
   by_cases h1:e.1 = v <;> by_cases h2:e.2.1 = v
   ·simp [h1,h2,hv]
   ·by_cases h3:p e.2.1 = true <;> simp [h1,h2,h3,hv]
   ·by_cases h3:p e.1 = true <;> simp [h1,h2,h3,hv]
   ·simp [h1,h2]
  refine rwb e1 ?_;split
  ·simp only [Us]
  ·rfl
theorem L6 (v:α):∀ E:List (Ed α),(∀ e ∈ E,e.1 ≠ e.2.1)→∀ p:α→Bool,p v = true →
  M (keep p E) = M (keep (fun x=>off v x && p x) E) + Wi (fun c=>M (keep (fun x=>off c x && (off v x && p x)) E)) (nb (keep p E) v):=by
 intro zs
 induction zs with
 | nil=>
  intro Z p Z;exact rfl
 | cons l E IH=>
  intro hE p hp;have ih:=IH fun e he=>hE e (.tail _ he);have hl:=hE l (.head _);rw [Ju p]
  by_cases hk:(p l.1 && p l.2.1) = true
  ·refine rwb (if_pos hk) ?_;rw [Zn,keep_keep,Us,Tx];simp only [Bool.and_eq_true] at hk
   by_cases h1:l.1 = v
   ·have h2:l.2.1 ≠ v:=fun q=>hl (h1.trans q.symm);have e1:keep (fun x=>off v x && p x) (l :: E) = keep (fun x=>off v x && p x) E:=by
     rw [Ju,if_neg];simp [off,h1]
    have e2:∀ c,keep (fun x=>off c x && (off v x && p x)) (l :: E) = keep (fun x=>off c x && (off v x && p x)) E:=fun c=>by
     rw [Ju,if_neg];simp [off,h1]
    have e3:nb1 v l = [(l.2.1,l.2.2)]:=by unfold nb1;(refine rwb (if_pos h1) (rwb (if_neg h2) ?_));rfl
    have e4:keep (fun x=>Zc l x && p x) E = keep (fun x=>off l.2.1 x && (off v x && p x)) E:=Vg fun x=>by
     show (x != l.1 && x != l.2.1 && p x) = _;(refine rwb h1 ?_;rw [Bool.and_comm (x != v),Bool.and_assoc]);rfl
    rewrite [e1];refine rwb e3 ?_;rewrite [Z6,Wh,e2];refine rwb e4 (rwb (ih p hp) ?_);refine rwb (Ga (g:=fun c=>M (keep (fun x=>off c x && (off v x && p x)) (l :: E))) (g':=fun c=>M (keep (fun x=>off c x && (off v x && p x)) E)) fun c Z=>by rw [e2]) ?_;rw [Int.mul_comm l.2.2];simp only;lia
   ·by_cases h2:l.2.1 = v
    ·have e1:keep (fun x=>off v x && p x) (l :: E) = keep (fun x=>off v x && p x) E:=by
      rw [Ju,if_neg];simp [off,h2]
     have e2:∀ c,keep (fun x=>off c x && (off v x && p x)) (l :: E) = keep (fun x=>off c x && (off v x && p x)) E:=fun c=>by
      rw [Ju,if_neg];simp [off,h2]
     have e3:nb1 v l = [(l.1,l.2.2)]:=by unfold nb1;(refine rwb (if_neg h1) (rwb (if_pos h2) ?_));rfl
     have e4:keep (fun x=>Zc l x && p x) E = keep (fun x=>off l.1 x && (off v x && p x)) E:=Vg fun x=>by
      show (x != l.1 && x != l.2.1 && p x) = _;(refine rwb h2 ?_;rw [Bool.and_assoc]);rfl
     rewrite [e1];refine rwb e3 ?_;rewrite [Z6,Wh,e2];refine rwb e4 (rwb (ih p hp) ?_);refine rwb (Ga (g:=fun c=>M (keep (fun x=>off c x && (off v x && p x)) (l :: E))) (g':=fun c=>M (keep (fun x=>off c x && (off v x && p x)) E)) fun c Z=>by rw [e2]) ?_;rw [Int.mul_comm l.2.2];simp only;lia
    ·have e3:nb1 v l = []:=by unfold nb1;(refine Eq.symm (if_neg h1) ▸ ?_;refine rwb (if_neg h2) ?_);rfl
     have hov:Zc l v = true:=by unfold Zc;simp [Ne.symm h1,Ne.symm h2]
     have e1:keep (fun x=>off v x && p x) (l :: E) = l :: keep (fun x=>off v x && p x) E:=by
      rw [Ju,if_pos];simp [off,h1,h2,hk.1,hk.2]
     simp only [e3,Wh,e1,Zn,keep_keep,ih p hp,ih (fun x=>Zc l x && p x) (by simp only [hov,hp];rfl)];have e5:nb (keep (fun x=>Zc l x && p x) E) v = (nb (keep p E) v).filter fun c=>Zc l c.1:=by
      rw [← keep_keep,Oh hov]
     refine rwb e5 ?_;have e6:keep (fun x=>off v x && (Zc l x && p x)) E = keep (fun x=>Zc l x && (off v x && p x)) E:=Vg fun x=>Bool.and_left_comm ..;refine rwb e6 ?_;have e7:∀ ns:List (α × Int),Wi (fun c=>M (keep (fun x=>off c x && (off v x && p x)) (l :: E))) ns = Wi (fun c=>M (keep (fun x=>off c x && (off v x && p x)) E)) ns + Wi (fun c=>M (keep (fun x=>off c x && (off v x && (Zc l x && p x))) E)) (ns.filter fun c=>Zc l c.1) * l.2.2:=by
      intro ns
      induction ns with
      | nil=>simp [Wh]
      | cons c ns ihn=>
       simp only [Z6,Z6,ihn,filter_cons]
       by_cases hc:Zc l c.1 = true
       ·rw [if_pos hc,Z6];have hc':=hc;unfold Zc at hc';simp only [Bool.and_eq_true,bne_iff_ne,ne_eq] at hc';have e8:keep (fun x=>off c.1 x && (off v x && p x)) (l :: E) = l :: keep (fun x=>off c.1 x && (off v x && p x)) E:=by
         rw [Ju,if_pos];simp [off,h1,h2,hk.1,hk.2,Ne.symm hc'.1,Ne.symm hc'.2]
        simp only [e8,Zn,keep_keep];have e9:keep (fun x=>Zc l x && (off c.1 x && (off v x && p x))) E = keep (fun x=>off c.1 x && (off v x && (Zc l x && p x))) E:=Vg fun x=>Jet ..;simp only [e9];simp only [Int.mul_add,Int.add_mul,Int.mul_assoc];lia
       ·refine rwb (if_neg hc) ?_;have e8:keep (fun x=>off c.1 x && (off v x && p x)) (l :: E) = keep (fun x=>off c.1 x && (off v x && p x)) E:=by
         rw [Ju,if_neg];intro q;apply hc;unfold Zc;simp only [off,Bool.and_eq_true,bne_iff_ne,ne_eq] at q ⊢;exact ⟨Ne.symm q.1.1,Ne.symm q.2.1⟩
        refine rwb e8 ?_;lia
     simp only [e7,Int.add_mul];lia
  ·refine rwb (if_neg hk) ?_;have e1:∀ q:α→Bool,keep (fun x=>q x && p x) (l :: E) = keep (fun x=>q x && p x) E:=fun q=>by
    rw [Ju,if_neg];intro z;apply hk;simp only [Bool.and_eq_true] at z ⊢;exact ⟨z.1.2,z.2.2⟩
   simp only [ih p hp,e1 (off v)]
   congr 1
   refine Ga fun c Z=>?_;have:=e1 fun x=>off c.1 x && off v x;simp only [Bool.and_assoc] at this;simp only [this]
end
noncomputable def dm (a b:Int × Int):Int × Int:=(a.1 * b.1,a.2 * b.1 + a.1 * b.2)
noncomputable def Yo (l:List (Int × Int)):Int × Int:=l.foldr dm (1,0)
theorem Qk:Yo [] = (1,0):=rfl
theorem Ye (a:Int × Int) (l:List (Int × Int)):Yo (a :: l) = dm a (Yo l):=rfl
theorem E7 (a b:Int × Int):dm a b = dm b a:=by
 unfold dm;rw [Int.mul_comm a.1 b.1,Int.mul_comm a.2,Int.mul_comm a.1 b.2,Int.add_comm]
theorem Lv (a b c:Int × Int):dm (dm a b) c = dm a (dm b c):=by
 unfold dm;refine Prod.ext (Int.mul_assoc _ _ _) ?_;show (a.2 * b.1 + a.1 * b.2) * c.1 + a.1 * b.1 * c.2 = a.2 * (b.1 * c.1) + a.1 * (b.2 * c.1 + b.1 * c.2);rw [Int.add_mul,Int.mul_add,Int.mul_assoc,Int.mul_assoc,Int.mul_assoc];lia
theorem Sj (a:Int × Int):dm a (1,0) = a:=by
 unfold dm;refine Prod.ext (Int.mul_one _) ?_;show a.2 * 1 + a.1 * 0 = a.2;lia
theorem Tc (a b:List (Int × Int)):Yo (a ++ b) = dm (Yo a) (Yo b):=by
 induction a with
 | nil=>rw [Qk,E7,Sj];rfl
 | cons x a ih=>rw [cons_append,Ye,Ye,ih,Lv]
theorem Si {a b:List (Int × Int)} (h:a.Perm b):Yo a = Yo b:=by
 induction h with
 | nil=>rfl
 | cons x _ ih=>(rewrite [Ye,Ye];exact rwb ih rfl)
 | swap x y l=>(rewrite [Ye,Ye,Ye,Ye,← Lv,← Lv];exact rwb (E7 y x) rfl)
 | trans _ _ h1 h2=>(refine rwb h1 ?_;exact rwb h2 rfl)
noncomputable def Yx (l:List Int):Int:=l.foldr (· * ·) 1
theorem Zj (a:Int) (l:List Int):Yx (a :: l) = a * Yx l:=rfl
theorem Ar (l:List (Int × Int)):(Yo l).1 = Yx (l.map (·.1)):=by
 induction l with
 | nil=>rfl
 | cons a l ih=>rw [Ye,map_cons,Zj,← ih];rfl
theorem R4 (a b:List Int):Yx (a ++ b) = Yx a * Yx b:=by
 induction a with
 | nil=>show Yx b = 1 * Yx b;lia
 | cons x a ih=>rw [cons_append,Zj,Zj,ih,Int.mul_assoc]
section
variable {α:Type} [DecidableEq α]
noncomputable def br (r:Int × Int) (y:Int):Int × Int:=(r.1 + r.2,y * r.1)
noncomputable def tv (E:List (Ed α)):Nat→(α→Bool)→α→Int × Int
 | 0,_,_=>(1,0)
 | f + 1,p,v=>Yo ((nb (keep p E) v).map fun c=>br (tv E f (fun x=>off v x && p x) c.1) c.2)
theorem Ec (E:List (Ed α)) (f:Nat) (p:α→Bool) (v:α):tv E (f + 1) p v = Yo ((nb (keep p E) v).map fun c=>br (tv E f (fun x=>off v x && p x) c.1) c.2):=rfl
theorem Ak {P:Int} {Q:α→Int} {r:α × Int→Int × Int}:∀ ns:List (α × Int),(∀ c ∈ ns,((r c).1 + (r c).2) * Q c.1 = (r c).1 * P) →
  (Yo (ns.map fun c=>br (r c) c.2)).2 * P = (Yo (ns.map fun c=>br (r c) c.2)).1 * Wi Q ns:=by
 intro zs
 induction zs with
 | nil=>
  intro Z;simp [Qk,Wh]
 | cons c ns IH=>
  intro h;have ih:=IH fun d hd=>h d (.tail _ hd);have hc:=h c (.head _);refine rwb map_cons ?_;rw [Ye,Z6];generalize Yo (ns.map fun c=>br (r c) c.2) = z at *;unfold dm br;show (c.2 * (r c).1 * z.1 + ((r c).1 + (r c).2) * z.2) * P = ((r c).1 + (r c).2) * z.1 * (c.2 * Q c.1 + Wi Q ns);generalize (r c).1 + (r c).2 = wh at *;generalize (r c).1 = fr at *;rw [Int.add_mul,Int.mul_add];have e1:c.2 * fr * z.1 * P = wh * z.1 * (c.2 * Q c.1):=by
   calc c.2 * fr * z.1 * P = c.2 * z.1 * (fr * P):=by ac_rfl
    _ = c.2 * z.1 * (wh * Q c.1):=by exact rwb hc rfl
    _ = wh * z.1 * (c.2 * Q c.1):=by ac_rfl
  have e2:wh * z.2 * P = wh * z.1 * Wi Q ns:=by (rewrite [Int.mul_assoc];refine rwb ih ?_;rw [Int.mul_assoc])
  refine rwb e1 ?_;exact rwb e2 rfl
theorem Nz {E:List (Ed α)} {v:α} {c:α × Int} (h:c ∈ nb E v):∃ e ∈ E,(e.1 = v ∧ c = (e.2.1,e.2.2)) ∨ (e.2.1 = v ∧ c = (e.1,e.2.2)):=by
 refine el12 (List.mem_flatMap.mp h) fun e he hc=>?_;refine ⟨e,he,?_⟩;unfold nb1 at hc
 rcases lA hc with hc | hc
 ·split at hc
  ·rename_i q;exact .inl ⟨q,lS hc⟩
  ·contradiction
 ·split at hc
  ·rename_i q;exact .inr ⟨q,lS hc⟩
  ·contradiction
theorem Gz {E:List (Ed α)} (hE:∀ e ∈ E,e.1 ≠ e.2.1) {p:α→Bool} {v:α} {c:α × Int} (h:c ∈ nb (keep p E) v):c.1 ≠ v ∧ p c.1 = true ∧ (keep (fun x=>off v x && p x) E).length < (keep p E).length:=by
 refine el12 (Nz h) fun e he hc=>?_;have hk:=lF he;have hl:=hE e hk.1;have hp:=hk.2;rw [Bool.and_eq_true] at hp;have lt:(keep (fun x=>off v x && p x) E).length < (keep p E).length:=by
  rw [← keep_keep];refine List.length_filter_lt_length_iff_exists.mpr ⟨e,he,?_⟩;intro q;simp only [off,Bool.and_eq_true,bne_iff_ne,ne_eq] at q
  rcases hc with ⟨q1,_⟩ | ⟨q1,_⟩
  ·exact q.1 q1
  ·exact q.2 q1
 rcases hc with ⟨q1,rfl⟩ | ⟨q1,rfl⟩
 ·exact ⟨fun q=>hl (q1.trans q.symm),hp.2,lt⟩
 ·exact ⟨fun q=>hl (q.trans q1.symm),hp.1,lt⟩
theorem Hb {E:List (Ed α)} (hE:∀ e ∈ E,e.1 ≠ e.2.1):∀ (f:Nat) (p:α→Bool) (v:α),p v = true→(keep p E).length ≤ f →
  ((tv E f p v).1 + (tv E f p v).2) * M (keep (fun x=>off v x && p x) E) = (tv E f p v).1 * M (keep p E):=by
 intro zs
 induction zs with
 | zero=>
  intro p v hv hl;have h0:keep p E = []:=List.length_eq_zero_iff.mp (by lia);have h1:keep (fun x=>off v x && p x) E = []:=by (rewrite [← keep_keep];refine rwb h0 ?_);rfl
  (refine rwb h0 (rwb h1 ?_));rfl
 | succ f IH=>
  intro p v hv hl;have hf:=Ak (P:=M (keep (fun x=>off v x && p x) E)) (Q:=fun c=>M (keep (fun x=>off c x && (off v x && p x)) E)) (r:=fun c=>tv E f (fun x=>off v x && p x) c.1) (nb (keep p E) v) fun c hc=>by
   refine V5 (Gz hE hc) fun h1 h2 h3=>?_;exact IH (fun x=>off v x && p x) c.1 (by simp [off,h1,h2]) (by lia)
  refine rwb (L6 v E hE p hv) ?_;show ((Yo _).1 + (Yo _).2) * _ = (Yo _).1 * _;rewrite [Int.add_mul,Int.mul_add];exact rwb hf rfl
theorem Jdk {E:List (Ed α)} (hE:∀ e ∈ E,e.1 ≠ e.2.1) {U:α→Bool}:∀ (f:Nat) (p:α→Bool) (v:α),p v = true→U v = true→(∀ e ∈ E,p e.1 = true→p e.2.1 = true→U e.1 = U e.2.1) →
  tv E f p v = tv E f (fun x=>U x && p x) v:=by
 intro zs
 induction zs with
 | zero=>
  intro Z Z Z Z Z;exact rfl
 | succ f IH=>
  intro p v hv hu hc;have e1:nb (keep (fun x=>U x && p x) E) v = nb (keep p E) v:=by
   rw [← keep_keep,Oh hu];rw [filter_eq_self];intro c hcm;refine el12 (Nz hcm) fun e he q=>?_;have hk:=lF he;have hp:=hk.2;rw [Bool.and_eq_true] at hp;have:=hc e hk.1 hp.1 hp.2
   rcases q with ⟨q1,rfl⟩ | ⟨q1,rfl⟩
   ·(replace this:=q1 ▸ this;replace this:=ts hu this);exact this.symm
   ·(replace this:=q1 ▸ this;replace this:=hu ▸ this);exact this
  rw [Ec,Ec];refine rwb e1 ?_
  congr 1
  refine map_congr_left fun c hcm=>?_;refine V5 (Gz hE hcm) fun h1 h2 Z=>?_;have hU:U c.1 = true:=by
   have:c ∈ nb (keep (fun x=>U x && p x) E) v:=by refine rwb e1 ?_;exact hcm
   have:=(Gz hE this).2.1;simp only [Bool.and_eq_true] at this;exact this.1
  rw [IH (fun x=>off v x && p x) c.1 (by simp [off,h1,h2]) hU fun e he q1 q2=>by
   simp only [Bool.and_eq_true] at q1 q2
   exact hc e he q1.2 q2.2]
  congr 2
  funext x
  show (U x && (off v x && p x)) = (off v x && (U x && p x));cases off v x <;> cases U x <;> rfl
theorem Ov {E:List (Ed α)} {p q:α→Bool} (h:∀ x,p x = q x) (f:Nat) (v:α):tv E f p v = tv E f q v:=by
 rw [show p = q from funext h]
end
end Mine.Tactic
end
section
open PySem PySem.W PyProof.Rows PySem.Calls
namespace Mine.Tactic
inductive D where
 | none
 | bool (b:Bool)
 | int (i:Int)
 | str (x:Str)
 | tup (ds:List D)
 | lst (ds:List D)
 | ref (a:Addr)
 | hdr (l:Addr)
 | val (v:Value)
 | fro (a:Addr) (o:Obj)
 | clo (a:Addr) (fd:FuncData)
structure Fz where
 f:Addr→Option Obj
 g:Tok→Option Str
structure Fz.le (F F':Fz):Prop where
 f:∀ a o,F.f a = some o→F'.f a = some o
 g:∀ t x,F.g t = some x→F'.g t = some x
theorem Fz.le.refl (F:Fz):F.le F:=⟨fun Z Z e=>e,fun Z Z e=>e⟩
theorem Fz.le.trans {F G H:Fz} (x:F.le G) (y:G.le H):F.le H:=⟨fun a o e=>y.f a o (x.f a o e),fun t z e=>y.g t z (x.g t z e)⟩
noncomputable def Vb:Addr:=280
noncomputable abbrev Xc (hs:Int) (t:Tok) (l:Addr) (n:Nat) (sl:Array (Option Value)):Obj:={ cls:=.type "dict",data:=.dict #[⟨hs,.str (Str.ofString "_headers") t,.ref l⟩] n,slots:=sl }
mutual
inductive Jd (F:Fz):Value→D→Prop
 | none:Jd F .none .none
 | bool (b):Jd F (.bool b) (.bool b)
 | int (i t):Jd F (.int i t) (.int i)
 | str (x t) (h:F.g t = some x):Jd F (.str x t) (.str x)
 | tup {a:Addr} {vs:List Value} {n:Nat} {ds:List D}:F.f a = some { cls:=.type "tuple",data:=.seq vs.toArray n }→Jc F vs ds→Jd F (.ref a) (.tup ds)
 | lst {a:Addr} {vs:List Value} {n:Nat} {ds:List D}:F.f a = some (listOf vs.toArray n)→Jc F vs ds→Jd F (.ref a) (.lst ds)
 | ref (a:Addr):Jd F (.ref a) (.ref a)
 | hdr {a dx l:Addr} {hs:Int} {t:Tok} {n:Nat} {sl:Array (Option Value)}:F.f a = some (instObj Vb dx)→F.f dx = some (Xc hs t l n sl)→Jd F (.ref a) (.hdr l)
 | val (v):Jd F v (.val v)
 | fro {a:Addr} {o:Obj}:F.f a = some o→Jd F (.ref a) (.fro a o)
 | clo {a c:Addr} {fd:FuncData} {oc:Obj} {ws:Array Value} {t:Tok}:F.f a = some { cls:=.type "function",data:=.func fd }→fd.code = .ref c→F.f c = some oc→oc.data = .fields ws→ws[1]? = some (.str fd.qualname t)→Jd F (.ref a) (.clo a fd)
inductive Jc (F:Fz):List Value→List D→Prop
 | nil:Jc F [] []
 | cons {v:Value} {vs:List Value} {d:D} {ds:List D}:Jd F v d→Jc F vs ds→Jc F (v :: vs) (d :: ds)
end
theorem Jd.mono {F F':Fz} (hs:F.le F') {v:Value} {d:D} (r:Jd F v d):Jd F' v d:=
 Jd.rec (motive_1:=fun v d Z=>Jd F' v d) (motive_2:=fun vs ds Z=>Jc F' vs ds) .none .bool .int (fun x t h=>.str x t (hs.g _ _ h)) (fun h Z q=>.tup (hs.f _ _ h) q) (fun h Z q=>.lst (hs.f _ _ h) q) .ref
  (fun h k=>.hdr (hs.f _ _ h) (hs.f _ _ k)) .val (fun h=>.fro (hs.f _ _ h)) (fun h1 h2 h3 h4 h5=>.clo (hs.f _ _ h1) h2 (hs.f _ _ h3) h4 h5) .nil (fun Z Z a b=>.cons a b) r
noncomputable def Jd.K (F:Fz) (m:Value→Prop):D→Prop
 | .none=>m .none
 | .bool b=>m (.bool b)
 | .int i=>∀ t,m (.int i t)
 | .str x=>∀ t,F.g t = some x→m (.str x t)
 | .tup ds=>∀ a vs n,F.f a = some { cls:=.type "tuple",data:=.seq vs.toArray n }→Jc F vs ds→m (.ref a)
 | .lst ds=>∀ a vs n,F.f a = some (listOf vs.toArray n)→Jc F vs ds→m (.ref a)
 | .ref a=>m (.ref a)
 | .hdr l=>∀ a dx hs t n sl,F.f a = some (instObj Vb dx)→F.f dx = some (Xc hs t l n sl)→m (.ref a)
 | .val v=>m v
 | .fro a o=>F.f a = some o→m (.ref a)
 | .clo a fd=>∀ c oc ws t,F.f a = some { cls:=.type "function",data:=.func fd }→fd.code = .ref c→F.f c = some oc→oc.data = .fields ws→ws[1]? = some (.str fd.qualname t)→m (.ref a)
theorem Jd.inv {F:Fz} {v:Value} {d:D} {m:Value→Prop} (r:Jd F v d):Jd.K F m d→m v:=by
 cases r with
 | none=>exact fun k=>k
 | bool b=>exact fun k=>k
 | int i t=>exact fun k=>k t
 | str x t h=>exact fun k=>k t h
 | tup h r=>exact fun k=>k _ _ _ h r
 | lst h r=>exact fun k=>k _ _ _ h r
 | ref a=>exact fun k=>k
 | hdr h h'=>exact fun k=>k _ _ _ _ _ _ h h'
 | val v=>exact fun k=>k
 | fro h=>exact fun k=>k h
 | clo h1 h2 h3 h4 h5=>exact fun k=>k _ _ _ _ h1 h2 h3 h4 h5
section
variable {F:Fz} {v:Value} {m:Value→Prop}
@[elab_as_elim] theorem Jd.jap (r:Jd F v .none) (k:m .none):m v:=r.inv k
@[elab_as_elim] theorem Jd.Pp {b:Bool} (r:Jd F v (.bool b)) (k:m (.bool b)):m v:=r.inv k
@[elab_as_elim] theorem Jd.z5 {i:Int} (r:Jd F v (.int i)) (k:∀ t,m (.int i t)):m v:=r.inv k
@[elab_as_elim] theorem Jd.zt {x:Str} (r:Jd F v (.str x)) (k:∀ t,F.g t = some x→m (.str x t)):m v:=r.inv k
@[elab_as_elim] theorem Jd.jc6 {ds:List D} (r:Jd F v (.tup ds)) (k:∀ a vs n,F.f a = some { cls:=.type "tuple",data:=.seq vs.toArray n }→Jc F vs ds→m (.ref a)):m v:=r.inv k
@[elab_as_elim] theorem Jd.Mc {ds:List D} (r:Jd F v (.lst ds)) (k:∀ a vs n,F.f a = some (listOf vs.toArray n)→Jc F vs ds→m (.ref a)):m v:=r.inv k
@[elab_as_elim] theorem Jd.Kf {a:Addr} (r:Jd F v (.ref a)) (k:m (.ref a)):m v:=r.inv k
@[elab_as_elim] theorem Jd.jfj {l:Addr} (r:Jd F v (.hdr l)) (k:∀ a dx hs t n sl,F.f a = some (instObj Vb dx)→F.f dx = some (Xc hs t l n sl)→m (.ref a)):m v:=r.inv k
@[elab_as_elim] theorem Jd.tn {w:Value} (r:Jd F v (.val w)) (k:m w):m v:=r.inv k
@[elab_as_elim] theorem Jd.tr {a:Addr} {o:Obj} (r:Jd F v (.fro a o)) (k:F.f a = some o→m (.ref a)):m v:=r.inv k
@[elab_as_elim] theorem Jd.cloE {a:Addr} {fd:FuncData} (r:Jd F v (.clo a fd)) (k:∀ c oc ws t,F.f a = some { cls:=.type "function",data:=.func fd }→fd.code = .ref c→F.f c = some oc→oc.data = .fields ws→ws[1]? = some (.str fd.qualname t)→m (.ref a)):m v:=r.inv k
end
noncomputable def Jc.K (F:Fz) (m:List Value→Prop):List D→Prop
 | []=>m []
 | d :: ds=>∀ v vs,Jd F v d→Jc F vs ds→m (v :: vs)
theorem Jc.inv {F:Fz} {vs:List Value} {ds:List D} {m:List Value→Prop} (r:Jc F vs ds):Jc.K F m ds→m vs:=by
 cases r with
 | nil=>exact fun k=>k
 | cons h r=>exact fun k=>k _ _ h r
@[elab_as_elim] theorem Jc.mr {F:Fz} {vs:List Value} {m:List Value→Prop} (r:Jc F vs []) (k:m []):m vs:=r.inv k
@[elab_as_elim] theorem Jc.Gs {F:Fz} {vs:List Value} {d:D} {ds:List D} {m:List Value→Prop} (r:Jc F vs (d :: ds)) (k:∀ v vs,Jd F v d→Jc F vs ds→m (v :: vs)):m vs:=r.inv k
section
variable {F:Fz}
theorem Jc.mono {F':Fz} (hs:F.le F') {ds:List D}:∀ {vs:List Value},Jc F vs ds→Jc F' vs ds:=by
 induction ds with
 | nil=>exact fun r=>r.mr .nil
 | cons d ds ih=>exact fun r=>r.Gs fun Z Z h r=>.cons (h.mono hs) (ih r)
theorem Jc.length {ds:List D}:∀ {vs:List Value},Jc F vs ds→vs.length = ds.length:=by
 induction ds with
 | nil=>exact fun r=>r.mr rfl
 | cons d ds ih=>exact fun r=>r.Gs fun Z Z h r=>congrArg (· + 1) (ih r)
theorem Jc.append {ws:List Value} {ds es:List D} {vs:List Value} (r:Jc F vs ds) (k:Jc F ws es):Jc F (vs ++ ws) (ds ++ es):=by
 induction ds generalizing vs with
 | nil=>exact r.mr k
 | cons d ds ih=>exact r.Gs fun Z Z h r=>.cons h (ih r)
theorem Jc.get {ds:List D} {vs:List Value} (r:Jc F vs ds) {k:Nat} {d:D} (e:ds[k]? = some d):∃ v,vs[k]? = some v ∧ Jd F v d:=by
 induction ds generalizing vs k with
 | nil=>exact absurd e (some_ne_none d).symm
 | cons d ds ih=>
  refine r.Gs fun v vs h r=>?_;cases k with
  | zero=>exact ⟨v,rfl,oi e ▸ h⟩
  | succ k=>exact ih r (k:=k) e
theorem Jc.get' {ds:List D} {vs:List Value} (r:Jc F vs ds) {k:Nat} {v:Value} (e:vs[k]? = some v):∃ d,ds[k]? = some d ∧ Jd F v d:=by
 induction ds generalizing vs k with
 | nil=>revert e;exact r.mr fun h=>absurd h (some_ne_none v).symm
 | cons d ds ih=>
  revert e;refine r.Gs fun v vs h r e=>?_;cases k with
  | zero=>exact ⟨d,rfl,oi e ▸ h⟩
  | succ k=>exact ih r (k:=k) e
theorem Jc.set {ds:List D} {vs:List Value} (r:Jc F vs ds) (k:Nat) {d':D} {v':Value} (h':Jd F v' d'):Jc F (vs.set k v') (ds.set k d'):=by
 induction ds generalizing vs k with
 | nil=>exact r.mr .nil
 | cons d ds ih=>
  refine r.Gs fun v vs h r=>?_;cases k with
  | zero=>exact .cons h' r
  | succ k=>exact .cons h (ih r k)
theorem Jc.reverse {ds:List D}:∀ {vs:List Value},Jc F vs ds→Jc F vs.reverse ds.reverse:=by
 induction ds with
 | nil=>exact fun r=>r.mr .nil
 | cons d ds ih=>exact fun r=>r.Gs fun Z Z h r=>by (refine rwb reverse_cons (rwb reverse_cons ?_));exact (ih r).append (.cons h .nil)
end
noncomputable abbrev Led:=List (Addr × List D)
noncomputable def Mq (F:Fz) (h:Heap) (a:Addr) (ds:List D):Prop:=∃ vs n,h.get? a = some (listOf vs.toArray n) ∧ Jc F vs ds
structure Tab where
 c:Addr
 P:Addr
 line:Nat
 col:Nat
 qual:Str
noncomputable def Vn:List Tab:=[⟨51,47,33,4, "_int2digits.<locals>.inner"⟩,⟨58,54,48,4, "_digits2int.<locals>.inner"⟩,⟨295,293,208,12, "_law_ties.<locals>.<lambda>"⟩]
noncomputable def Yb:List Addr:=[47,54,293]
theorem Wv {q:Tab} (h:q ∈ Vn):q.P ∈ Yb:=by
 simp only [Vn,mem_cons,not_mem_nil,or_false] at h
 rcases h with rfl | rfl | rfl <;> decide
noncomputable def L5 (F:Fz) (h:Heap) (q:Tab):Prop:=
 h.get? q.P = some (tabObj #[]) ∨ ∃ c' oc vs t,h.get? q.P = some (tabObj #[rawInt q.line,rawInt q.col,.ref c']) ∧ F.f c' = some oc ∧ oc.data = .fields vs ∧ vs[1]? = some (.str q.qual t)
structure Base where
 w:World
 s:Shared
 h:Heap
 mg:Str→Option Value
 mb:Str→Option Value
structure Base.Ok (B:Base):Prop where
 g:B.h.Ns mainGlobals B.mg
 b:B.h.Ns builtinsNs B.mb
 lim:B.h.NoLimit
 booked:NoneBooked B.h
 bs:∀ x:Str,x ≠ "__name__"→B.mb x = bootBuiltins x
 bmain:∃ bm ob,B.mg "__builtins__" = some (.ref bm) ∧ bm ≠ builtinsNs ∧ B.h.get? bm = some ob ∧ ob.cls = .type "module" ∧ ob.dict = some builtinsNs ∧ ob.data = .plain
 heads:∀ q ∈ Vn,CodeHd B.h q.c q.P
noncomputable abbrev pw:=PySem.Challenge.pw_wc0026_01
noncomputable abbrev Base.M (B:Base):Model:=model pw B.w
noncomputable def Kept (h:Heap) (b:Addr) (o:Obj):Prop:=h.get? b = some o ∨ ((∃ es n,o.data = .dict es n) ∧ ∃ sl,h.get? b = some { o with slots:=sl })
theorem Kept.exact {h:Heap} {b:Addr} {o:Obj} (k:Kept h b o) (hc:∀ es n,o.data ≠ .dict es n):h.get? b = some o:=k.elim id fun ⟨⟨es,n,x⟩,_⟩=>absurd x (hc es n)
theorem Kept.trans {h:Heap} {b:Addr} {o:Obj} {h':Heap} (k:Kept h b o) (t:∀ o,h.get? b = some o→Kept h' b o):Kept h' b o:=by
 rcases k with k | ⟨hc,sl,k⟩
 ·exact t _ k
 ·rcases t _ k with q | ⟨_,sl',q⟩
  ·exact .inr ⟨hc,sl,q⟩
  ·exact .inr ⟨hc,sl',q⟩
theorem Kept.some {h:Heap} {b:Addr} {o:Obj} (k:Kept h b o):∃ o',h.get? b = some o' ∧ o'.data = o.data ∧ o'.cls = o.cls:=by
 rcases k with k | ⟨_,sl,k⟩
 ·exact ⟨o,k,rfl,rfl⟩
 ·exact ⟨_,k,rfl,rfl⟩
structure GS (B:Base) (F:Fz) (H:Led) (s:Shared):Prop where
 tp:s.toks ≠ 0
 tg:∀ t x,F.g t = some x→t < s.toks ∧ t ≠ 0
 same:∃ h tk,s = { B.s with heap:=h,toks:=tk }
 base:∀ b o,B.h.get? b = some o→s.heap.get? b = some o
 froz:∀ b o,F.f b = some o→s.heap.get? b = some o
 own:∀ p ∈ H,Mq F s.heap p.1 p.2
 nod:(H.map (·.1)).Nodup
 apart:∀ p ∈ H,F.f p.1 = none ∧ B.h.get? p.1 = none ∧ p.1 ∉ Yb
 tab:∀ q ∈ Vn,L5 F s.heap q
 tabF:∀ a ∈ Yb,F.f a = none ∧ B.h.get? a = none
 bk:B.Ok
inductive FF1 (F:Fz) (h base:Heap) (env:Env):Prop
 | mk (L:Addr) (o:Obj) (es:Array DictEntry) (n:Nat) (k:env.scope.kind ≠ .module) (h1:env.frame = some L) (h2:base.get? L = none) (h5:L ∉ Yb) (h3:h.get? L = some o) (h4:o.data = .dict es n) (h6:F.f L = none)
theorem FF1.elim {F:Fz} {h base:Heap} {env:Env} {C:Prop} (x:FF1 F h base env) (k:∀ L o es n,env.scope.kind ≠ .module→env.frame = some L→base.get? L = none→L ∉ Yb→h.get? L = some o→o.data = .dict es n→F.f L = none→C):C:=x.rec k
noncomputable def FF (F:Fz) (h base:Heap) (l:List Env):Prop:=∀ env ∈ l,FF1 F h base env
theorem FF.to {F:Fz} {h base:Heap} {l:List Env} (x:FF F h base l):h.FunFrames base l:=by
 induction l with
 | nil=>trivial
 | cons env l ih=>exact (x env (.head _)).elim fun L o es n k h1 h2 Z h3 h4 Z=>⟨k,⟨L,o,h1,h2,h3,fun vs q=>by replace q:=ts h4 q;contradiction⟩,ih fun e he=>x e (.tail _ he)⟩
theorem FF.upd {F F':Fz} {h h' base:Heap} (k:∀ b o es n,h.get? b = some o→o.data = .dict es n→b ∉ Yb→∃ o' es' n',h'.get? b = some o' ∧ o'.data = .dict es' n') (nf:∀ b o es n,h.get? b = some o→o.data = .dict es n→F.f b = none→F'.f b = none) {l:List Env} (x:FF F h base l):FF F' h' base l:=fun env he=>
 (x env he).elim fun L o es n a h1 h2 h5 h3 h4 h6=>let ⟨o',es',n',q1,q2⟩:=k L o es n h3 h4 h5;⟨L,o',es',n',a,h1,h2,h5,q1,q2,nf L o es n h3 h4 h6⟩
theorem D3 {F F':Fz} {h:Heap} (newF:∀ b o,F'.f b = some o→F.f b = some o ∨ h.get? b = none):∀ b o es n,h.get? b = some o→o.data = .dict es n→F.f b = none→F'.f b = none:=fun b o Z Z e Z hf=>by
 cases q:F'.f b with
 | none=>rfl
 | some o'=>
  rcases newF b o' q with z | z
  ·replace z:=ts hf z;contradiction
  ·replace z:=ts e z;contradiction
structure Fm where
 env:Env
 own:List Addr
 cn:List Str
 h₀:Heap
 h₁:Heap
 F₀:Fz
 W:List Addr
 stack:List Env
noncomputable abbrev Loc:=List (Str × D)
structure Bb (B:Base) (fm:Fm):Prop where
 kind:fm.env.scope.kind = .function
 glob:fm.env.globals = mainGlobals
 bi:fm.env.builtins = builtinsNs
 ownL:fm.env.locals ∈ fm.own
 ownC:∀ x ∈ fm.cn,fm.env.kindOf x = some .cell ∧ ∃ c,fm.env.cells.lookup x = some c ∧ c ∈ fm.own ∧ c ≠ fm.env.locals
 cellInj:∀ x y c,x ∈ fm.cn→fm.env.cells.lookup x = some c→fm.env.cells.lookup y = some c→x = y
 fresh:∀ a ∈ fm.own,B.h.get? a = none ∧ fm.h₀.get? a = none ∧ a ∉ Yb
 tabW:∀ a ∈ Yb,a ∈ fm.W
 ownIs:∀ a ∈ fm.own,a = fm.env.locals ∨ ∃ x ∈ fm.cn,fm.env.cells.lookup x = some a
 celT:∀ x,fm.env.kindOf x = some .cell ∨ fm.env.kindOf x = some .free→∃ c,fm.env.cells.lookup x = some c
 celLv:∀ x c,fm.env.cells.lookup x = some c→c ∈ fm.own ∨ fm.h₁.get? c ≠ none
 sub1:∀ b o,fm.h₀.get? b = some o→fm.h₁.get? b = some o
structure Bears (fm:Fm) (ρ:Loc) (F:Fz) (h:Heap):Prop where
 ns:∃ m,h.Ns fm.env.locals m ∧ ∀ x d,ρ.lookup x = some d→fm.env.kindOf x = some .local→∃ v,m x = some v ∧ Jd F v d
 cell:∀ x d,ρ.lookup x = some d→fm.env.kindOf x = some .cell ∨ fm.env.kindOf x = some .free→∃ c v,fm.env.cells.lookup x = some c ∧ h.IsCell c (some v) ∧ Jd F v d
 cellAt:∀ x ∈ fm.cn,∀ c,fm.env.cells.lookup x = some c→∃ v,h.IsCell c v
structure St (B:Base) (fm:Fm) (ρ:Loc) (F:Fz) (H:Led) (s:Shared):Prop extends GS B F H s,Bears fm ρ F s.heap where
 ok:Bb B fm
 ownF:∀ a ∈ fm.own,F.f a = none ∧ a ∉ H.map (·.1)
 keep:∀ b o,fm.h₀.get? b = some o→b ∉ fm.W→Kept s.heap b o
 led:∀ p ∈ H,p.1 ∈ fm.W ∨ fm.h₁.get? p.1 = none
 frz:∀ b o,F.f b = some o→fm.F₀.f b = some o ∨ fm.h₁.get? b = none
 sub:fm.F₀.le F
 ff:FF F s.heap B.h fm.stack
 old:∀ b,fm.h₁.get? b ≠ none→s.heap.get? b ≠ none
 lives:∀ a ∈ fm.own,s.heap.get? a ≠ none
theorem R7 {h':Heap} {b:Addr} {o:Obj} (k:Kept h' b o) (e:h'.get? b = none):False:=by
 obtain ⟨o',q,_⟩:=k.some;rw [q] at e;cases e
noncomputable def Vk (h h':Heap):Prop:=∀ b,h.get? b ≠ none→h'.get? b ≠ none
theorem Vk.of {h h':Heap} (k:∀ b o,h.get? b = some o→∃ o',h'.get? b = some o'):Vk h h':=fun b hb q=>by
 cases e:h.get? b with
 | none=>exact hb e
 | some o=>obtain ⟨o',e'⟩:=k b o e;rw [q] at e';cases e'
theorem Vk.trans {h h' h'':Heap} (x:Vk h h') (y:Vk h' h''):Vk h h'':=fun b hb=>y b (x b hb)
theorem Vk.none {h h':Heap} (x:Vk h h') {b:Addr} (e:h'.get? b = none):h.get? b = none:=by
 cases q:h.get? b with
 | none=>rfl
 | some o=>exact absurd e (x b (by rw [q];exact some_ne_none _))
theorem St.upd {B:Base} {fm:Fm} {ρ ρ':Loc} {F F':Fz} {H H':Led} {s s':Shared} (S:St B fm ρ F H s) (g:GS B F' H' s') (le:F.le F')
  (kept:∀ b o,s.heap.get? b = some o→b ∉ H.map (·.1)→b ∉ Yb→b ∉ fm.own→Kept s'.heap b o) (live:Vk s.heap s'.heap)
  (newF:∀ b o,F'.f b = some o→F.f b = some o ∨ s.heap.get? b = none) (newH:∀ p ∈ H',p.1 ∈ H.map (·.1) ∨ s.heap.get? p.1 = none)
  (bears:Bears fm ρ' F' s'.heap)
  (dict:∀ b ∈ fm.own,∀ o es n,s.heap.get? b = some o→o.data = .dict es n→∃ o' es' n',s'.heap.get? b = some o' ∧ o'.data = .dict es' n') :
  St B fm ρ' F' H' s' where
 toGS:=g
 toBears:=bears
 ok:=S.ok
 ownF:=fun a ha=>by
  refine ⟨?_,fun hm=>?_⟩
  ·cases q:F'.f a with
   | none=>rfl
   | some o=>
    rcases newF a o q with e | e
    ·replace e:=ts ((S.ownF a ha).1) e;contradiction
    ·exact absurd e (S.lives a ha)
  ·refine el12 (lM hm) fun p hp z2=>?_;subst z2
   rcases newH p hp with e | e
   ·exact (S.ownF _ ha).2 e
   ·exact absurd e (S.lives _ ha)
 keep:=fun b o e hW=>by
  refine (S.keep b o e hW).trans fun o' q=>kept b o' q (fun hm=>?_) (fun hm=>hW (S.ok.tabW b hm)) fun hm=>?_
  ·refine el12 (lM hm) fun p hp z2=>?_;subst z2
   rcases S.led p hp with x | x
   ·exact hW x
   ·replace x:=ts (S.ok.sub1 _ _ e) x;contradiction
  ·replace e:=ts ((S.ok.fresh b hm).2.1) e;contradiction
 led:=fun p hp=>by
  rcases newH p hp with e | e
  ·refine el12 (lM e) fun q hq e=>?_;refine rwf e ?_;exact S.led q hq
  ·exact .inr (Vk.none S.old e)
 frz:=fun b o e=>by
  rcases newF b o e with x | x
  ·exact S.frz b o x
  ·exact .inr (Vk.none S.old x)
 sub:=S.sub.trans le
 ff:=S.ff.upd (fun b o es n e hd ht=>by
  by_cases ho:b ∈ fm.own
  ·exact dict b ho o es n e hd
  ·have hH:b ∉ H.map (·.1):=fun hm=>by
    refine el12 (lM hm) fun p hp z2=>?_;subst z2;refine el22 (S.own p hp) fun vs n' q Z=>?_;replace q:=ts e q;obtain rfl:=oi q;contradiction
   refine el13 ((kept b o e hH ht ho).some) fun o' q1 q2 Z=>?_
   exact ⟨o',es,n,q1,by (refine rwb q2 ?_;exact rwb hd rfl)⟩) (D3 newF)
 old:=fun b hb=>live b (S.old b hb)
 lives:=fun a ha=>live a (S.lives a ha)
theorem IsCell.kept {h h':Heap} {c:Addr} {v:Option Value} (x:h.IsCell c v) (k:∀ o,h.get? c = some o→Kept h' c o):h'.IsCell c v:=by
 obtain ⟨o,e,d⟩:=x;obtain ⟨o',q1,q2,_⟩:=(k o e).some;exact ⟨o',q1,by rw [q2,d]⟩
theorem Ns.kept {h h':Heap} {L:Addr} {m:Str→Option Value} (x:h.Ns L m) (k:∀ o,h.get? L = some o→Kept h' L o):h'.Ns L m:=by
 obtain ⟨o,es,ep,e,d,r⟩:=x;obtain ⟨o',q1,q2,_⟩:=(k o e).some;exact ⟨o',es,ep,q1,by rw [q2,d],r⟩
noncomputable def Fm.Place (fm:Fm) (b:Addr):Prop:=b = fm.env.locals ∨ ∃ x,fm.env.cells.lookup x = some b
theorem Bears.kept {fm:Fm} {ρ:Loc} {F F':Fz} {h h':Heap} (x:Bears fm ρ F h) (le:F.le F') (k:∀ b o,fm.Place b→h.get? b = some o→(∀ its n,o.data ≠ .seq its n)→(∀ vs,o.data ≠ .fields vs)→Kept h' b o):Bears fm ρ F' h' where
 ns:=by
  refine el12 x.ns fun m hm r=>?_;refine ⟨m,Ns.kept hm fun o e=>?_,fun y d e1 e2=>let ⟨v,q1,q2⟩:=r y d e1 e2;⟨v,q1,q2.mono le⟩⟩;refine el33 hm fun o' es ep a1 a2 Z=>?_;replace a1:=ts e a1;obtain rfl:=oi a1;exact k _ _ (.inl rfl) e (fun Z Z q=>by replace q:=ts a2 q;contradiction) fun Z q=>by replace q:=ts a2 q;contradiction
 cell:=fun y d e1 e2=>by
  refine el23 (x.cell y d e1 e2) fun c v q1 q2 q3=>?_;refine ⟨c,v,q1,IsCell.kept q2 fun o e=>?_,q3.mono le⟩;refine el12 q2 fun o' a1 a2=>?_;replace a1:=ts e a1;obtain rfl:=oi a1;exact k _ _ (.inr ⟨y,q1⟩) e (fun Z Z q=>by replace q:=ts a2 q;contradiction) fun Z q=>by replace q:=ts a2 q;contradiction
 cellAt:=fun y hy c e=>by
  refine el11 (x.cellAt y hy c e) fun v q2=>?_;refine ⟨v,IsCell.kept q2 fun o e'=>?_⟩;refine el12 q2 fun o' a1 a2=>?_;replace a1:=ts e' a1;obtain rfl:=oi a1;exact k _ _ (.inr ⟨y,e⟩) e' (fun Z Z q=>by replace q:=ts a2 q;contradiction) fun Z q=>by replace q:=ts a2 q;contradiction
theorem ne2 {a b:Type} (x:Nonempty a) (y:Nonempty b):Nonempty (a × b):=x.elim fun x=>y.elim fun y=>⟨(x,y)⟩
theorem neF {a b:Type} (y:Nonempty b):Nonempty (a→b):=y.elim fun y=>⟨fun _=>y⟩
theorem neZ:Nonempty Fz:=⟨⟨fun _=>none,fun _=>none⟩⟩
theorem neS:Nonempty Shared:=⟨{}⟩
theorem neA:Nonempty Around:=⟨{}⟩
theorem neW:Nonempty World:=⟨⟨fun _ _=>0,{ strHash:=fun _=>0,shareClass:=fun _=>0,mergeTok:=fun t=>t,idOf:=fun _=>0,idOfShared:=fun _ _=>0,followText:=fun _=>false,idOfImm:=fun _=>0 }⟩⟩
theorem neB:Nonempty Base:=neW.elim fun w=>neS.elim fun s=>⟨⟨w,s,default,fun _=>none,fun _=>none⟩⟩
theorem neD:Nonempty D:=⟨.none⟩
theorem neM:Nonempty Fm:=⟨⟨default,[],[],default,default,⟨fun _=>none,fun _=>none⟩,[],[]⟩⟩
theorem neO:Nonempty Sre.Outcome:=⟨.failed⟩
theorem neE:Nonempty Sre.Seen:=⟨{}⟩
theorem neT:Nonempty Tab:=⟨⟨0,0,0,0,default⟩⟩
noncomputable def ep {α:Type} (n:Nonempty α) (S:α→Prop):α:=@Classical.epsilon α n fun v=>¬ S v
theorem gen {α:Type} {n:Nonempty α} {S:α→Prop} (h:S (ep n S)) (x:α):S x:=Classical.byContradiction fun k=>@Classical.epsilon_spec α (fun v=>¬ S v) ⟨x,k⟩ h
section
variable {A B C D E F G I J L M N O R S T U V W X Y Z B' C' D':Type} (a:A) (b:B) (c:C) (d:D) (e:E) (f:F) (g:G) (i:I) (j:J) (k:L) (l:M) (m:N) (o:O) (p:R) (q:S) (r:T) (s:U) (t:V) (u:W) (v:X) (w:Y) (x:Z) (y:B') (z:C') (aa:D')
variable (Q1:A→Prop)
noncomputable def H1:=Q1 a
noncomputable def A1:=∀ a,H1 a Q1
noncomputable def U1 (v:A):=Q1 v
noncomputable def K1 (n:Nonempty (A)):=ep n (U1 Q1)
theorem G1 (n:autoParam (Nonempty (A)) aW) (h:H1 (K1 Q1 n) Q1):∀ a,Q1 a:=fun a=>gen (S:=U1 Q1) h a
variable (Q2:A→B→Prop)
noncomputable def H2:=Q2 a b
noncomputable def A2:=∀ a b,H2 a b Q2
noncomputable def U2 (v:A × B):=Q2 v.1 v.2
noncomputable def K2 (n:Nonempty (A × B)):=ep n (U2 Q2)
theorem G2 (n:autoParam (Nonempty (A × B)) aW) (h:H2 (K2 Q2 n).1 (K2 Q2 n).2 Q2):∀ a b,Q2 a b:=fun a b=>gen (S:=U2 Q2) h (a,b)
variable (Q3:A→B→C→Prop)
noncomputable def H3:=Q3 a b c
noncomputable def A3:=∀ a b c,H3 a b c Q3
noncomputable def U3 (v:(A × B) × C):=Q3 v.1.1 v.1.2 v.2
noncomputable def K3 (n:Nonempty ((A × B) × C)):=ep n (U3 Q3)
theorem G3 (n:autoParam (Nonempty ((A × B) × C)) aW) (h:H3 (K3 Q3 n).1.1 (K3 Q3 n).1.2 (K3 Q3 n).2 Q3):∀ a b c,Q3 a b c:=fun a b c=>gen (S:=U3 Q3) h ((a,b),c)
variable (Q4:A→B→C→D→Prop)
noncomputable def H4:=Q4 a b c d
noncomputable def A4:=∀ a b c d,H4 a b c d Q4
noncomputable def U4 (v:(A × B) × C × D):=Q4 v.1.1 v.1.2 v.2.1 v.2.2
noncomputable def K4 (n:Nonempty ((A × B) × C × D)):=ep n (U4 Q4)
theorem G4 (n:autoParam (Nonempty ((A × B) × C × D)) aW) (h:H4 (K4 Q4 n).1.1 (K4 Q4 n).1.2 (K4 Q4 n).2.1 (K4 Q4 n).2.2 Q4):∀ a b c d,Q4 a b c d:=fun a b c d=>gen (S:=U4 Q4) h ((a,b),(c,d))
variable (Q5:A→B→C→D→E→Prop)
noncomputable def H5:=Q5 a b c d e
noncomputable def A5:=∀ a b c d e,H5 a b c d e Q5
noncomputable def U5 (v:((A × B) × C) × D × E):=Q5 v.1.1.1 v.1.1.2 v.1.2 v.2.1 v.2.2
noncomputable def K5 (n:Nonempty (((A × B) × C) × D × E)):=ep n (U5 Q5)
theorem G5 (n:autoParam (Nonempty (((A × B) × C) × D × E)) aW) (h:H5 (K5 Q5 n).1.1.1 (K5 Q5 n).1.1.2 (K5 Q5 n).1.2 (K5 Q5 n).2.1 (K5 Q5 n).2.2 Q5):∀ a b c d e,Q5 a b c d e:=fun a b c d e=>gen (S:=U5 Q5) h (((a,b),c),(d,e))
variable (Q6:A→B→C→D→E→F→Prop)
noncomputable def H6:=Q6 a b c d e f
noncomputable def A6:=∀ a b c d e f,H6 a b c d e f Q6
noncomputable def U6 (v:((A × B) × C) × (D × E) × F):=Q6 v.1.1.1 v.1.1.2 v.1.2 v.2.1.1 v.2.1.2 v.2.2
noncomputable def K6 (n:Nonempty (((A × B) × C) × (D × E) × F)):=ep n (U6 Q6)
theorem G6 (n:autoParam (Nonempty (((A × B) × C) × (D × E) × F)) aW) (h:H6 (K6 Q6 n).1.1.1 (K6 Q6 n).1.1.2 (K6 Q6 n).1.2 (K6 Q6 n).2.1.1 (K6 Q6 n).2.1.2 (K6 Q6 n).2.2 Q6):∀ a b c d e f,Q6 a b c d e f:=fun a b c d e f=>gen (S:=U6 Q6) h (((a,b),c),((d,e),f))
variable (Q7:A→B→C→D→E→F→G→Prop)
noncomputable def H7:=Q7 a b c d e f g
noncomputable def A7:=∀ a b c d e f g,H7 a b c d e f g Q7
noncomputable def U7 (v:((A × B) × C × D) × (E × F) × G):=Q7 v.1.1.1 v.1.1.2 v.1.2.1 v.1.2.2 v.2.1.1 v.2.1.2 v.2.2
noncomputable def K7 (n:Nonempty (((A × B) × C × D) × (E × F) × G)):=ep n (U7 Q7)
theorem G7 (n:autoParam (Nonempty (((A × B) × C × D) × (E × F) × G)) aW) (h:H7 (K7 Q7 n).1.1.1 (K7 Q7 n).1.1.2 (K7 Q7 n).1.2.1 (K7 Q7 n).1.2.2 (K7 Q7 n).2.1.1 (K7 Q7 n).2.1.2 (K7 Q7 n).2.2 Q7):∀ a b c d e f g,Q7 a b c d e f g:=fun a b c d e f g=>gen (S:=U7 Q7) h (((a,b),(c,d)),((e,f),g))
variable (Q8:A→B→C→D→E→F→G→I→Prop)
noncomputable def H8:=Q8 a b c d e f g i
noncomputable def A8:=∀ a b c d e f g i,H8 a b c d e f g i Q8
noncomputable def U8 (v:((A × B) × C × D) × (E × F) × G × I):=Q8 v.1.1.1 v.1.1.2 v.1.2.1 v.1.2.2 v.2.1.1 v.2.1.2 v.2.2.1 v.2.2.2
noncomputable def K8 (n:Nonempty (((A × B) × C × D) × (E × F) × G × I)):=ep n (U8 Q8)
theorem G8 (n:autoParam (Nonempty (((A × B) × C × D) × (E × F) × G × I)) aW) (h:H8 (K8 Q8 n).1.1.1 (K8 Q8 n).1.1.2 (K8 Q8 n).1.2.1 (K8 Q8 n).1.2.2 (K8 Q8 n).2.1.1 (K8 Q8 n).2.1.2 (K8 Q8 n).2.2.1 (K8 Q8 n).2.2.2 Q8):∀ a b c d e f g i,Q8 a b c d e f g i:=fun a b c d e f g i=>gen (S:=U8 Q8) h (((a,b),(c,d)),((e,f),(g,i)))
variable (Q9:A→B→C→D→E→F→G→I→J→Prop)
noncomputable def H9:=Q9 a b c d e f g i j
noncomputable def A9:=∀ a b c d e f g i j,H9 a b c d e f g i j Q9
noncomputable def U9 (v:(((A × B) × C) × D × E) × (F × G) × I × J):=Q9 v.1.1.1.1 v.1.1.1.2 v.1.1.2 v.1.2.1 v.1.2.2 v.2.1.1 v.2.1.2 v.2.2.1 v.2.2.2
noncomputable def K9 (n:Nonempty ((((A × B) × C) × D × E) × (F × G) × I × J)):=ep n (U9 Q9)
theorem G9 (n:autoParam (Nonempty ((((A × B) × C) × D × E) × (F × G) × I × J)) aW) (h:H9 (K9 Q9 n).1.1.1.1 (K9 Q9 n).1.1.1.2 (K9 Q9 n).1.1.2 (K9 Q9 n).1.2.1 (K9 Q9 n).1.2.2 (K9 Q9 n).2.1.1 (K9 Q9 n).2.1.2 (K9 Q9 n).2.2.1 (K9 Q9 n).2.2.2 Q9):∀ a b c d e f g i j,Q9 a b c d e f g i j:=fun a b c d e f g i j=>gen (S:=U9 Q9) h ((((a,b),c),(d,e)),((f,g),(i,j)))
variable (Q10:A→B→C→D→E→F→G→I→J→L→Prop)
noncomputable def H10:=Q10 a b c d e f g i j k
noncomputable def A10:=∀ a b c d e f g i j k,H10 a b c d e f g i j k Q10
noncomputable def U10 (v:(((A × B) × C) × D × E) × ((F × G) × I) × J × L):=Q10 v.1.1.1.1 v.1.1.1.2 v.1.1.2 v.1.2.1 v.1.2.2 v.2.1.1.1 v.2.1.1.2 v.2.1.2 v.2.2.1 v.2.2.2
noncomputable def K10 (n:Nonempty ((((A × B) × C) × D × E) × ((F × G) × I) × J × L)):=ep n (U10 Q10)
theorem G10 (n:autoParam (Nonempty ((((A × B) × C) × D × E) × ((F × G) × I) × J × L)) aW) (h:H10 (K10 Q10 n).1.1.1.1 (K10 Q10 n).1.1.1.2 (K10 Q10 n).1.1.2 (K10 Q10 n).1.2.1 (K10 Q10 n).1.2.2 (K10 Q10 n).2.1.1.1 (K10 Q10 n).2.1.1.2 (K10 Q10 n).2.1.2 (K10 Q10 n).2.2.1 (K10 Q10 n).2.2.2 Q10):∀ a b c d e f g i j k,Q10 a b c d e f g i j k:=fun a b c d e f g i j k=>gen (S:=U10 Q10) h ((((a,b),c),(d,e)),(((f,g),i),(j,k)))
variable (Q11:A→B→C→D→E→F→G→I→J→L→M→Prop)
noncomputable def H11:=Q11 a b c d e f g i j k l
noncomputable def A11:=∀ a b c d e f g i j k l,H11 a b c d e f g i j k l Q11
noncomputable def U11 (v:(((A × B) × C) × (D × E) × F) × ((G × I) × J) × L × M):=Q11 v.1.1.1.1 v.1.1.1.2 v.1.1.2 v.1.2.1.1 v.1.2.1.2 v.1.2.2 v.2.1.1.1 v.2.1.1.2 v.2.1.2 v.2.2.1 v.2.2.2
noncomputable def K11 (n:Nonempty ((((A × B) × C) × (D × E) × F) × ((G × I) × J) × L × M)):=ep n (U11 Q11)
theorem G11 (n:autoParam (Nonempty ((((A × B) × C) × (D × E) × F) × ((G × I) × J) × L × M)) aW) (h:H11 (K11 Q11 n).1.1.1.1 (K11 Q11 n).1.1.1.2 (K11 Q11 n).1.1.2 (K11 Q11 n).1.2.1.1 (K11 Q11 n).1.2.1.2 (K11 Q11 n).1.2.2 (K11 Q11 n).2.1.1.1 (K11 Q11 n).2.1.1.2 (K11 Q11 n).2.1.2 (K11 Q11 n).2.2.1 (K11 Q11 n).2.2.2 Q11):∀ a b c d e f g i j k l,Q11 a b c d e f g i j k l:=fun a b c d e f g i j k l=>gen (S:=U11 Q11) h ((((a,b),c),((d,e),f)),(((g,i),j),(k,l)))
variable (Q12:A→B→C→D→E→F→G→I→J→L→M→N→Prop)
noncomputable def H12:=Q12 a b c d e f g i j k l m
noncomputable def A12:=∀ a b c d e f g i j k l m,H12 a b c d e f g i j k l m Q12
noncomputable def U12 (v:(((A × B) × C) × (D × E) × F) × ((G × I) × J) × (L × M) × N):=Q12 v.1.1.1.1 v.1.1.1.2 v.1.1.2 v.1.2.1.1 v.1.2.1.2 v.1.2.2 v.2.1.1.1 v.2.1.1.2 v.2.1.2 v.2.2.1.1 v.2.2.1.2 v.2.2.2
noncomputable def K12 (n:Nonempty ((((A × B) × C) × (D × E) × F) × ((G × I) × J) × (L × M) × N)):=ep n (U12 Q12)
theorem G12 (n:autoParam (Nonempty ((((A × B) × C) × (D × E) × F) × ((G × I) × J) × (L × M) × N)) aW) (h:H12 (K12 Q12 n).1.1.1.1 (K12 Q12 n).1.1.1.2 (K12 Q12 n).1.1.2 (K12 Q12 n).1.2.1.1 (K12 Q12 n).1.2.1.2 (K12 Q12 n).1.2.2 (K12 Q12 n).2.1.1.1 (K12 Q12 n).2.1.1.2 (K12 Q12 n).2.1.2 (K12 Q12 n).2.2.1.1 (K12 Q12 n).2.2.1.2 (K12 Q12 n).2.2.2 Q12):∀ a b c d e f g i j k l m,Q12 a b c d e f g i j k l m:=fun a b c d e f g i j k l m=>gen (S:=U12 Q12) h ((((a,b),c),((d,e),f)),(((g,i),j),((k,l),m)))
variable (Q13:A→B→C→D→E→F→G→I→J→L→M→N→O→Prop)
noncomputable def H13:=Q13 a b c d e f g i j k l m o
noncomputable def A13:=∀ a b c d e f g i j k l m o,H13 a b c d e f g i j k l m o Q13
noncomputable def U13 (v:(((A × B) × C × D) × (E × F) × G) × ((I × J) × L) × (M × N) × O):=Q13 v.1.1.1.1 v.1.1.1.2 v.1.1.2.1 v.1.1.2.2 v.1.2.1.1 v.1.2.1.2 v.1.2.2 v.2.1.1.1 v.2.1.1.2 v.2.1.2 v.2.2.1.1 v.2.2.1.2 v.2.2.2
noncomputable def K13 (n:Nonempty ((((A × B) × C × D) × (E × F) × G) × ((I × J) × L) × (M × N) × O)):=ep n (U13 Q13)
theorem G13 (n:autoParam (Nonempty ((((A × B) × C × D) × (E × F) × G) × ((I × J) × L) × (M × N) × O)) aW) (h:H13 (K13 Q13 n).1.1.1.1 (K13 Q13 n).1.1.1.2 (K13 Q13 n).1.1.2.1 (K13 Q13 n).1.1.2.2 (K13 Q13 n).1.2.1.1 (K13 Q13 n).1.2.1.2 (K13 Q13 n).1.2.2 (K13 Q13 n).2.1.1.1 (K13 Q13 n).2.1.1.2 (K13 Q13 n).2.1.2 (K13 Q13 n).2.2.1.1 (K13 Q13 n).2.2.1.2 (K13 Q13 n).2.2.2 Q13):∀ a b c d e f g i j k l m o,Q13 a b c d e f g i j k l m o:=fun a b c d e f g i j k l m o=>gen (S:=U13 Q13) h ((((a,b),(c,d)),((e,f),g)),(((i,j),k),((l,m),o)))
variable (Q15:A→B→C→D→E→F→G→I→J→L→M→N→O→R→S→Prop)
noncomputable def H15:=Q15 a b c d e f g i j k l m o p q
noncomputable def A15:=∀ a b c d e f g i j k l m o p q,H15 a b c d e f g i j k l m o p q Q15
noncomputable def U15 (v:(((A × B) × C × D) × (E × F) × G × I) × ((J × L) × M × N) × (O × R) × S):=Q15 v.1.1.1.1 v.1.1.1.2 v.1.1.2.1 v.1.1.2.2 v.1.2.1.1 v.1.2.1.2 v.1.2.2.1 v.1.2.2.2 v.2.1.1.1 v.2.1.1.2 v.2.1.2.1 v.2.1.2.2 v.2.2.1.1 v.2.2.1.2 v.2.2.2
noncomputable def K15 (n:Nonempty ((((A × B) × C × D) × (E × F) × G × I) × ((J × L) × M × N) × (O × R) × S)):=ep n (U15 Q15)
theorem G15 (n:autoParam (Nonempty ((((A × B) × C × D) × (E × F) × G × I) × ((J × L) × M × N) × (O × R) × S)) aW) (h:H15 (K15 Q15 n).1.1.1.1 (K15 Q15 n).1.1.1.2 (K15 Q15 n).1.1.2.1 (K15 Q15 n).1.1.2.2 (K15 Q15 n).1.2.1.1 (K15 Q15 n).1.2.1.2 (K15 Q15 n).1.2.2.1 (K15 Q15 n).1.2.2.2 (K15 Q15 n).2.1.1.1 (K15 Q15 n).2.1.1.2 (K15 Q15 n).2.1.2.1 (K15 Q15 n).2.1.2.2 (K15 Q15 n).2.2.1.1 (K15 Q15 n).2.2.1.2 (K15 Q15 n).2.2.2 Q15):∀ a b c d e f g i j k l m o p q,Q15 a b c d e f g i j k l m o p q:=fun a b c d e f g i j k l m o p q=>gen (S:=U15 Q15) h ((((a,b),(c,d)),((e,f),(g,i))),(((j,k),(l,m)),((o,p),q)))
variable (Q16:A→B→C→D→E→F→G→I→J→L→M→N→O→R→S→T→Prop)
noncomputable def H16:=Q16 a b c d e f g i j k l m o p q r
noncomputable def A16:=∀ a b c d e f g i j k l m o p q r,H16 a b c d e f g i j k l m o p q r Q16
noncomputable def U16 (v:(((A × B) × C × D) × (E × F) × G × I) × ((J × L) × M × N) × (O × R) × S × T):=Q16 v.1.1.1.1 v.1.1.1.2 v.1.1.2.1 v.1.1.2.2 v.1.2.1.1 v.1.2.1.2 v.1.2.2.1 v.1.2.2.2 v.2.1.1.1 v.2.1.1.2 v.2.1.2.1 v.2.1.2.2 v.2.2.1.1 v.2.2.1.2 v.2.2.2.1 v.2.2.2.2
noncomputable def K16 (n:Nonempty ((((A × B) × C × D) × (E × F) × G × I) × ((J × L) × M × N) × (O × R) × S × T)):=ep n (U16 Q16)
theorem G16 (n:autoParam (Nonempty ((((A × B) × C × D) × (E × F) × G × I) × ((J × L) × M × N) × (O × R) × S × T)) aW) (h:H16 (K16 Q16 n).1.1.1.1 (K16 Q16 n).1.1.1.2 (K16 Q16 n).1.1.2.1 (K16 Q16 n).1.1.2.2 (K16 Q16 n).1.2.1.1 (K16 Q16 n).1.2.1.2 (K16 Q16 n).1.2.2.1 (K16 Q16 n).1.2.2.2 (K16 Q16 n).2.1.1.1 (K16 Q16 n).2.1.1.2 (K16 Q16 n).2.1.2.1 (K16 Q16 n).2.1.2.2 (K16 Q16 n).2.2.1.1 (K16 Q16 n).2.2.1.2 (K16 Q16 n).2.2.2.1 (K16 Q16 n).2.2.2.2 Q16):∀ a b c d e f g i j k l m o p q r,Q16 a b c d e f g i j k l m o p q r:=fun a b c d e f g i j k l m o p q r=>gen (S:=U16 Q16) h ((((a,b),(c,d)),((e,f),(g,i))),(((j,k),(l,m)),((o,p),(q,r))))
variable (Q17:A→B→C→D→E→F→G→I→J→L→M→N→O→R→S→T→U→Prop)
noncomputable def H17:=Q17 a b c d e f g i j k l m o p q r s
noncomputable def A17:=∀ a b c d e f g i j k l m o p q r s,H17 a b c d e f g i j k l m o p q r s Q17
noncomputable def U17 (v:((((A × B) × C) × D × E) × (F × G) × I × J) × ((L × M) × N × O) × (R × S) × T × U):=Q17 v.1.1.1.1.1 v.1.1.1.1.2 v.1.1.1.2 v.1.1.2.1 v.1.1.2.2 v.1.2.1.1 v.1.2.1.2 v.1.2.2.1 v.1.2.2.2 v.2.1.1.1 v.2.1.1.2 v.2.1.2.1 v.2.1.2.2 v.2.2.1.1 v.2.2.1.2 v.2.2.2.1 v.2.2.2.2
noncomputable def K17 (n:Nonempty (((((A × B) × C) × D × E) × (F × G) × I × J) × ((L × M) × N × O) × (R × S) × T × U)):=ep n (U17 Q17)
theorem G17 (n:autoParam (Nonempty (((((A × B) × C) × D × E) × (F × G) × I × J) × ((L × M) × N × O) × (R × S) × T × U)) aW) (h:H17 (K17 Q17 n).1.1.1.1.1 (K17 Q17 n).1.1.1.1.2 (K17 Q17 n).1.1.1.2 (K17 Q17 n).1.1.2.1 (K17 Q17 n).1.1.2.2 (K17 Q17 n).1.2.1.1 (K17 Q17 n).1.2.1.2 (K17 Q17 n).1.2.2.1 (K17 Q17 n).1.2.2.2 (K17 Q17 n).2.1.1.1 (K17 Q17 n).2.1.1.2 (K17 Q17 n).2.1.2.1 (K17 Q17 n).2.1.2.2 (K17 Q17 n).2.2.1.1 (K17 Q17 n).2.2.1.2 (K17 Q17 n).2.2.2.1 (K17 Q17 n).2.2.2.2 Q17):∀ a b c d e f g i j k l m o p q r s,Q17 a b c d e f g i j k l m o p q r s:=fun a b c d e f g i j k l m o p q r s=>gen (S:=U17 Q17) h (((((a,b),c),(d,e)),((f,g),(i,j))),(((k,l),(m,o)),((p,q),(r,s))))
variable (Q19:A→B→C→D→E→F→G→I→J→L→M→N→O→R→S→T→U→V→W→Prop)
noncomputable def H19:=Q19 a b c d e f g i j k l m o p q r s t u
noncomputable def A19:=∀ a b c d e f g i j k l m o p q r s t u,H19 a b c d e f g i j k l m o p q r s t u Q19
noncomputable def U19 (v:((((A × B) × C) × D × E) × ((F × G) × I) × J × L) × (((M × N) × O) × R × S) × (T × U) × V × W):=Q19 v.1.1.1.1.1 v.1.1.1.1.2 v.1.1.1.2 v.1.1.2.1 v.1.1.2.2 v.1.2.1.1.1 v.1.2.1.1.2 v.1.2.1.2 v.1.2.2.1 v.1.2.2.2 v.2.1.1.1.1 v.2.1.1.1.2 v.2.1.1.2 v.2.1.2.1 v.2.1.2.2 v.2.2.1.1 v.2.2.1.2 v.2.2.2.1 v.2.2.2.2
noncomputable def K19 (n:Nonempty (((((A × B) × C) × D × E) × ((F × G) × I) × J × L) × (((M × N) × O) × R × S) × (T × U) × V × W)):=ep n (U19 Q19)
theorem G19 (n:autoParam (Nonempty (((((A × B) × C) × D × E) × ((F × G) × I) × J × L) × (((M × N) × O) × R × S) × (T × U) × V × W)) aW) (h:H19 (K19 Q19 n).1.1.1.1.1 (K19 Q19 n).1.1.1.1.2 (K19 Q19 n).1.1.1.2 (K19 Q19 n).1.1.2.1 (K19 Q19 n).1.1.2.2 (K19 Q19 n).1.2.1.1.1 (K19 Q19 n).1.2.1.1.2 (K19 Q19 n).1.2.1.2 (K19 Q19 n).1.2.2.1 (K19 Q19 n).1.2.2.2 (K19 Q19 n).2.1.1.1.1 (K19 Q19 n).2.1.1.1.2 (K19 Q19 n).2.1.1.2 (K19 Q19 n).2.1.2.1 (K19 Q19 n).2.1.2.2 (K19 Q19 n).2.2.1.1 (K19 Q19 n).2.2.1.2 (K19 Q19 n).2.2.2.1 (K19 Q19 n).2.2.2.2 Q19):∀ a b c d e f g i j k l m o p q r s t u,Q19 a b c d e f g i j k l m o p q r s t u:=fun a b c d e f g i j k l m o p q r s t u=>gen (S:=U19 Q19) h (((((a,b),c),(d,e)),(((f,g),i),(j,k))),((((l,m),o),(p,q)),((r,s),(t,u))))
variable (Q25:A→B→C→D→E→F→G→I→J→L→M→N→O→R→S→T→U→V→W→X→Y→Z→B'→C'→D'→Prop)
noncomputable def H25:=Q25 a b c d e f g i j k l m o p q r s t u v w x y z aa
noncomputable def A25:=∀ a b c d e f g i j k l m o p q r s t u v w x y z aa,H25 a b c d e f g i j k l m o p q r s t u v w x y z aa Q25
noncomputable def U25 (v:((((A × B) × C × D) × (E × F) × G) × ((I × J) × L) × (M × N) × O) × (((R × S) × T) × (U × V) × W) × ((X × Y) × Z) × (B' × C') × D'):=Q25 v.1.1.1.1.1 v.1.1.1.1.2 v.1.1.1.2.1 v.1.1.1.2.2 v.1.1.2.1.1 v.1.1.2.1.2 v.1.1.2.2 v.1.2.1.1.1 v.1.2.1.1.2 v.1.2.1.2 v.1.2.2.1.1 v.1.2.2.1.2 v.1.2.2.2 v.2.1.1.1.1 v.2.1.1.1.2 v.2.1.1.2 v.2.1.2.1.1 v.2.1.2.1.2 v.2.1.2.2 v.2.2.1.1.1 v.2.2.1.1.2 v.2.2.1.2 v.2.2.2.1.1 v.2.2.2.1.2 v.2.2.2.2
noncomputable def K25 (n:Nonempty (((((A × B) × C × D) × (E × F) × G) × ((I × J) × L) × (M × N) × O) × (((R × S) × T) × (U × V) × W) × ((X × Y) × Z) × (B' × C') × D')):=ep n (U25 Q25)
theorem G25 (n:autoParam (Nonempty (((((A × B) × C × D) × (E × F) × G) × ((I × J) × L) × (M × N) × O) × (((R × S) × T) × (U × V) × W) × ((X × Y) × Z) × (B' × C') × D')) aW) (h:H25 (K25 Q25 n).1.1.1.1.1 (K25 Q25 n).1.1.1.1.2 (K25 Q25 n).1.1.1.2.1 (K25 Q25 n).1.1.1.2.2 (K25 Q25 n).1.1.2.1.1 (K25 Q25 n).1.1.2.1.2 (K25 Q25 n).1.1.2.2 (K25 Q25 n).1.2.1.1.1 (K25 Q25 n).1.2.1.1.2 (K25 Q25 n).1.2.1.2 (K25 Q25 n).1.2.2.1.1 (K25 Q25 n).1.2.2.1.2 (K25 Q25 n).1.2.2.2 (K25 Q25 n).2.1.1.1.1 (K25 Q25 n).2.1.1.1.2 (K25 Q25 n).2.1.1.2 (K25 Q25 n).2.1.2.1.1 (K25 Q25 n).2.1.2.1.2 (K25 Q25 n).2.1.2.2 (K25 Q25 n).2.2.1.1.1 (K25 Q25 n).2.2.1.1.2 (K25 Q25 n).2.2.1.2 (K25 Q25 n).2.2.2.1.1 (K25 Q25 n).2.2.2.1.2 (K25 Q25 n).2.2.2.2 Q25):∀ a b c d e f g i j k l m o p q r s t u v w x y z aa,Q25 a b c d e f g i j k l m o p q r s t u v w x y z aa:=fun a b c d e f g i j k l m o p q r s t u v w x y z aa=>gen (S:=U25 Q25) h (((((a,b),(c,d)),((e,f),g)),(((i,j),k),((l,m),o))),((((p,q),r),((s,t),u)),(((v,w),x),((y,z),aa))))
end
theorem Mq.mono {F F':Fz} {h h':Heap} {a:Addr} {ds:List D} (x:Mq F h a ds) (le:F.le F') (k:∀ o,h.get? a = some o→h'.get? a = some o):Mq F' h' a ds:=
 let ⟨vs,n,e,r⟩:=x;⟨vs,n,k _ e,r.mono le⟩
theorem L5.mono {F F':Fz} {h h':Heap} {q:Tab} (x:L5 F h q) (le:F.le F') (k:∀ o,h.get? q.P = some o→h'.get? q.P = some o):L5 F' h' q:=by
 revert x le k;revert F F' h h' q;refine no_implicit_lambda% (G5 (h:=?_));refine (?_:A5 _) _ _ _ _ _;intro F F' h h' q x le k
 rcases x with x | ⟨c',oc,vs,t,x1,x2,x3⟩
 ·exact .inl (k _ x)
 ·exact .inr ⟨c',oc,vs,t,k _ x1,le.f _ _ x2,x3⟩
theorem L5.there {F:Fz} {h:Heap} {q:Tab} (x:L5 F h q):∃ ps,h.get? q.P = some (tabObj ps):=by
 rcases x with x | ⟨c',oc,vs,t,x1,x2,x3⟩
 ·exact ⟨_,x⟩
 ·exact ⟨_,x1⟩
theorem Vd {a:Addr} (h:a ∈ Yb):∃ q ∈ Vn,q.P = a:=by
 simp only [Yb,mem_cons,not_mem_nil,or_false] at h
 rcases h with rfl | rfl | rfl
 ·exact ⟨_,.head _,rfl⟩
 ·exact ⟨_,.tail _ (.head _),rfl⟩
 ·exact ⟨_,.tail _ (.tail _ (.head _)),rfl⟩
section
variable {B:Base} {fm:Fm} {ρ:Loc} {F F':Fz} {H H':Led} {s:Shared} {h':Heap} {tk:Nat}
theorem GS.tpos (g:GS B F H s) (ht:s.toks ≤ tk):tk ≠ 0:=Nat.ne_of_gt (Nat.lt_of_lt_of_le (Nat.pos_of_ne_zero g.tp) ht)
theorem GS.jc7 (g:GS B F H s) (ht:s.toks ≤ tk):∀ t x,F.g t = some x→t < tk ∧ t ≠ 0:=fun t x e=>⟨Nat.lt_of_lt_of_le (g.tg t x e).1 ht,(g.tg t x e).2⟩
theorem GS.fresh (g:GS B F H s) {a:Addr} (e:s.heap.get? a = none):F.f a = none ∧ B.h.get? a = none ∧ a ∉ Yb ∧ a ∉ H.map (·.1):=by
 refine ⟨?_,?_,fun hm=>?_,fun hm=>?_⟩
 ·cases q:F.f a with
  | none=>rfl
  | some o=>replace e:=ts (g.froz _ _ q) e;contradiction
 ·cases q:B.h.get? a with
  | none=>rfl
  | some o=>replace e:=ts (g.base _ _ q) e;contradiction
 ·refine el12 (Vd hm) fun q hq z2=>?_;subst z2;refine el11 ((g.tab q hq).there) fun ps x=>?_;replace e:=ts x e;contradiction
 ·refine el12 (lM hm) fun p hp z2=>?_;subst z2;refine el22 (g.own p hp) fun vs n x Z=>?_;replace e:=ts x e;contradiction
theorem GS.more (g:GS B F H s) (k:∀ b o,s.heap.get? b = some o→h'.get? b = some o) (le:F.le F') (newF:∀ b o,F'.f b = some o→F.f b = some o ∨ s.heap.get? b = none)
  (froz:∀ b o,F'.f b = some o→h'.get? b = some o) (ht:autoParam (s.toks ≤ tk) aK) (newG:autoParam (∀ t x,F'.g t = some x→F.g t = some x ∨ (s.toks ≤ t ∧ t < tk)) aK):GS B F' H { s with heap:=h',toks:=tk } where
 tp:=g.tpos ht
 tg:=fun t x e=>(newG t x e).elim (g.jc7 ht t x) fun q=>⟨q.2,g.tpos q.1⟩
 same:=by obtain ⟨h,t,e⟩:=g.same;exact ⟨h',tk,by rw [e]⟩
 base:=fun b o e=>k b o (g.base b o e)
 froz:=froz
 own:=fun p hp=>(g.own p hp).mono le fun o e=>k _ o e
 nod:=g.nod
 apart:=fun p hp=>by
  refine ⟨?_,(g.apart p hp).2⟩;cases q:F'.f p.1 with
  | none=>rfl
  | some o=>
   rcases newF _ _ q with x | x
   ·rw [(g.apart p hp).1] at x;cases x
   ·obtain ⟨vs,n,y,_⟩:=g.own p hp;rw [y] at x;cases x
 tab:=fun q hq=>(g.tab q hq).mono le fun o e=>k _ o e
 bk:=g.bk
 tabF:=fun a ha=>by
  refine ⟨?_,(g.tabF a ha).2⟩;cases q:F'.f a with
  | none=>rfl
  | some o=>
   rcases newF _ _ q with x | x
   ·rw [(g.tabF a ha).1] at x;cases x
   ·obtain ⟨r,hr,rfl⟩:=Vd ha;obtain ⟨ps,y⟩:=(g.tab r hr).there;rw [y] at x;cases x
theorem GS.keeps (g:GS B F H s) (k:∀ b o,s.heap.get? b = some o→h'.get? b = some o) (ht:autoParam (s.toks ≤ tk) aK):GS B F H { s with heap:=h',toks:=tk }:=
 g.more k (Fz.le.refl F) (fun Z Z e=>.inl e) fun b o e=>k b o (g.froz b o e)
theorem GS.addL (g:GS B F H s) {a:Addr} {ds:List D} (ha:F.f a = none ∧ B.h.get? a = none ∧ a ∉ Yb ∧ a ∉ H.map (·.1)) (hl:Mq F s.heap a ds):GS B F ((a,ds) :: H) s where
 tp:=g.tp
 tg:=g.tg
 same:=g.same
 base:=g.base
 froz:=g.froz
 own:=fun p hp=>by rcases lC hp with rfl | hp;exact hl;exact g.own p hp
 nod:=by rw [map_cons,nodup_cons];exact ⟨ha.2.2.2,g.nod⟩
 apart:=fun p hp=>by rcases lC hp with rfl | hp;exact ⟨ha.1,ha.2.1,ha.2.2.1⟩;exact g.apart p hp
 tab:=g.tab
 bk:=g.bk
 tabF:=g.tabF
theorem GS.drop (g:GS B F H s) (hs:H'.Sublist H):GS B F H' s where
 tp:=g.tp
 tg:=g.tg
 same:=g.same
 base:=g.base
 froz:=g.froz
 own:=fun p hp=>g.own p (hs.subset hp)
 nod:=g.nod.sublist (hs.map _)
 apart:=fun p hp=>g.apart p (hs.subset hp)
 tab:=g.tab
 bk:=g.bk
 tabF:=g.tabF
theorem St.more (S:St B fm ρ F H s) (k:∀ b o,s.heap.get? b = some o→h'.get? b = some o) (le:F.le F') (newF:∀ b o,F'.f b = some o→F.f b = some o ∨ s.heap.get? b = none)
  (froz:∀ b o,F'.f b = some o→h'.get? b = some o) (ht:autoParam (s.toks ≤ tk) aK) (newG:autoParam (∀ t x,F'.g t = some x→F.g t = some x ∨ (s.toks ≤ t ∧ t < tk)) aK):St B fm ρ F' H { s with heap:=h',toks:=tk }:=
 S.upd (S.toGS.more k le newF froz ht newG) le (fun b o e Z Z Z=>.inl (k b o e)) (Vk.of fun b o e=>⟨o,k b o e⟩) newF (fun p hp=>.inl (mem_map_of_mem hp))
  (S.toBears.kept le fun b o Z e Z Z=>.inl (k b o e)) fun b Z o es n e hd=>⟨o,es,n,k b o e,hd⟩
theorem St.keeps (S:St B fm ρ F H s) (k:∀ b o,s.heap.get? b = some o→h'.get? b = some o) (ht:autoParam (s.toks ≤ tk) aK):St B fm ρ F H { s with heap:=h',toks:=tk }:=
 S.more k (Fz.le.refl F) (fun Z Z e=>.inl e) fun b o e=>k b o (S.froz b o e)
theorem St.tok (S:St B fm ρ F H s) (tk:Nat) (ht:autoParam (s.toks ≤ tk) aK):St B fm ρ F H { s with toks:=tk }:=S.keeps (h':=s.heap) fun Z Z e=>e
theorem St.fresh (S:St B fm ρ F H s) {a:Addr} (e:s.heap.get? a = none):F.f a = none ∧ B.h.get? a = none ∧ a ∉ Yb ∧ a ∉ H.map (·.1):=S.toGS.fresh e
theorem St.drop (S:St B fm ρ F H s) (hs:H'.Sublist H):St B fm ρ F H' s:=
 S.upd (S.toGS.drop hs) (Fz.le.refl F) (fun b o e Z Z Z=>.inl e) (fun b h=>h) (fun Z Z e=>.inl e) (fun p hp=>.inl (mem_map_of_mem (hs.subset hp))) S.toBears fun b Z o es n e hd=>⟨o,es,n,e,hd⟩
noncomputable def Fz.put (F:Fz) (a:Addr) (o:Obj):Fz:=⟨fun b=>if b = a then some o else F.f b,F.g⟩
theorem Fz.put_ne {a:Addr} {o:Obj} {b:Addr} (h:b ≠ a):(F.put a o).f b = F.f b:=if_neg h
theorem Fz.Gr {a:Addr} {o:Obj} (h:F.f a = none):F.le (F.put a o):=⟨fun b ob e=>by
 by_cases q:b = a
 ·subst q;rw [h] at e;cases e
 ·rw [Fz.put_ne q];exact e,fun Z Z e=>e⟩
theorem Fz.put_self (F:Fz) (a:Addr) (o:Obj):(F.put a o).f a = some o:=if_pos rfl
theorem Fz.yp {a:Addr} {o:Obj} {b:Addr} {ob:Obj} (e:(F.put a o).f b = some ob):F.f b = some ob ∨ (b = a ∧ ob = o):=by
 by_cases q:b = a
 ·subst q;rw [Fz.put_self] at e;exact .inr ⟨rfl,(oi e).symm⟩
 ·rw [Fz.put_ne q] at e;exact .inl e
noncomputable def Fz.tok (F:Fz) (t:Tok) (x:Str):Fz:=⟨F.f,fun u=>if u = t then some x else F.g u⟩
theorem Fz.L8 (F:Fz) (t:Tok) (x:Str):(F.tok t x).g t = some x:=if_pos rfl
theorem Fz.pk {t u:Tok} {x y:Str} (e:(F.tok t x).g u = some y):F.g u = some y ∨ (u = t ∧ y = x):=by
 by_cases q:u = t
 ·subst q;rw [Fz.L8] at e;exact .inr ⟨rfl,(oi e).symm⟩
 ·exact .inl ((if_neg q).symm.trans e)
theorem Fz.jaj {t:Tok} {x:Str} (h:F.g t = none):F.le (F.tok t x):=⟨fun Z Z e=>e,fun u y e=>by
 by_cases q:u = t
 ·subst q;rw [h] at e;cases e
 ·exact (if_neg q).trans e⟩
theorem GS.jek (g:GS B F H s) {t:Tok} (h:s.toks ≤ t):F.g t = none:=by
 cases q:F.g t with
 | none=>rfl
 | some x=>exact absurd (g.tg t x q).1 (Nat.not_lt.mpr h)
theorem St.str (S:St B fm ρ F H s) (x:Str) {t:Tok} (h1:s.toks ≤ t) (h2:t < tk) (k:∀ b o,s.heap.get? b = some o→h'.get? b = some o):F.le (F.tok t x) ∧ Jd (F.tok t x) (.str x t) (.str x) ∧ St B fm ρ (F.tok t x) H { s with heap:=h',toks:=tk }:=
 have le:=Fz.jaj (x:=x) (S.toGS.jek h1)
 ⟨le,.str _ _ (Fz.L8 ..),S.more k le (fun b o e=>.inl e) (fun b o e=>k b o (S.froz b o e)) (Nat.le_of_lt (Nat.lt_of_le_of_lt h1 h2)) fun u y e=>(Fz.pk e).imp id fun q=>by refine rwb q.1 ?_;exact ⟨h1,h2⟩⟩
theorem St.str1 (S:St B fm ρ F H s) (x:Str):F.le (F.tok s.toks x) ∧ Jd (F.tok s.toks x) (.str x s.toks) (.str x) ∧ St B fm ρ (F.tok s.toks x) H { s with toks:=s.toks + 1 }:=S.str (h':=s.heap) x (le_refl _) (Nat.lt_succ_self _) fun Z Z e=>e
theorem St.freeze (S:St B fm ρ F H s) {a:Addr} {o:Obj} (k:∀ b o,s.heap.get? b = some o→h'.get? b = some o) (ha:s.heap.get? a = none) (ho:h'.get? a = some o) (ht:autoParam (s.toks ≤ tk) aK) :
  St B fm ρ (F.put a o) H { s with heap:=h',toks:=tk } ∧ F.le (F.put a o):=
 have le:=Fz.Gr (o:=o) (S.fresh ha).1
 ⟨S.more k le (fun b ob e=>(Fz.yp e).imp id fun q=>by refine rwb q.1 ?_;exact ha) fun b ob e=>by
  rcases Fz.yp e with e | ⟨rfl,rfl⟩
  ·exact k b ob (S.froz b ob e)
  ·exact ho,le⟩
theorem GS.freeze (S:GS B F H s) {a:Addr} {o:Obj} (k:∀ b o,s.heap.get? b = some o→h'.get? b = some o) (ha:s.heap.get? a = none) (ho:h'.get? a = some o) (ht:autoParam (s.toks ≤ tk) aK) :
  GS B (F.put a o) H { s with heap:=h',toks:=tk } ∧ F.le (F.put a o):=
 have le:=Fz.Gr (o:=o) (S.fresh ha).1
 ⟨S.more k le (fun b ob e=>(Fz.yp e).imp id fun q=>by refine rwb q.1 ?_;exact ha) fun b ob e=>by
  rcases Fz.yp e with e | ⟨rfl,rfl⟩
  ·exact k b ob (S.froz b ob e)
  ·exact ho,le⟩
theorem St.addL (S:St B fm ρ F H s) {a:Addr} {ds:List D} (k:∀ b o,s.heap.get? b = some o→h'.get? b = some o) (ha:s.heap.get? a = none) (hl:Mq F h' a ds) (ht:autoParam (s.toks ≤ tk) aK) :
  St B fm ρ F ((a,ds) :: H) { s with heap:=h',toks:=tk }:=
 S.upd ((S.toGS.keeps k).addL (S.fresh ha) hl) (Fz.le.refl F) (fun b o e Z Z Z=>.inl (k b o e)) (Vk.of fun b o e=>⟨o,k b o e⟩) (fun Z Z e=>.inl e)
  (fun p hp=>by rcases lC hp with rfl | hp;exact .inr ha;exact .inl (mem_map_of_mem hp))
  (S.toBears.kept (Fz.le.refl F) fun b o Z e Z Z=>.inl (k b o e)) fun b Z o es n e hd=>⟨o,es,n,k b o e,hd⟩
inductive V6 (a:Addr) (ds:List D):List D→Led→Led→Prop
 | head {old r}:V6 a ds old ((a,old) :: r) ((a,ds) :: r)
 | tail {old p r r'}:V6 a ds old r r'→V6 a ds old (p :: r) (p :: r')
theorem V6.keys {a:Addr} {ds old:List D} {H H':Led} (x:V6 a ds old H H'):H'.map (·.1) = H.map (·.1):=by
 induction x with
 | head=>rfl
 | tail x ih=>rw [map_cons,map_cons,ih]
theorem V6.mem {a:Addr} {ds old:List D} {H H':Led} (x:V6 a ds old H H'):(a,old) ∈ H:=by
 induction x with
 | head=>exact .head _
 | tail x ih=>exact .tail _ ih
theorem V6.new {a:Addr} {ds old:List D} {H H':Led} (x:V6 a ds old H H') (nd:(H.map (·.1)).Nodup) (p:Addr × List D) (hp:p ∈ H'):p = (a,ds) ∨ (p ∈ H ∧ p.1 ≠ a):=by
 induction x with
 | head=>
  rw [map_cons,nodup_cons] at nd
  rcases lC hp with hp | hp
  ·exact .inl hp
  ·exact .inr ⟨.tail _ hp,fun q=>nd.1 (List.mem_map.mpr ⟨p,hp,q⟩)⟩
 | tail x ih=>
  rw [map_cons,nodup_cons] at nd
  rcases lC hp with hp | hp
  ·exact .inr ⟨by rw [hp];exact .head _,fun q=>nd.1 (List.mem_map.mpr ⟨_,x.mem,by rw [← hp];exact q.symm⟩)⟩
  ·exact (ih nd.2 hp).imp id fun q=>⟨.tail _ q.1,q.2⟩
theorem GS.set (g:GS B F H s) {a:Addr} {ds old:List D} (x:V6 a ds old H H') (k:Heap.SameBut a s.heap h') (hl:Mq F h' a ds) (ht:autoParam (s.toks ≤ tk) aK):GS B F H' { s with heap:=h',toks:=tk } where
 tp:=g.tpos ht
 tg:=g.jc7 ht
 same:=by obtain ⟨h,t,e⟩:=g.same;exact ⟨h',tk,by rw [e]⟩
 base:=fun b o e=>k.extBut b o (fun q=>by rw [q,(g.apart _ x.mem).2.1] at e;cases e) (g.base b o e)
 froz:=fun b o e=>k.extBut b o (fun q=>by rw [q,(g.apart _ x.mem).1] at e;cases e) (g.froz b o e)
 own:=fun p hp=>by
  rcases x.new g.nod p hp with rfl | ⟨h1,h2⟩
  ·exact hl
  ·exact (g.own p h1).mono (Fz.le.refl F) fun o e=>k.extBut _ o h2 e
 nod:=by rw [x.keys];exact g.nod
 apart:=fun p hp=>by
  rcases x.new g.nod p hp with rfl | ⟨h1,h2⟩
  ·exact g.apart (a,old) x.mem
  ·exact g.apart p h1
 tab:=fun q hq=>(g.tab q hq).mono (Fz.le.refl F) fun o e=>k.extBut _ o (fun z=>(g.apart _ x.mem).2.2 (z ▸ Wv hq)) e
 bk:=g.bk
 tabF:=g.tabF
theorem V3 {a:Addr} {h h':Heap} (k:Heap.SameBut a h h') (ha:h'.get? a ≠ none):Vk h h':=fun b hb=>by
 by_cases q:b = a
 ·rw [q];exact ha
 ·rw [k.2 b q];exact hb
theorem St.set (S:St B fm ρ F H s) {a:Addr} {ds old:List D} (x:V6 a ds old H H') (k:Heap.SameBut a s.heap h') (hl:Mq F h' a ds) (ht:autoParam (s.toks ≤ tk) aK):St B fm ρ F H' { s with heap:=h',toks:=tk }:=by
 have hne:∀ b ∈ fm.own,b ≠ a:=fun b hb q=>(S.ownF b hb).2 (q ▸ mem_map_of_mem x.mem);refine S.upd (S.toGS.set x k hl) (Fz.le.refl F) (fun b o e h1 Z Z=>.inl (k.extBut b o (fun q=>h1 (q ▸ mem_map_of_mem x.mem)) e))
  (V3 k (by refine el22 hl fun vs n e Z=>?_;refine rwb e ?_;exact some_ne_none _)) (fun Z Z e=>.inl e) (fun p hp=>.inl (by refine rwf x.keys ?_;exact mem_map_of_mem hp))
  (S.toBears.kept (Fz.le.refl F) fun b o Z e hn Z=>.inl (k.extBut b o (fun q=>by
   refine el22 (S.own _ x.mem) fun vs m a1 Z=>?_
   replace e:=q ▸ e;replace a1:=ts e a1;obtain rfl:=oi a1;exact hn _ _ rfl) e)) fun b hb o es n e hd=>⟨o,es,n,k.extBut b o (hne b hb) e,hd⟩
theorem GS.kg (g:GS B F H s) {a:Addr} (k:Heap.SameBut a s.heap h') (h1:B.h.get? a = none) (h2:F.f a = none) (h3:a ∉ H.map (·.1)) (h4:a ∉ Yb) (ht:autoParam (s.toks ≤ tk) aK):GS B F H { s with heap:=h',toks:=tk } where
 tp:=g.tpos ht
 tg:=g.jc7 ht
 same:=by obtain ⟨h,t,e⟩:=g.same;exact ⟨h',tk,by rw [e]⟩
 base:=fun b o e=>k.extBut b o (fun q=>by rw [q,h1] at e;cases e) (g.base b o e)
 froz:=fun b o e=>k.extBut b o (fun q=>by rw [q,h2] at e;cases e) (g.froz b o e)
 own:=fun p hp=>(g.own p hp).mono (Fz.le.refl F) fun o e=>k.extBut _ o (fun q=>h3 (q ▸ mem_map_of_mem hp)) e
 nod:=g.nod
 apart:=g.apart
 tab:=fun q hq=>(g.tab q hq).mono (Fz.le.refl F) fun o e=>k.extBut _ o (fun z=>h4 (z ▸ Wv hq)) e
 bk:=g.bk
 tabF:=g.tabF
noncomputable def put (x:Str) (d:D):Loc→Loc
 | []=>[(x,d)]
 | p :: r=>if p.1 == x then (x,d) :: r else p :: put x d r
theorem Em (x:Str) (d:D):put x d [] = [(x,d)]:=rfl
theorem Ds (x:Str) (d:D) (p:Str × D) (r:Loc):put x d (p :: r) = if p.1 == x then (x,d) :: r else p :: put x d r:=rfl
theorem put_self (x:Str) (d:D):∀ ρ:Loc,(put x d ρ).lookup x = some d:=by
 intro zs
 induction zs with
 | nil=>
  simp [Em,List.lookup]
 | cons p r IH=>
  rw [Ds]
  by_cases h:(p.1 == x) = true
  ·refine rwb (if_pos h) ?_;simp [List.lookup]
  ·refine rwb (if_neg h) (rwb lookup_cons ?_);have:(x == p.1) = false:=by
    cases q:(x == p.1) with
    | false=>rfl
    | true=>exact absurd (by rw [beq_iff_eq] at q ⊢;exact q.symm) h
   refine rwb this ?_;exact IH
theorem put_ne {x y:Str} (h:y ≠ x) (d:D):∀ ρ:Loc,(put x d ρ).lookup y = ρ.lookup y:=by
 intro zs
 induction zs with
 | nil=>
  have:(y == x) = false:=by rw [beq_eq_false_iff_ne];exact h
  simp [Em,List.lookup,this]
 | cons p r IH=>
  rw [Ds]
  by_cases q:(p.1 == x) = true
  ·refine rwb (if_pos q) (rwb lookup_cons (rwb lookup_cons ?_));have h1:(y == x) = false:=by rw [beq_eq_false_iff_ne];exact h
   have h2:(y == p.1) = false:=by rw [beq_iff_eq] at q;refine rwb q ?_;exact h1
   refine rwb h1 ?_;exact rwb h2 rfl
  ·refine rwb (if_neg q) (rwb lookup_cons (rwb lookup_cons ?_));exact rwb IH rfl
theorem St.Tp (S:St B fm ρ F H s) {x:Str} {d:D} {v:Value} {m:Str→Option Value} (hx:fm.env.kindOf x = some .local) (hm:s.heap.Ns fm.env.locals m)
  (hn:h'.Ns fm.env.locals (fun y=>if y = x then some v else m y)) (k:Heap.SameBut fm.env.locals s.heap h') (r:Jd F v d) (ht:autoParam (s.toks ≤ tk) aK):St B fm (put x d ρ) F H { s with heap:=h',toks:=tk }:=by
 have hL:=S.ok.ownL;have hne:∀ b,b ∉ fm.own→b ≠ fm.env.locals:=fun b hb q=>hb (q ▸ hL);refine el12 S.ns (no_implicit_lambda% (G1 (h:=?_)));refine (?_:A1 _) _;intro m₁ hm₁ r₁;have em:m₁ = m:=by
  refine el34 hm fun o es ep a1 a2 a3 a4=>?_;refine el34 hm₁ fun o' es' ep' b1 b2 b3 b4=>?_;replace b1:=ts a1 b1;obtain rfl:=oi b1;replace b2:=ts a2 b2;cases b2
  funext y;rw [← a4,← b4]
 subst em;have hC:∀ c,c ≠ fm.env.locals→∀ o,s.heap.get? c = some o→Kept h' c o:=fun c e2 o e=>.inl (k.extBut c o e2 e);refine S.upd (S.toGS.kg k (S.ok.fresh _ hL).1 (S.ownF _ hL).1 (S.ownF _ hL).2 (S.ok.fresh _ hL).2.2) (Fz.le.refl F)
  (fun b o e Z Z h3=>.inl (k.extBut b o (hne b h3) e)) (V3 k (by refine el32 hn fun o Z Z e Z=>?_;refine rwb e ?_;exact some_ne_none _)) (fun Z Z e=>.inl e) (fun p hp=>.inl (mem_map_of_mem hp)) ⟨⟨_,hn,fun y dy e1 e2=>?_⟩,fun y dy e1 e2=>?_,fun y hy c e=>?_⟩ fun b hb o es n e hd=>?_
 ·by_cases q:y = x
  ·subst q;rw [put_self] at e1;obtain rfl:=oi e1;exact ⟨v,if_pos rfl,r⟩
  ·rw [put_ne q] at e1;refine el12 (r₁ y dy e1 e2) fun v' q1 q2=>?_;exact ⟨v',by refine rwb (if_neg q) ?_;exact q1,q2⟩
 ·have q:y ≠ x:=fun q=>by subst q;replace e2:=hx ▸ e2;rcases e2 with e2 | e2 <;> contradiction
  rw [put_ne q] at e1;refine el23 (S.cell y dy e1 e2) fun c v' q1 q2 q3=>?_;refine ⟨c,v',q1,IsCell.kept q2 (hC c fun z=>?_),q3⟩;refine el12 q2 fun o1 b1 b2=>?_;refine el33 hm fun o2 es2 ep2 c1 c2 Z=>?_;replace b1:=z ▸ b1;replace b1:=ts c1 b1;obtain rfl:=oi b1;replace b2:=ts c2 b2;contradiction
 ·refine el11 (S.cellAt y hy c e) fun v' q2=>?_;obtain ⟨_,c',e',_,h1⟩:=S.ok.ownC y hy;replace e':=ts e e';obtain rfl:=oi e';exact ⟨v',IsCell.kept q2 (hC c h1)⟩
 ·by_cases q:b = fm.env.locals
  ·subst q;refine el33 hn fun o' es' ep' a1 a2 Z=>?_;exact ⟨o',es',ep',a1,a2⟩
  ·exact ⟨o,es,n,k.extBut b o q e,hd⟩
theorem St.jam (S:St B fm ρ F H s) {x:Str} {d:D} {v:Value} {c:Addr} (hx:x ∈ fm.cn) (hc:fm.env.cells.lookup x = some c)
  (hn:h'.IsCell c (some v)) (k:Heap.SameBut c s.heap h') (r:Jd F v d) (ht:autoParam (s.toks ≤ tk) aK):St B fm (put x d ρ) F H { s with heap:=h',toks:=tk }:=by
 obtain ⟨hk,c',hc',hO,hcl⟩:=S.ok.ownC x hx;replace hc':=ts hc hc';obtain rfl:=oi hc';have hne:∀ b,b ∉ fm.own→b ≠ c:=fun b hb q=>hb (q ▸ hO);have hC:∀ c',c' ≠ c→∀ o,s.heap.get? c' = some o→Kept h' c' o:=fun c' q o e=>.inl (k.extBut c' o q e);refine el12 S.ns fun m₁ hm₁ r₁=>?_;refine S.upd (S.toGS.kg k (S.ok.fresh _ hO).1 (S.ownF _ hO).1 (S.ownF _ hO).2 (S.ok.fresh _ hO).2.2) (Fz.le.refl F)
  (fun b o e Z Z h3=>.inl (k.extBut b o (hne b h3) e)) (V3 k (by refine el12 hn fun o e Z=>?_;refine rwb e ?_;exact some_ne_none _)) (fun Z Z e=>.inl e) (fun p hp=>.inl (mem_map_of_mem hp))
  ⟨⟨m₁,hm₁.sameBut k (Ne.symm hcl),fun y dy e1 e2=>?_⟩,fun y dy e1 e2=>?_,fun y hy c' e=>?_⟩ fun b hb o es n e hd=>?_
 ·have q:y ≠ x:=fun q=>by subst q;replace e2:=ts hk e2;contradiction
  rw [put_ne q] at e1;exact r₁ y dy e1 e2
 ·by_cases q:y = x
  ·subst q;rw [put_self] at e1;obtain rfl:=oi e1;exact ⟨c,v,hc,hn,r⟩
  ·rw [put_ne q] at e1;refine el23 (S.cell y dy e1 e2) fun c' v' q1 q2 q3=>?_;exact ⟨c',v',q1,IsCell.kept q2 (hC c' fun w=>q (S.ok.cellInj x y c hx hc (w ▸ q1)).symm),q3⟩
 ·by_cases q:y = x
  ·subst q;replace e:=ts hc e;obtain rfl:=oi e;exact ⟨some v,hn⟩
  ·refine el11 (S.cellAt y hy c' e) fun v' q2=>?_;exact ⟨v',IsCell.kept q2 (hC c' fun w=>q (S.ok.cellInj x y c hx hc (w ▸ e)).symm)⟩
 ·have q:b ≠ c:=fun q=>by
   subst q;refine el22 (S.cellAt x hx b hc) fun v₀ o' a1 a2=>?_;replace a1:=ts e a1;obtain rfl:=oi a1;replace a2:=ts hd a2;contradiction
  exact ⟨o,es,n,k.extBut b o q e,hd⟩
theorem St.forget {ρ':Loc} (S:St B fm ρ F H s) (h:∀ x d,ρ'.lookup x = some d→ρ.lookup x = some d):St B fm ρ' F H s:=
 { S with ns:=(let ⟨m,hm,r⟩:=S.ns;⟨m,hm,fun x d e=>r x d (h x d e)⟩),cell:=fun x d e=>S.cell x d (h x d e) }
theorem Q0 {x:Str} {d:D} {ρ:Loc} (h:ρ.lookup x = none):∀ y e,ρ.lookup y = some e→(put x d ρ).lookup y = some e:=fun y e q=>by
 have hy:y ≠ x:=fun z=>by subst z;rw [h] at q;cases q
 rw [put_ne hy];exact q
structure Jl (B:Base) (F:Fz) (H:Led) (s:Shared) (F':Fz) (H':Led) (s':Shared):Prop where
 le:F.le F'
 gs:GS B F' H' s'
 kept:∀ b o,s.heap.get? b = some o→b ∉ H.map (·.1)→b ∉ Yb→Kept s'.heap b o
 live:Vk s.heap s'.heap
 newF:∀ b o,F'.f b = some o→F.f b = some o ∨ s.heap.get? b = none
 newH:∀ p ∈ H',p.1 ∈ H.map (·.1) ∨ s.heap.get? p.1 = none
theorem St.call {s':Shared} (S:St B fm ρ F H s) (c:Jl B F H s F' H' s'):St B fm ρ F' H' s':=by
 have ko:∀ b ∈ fm.own,∀ o,s.heap.get? b = some o→Kept s'.heap b o:=fun b hb o e=>c.kept b o e (S.ownF b hb).2 (S.ok.fresh b hb).2.2;refine S.upd c.gs c.le (fun b o e h1 h2 Z=>c.kept b o e h1 h2) c.live c.newF c.newH (S.toBears.kept c.le fun b o Z e n1 n2=>c.kept b o e (fun hm=>?_) fun hm=>?_) fun b hb o es n e hd=>?_
 ·refine el12 (lM hm) fun p hp z2=>?_;subst z2;refine el22 (S.own _ hp) fun vs m a1 Z=>?_;replace a1:=ts e a1;obtain rfl:=oi a1;exact n1 _ _ rfl
 ·refine el12 (Vd hm) fun q hq z2=>?_;subst z2;refine el11 ((S.tab q hq).there) fun ps a1=>?_;replace a1:=ts e a1;obtain rfl:=oi a1;exact n2 _ rfl
 ·
  refine el13 ((ko b hb o e).some) fun o' q1 q2 Z=>?_;exact ⟨o',es,n,q1,by (refine rwb q2 ?_;exact rwb hd rfl)⟩
theorem Jl.trans {F₁ F₂:Fz} {H₁ H₂:Led} {s₁ s₂:Shared} (x:Jl B F H s F₁ H₁ s₁) (y:Jl B F₁ H₁ s₁ F₂ H₂ s₂):Jl B F H s F₂ H₂ s₂ where
 le:=x.le.trans y.le
 gs:=y.gs
 kept:=fun b o e h1 h2=>(x.kept b o e h1 h2).trans fun o' e'=>y.kept b o' e' (fun hm=>by
  refine el12 (lM hm) fun p hp z2=>?_;subst z2
  rcases x.newH p hp with q | q
  ·exact h1 q
  ·replace q:=ts e q;contradiction) h2
 live:=x.live.trans y.live
 newF:=fun b o e=>by
  rcases y.newF b o e with q | q
  ·exact x.newF b o q
  ·exact .inr (x.live.none q)
 newH:=fun p hp=>by
  rcases y.newH p hp with q | q
  ·refine el12 (lM q) fun r hr e=>?_;refine rwf e ?_;exact x.newH r hr
  ·exact .inr (x.live.none q)
end
inductive Jbx (e:Option Value) (g:Addr→Option Obj):Prop
 | mk (x:Addr) (o:Obj) (vs:Array Value) (a:e = some (.ref x)) (b:g x = some o) (c:o.data = .fields vs ∧ vs[2]? = some .none)
theorem Jbx.elim {e:Option Value} {g:Addr→Option Obj} {C:Prop} (x:Jbx e g) (k:∀ x o vs,e = some (.ref x)→g x = some o→(o.data = .fields vs ∧ vs[2]? = some .none)→C):C:=x.rec k
noncomputable def Hok (A:Around) (F:Fz):Prop:=A.handled = none ∨ Jbx A.handled F.f
theorem Hok.le {A:Around} {F F':Fz} (h:Hok A F) (l:F.le F'):Hok A F':=h.imp id fun zz=>zz.elim fun x o vs a b c=>⟨x,o,vs,a,l.f _ _ b,c⟩
structure Cx (A:Around) (fm:Fm) (sc:Scope) (cn:List Str) (n:Nat):Prop where
 hd:Hok A fm.F₀
 sc:fm.env.scope = sc
 depth:A.depth + n ≤ 900
 units:A.units + 60 * n ≤ 9000
 frames:A.frames = some fm.stack
 cn:fm.cn = cn
section
variable {B:Base} {A:Around} {fm:Fm} {sc:Scope} {cn:List Str} {n:Nat} {ρ:Loc} {F:Fz} {H H0:Led} {E E':Value→Shared→Prop} {P P':D→Led→Prop} {PB:Bool→Led→Prop} {N N':Loc→Led→Prop} {R:D→Led→Prop}
structure Is (e:D) (H:Led) (d:D) (H':Led):Prop where
 a:d = e
 b:H' = H
inductive Vp (B:Base) (fm:Fm) (ρ:Loc) (F:Fz) (P:D→Led→Prop) (v:Value) (s':Shared):Prop
 | mk (F':Fz) (d:D) (H':Led) (h:P d H') (l:F.le F') (r:Jd F' v d) (S:St B fm ρ F' H' s')
inductive Jaf (B:Base) (fm:Fm) (ρ:Loc) (F:Fz) (P:Bool→Led→Prop) (b:Bool) (s':Shared):Prop
 | mk (F':Fz) (H':Led) (h:P b H') (l:F.le F') (S:St B fm ρ F' H' s')
inductive Jae (B:Base) (fm:Fm) (ρ:Loc) (F:Fz) (P:List D→Led→Prop) (vs:List Value) (s':Shared):Prop
 | mk (F':Fz) (ds:List D) (H':Led) (h:P ds H') (l:F.le F') (r:Jc F' vs ds) (S:St B fm ρ F' H' s')
theorem Vp.elim {C:Prop} {v:Value} {s':Shared} (x:Vp B fm ρ F P v s') (k:∀ F' d H',P d H'→F.le F'→Jd F' v d→St B fm ρ F' H' s'→C):C:=x.rec k
theorem Jaf.elim {C:Prop} {P:Bool→Led→Prop} {v:Bool} {s':Shared} (x:Jaf B fm ρ F P v s') (k:∀ F' H',P v H'→F.le F'→St B fm ρ F' H' s'→C):C:=x.rec k
theorem Jae.elim {C:Prop} {P:List D→Led→Prop} {v:List Value} {s':Shared} (x:Jae B fm ρ F P v s') (k:∀ F' d H',P d H'→F.le F'→Jc F' v d→St B fm ρ F' H' s'→C):C:=x.rec k
theorem Vp.le {F F₁:Fz} (h:F.le F₁) {v:Value} {s:Shared} (x:Vp B fm ρ F₁ P v s):Vp B fm ρ F P v s:=x.elim fun F' d H' a b c e=>⟨F',d,H',a,h.trans b,c,e⟩
theorem Vp.mono (h:∀ d H,P d H→P' d H) {v:Value} {s:Shared} (x:Vp B fm ρ F P v s):Vp B fm ρ F P' v s:=x.elim fun F' d H' a b c e=>⟨F',d,H',h _ _ a,b,c,e⟩
noncomputable def Op0 (B:Base) (A:Around) (fm:Fm) (ρ:Loc) (H:Led) (t:Sem Value) (P:D→Led→Prop) (E:Value→Shared→Prop):Prop:=
 ∀ F s,St B fm ρ F H s→wpAny B.M A t (Vp B fm ρ F P) E s
noncomputable def Op1 (B:Base) (A:Around) (fm:Fm) (ρ:Loc) (H:Led) (t:Value→Sem Value) (d:D) (P:D→Led→Prop) (E:Value→Shared→Prop):Prop:=
 ∀ F s v,St B fm ρ F H s→Jd F v d→wpAny B.M A (t v) (Vp B fm ρ F P) E s
noncomputable def Op2 (B:Base) (A:Around) (fm:Fm) (ρ:Loc) (H:Led) (t:Value→Value→Sem Value) (d e:D) (P:D→Led→Prop) (E:Value→Shared→Prop):Prop:=
 ∀ F s v u,St B fm ρ F H s→Jd F v d→Jd F u e→wpAny B.M A (t v u) (Vp B fm ρ F P) E s
noncomputable def OpN (B:Base) (A:Around) (fm:Fm) (ρ:Loc) (H:Led) (t:List Value→Sem Value) (ds:List D) (P:D→Led→Prop) (E:Value→Shared→Prop):Prop:=
 ∀ F s vs,St B fm ρ F H s→Jc F vs ds→wpAny B.M A (t vs) (Vp B fm ρ F P) E s
noncomputable abbrev EvE (B:Base) (A:Around) (fm:Fm) (ρ:Loc) (H:Led) (e:Expr) (P:D→Led→Prop) (E:Value→Shared→Prop):Prop:=Op0 B A fm ρ H (eval e fm.env) P E
noncomputable def EvB (B:Base) (A:Around) (fm:Fm) (ρ:Loc) (H:Led) (e:Expr) (P:Bool→Led→Prop) (E:Value→Shared→Prop):Prop:=
 ∀ F s,St B fm ρ F H s→wpAny B.M A (isTrue e fm.env (eval e fm.env)) (Jaf B fm ρ F P) E s
noncomputable def EvL (B:Base) (A:Around) (fm:Fm) (ρ:Loc) (H:Led) (pos:Pos) (es:List Expr) (P:List D→Led→Prop) (E:Value→Shared→Prop):Prop:=
 ∀ F s,St B fm ρ F H s→wpAny B.M A (spliced (backTo pos (starEach es fm.env))) (Jae B fm ρ F P) E s
theorem Op0.mono {t:Sem Value} (h:Op0 B A fm ρ H t P E) (hp:∀ d H,P d H→P' d H):Op0 B A fm ρ H t P' E:=fun F s S=>wpAny_mono (h F s S) (fun Z Z x=>x.mono hp) fun Z Z x=>x
theorem here {F F':Fz} {d:D} {v:Value} {s':Shared} (hp:P d H) (l:F.le F') (r:Jd F' v d) (S:St B fm ρ F' H s'):Vp B fm ρ F P v s':=⟨F',d,H,hp,l,r,S⟩
theorem Qp {x:Str} {s:Shared} (hp:P (.str x) H) (S:St B fm ρ F H s):Vp B fm ρ F P (.str x s.toks) { s with toks:=s.toks + 1 }:=let ⟨l,r,S'⟩:=S.str1 x;here hp l r S'
theorem EvE.int {i:Int} {k pos} (h:P (.int i) H):EvE B A fm ρ H (.Constant (.int i) k pos) P E:=fun F s S=>
 wpAny_Constant_int (here h (Fz.le.refl F) (.int _ _) (S.tok _))
theorem EvE.str {x:Str} {k pos} (h:P (.str x) H):EvE B A fm ρ H (.Constant (.str x) k pos) P E:=fun F s S=>
 wpAny_Constant_str (Qp h S)
theorem EvE.bool {b:Bool} {k pos} (h:P (.bool b) H):EvE B A fm ρ H (.Constant (.bool b) k pos) P E:=fun F s S Z Z Z=>here h (Fz.le.refl F) (.bool _) S
theorem EvE.none {k pos} (h:P .none H):EvE B A fm ρ H (.Constant .none k pos) P E:=fun F s S Z Z Z=>here h (Fz.le.refl F) .none S
theorem EvE.bin {op l r pos} (h:EvE B A fm ρ H l (fun d1 H1=>EvE B A fm ρ H1 r (fun d2 H2=>Op2 B A fm ρ H2 (binaryOp op) d1 d2 P E) E) E):EvE B A fm ρ H (.BinOp l op r pos) P E:=fun F s S=>
 wpAny_BinOp (wpAny_mono (h F s S) (fun v1 s1 zz=>zz.elim fun F1 d1 H1 h1 l1 r1 S1=>wpAny_mono (h1 F1 s1 S1) (fun v2 s2 zz=>zz.elim fun F2 d2 H2 h2 l2 r2 S2=>
  wpAny_mono (h2 F2 s2 v1 v2 S2 (r1.mono l2) r2) (fun Z Z x=>x.le (l1.trans l2)) fun Z Z x=>x) fun Z Z x=>x) fun Z Z x=>x)
theorem EvE.un {op x pos} (h:EvE B A fm ρ H x (fun d H1=>Op1 B A fm ρ H1 (unaryOp op) d P E) E):EvE B A fm ρ H (.UnaryOp op x pos) P E:=fun F s S=>
 wpAny_UnaryOp (wpAny_mono (h F s S) (fun v1 s1 zz=>zz.elim fun F1 d1 H1 h1 l1 r1 S1=>wpAny_mono (h1 F1 s1 v1 S1 r1) (fun Z Z x=>x.le l1) fun Z Z x=>x) fun Z Z x=>x)
theorem EvE.I0 {t a b pos} (h:EvB B A fm ρ H t (fun c H1=>if c then EvE B A fm ρ H1 a P E else EvE B A fm ρ H1 b P E) E):EvE B A fm ρ H (.IfExp t a b pos) P E:=fun F s S=>
 wpAny_IfExp (wpAny_mono (h F s S) (fun c s1 zz=>zz.elim fun F1 H1 h1 l1 S1=>by
  cases c
  ·exact wpAny_mono (h1 F1 s1 S1) (fun Z Z x=>x.le l1) fun Z Z x=>x
  ·exact wpAny_mono (h1 F1 s1 S1) (fun Z Z x=>x.le l1) fun Z Z x=>x) fun Z Z x=>x)
theorem EvE.loc {x:Str} {pos:Pos} {d:D} (C:Cx A fm sc cn n) (hd:ρ.lookup x = some d) (h:P d H) (hk:autoParam (sc.names.lookup x = some .local) aR) (hn:autoParam ((x == ("__debug__":Str)) = false) aD):EvE B A fm ρ H (.Name x pos) P E:=fun F s S=>by
 refine el12 S.ns fun m hm r=>?_;have hk':fm.env.kindOf x = some .local:=by unfold Env.kindOf;refine rwb C.sc ?_;exact hk
 refine el12 (r x d hd hk') fun v h1 h2=>?_;exact wpAny_Name (wpAny_loadName_local S.ok.kind hk' hm h1 (here h (Fz.le.refl F) h2 S)) hn
theorem St.Ng {x:Str} {d:D} {s:Shared} (S:St B fm ρ F H s) (hd:ρ.lookup x = some d) (hk:fm.env.kindOf x = some .cell ∨ fm.env.kindOf x = some .free) :
  ∃ c v,fm.env.cells.lookup x = some c ∧ s.heap.IsCell c (some v) ∧ Jd F v d:=by
 exact S.cell x d hd hk
theorem EvE.Vl {x:Str} {pos:Pos} {d:D} (C:Cx A fm sc cn n) (hd:ρ.lookup x = some d) (h:P d H) (hk:autoParam (sc.names.lookup x = some .cell) aR) (hn:autoParam ((x == ("__debug__":Str)) = false) aD):EvE B A fm ρ H (.Name x pos) P E:=fun F s S=>by
 have hk':fm.env.kindOf x = some .cell:=by unfold Env.kindOf;refine rwb C.sc ?_;exact hk
 refine el23 (S.Ng hd (.inl hk')) fun c v h1 h2 h3=>?_;exact wpAny_Name (wpAny_loadName_cell S.ok.kind hk' h1 h2 (here h (Fz.le.refl F) h3 S)) hn
theorem EvE.jau {x:Str} {pos:Pos} {d:D} (C:Cx A fm sc cn n) (hk:sc.names.lookup x = some .free) (hd:ρ.lookup x = some d) (h:P d H) (hn:autoParam ((x == ("__debug__":Str)) = false) aD)
  (hn':autoParam ((x == ("__classdict__":Str)) = false) aD):EvE B A fm ρ H (.Name x pos) P E:=fun F s S=>by
 have hk':fm.env.kindOf x = some .free:=by unfold Env.kindOf;refine rwb C.sc ?_;exact hk
 refine el23 (S.Ng hd (.inr hk')) fun c v h1 h2 h3=>?_;exact wpAny_Name (wpAny_loadName_free S.ok.kind hk' h1 h2 (here h (Fz.le.refl F) h3 S) hn') hn
theorem P4 {x:Str} {d:D} {v:Value} {s:Shared} {Q:Unit→Shared→Prop} (C:Cx A fm sc cn n) (S:St B fm ρ F H s) (r:Jd F v d) (hk:sc.names.lookup x = some .local)
  (h:∀ s',St B fm (put x d ρ) F H s'→Q () s'):wpAny B.M A (storeName fm.env x v) Q E s:=by
 refine el12 (id S.ns) fun m hm Z=>?_;have hk':fm.env.kindOf x = some .local:=by unfold Env.kindOf;refine rwb C.sc ?_;exact hk
 exact wpAny_storeName_local hk' hm (fun h' hn hs=>h _ (S.Tp hk' hm hn hs r)) (by refine rwb S.ok.kind ?_;rfl)
theorem P5 {x:Str} {d:D} {v:Value} {s:Shared} {Q:Unit→Shared→Prop} (C:Cx A fm sc cn n) (S:St B fm ρ F H s) (r:Jd F v d) (hk:x ∈ fm.cn)
  (h:∀ s',St B fm (put x d ρ) F H s'→Q () s'):wpAny B.M A (storeName fm.env x v) Q E s:=by
 obtain ⟨hk',c,h1,_,_⟩:=S.ok.ownC x hk;obtain ⟨v₀,h2⟩:=S.cellAt x hk c h1;exact wpAny_storeName_cell S.ok.kind hk' h1 h2 fun h' hc hs=>h _ (S.jam (tk:=s.toks) hk h1 hc hs r)
noncomputable def Jj (sc:Scope) (cn:List Str) (x:Str):Bool:=sc.names.lookup x == some .local || cn.contains x
theorem store {x:Str} {d:D} {v:Value} {s:Shared} {Q:Unit→Shared→Prop} (C:Cx A fm sc cn n) (S:St B fm ρ F H s) (r:Jd F v d) (hk:Jj sc cn x = true)
  (h:∀ s',St B fm (put x d ρ) F H s'→Q () s'):wpAny B.M A (storeName fm.env x v) Q E s:=by
 rcases Bool.or_eq_true_iff.mp hk with e | e
 ·exact P4 C S r (by simpa using e) h
 ·exact P5 C S r (by refine rwb C.cn ?_;simpa using e) h
section
variable {a b:Int}
theorem Y1 {t:Value→Value→Sem Value} {c:Int} (h:P (.int c) H) (k:∀ {A:Around} {E:Value→Shared→Prop} (s:Shared) (ta tb:Tok) (Q:Value→Shared→Prop),(∀ tc tk,s.toks ≤ tk→Q (.int c tc) { s with toks:=tk })→wpAny B.M A (t (.int a ta) (.int b tb)) Q E s) :
  Op2 B A fm ρ H t (.int a) (.int b) P E:=fun F s v u S r1 r2=>by
 refine r1.z5 fun Z=>r2.z5 fun Z=>?_;exact k s _ _ _ fun tc tk htk=>here h (Fz.le.refl F) (.int _ _) (S.tok tk)
theorem Ou {t:Value→Value→Sem Value} {c:Bool} (h:P (.bool c) H) (k:∀ {A:Around} {E:Value→Shared→Prop} (s:Shared) (ta tb:Tok) (Q:Value→Shared→Prop),Q (.bool c) s→wpAny B.M A (t (.int a ta) (.int b tb)) Q E s) :
  Op2 B A fm ρ H t (.int a) (.int b) P E:=fun F s v u S r1 r2=>by
 refine r1.z5 fun Z=>r2.z5 fun Z=>?_;exact k s _ _ _ (here h (Fz.le.refl F) (.bool _) S)
theorem Op2.add (h:P (.int (a + b)) H):Op2 B A fm ρ H (binaryOp .Add) (.int a) (.int b) P E:=Y1 h fun s Z Z Q q=>add_int (q _ _ (le_succ _))
theorem Op2.sub (h:P (.int (a - b)) H):Op2 B A fm ρ H (binaryOp .Sub) (.int a) (.int b) P E:=Y1 h fun s Z Z Q q=>sub_int' (q _ _ (le_succ _))
theorem Op2.mul (hm:IntMulOk a b) (h:P (.int (a * b)) H):Op2 B A fm ρ H (binaryOp .Mult) (.int a) (.int b) P E:=Y1 h fun s Z Z Q q=>mul_int (q _ _ (le_succ _)) hm
theorem Op2.fmod (hb:b ≠ 0) (h:P (.int (a.fmod b)) H):Op2 B A fm ρ H (binaryOp .Mod) (.int a) (.int b) P E:=Y1 h fun s Z Z Q q=>mod_int' hb (q _ _ (le_succ _))
theorem Op2.shl (hb:0 ≤ b) (hsz:(intBits a:Int) + b ≤ 2 ^ 27) (h:P (.int (a * 2 ^ b.toNat)) H):Op2 B A fm ρ H (binaryOp .LShift) (.int a) (.int b) P E:=Y1 h fun s Z Z Q q=>lshift_int hb hsz (q _ _ (le_succ _))
theorem Op2.shr (hb:0 ≤ b) (h:P (.int (a.fdiv (2 ^ b.toNat))) H):Op2 B A fm ρ H (binaryOp .RShift) (.int a) (.int b) P E:=Y1 h fun s Z Z Q q=>rshift_int hb (q _ _ (le_succ _))
theorem Op2.band (h:P (.int (Builtin.bitAnd a b)) H):Op2 B A fm ρ H (binaryOp .BitAnd) (.int a) (.int b) P E:=Y1 h fun s Z Z Q q=>and_int (q _ _ (le_succ _))
theorem Op2.bor (h:P (.int (Builtin.bitOr a b)) H):Op2 B A fm ρ H (binaryOp .BitOr) (.int a) (.int b) P E:=Y1 h fun s Z Z Q q=>or_int (q _ _ (le_succ _))
theorem Op2.bxor (h:P (.int (Builtin.bitXor a b)) H):Op2 B A fm ρ H (binaryOp .BitXor) (.int a) (.int b) P E:=Y1 h fun s Z Z Q q=>xor_int (q _ _ (le_succ _))
theorem Op2.pow (hb:0 ≤ b) (hsz:(intBits a:Int) * b ≤ 2 ^ 27) (h:P (.int (a ^ b.toNat)) H):Op2 B A fm ρ H (binaryOp .Pow) (.int a) (.int b) P E:=Y1 h fun s Z Z Q q=>pow_int hb hsz (q _ _ (le_succ _))
theorem Op1.neg (h:P (.int (-a)) H):Op1 B A fm ρ H (unaryOp .USub) (.int a) P E:=fun F s v S r=>r.z5 fun Z=>neg_int (here h (Fz.le.refl F) (.int _ _) (S.tok _))
theorem Op1.inv (h:P (.int (Builtin.bitNot a)) H):Op1 B A fm ρ H (unaryOp .Invert) (.int a) P E:=fun F s v S r=>r.z5 fun Z=>invert_int (here h (Fz.le.refl F) (.int _ _) (S.tok _))
theorem Op2.jaz (h:P (.bool (a == b)) H):Op2 B A fm ρ H (compareOp .Eq) (.int a) (.int b) P E:=Ou h fun s Z Z Q q=>eq_int q
theorem Op2.ltI (h:P (.bool (decide (a < b))) H):Op2 B A fm ρ H (compareOp .Lt) (.int a) (.int b) P E:=Ou h fun s Z Z Q q=>lt_int q
theorem Op2.leI (h:P (.bool (decide (a ≤ b))) H):Op2 B A fm ρ H (compareOp .LtE) (.int a) (.int b) P E:=Ou h fun s Z Z Q q=>le_int q
end
section
variable {x y:Str}
theorem Op2.jay (h:P (.bool (x == y)) H):Op2 B A fm ρ H (compareOp .Eq) (.str x) (.str y) P E:=fun F s v u S r1 r2=>r1.zt fun Z Z=>r2.zt fun Z Z=>eq_str (here h (Fz.le.refl F) (.bool _) S)
theorem Op2.neS (h:P (.bool (x != y)) H):Op2 B A fm ρ H (compareOp .NotEq) (.str x) (.str y) P E:=fun F s v u S r1 r2=>r1.zt fun Z Z=>r2.zt fun Z Z=>ne_str (here h (Fz.le.refl F) (.bool _) S)
theorem Op2.ltS (h:P (.bool (decide (x.cps.toList < y.cps.toList))) H):Op2 B A fm ρ H (compareOp .Lt) (.str x) (.str y) P E:=fun F s v u S r1 r2=>r1.zt fun Z Z=>r2.zt fun Z Z=>lt_str (here h (Fz.le.refl F) (.bool _) S)
theorem Op2.Ob (hsz:x.length + y.length ≤ sizeLine) (h:P (.str (x ++ y)) H):Op2 B A fm ρ H (binaryOp .Add) (.str x) (.str y) P E:=fun F s v u S r1 r2=>by
 refine r1.zt fun t ht=>r2.zt fun u hu=>?_;refine PySem.P.add_str ?_;split
 ·rename_i e;have e':x ++ y = y:=by
   obtain ⟨x⟩:=x;obtain ⟨y⟩:=y;have:x = #[]:=Array.size_eq_zero_iff.mp (beq_iff_eq.mp e);subst this;show Str.mk (#[] ++ y) = _;simp
  replace h:=e' ▸ h;exact here h (Fz.le.refl F) (.str _ _ hu) S
 ·split
  ·rename_i e;have e':x ++ y = x:=by
    obtain ⟨x⟩:=x;obtain ⟨y⟩:=y;have:y = #[]:=Array.size_eq_zero_iff.mp (beq_iff_eq.mp e);subst this;show Str.mk (x ++ #[]) = _;simp
   replace h:=e' ▸ h;exact here h (Fz.le.refl F) (.str _ _ ht) S
  ·exact ⟨by
    have:(x ++ y).length = x.length + y.length:=by
     obtain ⟨x⟩:=x;obtain ⟨y⟩:=y;show (x ++ y).size = _;refine rwb Array.size_append ?_;rfl
    lia,Qp h S⟩
end
noncomputable def Tru (B:Base) (A:Around) (fm:Fm) (ρ:Loc) (H:Led) (d:D) (b:Bool):Prop:=
 ∀ F s v E (Q:Bool→Shared→Prop),St B fm ρ F H s→Jd F v d→(∀ s',St B fm ρ F H s'→Q b s')→wpAny B.M A (truthy v) Q E s
theorem Tru.bool {b:Bool}:Tru B A fm ρ H (.bool b) b:=fun F s v E Q S r h=>r.Pp<|wpAny_truthy_bool (h _ S)
theorem Tru.int {i:Int}:Tru B A fm ρ H (.int i) (i != 0):=fun F s v E Q S r h=>r.z5 fun Z=>truthy_int (h _ S)
theorem Tru.none:Tru B A fm ρ H .none false:=fun F s v E Q S r h=>r.jap<|truthy_none (h _ S)
theorem Jd.list {F:Fz} {B:Base} {H:Led} {s:Shared} (g:GS B F H s) {v:Value} {ds:List D} (r:Jd F v (.lst ds)):∃ a vs,v = .ref a ∧ s.heap.IsList a vs.toArray ∧ Jc F vs ds:=by
 exact r.Mc fun Z Z Z h r=>⟨_,_,rfl,⟨_,g.froz _ _ h,rfl,_,rfl⟩,r⟩
theorem Jd.tuple {F:Fz} {B:Base} {H:Led} {s:Shared} (g:GS B F H s) {v:Value} {ds:List D} (r:Jd F v (.tup ds)):∃ a vs,v = .ref a ∧ s.heap.IsTuple a vs.toArray ∧ Jc F vs ds:=by
 exact r.jc6 fun Z Z Z h r=>⟨_,_,rfl,⟨_,g.froz _ _ h,rfl,_,rfl⟩,r⟩
theorem GS.list {F:Fz} {B:Base} {H:Led} {s:Shared} (g:GS B F H s) {a:Addr} {ds:List D} (h:(a,ds) ∈ H):∃ vs,s.heap.IsList a vs.toArray ∧ Jc F vs ds:=by
 obtain ⟨vs,n,e,r⟩:=g.own _ h;exact ⟨vs,⟨_,e,rfl,_,rfl⟩,r⟩
theorem Tru.lst {ds:List D} (hl:ds.length < 2 ^ 62):Tru B A fm ρ H (.lst ds) (!ds.isEmpty):=fun F s v E Q S r h=>by
 refine el23 (r.list S.toGS) fun a vs z2 hL hr=>?_;subst z2;refine wpAny_truthy_list hL (by have:=hr.length;simp;lia) ?_;have e:(vs.toArray.isEmpty) = ds.isEmpty:=by have:=hr.length;cases vs <;> cases ds <;> simp_all
 refine rwb e ?_;exact h _ (S.tok _)
inductive Jd1 (B:Base) (A:Around) (fm:Fm) (ρ:Loc) (PB:Bool→Led→Prop) (d:D) (H:Led):Prop
 | mk (b:Bool) (t:Tru B A fm ρ H d b) (p:PB b H)
inductive IsB (PB:Bool→Led→Prop) (d:D) (H:Led):Prop
 | mk (b:Bool) (e:d = .bool b) (p:PB b H)
theorem EvB.plain {e:Expr} (h:EvE B A fm ρ H e (Jd1 B A fm ρ PB) E)
  (he:autoParam (∀ env whole,isTrue e env whole = (do let v ← whole;standAt e.pos;holding [v] (truthy v))) aI):EvB B A fm ρ H e PB E:=fun F s S=>
 isTrue_plain (wpAny_mono (h F s S) (fun v s1 zz=>zz.elim fun F1 d H1 y l r S1=>y.rec fun b t p=>t F1 s1 v E _ S1 r fun s' S'=>⟨F1,H1,p,l,S'⟩) fun Z Z x=>x) (he _ _)
theorem EvB.mono {e:Expr} {PB':Bool→Led→Prop} (h:EvB B A fm ρ H e PB E) (hp:∀ b H,PB b H→PB' b H):EvB B A fm ρ H e PB' E:=fun F s S=>
 wpAny_mono (h F s S) (fun b s1 zz=>zz.elim fun F1 H1 p l S1=>⟨F1,H1,hp _ _ p,l,S1⟩) fun Z Z x=>x
theorem EvB.jax {pos} (h:PB true H):EvB B A fm ρ H (.BoolOp .And [] pos) PB E:=fun F s S=>isTrue_and_nil ⟨F,H,h,Fz.le.refl F,S⟩
theorem EvB.jeo {pos} (h:PB false H):EvB B A fm ρ H (.BoolOp .Or [] pos) PB E:=fun F s S=>isTrue_or_nil ⟨F,H,h,Fz.le.refl F,S⟩
theorem EvB.and {x rest pos} (h:EvB B A fm ρ H x (fun b H1=>if b then EvB B A fm ρ H1 (.BoolOp .And rest pos) PB E else PB false H1) E):EvB B A fm ρ H (.BoolOp .And (x :: rest) pos) PB E:=fun F s S=>
 isTrue_and (wpAny_mono (h F s S) (fun b s1 zz=>zz.elim fun F1 H1 p l S1=>by
  cases b
  ·exact ⟨F1,H1,p,l,S1⟩
  ·exact wpAny_mono (p F1 s1 S1) (fun Z Z zz=>zz.elim fun F2 H2 p2 l2 S2=>⟨F2,H2,p2,l.trans l2,S2⟩) fun Z Z x=>x) fun Z Z x=>x)
theorem EvB.or {x rest pos} (h:EvB B A fm ρ H x (fun b H1=>if b then PB true H1 else EvB B A fm ρ H1 (.BoolOp .Or rest pos) PB E) E):EvB B A fm ρ H (.BoolOp .Or (x :: rest) pos) PB E:=fun F s S=>
 isTrue_or (wpAny_mono (h F s S) (fun b s1 zz=>zz.elim fun F1 H1 p l S1=>by
  cases b
  ·exact wpAny_mono (p F1 s1 S1) (fun Z Z zz=>zz.elim fun F2 H2 p2 l2 S2=>⟨F2,H2,p2,l.trans l2,S2⟩) fun Z Z x=>x
  ·exact ⟨F1,H1,p,l,S1⟩) fun Z Z x=>x)
theorem EvB.cmp {l r:Expr} {op:CmpOp} {pos} (h:EvE B A fm ρ H l (fun d1 H1=>EvE B A fm ρ H1 r (fun d2 H2=>Op2 B A fm ρ H2 (compareOp op) d1 d2 (IsB PB) E) E) E) (hm:autoParam (behindInMarks op r = false) aR) :
  EvB B A fm ρ H (.Compare l [op] [r] pos) PB E:=fun F s S=>
 wpAny_isTrue_Compare1 (wpAny_mono (h F s S) (fun v1 s1 zz=>zz.elim fun F1 d1 H1 h1 l1 r1 S1=>wpAny_mono (h1 F1 s1 S1) (fun v2 s2 zz=>zz.elim fun F2 d2 H2 h2 l2 r2 S2=>
  wpAny_mono (h2 F2 s2 v1 v2 S2 (r1.mono l2) r2) (fun c s3 zz=>zz.elim fun F3 d3 H3 y l3 r3 S3=>y.rec fun b e p=>by
   subst e
   exact r3.Pp<|wpAny_truthy_bool ⟨F3,H3,p,(l1.trans l2).trans l3,S3⟩) fun Z Z x=>x) fun Z Z x=>x) fun Z Z x=>x) hm
theorem EvE.cmp {l r:Expr} {op:CmpOp} {pos} (h:EvE B A fm ρ H l (fun d1 H1=>EvE B A fm ρ H1 r (fun d2 H2=>Op2 B A fm ρ H2 (compareOp op) d1 d2 P E) E) E) (hm:autoParam (behindInMarks op r = false) aR) :
  EvE B A fm ρ H (.Compare l [op] [r] pos) P E:=fun F s S=>by
 show wpAny B.M A (do compareChain pos (← eval l fm.env) [op] (markedEach [op] [r] (evalEach [r] fm.env))) _ _ s;refine rwb (markedEach_of_false [op] [r] _ hm) ?_;refine wpAny_bind (wpAny_mono (h F s S) (fun v1 s1 zz=>zz.elim fun F1 d1 H1 h1 l1 r1 S1=>?_) fun Z Z x=>x);show wpAny B.M A (do let rv ← holding [v1] (eval r fm.env);standAt pos;operate [v1,rv] (compareOp op v1 rv)) _ _ s1;refine wpAny_bind (wpAny_holding (wpAny_mono (h1 F1 s1 S1) (fun v2 s2 zz=>zz.elim fun F2 d2 H2 h2 l2 r2 S2=>?_) fun Z Z x=>x));exact wpAny_bind (wpAny_standAt (wpAny_operateT (wpAny_mono (h2 F2 s2 v1 v2 S2 (r1.mono l2) r2) (fun Z Z x=>x.le (l1.trans l2)) fun Z Z x=>x)))
theorem EvL.nil {pos} {PL:List D→Led→Prop} (h:PL [] H):EvL B A fm ρ H pos [] PL E:=fun F s S=>Calls.spliced_nil ⟨F,[],H,h,Fz.le.refl F,.nil,S⟩
theorem EvL.cons {pos} {e:Expr} {es:List Expr} {PL:List D→Led→Prop} (h:EvE B A fm ρ H e (fun d H1=>EvL B A fm ρ H1 pos es (fun ds H2=>PL (d :: ds) H2) E) E)
  (he:autoParam (∀ env,starEach (e :: es) env = (false,eval e env) :: starEach es env) aI):EvL B A fm ρ H pos (e :: es) PL E:=fun F s S=>by
 rw [he]
 exact Calls.spliced_cons (wpAny_mono (h F s S) (fun v s1 zz=>zz.elim fun F1 d1 H1 h1 l1 r1 S1=>wpAny_mono (h1 F1 s1 S1) (fun vs s2 zz=>zz.elim fun F2 ds H2 h2 l2 r2 S2=>
  ⟨F2,d1 :: ds,H2,h2,l1.trans l2,.cons (r1.mono l2) r2,S2⟩) fun Z Z x=>x) fun Z Z x=>x)
theorem St.Ii {s:Shared} {T:String} {vs:List Value} {ds:List D} (S:St B fm ρ F H s) :
  ∃ F',F.le F' ∧ F'.f s.heap.objs.size = some { cls:=.type T,data:=.seq vs.toArray } ∧ St B fm ρ F' H { s with heap:=s.heap.push { cls:=.type T,data:=.seq vs.toArray } }:=by
 have fr:s.heap.get? s.heap.objs.size = none:=by
  cases q:s.heap.get? s.heap.objs.size with
  | none=>rfl
  | some o=>exact absurd (Heap.lt_size q) (Nat.lt_irrefl _)
 obtain ⟨S',l⟩:=S.freeze (o:={ cls:=.type T,data:=.seq vs.toArray }) (tk:=s.toks) (fun b o e=>Heap.get?_push_of_some _ e) fr (Heap.get?_push_size _ rfl);exact ⟨_,l,Fz.put_self ..,S'⟩
theorem OpN.tuple {ds:List D} (h:P (.tup ds) H) (hsz:autoParam (Nat.ble ds.length sizeLine = true) aR):OpN B A fm ρ H newTuple ds P E:=fun F s vs S r=>by
 refine el13 (St.Ii (T:="tuple") (vs:=vs) (ds:=ds) S) fun F' l e S'=>?_;exact wpAny_newTuple (here h l (.tup e (r.mono l)) S') (by refine rwb r.length ?_;exact (Nat.le_of_ble_eq_true hsz))
theorem OpN.list {ds:List D} (h:P (.lst ds) H) (hsz:autoParam (Nat.ble ds.length sizeLine = true) aR):OpN B A fm ρ H newList ds P E:=fun F s vs S r=>by
 refine el13 (St.Ii (T:="list") (vs:=vs) (ds:=ds) S) fun F' l e S'=>?_;exact wpAny_newList (here h l (.lst e (r.mono l)) S') (by refine rwb r.length ?_;exact (Nat.le_of_ble_eq_true hsz))
theorem Je (h:Heap):h.get? h.objs.size = none:=by
 cases q:h.get? h.objs.size with
 | none=>rfl
 | some o=>exact absurd (Heap.lt_size q) (Nat.lt_irrefl _)
theorem OpN.jar {ds:List D} (h:∀ a,P (.ref a) ((a,ds) :: H)) (hsz:autoParam (Nat.ble ds.length sizeLine = true) aR):OpN B A fm ρ H newList ds P E:=fun F s vs S r=>by
 refine wpAny_newList ?_ (by refine rwb r.length ?_;exact (Nat.le_of_ble_eq_true hsz));exact here (h _) (Fz.le.refl F) (.ref _) (S.addL (tk:=s.toks) (fun b o e=>Heap.get?_push_of_some _ e) (Je _) ⟨vs,0,Heap.get?_push_size _ rfl,r⟩)
theorem EvL.op {pos} {es:List Expr} {t:List Value→Sem Value} (h:EvL B A fm ρ H pos es (fun ds H1=>OpN B A fm ρ H1 t ds P E) E) :
  Op0 B A fm ρ H (spliced (backTo pos (starEach es fm.env)) >>= t) P E:=fun F s S=>
 wpAny_bind (wpAny_mono (h F s S) (fun vs s1 zz=>zz.elim fun F1 ds H1 h1 l1 r1 S1=>wpAny_mono (h1 F1 s1 vs S1 r1) (fun Z Z x=>x.le l1) fun Z Z x=>x) fun Z Z x=>x)
theorem EvE.tup {pos k} {es:List Expr} (h:EvL B A fm ρ H pos es (fun ds H1=>OpN B A fm ρ H1 newTuple ds P E) E):EvE B A fm ρ H (.Tuple es k pos) P E:=fun F s S=>by
 show wpAny B.M A (do standAt pos;newTuple (← spliced (backTo pos (starEach es fm.env)))) _ _ s;exact wpAny_bind (wpAny_standAt (EvL.op h F s S))
theorem EvE.lst {pos} {es:List Expr} (h:EvL B A fm ρ H pos es (fun ds H1=>OpN B A fm ρ H1 newList ds P E) E):EvE B A fm ρ H (.List es pos) P E:=fun F s S=>by
 show wpAny B.M A (do standAt pos;newList (← spliced (backTo pos (starEach es fm.env)))) _ _ s;exact wpAny_bind (wpAny_standAt (EvL.op h F s S))
theorem EvE.sub {value slice pos} (h:EvE B A fm ρ H value (fun d1 H1=>EvE B A fm ρ H1 slice (fun d2 H2=>Op2 B A fm ρ H2 (subscriptTail value slice) d1 d2 P E) E) E):EvE B A fm ρ H (.Subscript value slice pos) P E:=fun F s S=>
 Subscript_ (wpAny_mono (h F s S) (fun v1 s1 zz=>zz.elim fun F1 d1 H1 h1 l1 r1 S1=>wpAny_mono (h1 F1 s1 S1) (fun v2 s2 zz=>zz.elim fun F2 d2 H2 h2 l2 r2 S2=>
  wpAny_mono (h2 F2 s2 v1 v2 S2 (r1.mono l2) r2) (fun Z Z x=>x.le (l1.trans l2)) fun Z Z x=>x) fun Z Z x=>x) fun Z Z x=>x)
noncomputable def Zk:Expr→Bool
 | .Slice ..=>false
 | _=>true
theorem Zd {slice:Expr} (h:Zk slice = true) (o i:Value):subscripted slice false o i = operate [o,i] (getItem o i):=by
 cases slice <;> first | rfl | cases h
theorem item_list {s:Shared} {value slice:Expr} {a:Addr} {vs:List Value} {ds:List D} {k:Int} {t:Tok} {d:D} (S:St B fm ρ F H s) (hs:Zk slice = true) (hL:s.heap.IsList a vs.toArray) (hr:Jc F vs ds)
  (h0:0 ≤ k) (h1:k < 2 ^ 62) (hd:ds[k.toNat]? = some d) (h:P d H):wpAny B.M A (subscriptTail value slice (.ref a) (.int k t)) (Vp B fm ρ F P) E s:=by
 refine el12 (hr.get hd) fun v e r=>?_;exact tail_any hL.typeIs slot_list_getitem.lookup (wpAny_getItem_list hL h0 (by lia) (by simpa using e) (here h (Fz.le.refl F) r S)) (Zd hs _ _)
theorem N3 {s:Shared} {value slice:Expr} {a:Addr} {vs:List Value} {ds:List D} {k:Int} {t:Tok} {d:D} (S:St B fm ρ F H s) (hs:Zk slice = true) (hL:s.heap.IsList a vs.toArray) (hr:Jc F vs ds)
  (h0:k < 0) (h1:-(ds.length:Int) ≤ k) (hl:ds.length < 2 ^ 62) (hd:ds[(k + ds.length).toNat]? = some d) (h:P d H):wpAny B.M A (subscriptTail value slice (.ref a) (.int k t)) (Vp B fm ρ F P) E s:=by
 refine el12 (hr.get hd) fun v e r=>?_;have hlen:=hr.length;exact tail_any hL.typeIs slot_list_getitem.lookup (wpAny_getItem_list_neg hL h0 (by simp;lia) (by lia) (by simp [hlen];exact e) (here h (Fz.le.refl F) r S)) (Zd hs _ _)
theorem Op2.X8 {value slice:Expr} {ds:List D} {k:Int} {d:D} (hs:Zk slice = true) (h0:0 ≤ k) (h1:k < 2 ^ 62) (hd:ds[k.toNat]? = some d) (h:P d H):Op2 B A fm ρ H (subscriptTail value slice) (.lst ds) (.int k) P E:=fun F s v u S r1 r2=>by
 refine el23 (r1.list S.toGS) fun a vs z2 hL hr=>?_;subst z2;exact r2.z5 fun Z=>item_list S hs hL hr h0 h1 hd h
theorem Op2.jdd {value slice:Expr} {ds:List D} {k:Int} {d:D} (hs:Zk slice = true) (h0:k < 0) (h1:-(ds.length:Int) ≤ k) (hl:ds.length < 2 ^ 62) (hd:ds[(k + ds.length).toNat]? = some d) (h:P d H):Op2 B A fm ρ H (subscriptTail value slice) (.lst ds) (.int k) P E:=fun F s v u S r1 r2=>by
 refine el23 (r1.list S.toGS) fun a vs z2 hL hr=>?_;subst z2;exact r2.z5 fun Z=>N3 S hs hL hr h0 h1 hl hd h
theorem Op2.iz {value slice:Expr} {a:Addr} {ds:List D} {k:Int} {d:D} (hs:Zk slice = true) (ha:(a,ds) ∈ H) (h0:0 ≤ k) (h1:k < 2 ^ 62) (hd:ds[k.toNat]? = some d) (h:P d H):Op2 B A fm ρ H (subscriptTail value slice) (.ref a) (.int k) P E:=fun F s v u S r1 r2=>by
 refine el12 (S.toGS.list ha) fun vs hL hr=>?_;exact r1.Kf<|r2.z5 fun Z=>item_list S hs hL hr h0 h1 hd h
theorem Op2.Qv {value slice:Expr} {ds:List D} {k:Int} {j:Nat} {d:D} (hs:Zk slice = true) (h0:-(2 ^ 62) ≤ k) (h1:k < 2 ^ 62) (hj:seqIndex? k ds.length = some j) (hd:ds[j]? = some d) (h:P d H):Op2 B A fm ρ H (subscriptTail value slice) (.tup ds) (.int k) P E:=fun F s v u S r1 r2=>by
 refine el23 (r1.tuple S.toGS) fun a vs z2 hL hr=>?_;subst z2;refine r2.z5 fun Z=>?_;refine el12 (hr.get hd) fun v e r=>?_;exact item_tupleT (l:=vs) hL (by lia) (by lia) (by refine rwb hr.length ?_;exact hj) e (here h (Fz.le.refl F) r S) (Zd hs _ _)
theorem Op2.X7 {value slice:Expr} {x:Str} {k:Int} {c:Nat} (hs:Zk slice = true) (h0:-(2 ^ 62) ≤ k) (h1:k < 2 ^ 62) (hc:((seqIndex? k x.length).bind fun j=>x.cps[j]?) = some c) (h:P (.str ⟨#[c]⟩) H):Op2 B A fm ρ H (subscriptTail value slice) (.str x) (.int k) P E:=fun F s v u S r1 r2=>by
 exact r1.zt fun Z Z=>r2.z5 fun Z=>tail_any (typeIs_str s x _) slot_str_getitem.lookup (getItem_str (by simp;lia) hc (Qp h S)) (Zd hs _ _)
noncomputable def Lf (B:Base) (A:Around) (fm:Fm) (ρ:Loc) (e:Expr) (d:D):Prop:=∀ H P E,P d H→EvE B A fm ρ H e P E
section
variable {e r:Expr} {d d2:D} {op:Operator} {co:CmpOp} {pos:Pos}
theorem Lf.loc {x:Str} (C:Cx A fm sc cn n) (hd:ρ.lookup x = some d) (hk:autoParam (sc.names.lookup x = some .local) aR) (hn:autoParam ((x == ("__debug__":Str)) = false) aD):Lf B A fm ρ (.Name x pos) d:=fun Z Z Z h=>EvE.loc C hd h hk hn
theorem Lf.Vl {x:Str} (C:Cx A fm sc cn n) (hd:ρ.lookup x = some d) (hk:autoParam (sc.names.lookup x = some .cell) aR) (hn:autoParam ((x == ("__debug__":Str)) = false) aD):Lf B A fm ρ (.Name x pos) d:=fun Z Z Z h=>EvE.Vl C hd h hk hn
theorem Lf.jau {x:Str} (C:Cx A fm sc cn n) (hk:sc.names.lookup x = some .free) (hd:ρ.lookup x = some d) (hn:autoParam ((x == ("__debug__":Str)) = false) aD) (hn':autoParam ((x == ("__classdict__":Str)) = false) aD):Lf B A fm ρ (.Name x pos) d:=fun Z Z Z h=>EvE.jau C hk hd h hn hn'
theorem Lf.int {i:Int} {k}:Lf B A fm ρ (.Constant (.int i) k pos) (.int i):=fun Z Z Z h=>EvE.int h
theorem Lf.str {x:Str} {k}:Lf B A fm ρ (.Constant (.str x) k pos) (.str x):=fun Z Z Z h=>EvE.str h
theorem Lf.none {k}:Lf B A fm ρ (.Constant .none k pos) .none:=fun Z Z Z h=>EvE.none h
theorem EvL.lf {es:List Expr} {PL:List D→Led→Prop} (l:Lf B A fm ρ e d) (h:EvL B A fm ρ H pos es (fun ds H2=>PL (d :: ds) H2) E) (he:autoParam (∀ env,starEach (e :: es) env = (false,eval e env) :: starEach es env) aI):EvL B A fm ρ H pos (e :: es) PL E:=EvL.cons (l _ _ _ h) he
theorem EvE.Wf (l:Lf B A fm ρ e d) (h:EvE B A fm ρ H r (fun d2 H2=>Op2 B A fm ρ H2 (binaryOp op) d d2 P E) E):EvE B A fm ρ H (.BinOp e op r pos) P E:=EvE.bin (l _ _ _ h)
theorem EvE.jo (l:Lf B A fm ρ e d) (l2:Lf B A fm ρ r d2) (h:Op2 B A fm ρ H (binaryOp op) d d2 P E):EvE B A fm ρ H (.BinOp e op r pos) P E:=EvE.bin (l _ _ _ (l2 _ _ _ h))
theorem EvE.l9 (l:Lf B A fm ρ e d) (h:EvE B A fm ρ H r (fun d2 H2=>Op2 B A fm ρ H2 (subscriptTail e r) d d2 P E) E):EvE B A fm ρ H (.Subscript e r pos) P E:=EvE.sub (l _ _ _ h)
theorem EvE.J7 (l:Lf B A fm ρ e d) (l2:Lf B A fm ρ r d2) (h:Op2 B A fm ρ H (subscriptTail e r) d d2 P E):EvE B A fm ρ H (.Subscript e r pos) P E:=EvE.sub (l _ _ _ (l2 _ _ _ h))
theorem EvB.jav (l:Lf B A fm ρ e d) (h:EvE B A fm ρ H r (fun d2 H2=>Op2 B A fm ρ H2 (compareOp co) d d2 (IsB PB) E) E) (hm:autoParam (behindInMarks co r = false) aR):EvB B A fm ρ H (.Compare e [co] [r] pos) PB E:=EvB.cmp (l _ _ _ h) hm
theorem EvB.zq (l:Lf B A fm ρ e d) (l2:Lf B A fm ρ r d2) (h:Op2 B A fm ρ H (compareOp co) d d2 (IsB PB) E) (hm:autoParam (behindInMarks co r = false) aR):EvB B A fm ρ H (.Compare e [co] [r] pos) PB E:=EvB.cmp (l _ _ _ (l2 _ _ _ h)) hm
end
noncomputable def pick {α:Type} (xs:List α) (lo hi st:Option Int):List α:=
 (sliceRange (sliceBounds lo hi st xs.length).1 (sliceBounds lo hi st xs.length).2.1 (sliceBounds lo hi st xs.length).2.2).filterMap fun i=>xs[i]?
theorem Jc.picked {F:Fz} {vs:List Value} {ds:List D} (r:Jc F vs ds) (l:List Nat):Jc F (l.filterMap fun i=>vs[i]?) (l.filterMap fun i=>ds[i]?):=by
 induction l with
 | nil=>exact .nil
 | cons i l ih=>
  refine rwb List.filterMap_cons (rwb List.filterMap_cons ?_);cases h:vs[i]? with
  | none=>
   cases h':ds[i]? with
   | none=>exact ih
   | some d=>refine el12 (r.get h') fun v e Z=>?_;replace e:=ts h e;contradiction
  | some v=>
   refine el12 (r.get' h) fun d e q=>?_;refine rwb e ?_;exact .cons q ih
theorem R1 {vs:List Value} {lo hi st:Option Int}:slicePick vs.toArray lo hi st = (pick vs lo hi st).toArray:=by
 unfold slicePick pick;simp
theorem Jc.pick {F:Fz} {vs:List Value} {ds:List D} (r:Jc F vs ds) (lo hi st:Option Int):Jc F (pick vs lo hi st) (pick ds lo hi st):=by
 unfold Mine.Tactic.pick;rw [r.length];exact r.picked _
inductive C8:D→Option Int→Prop
 | none:C8 .none none
 | int (i:Int):C8 (.int i) (some i)
theorem C8.part {F:Fz} {v:Value} {d:D} {o:Option Int} (h:C8 d o) (r:Jd F v d):IsPart v o:=by
 revert h r;revert F v d o;refine no_implicit_lambda% (G4 (h:=?_));refine (?_:A4 _) _ _ _ _;intro F v d o h r;cases h <;> cases r <;> constructor
inductive Jey (P:Option Int→Led→Prop) (d:D) (H:Led):Prop
 | mk (o:Option Int) (h:C8 d o) (p:P o H)
inductive IsI (P:Option Int→Led→Prop) (d:D) (H:Led):Prop
 | mk (i:Int) (e:d = .int i) (p:P (some i) H)
noncomputable def EvP (B:Base) (A:Around) (fm:Fm) (ρ:Loc) (H:Led) (e:Option Expr) (P:Option Int→Led→Prop) (E:Value→Shared→Prop):Prop:=
 Op0 B A fm ρ H (evalPart e fm.env) (Jey P) E
theorem EvP.none {PO:Option Int→Led→Prop} (h:PO none H):EvP B A fm ρ H none PO E:=fun F s S=>wpAny_evalPart_none (here ⟨_,.none,h⟩ (Fz.le.refl F) .none S)
theorem EvP.some {PO:Option Int→Led→Prop} {e:Expr} (h:EvE B A fm ρ H e (IsI PO) E):EvP B A fm ρ H (some e) PO E:=fun F s S=>
 wpAny_evalPart_some (wpAny_mono (h F s S) (fun Z Z x=>x.mono fun d H ⟨i,e,p⟩=>⟨_,by rw [e];exact .int i,p⟩) fun Z Z x=>x)
noncomputable def Zx (B:Base) (A:Around) (fm:Fm) (ρ:Loc) (H:Led) (value slice:Expr) (d:D) (lo hi st:Option Int) (P:D→Led→Prop) (E:Value→Shared→Prop):Prop:=
 ∀ F s v vl vu vs sl,St B fm ρ F H s→Jd F v d→IsPart vl lo→IsPart vu hi→IsPart vs st→s.heap.IsSliceOf sl vl vu vs→wpAny B.M A (subscriptTail value slice v (.ref sl)) (Vp B fm ρ F P) E s
theorem EvE.bg {value lower upper step p pos} (h:EvE B A fm ρ H value (fun d H1=>EvP B A fm ρ H1 lower (fun lo H2=>EvP B A fm ρ H2 upper (fun hi H3=>EvP B A fm ρ H3 step (fun st H4=>
  Zx B A fm ρ H4 value (.Slice lower upper step p) d lo hi st P E) E) E) E) E):EvE B A fm ρ H (.Subscript value (.Slice lower upper step p) pos) P E:=by
 revert h;revert B A fm ρ H E P value lower upper step p pos;refine no_implicit_lambda% (G13 (h:=?_));refine (?_:A13 _) _ _ _ _ _ _ _ _ _ _ _ _ _;intro B A fm ρ H E P value lower upper step p pos h;exact fun F s S=>
  Subscript_ (wpAny_mono (h F s S) (fun v s1 zz=>zz.elim fun F1 d H1 h1 l1 r1 S1=>wpAny_Slice (wpAny_mono (h1 F1 s1 S1) (fun vl s2 zz=>zz.elim fun F2 dl H2 y l2 r2 S2=>y.rec fun lo q2 h2=>
   wpAny_mono (h2 F2 s2 S2) (fun vu s3 zz=>zz.elim fun F3 du H3 zqq l3 r3 S3=>zqq.rec fun hi q3 h3=>wpAny_mono (h3 F3 s3 S3) (fun vs s4 zz=>zz.elim fun F4 ds H4 zqqq l4 r4 S4=>zqqq.rec fun st q4 h4=>
    wpAny_mono (h4 F4 _ v vl vu vs s4.heap.objs.size (S4.keeps (tk:=s4.toks) fun b o e=>Heap.get?_push_of_some _ e) (((r1.mono l2).mono l3).mono l4) (q2.part r2) (q3.part r3) (q4.part r4) ⟨_,Heap.get?_push_size _ rfl,rfl,rfl⟩)
     (fun Z Z x=>x.le (((l1.trans l2).trans l3).trans l4)) fun Z Z x=>x) fun Z Z x=>x) fun Z Z x=>x) fun Z Z x=>x)) fun Z Z x=>x)
theorem Up {lower upper step:Option Expr} {p:Pos} (o i:Value):∃ ops,subscripted (.Slice lower upper step p) false o i = operate ops (getItem o i):=by
 cases step with
 | none=>exact ⟨_,rfl⟩
 | some e=>exact ⟨_,rfl⟩
theorem slice_list {s:Shared} {value:Expr} {lower upper step:Option Expr} {p:Pos} {a sl:Addr} {vl vu vs:Value} {lo hi st:Option Int} {ws:List Value} {Q:Value→Shared→Prop} (hL:s.heap.IsList a ws.toArray)
  (h1:IsPart vl lo) (h2:IsPart vu hi) (h3:IsPart vs st) (hsl:s.heap.IsSliceOf sl vl vu vs) (h0:st ≠ some 0) (hz:ws.length ≤ sizeLine)
  (h:Q (.ref s.heap.objs.size) { s with heap:=s.heap.push { cls:=.type "list",data:=.seq (pick ws lo hi st).toArray } }):wpAny B.M A (subscriptTail value (.Slice lower upper step p) (.ref a) (.ref sl)) Q E s:=by
 refine el11 (Up (lower:=lower) (upper:=upper) (step:=step) (p:=p) (.ref a) (.ref sl)) fun ops e=>?_;refine tail_any hL.typeIs slot_list_getitem.lookup ?_ e;exact wpAny_getItem_list_slice hL hsl h1 h2 h3 h0 (by refine rwb R1 ?_;exact h) (by simpa using hz)
theorem Zx.lst {value:Expr} {lower upper step:Option Expr} {p:Pos} {ds:List D} {lo hi st:Option Int} (h0:st ≠ some 0) (hz:ds.length ≤ sizeLine) (h:P (.lst (pick ds lo hi st)) H) :
  Zx B A fm ρ H value (.Slice lower upper step p) (.lst ds) lo hi st P E:=fun F s v vl vu vs sl S r h1 h2 h3 hsl=>by
 refine el23 (r.list S.toGS) fun a ws z2 hL hr=>?_;subst z2;refine slice_list hL h1 h2 h3 hsl h0 (by refine rwb hr.length ?_;exact hz) ?_;refine el13 (St.Ii (T:="list") (vs:=pick ws lo hi st) (ds:=pick ds lo hi st) S) fun F' l e S'=>?_;exact here h l (.lst e ((hr.pick lo hi st).mono l)) S'
theorem Zx.own {value:Expr} {lower upper step:Option Expr} {p:Pos} {a:Addr} {ds:List D} {lo hi st:Option Int} (ha:(a,ds) ∈ H) (h0:st ≠ some 0) (hz:ds.length ≤ sizeLine) (h:P (.lst (pick ds lo hi st)) H) :
  Zx B A fm ρ H value (.Slice lower upper step p) (.ref a) lo hi st P E:=fun F s v vl vu vs sl S r h1 h2 h3 hsl=>by
 refine el12 (S.toGS.list ha) fun ws hL hr=>?_;refine r.Kf ?_;refine slice_list hL h1 h2 h3 hsl h0 (by refine rwb hr.length ?_;exact hz) ?_;refine el13 (St.Ii (T:="list") (vs:=pick ws lo hi st) (ds:=pick ds lo hi st) S) fun F' l e S'=>?_;exact here h l (.lst e ((hr.pick lo hi st).mono l)) S'
theorem Zx.jfa {value:Expr} {lower upper step:Option Expr} {p:Pos} {a:Addr} {ds:List D} {lo hi st:Option Int} (ha:(a,ds) ∈ H) (h0:st ≠ some 0) (hz:ds.length ≤ sizeLine) (h:∀ b,P (.ref b) ((b,pick ds lo hi st) :: H)) :
  Zx B A fm ρ H value (.Slice lower upper step p) (.ref a) lo hi st P E:=fun F s v vl vu vs sl S r h1 h2 h3 hsl=>by
 refine el12 (S.toGS.list ha) fun ws hL hr=>?_;refine r.Kf ?_;refine slice_list hL h1 h2 h3 hsl h0 (by refine rwb hr.length ?_;exact hz) ?_;exact here (h _) (Fz.le.refl F) (.ref _) (S.addL (tk:=s.toks) (fun b o e=>Heap.get?_push_of_some _ e) (Je _) ⟨_,0,Heap.get?_push_size _ rfl,hr.pick lo hi st⟩)
noncomputable def Xy (x:Str) (lo hi:Option Int):Str:=
 if (Builtin.Str.strSliceIndices lo hi 1 x.length).length == x.length then x else ⟨((Builtin.Str.strSliceIndices lo hi 1 x.length).filterMap (x.cps[·]?)).toArray⟩
theorem Ld {v:Value} {o:Option Int} (h:IsPart v o):∃ p:Option (Int × Tok),v = partValue p ∧ p.map (·.1) = o:=by
 cases h with
 | none=>exact ⟨none,rfl,rfl⟩
 | int i t=>exact ⟨some (i,t),rfl,rfl⟩
theorem Zx.str {value:Expr} {lower upper:Option Expr} {p:Pos} {x:Str} {lo hi:Option Int} (hz:(Xy x lo hi).length ≤ sizeLine) (h:P (.str (Xy x lo hi)) H) :
  Zx B A fm ρ H value (.Slice lower upper none p) (.str x) lo hi none P E:=fun F s v vl vu vs sl S r h1 h2 h3 hsl=>by
 refine r.zt fun t Z=>?_;refine el12 (Ld h1) fun l z1 e1=>?_;subst z1;refine el12 (Ld h2) fun u z1 e2=>?_;subst z1;cases h3;refine tail_any (typeIs_str s x t) slot_str_getitem.lookup ?_ (ops:=[.ref sl,.str x t]) rfl;refine wpAny_getItem_str_slice (l:=l) (u:=u) (st:=none) hsl rfl ?_;unfold sliceMade slicePicked;unfold Xy at h hz;rw [← e1,← e2] at h hz;simp only [Option.map_none,Option.getD_none,beq_self_eq_true,Bool.true_and];split
 ·rename_i hc;replace h:=(if_pos hc) ▸ h;exact here h (Fz.le.refl F) (.str _ _ (by assumption)) S
 ·rename_i hc;rw [if_neg hc] at h hz;exact ⟨hz,Qp h S⟩
inductive Vx (B:Base) (fm:Fm) (F:Fz) (N:Loc→Led→Prop) (R:D→Led→Prop):Flow→Shared→Prop
 | next {s':Shared} (F':Fz) (ρ':Loc) (H':Led) (l:F.le F') (h:N ρ' H') (S:St B fm ρ' F' H' s'):Vx B fm F N R .next s'
 | ret {s':Shared} (v:Value) (F':Fz) (d:D) (H':Led) (ρ':Loc) (l:F.le F') (h:R d H') (r:Jd F' v d) (S:St B fm ρ' F' H' s'):Vx B fm F N R (.ret v) s'
@[elab_as_elim] theorem Vx.elim {C:Flow→Prop} {fl:Flow} {s':Shared} (x:Vx B fm F N R fl s') (n:∀ F' ρ' H',F.le F'→N ρ' H'→St B fm ρ' F' H' s'→C .next)
  (r:∀ v F' d H' ρ',F.le F'→R d H'→Jd F' v d→St B fm ρ' F' H' s'→C (.ret v)):C fl:=by
 cases x with
 | next F' ρ' H' l h S=>exact n F' ρ' H' l h S
 | ret v F' d H' ρ' l h rv S=>exact r v F' d H' ρ' l h rv S
theorem Vx.le {F F₁:Fz} (h:F.le F₁) {fl:Flow} {s:Shared} (x:Vx B fm F₁ N R fl s):Vx B fm F N R fl s:=x.elim (fun F' ρ' H' l q S=>.next F' ρ' H' (h.trans l) q S) fun v F' d H' ρ' l q r S=>.ret v F' d H' ρ' (h.trans l) q r S
noncomputable def ExT (B:Base) (A:Around) (fm:Fm) (ρ:Loc) (H:Led) (t:Sem Flow) (N:Loc→Led→Prop) (R:D→Led→Prop) (E:Value→Shared→Prop):Prop:=
 ∀ F s,St B fm ρ F H s→wpAny B.M A t (Vx B fm F N R) E s
noncomputable abbrev Ex1 (B:Base) (A:Around) (fm:Fm) (ρ:Loc) (H:Led) (st:Stmt) (N:Loc→Led→Prop) (R:D→Led→Prop) (E:Value→Shared→Prop):Prop:=ExT B A fm ρ H (exec st fm.env) N R E
noncomputable abbrev ExS (B:Base) (A:Around) (fm:Fm) (ρ:Loc) (H:Led) (ss:List Stmt) (N:Loc→Led→Prop) (R:D→Led→Prop) (E:Value→Shared→Prop):Prop:=ExT B A fm ρ H (execs ss fm.env) N R E
theorem Uv {F F':Fz} {s':Shared} {ρ':Loc} {H':Led} (hp:N ρ' H') (l:F.le F') (S:St B fm ρ' F' H' s'):Vx B fm F N R .next s':=.next F' ρ' H' l hp S
theorem ExT.mono {t:Sem Flow} {R':D→Led→Prop} (h:ExT B A fm ρ H t N R E) (hn:∀ ρ H,N ρ H→N' ρ H) (hr:∀ d H,R d H→R' d H):ExT B A fm ρ H t N' R' E:=fun F s S=>
 wpAny_mono (h F s S) (fun fl s' x=>x.elim (fun F' ρ' H' l q S=>.next F' ρ' H' l (hn _ _ q) S) fun v F' d H' ρ' l q r S=>.ret v F' d H' ρ' l (hr _ _ q) r S) fun Z Z x=>x
theorem Ss.nil (h:N ρ H):ExS B A fm ρ H [] N R E:=fun F s S=>wpAny_execs_nil (Uv h (Fz.le.refl F) S)
theorem Ss.cons {st:Stmt} {rest:List Stmt} (h:Ex1 B A fm ρ H st (fun ρ1 H1=>ExS B A fm ρ1 H1 rest N R E) R E):ExS B A fm ρ H (st :: rest) N R E:=fun F s S=>
 wpAny_execs_cons (wpAny_mono (h F s S) (fun fl s' x=>x.elim (fun F' ρ' H' l p S'=>wpAny_mono (p F' s' S') (fun Z Z y=>y.le l) fun Z Z x=>x) fun v F' d H' ρ' l q r S'=>.ret v F' d H' ρ' l q r S') fun Z Z x=>x)
noncomputable def Lg:Expr→Bool
 | .ListComp .. | .SetComp .. | .DictComp ..=>false
 | _=>true
theorem Uo {value:Expr} (h:Lg value = true) (t:Option Expr) (l:Nat) (env:Env):swapsWith value t l env = pure false:=by
 cases value <;> first | rfl | cases h
theorem S1.assign {x:Str} {p pos value} (C:Cx A fm sc cn n) (h:EvE B A fm ρ H value (fun d H1=>N (put x d ρ) H1) E) (hk:autoParam (Jj sc cn x = true) aR) (hc:autoParam (Lg value = true) aR):Ex1 B A fm ρ H (.Assign [.Name x p] value pos) N R E:=fun F s S=>
 wpAny_Assign_Name (wpAny_mono (h F s S) (fun v s1 zz=>zz.elim fun F1 d H1 p l r S1=>store C S1 r hk fun s' S'=>Uv p l S') fun Z Z x=>x) (Uo hc _ _ _)
theorem S1.ret {e pos} (h:EvE B A fm ρ H e R E):Ex1 B A fm ρ H (.Return (some e) pos) N R E:=fun F s S=>
 wpAny_Return_some (wpAny_mono (h F s S) (fun v s1 zz=>zz.elim fun F1 d H1 p l r S1=>Vx.ret v F1 d H1 ρ l p r S1) fun Z Z x=>x)
theorem S1.jea {pos} (h:R .none H):Ex1 B A fm ρ H (.Return none pos) N R E:=fun F s S=>
 wpAny_Return_none (.ret .none F .none H ρ (Fz.le.refl F) h .none S)
theorem S1.xh {test body orelse pos} (h:EvB B A fm ρ H test (fun b H1=>if b then ExS B A fm ρ H1 body N R E else ExS B A fm ρ H1 orelse N R E) E):Ex1 B A fm ρ H (.If test body orelse pos) N R E:=fun F s S=>
 wpAny_If (wpAny_mono (h F s S) (fun b s1 zz=>zz.elim fun F1 H1 p l S1=>by
  cases b
  ·exact wpAny_mono (p F1 s1 S1) (fun Z Z y=>y.le l) fun Z Z x=>x
  ·exact wpAny_mono (p F1 s1 S1) (fun Z Z y=>y.le l) fun Z Z x=>x) fun Z Z x=>x)
theorem Lk {env:Env} (h:env.scope.kind = .function):interactive env = false:=by unfold interactive;rw [h];rfl
theorem S1.expr {e pos} (h:EvE B A fm ρ H e (fun Z H1=>N ρ H1) E) (hc:autoParam (Lg e = true) aR):Ex1 B A fm ρ H (.Expr e pos) N R E:=fun F s S=>
 wpAny_Expr_any (wpAny_mono (h F s S) (fun v s1 zz=>zz.elim fun F1 d H1 p l r S1=>Uv p l S1) fun Z Z x=>x) (Lk S.ok.kind) (Uo hc _ _ _)
theorem ld {x:Str} {d:D} {s:Shared} {Q:Value→Shared→Prop} (C:Cx A fm sc cn n) (S:St B fm ρ F H s) (hk:sc.names.lookup x = some .local ∨ sc.names.lookup x = some .cell) (hd:ρ.lookup x = some d)
  (h:∀ v,Jd F v d→Q v s):wpAny B.M A (loadName fm.env x) Q E s:=by
 refine Or.elim hk (fun hk=>?_) fun hk=>?_
 ·refine el12 S.ns fun m hm r=>?_;have hk':fm.env.kindOf x = some .local:=by unfold Env.kindOf;refine rwb C.sc ?_;exact hk
  refine el12 (r x d hd hk') fun v h1 h2=>?_;exact wpAny_loadName_local S.ok.kind hk' hm h1 (h v h2)
 ·have hk':fm.env.kindOf x = some .cell:=by unfold Env.kindOf;refine rwb C.sc ?_;exact hk
  refine el23 (S.Ng hd (.inl hk')) fun c v h1 h2 h3=>?_;exact wpAny_loadName_cell S.ok.kind hk' h1 h2 (h v h3)
theorem S1.aug {x:Str} {p op value pos} {d0:D} (C:Cx A fm sc cn n) (hs:Jj sc cn x = true) (hk:sc.names.lookup x = some .local ∨ sc.names.lookup x = some .cell) (hd:ρ.lookup x = some d0)
  (h:EvE B A fm ρ H value (fun d H1=>Op2 B A fm ρ H1 (inplaceOp op) d0 d (fun d' H2=>N (put x d' ρ) H2) E) E):Ex1 B A fm ρ H (.AugAssign (.Name x p) op value pos) N R E:=fun F s S=>
 wpAny_AugAssign_Name (ld C S hk hd fun v r=>wpAny_mono (h F s S) (fun v2 s2 zz=>zz.elim fun F2 d2 H2 h2 l2 r2 S2=>wpAny_mono (h2 F2 s2 v v2 S2 (r.mono l2) r2) (fun v3 s3 zz=>zz.elim fun F3 d3 H3 h3 l3 r3 S3=>
  store C S3 r3 hs fun s' S'=>Uv h3 (l2.trans l3) S') fun Z Z x=>x) fun Z Z x=>x)
section
variable {a b:Int}
theorem Op2.iadd (h:P (.int (a + b)) H):Op2 B A fm ρ H (inplaceOp .Add) (.int a) (.int b) P E:=Y1 h fun s Z Z Q q=>iadd_int (q _ _ (le_succ _))
theorem Op2.jfh (h:P (.int (a - b)) H):Op2 B A fm ρ H (inplaceOp .Sub) (.int a) (.int b) P E:=Y1 h fun s Z Z Q q=>isub_int (q _ _ (le_succ _))
theorem Op2.jej (hb:0 ≤ b) (hsz:(intBits a:Int) + b ≤ 2 ^ 27) (h:P (.int (a * 2 ^ b.toNat)) H):Op2 B A fm ρ H (inplaceOp .LShift) (.int a) (.int b) P E:=Y1 h fun s Z Z Q q=>ilshift_int hb hsz (q _ _ (le_succ _))
theorem Op2.jfi (hb:0 ≤ b) (h:P (.int (a.fdiv (2 ^ b.toNat))) H):Op2 B A fm ρ H (inplaceOp .RShift) (.int a) (.int b) P E:=Y1 h fun s Z Z Q q=>irshift_int hb (q _ _ (le_succ _))
theorem Op2.fdiv (hb:b ≠ 0) (hp:Builtin.divisionGoesByPylong a b = false) (h:P (.int (a.fdiv b)) H):Op2 B A fm ρ H (binaryOp .FloorDiv) (.int a) (.int b) P E:=Y1 h fun s Z Z Q q=>floordiv_int hb (q _ _ (le_succ _)) (.inl hp)
end
inductive Pe (B:Base) (fm:Fm) (F:Fz) (N:Loc→Led→Prop) (u:Unit) (s':Shared):Prop
 | mk (F':Fz) (ρ':Loc) (H':Led) (h:N ρ' H') (l:F.le F') (S:St B fm ρ' F' H' s')
theorem Pe.elim {C:Prop} {u:Unit} {s':Shared} (x:Pe B fm F N u s') (k:∀ F' ρ' H',N ρ' H'→F.le F'→St B fm ρ' F' H' s'→C):C:=x.rec k
noncomputable def Asg (B:Base) (A:Around) (fm:Fm) (ρ:Loc) (H:Led) (t:Expr) (d:D) (N:Loc→Led→Prop) (E:Value→Shared→Prop):Prop:=
 ∀ F s v,St B fm ρ F H s→Jd F v d→wpAny B.M A (assign t fm.env v) (Pe B fm F N) E s
noncomputable def Jg (B:Base) (A:Around) (fm:Fm) (ρ:Loc) (H:Led) (ts:List Expr) (ds:List D) (N:Loc→Led→Prop) (E:Value→Shared→Prop):Prop:=
 ∀ F s vs,St B fm ρ F H s→Jc F vs ds→wpAny B.M A (assignInOrder ((assignEach ts fm.env).map (·.2)) vs) (Pe B fm F N) E s
theorem Asg.name {x:Str} {p} {d:D} (C:Cx A fm sc cn n) (h:N (put x d ρ) H) (hk:autoParam (Jj sc cn x = true) aR):Asg B A fm ρ H (.Name x p) d N E:=fun F s v S r=>
 wpAny_assign_Name (store C S r hk fun s' S'=>⟨F,_,H,h,Fz.le.refl F,S'⟩)
theorem Jg.nil {ds:List D} (h:N ρ H):Jg B A fm ρ H [] ds N E:=fun F s vs S r=>by
 show wpAny B.M A (assignInOrder [] vs) _ _ s;have:assignInOrder [] vs = pure ():=by cases vs <;> rfl
 rw [this];exact wpAny_pure ⟨F,ρ,H,h,Fz.le.refl F,S⟩
theorem Jg.cons {t:Expr} {ts:List Expr} {d:D} {ds:List D} (h:Asg B A fm ρ H t d (fun ρ1 H1=>Jg B A fm ρ1 H1 ts ds N E) E)
  (he:autoParam (∀ env,assignEach (t :: ts) env = (false,assign t env) :: assignEach ts env) aI):Jg B A fm ρ H (t :: ts) (d :: ds) N E:=fun F s vs S r=>by
 refine r.Gs fun v vs r rs=>?_;rw [he];exact wpAny_assignInOrder_more (wpAny_mono (h F s _ S r) (fun Z s1 zz=>zz.elim fun F1 ρ1 H1 h1 l1 S1=>wpAny_mono (h1 F1 s1 _ S1 (rs.mono l1)) (fun Z Z zz=>zz.elim fun F2 ρ2 H2 h2 l2 S2=>⟨F2,ρ2,H2,h2,l1.trans l2,S2⟩) fun Z Z x=>x) fun Z Z x=>x)
theorem Kc (env:Env) (ts:List Expr):(assignEach ts env).length = ts.length:=by
 induction ts with
 | nil=>rfl
 | cons t ts ih=>cases t <;> exact congrArg Nat.succ ih
noncomputable def I9 (A:Around) (h:Heap):Prop:=A.handled = none ∨ Jbx A.handled h.get?
theorem Cx.hok (C:Cx A fm sc cn n) {s:Shared} (S:St B fm ρ F H s):I9 A s.heap:=C.hd.imp id fun zz=>zz.elim fun x o vs a b c=>⟨x,o,vs,a,S.froz _ _ (S.sub.f _ _ b),c⟩
theorem Mo:entryFor table "proto.unchain" = some Builtin.«proto.unchain»:=entryFor_of_tree (by kernel_rfl)
theorem Nv {α:Type} {s:Shared} {a:Addr} {o:Obj} {vs:Array Value} {Q:α→Shared→Prop} (hk:I9 A s.heap) (ho:s.heap.get? a = some o) (hd:o.data = .fields vs) (hz:2 < vs.size)
  (hnew:∀ x,A.handled = some (.ref x)→a ≠ x)
  (h:∀ h',Heap.ExtBut a s.heap h'→(∃ o',h'.get? a = some o' ∧ o'.cls = o.cls)→E (.ref a) { s with heap:=h' }):wpAny B.M A (raiseNew (.ref a):Sem α) Q E s:=by
 unfold raiseNew;refine wpAny_bind (wpAny_handled ?_)
 rcases hk with e | ⟨x,ox,vx,e,h1,h2,h3⟩
 ·refine rwb e ?_;exact wpAny_bind (wpAny_pure (wpAny_throw (h s.heap (fun Z Z Z e=>e) ⟨o,ho,rfl⟩)))
 ·refine rwb e ?_;dsimp only;have hne:(Value.ref x != Value.ref a) = true:=by
   have:=hnew x e;simp only [bne_iff_ne,ne_eq];intro q;injection q with q
   exact this q.symm
  refine rwb (if_pos hne) ?_;refine wpAny_bind (wpAny_holding (wpAny_runValue (codeAny_builtin Mo ?_)));show wpAny _ _ (field (.ref x) 2 >>= _) _ _ _;refine wpAny_bind (wpAny_field h1 h2 h3 ?_);refine rwb (if_pos (by rfl)) ?_;have fin:wpAny B.M A (updateField a 2 (.ref x) >>= fun Z=>(throw (.ref a):Sem α)) Q E s:=by
   refine wpAny_bind ?_;show wpAny _ _ (updateField a 2 (.ref x)) _ _ _;exact wpAny_setField (M:=B.M) (A:=A) (E:=E) (i:=2) (x:=.ref x) (Q:=fun Z s'=>wpAny B.M A (throw (.ref a):Sem α) Q E s') ho hd hz (wpAny_throw (h _ (Heap.SameBut.update ..).extBut ⟨_,Heap.get?_update_self _ ho (Obj.isFreed_of_fields (Obj.data_mapFields hd _)),Obj.cls_mapFields ..⟩))
  exact wpAny_pure fin
theorem Ox {α:Type} {s:Shared} {Q:α→Shared→Prop} (hk:I9 A s.heap)
  (h:∀ h' e,(∀ b o,s.heap.get? b = some o→h'.get? b = some o)→(∃ o,h'.get? e = some o ∧ o.cls = .type "StopIteration")→E (.ref e) { s with heap:=h' }) :
  wpAny B.M A (newExc (.type "StopIteration") [] >>= fun e=>(raiseNew e:Sem α)) Q E s:=by
 refine wpAny_bind ?_;simp only [newExc,newTuple];refine wpAny_bind (wpAny_newObj_type ?_ (by size_fits));refine wpAny_bind (m:=firstArgMember _ _) (wpAny_of_eq (a:=Value.none) (by first | rfl | (simp only [firstArgMember];rfl)) ?_);refine wpAny_newObj_type ?_ (by size_fits);generalize hs1:s.heap.push { cls:=.type "tuple",data:=.seq ([]:List Value).toArray } = H1;have k1:∀ b o,s.heap.get? b = some o→H1.get? b = some o:=fun b o e=>by refine rwf hs1 ?_;exact Heap.get?_push_of_some _ e
 refine Nv (hk.imp id fun zz=>zz.elim fun x o vs a b c=>⟨x,o,vs,a,Heap.get?_push_of_some _ (k1 _ _ b),c⟩) (Heap.get?_push_size _ rfl) rfl ?_ ?_ ?_
 ·refine rwb Array.size_append ?_;exact Nat.lt_of_lt_of_le (by decide:2 < 6) (Nat.le_add_right _ _)
 ·intro x e q
  rcases hk with e' | ⟨y,o,vs,e',e2,_⟩
  ·replace e':=ts e e';contradiction
  ·replace e':=ts e e';cases e';have:=Heap.lt_size (k1 _ _ e2);replace this:=Eq.symm q ▸ this;exact Nat.lt_irrefl _ this
 ·intro h' ext ⟨o',g1,g2⟩;exact h h' _ (fun b o e=>ext b o (ne_of_lt (Heap.lt_size (k1 _ _ e))) (Heap.get?_push_of_some _ (k1 _ _ e))) ⟨o',g1,g2⟩
theorem I9.keeps {h h':Heap} (k:I9 A h) (e:∀ b o,h.get? b = some o→A.handled = some (.ref b)→h'.get? b = some o):I9 A h':=k.imp id fun zz=>zz.elim fun x o vs a b c=>⟨x,o,vs,a,e _ _ b a,c⟩
theorem Px {s:Shared} {it t:Addr} {i:Nat} {items} {Q:Option Value→Shared→Prop} (hh:I9 A s.heap)
  (hit:s.heap.IsTupleIter it t i) (ht:s.heap.IsTuple t items) (hx:items[i]? = none) (hxi:∀ x,A.handled = some (.ref x)→it ≠ x)
  (hQ:∀ h',Heap.ExtBut it s.heap h'→Q none { s with heap:=h' }):wpAny B.M A (pyNext (.ref it)) Q E s:=by
 revert hh hit ht hx hxi hQ;revert B A E s it t i items Q;refine no_implicit_lambda% (G9 (h:=?_));refine (?_:A9 _) _ _ _ _ _ _ _ _ _;intro B A E s it t i items Q hh hit ht hx hxi hQ;refine el13 (id hit) fun o ho hc hd=>?_;obtain ⟨ol,hol,_,nl,hdl⟩:=ht;unfold pyNext
 refine wpAny_bind (wpAny_attempt (wpAny_callSpecial?_slot (name:=Str.ofString "__next__") hit.typeIs F.slot_tuple_iterator_next
  (wpAny_call_entry F.slot_tuple_iterator_next hit.typeIs F.entry_tuple_iterator_next ?_ (F.args_tuple_iterator_next_1 _))))
 show wpAny _ _ (field (.ref it) 0 >>= _) _ _ s;refine wpAny_bind (wpAny_field ho hd (x:=.ref t) rfl ?_);show wpAny _ _ (if (Value.ref t == Value.none) = true then _ else _) _ _ s;refine rwb (if_neg (show ¬ ((Value.ref t == Value.none) = true) from Bool.false_ne_true)) ?_;show wpAny _ _ (field (.ref it) 1 >>= _) _ _ s;refine wpAny_bind (wpAny_field ho hd (x:=.int i 0) rfl ?_);show wpAny _ _ (seqItems? (.ref t) >>= _) _ _ s;refine wpAny_bind (wpAny_seqItems hol hdl ?_);simp only [toNat_natCast,hx];refine wpAny_bind (wpAny_rule (wpAny_bind (wpAny_setField ho hd (by simp) ?_)));refine Ox (hh.keeps fun b o e hb=>(Heap.SameBut.update ..).extBut b o (Ne.symm (hxi b hb)) e) fun h' e k ho'=>?_;refine el12 ho' fun o' g1 g2=>?_;refine wpAny_bind (wpAny_isInstance (T:="StopIteration") (b:=true) ⟨o',g1,g2⟩ isSubtype_stop ?_);exact wpAny_pure (hQ h' fun b o hb e=>k b o ((Heap.SameBut.update ..).extBut b o hb e))
theorem Fi {s:Shared} {it l:Addr} {i:Nat} {items} {Q:Option Value→Shared→Prop} (hh:I9 A s.heap)
  (hit:s.heap.IsListIter it l i) (hl:s.heap.IsList l items) (hx:items[i]? = none) (hxi:∀ x,A.handled = some (.ref x)→it ≠ x)
  (hQ:∀ h',Heap.ExtBut it s.heap h'→Q none { s with heap:=h' }):wpAny B.M A (pyNext (.ref it)) Q E s:=by
 refine el13 (id hit) fun o ho hc hd=>?_;obtain ⟨ol,hol,_,nl,hdl⟩:=hl;unfold pyNext
 refine wpAny_bind (wpAny_attempt (wpAny_callSpecial?_slot (name:=Str.ofString "__next__") hit.typeIs slot_listiter_next
  (wpAny_call_entry slot_listiter_next hit.typeIs entry_listiter_next ?_ (args_listiter_next _))))
 show wpAny _ _ (field (.ref it) 0 >>= _) _ _ s;refine wpAny_bind (wpAny_field ho hd (x:=.ref l) rfl ?_);show wpAny _ _ (if (Value.ref l == Value.none) = true then _ else _) _ _ s;refine rwb (if_neg (show ¬ ((Value.ref l == Value.none) = true) from Bool.false_ne_true)) ?_;show wpAny _ _ (field (.ref it) 1 >>= _) _ _ s;refine wpAny_bind (wpAny_field ho hd (x:=.int i 0) rfl ?_);show wpAny _ _ (seqItems? (.ref l) >>= _) _ _ s;refine wpAny_bind (wpAny_seqItems hol hdl ?_);simp only [toNat_natCast,hx];refine wpAny_bind (wpAny_rule (wpAny_bind (wpAny_setField ho hd (by simp) ?_)));refine Ox (hh.keeps fun b o e hb=>(Heap.SameBut.update ..).extBut b o (Ne.symm (hxi b hb)) e) fun h' e k ho'=>?_;refine el12 ho' fun o' g1 g2=>?_;refine wpAny_bind (wpAny_isInstance (T:="StopIteration") (b:=true) ⟨o',g1,g2⟩ isSubtype_stop ?_);exact wpAny_pure (hQ h' fun b o hb e=>k b o ((Heap.SameBut.update ..).extBut b o hb e))
theorem unpack_tuple {s:Shared} {t:Addr} {items:Array Value} {Q:List Value→Shared→Prop} (hh:I9 A s.heap) (ht:s.heap.IsTuple t items)
  (hQ:∀ h',Heap.ExtBut s.heap.objs.size s.heap h'→Q items.toList { s with heap:=h' }):wpAny B.M A (unpackItems (.ref t) items.size none) Q E s:=by
 revert hh ht hQ;revert B A E s t items Q;refine no_implicit_lambda% (G7 (h:=?_));refine (?_:A7 _) _ _ _ _ _ _ _;intro B A E s t items Q hh ht hQ;have hlt:t ≠ s.heap.objs.size:=by refine el12 ht fun o ho Z=>?_;exact ne_of_lt (Heap.lt_size ho)
 unfold unpackItems;refine wpAny_bind ?_
 ·unfold notIterableAtAll;refine wpAny_bind (wpAny_specialOf ht.typeIs F.slot_tuple_iter.lookup ?_);refine wpAny_pure ?_;simp only [Bool.false_eq_true,if_false];refine wpAny_bind (wpAny_holding (wpAny_pyIter_tuple ht ?_));refine wpAny_bind (wpAny_holding (wpAny_draw_tuple hlt items.size 0 _ _ ⟨_,Heap.get?_push_size _ rfl,rfl,rfl⟩ (ht.push _) (by lia) fun h₁ hit₁ hs₁=>?_));have hall:List.take items.size (List.drop 0 items.toList) = items.toList:=by
   refine rwb drop_zero ?_;exact take_of_length_le (by simp)
  refine rwb hall ?_;refine rwb (if_neg (by simp)) ?_;have ht₁:h₁.IsTuple t items:=(ht.push _).extBut hs₁.extBut hlt;have hxi:∀ x,A.handled = some (.ref x)→s.heap.objs.size ≠ x:=fun x e q=>by
   rcases hh with e' | ⟨y,o,vs,e',e2,_⟩
   ·replace e':=ts e e';contradiction
   ·replace e':=ts e e';cases e';have:=Heap.lt_size e2;replace this:=Eq.symm q ▸ this;exact Nat.lt_irrefl _ this
  refine wpAny_bind (wpAny_holding (Px (hh.keeps fun b o e hb=>hs₁.extBut b o (Ne.symm (hxi b hb)) (Heap.get?_push_of_some _ e)) hit₁ ht₁ (by simp) hxi fun h₂ he₂=>?_));simp only [Option.isSome_none,Bool.false_eq_true,if_false];refine wpAny_pure (hQ h₂ fun b o hb e=>he₂ b o hb (hs₁.extBut b o hb (Heap.get?_push_of_some _ e)))
theorem assign_tuple {s:Shared} {env:Env} {elts:List Expr} {x1} {pos:Pos} {t:Addr} {items:Array Value} {Q:Unit→Shared→Prop} (hh:I9 A s.heap) (ht:s.heap.IsTuple t items)
  (hn:(assignEach elts env).length = items.size) (hstar:(assignEach elts env).findIdx? (·.1) = none)
  (h:∀ h',Heap.ExtBut s.heap.objs.size s.heap h'→wpAny B.M A (assignInOrder ((assignEach elts env).map (·.2)) items.toList) Q E { s with heap:=h' }) :
  wpAny B.M A (assign (.Tuple elts x1 pos) env (.ref t)) Q E s:=by
 rw [arm_assign_Tuple];refine wpAny_bind (wpAny_standAt ?_);unfold unpack;refine rwb hn (rwb hstar ?_);exact wpAny_bind (wpAny_holding (unpack_tuple hh ht h))
theorem Asg.tup {es:List Expr} {k p} {ds:List D} (C:Cx A fm sc cn n) (hl:es.length = ds.length) (h:Jg B A fm ρ H es ds N E)
  (hs:autoParam (∀ env,(assignEach es env).findIdx? (·.1) = none) aI):Asg B A fm ρ H (.Tuple es k p) (.tup ds) N E:=fun F s v S r=>by
 refine el23 (r.tuple S.toGS) fun a vs z2 hT hr=>?_;subst z2;refine assign_tuple (C.hok S) hT (by (rewrite [Kc];refine rwb hl ?_);simp [hr.length]) (hs _) fun h' hx=>?_;exact h F _ _ (S.keeps (tk:=s.toks) fun b o e=>hx b o (ne_of_lt (Heap.lt_size e)) e) hr
theorem S1.unpack {elts k tpos value pos} (hc:Lg value = true) (hw:∀ env:Env,env.scope = sc→swappedStores [.Tuple elts k tpos] value env = pure none) (C:Cx A fm sc cn n)
  (h:EvE B A fm ρ H value (fun d H1=>Asg B A fm ρ H1 (.Tuple elts k tpos) d N E) E):Ex1 B A fm ρ H (.Assign [.Tuple elts k tpos] value pos) N R E:=fun F s S=>
 Assign_Tuple (wpAny_mono (h F s S) (fun v s1 zz=>zz.elim fun F1 d H1 p l r S1=>wpAny_mono (p F1 s1 v S1 r) (fun Z s2 zz=>zz.elim fun F2 ρ2 H2 h2 l2 S2=>Uv h2 (l.trans l2) S2) fun Z Z x=>x) fun Z Z x=>x)
  (by unfold swapsWithSole;exact Uo hc _ _ _) (hw _ C.sc)
theorem Nm {ts:List Expr} {v:Expr} {env env':Env} (h:env.scope = env'.scope):swappedStores ts v env = swappedStores ts v env':=by
 unfold swappedStores Env.blockKind Env.kindOf;rw [h]
noncomputable abbrev Ls (sc:Scope):Env:={ scope:=sc,locals:=0,globals:=0,cells:=[] }
theorem Ym {sc:Scope} {ts:List Expr} {v:Expr} {o:Option (List Str)} (h:swappedStores ts v (Ls sc) = pure o):∀ env:Env,env.scope = sc→swappedStores ts v env = pure o:=fun env he=>by
 rw [Nm (env':=Ls sc) he];exact h
theorem S1.iy {e1 e2:Expr} {elts k k' tpos vpos pos} {x y:Str} (C:Cx A fm sc cn n) (h:EvE B A fm ρ H e1 (fun d1 H1=>EvE B A fm ρ H1 e2 (fun d2 H2=>N (put x d1 (put y d2 ρ)) H2) E) E) (hw:autoParam (swappedStores [.Tuple elts k tpos] (.Tuple [e1,e2] k' vpos) (Ls sc) = pure (some [x,y])) aR)
  (hx:autoParam (Jj sc cn x = true) aR) (hy:autoParam (Jj sc cn y = true) aR) (he:autoParam (∀ env,starEach [e1,e2] env = (false,eval e1 env) :: starEach [e2] env) aI) (he':autoParam (∀ env,starEach [e2] env = [(false,eval e2 env)]) aI):Ex1 B A fm ρ H (.Assign [.Tuple elts k tpos] (.Tuple [e1,e2] k' vpos) pos) N R E:=fun F s S=>by
 have q:EvE B A fm ρ H (.Tuple [e1,e2] k' vpos) (fun d H2=>∃ d1 d2,d = .tup [d1,d2] ∧ N (put x d1 (put y d2 ρ)) H2) E:=by
  refine EvE.tup (EvL.cons (h.mono fun d1 H1 h1=>EvL.cons (h1.mono fun d2 H2 h2=>EvL.nil (OpN.tuple ⟨d1,d2,rfl,h2⟩)) he') he)
 refine Assign_Tuple_swapped (names:=[x,y]) (wpAny_mono (q F s S) (fun v s1 zz=>zz.elim fun F1 d H1 z l r S1=>el22 z fun d1 d2 e p=>?_) fun Z Z x=>x) (by unfold swapsWithSole;exact Uo rfl _ _ _) (Ym hw _ C.sc);subst e;refine el23 (r.tuple S1.toGS) fun a vs z2 hT hr=>?_;subst z2;revert hT;refine hr.Gs fun Z Z r1 hr=>hr.Gs fun Z Z r2 hr=>hr.mr fun hT=>?_;have:=unpack_tuple (B:=B) (A:=A) (E:=E) (s:=s1) (t:=a) (items:=#[_,_]) (C.hok S1) hT (Q:=fun items s₂=>wpAny B.M A (assignInOrder (([x,y].reverse).map fun n=>bindName fm.env n) items.reverse) (fun x_1=>Vx B fm F N R Flow.next) E s₂) ?_
 ·exact this
 intro h' hx';have S2:St B fm ρ F1 H1 { s1 with heap:=h' }:=S1.keeps (tk:=s1.toks) fun b o e=>hx' b o (ne_of_lt (Heap.lt_size e)) e;show wpAny B.M A (assignInOrder [bindName fm.env y,bindName fm.env x] [_,_]) _ _ _;refine wpAny_assignInOrder_more (wpAny_bindName (store C S2 r2 hy fun s3 S3=>wpAny_assignInOrder_more (wpAny_bindName (store C S3 r1 hx fun s4 S4=>?_))));show wpAny B.M A (pure ()) _ _ s4;exact wpAny_pure (Uv p l S4)
noncomputable def Fm.at (fm:Fm) (F:Fz) (H:Led) (h:Heap):Fm:={ fm with h₀:=hideAll h fm.own,h₁:=h,F₀:=F,W:=H.map (·.1) ++ Yb }
theorem Tf {fm:Fm} {F:Fz} {H:Led} {h:Heap} {b:Addr} {o:Obj} (e:h.get? b = some o) (h1:b ∉ fm.own):(fm.at F H h).h₀.get? b = some o:=hideAll_get _ e h1
theorem Jb8 {fm:Fm} {F:Fz} {H:Led} {h:Heap} {b:Addr} {o:Obj} (e:(fm.at F H h).h₀.get? b = some o):h.get? b = some o:=of_hideAll _ e
theorem Cx.at (C:Cx A fm sc cn n) {F:Fz} (l:fm.F₀.le F) (H:Led) (h:Heap):Cx A (fm.at F H h) sc cn n:=⟨C.hd.le l,C.sc,C.depth,C.units,C.frames,C.cn⟩
theorem Bb.at (k:Bb B fm) (F:Fz) (H:Led) (h:Heap) (ho:∀ b,fm.h₁.get? b ≠ none→h.get? b ≠ none):Bb B (fm.at F H h) where
 kind:=k.kind
 glob:=k.glob
 bi:=k.bi
 ownL:=k.ownL
 ownC:=k.ownC
 ownIs:=k.ownIs
 cellInj:=k.cellInj
 celT:=k.celT
 celLv:=fun x c e=>(k.celLv x c e).imp id (ho c)
 fresh:=fun a ha=>⟨(k.fresh a ha).1,hideAll_none _ ha,(k.fresh a ha).2.2⟩
 tabW:=fun a ha=>mem_append_right _ ha
 sub1:=fun b o e=>Jb8 e
theorem St.rebase {s:Shared} (S:St B fm ρ F H s):St B (fm.at F H s.heap) ρ F H s where
 toGS:=S.toGS
 ns:=S.ns
 cell:=S.cell
 cellAt:=S.cellAt
 ok:=S.ok.at F H s.heap S.old
 ownF:=S.ownF
 keep:=fun b o e Z=>.inl (Jb8 e)
 led:=fun p hp=>.inl (mem_append_left _ (mem_map_of_mem hp))
 frz:=fun b o e=>.inl e
 sub:=Fz.le.refl F
 ff:=S.ff
 old:=fun b hb=>hb
 lives:=S.lives
theorem St.back {ρ':Loc} {F':Fz} {H':Led} {s s':Shared} (S:St B fm ρ F H s) (S':St B (fm.at F H s.heap) ρ' F' H' s'):St B fm ρ' F' H' s':=by
 refine S.upd S'.toGS S'.sub (fun b o e h1 h2 h3=>S'.keep b o (Tf e h3) fun q=>(lA q).elim h1 h2) S'.old (fun b o e=>S'.frz b o e) (fun p hp=>?_) ⟨S'.ns,S'.cell,S'.cellAt⟩ fun b hb o es m e hd=>?_
 ·rcases S'.led p hp with q | q
  ·exact (lA q).elim .inl fun q=>absurd q (S'.apart p hp).2.2
  ·exact .inr q
 ·rcases S.ok.ownIs b hb with q | ⟨x,hx,q⟩
  ·subst q;refine el12 S'.ns fun m' z1 Z=>?_;obtain ⟨o',es',ep',a1,a2,_⟩:=z1;exact ⟨o',es',ep',a1,a2⟩
  ·refine el22 (S.cellAt x hx b q) fun v o' a1 a2=>?_;replace a1:=ts e a1;obtain rfl:=oi a1;replace a2:=ts hd a2;contradiction
structure Ih (B:Base) (fm:Fm) (F:Fz) (H:Led) (b:Addr):Prop where
 f:F.f b = none
 base:B.h.get? b = none
 tab:b ∉ Yb
 led:b ∉ H.map (·.1)
 own:b ∉ fm.own
 old:fm.h₁.get? b = none
theorem St.me {s:Shared} (S:St B fm ρ F H s) {b:Addr} (e:s.heap.get? b = none):Ih B fm F H b:=
 ⟨(S.fresh e).1,(S.fresh e).2.1,(S.fresh e).2.2.1,(S.fresh e).2.2.2,fun h=>S.lives b h e,Vk.none S.old e⟩
structure Nu where
 o:Option (Addr × Obj)
 t:Option (Tok × Str)
noncomputable abbrev Nu.no:Nu:=⟨none,none⟩
noncomputable def Nu.free (nu:Nu) (F:Fz):Prop:=(∀ a o,nu.o = some (a,o)→F.f a = none) ∧ ∀ t x,nu.t = some (t,x)→F.g t = none
noncomputable def Nu.at (nu:Nu) (s:Shared) (h':Heap) (tk:Nat):Prop:=(∀ a o,nu.o = some (a,o)→s.heap.get? a = none ∧ h'.get? a = some o) ∧ ∀ t x,nu.t = some (t,x)→s.toks ≤ t ∧ t < tk
theorem Nu.Nc {s:Shared} {h':Heap} {tk:Nat}:Nu.no.at s h' tk:=⟨fun Z Z q=>(nomatch q),fun Z Z q=>(nomatch q)⟩
noncomputable def Fz.bc (F:Fz):Option (Addr × Obj)→Fz
 | none=>F
 | some p=>F.put p.1 p.2
noncomputable def Fz.Nb (F:Fz):Option (Tok × Str)→Fz
 | none=>F
 | some p=>F.tok p.1 p.2
noncomputable def Fz.opt (F:Fz) (nu:Nu):Fz:=(F.bc nu.o).Nb nu.t
theorem Fz.To (F:Fz) (o:Option (Tok × Str)):(F.Nb o).f = F.f:=by cases o <;> rfl
theorem Fz.Sw (F:Fz) (o:Option (Addr × Obj)):(F.bc o).g = F.g:=by cases o <;> rfl
structure Jc4 (B:Base) (fm:Fm) (F:Fz) (H:Led) (b:Addr):Prop where
 f:F.f b = none
 base:B.h.get? b = none
 tab:b ∉ Yb
 led:b ∉ H.map (·.1)
 own:b ∉ fm.own
noncomputable def Zy (B:Base) (fm:Fm) (F:Fz) (H:Led) (ch bs:List Addr):Prop:=(∀ b ∈ ch,Ih B fm F H b) ∧ ∀ b ∈ bs,Jc4 B fm F H b
theorem St.opt {s:Shared} {h':Heap} {tk:Nat} {nu:Nu} (S:St B fm ρ F H s) (hn:nu.at s h' tk) :
  F.le (F.opt nu) ∧ (∀ b o,(F.opt nu).f b = some o→F.f b = some o ∨ (s.heap.get? b = none ∧ h'.get? b = some o)) ∧ (∀ b,s.heap.get? b ≠ none→F.f b = none→(F.opt nu).f b = none) ∧ nu.free F ∧
   ∀ t x,(F.opt nu).g t = some x→F.g t = some x ∨ (s.toks ≤ t ∧ t < tk):=by
 have fr:nu.free F:=⟨fun a o e=>(S.fresh (hn.1 a o e).1).1,fun t x e=>S.toGS.jek (hn.2 t x e).1⟩;obtain ⟨no,nt⟩:=nu;have l2:(F.bc no).le ((F.bc no).Nb nt):=by
  cases nt with
  | none=>exact Fz.le.refl _
  | some p=>exact Fz.jaj (by rw [Fz.Sw];exact fr.2 _ _ rfl)
 have gg:∀ t x,((F.bc no).Nb nt).g t = some x→F.g t = some x ∨ (s.toks ≤ t ∧ t < tk):=fun t x e=>by
  cases nt with
  | none=>exact .inl (by rw [← Fz.Sw F no];exact e)
  | some p=>
   rcases Fz.pk e with e | ⟨e,_⟩
   ·exact .inl (by rw [← Fz.Sw F no];exact e)
   ·exact .inr (by rw [e];exact hn.2 _ _ rfl)
 cases no with
 | none=>exact ⟨l2,fun b o e=>.inl (by rw [← show ((F.bc none).Nb nt).f = F.f from Fz.To _ _];exact e),fun b Z e=>by rw [show (F.opt ⟨none,nt⟩).f = F.f from Fz.To _ _];exact e,fr,gg⟩
 | some p=>
  obtain ⟨a,o⟩:=p;have h:=hn.1 a o rfl;have hF:=(S.fresh h.1).1;have ef:(F.opt ⟨some (a,o),nt⟩).f = (F.put a o).f:=Fz.To _ _;refine ⟨(Fz.Gr hF).trans l2,fun b ob e=>?_,fun b hb e=>?_,fr,gg⟩
  ·rw [ef] at e
   rcases Fz.yp e with q | ⟨rfl,rfl⟩
   ·exact .inl q
   ·exact .inr h
  ·rw [ef,Fz.put_ne fun q=>hb (by rw [q];exact h.1)];exact e
theorem St.jd9 {s:Shared} {h':Heap} {tk:Nat} {ch:List Addr} {nu:Nu} (S:St B fm ρ F H s) (x:∀ b ∈ ch,Ih B fm F H b) (hc:∀ b ∈ ch,∃ o vs,s.heap.get? b = some o ∧ o.data = .fields vs)
  (k:∀ b o,b ∉ ch→s.heap.get? b = some o→h'.get? b = some o) (hn:nu.at s h' tk) (ht:s.toks ≤ tk):St B fm ρ (F.opt nu) H { s with heap:=h',toks:=tk }:=by
 obtain ⟨le,nw,ns,_,ng⟩:=S.opt hn;have notF:∀ b o,s.heap.get? b = some o→(∀ vs,o.data ≠ .fields vs)→b ∉ ch:=fun b o e hd hm=>by
  obtain ⟨o2,v2,e2,d2⟩:=hc b hm;rw [e] at e2;cases e2;exact hd _ d2
 exact {
 tp:=S.toGS.tpos ht
 tg:=fun t x e=>(ng t x e).elim (S.toGS.jc7 ht t x) fun q=>⟨q.2,S.toGS.tpos q.1⟩
 same:=by obtain ⟨h,t,e⟩:=S.same;exact ⟨h',tk,by rw [e]⟩
 base:=fun b o e=>k b o (fun q=>by have:=(x b q).base;rw [e] at this;cases this) (S.base b o e)
 froz:=fun b o e=>by
  rcases nw b o e with q | q
  ·exact k b o (fun z=>by have:=(x b z).f;rw [q] at this;cases this) (S.froz b o q)
  ·exact q.2
 own:=fun p hp=>(S.own p hp).mono le fun o e=>k _ o (fun q=>(x _ q).led (mem_map_of_mem hp)) e
 nod:=S.nod
 apart:=fun p hp=>by
  have ap:=S.apart p hp;obtain ⟨vs,m,e,_⟩:=S.own p hp;exact ⟨ns _ (by rw [e];exact some_ne_none _) ap.1,ap.2⟩
 tab:=fun q hq=>(S.tab q hq).mono le fun o e=>k _ o (fun z=>(x _ z).tab (Wv hq)) e
 bk:=S.bk
 tabF:=fun a ha=>by
  obtain ⟨q,hq,rfl⟩:=Vd ha;obtain ⟨ps,e⟩:=(S.tab q hq).there;exact ⟨ns _ (by rw [e];exact some_ne_none _) (S.tabF _ ha).1,(S.tabF _ ha).2⟩
 toBears:=S.toBears.kept le fun b o' Z e Z n2=>.inl (k b o' (notF b o' e n2) e)
 ok:=S.ok
 ownF:=fun a ha=>⟨ns a (S.lives a ha) (S.ownF a ha).1,(S.ownF a ha).2⟩
 keep:=fun b o' e hW=>(S.keep b o' e hW).trans fun o2 e2=>.inl (k b o2 (fun q=>by
  have:=S.ok.sub1 _ _ e
  rw [(x b q).old] at this;cases this) e2)
 led:=S.led
 frz:=fun b o e=>by
  rcases nw b o e with q | q
  ·exact S.frz b o q
  ·exact .inr (Vk.none S.old q.1)
 sub:=S.sub.trans le
 ff:=S.ff.upd (fun b o2 es m e hd2 Z=>⟨o2,es,m,k b o2 (notF b o2 e fun vs q=>by rw [hd2] at q;cases q) e,hd2⟩) (fun b o Z Z e Z hf=>ns b (by rw [e];exact some_ne_none _) hf)
 old:=fun b hb q=>by
  have:=S.old b hb;cases e:s.heap.get? b with
  | none=>exact this e
  | some o2=>
   have:=k b o2 (fun z=>hb (x b z).old) e;rw [q] at this;cases this
 lives:=fun a ha q=>by
  cases e:s.heap.get? a with
  | none=>exact S.lives a ha e
  | some o2=>
   have:=k a o2 (fun z=>(x a z).own ha) e
   rw [q] at this;cases this }
structure Src (B:Base) (A:Around) (tg:Expr→Prop) (I:Addr) (ch bs fp:List Addr) (ds:List D) (F:Fz) (Stt:Nat→Heap→Prop):Prop where
 mem:I ∈ ch
 frame:∀ i h h',Stt i h→(∀ b ∈ fp,∀ o,h.get? b = some o→h'.get? b = some o)→Stt i h'
 item:∀ i (s:Shared) (target:Expr) (Q:Value→Shared→Prop) (E:Value→Shared→Prop),tg target→i < ds.length→Stt i s.heap→s.toks ≠ 0 →
  (∀ v d h' tk (nu:Nu),s.toks ≤ tk→ds[i]? = some d→(∀ F1:Fz,F.le F1→nu.free F1→Jd (F1.opt nu) v d)→nu.at s h' tk→Stt (i + 1) h' →
   (∀ b o,b ∉ ch→s.heap.get? b = some o→h'.get? b = some o)→Q v { s with heap:=h',toks:=tk }) →
  wpAny B.M A (pyNext (.ref I)) (fun r s'=>∃ v,r = some v ∧ wpAny B.M A (letOwnedTupleGo target (.ref I) v) (fun Z s''=>Q v s'') E s') E s
 done:∀ (s:Shared) (Q:Option Value→Shared→Prop) (E:Value→Shared→Prop),I9 A s.heap→(∀ x,A.handled = some (.ref x)→x ∉ ch)→Stt ds.length s.heap→s.toks ≠ 0 →
  (∀ h' tk,s.toks ≤ tk→(∀ b o,b ∉ ch→s.heap.get? b = some o→h'.get? b = some o)→Q none { s with heap:=h',toks:=tk })→wpAny B.M A (pyNext (.ref I)) Q E s
 self:∀ i (s:Shared) (Q:Value→Shared→Prop) (E:Value→Shared→Prop),Stt i s.heap→Q (.ref I) s→wpAny B.M A (pyIter (.ref I)) Q E s
 goodC:∀ i h,Stt i h→∀ b ∈ ch,∃ o T vs,h.get? b = some o ∧ o.cls = .type T ∧ T ≠ "frame" ∧ o.data = .fields vs
 goodB:∀ i h,Stt i h→∀ b ∈ bs,∃ o,h.get? b = some o ∧ ∀ es n,o.data ≠ .dict es n
 fpF:∀ b ∈ fp,b ∈ ch ∨ b ∈ bs ∨ F.f b ≠ none
 apart:∀ b ∈ bs,b ∉ ch
theorem Src.le {tg:Expr→Prop} {I:Addr} {ch bs fp:List Addr} {ds:List D} {F F':Fz} {Stt:Nat→Heap→Prop} (K:Src B A tg I ch bs fp ds F Stt) (l:F.le F'):Src B A tg I ch bs fp ds F' Stt:=
 { K with
  item:=fun i s t Q E ht hi st hz h=>K.item i s t Q E ht hi st hz fun v d h' tk nu e0 e1 e2 e3 e4 e5=>h v d h' tk nu e0 e1 (fun F1 l1 hn=>e2 F1 (l.trans l1) hn) e3 e4 e5
  fpF:=fun b hb=>(K.fpF b hb).imp id fun h=>h.imp id fun h q=>by
   cases q':F.f b with
   | none=>exact h q'
   | some ob=>have:=l.f b ob q';replace this:=ts q this;cases this }
noncomputable def Jn (B:Base) (A:Around) (fm:Fm) (ρ:Loc) (H:Led) (d:D) (ds:List D) (one:Bool) (ext H1:Led):Prop:=
 ∀ F s v E (Q:Value→Shared→Prop),St B fm ρ F H s→Jd F v d →
  (∀ s' I ch bs fp Stt,St B fm ρ F H1 s'→(∀ b ∈ ch,s.heap.get? b = none)→Zy B fm F H1 ch bs→Src B A (fun Z=>True) I ch bs fp ds F Stt→Stt 0 s'.heap→(one = true→ch = [I]) →
   (∀ ρ' F' H' s'' H'',St B fm ρ' F' H' s''→Zy B fm F' H' ch bs→F.le F'→(∀ b ∈ bs,∀ o,s'.heap.get? b = some o→s''.heap.get? b = some o)→H''.Perm (ext ++ H')→St B fm ρ' F' H'' s'')→Q (.ref I) s')→wpAny B.M A (pyIter v) Q E s
theorem St.perm {H':Led} {s:Shared} (S:St B fm ρ F H s) (h:H'.Perm H):St B fm ρ F H' s:=
 { S with
  own:=fun p hp=>S.own p (h.subset hp)
  nod:=(h.map _).symm.nodup S.nod
  apart:=fun p hp=>S.apart p (h.subset hp)
  ownF:=fun a ha=>⟨(S.ownF a ha).1,fun hm=>(S.ownF a ha).2 ((h.map _).subset hm)⟩
  led:=fun p hp=>S.led p (h.subset hp) }
theorem X0 {s:Shared} {target:Expr} {I:Addr} {v:Value} {o:Obj} {T:String} {Q:Unit→Shared→Prop} (ho:s.heap.get? I = some o) (hc:o.cls = .type T)
  (hT':(["enumerate", "zip", "dict_itemiterator", "dict_reverseitemiterator", "odict_iterator", "itertools.zip_longest", "itertools.pairwise"].contains T) = false) (h:Q () s):wpAny B.M A (letOwnedTupleGo target (.ref I) v) Q E s:=by
 unfold letOwnedTupleGo
 have main:wpAny B.M A (do
   let (.ref r,.ref a):=((Value.ref I),v) | return
   let o ← load r
   match o.cls,o.data with
   | .type n,.fields vs=>
    if ["enumerate", "zip", "dict_itemiterator", "dict_reverseitemiterator", "odict_iterator", "itertools.zip_longest", "itertools.pairwise"].contains n && vs[0]? == some (rawInt a) then
     rule "for.unpacks-the-owned-tuple"
     updateField r 0 .none
   | _,_=>pure ():Sem Unit) Q E s:=by
  cases v with
  | ref a=>
   dsimp only;refine wpAny_bind (wpAny_load ho ?_);refine rwb hc ?_;cases hd:o.data <;> dsimp only <;> first | exact wpAny_pure h | ((refine rwb hT' ?_;rewrite [Bool.false_and];refine rwb (if_neg Bool.false_ne_true) ?_);exact wpAny_pure h)
  | _=>exact wpAny_pure h
 cases target <;> first | exact main | exact wpAny_pure h
theorem Src.list {a:Addr} {vs:List Value} {ds:List D} {n:Nat} {F:Fz} {I:Addr} {bs:List Addr} (ha:a ∈ bs ∨ F.f a ≠ none) (hb:∀ b ∈ bs,b = a) (hne:a ≠ I) (hap:∀ b ∈ bs,b ∉ [I]) (r:Jc F vs ds) :
  Src B A (fun Z=>True) I [I] bs [I,a] ds F (fun i h=>h.IsListIter I a i ∧ h.get? a = some (listOf vs.toArray n)) where
 mem:=mem_singleton_self _
 frame:=fun Z Z Z st hk=>⟨st.1.at fun o e=>hk I (by simp) o e,hk a (by simp) _ st.2⟩
 item:=fun i s t Q E Z hi st hz hQ=>by
  have hlt:i < vs.length:=by refine rwb r.length ?_;exact hi
  refine el12 (r.get' (k:=i) (v:=vs[i]) (by simp [hlt])) fun d hd rv=>?_;refine wpAny_pyNext_list_item st.1 ⟨_,st.2,rfl,_,rfl⟩ (x:=vs[i]) (by simp [hlt]) fun h' hit' hs'=>⟨_,rfl,?_⟩;refine el13 (id hit') fun o ho hc Z=>?_;refine X0 ho hc (by decide) ?_;exact hQ _ d h' s.toks .no (le_refl _) hd (fun F1 l1 Z=>rv.mono l1) Nu.Nc ⟨hit',hs'.extBut _ _ hne st.2⟩ fun b o hb e=>hs'.extBut b o (fun h=>hb (by simp [h])) e
 done:=fun s Q E hk hx st hz hQ=>Fi hk st.1 ⟨_,st.2,rfl,_,rfl⟩ (by simp [r.length]) (fun x e q=>hx x e (by simp [q])) fun h' he'=>hQ h' s.toks (le_refl _) fun b o hb e=>he' b o (fun h=>hb (by simp [h])) e
 self:=fun Z Z Z Z st hQ=>wpAny_pyIter_listiter st.1 hQ
 goodC:=fun i h y b hb=>Yd y fun zqq _=>el13 zqq fun o e hc hd=>by refine rwb (lS hb) ?_;exact ⟨o,_,_,e,hc,by decide,hd⟩
 goodB:=fun i h zqqq b hm=>Yd zqqq fun _ e=>by refine rwb (hb b hm) ?_;exact ⟨_,e,fun Z Z q=>nomatch q⟩
 fpF:=fun b hb=>by
  rcases lC hb with rfl | hb
  ·exact .inl (mem_singleton_self _)
  ·refine rwb (lS hb) ?_;exact .inr ha
 apart:=hap
theorem St.x9 {s:Shared} (S:St B fm ρ F H s) {b:Addr} (e:s.heap.get? b = none):Zy B fm F H [b] []:=⟨fun x hx=>by rw [lS hx];exact S.me e,fun x hx=>nomatch hx⟩
theorem Jn.lst {ds:List D}:Jn B A fm ρ H (.lst ds) ds true [] H:=fun F s v E Q S r h=>by
 refine r.Mc fun a vs n ha r=>?_;have hg:=S.froz _ _ ha;refine wpAny_pyIter_list ⟨_,hg,rfl,_,rfl⟩ ?_;have hf:=Je s.heap;refine h _ s.heap.objs.size [s.heap.objs.size] [] _ _ (S.keeps (tk:=s.toks) fun b o e=>Heap.get?_push_of_some _ e) (fun b hb=>by refine rwb (lS hb) ?_;exact hf) (S.x9 hf)
  (Src.list (.inr (by refine rwb ha ?_;exact some_ne_none _)) (fun Z hb=>nomatch hb) (ne_of_lt (Heap.lt_size hg)) (fun Z hb=>nomatch hb) r)
  ⟨⟨_,Heap.get?_push_size _ rfl,rfl,rfl⟩,Heap.get?_push_of_some _ hg⟩ (fun Z=>rfl) fun ρ' F' H' s'' H'' S'' Z Z Z hp=>S''.perm hp
theorem St.jb5 {s:Shared} {a:Addr} {ds:List D} (S:St B fm ρ F H s) (x:Jc4 B fm F H a) (hl:Mq F s.heap a ds) (ho:a ∈ fm.W ∨ fm.h₁.get? a = none):St B fm ρ F ((a,ds) :: H) s:=
 { S with
  toGS:=S.toGS.addL ⟨x.f,x.base,x.tab,x.led⟩ hl
  ownF:=fun b hb=>⟨(S.ownF b hb).1,fun hm=>by
   rcases lC hm with q | hm
   ·exact x.own (by refine rwf (show b = a from q) ?_;exact hb)
   ·exact (S.ownF b hb).2 hm⟩
  led:=fun p hp=>by
   rcases lC hp with rfl | hp
   ·exact ho
   ·exact S.led p hp }
theorem Jn.own {a:Addr} {ds:List D} {H1:Led} (hp:H.Perm ((a,ds) :: H1)):Jn B A fm ρ H (.ref a) ds true [(a,ds)] H1:=fun F s v E Q S r h=>by
 refine r.Kf ?_;have S0:St B fm ρ F ((a,ds) :: H1) s:=S.perm hp.symm;refine el22 (S0.own _ (.head _)) fun vs m hg hr=>?_;have ap:=S0.apart _ (.head _);have nd:=S0.nod;(replace nd:=map_cons ▸ nd;rw [nodup_cons] at nd);have hled:=S0.led _ (.head _);refine wpAny_pyIter_list ⟨_,hg,rfl,_,rfl⟩ ?_;have hf:=Je s.heap;have S1:St B fm ρ F H1 s:=S0.drop (List.sublist_cons_self _ _);have lent:Jc4 B fm F H1 a:=⟨ap.1,ap.2.1,ap.2.2,nd.1,fun hm=>(S0.ownF _ hm).2 (.head _)⟩;refine h _ s.heap.objs.size [s.heap.objs.size] [a] _ _ (S1.keeps (tk:=s.toks) fun b o e=>Heap.get?_push_of_some _ e) (fun b hb=>by refine rwb (lS hb) ?_;exact hf)
  ⟨(S1.x9 hf).1,fun b hb=>by refine rwb (lS hb) ?_;exact lent⟩
  (Src.list (.inl (mem_singleton_self _)) (fun Z hb=>lS hb) (ne_of_lt (Heap.lt_size hg)) (fun b hb q=>by replace q:=(lS hb) ▸ q;exact ne_of_lt (Heap.lt_size hg) (lS q)) hr)
  ⟨⟨_,Heap.get?_push_size _ rfl,rfl,rfl⟩,Heap.get?_push_of_some _ hg⟩ (fun Z=>rfl) fun ρ' F' H' s'' H'' S'' x l st hpp=>?_
 exact (S''.jb5 (x.2 a (mem_singleton_self _)) ⟨vs,m,st a (mem_singleton_self _) _ (Heap.get?_push_of_some _ hg),hr.mono l⟩ hled).perm hpp
noncomputable abbrev Zi (a b c:Int) (t u v:Tok):Obj:={ cls:=.type "range",data:=.fields #[.int a t,.int b u,.int c v] }
theorem Jn.jdi {r:Addr} {a b c:Int} {t u v:Tok} {k:Nat} (hh:A.handled = none) (hs:Builtin.Range.small a b c = true) (hk:Builtin.Range.rangeSize a b c = (k:Int)) :
  Jn B A fm ρ H (.fro r (Zi a b c t u v)) ((List.range k).map fun (i:Nat)=>D.int (a + (i:Int) * c)) true [] H:=fun F s v' E Q S rr h=>by
 refine rr.tr fun hr=>?_;have hg:=S.froz _ _ hr;refine wpAny_pyIter_range (show IsRange s.heap r a b c t u v from hg) hs ?_;have hf:=Je s.heap;have W:=Walks.range (prog:=pw) (w:=B.w) hh s.heap.objs.size a c k
 have src:Src B A (fun Z=>True) s.heap.objs.size [s.heap.objs.size] [] [s.heap.objs.size] ((List.range k).map fun (i:Nat)=>D.int (a + (i:Int) * c)) F (fun i h=>IsRangeIter h s.heap.objs.size (a + ↑i * c) (↑k - ↑i) c):={
  mem:=mem_singleton_self _
  frame:=W.frame
  item:=fun i s1 t Q E Z hi st hz hQ=>by
   have hi':i < k:=by simpa using hi
   refine wpAny_pyNext_range_item st (by lia) fun h' hit' hs'=>⟨_,rfl,?_⟩;have e1:a + ((i + 1:Nat):Int) * c = a + (i:Int) * c + c:=by push_cast;rw [Int.add_mul,Int.one_mul,Int.add_assoc]
   have e2:(k:Int) - ((i + 1:Nat):Int) = (k:Int) - (i:Int) - 1:=by push_cast;lia
   have st':IsRangeIter h' s.heap.objs.size (a + ((i + 1:Nat):Int) * c) ((k:Int) - ((i + 1:Nat):Int)) c:=by (refine rwb e1 (rwb e2 ?_));exact hit'
   have hk':∀ b o,b ∉ [s.heap.objs.size]→s1.heap.get? b = some o→h'.get? b = some o:=fun b o hb e=>hs'.extBut b o (fun h=>hb (by simp [h])) e;have g:h'.get? s.heap.objs.size = some _:=st';refine X0 g rfl (by decide) ?_;refine hQ _ (.int (a + (i:Int) * c)) h' (s1.toks + 1) .no (le_succ _) (by simp [List.getElem?_map,List.getElem?_range hi']) (fun F1 Z Z=>.int _ _) Nu.Nc st' hk'
  done:=fun s1 Q E Z Z st hz hQ=>wpAny_pyNext_range_end hh st (by simp) fun h' he'=>hQ h' s1.toks (le_refl _) fun b o hb e=>he' b o (fun h=>hb (by simp [h])) e
  self:=W.self
  goodC:=fun i h e b hb=>by refine rwb (lS hb) ?_;exact ⟨_,_,_,e,rfl,by decide,rfl⟩
  goodB:=fun Z Z Z b hb=>nomatch hb
  fpF:=fun b hb=>.inl hb
  apart:=fun Z hb=>nomatch hb }
 refine h _ s.heap.objs.size [s.heap.objs.size] [] [s.heap.objs.size] _ (S.keeps (tk:=s.toks) fun b o e=>Heap.get?_push_of_some _ e) (fun b hb=>by refine rwb (lS hb) ?_;exact hf) (S.x9 hf) src ?_ (fun Z=>rfl) fun ρ' F' H' s'' H'' S'' Z Z Z hp=>S''.perm hp;show IsRangeIter _ _ _ _ _;refine rwb hk ?_;have:=Heap.get?_push_size s.heap (o:={ cls:=.type "range_iterator",data:=.fields #[rawInt a,rawInt (k:Int),rawInt c] }) rfl
 simpa using this
noncomputable abbrev NoE:Value→Shared→Prop:=fun Z Z=>False
theorem Src.after {tg:Expr→Prop} {I:Addr} {ch bs fp:List Addr} {ds:List D} {Stt:Nat→Heap→Prop} {F':Fz} {ρ':Loc} {H':Led} {s s':Shared} {i:Nat} (K:Src B A tg I ch bs fp ds F Stt) (S:St B fm ρ F H s)
  (x:Zy B fm F H ch bs) (st:Stt i s.heap) (S':St B (fm.at F H s.heap) ρ' F' H' s'):St B fm ρ' F' H' s' ∧ Zy B fm F' H' ch bs ∧ Stt i s'.heap ∧ ∀ b ∈ bs,∀ o,s.heap.get? b = some o→s'.heap.get? b = some o:=by
 have kp:∀ b o,s.heap.get? b = some o→(∀ es n,o.data ≠ .dict es n)→b ∉ fm.own→b ∉ H.map (·.1)→b ∉ Yb→s'.heap.get? b = some o:=fun b o g1 g2 h1 h2 h3=>
  (S'.keep b o (Tf g1 h1) fun q=>(lA q).elim h2 h3).exact g2
 have hF:∀ b o,s.heap.get? b = some o→F.f b = none→F'.f b = none:=fun b o g1 hf=>by
  cases q:F'.f b with
  | none=>rfl
  | some o'=>
   rcases S'.frz b o' q with e | e
   ·(replace e:=ts (show (fm.at F H s.heap).F₀.f b = F.f b from rfl) e;replace e:=ts hf e);contradiction
   ·(replace e:=ts (show (fm.at F H s.heap).h₁.get? b = s.heap.get? b from rfl) e;replace e:=ts g1 e);contradiction
 have hH:∀ b o,s.heap.get? b = some o→b ∉ H.map (·.1)→b ∉ Yb→b ∉ H'.map (·.1):=fun b o g1 h1 h2 hm=>by
  refine el12 (lM hm) fun p hp e=>?_
  rcases S'.led p hp with q | q
  ·replace q:=e ▸ q;exact (lA q).elim h1 h2
  ·(replace q:=e ▸ q;replace q:=ts (show (fm.at F H s.heap).h₁.get? b = s.heap.get? b from rfl) q;replace q:=ts g1 q);contradiction
 refine ⟨S.back S',⟨fun b hb=>?_,fun b hb=>?_⟩,K.frame i _ _ st fun b hb o' e=>?_,fun b hb o' e=>?_⟩
 ·refine el34 (K.goodC i _ st b hb) fun o T vs g1 g2 g3 Z=>?_;have y:=x.1 b hb;exact ⟨hF b o g1 y.f,y.base,y.tab,hH b o g1 y.led y.tab,y.own,y.old⟩
 ·refine el12 (K.goodB i _ st b hb) fun o g1 g2=>?_;have y:=x.2 b hb;exact ⟨hF b o g1 y.f,y.base,y.tab,hH b o g1 y.led y.tab,y.own⟩
 ·rcases K.fpF b hb with h | h | h
  ·refine el34 (K.goodC i _ st b h) fun o T vs g1 g2 g3 g4=>?_;have y:=x.1 b h;replace g1:=ts e g1;obtain rfl:=oi g1;exact kp b o' e (fun Z Z q=>by replace q:=ts g4 q;contradiction) y.own y.led y.tab
  ·refine el12 (K.goodB i _ st b h) fun o g1 g2=>?_;have y:=x.2 b h;replace g1:=ts e g1;obtain rfl:=oi g1;exact kp b o' e g2 y.own y.led y.tab
  ·cases q:F.f b with
   | none=>exact absurd q h
   | some ob=>
    have e1:=S.froz b ob q;replace e1:=ts e e1;obtain rfl:=oi e1;exact S'.froz b o' (S'.sub.f b o' q)
 ·refine el12 (K.goodB i _ st b hb) fun o g1 g2=>?_;have y:=x.2 b hb;replace g1:=ts e g1;obtain rfl:=oi g1;exact kp b o' e g2 y.own y.led y.tab
theorem St.drawn {ch bs:List Addr} {s:Shared} {h':Heap} {tk:Nat} {nu:Nu} (S:St B fm ρ F H s) (x:Zy B fm F H ch bs) (hc:∀ b ∈ ch,∃ o T vs,s.heap.get? b = some o ∧ o.cls = .type T ∧ T ≠ "frame" ∧ o.data = .fields vs)
  (hb:∀ b ∈ bs,∃ o,s.heap.get? b = some o ∧ ∀ es n,o.data ≠ .dict es n)
  (k:∀ b o,b ∉ ch→s.heap.get? b = some o→h'.get? b = some o) (hn:nu.at s h' tk) (ht:s.toks ≤ tk) :
  F.le (F.opt nu) ∧ St B fm ρ (F.opt nu) H { s with heap:=h',toks:=tk } ∧ Zy B fm (F.opt nu) H ch bs:=by
 refine Jcy (S.opt hn) fun le nw ns Z ng=>?_;refine ⟨le,S.jd9 x.1 (fun b hb=>let ⟨o,_,vs,e,_,_,d⟩:=hc b hb;⟨o,vs,e,d⟩) k hn ht,fun b hb'=>?_,fun b hb'=>?_⟩
 ·refine el32 (hc b hb') fun o Z Z e Z=>?_;have y:=x.1 b hb';exact ⟨ns b (by refine rwb e ?_;exact some_ne_none _) y.f,y.base,y.tab,y.led,y.own,y.old⟩
 ·refine el12 (hb b hb') fun o e Z=>?_;have y:=x.2 b hb';exact ⟨ns b (by refine rwb e ?_;exact some_ne_none _) y.f,y.base,y.tab,y.led,y.own⟩
theorem St.Mb {ch bs:List Addr} {s:Shared} (S:St B fm ρ F H s) (x:Zy B fm F H ch bs) (C:Cx A fm sc cn n):∀ a,A.handled = some (.ref a)→a ∉ ch:=fun a e hm=>by
 rcases C.hd with q | ⟨y,o,vs,q,h1,_⟩
 ·replace q:=ts e q;contradiction
 ·replace q:=ts e q;cases q;have:=(x.1 _ hm).f;replace this:=ts (S.sub.f _ _ h1) this;contradiction
noncomputable def Y7 (B:Base) (A:Around) (fm:Fm) (ρ:Loc) (H:Led) (iter target:Expr) (P:List D→Led→Led→Prop) (E:Value→Shared→Prop):Prop:=
 ∀ F s,St B fm ρ F H s→wpAny B.M A (eval iter fm.env) (fun v s1=>∀ (E':Value→Shared→Prop) (Q:Value→Shared→Prop),
  (∀ F1 s2 tg I ch bs fp ds Stt ext H2,F.le F1→tg target→St B fm ρ F1 H2 s2→Zy B fm F1 H2 ch bs→Src B A tg I ch bs fp ds F1 Stt→Stt 0 s2.heap→P ds ext H2 →
   (∀ ρ' F' H' s'' H'',St B fm ρ' F' H' s''→Zy B fm F' H' ch bs→F1.le F'→(∀ b ∈ bs,∀ o,s2.heap.get? b = some o→s''.heap.get? b = some o)→H''.Perm (ext ++ H')→St B fm ρ' F' H'' s'')→Q (.ref I) s2)→wpAny B.M A (pyIter v) Q E' s1) E s
inductive Jd0 (B:Base) (A:Around) (fm:Fm) (ρ:Loc) (P:List D→Led→Led→Prop) (d:D) (H:Led):Prop
 | mk (ds:List D) (one:Bool) (ext H2:Led) (it:Jn B A fm ρ H d ds one ext H2) (p:P ds ext H2)
theorem Y7.of {iter target:Expr} {P:List D→Led→Led→Prop} (h:EvE B A fm ρ H iter (Jd0 B A fm ρ P) E):Y7 B A fm ρ H iter target P E:=fun F s S=>
 wpAny_mono (h F s S) (fun v s1 y E' Q hQ=>y.elim fun F1 d H1 zqq l r S1=>zqq.rec fun ds one ext H2 it p=>it F1 s1 v _ _ S1 r fun s2 I ch bs fp Stt S2 Z hb K st Z back=>hQ F1 s2 _ I ch bs fp ds Stt ext H2 l trivial S2 hb K st p back) fun Z Z x=>x
inductive Je0 (B:Base) (A:Around) (fm:Fm) (sc:Scope) (cn:List Str) (n:Nat) (ρ:Loc) (target:Expr) (body orelse:List Stmt) (Inv:List D→Nat→Loc→Led→Prop) (N:Loc→Led→Prop) (R:D→Led→Prop) (E:Value→Shared→Prop) (ds:List D) (ext H2:Led):Prop
 | mk (wr:Led→Led) (w:∀ H',(wr H').Perm (ext ++ H')) (i0:Inv ds 0 ρ H2)
   (turn:∀ fm' i d' ρ1 H1,Cx A fm' sc cn n→ds[i]? = some d'→Inv ds i ρ1 H1→Asg B A fm' ρ1 H1 target d' (fun ρ2 H2=>ExS B A fm' ρ2 H2 body (Inv ds (i + 1)) (fun d H=>R d (wr H)) NoE) NoE)
   (done:∀ ρ1 H1,Inv ds ds.length ρ1 H1→ExS B A fm ρ1 (wr H1) orelse N R (notedBy B.M A fm.env (cameBackBy B.M A fm.env E)))
inductive Jez (B:Base) (A:Around) (fm:Fm) (sc:Scope) (cn:List Str) (n:Nat) (ρ:Loc) (target:Expr) (body orelse:List Stmt) (Inv:List D→Nat→Loc→Led→Prop) (N:Loc→Led→Prop) (R:D→Led→Prop) (E:Value→Shared→Prop) (d:D) (H:Led):Prop
 | mk (ds:List D) (one:Bool) (it:Jn B A fm ρ H d ds one [] H) (i0:Inv ds 0 ρ H)
   (turn:∀ fm' i d' ρ1 H1,Cx A fm' sc cn n→ds[i]? = some d'→Inv ds i ρ1 H1→Asg B A fm' ρ1 H1 target d' (fun ρ2 H2=>ExS B A fm' ρ2 H2 body (Inv ds (i + 1)) R NoE) NoE)
   (done:∀ ρ1 H1,Inv ds ds.length ρ1 H1→ExS B A fm ρ1 H1 orelse N R (notedBy B.M A fm.env (cameBackBy B.M A fm.env E)))
theorem S1.Nf {target iter body orelse pos} (Inv:List D→Nat→Loc→Led→Prop) (C:Cx A fm sc cn n)
  (h:Y7 B A fm ρ H iter target (Je0 B A fm sc cn n ρ target body orelse Inv N R E) E)
  (hs:autoParam (∀ env x,foldedSetIterable iter env x = pure x) aI):Ex1 B A fm ρ H (.For target iter body orelse pos) N R E:=by
 revert C h hs;revert B A fm sc cn n ρ H E N R target iter body orelse pos Inv;refine no_implicit_lambda% (G17 (h:=?_));refine (?_:A17 _) _ _ _ _ _ _ _ _ _ _ _ _ _ _ _ _ _;intro B A fm sc cn n ρ H E N R target iter body orelse pos Inv C h hs;refine no_implicit_lambda% (G2 (h:=?_));refine (?_:A2 _) _ _;exact fun F s S=>by
  refine wpAny_For (wpAny_mono (h F s S) (fun v s1 it=>?_) fun Z Z x=>x) (hs _);refine it _ _ fun F1 s2 tg I ch bs fp ds Stt ext H2 l htg S2 hb K st z back=>z.rec fun wr hwr i0 turn done=>?_;refine codeAny_mono (R:=fun r s'=>match r with | .ok f=>Vx B fm F N R f s' | .error e=>cameBackBy B.M A fm.env E e s') ?_ fun Z Z x=>x;refine codeAny_forLoop_any (fun k s'=>∃ i F' ρ' H',k = ds.length - i ∧ i ≤ ds.length ∧ F1.le F' ∧ Inv ds i ρ' H' ∧ St B fm ρ' F' H' s' ∧ Zy B fm F' H' ch bs ∧ Stt i s'.heap ∧ ∀ b ∈ bs,∀ o,s2.heap.get? b = some o→s'.heap.get? b = some o) ?_ ds.length
   ⟨0,F1,ρ,H2,rfl,Nat.zero_le _,Fz.le.refl _,i0,S2,hb,st,fun Z Z Z e=>e⟩
  rintro k s3 ⟨i,F3,ρ3,H3,rfl,hi,l3,inv,S3,hb3,st3,bk3⟩;have K3:=K.le l3;refine (Classical.em (i < ds.length)).elim (fun hlt=>?_) fun hlt=>?_
  ·refine wpAny_mono (K3.item i s3 target (fun v s''=>wpAny B.M A (PySem.assign target fm.env v) (fun Z s₂=>wpAny B.M A (execs body fm.env) (fun f s₃=>match f with
      | .next | .cont=>∃ m,m < ds.length - i ∧ ∃ i F' ρ' H',m = ds.length - i ∧ i ≤ ds.length ∧ F1.le F' ∧ Inv ds i ρ' H' ∧ St B fm ρ' F' H' s₃ ∧ Zy B fm F' H' ch bs ∧ Stt i s₃.heap ∧ ∀ b ∈ bs,∀ o,s2.heap.get? b = some o→s₃.heap.get? b = some o
      | .brk=>Vx B fm F N R .next s₃
      | .ret v=>Vx B fm F N R (.ret v) s₃) (notedBy B.M A fm.env (cameBackBy B.M A fm.env E)) s₂) (notedBy B.M A fm.env (cameBackBy B.M A fm.env E)) s'') _ htg hlt st3 S3.tp fun v' d' h4 tk4 nu ht4 hd' rv hn st4 k4=>?_) (fun r s' zqq=>el12 zqq fun v e y=>by refine rwb e ?_;exact y) fun Z Z x=>x
   refine V5 (S3.drawn (tk:=tk4) hb3 (K3.goodC i _ st3) (K3.goodB i _ st3) k4 hn ht4) fun l4 S4 hb4=>?_;have K4:=K3.le l4;have S5:=S4.rebase;have bk4:∀ b ∈ bs,∀ o,s2.heap.get? b = some o→h4.get? b = some o:=fun b hb o e=>k4 b o (K.apart b hb) (bk3 b hb o e);refine wpAny_mono (turn _ i d' ρ3 H3 (C.at S4.sub H3 h4) hd' inv _ _ v' S5 (rv F3 (Fz.le.refl _) (S3.opt hn).2.2.2.1)) (fun Z s6 zz=>zz.elim fun F6 ρ6 H6 b6 l6 S6=>?_) fun Z Z x=>x.elim;refine wpAny_mono (b6 F6 s6 S6) (fun fl s7 x7=>?_) fun Z Z x=>x.elim;refine x7.elim (fun F7 ρ7 H7 l7 inv7 S7=>?_) fun v7 F7 d7 H7 ρ7 l7 r7 v7' S7=>?_
   ·refine I5 (K4.after S4 hb4 st4 S7) fun a1 a2 a3 a4=>?_;exact ⟨ds.length - (i + 1),by omega,i + 1,F7,ρ7,H7,rfl,hlt,(l3.trans l4).trans (l6.trans l7),inv7,a1,a2,a3,fun b hb o e=>a4 b hb o (bk4 b hb o e)⟩
   ·refine I5 (K4.after S4 hb4 st4 S7) fun a1 a2 a3 a4=>?_;exact Vx.ret v7 F7 d7 (wr H7) ρ7 (l.trans ((l3.trans l4).trans (l6.trans l7))) r7 v7' (back _ _ _ _ _ a1 a2 ((l3.trans l4).trans (l6.trans l7)) (fun b hb o e=>a4 b hb o (bk4 b hb o e)) (hwr _))
  ·have e:i = ds.length:=by omega
   subst e;refine K3.done s3 _ _ (C.hok S3) (S3.Mb hb3 C) st3 S3.tp fun h4 tk4 ht4 k4=>?_;dsimp only;refine V5 (S3.drawn (tk:=tk4) (nu:=.no) hb3 (K3.goodC _ _ st3) (K3.goodB _ _ st3) k4 Nu.Nc ht4) fun l4 S4 hb4=>?_;have S5:=back _ _ _ _ (wr H3) S4 hb4 l3 (fun b hb o e=>k4 b o (K.apart b hb) (bk3 b hb o e)) (hwr _);exact wpAny_mono (done ρ3 H3 inv F3 _ S5) (fun fl s7 x=>x.le (l.trans l3)) fun Z Z x=>x
theorem S1.for {target iter body orelse pos} (Inv:List D→Nat→Loc→Led→Prop) (C:Cx A fm sc cn n)
  (h:EvE B A fm ρ H iter (Jez B A fm sc cn n ρ target body orelse Inv N R E) E)
  (hs:autoParam (∀ env x,foldedSetIterable iter env x = pure x) aI):Ex1 B A fm ρ H (.For target iter body orelse pos) N R E:=
 S1.Nf Inv C (Y7.of (h.mono fun d H1 y=>y.rec fun ds one a b c e=>⟨ds,one,[],H1,a,id,fun Z=>List.Perm.refl _,b,c,e⟩)) hs
theorem S1.jd3 {test body pos} (C:Cx A fm sc cn n) (Inv:Nat→Loc→Led→Prop) (k0:Nat) (h0:Inv k0 ρ H)
  (turn:∀ k ρ1 H1,Inv k ρ1 H1→EvB B A fm ρ1 H1 test (fun b H2=>if b then ExS B A fm ρ1 H2 body (fun ρ3 H3=>∃ m,m < k ∧ Inv m ρ3 H3) R NoE else N ρ1 H2) NoE):Ex1 B A fm ρ H (.While test body [] pos) N R E:=fun F s S=>by
 refine wpAny_While ?_;refine codeAny_mono (R:=fun r s'=>match r with | .ok f=>Vx B fm F N R f s' | .error e=>cameBackBy B.M A fm.env E e s') ?_ fun Z Z x=>x;refine codeAny_whileLoop (fun k s'=>∃ F' ρ' H',F.le F' ∧ Inv k ρ' H' ∧ St B fm ρ' F' H' s') ?_ k0 ⟨F,ρ,H,Fz.le.refl F,h0,S⟩;refine fun k s1 zz=>el33 zz fun F1 ρ1 H1 l1 inv S1=>?_;refine wpAny_mono (turn k ρ1 H1 inv F1 s1 S1) (fun b s2 zz=>zz.elim fun F2 H2 p l2 S2=>?_) fun Z Z x=>x.elim;cases b with
 | false=>exact wpAny_execs_nil (Uv p (l1.trans l2) S2)
 | true=>
  refine wpAny_mono (p F2 s2 S2) (fun fl s3 x=>x.elim (fun F3 ρ3 H3 l3 y S3=>el12 y fun m hm q=>⟨m,hm,F3,ρ3,H3,(l1.trans l2).trans l3,q,S3⟩) fun v F3 d H3 ρ3 l3 r vr S3=>.ret v F3 d H3 ρ3 ((l1.trans l2).trans l3) r vr S3) fun Z Z x=>x.elim
theorem FF.je4 {F F':Fz} {h h' base:Heap} (nf:∀ b o es n,h.get? b = some o→o.data = .dict es n→F.f b = none→F'.f b = none) {l:List Env} (k:∀ env ∈ l,∀ L o es n,env.frame = some L→h.get? L = some o→o.data = .dict es n→L ∉ Yb→∃ o' es' n',h'.get? L = some o' ∧ o'.data = .dict es' n') (x:FF F h base l):FF F' h' base l:=fun env he=>
 (x env he).elim fun L o es n a h1 h2 h5 h3 h4 h6=>let ⟨o',es',n',q1,q2⟩:=k env he L o es n h1 h3 h4 h5;⟨L,o',es',n',a,h1,h2,h5,q1,q2,nf L o es n h3 h4 h6⟩
theorem St.jd4 {ρ':Loc} {F':Fz} {H':Led} {s s':Shared} (X:Addr→Prop) (S:St B fm ρ F H s) (g:GS B F' H' s') (le:F.le F')
  (hX:∀ b,X b→Ih B fm F H b ∧ (∀ env ∈ fm.stack,env.frame ≠ some b))
  (kept:∀ b o,s.heap.get? b = some o→b ∉ H.map (·.1)→b ∉ Yb→b ∉ fm.own→¬ X b→Kept s'.heap b o) (live:∀ b,¬ X b→s.heap.get? b ≠ none→s'.heap.get? b ≠ none)
  (newF:∀ b o,F'.f b = some o→F.f b = some o ∨ s.heap.get? b = none) (newH:∀ p ∈ H',p.1 ∈ H.map (·.1) ∨ s.heap.get? p.1 = none)
  (bears:Bears fm ρ' F' s'.heap)
  (dict:∀ b ∈ fm.own,∀ o es n,s.heap.get? b = some o→o.data = .dict es n→∃ o' es' n',s'.heap.get? b = some o' ∧ o'.data = .dict es' n') :
  St B fm ρ' F' H' s' where
 toGS:=g
 toBears:=bears
 ok:=S.ok
 ownF:=fun a ha=>by
  refine ⟨?_,fun hm=>?_⟩
  ·cases q:F'.f a with
   | none=>rfl
   | some o=>
    rcases newF a o q with e | e
    ·replace e:=ts ((S.ownF a ha).1) e;contradiction
    ·exact absurd e (S.lives a ha)
  ·refine el12 (lM hm) fun p hp z2=>?_;subst z2
   rcases newH p hp with e | e
   ·exact (S.ownF _ ha).2 e
   ·exact absurd e (S.lives _ ha)
 keep:=fun b o e hW=>by
  refine (S.keep b o e hW).trans fun o' q=>kept b o' q (fun hm=>?_) (fun hm=>hW (S.ok.tabW b hm)) (fun hm=>?_) fun hx=>?_
  ·refine el12 (lM hm) fun p hp z2=>?_;subst z2
   rcases S.led p hp with x | x
   ·exact hW x
   ·replace x:=ts (S.ok.sub1 _ _ e) x;contradiction
  ·replace e:=ts ((S.ok.fresh b hm).2.1) e;contradiction
  ·exact absurd (hX b hx).1.old (by refine rwb (S.ok.sub1 _ _ e) ?_;exact some_ne_none _)
 led:=fun p hp=>by
  rcases newH p hp with e | e
  ·refine el12 (lM e) fun q hq e=>?_;refine rwf e ?_;exact S.led q hq
  ·exact .inr (Vk.none S.old e)
 frz:=fun b o e=>by
  rcases newF b o e with x | x
  ·exact S.frz b o x
  ·exact .inr (Vk.none S.old x)
 sub:=S.sub.trans le
 ff:=FF.je4 (D3 newF) (l:=fm.stack) (x:=S.ff) fun env he L o es n hf e hd ht=>by
  by_cases ho:L ∈ fm.own
  ·exact dict L ho o es n e hd
  ·have hH:L ∉ H.map (·.1):=fun hm=>by
    refine el12 (lM hm) fun p hp z2=>?_;subst z2;refine el22 (S.own p hp) fun vs n' q Z=>?_;replace q:=ts e q;obtain rfl:=oi q;contradiction
   refine el13 ((kept L o e hH ht ho fun hx=>(hX L hx).2 env he hf).some) fun o' q1 q2 Z=>?_;exact ⟨o',es,n,q1,by (refine rwb q2 ?_;exact rwb hd rfl)⟩
 old:=fun b hb=>live b (fun hx=>hb (hX b hx).1.old) (S.old b hb)
 lives:=fun a ha=>live a (fun hx=>(hX a hx).1.own ha) (S.lives a ha)
noncomputable def Vj (env:Env):List (Str × NameKind)→List (Str × Addr)→List (Str × Addr)
 | [],acc=>acc
 | (x,k) :: r,acc=>if k == .free then Vj env r ((x,(env.cells.lookup x).getD 0) :: acc) else Vj env r acc
theorem Rg (env:Env) (x:Str) (k:NameKind) (r:List (Str × NameKind)) (acc:List (Str × Addr)):Vj env ((x,k) :: r) acc = if k == .free then Vj env r ((x,(env.cells.lookup x).getD 0) :: acc) else Vj env r acc:=rfl
theorem Zb:∀ (names:List (Str × NameKind)) (k:Nat) (acc:List (Str × Addr)),cellsFrom k names acc = cellsFrom k names [] ++ acc:=by
 intro zs
 induction zs with
 | nil=>
  intro Z Z;exact rfl
 | cons zp r IH=>
  obtain ⟨x,kd⟩:=zp;intro k acc;unfold cellsFrom;split
  ·(refine rwb (IH (k + 1) ((x,k) :: acc)) (rwb (IH (k + 1) [(x,k)]) ?_));simp
  ·exact IH k acc
theorem D4 {scope:Scope} {outer:Env} {clo:List (Str × Addr)} {qual:Str} {globals:Addr} {s:Shared} {Q:Env→Shared→Prop}
  (h:Q { scope:=scope,locals:=s.heap.objs.size,globals:=globals,cells:=cellsFrom (s.heap.objs.size + 1) scope.names [] ++ clo,qual:=qual,func:=none,code:=outer.code,frame:=outer.frame,builtins:=outer.builtins }
   { s with heap:=pushCells (s.heap.push { cls:=.type "dict",data:=.dict #[] }) scope.names }) :
  wpAny B.M A (newFunctionEnv scope globals clo [] qual none .none (some outer)) Q E s:=by
 simp only [newFunctionEnv,Option.isSome_some,if_true];refine wpAny_bind (wpAny_alloc ?_);refine wpAny_bind (wpAny_layCells _ (fun name kind cells=>by cases hkc:kind == NameKind.cell <;> simp [hkc]) _ _ _ _ ?_);rw [Zb];have e:({ s with heap:=s.heap.push { cls:=.type "dict",data:=.dict #[] } }:Shared).heap.objs.size = s.heap.objs.size + 1:=Heap.size_push ..;refine rwb e ?_;refine wpAny_bind ?_;refine rwb forIn_nil ?_;exact wpAny_pure (wpAny_pure h)
noncomputable def Jx (sc scope:Scope):Scope:={ scope with names:=scope.names.map fun p=>(p.1,if p.2 == .free && sc.names.lookup p.1 == some .cell then .cell else p.2) }
noncomputable def Zs (sc scope:Scope):Bool:=(scope.kind == .function) && decide (scope.names.map (·.1)).Nodup && scope.names.all fun p=>p.2 != .free || sc.names.lookup p.1 == some .cell || sc.names.lookup p.1 == some .free
noncomputable def capt (scope:Scope) (ρ:Loc):Loc:=ρ.filter fun p=>scope.names.lookup p.1 == some .free
theorem Va {scope:Scope} {x:Str} {d:D}:∀ {ρ:Loc},(capt scope ρ).lookup x = some d→ρ.lookup x = some d ∧ scope.names.lookup x = some .free
 | [],h=>by simp [capt] at h
 | p :: r,h=>by
  unfold capt at h;replace h:=filter_cons ▸ h;refine rwb lookup_cons ?_
  by_cases hp:(scope.names.lookup p.1 == some .free) = true
  ·(replace h:=(if_pos hp) ▸ h;replace h:=ts lookup_cons h)
   by_cases hx:(x == p.1) = true
   ·rw [hx] at h ⊢;have e:x = p.1:=by simpa using hx
    exact ⟨h,by refine rwb e ?_;simpa using hp⟩
   ·simp only [Bool.not_eq_true] at hx;rw [hx] at h ⊢;exact Va (ρ:=r) h
  ·replace h:=(if_neg hp) ▸ h;have q:=Va (ρ:=r) h
   by_cases hx:(x == p.1) = true
   ·have e:x = p.1:=by simpa using hx
    replace q:=e ▸ q;replace hp:=q.2 ▸ hp;exact absurd rfl hp
   ·simp only [Bool.not_eq_true] at hx;refine rwb hx ?_;exact q
theorem Ya {α:Type}:∀ {l:List (Str × α)} {x:Str} {k:α},(l.map (·.1)).Nodup→(x,k) ∈ l→l.lookup x = some k
 | (y,j) :: r,x,k,nd,h=>by
  rw [map_cons,nodup_cons] at nd;rw [lookup_cons]
  rcases lC h with e | h
  ·cases e;simp
  ·have hm:=h;have:(x == y) = false:=by
    rw [beq_eq_false_iff_ne];intro e;exact nd.1 (List.mem_map.mpr ⟨(x,k),hm,e⟩)
   rw [this];exact Ya nd.2 h
theorem N0 {g:Str→NameKind→NameKind} {x:Str}:∀ l:List (Str × NameKind),(l.map fun p=>(p.1,g p.1 p.2)).lookup x = (l.lookup x).map (g x):=by
 intro zs
 induction zs with
 | nil=>
  exact rfl
 | cons p r IH=>
  refine rwb map_cons (rwb lookup_cons (rwb lookup_cons ?_))
  by_cases hx:(x == p.1) = true
  ·have e:x = p.1:=by simpa using hx
   simp only [hx,Option.map_some];exact rwb e rfl
  ·simp only [Bool.not_eq_true] at hx;simp only [hx];exact IH
theorem Ir {sc scope:Scope} {x:Str}:(Jx sc scope).names.lookup x = (scope.names.lookup x).map fun k=>if k == .free && sc.names.lookup x == some .cell then .cell else k:=
 N0 (g:=fun x k=>if k == .free && sc.names.lookup x == some .cell then .cell else k) scope.names
theorem Zm {env:Env} {x:Str}:∀ {names:List (Str × NameKind)} {acc:List (Str × Addr)},((x,NameKind.free) ∈ names→(Vj env names acc).lookup x = some ((env.cells.lookup x).getD 0)) ∧
  ((x,NameKind.free) ∉ names→(Vj env names acc).lookup x = acc.lookup x)
 | [],acc=>⟨fun h=>by simp at h,fun Z=>rfl⟩
 | (y,k) :: r,acc=>by
  rw [Rg]
  by_cases hk:(k == NameKind.free) = true
  ·have hk':k = .free:=by simpa using hk
   subst hk';refine rwb (if_pos hk) ?_;have ih:=Zm (env:=env) (x:=x) (names:=r) (acc:=(y,(env.cells.lookup y).getD 0) :: acc);refine ⟨fun h=>?_,fun h=>?_⟩
   ·by_cases hr:(x,NameKind.free) ∈ r
    ·exact ih.1 hr
    ·refine rwb (ih.2 hr) ?_
     rcases lC h with e | h
     ·cases e;simp
     ·exact absurd h hr
   ·refine rwb (ih.2 fun q=>h (.tail _ q)) (rwb lookup_cons ?_);have:(x == y) = false:=by
     rw [beq_eq_false_iff_ne];rintro rfl;exact h (.head _)
    exact rwb this rfl
  ·refine rwb (if_neg hk) ?_;have ih:=Zm (env:=env) (x:=x) (names:=r) (acc:=acc);refine ⟨fun h=>?_,fun h=>ih.2 fun q=>h (.tail _ q)⟩
   rcases lC h with e | h
   ·cases e;exact absurd rfl hk
   ·exact ih.1 h
theorem Y9:∀ {names:List (Str × NameKind)} {k:Nat} {x:Str} {c:Addr},(x,c) ∈ cellsFrom k names []→(x,NameKind.cell) ∈ names
 | [],_,_,_,h=>by simp [cellsFrom] at h
 | (y,kd) :: r,k,x,c,h=>by
  unfold cellsFrom at h;split at h
  ·rename_i hk;rw [Zb] at h
   rcases lA h with h | h
   ·exact .tail _ (Y9 h)
   ·have e:=lS h;cases e;have:kd = .cell:=by simpa using hk
    refine rwb this ?_;exact .head _
  ·exact .tail _ (Y9 h)
theorem Za:∀ {names:List (Str × NameKind)} {k:Nat} {x:Str},(x,NameKind.cell) ∈ names→∃ c,(cellsFrom k names []).lookup x = some c
 | (y,kd) :: r,k,x,h=>by
  unfold cellsFrom;split
  ·rename_i hk;rewrite [Zb];refine rwb lookup_append ?_
   rcases lC h with e | h
   ·cases e;cases q:(cellsFrom (k + 1) r []).lookup y with
    | none=>exact ⟨k,by simp⟩
    | some c=>exact ⟨c,by simp⟩
   ·refine el11 (Za (k:=k + 1) h) fun c hc=>?_;exact ⟨c,by refine rwb hc ?_;rfl⟩
  ·rename_i hk
   rcases lC h with e | h
   ·cases e;exact absurd rfl hk
   ·exact Za h
theorem X3:∀ (names:List (Str × NameKind)) (k:Nat),(cellsFrom k names []).map (·.1) = ((names.filter fun p=>p.2 == .cell).map (·.1)).reverse:=by
 intro zs
 induction zs with
 | nil=>
  intro Z;exact rfl
 | cons zp r IH=>
  obtain ⟨x,kd⟩:=zp;intro k;unfold cellsFrom;refine rwb filter_cons ?_;split
  ·rename_i hk;rewrite [Zb];refine rwb map_append (rwb (IH (k + 1)) ?_);simp
  ·exact IH k
noncomputable def Fm.comp (fm:Fm) (scope sc':Scope) (F:Fz) (H:Led) (h:Heap) (I:Addr) (clo:List (Str × Addr)) (qual:Str):Fm where
 env:={ scope:=sc',locals:=h.objs.size,globals:=fm.env.globals,cells:=cellsFrom (h.objs.size + 1) scope.names [] ++ clo,qual:=qual,func:=none,code:=fm.env.code,frame:=fm.env.frame,builtins:=fm.env.builtins }
 own:=h.objs.size :: (cellsFrom (h.objs.size + 1) scope.names []).map (·.2)
 cn:=(scope.names.filter fun p=>p.2 == .cell).map (·.1)
 h₀:=h.hide I
 h₁:=h.hide I
 F₀:=F
 W:=H.map (·.1) ++ Yb
 stack:=fm.stack
theorem St.Be {scope:Scope} {I:Addr} {s:Shared} {qual:Str} (C:Cx A fm sc cn n) (S:St B fm ρ F H s) (hb:Ih B fm F H I) (hok:Zs sc scope = true) :
  let fm':=fm.comp scope (Jx sc scope) F H s.heap I (Vj fm.env scope.names []) qual
  Cx A fm' (Jx sc scope) ((scope.names.filter fun p=>p.2 == .cell).map (·.1)) n ∧ St B fm' (capt scope ρ) F H { s with heap:=pushCells (s.heap.push { cls:=.type "dict",data:=.dict #[] }) scope.names } ∧ (fm'.h₁.get? I = none):=by
 revert C S hb hok;revert B A fm sc cn n ρ F H scope I s qual;refine no_implicit_lambda% (G13 (h:=?_));refine (?_:A13 _) _ _ _ _ _ _ _ _ _ _ _ _ _;intro B A fm sc cn n ρ F H scope I s qual C S hb hok;intro fm';simp only [Zs,Bool.and_eq_true,all_eq_true,decide_eq_true_eq] at hok;refine Yd hok fun z0 hfr=>?_;refine Yd z0 fun hk hnd=>?_;have hk':scope.kind = .function:=by simpa using hk
 have frOf:∀ x,(x,NameKind.free) ∈ scope.names→fm.env.kindOf x = some .cell ∨ fm.env.kindOf x = some .free:=fun x hx=>by
  have:=hfr _ hx;unfold Env.kindOf;refine rwb C.sc ?_
  simpa using this
 have kp:∀ b o,s.heap.get? b = some o→(pushCells (s.heap.push { cls:=.type "dict",data:=.dict #[] }) scope.names).get? b = some o:=fun b o e=>pushCells_keeps _ _ b o (Heap.get?_push_of_some _ e);have ok:=cellsFrom_ok scope.names (s.heap.push { cls:=.type "dict",data:=.dict #[] }) (s.heap.objs.size + 1) [] ⟨fun Z Z hm=>(nomatch hm),List.Pairwise.nil⟩ (by simp only [Heap.size_push];exact le_refl _);rw [Heap.size_push] at ok;have ownNew:∀ a ∈ fm'.own,s.heap.objs.size ≤ a:=fun a ha=>by
  rcases lC ha with rfl | ha
  ·exact le_refl _
  ·refine el12 (lM ha) fun p hp z2=>?_;refine rwf z2 ?_;have:=(ok.empty p.1 p.2 hp).2;lia
 have newNone:∀ a,s.heap.objs.size ≤ a→s.heap.get? a = none:=fun a ha=>by
  cases q:s.heap.get? a with
  | none=>rfl
  | some o=>exact absurd (Heap.lt_size q) (Nat.not_lt.mpr ha)
 have hideNone:∀ {a},s.heap.get? a = none→(s.heap.hide I).get? a = none:=fun {a} e=>by
  cases q:(s.heap.hide I).get? a with
  | none=>rfl
  | some o=>replace e:=ts (Heap.of_hide q) e;contradiction
 have cloLk:∀ x,(x,NameKind.free) ∈ scope.names→∃ c,fm.env.cells.lookup x = some c ∧ fm'.env.cells.lookup x = some c:=fun x hx=>by
  refine el11 (S.ok.celT x (frOf x hx)) fun c hc=>?_;refine ⟨c,hc,?_⟩;show (cellsFrom (s.heap.objs.size + 1) scope.names [] ++ Vj fm.env scope.names []).lookup x = some c;refine rwb lookup_append ?_;have h1:(cellsFrom (s.heap.objs.size + 1) scope.names []).lookup x = none:=by
   cases q:(cellsFrom (s.heap.objs.size + 1) scope.names []).lookup x with
   | none=>rfl
   | some c'=>
    have h2:=Ya hnd (Y9 (mem_of_lookup q));replace h2:=ts (Ya hnd hx) h2;contradiction
  (refine rwb h1 (rwb ((Zm).1 hx) (rwb hc ?_)));rfl
 have cellNd:((cellsFrom (s.heap.objs.size + 1) scope.names []).map (·.1)).Nodup:=by
  simp only [X3];refine (reverse_perm _).symm.nodup ?_;exact hnd.sublist (List.filter_sublist.map _)
 have cellLk:∀ x,(x,NameKind.cell) ∈ scope.names→∃ c,fm'.env.cells.lookup x = some c ∧ (x,c) ∈ cellsFrom (s.heap.objs.size + 1) scope.names []:=fun x hx=>by
  refine el11 (Za (k:=s.heap.objs.size + 1) hx) fun c hc=>?_;exact ⟨c,by show (_ ++ _:List (Str × Addr)).lookup x = _;(refine rwb lookup_append (rwb hc ?_));rfl,mem_of_lookup hc⟩
 have cnIs:∀ x,x ∈ fm'.cn→(x,NameKind.cell) ∈ scope.names:=fun x hx=>by
  refine el12 (lM hx) fun p hp z2=>?_;refine rwf z2 ?_;refine Yd (lF hp) fun h1 h2=>?_;obtain ⟨y,k⟩:=p;have:k = .cell:=by simpa using h2
  refine rwf this ?_;exact h1
 have kindC:∀ x k,scope.names.lookup x = some k→fm'.env.kindOf x = some (if k == .free && sc.names.lookup x == some .cell then .cell else k):=fun x k h=>by
  show (Jx sc scope).names.lookup x = _;(refine rwb Ir ?_;simp only [h]);rfl
 have lkAll:∀ x c,fm'.env.cells.lookup x = some c→((x,c) ∈ cellsFrom (s.heap.objs.size + 1) scope.names []) ∨ ((x,NameKind.free) ∈ scope.names ∧ fm.env.cells.lookup x = some c):=fun x c h=>by
  have h':(cellsFrom (s.heap.objs.size + 1) scope.names [] ++ Vj fm.env scope.names []).lookup x = some c:=h;replace h':=ts lookup_append h';cases q:(cellsFrom (s.heap.objs.size + 1) scope.names []).lookup x with
  | some c'=>replace h':=q ▸ h';obtain rfl:=oi h';exact .inl (mem_of_lookup q)
  | none=>
   replace h':=q ▸ h';have h'':(Vj fm.env scope.names []).lookup x = some c:=by simpa using h'
   refine (Classical.em ((x,NameKind.free) ∈ scope.names)).elim (fun hx=>?_) fun hx=>?_
   ·refine el12 (cloLk x hx) fun c' e1 e2=>?_;replace e2:=ts h e2;obtain rfl:=oi e2;exact .inr ⟨hx,e1⟩
   ·replace h'':=ts ((Zm).2 hx) h'';contradiction
 have oldLt:∀ x c,fm.env.cells.lookup x = some c→s.heap.get? c ≠ none:=fun x c h=>(S.ok.celLv x c h).elim (S.lives c) (S.old c);have oldNotI:∀ x c,fm.env.cells.lookup x = some c→c ≠ I:=fun x c h q=>by
  rcases S.ok.celLv x c h with h1 | h1
  ·exact hb.own (q ▸ h1)
  ·exact h1 (by refine rwb q ?_;exact hb.old)
 have hFm:Bb B fm':=by
  refine ⟨hk',S.ok.glob,S.ok.bi,mem_cons_self,fun x hx=>?_,fun x y c hx h1 h2=>?_,fun a ha=>?_,fun a ha=>mem_append_right _ ha,fun a ha=>?_,fun x hx=>?_,fun x c h=>?_,fun b o e=>e⟩
  ·refine el12 (cellLk x (cnIs x hx)) fun c h1 h2=>?_;refine ⟨?_,c,h1,mem_cons_of_mem _ (mem_map_of_mem h2),?_⟩
   ·refine rwb (kindC x .cell (Ya hnd (cnIs x hx))) ?_;rfl
   ·intro q;have:=(ok.empty x c h2).2;simp only [show c = s.heap.objs.size from q] at this;exact absurd this (Nat.not_succ_le_self _)
  ·refine el12 (cellLk x (cnIs x hx)) fun c' e1 e2=>?_;replace e1:=ts h1 e1;obtain rfl:=oi e1
   rcases lkAll y c h2 with h3 | ⟨_,h3⟩
   ·exact name_of_addr ok.apart e2 h3
   ·exact absurd (newNone c (by have:=(ok.empty x c e2).2;lia)) (oldLt y c h3)
  ·have e:=newNone a (ownNew a ha);exact ⟨(S.fresh e).2.1,hideNone e,(S.fresh e).2.2.1⟩
  ·rcases lC ha with rfl | ha
   ·exact .inl rfl
   ·refine el12 (lM ha) fun p hp z2=>?_;refine rwf z2 ?_;refine .inr ⟨p.1,?_,?_⟩
    ·exact List.mem_map.mpr ⟨(p.1,.cell),List.mem_filter.mpr ⟨Y9 (x:=p.1) (c:=p.2) hp,rfl⟩,rfl⟩
    ·show (_ ++ _:List (Str × Addr)).lookup p.1 = _;(refine rwb lookup_append (rwb (Ya (k:=p.2) cellNd hp) ?_));rfl
  ·have hx':(Jx sc scope).names.lookup x = some .cell ∨ (Jx sc scope).names.lookup x = some .free:=hx;rw [Ir] at hx';cases q:scope.names.lookup x with
   | none=>rw [q] at hx';rcases hx' with h | h <;> contradiction
   | some k=>
    cases k with
    | free=>refine el12 (cloLk x (mem_of_lookup q)) fun c Z h=>?_;exact ⟨c,h⟩
    | cell=>refine el12 (cellLk x (mem_of_lookup q)) fun c h Z=>?_;exact ⟨c,h⟩
    | _=>rw [q] at hx';rcases hx' with h | h <;> cases h
  ·rcases lkAll x c h with h3 | ⟨_,h3⟩
   ·exact .inl (mem_cons_of_mem _ (List.mem_map.mpr ⟨_,h3,rfl⟩))
   ·refine .inr fun q=>?_;have hc:=oldLt x c h3;cases e:s.heap.get? c with
    | none=>exact hc e
    | some o=>(replace q:=ts (show (fm'.h₁).get? c = (s.heap.hide I).get? c from rfl) q;replace q:=ts (Heap.hide_ne _ (oldNotI x c h3)) q;replace q:=ts e q);contradiction
 refine ⟨⟨C.hd.le S.sub,rfl,C.depth,C.units,C.frames,rfl⟩,?_,Heap.hide_self ..⟩
 exact {
  toGS:=S.toGS.keeps kp
  ns:=⟨fun Z=>none,(Heap.Ns.new s.heap (.type "dict")).keeps (pushCells_keeps _ _),fun x d e1 e2=>by
   refine Yd (Va e1) fun Z hf=>?_;replace e2:=ts (kindC x .free hf) e2
   split at e2 <;> contradiction⟩
  cell:=fun x d e1 Z=>by
   refine Yd (Va e1) fun h1 hf=>?_;refine el23 (S.cell x d h1 (frOf x (mem_of_lookup hf))) fun c v q1 q2 q3=>?_;refine el12 (cloLk x (mem_of_lookup hf)) fun c' e3 e4=>?_;replace e3:=ts q1 e3;obtain rfl:=oi e3;exact ⟨c,v,e4,q2.keeps kp,q3⟩
  cellAt:=fun x hx c e=>by
   refine el12 (cellLk x (cnIs x hx)) fun c' h1 h2=>?_;replace h1:=ts e h1;obtain rfl:=oi h1;exact ⟨none,(ok.empty x c h2).1⟩
  ok:=hFm
  ownF:=fun a ha=>by
   have e:=S.fresh (newNone a (ownNew a ha));exact ⟨e.1,e.2.2.2⟩
  keep:=fun b o e Z=>.inl (kp b o (Heap.of_hide e))
  led:=fun p hp=>.inl (mem_append_left _ (mem_map_of_mem hp))
  frz:=fun b o e=>.inl e
  sub:=Fz.le.refl F
  ff:=S.ff.upd (fun b o es m e hd Z=>⟨o,es,m,kp b o e,hd⟩) (D3 fun Z Z e=>.inl e)
  old:=fun b hb' q=>by
   cases e:fm'.h₁.get? b with
   | none=>exact hb' e
   | some o=>
    have:=kp b o (Heap.of_hide e);simp only [show ({ s with heap:=pushCells (s.heap.push { cls:=.type "dict",data:=.dict #[] }) scope.names }:Shared).heap.get? b = (pushCells (s.heap.push { cls:=.type "dict",data:=.dict #[] }) scope.names).get? b from rfl] at q;replace this:=ts q this;contradiction
  lives:=fun a ha=>by
   rcases lC ha with rfl | ha
   ·show (pushCells (s.heap.push { cls:=.type "dict",data:=.dict #[] }) scope.names).get? s.heap.objs.size ≠ none;refine rwb (pushCells_keeps _ _ _ _ (Heap.get?_push_size s.heap rfl)) ?_;exact some_ne_none _
   ·refine el12 (lM ha) fun p hp z2=>?_;refine rwf z2 ?_;refine el12 ((ok.empty p.1 p.2 hp).1) fun o e Z=>?_;show (pushCells (s.heap.push { cls:=.type "dict",data:=.dict #[] }) scope.names).get? p.2 ≠ none
    refine rwb e ?_;exact some_ne_none _ }
theorem Wd {env:Env} {scope:Scope} (h:∀ p ∈ scope.names,p.2 = .free→∃ c,env.cells.lookup p.1 = some c):closureFor scope env = pure (Vj env scope.names []):=by
 have key:∀ (l:List (Str × NameKind)) (acc:List (Str × Addr)),(∀ p ∈ l,p.2 = .free→∃ c,env.cells.lookup p.1 = some c) →
   (forIn l acc fun (x:Str × NameKind) r=>(match x with
    | (name,kind)=>if (kind == NameKind.free) = true then do
      let a ← cellOf env name
      pure (ForInStep.yield ((name,a) :: r))
     else pure (ForInStep.yield r):Sem (ForInStep (List (Str × Addr))))) = (pure (Vj env l acc):Sem _):=by
  intro l
  induction l with
  | nil=>intro acc Z;refine rwb forIn_nil ?_;rfl
  | cons p l ih=>
   intro acc hl;obtain ⟨x,k⟩:=p;rw [forIn_cons];rw [Rg];dsimp only
   by_cases hk:(k == NameKind.free) = true
   ·refine rwb (if_pos hk) (rwb (if_pos hk) ?_);refine el11 (hl (x,k) (.head _) (by simpa using hk)) fun c hc=>?_;have e:cellOf env x = (pure c:Sem Addr):=by unfold cellOf;exact rwb hc rfl
    refine rwb e (rwb hc ?_);exact ih _ (fun p hp=>hl p (.tail _ hp))
   ·refine rwb (if_neg hk) (rwb (if_neg hk) ?_);exact ih _ (fun p hp=>hl p (.tail _ hp))
 have:=key scope.names [] h;unfold closureFor;refine Eq.trans ?_ this;show (forIn scope.names ([]:List (Str × Addr)) _ >>= fun cs=>pure cs) = _;rw [bind_pure]
theorem Nt {env:Env} {scope:Scope} (hs:env.scope = sc) (hk:env.scope.kind = .function):relabel scope env = Jx sc scope:=by
 unfold relabel Jx Env.kindOf;rw [hs] at *;refine rwb hk ?_
 congr 1
 refine map_congr_left fun p Z=>?_;obtain ⟨x,k⟩:=p;simp only
 by_cases h:k = .free
 ·subst h;simp;split <;> rfl
 ·simp [h]
inductive Ph (B:Base) (fm:Fm) (ρ:Loc) (F:Fz) (H:Led) (s':Shared):Prop
 | mk (F':Fz) (l:F.le F') (S:St B fm ρ F' H s')
theorem Ph.elim {s':Shared} {C:Prop} (x:Ph B fm ρ F H s') (k:∀ F',F.le F'→St B fm ρ F' H s'→C):C:=x.rec k
noncomputable def Y5 (B:Base) (A:Around) (env:Env) (sc:Scope) (cn:List Str) (n:Nat) (ρ:Loc) (H:Led) (D':Addr) (t:Sem Unit) (g:List D):Prop:=
 ∀ fm out F s,fm.env = env→Cx A fm sc cn n→(out.length + g.length ≤ 2 ^ 20)→St B fm ρ F ((D',out) :: H) s→wpAny B.M A t (fun Z=>Ph B fm ρ F ((D',out ++ g) :: H)) NoE s
noncomputable def Jdu (B:Base) (A:Around) (env:Env) (sc:Scope) (cn:List Str) (n:Nat) (ρ:Loc) (H:Led) (D':Addr) (t:Sem Unit) (g:List D):List Expr→Prop
 | []=>Y5 B A env sc cn n ρ H D' t g
 | [c]=>∀ fm out,fm.env = env→Cx A fm sc cn n→EvB B A fm ρ ((D',out) :: H) c (fun b H1=>H1 = (D',out) :: H ∧ if b then Y5 B A env sc cn n ρ H D' t g else g = []) NoE
 | _=>False
theorem L2 {D':Addr} {out:List D} {d:D} {v:Value} {s:Shared} {Q:Value→Shared→Prop} {H H':Led} (x:V6 D' (out ++ [d]) out H H') (hz:out.length ≤ sizeLine) (S:St B fm ρ F H s) (r:Jd F v d)
  (h:∀ s',St B fm ρ F H' s'→Q .none s'):wpAny B.M A (call (.builtin "list.append") [.ref D',v]) Q E s:=by
 refine el22 (S.own _ x.mem) fun vs k e hr=>?_;refine wpAny_list_append_plain ⟨k,e⟩ (fun h' y hs=>el11 y fun k' e'=>h _ (S.set (tk:=s.toks) x hs ⟨vs ++ [v],k',?_,hr.append (.cons r .nil)⟩)) (by simp [hr.length];exact hz);refine rwb e' ?_;simp
theorem Y5.leaf {env:Env} {D':Addr} {elt:Expr} {f:D} (h:∀ fm out,fm.env = env→Cx A fm sc cn n→EvE B A fm ρ ((D',out) :: H) elt (Is f ((D',out) :: H)) NoE) :
  Y5 B A env sc cn n ρ H D' (do let _ ← call (.builtin "list.append") [.ref D',← eval elt env]) [f]:=fun fm out F s he C hz S=>by
 subst he;refine wpAny_bind (wpAny_mono (h fm out rfl C F s S) (fun v s1 zz=>zz.elim fun F1 d H1 y l r S1=>y.rec fun e1 e2=>?_) fun Z Z x=>x);subst e1 e2;refine wpAny_bind (L2 V6.head (le_trans (Nat.le_add_right _ _) (le_trans hz (by decide))) S1 r fun s' S'=>wpAny_pure ⟨F1,l,S'⟩)
noncomputable def emitTree (elt:Expr) (gens:List Comprehension) (scope:Scope) (pos:Pos) (k:Nat) (acc:Value) (env:Env):Sem Unit:=
 match gens[k + 1]? with
 | some g'=>do
  let x ← eval g'.iter env
  standAt g'.iter.pos
  let x ← if g'.is_async != 0 then foldedIterable g'.iter x else foldedSetIterable g'.iter env x
  let _ ← runOwn (.compStart (.ListComp elt gens scope pos) (k + 1) (← holding [x] (if g'.is_async != 0 then asyncIter x else pyIter x)) acc env) env
 | none=>do let _ ← call (.builtin "list.append") [acc,← eval elt env]
noncomputable def Wk (ifs:List Expr) (env:Env):Sem Bool:=forIn ifs true fun c r=>if r = true then do let ok ← isTrue c env (eval c env);pure (ForInStep.yield ok) else pure (ForInStep.yield r)
structure Jbw (B:Base) (fm:Fm) (F:Fz) (H:Led) (L:Addr):Prop where
 a:L ≠ fm.env.locals
 b:L ∉ fm.own
 c:F.f L = none
 d:B.h.get? L = none
 e:L ∉ Yb
 f:L ∉ H.map (·.1)
 g:fm.h₁.get? L = none
 h:∀ env ∈ fm.stack,env.frame ≠ some L
structure Jab (B:Base) (A:Around) (env:Env) (sc:Scope) (cn:List Str) (n:Nat) (ρ:Loc) (H:Led) (D':Addr) (out:List D) (t:Sem Unit) (g:List D) (ifs:List Expr) (ρ1:Loc) (H1:Led):Prop where
 a:H1 = (D',out) :: H
 b:∀ x e,ρ.lookup x = some e→ρ1.lookup x = some e
 c:Jdu B A env sc cn n ρ1 H D' t g ifs
structure Gives (B:Base) (A:Around) (sc:Scope) (n:Nat) (ρ:Loc) (H1 H2:Led) (ext:Led) (elt:Expr) (g:Comprehension) (gs:List Comprehension) (scope:Scope) (pos:Pos) (ds:List D) (gOf:D→List D):Prop where
 perm:H1.Perm (ext ++ H2)
 size:(ds.flatMap gOf).length ≤ 2 ^ 20
 turn:∀ env' D',∀ d ∈ ds,∀ fm' out,fm'.env = env'→Cx A fm' (Jx sc scope) ((scope.names.filter fun p=>p.2 == .cell).map (·.1)) n→Asg B A fm' (capt scope ρ) ((D',out) :: H2) g.target d
    (Jab B A env' (Jx sc scope) ((scope.names.filter fun p=>p.2 == .cell).map (·.1)) n (capt scope ρ) H2 D' out (emitTree elt (g :: gs) scope pos 0 (.ref D') env') (gOf d) g.ifs) NoE
inductive Qu (B:Base) (A:Around) (fm:Fm) (sc:Scope) (n:Nat) (ρ:Loc) (elt:Expr) (g:Comprehension) (gs:List Comprehension) (scope:Scope) (pos:Pos) (P:List D→Led→Prop) (d:D) (H:Led):Prop
 | mk (ds:List D) (gOf:D→List D) (ext H2:Led) (it:Jn B A fm ρ H d ds true ext H2) (G:Gives B A sc n ρ H H2 ext elt g gs scope pos ds gOf) (p:P (ds.flatMap gOf) H)
theorem Qu.mono {elt:Expr} {g:Comprehension} {gs:List Comprehension} {scope:Scope} {pos:Pos} {P P':List D→Led→Prop} (h:∀ ds H,P ds H→P' ds H) (d:D) (H:Led) (x:Qu B A fm sc n ρ elt g gs scope pos P d H):Qu B A fm sc n ρ elt g gs scope pos P' d H:=by
 cases x with
 | mk ds gOf ext H2 it G p=>exact .mk ds gOf ext H2 it G (h _ _ p)
inductive Jah (B:Base) (fm:Fm) (ρ:Loc) (F:Fz) (H:Led) (I:Addr) (bs:List Addr) (s s':Shared):Prop
 | mk (F':Fz) (l:F.le F') (hb:Zy B fm F' H [I] bs) (S:St B fm ρ F' H s') (bk:∀ b ∈ bs,∀ o,s.heap.get? b = some o→s'.heap.get? b = some o)
inductive CompI (B:Base) (fm:Fm) (ρ:Loc) (F:Fz) (H:Led) (D':Addr) (out:List D) (ds:List D) (gOf:D→List D) (I:Addr) (bs:List Addr) (Stt:Nat→Heap→Prop) (s:Shared) (j:Nat) (s':Shared):Prop
 | mk (i:Nat) (F':Fz) (e:j = ds.length - i) (hi:i ≤ ds.length) (l:F.le F') (S:St B fm ρ F' ((D',out ++ (ds.take i).flatMap gOf) :: H) s') (hb:Zy B fm F' ((D',out ++ (ds.take i).flatMap gOf) :: H) [I] bs) (st:Stt i s'.heap)
   (bk:∀ b ∈ bs,∀ o,s.heap.get? b = some o→s'.heap.get? b = some o)
theorem compTurn_any {elt:Expr} {gens:List Comprehension} {scope:Scope} {pos:Pos} {k:Nat} {it acc:Value} {env:Env} {g:Comprehension} (hg:gens[k]? = some g) (ha:∀ g ∈ gens,g.is_async = 0) :
  compTurn (.ListComp elt gens scope pos) k it acc env = (standAt g.iter.pos >>= fun Z=>pyNext it >>= fun r=>match r with
   | none=>pure (.done .next)
   | some v=>letOwnedTupleGo g.target it v >>= fun Z=>assign g.target env v >>= fun Z=>Wk g.ifs env >>= fun ok=>
    (if ok then emitTree elt gens scope pos k acc env else pure ()) >>= fun Z=>again (.compLoop (.ListComp elt gens scope pos) k it acc env)):=by
 revert hg ha;revert elt gens scope pos k it acc env g;refine no_implicit_lambda% (G9 (h:=?_));refine (?_:A9 _) _ _ _ _ _ _ _ _ _;intro elt gens scope pos k it acc env g hg ha;have h0:g.is_async = 0:=ha g (List.mem_of_getElem? hg);unfold compTurn emitTree Wk;simp only [hg,h0];cases hq:gens[k + 1]? with
 | none=>
  simp only [bind_assoc,pure_bind];refine bind_congr fun Z=>?_;show (pyNext it >>= _) = _;refine bind_congr fun r=>?_;cases r with
  | none=>rfl
  | some v=>
   refine bind_congr fun Z=>bind_congr fun Z=>bind_congr fun ok=>?_;cases ok <;> simp
 | some g'=>
  have h1:g'.is_async = 0:=ha g' (List.mem_of_getElem? hq);simp only [h1,bind_assoc,pure_bind];refine bind_congr fun Z=>?_;show (pyNext it >>= _) = _;refine bind_congr fun r=>?_;cases r with
  | none=>rfl
  | some v=>
   refine bind_congr fun Z=>bind_congr fun Z=>bind_congr fun ok=>?_;cases ok <;> simp
theorem Src.jeh {γ:Type} {I:Addr} {ch bs fp:List Addr} {ds:List D} {Stt:Nat→Heap→Prop} {target:Expr} {f:Value→Sem γ} {nn:Sem γ} {QF:γ→Shared→Prop} {i:Nat} {s:Shared} (K:Src B A (fun Z=>True) I ch bs fp ds F Stt)
  (hi:i < ds.length) (st:Stt i s.heap) (hz:s.toks ≠ 0)
  (h:∀ v d h' tk (nu:Nu),s.toks ≤ tk→ds[i]? = some d→(∀ F1:Fz,F.le F1→nu.free F1→Jd (F1.opt nu) v d)→nu.at s h' tk→Stt (i + 1) h' →
   (∀ b o,b ∉ ch→s.heap.get? b = some o→h'.get? b = some o)→wpAny B.M A (f v) QF E { s with heap:=h',toks:=tk }) :
  wpAny B.M A (pyNext (.ref I)) (fun r s'=>wpAny B.M A (match r with | none=>nn | some v=>letOwnedTupleGo target (.ref I) v >>= fun Z=>f v) QF E s') E s:=
 wpAny_mono (K.item i s target (fun v s''=>wpAny B.M A (f v) QF E s'') E trivial hi st hz h) (fun r s' z=>el12 z fun v e y=>by subst e;exact wpAny_bind y) fun Z Z x=>x
theorem Rf {elt:Expr} {gens:List Comprehension} {scope:Scope} {pos:Pos} {k:Nat} {D':Addr} {env:Env} {g:Comprehension} (hg:gens[k]? = some g) (ha:∀ g ∈ gens,g.is_async = 0) (hi:g.ifs.length ≤ 1)
  (ds:List D) (gOf:D→List D)
  (turn:∀ d ∈ ds,∀ fm out,fm.env = env→Cx A fm sc cn n→Asg B A fm ρ ((D',out) :: H) g.target d (Jab B A env sc cn n ρ H D' out (emitTree elt gens scope pos k (.ref D') env) (gOf d) g.ifs) NoE)
  {fm:Fm} {out:List D} {F:Fz} {s:Shared} {I:Addr} {bs fp:List Addr} {Stt:Nat→Heap→Prop} (he:fm.env = env) (C:Cx A fm sc cn n) (S:St B fm ρ F ((D',out) :: H) s)
  (hb:Zy B fm F ((D',out) :: H) [I] bs) (K:Src B A (fun Z=>True) I [I] bs fp ds F Stt) (st:Stt 0 s.heap) (hz:out.length + (ds.flatMap gOf).length ≤ 2 ^ 20) :
  codeAny B.M A (.compLoop (.ListComp elt gens scope pos) k (.ref I) (.ref D') env) (fun r s'=>r = .ok .next ∧ Jah B fm ρ F ((D',out ++ ds.flatMap gOf) :: H) I bs s s') s:=by
 revert hg ha hi turn he C S hb K st hz;revert B A sc cn n ρ H elt gens scope pos k D' env g ds gOf fm out F s I bs fp Stt;refine no_implicit_lambda% (G25 (h:=?_));refine (?_:A25 _) _ _ _ _ _ _ _ _ _ _ _ _ _ _ _ _ _ _ _ _ _ _ _ _ _;intro B A sc cn n ρ H elt gens scope pos k D' env g ds gOf fm out F s I bs fp Stt hg ha hi turn he C S hb K st hz;have hsum:∀ i,((ds.take i).flatMap gOf).length ≤ (ds.flatMap gOf).length:=by
  intro i;have e:(ds.flatMap gOf) = (ds.take i).flatMap gOf ++ (ds.drop i).flatMap gOf:=by (refine rwf flatMap_append ?_;rw [List.take_append_drop])
  (refine rwb e (rwb length_append ?_));lia
 refine codeAny_loop rfl (CompI B fm ρ F H D' out ds gOf I bs Stt s) ?_ ds.length
  ⟨0,F,rfl,Nat.zero_le _,Fz.le.refl _,by simpa using S,by simpa using hb,st,fun Z Z Z e=>e⟩
 refine no_implicit_lambda% (G2 (h:=?_));refine (?_:A2 _) _ _;rintro j s1 ⟨i,F1,rfl,hi',l1,S1,hb1,st1,bk1⟩;have K1:=K.le l1;refine rwb (Around.under_of_weight (A:=A) (c:=.compLoop (.ListComp elt gens scope pos) k (.ref I) (.ref D') env) (by rfl) (by rfl)) ?_;show wpAny B.M A ((compTurn (.ListComp elt gens scope pos) k (.ref I) (.ref D') env).onRaise (fun x=>do noteFrame x env;theTreesLotGoes x)) _ _ s1;refine wpAny_noted ?_;refine rwb (compTurn_any hg ha) ?_;refine wpAny_bind (wpAny_standAt (wpAny_bind ?_));refine (Classical.em (i < ds.length)).elim (fun hlt=>?_) fun hlt=>?_
 ·refine K1.jeh (target:=g.target) (f:=fun v=>PySem.assign g.target env v >>= fun Z=>Wk g.ifs env >>= fun ok=>
    (if ok then emitTree elt gens scope pos k (.ref D') env else pure ()) >>= fun Z=>again (.compLoop (.ListComp elt gens scope pos) k (.ref I) (.ref D') env)) hlt st1 S1.tp fun v d h2 tk2 nu ht2 hd rv hn st2 k2=>?_
  refine V5 (S1.drawn (tk:=tk2) hb1 (K1.goodC i _ st1) (K1.goodB i _ st1) k2 hn ht2) fun l2 S2 hb2=>?_;have K2:=K1.le l2;have rv':=rv F1 (Fz.le.refl _) (S1.opt hn).2.2.2.1;have hdm:d ∈ ds:=List.mem_of_getElem? hd;refine wpAny_bind ?_;have S3:=S2.rebase;have he3:(fm.at (F1.opt nu) ((D',out ++ (ds.take i).flatMap gOf) :: H) h2).env = env:=he;have C3:=C.at S2.sub ((D',out ++ (ds.take i).flatMap gOf) :: H) h2;have etake:out ++ (ds.take (i + 1)).flatMap gOf = (out ++ (ds.take i).flatMap gOf) ++ gOf d:=by
   have e:=lG hd;refine rwb (take_succ_eq_append_getElem e.1) (rwb e.2 (rwb flatMap_append ?_));simp
  have hlen:(out ++ (ds.take i).flatMap gOf).length + (gOf d).length ≤ 2 ^ 20:=by
   have h1:=hsum (i + 1);have h2:=congrArg List.length etake;rw [length_append,length_append] at h2;lia
  have bk2:∀ b ∈ bs,∀ o,s.heap.get? b = some o→h2.get? b = some o:=fun b hb o e=>k2 b o (K.apart b hb) (bk1 b hb o e);have T3:=turn d hdm _ (out ++ (ds.take i).flatMap gOf) he3 C3 _ _ v S3 rv';simp only [he3] at T3;refine wpAny_mono T3 (fun Z s4 zz=>zz.elim fun F4 ρ4 H4 y l4 S4=>y.rec fun e4 hsub tst=>?_) fun Z Z x=>x.elim;subst e4;have fin:∀ F5 s5,F4.le F5→∀ out',out' = out ++ (ds.take (i + 1)).flatMap gOf→St B (fm.at (F1.opt nu) ((D',out ++ (ds.take i).flatMap gOf) :: H) h2) ρ4 F5 ((D',out') :: H) s5 →
    wpAny B.M A (again (.compLoop (.ListComp elt gens scope pos) k (.ref I) (.ref D') env)) (fun fin s'=>match fin with
     | .done f=>(Except.ok f:Result) = .ok .next ∧ Jah B fm ρ F ((D',out ++ ds.flatMap gOf) :: H) I bs s s'
     | .again c'=>c' = .compLoop (.ListComp elt gens scope pos) k (.ref I) (.ref D') env ∧ ∃ m',m' < ds.length - i ∧ CompI B fm ρ F H D' out ds gOf I bs Stt s m' s')
     (notedBy B.M A env fun e s'=>(Except.error e:Result) = .ok .next ∧ Jah B fm ρ F ((D',out ++ ds.flatMap gOf) :: H) I bs s s') s5:=by
   intro F5 s5 l5 out' eo S5;subst eo;refine I5 (K2.after S2 hb2 st2 (S5.forget hsub)) fun a1 a2 a3 a4=>?_;exact wpAny_pure ⟨rfl,ds.length - (i + 1),by lia,i + 1,F5,rfl,hlt,(l1.trans l2).trans (l4.trans l5),a1,a2,a3,fun b hb o e=>a4 b hb o (bk2 b hb o e)⟩
  match hifs:g.ifs,hi,tst with
  | [],_,tst=>
   have tst:Y5 B A env sc cn n ρ4 H D' (emitTree elt gens scope pos k (.ref D') env) (gOf d):=tst;unfold Wk;refine rwb forIn_nil ?_;refine wpAny_bind (wpAny_pure (wpAny_bind ?_));refine rwb (if_pos rfl) ?_;exact wpAny_mono (tst _ _ F4 s4 he3 C3 hlen S4) (fun Z s5 zz=>zz.elim fun F5 l5 S5=>fin F5 s5 l5 _ etake.symm S5) fun Z Z x=>x.elim
  | [c],_,tst=>
   unfold Wk;refine wpAny_bind (wpAny_tests_one ?_);have t4:=tst _ _ he3 C3 F4 s4 S4;rw [he3] at t4;refine wpAny_mono t4 (fun b s5 zz=>zz.elim fun F5 H5 zqq l5 S5=>Yd zqq fun e5 p5=>?_) fun Z Z x=>x.elim;subst e5;cases b with
   | true=>
    refine wpAny_bind ?_;refine rwb (if_pos rfl) ?_;have p5:Y5 B A env sc cn n ρ4 H D' (emitTree elt gens scope pos k (.ref D') env) (gOf d):=p5;exact wpAny_mono (p5 _ _ F5 s5 he3 C3 hlen S5) (fun Z s6 zz=>zz.elim fun F6 l6 S6=>fin F6 s6 (l5.trans l6) _ etake.symm S6) fun Z Z x=>x.elim
   | false=>
    refine wpAny_bind ?_;refine rwb (if_neg Bool.false_ne_true) ?_;have p5:gOf d = []:=p5;exact wpAny_pure (fin F5 s5 l5 _ (by (refine rwb etake (rwb p5 ?_);simp only [append_nil])) S5)
 ·have e:i = ds.length:=by lia
  subst e;refine K1.done s1 _ _ (C.hok S1) (S1.Mb hb1 C) st1 S1.tp fun h2 tk2 ht2 k2=>?_;dsimp only;refine V5 (S1.drawn (tk:=tk2) (nu:=.no) hb1 (K1.goodC _ _ st1) (K1.goodB _ _ st1) k2 Nu.Nc ht2) fun l2 S2 hb2=>?_;rw [take_length] at S2 hb2;exact wpAny_pure ⟨rfl,F1,l1,hb2,S2,fun b hb o e=>k2 b o (K.apart b hb) (bk1 b hb o e)⟩
theorem Qs {elt:Expr} {gens:List Comprehension} {scope:Scope} {pos:Pos} {k:Nat} {it acc:Value} {env:Env} {g:Comprehension} {R:Result→Shared→Prop} {s:Shared} (hg:gens[k]? = some g) (ha:∀ g ∈ gens,g.is_async = 0)
  (h0:codeAny B.M A (.compLoop (.ListComp elt gens scope pos) k it acc env) R s)
  (h:wpAny B.M A (pyIter it) (fun it' s'=>codeAny B.M A (.compLoop (.ListComp elt gens scope pos) k it' acc env) R s') NoE s) :
  codeAny B.M A (.compStart (.ListComp elt gens scope pos) k it acc env) R s:=by
 have hga:=ha g (List.mem_of_getElem? hg);refine codeAny_of_tree ?_;refine rwb (Around.under_of_weight (A:=A) (c:=.compStart (.ListComp elt gens scope pos) k it acc env) (by rfl) (by rfl)) ?_;show wpAny B.M A ((compStart (.ListComp elt gens scope pos) k it acc env).onRaise (fun x=>do noteFrame x env;standAt theWindowsPlace)) _ _ s;refine wpAny_notedAt ?_;unfold compStart;have e1:((clausesOf (.ListComp elt gens scope pos))[k]?).elim false (fun g=>g.is_async != 0) = false:=by
  show (gens[k]?).elim false (fun g=>g.is_async != 0) = false;refine rwb hg ?_;simp [hga]
 have e2:(clausesOf (.ListComp elt gens scope pos))[k]? = some g:=hg;refine rwb (if_neg (by rw [e1];exact Bool.false_ne_true)) (rwb e2 ?_);refine wpAny_bind (wpAny_askSetting ?_);dsimp only;split
 ·exact wpAny_pure (And.intro rfl h0)
 ·exact wpAny_bind (wpAny_rule (wpAny_bind (wpAny_standAt (wpAny_bind (wpAny_mono h (fun it' s' h'=>wpAny_pure (And.intro rfl h')) fun Z Z x=>x.elim)))))
theorem Y5.node {elt:Expr} {gens:List Comprehension} {scope:Scope} {pos:Pos} {k:Nat} {D':Addr} {env:Env} {g:Comprehension} (hg:gens[k + 1]? = some g) (ha:∀ g ∈ gens,g.is_async = 0) (hi:g.ifs.length ≤ 1)
  (ds:List D) (gOf:D→List D) (hs:∀ env x,foldedSetIterable g.iter env x = pure x)
  (hit:∀ fm out,fm.env = env→Cx A fm sc cn n→EvE B A fm ρ ((D',out) :: H) g.iter (fun d H1=>H1 = (D',out) :: H ∧ Jn B A fm ρ ((D',out) :: H) d ds true [] ((D',out) :: H)) NoE)
  (turn:∀ d ∈ ds,∀ fm out,fm.env = env→Cx A fm sc cn n→Asg B A fm ρ ((D',out) :: H) g.target d (Jab B A env sc cn n ρ H D' out (emitTree elt gens scope pos (k + 1) (.ref D') env) (gOf d) g.ifs) NoE) :
  Y5 B A env sc cn n ρ H D' (emitTree elt gens scope pos k (.ref D') env) (ds.flatMap gOf):=by
 refine no_implicit_lambda% (G4 (h:=?_));refine (?_:A4 _) _ _ _ _;exact fun fm out F s he C hz S=>by
  have hga:=ha g (List.mem_of_getElem? hg);unfold emitTree;refine rwb hg ?_;dsimp only;have h1:=hit fm out he C F s S;replace h1:=he ▸ h1;refine wpAny_bind (wpAny_mono h1 (fun v s1 zz=>zz.elim fun F1 d H1 y l1 r1 S1=>Yd y fun e1 it=>?_) fun Z Z x=>x);subst e1;refine wpAny_bind (wpAny_standAt ?_);refine rwb hga (rwb (if_neg (by decide)) ?_);rw [hs];refine wpAny_bind (wpAny_pure ?_);refine rwb (if_neg (by decide)) ?_;refine (wpAny_bind (wpAny_holding (it F1 s1 v _ _ S1 r1 fun s2 I ch bs fp Stt S2 hI hb K st h1c back=>?_)));have:=h1c rfl;subst this;have loop:=Rf hg ha hi ds gOf turn he C S2 hb K st hz;refine wpAny_bind (wpAny_runOwn (Q:=fun Z s'=>wpAny B.M A (pure ()) (fun Z=>Ph B fm ρ F ((D',out ++ ds.flatMap gOf) :: H)) NoE s') ?_);have cs:=Qs (B:=B) (A:=A) (pos:=pos) (scope:=scope) (elt:=elt) (acc:=.ref D') (env:=env) hg ha loop (K.self 0 s2 _ _ st loop);refine codeAny_mono (show codeAny B.M A _ _ _ from cs) fun r s' zqq=>Yd zqq fun er x=>?_;subst er;obtain ⟨F',l',_,S',_⟩:=x;exact wpAny_pure ⟨F',l1.trans l',S'⟩
theorem St.ki {a:Addr} {ds:List D} {s:Shared} (S:St B fm ρ F ((a,ds) :: H) s) (ha:fm.h₁.get? a = none):∃ F',F.le F' ∧ Jd F' (.ref a) (.lst ds) ∧ St B fm ρ F' H s ∧ ∀ b,b ≠ a→F'.f b = F.f b:=by
 revert S ha;revert B fm ρ F H a ds s;refine no_implicit_lambda% (G8 (h:=?_));refine (?_:A8 _) _ _ _ _ _ _ _ _;intro B fm ρ F H a ds s S ha;obtain ⟨vs,k,e,r⟩:=S.own _ (.head _);have ap:=S.apart _ (.head _);have nd:=S.nod;rw [map_cons,nodup_cons] at nd;have le:F.le (F.put a (listOf vs.toArray k)):=Fz.Gr ap.1;have hne:∀ p ∈ H,p.1 ≠ a:=fun p hp q=>nd.1 (List.mem_map.mpr ⟨p,hp,q⟩);have other:∀ b,b ≠ a→(F.put a (listOf vs.toArray k)).f b = F.f b:=fun b q=>Fz.put_ne q;refine ⟨F.put a (listOf vs.toArray k),le,.lst (Fz.put_self ..) (r.mono le),?_,other⟩
 exact {
  tp:=S.tp
  tg:=S.tg
  same:=S.same
  base:=S.base
  froz:=fun b o q=>by rcases Fz.yp q with q | ⟨rfl,rfl⟩;exact S.froz b o q;exact e
  own:=fun p hp=>(S.own p (.tail _ hp)).mono le fun o e=>e
  nod:=nd.2
  apart:=fun p hp=>⟨by rw [other _ (hne p hp)];exact (S.apart p (.tail _ hp)).1,(S.apart p (.tail _ hp)).2⟩
  tab:=fun q hq=>(S.tab q hq).mono le fun o e=>e
  bk:=S.bk
  tabF:=fun b hb=>⟨by rw [other b fun q=>ap.2.2 (q ▸ hb)];exact (S.tabF b hb).1,(S.tabF b hb).2⟩
  toBears:=S.toBears.kept le fun b o Z e Z Z=>.inl e
  ok:=S.ok
  ownF:=fun b hb=>⟨by rw [other b fun q=>(S.ownF b hb).2 (by rw [q];exact .head _)];exact (S.ownF b hb).1,fun hm=>(S.ownF b hb).2 (.tail _ hm)⟩
  keep:=S.keep
  led:=fun p hp=>S.led p (.tail _ hp)
  frz:=fun b o q=>by rcases Fz.yp q with q | ⟨rfl,rfl⟩;exact S.frz b o q;exact .inr ha
  sub:=S.sub.trans le
  ff:=S.ff.upd (fun b o es n e hd Z=>⟨o,es,n,e,hd⟩) fun b o es n eb hd hf=>by
   rw [other b fun q=>by rw [q,e] at eb;cases eb;cases hd];exact hf
  old:=S.old
  lives:=S.lives }
theorem FF.not {F:Fz} {h base:Heap} {b:Addr} {o:Obj} {vs:Array Value} (e:h.get? b = some o) (hd:o.data = .fields vs) {l:List Env} (x:FF F h base l) (env:Env) (hm:env ∈ l):env.frame ≠ some b:=fun q=>
 (x env hm).elim fun L o' es n Z h1 Z Z h3 h4 Z=>by
  replace q:=ts h1 q;obtain rfl:=oi q;replace h3:=ts e h3;obtain rfl:=oi h3;replace h4:=ts hd h4;contradiction
theorem L0 {elt:Expr} {g:Comprehension} {gs:List Comprehension} {scope:Scope} {pos:Pos} {use:Option (Value→Sem Unit)} {p:Pos} (C:Cx A fm sc cn n) (hok:Zs sc scope = true)
  (ha:∀ g' ∈ g :: gs,g'.is_async = 0) (hi:g.ifs.length ≤ 1) (hs:∀ env x,foldedSetIterable g.iter env x = pure x) {Q:Value→Shared→Prop} {s:Shared} (S:St B fm ρ F H s)
  (h:EvE B A fm ρ H g.iter (Qu B A fm sc n ρ elt g gs scope pos (fun es H1=>∀ D' L' F' s',F.le F'→fm.h₁.get? D' = none→St B fm ρ F' ((D',es) :: H1) s'→(∃ m,s'.heap.Ns L' m)→Jbw B fm F' ((D',es) :: H1) L' →
    (match use with
    | none=>∀ h',Heap.SameBut L' s'.heap h'→Q (.ref D') { s' with heap:=h' }
    | some u=>wpAny B.M A (u (.ref D')) (fun Z s''=>∃ m,s''.heap.Ns L' m ∧ ∀ h',Heap.SameBut L' s''.heap h'→Q .none { s'' with heap:=h' }) E s'))) E) :
  wpAny B.M A (comprehension (.ListComp elt (g :: gs) scope pos) scope fm.env p (newList []) false (eval g.iter fm.env) use) Q E s:=by
 revert C hok ha hi hs S h;revert B A fm sc cn n ρ F H E elt g gs scope pos use p Q s;refine no_implicit_lambda% (G19 (h:=?_));refine (?_:A19 _) _ _ _ _ _ _ _ _ _ _ _ _ _ _ _ _ _ _ _;intro B A fm sc cn n ρ F H E elt g gs scope pos use p Q s C hok ha hi hs S h;have hfr:∀ q ∈ scope.names,q.2 = .free→∃ c,fm.env.cells.lookup q.1 = some c:=fun q hq hf=>by
  simp only [Zs,Bool.and_eq_true,all_eq_true,decide_eq_true_eq] at hok;have:=hok.2 q hq;rw [hf] at this;refine S.ok.celT q.1 ?_;unfold Env.kindOf;refine rwb C.sc ?_
  simpa using this
 have hnd:(scope.names.map (·.1)).Nodup:=by
  simp only [Zs,Bool.and_eq_true,decide_eq_true_eq] at hok;exact hok.1.2
 have hkd:scope.kind = .function:=by
  simp only [Zs,Bool.and_eq_true,decide_eq_true_eq] at hok;simpa using hok.1.1
 refine wpAny_comprehension_free (g:=g) (gs:=gs) rfl (hs _) (Wd hfr) hkd (fun x hx hl=>Ya hnd (by obtain ⟨a,b⟩:=x;refine rwf hl ?_;exact hx)) ?_;refine wpAny_mono (h F s S) (fun v s1 zz=>zz.elim fun F1 d H1 h1 l1 r1 S1=>?_) fun Z Z x=>x;obtain ⟨ds,gOf,ext,H2,it,⟨hp,hz,turn⟩,done⟩:=h1;refine it F1 s1 v _ _ S1 r1 fun s2 I ch bs fp Stt S2 hI hb K st h1c back=>?_;have:=h1c rfl;subst this;have hIb:=hb.1 I (mem_singleton_self _);refine wpAny_newList ?_ (by simp);have hD1:fm.h₁.get? s2.heap.objs.size = none:=Vk.none S2.old (Je _);have S3:St B fm ρ F1 ((s2.heap.objs.size,[]) :: H2) { s2 with heap:=s2.heap.push { cls:=.type "list",data:=.seq ([]:List Value).toArray } }:=
  S2.addL (tk:=s2.toks) (fun b o e=>Heap.get?_push_of_some _ e) (Je _) ⟨[],0,Heap.get?_push_size _ rfl,.nil⟩
 refine el34 (K.goodC 0 _ st I (mem_singleton_self _)) fun oI TI vI i1 i2 i3 i4=>?_;have hID:I ≠ s2.heap.objs.size:=ne_of_lt (Heap.lt_size i1);have hb3:Ih B fm F1 ((s2.heap.objs.size,[]) :: H2) I:=⟨hIb.f,hIb.base,hIb.tab,fun hm=>by rcases lC hm with q | q;exact hID q;exact hIb.led q,hIb.own,hIb.old⟩;have st3:Stt 0 (s2.heap.push { cls:=.type "list",data:=.seq ([]:List Value).toArray }):=K.frame 0 _ _ st fun b Z o e=>Heap.get?_push_of_some _ e;have bk3:∀ b o,s2.heap.get? b = some o→(s2.heap.push { cls:=.type "list",data:=.seq ([]:List Value).toArray }).get? b = some o:=fun b o e=>Heap.get?_push_of_some _ e;generalize hs3:({ s2 with heap:=s2.heap.push { cls:=.type "list",data:=.seq ([]:List Value).toArray } }:Shared) = s3 at S3;have st3':Stt 0 s3.heap:=by refine rwf hs3 ?_;exact st3
 have bk3':∀ b o,s2.heap.get? b = some o→s3.heap.get? b = some o:=by refine rwf hs3 ?_;exact bk3
 refine D4 ?_;refine V5 (S3.Be (scope:=scope) (qual:=fm.env.qual) C hb3 hok) fun C' S4 hI4=>?_;have hL:∀ b o,s3.heap.get? b = some o→b ≠ s3.heap.objs.size:=fun b o e=>ne_of_lt (Heap.lt_size e);have i1':s3.heap.get? I = some oI:=bk3' _ _ i1;have bk4:∀ b o,s3.heap.get? b = some o→(pushCells (s3.heap.push { cls:=.type "dict",data:=.dict #[] }) scope.names).get? b = some o:=fun b o e=>pushCells_keeps _ _ b o (Heap.get?_push_of_some _ e);have st4:Stt 0 (pushCells (s3.heap.push { cls:=.type "dict",data:=.dict #[] }) scope.names):=K.frame 0 _ _ st3' fun b Z o e=>bk4 b o e;have ok:=cellsFrom_ok scope.names (s3.heap.push { cls:=.type "dict",data:=.dict #[] }) (s3.heap.objs.size + 1) [] ⟨fun Z Z hm=>(nomatch hm),List.Pairwise.nil⟩ (by simp only [Heap.size_push];exact le_refl _);rw [Heap.size_push] at ok;have notOwn:∀ b o,s3.heap.get? b = some o→b ∉ s3.heap.objs.size :: (cellsFrom (s3.heap.objs.size + 1) scope.names []).map (·.2):=fun b o e hm=>by
  have hlt:=Heap.lt_size e
  rcases lC hm with q | hm
  ·exact hL _ _ e q
  ·refine el12 (lM hm) fun pp hp z2=>?_;subst z2;have:=(ok.empty pp.1 pp.2 hp).2;exact Nat.lt_irrefl _ (Nat.lt_of_lt_of_le hlt (Nat.le_of_succ_le this))
 have hb4:Zy B (fm.comp scope (Jx sc scope) F1 ((s2.heap.objs.size,[]) :: H2) s3.heap I (Vj fm.env scope.names []) fm.env.qual) F1 ((s2.heap.objs.size,[]) :: H2) [I] bs:=
  ⟨fun b hm=>by simp only [lS hm];exact ⟨hb3.f,hb3.base,hb3.tab,hb3.led,notOwn _ _ i1',hI4⟩,fun b hm=>by
   refine el12 (K.goodB 0 _ st b hm) fun o g1 Z=>?_;have y:=hb.2 b hm
   exact ⟨y.f,y.base,y.tab,fun hm=>by rcases lC hm with q | q;exact ne_of_lt (Heap.lt_size g1) q;exact y.led q,notOwn _ _ (bk3' _ _ g1)⟩⟩
 have hrel:relabel scope fm.env = Jx sc scope:=Nt C.sc S.ok.kind;simp only [hrel];have loop:=Rf (gens:=g :: gs) (elt:=elt) (scope:=scope) (pos:=pos) (k:=0) rfl ha hi ds gOf (turn _ _) rfl C' S4 hb4 K st4 (by simpa using hz);have cs:=Qs (B:=B) (A:=A) (pos:=pos) (scope:=scope) (elt:=elt) (acc:=.ref s2.heap.objs.size) (env:=(fm.comp scope (Jx sc scope) F1 ((s2.heap.objs.size,[]) :: H2) s3.heap I (Vj fm.env scope.names []) fm.env.qual).env) (k:=0) (gens:=g :: gs) rfl ha loop (K.self 0 _ _ _ st4 loop);refine codeAny_mono cs fun r s5 z=>Yd z fun er x=>?_;refine rwb er ?_;obtain ⟨F5,l5,as5,S5,bk5⟩:=x;simp only [nil_append] at S5 as5;have fI:F5.f I = none:=(as5.1 I (mem_singleton_self _)).f;have kpt:∀ b o,s3.heap.get? b = some o→b ∉ (((s2.heap.objs.size,[]) :: H2:Led).map (·.1))→b ∉ Yb→b ≠ I→Kept s5.heap b o:=fun b o e h1 h2 h3=>
  S5.keep b o (by show (s3.heap.hide I).get? b = some o;refine rwb (Heap.hide_ne _ h3) ?_;exact e) fun q=>(lA q).elim h1 h2
 have nI:∀ b o,s3.heap.get? b = some o→(∀ vs,o.data ≠ .fields vs)→b ≠ I:=fun b o e hn q=>by (replace e:=q ▸ e;replace e:=ts i1' e);obtain rfl:=oi e;exact hn _ i4
 have S6:St B fm ρ F5 ((s2.heap.objs.size,ds.flatMap gOf) :: H2) s5:=by
  refine St.jd4 (· = I) S3 S5.toGS S5.sub (fun b q=>by refine rwb q ?_;exact ⟨hb3,FF.not i1' i4 S3.ff⟩) (fun b o e h1 h2 h3 hx=>kpt b o e h1 h2 hx) (fun b hx hb'=>?_) (fun b o e=>?_) (fun p hp=>.inl ?_) ?_ fun b hbo o es m e hd=>?_
  ·refine S5.old b fun q=>hb' ?_;have:(s3.heap.hide I).get? b = none:=q
   rwa [Heap.hide_ne _ hx] at this
  ·rcases S5.frz b o e with q | q
   ·exact .inl q
   ·refine (Classical.em (b = I)).elim (fun hx=>?_) fun hx=>?_
    ·subst hx;replace e:=ts fI e;contradiction
    ·right
     have:(s3.heap.hide I).get? b = none:=q
     rwa [Heap.hide_ne _ hx] at this
  ·rcases lC hp with rfl | hp
   ·exact .head _
   ·exact .tail _ (mem_map_of_mem hp)
  ·refine S3.toBears.kept S5.sub fun b o Z e n1 n2=>kpt b o e (fun hm=>?_) (fun hm=>?_) (nI b o e n2)
   ·obtain ⟨pp,hp,rfl⟩:=lM hm;refine el22 (S3.own _ hp) fun vs m a1 Z=>?_;replace a1:=ts e a1;obtain rfl:=oi a1;exact n1 _ _ rfl
   ·refine el12 (Vd hm) fun q hq z2=>?_;subst z2;obtain ⟨ps,a1⟩:=(S3.tab q hq).there;replace a1:=ts e a1;obtain rfl:=oi a1;exact n2 _ rfl
  ·refine el13 ((kpt b o e (S3.ownF b hbo).2 (S3.ok.fresh b hbo).2.2 (nI b o e fun vs q=>by replace q:=ts hd q;contradiction)).some) fun o' q1 q2 Z=>?_;exact ⟨o',es,m,q1,by (refine rwb q2 ?_;exact hd)⟩
 have as6:Zy B fm F5 ((s2.heap.objs.size,ds.flatMap gOf) :: H2) [I] bs:=⟨fun b hm=>by
   simp only [lS hm];exact ⟨fI,hb3.base,hb3.tab,(as5.1 I (mem_singleton_self _)).led,hb3.own,hb3.old⟩,fun b hm=>by
   have y:=as5.2 b hm
   exact ⟨y.f,y.base,y.tab,y.led,(hb.2 b hm).own⟩⟩
 have S7:=back ρ F5 _ s5 ((s2.heap.objs.size,ds.flatMap gOf) :: H1) S6 as6 S5.sub (fun b hm o e=>bk5 b hm o (bk4 b o (bk3' b o e))) ((hp.cons _).trans List.perm_middle.symm);have hLn:s3.heap.get? s3.heap.objs.size = none:=Je _;have hl5:=S5.ok.ownL;have nsL:∃ m,s5.heap.Ns s3.heap.objs.size m:=let ⟨m,hm,_⟩:=S5.ns;⟨m,hm⟩
 have notLed:s3.heap.objs.size ∉ (((s2.heap.objs.size,ds.flatMap gOf) :: H1:Led).map (·.1)):=by
  intro hm;refine el12 (lM hm) fun pp hpp e=>?_;refine el22 (S7.own pp hpp) fun vs m a1 Z=>?_;refine el43 nsL fun m' o es ep a2 a3 Z=>?_;rw [e,a2] at a1;have a4:=congrArg Obj.data (oi a1);replace a4:=ts a3 a4;contradiction
 have fin:=done s2.heap.objs.size s3.heap.objs.size F5 s5 (l1.trans S5.sub) hD1 S7 nsL
  ⟨fun q=>S3.lives _ S3.ok.ownL (q ▸ hLn),fun q=>S3.lives _ q hLn,(S5.ownF _ hl5).1,(S5.ok.fresh _ hl5).1,(S5.ok.fresh _ hl5).2.2,notLed,Vk.none S3.old hLn,fun env he q=>(S3.ff env he).elim fun L o' es n Z h1 Z Z h3 Z Z=>by
   replace q:=ts h1 q;obtain rfl:=oi q;replace h3:=ts hLn h3;contradiction⟩
 cases use with
 | none=>exact ⟨(S5.ns).choose,(S5.ns).choose_spec.1,fun h' hs'=>fin h' hs'⟩
 | some u=>exact fin
theorem St.jb3 {s:Shared} {h':Heap} {L:Addr} (S:St B fm ρ F H s) (j:Jbw B fm F H L) (k:Heap.SameBut L s.heap h'):St B fm ρ F H { s with heap:=h' }:=by
 obtain ⟨j1,j2,j3,j4,j5,j6,j7,j8⟩:=j;have lv:∀ b,b ≠ L→s.heap.get? b ≠ none→h'.get? b ≠ none:=fun b hb e q=>by
  cases e2:s.heap.get? b with
  | none=>exact e e2
  | some o=>replace q:=ts (k.extBut b o hb e2) q;contradiction
 refine St.jd4 (· = L) S (S.toGS.kg (tk:=s.toks) k j4 j3 j6 j5) (Fz.le.refl F) (fun b q=>by subst q;exact ⟨⟨j3,j4,j5,j6,j2,j7⟩,j8⟩) (fun b o e Z Z Z hx=>.inl (k.extBut b o hx e)) (fun b hx e=>lv b hx e)
  (fun b o e=>.inl e) (fun p hp=>.inl (mem_map_of_mem hp)) ?_ fun b hb o es m e hd=>⟨o,es,m,k.extBut b o (fun q=>j2 (q ▸ hb)) e,hd⟩
 refine S.toBears.kept (Fz.le.refl F) fun b o pl e Z Z=>.inl (k.extBut b o (fun q=>?_) e)
 rcases pl with q2 | ⟨x,q2⟩
 ·exact j1 (q ▸ q2)
 ·rcases S.ok.celLv x b q2 with h | h
  ·exact j2 (q ▸ h)
  ·exact h (by refine rwb q ?_;exact j7)
theorem Av {elt:Expr} {g:Comprehension} {gs:List Comprehension} {scope:Scope} {pos:Pos} {env:Env} (ha:∀ g' ∈ g :: gs,g'.is_async = 0) :
  eval (.ListComp elt (g :: gs) scope pos) env = comprehension (.ListComp elt (g :: gs) scope pos) scope env (firstIterPos (g :: gs) pos) (newList []) false (eval g.iter env):=by
 rw [eval_ListComp];have h:=ha g (.head _);obtain ⟨t,it,ifs,a⟩:=g;simp only at h;subst h;rfl
theorem Ct {elt:Expr} {g:Comprehension} {gs:List Comprehension} {scope:Scope} {pos:Pos} {env:Env} {u:Value→Sem Unit} (ha:∀ g' ∈ g :: gs,g'.is_async = 0) :
  evalThenUse (.ListComp elt (g :: gs) scope pos) env u = (do let _ ← comprehension (.ListComp elt (g :: gs) scope pos) scope env (firstIterPos (g :: gs) pos) (newList []) false (eval g.iter env) (some u)):=by
 have h:=ha g (.head _);obtain ⟨t,it,ifs,a⟩:=g;simp only at h;subst h;rfl
theorem EvE.comp {elt:Expr} {g:Comprehension} {gs:List Comprehension} {scope:Scope} {pos:Pos} (C:Cx A fm sc cn n) (hok:Zs sc scope = true)
  (ha:∀ g' ∈ g :: gs,g'.is_async = 0) (hi:g.ifs.length ≤ 1)
  (h:EvE B A fm ρ H g.iter (Qu B A fm sc n ρ elt g gs scope pos (fun es H1=>P (.lst es) H1)) E) (hs:autoParam (∀ env x,foldedSetIterable g.iter env x = pure x) aI):EvE B A fm ρ H (.ListComp elt (g :: gs) scope pos) P E:=fun F s S=>by
 refine rwb (Av ha) ?_;refine L0 (use:=Option.none) C hok ha hi hs S (h.mono (Qu.mono fun es H1 hP D' L' F' s' l hD S' Z j h' hs'=>?_));refine el14 ((S'.jb3 j hs').ki hD) fun F2 l2 r2 S2 Z=>?_;exact ⟨F2,.lst _,_,hP,l.trans l2,r2,S2⟩
theorem S1.Om {x:Str} {p:Pos} {stpos:Pos} {elt:Expr} {g:Comprehension} {gs:List Comprehension} {scope:Scope} {pos:Pos} (C:Cx A fm sc cn n) (hk:Jj sc cn x = true) (hok:Zs sc scope = true)
  (ha:∀ g' ∈ g :: gs,g'.is_async = 0) (hi:g.ifs.length ≤ 1)
  (hw:swapsWith (.ListComp elt (g :: gs) scope pos) (some (.Name x p)) stpos.line (Ls sc) = pure true)
  (h:EvE B A fm ρ H g.iter (Qu B A fm sc n ρ elt g gs scope pos (fun es H1=>N (put x (.lst es) ρ) H1)) E) (hs:autoParam (∀ env x,foldedSetIterable g.iter env x = pure x) aI):Ex1 B A fm ρ H (.Assign [.Name x p] (.ListComp elt (g :: gs) scope pos) stpos) N R E:=fun F s S=>by
 have hw':swapsWith (.ListComp elt (g :: gs) scope pos) (some (.Name x p)) stpos.line fm.env = pure true:=by
  have e:fm.env.scope = (Ls sc).scope:=C.sc;have:swapsWith (.ListComp elt (g :: gs) scope pos) (some (.Name x p)) stpos.line fm.env = swapsWith (.ListComp elt (g :: gs) scope pos) (some (.Name x p)) stpos.line (Ls sc):=by
   unfold swapsWith Env.blockKind Env.kindOf;exact rwb e rfl
  refine rwb this ?_;exact hw
 refine rwb (exec_Assign_Name_used _ _ _ _ hw') (rwb (Ct ha) ?_);refine wpAny_bind (wpAny_standAt (wpAny_bind (wpAny_bind ?_)));refine L0 (use:=some (PySem.assign (.Name x p) fm.env)) C hok ha hi hs S (h.mono (Qu.mono fun es H1 hN D' L' F' s' l hD S' hns j=>?_));refine el14 (S'.ki hD) fun F2 l2 r2 S2 oth=>?_;obtain ⟨j1,j2,j3,j4,j5,j6,j7,j8⟩:=j;refine el11 hns fun m hm=>?_;refine el33 (id hm) fun o es ep e1 e2 e3=>?_;have hne:L' ≠ D':=fun q=>j6 (by refine rwb q ?_;exact .head _);have j6':L' ∉ H1.map (·.1):=fun q=>j6 (.tail _ q);have j3':F2.f L' = Option.none:=by refine rwb (oth _ hne) ?_;exact j3
 have S3:=S2.rebase;have C3:=C.at S2.sub H1 s'.heap;refine wpAny_assign_Name (show wpAny B.M A (storeName (fm.at F2 H1 s'.heap).env x (.ref D')) _ _ _ from store C3 S3 r2 hk fun s4 S4=>?_);have kp:=S4.keep L' o (Tf e1 j2) fun q=>(lA q).elim j6' j5;have S5:=S2.back S4;refine ⟨m,Ns.kept hm fun o' e'=>by replace e':=ts e1 e';obtain rfl:=oi e';exact kp,fun h' hs'=>wpAny_pure ?_⟩;exact wpAny_pure (Uv hN (l.trans l2) (S5.jb3 ⟨j1,j2,j3',j4,j5,j6',j7,j8⟩ hs'))
noncomputable def Vo (scope:Scope) (L:Addr) (clo:List (Str × Addr)) (qual:Str) (a:Addr) (code:Value):Env:=
 { scope:=scope,locals:=L,globals:=mainGlobals,cells:=cellsFrom (L + 1) scope.names [] ++ clo,qual:=qual,func:=some a,code:=code,frame:=some L,builtins:=builtinsNs }
noncomputable def Gx (scope:Scope) (clo:List (Str × Addr)) (qual:Str) (a:Addr) (code:Value) (F:Fz) (H:Led) (h:Heap) (stk:List Env):Fm where
 env:=Vo scope h.objs.size clo qual a code
 own:=h.objs.size :: (cellsFrom (h.objs.size + 1) scope.names []).map (·.2)
 cn:=(scope.names.filter fun p=>p.2 == .cell).map (·.1)
 h₀:=h
 h₁:=h
 F₀:=F
 W:=H.map (·.1) ++ Yb
 stack:=Vo scope h.objs.size clo qual a code :: stk
noncomputable def V4 (scope:Scope):Bool:=(scope.kind == .function) && decide (scope.names.map (·.1)).Nodup && !scope.isGenerator && !scope.isCoroutine
noncomputable def Vy (scope:Scope) (clo:List (Str × Addr)) (cap:Loc) (F:Fz) (h:Heap):Prop:=
 (∀ x,(x,NameKind.free) ∈ scope.names→∃ c,clo.lookup x = some c) ∧ (∀ x c,clo.lookup x = some c→h.get? c ≠ none) ∧
 ∀ x d,cap.lookup x = some d→scope.names.lookup x = some .free ∧ ∃ c v,clo.lookup x = some c ∧ h.IsCell c (some v) ∧ Jd F v d
theorem Vy.nil {scope:Scope} {F:Fz} {h:Heap} (hf:(scope.names.all fun p=>p.2 != .free) = true):Vy scope [] [] F h:=
 ⟨fun x hx=>by have:=List.all_eq_true.mp hf _ hx;simp at this,fun x c e=>(by simp at e),fun x d e=>(by simp at e)⟩
theorem St.pn {scope:Scope} {clo:List (Str × Addr)} {cap:Loc} {qual:Str} {a:Addr} {code:Value} {s:Shared} {stk:List Env} (g:GS B F H s) (ff:FF F s.heap B.h stk) (hok:V4 scope = true) (hcl:Vy scope clo cap F s.heap) :
  let fm':=Gx scope clo qual a code F H s.heap stk
  St B fm' cap F H { s with heap:=pushCells (s.heap.push { cls:=.type "frame",data:=.dict #[] }) scope.names }:=by
 revert g ff hok hcl;revert B F H scope clo cap qual a code s stk;refine no_implicit_lambda% (G11 (h:=?_));refine (?_:A11 _) _ _ _ _ _ _ _ _ _ _ _;intro B F H scope clo cap qual a code s stk g ff hok hcl;intro fm';simp only [V4,Bool.and_eq_true,decide_eq_true_eq] at hok;refine Yd hok fun z0 Z=>?_;obtain ⟨⟨hk,hnd⟩,_⟩:=z0;refine V5 hcl fun hcl1 hcl2 hcl3=>?_;have hk':scope.kind = .function:=by simpa using hk
 have kp:∀ b o,s.heap.get? b = some o→(pushCells (s.heap.push { cls:=.type "frame",data:=.dict #[] }) scope.names).get? b = some o:=fun b o e=>pushCells_keeps _ _ b o (Heap.get?_push_of_some _ e);have ok:=cellsFrom_ok scope.names (s.heap.push { cls:=.type "frame",data:=.dict #[] }) (s.heap.objs.size + 1) [] ⟨fun Z Z hm=>(nomatch hm),List.Pairwise.nil⟩ (by rw [Heap.size_push];exact le_refl _);rw [Heap.size_push] at ok;have ownNew:∀ a ∈ fm'.own,s.heap.objs.size ≤ a:=fun a ha=>by
  rcases lC ha with rfl | ha
  ·exact le_refl _
  ·refine el12 (lM ha) fun p hp z2=>?_;subst z2;have:=(ok.empty p.1 p.2 hp).2;lia
 have newNone:∀ a,s.heap.objs.size ≤ a→s.heap.get? a = none:=fun a ha=>by
  cases q:s.heap.get? a with
  | none=>rfl
  | some o=>exact absurd (Heap.lt_size q) (Nat.not_lt.mpr ha)
 have cloLk:∀ x,(x,NameKind.free) ∈ scope.names→∃ c,clo.lookup x = some c ∧ fm'.env.cells.lookup x = some c:=fun x hx=>by
  refine el11 (hcl1 x hx) fun c hc=>?_;refine ⟨c,hc,?_⟩;show (cellsFrom (s.heap.objs.size + 1) scope.names [] ++ clo).lookup x = some c;refine rwb lookup_append ?_;have h1:(cellsFrom (s.heap.objs.size + 1) scope.names []).lookup x = none:=by
   cases q:(cellsFrom (s.heap.objs.size + 1) scope.names []).lookup x with
   | none=>rfl
   | some c'=>
    have h2:=Ya hnd (Y9 (mem_of_lookup q));replace h2:=ts (Ya hnd hx) h2;contradiction
  (refine rwb h1 (rwb hc ?_));rfl
 have cellNd:((cellsFrom (s.heap.objs.size + 1) scope.names []).map (·.1)).Nodup:=by
  rw [X3];refine (reverse_perm _).symm.nodup ?_;exact hnd.sublist (List.filter_sublist.map _)
 have cellLk:∀ x,(x,NameKind.cell) ∈ scope.names→∃ c,fm'.env.cells.lookup x = some c ∧ (x,c) ∈ cellsFrom (s.heap.objs.size + 1) scope.names []:=fun x hx=>by
  refine el11 (Za (k:=s.heap.objs.size + 1) hx) fun c hc=>?_;exact ⟨c,by show (_ ++ _:List (Str × Addr)).lookup x = _;(refine rwb lookup_append (rwb hc ?_));rfl,mem_of_lookup hc⟩
 have cnIs:∀ x,x ∈ fm'.cn→(x,NameKind.cell) ∈ scope.names:=fun x hx=>by
  refine el12 (lM hx) fun p hp z2=>?_;subst z2;refine Yd (lF hp) fun h1 h2=>?_;obtain ⟨y,k⟩:=p;have:k = .cell:=by simpa using h2
  subst this;exact h1
 have kindC:∀ x k,scope.names.lookup x = some k→fm'.env.kindOf x = some k:=fun x k h=>h;have lkAll:∀ x c,fm'.env.cells.lookup x = some c→((x,c) ∈ cellsFrom (s.heap.objs.size + 1) scope.names []) ∨ clo.lookup x = some c:=fun x c h=>by
  have h':(cellsFrom (s.heap.objs.size + 1) scope.names [] ++ clo).lookup x = some c:=h;replace h':=ts lookup_append h';cases q:(cellsFrom (s.heap.objs.size + 1) scope.names []).lookup x with
  | some c'=>replace h':=q ▸ h';obtain rfl:=oi h';exact .inl (mem_of_lookup q)
  | none=>replace h':=q ▸ h';exact .inr (by simpa using h')
 have hFm:Bb B fm':=by
  refine ⟨hk',rfl,rfl,mem_cons_self,fun x hx=>?_,fun x y c hx h1 h2=>?_,fun a ha=>?_,fun a ha=>mem_append_right _ ha,fun a ha=>?_,fun x hx=>?_,fun x c h=>?_,fun b o e=>e⟩
  ·refine el12 (cellLk x (cnIs x hx)) fun c h1 h2=>?_;refine ⟨?_,c,h1,mem_cons_of_mem _ (mem_map_of_mem h2),?_⟩
   ·exact kindC x .cell (Ya hnd (cnIs x hx))
   ·intro q;have:=(ok.empty x c h2).2;replace this:=(show c = s.heap.objs.size from q) ▸ this;exact absurd this (Nat.not_succ_le_self _)
  ·refine el12 (cellLk x (cnIs x hx)) fun c' e1 e2=>?_;replace e1:=ts h1 e1;obtain rfl:=oi e1
   rcases lkAll y c h2 with h3 | h3
   ·exact name_of_addr ok.apart e2 h3
   ·exact absurd (newNone c (by have:=(ok.empty x c e2).2;lia)) (hcl2 y c h3)
  ·have e:=newNone a (ownNew a ha);exact ⟨(g.fresh e).2.1,e,(g.fresh e).2.2.1⟩
  ·rcases lC ha with rfl | ha
   ·exact .inl rfl
   ·refine el12 (lM ha) fun p hp z2=>?_;subst z2;refine .inr ⟨p.1,?_,?_⟩
    ·exact List.mem_map.mpr ⟨(p.1,.cell),List.mem_filter.mpr ⟨Y9 (x:=p.1) (c:=p.2) hp,by simp⟩,rfl⟩
    ·show (_ ++ _:List (Str × Addr)).lookup p.1 = _;(refine rwb lookup_append (rwb (Ya (k:=p.2) cellNd hp) ?_));rfl
  ·have hx':scope.names.lookup x = some .cell ∨ scope.names.lookup x = some .free:=hx;refine Or.elim hx' (fun q=>?_) fun q=>?_
   ·refine el12 (cellLk x (mem_of_lookup q)) fun c h Z=>?_;exact ⟨c,h⟩
   ·refine el12 (cloLk x (mem_of_lookup q)) fun c Z h=>?_;exact ⟨c,h⟩
  ·rcases lkAll x c h with h3 | h3
   ·exact .inl (mem_cons_of_mem _ (List.mem_map.mpr ⟨_,h3,rfl⟩))
   ·exact .inr (hcl2 x c h3)
 exact {
  toGS:=g.keeps (tk:=s.toks) kp
  ns:=⟨fun Z=>none,(Heap.Ns.new s.heap (.type "frame")).keeps (pushCells_keeps _ _),fun x d e1 e2=>by
   refine Yd (hcl3 x d e1) fun hf Z=>?_;replace e2:=ts (kindC x .free hf) e2
   contradiction⟩
  cell:=fun x d e1 Z=>by
   obtain ⟨hf,c,v,q1,q2,q3⟩:=hcl3 x d e1;refine el12 (cloLk x (mem_of_lookup hf)) fun c' e3 e4=>?_;replace e3:=ts q1 e3;obtain rfl:=oi e3;exact ⟨c,v,e4,q2.keeps kp,q3⟩
  cellAt:=fun x hx c e=>by
   refine el12 (cellLk x (cnIs x hx)) fun c' h1 h2=>?_;replace h1:=ts e h1;obtain rfl:=oi h1;exact ⟨none,(ok.empty x c h2).1⟩
  ok:=hFm
  ownF:=fun a ha=>by
   have e:=g.fresh (newNone a (ownNew a ha));exact ⟨e.1,e.2.2.2⟩
  keep:=fun b o e Z=>.inl (kp b o e)
  led:=fun p hp=>.inl (mem_append_left _ (mem_map_of_mem hp))
  frz:=fun b o e=>.inl e
  sub:=Fz.le.refl F
  ff:=by
   have fr:=g.fresh (newNone _ (le_refl _));refine fun env he=>(lC he).elim (fun q=>?_) fun he=>(ff.upd (fun b o es m e hd Z=>⟨o,es,m,kp b o e,hd⟩) (D3 fun Z Z e=>.inl e)) env he;refine rwb q ?_;refine ⟨s.heap.objs.size,_,_,_,?_,rfl,fr.2.1,fr.2.2.1,pushCells_keeps _ _ _ _ (Heap.get?_push_size s.heap rfl),rfl,fr.1⟩;show scope.kind ≠ .module;refine rwb hk' ?_;decide
  old:=fun b hb' q=>by
   cases e:fm'.h₁.get? b with
   | none=>exact hb' e
   | some o=>
    have:=kp b o e;replace q:=ts (show ({ s with heap:=pushCells (s.heap.push { cls:=.type "frame",data:=.dict #[] }) scope.names }:Shared).heap.get? b = (pushCells (s.heap.push { cls:=.type "frame",data:=.dict #[] }) scope.names).get? b from rfl) q;replace this:=ts q this;contradiction
  lives:=fun a ha=>by
   rcases lC ha with rfl | ha
   ·show (pushCells (s.heap.push { cls:=.type "frame",data:=.dict #[] }) scope.names).get? s.heap.objs.size ≠ none;refine rwb (pushCells_keeps _ _ _ _ (Heap.get?_push_size s.heap rfl)) ?_;exact some_ne_none _
   ·refine el12 (lM ha) fun p hp z2=>?_;subst z2;refine el12 ((ok.empty p.1 p.2 hp).1) fun o e Z=>?_;show (pushCells (s.heap.push { cls:=.type "frame",data:=.dict #[] }) scope.names).get? p.2 ≠ none
    refine rwb e ?_;exact some_ne_none _ }
theorem Jcl {x:Str} {d:D} {v:Value} {s:Shared} {Q:Unit→Shared→Prop} (S:St B fm ρ F H s) (r:Jd F v d) (hk:Jj fm.env.scope fm.cn x = true)
  (h:∀ s',St B fm (put x d ρ) F H s'→Q () s'):wpAny B.M A (storeName fm.env x v) Q E s:=by
 unfold Jj at hk
 rcases Bool.or_eq_true_iff.mp hk with h1 | h1
 ·refine el12 (id S.ns) fun m hm Z=>?_;have hk':fm.env.kindOf x = some .local:=by unfold Env.kindOf;simpa using h1
  exact wpAny_storeName_local hk' hm (fun h' hn hs=>h _ (S.Tp hk' hm hn hs r)) (by refine rwb S.ok.kind ?_;rfl)
 ·have hx:x ∈ fm.cn:=by simpa using h1
  obtain ⟨hk',c,h1,_,_⟩:=S.ok.ownC x hx;refine el11 (S.cellAt x hx c h1) fun v₀ h2=>?_;exact wpAny_storeName_cell S.ok.kind hk' h1 h2 fun h' hc hs=>h _ (S.jam (tk:=s.toks) hx h1 hc hs r)
noncomputable def putAll:List (Str × D)→Loc→Loc
 | [],ρ=>ρ
 | (x,d) :: r,ρ=>putAll r (put x d ρ)
theorem storeAll:∀ {binds:List (Str × Value)} {xs:List (Str × D)} {ρ:Loc} {s:Shared} {Q:PUnit→Shared→Prop} (_:St B fm ρ F H s) (f:Str × Value→PUnit→Sem (ForInStep PUnit))
  (_:∀ n v u,f (n,v) u = (do storeName fm.env n v;pure (.yield ⟨⟩))) (_:binds.map (·.1) = xs.map (·.1)) (_:Jc F (binds.map (·.2)) (xs.map (·.2))) (_:(xs.all fun x=>Jj fm.env.scope fm.cn x.1) = true)
  (_:∀ s',St B fm (putAll xs ρ) F H s'→Q ⟨⟩ s'),wpAny B.M A (forIn binds ⟨⟩ f) Q E s
 | [],[],ρ,s,Q,S,f,hf,_,_,_,h=>by rw [forIn_nil];exact wpAny_pure (h s S)
 | (x,v) :: bs,(y,d) :: xs,ρ,s,Q,S,f,hf,hk,hr,hst,h=>by
  rw [map_cons,map_cons,List.cons_eq_cons] at hk;obtain ⟨e,hk⟩:=hk;simp only at e;subst e;rw [forIn_cons,hf];rw [all_cons,Bool.and_eq_true] at hst;cases hr with
  | cons r hr=>
  refine wpAny_bind (wpAny_bind (Jcl S r hst.1 fun s1 S1=>wpAny_pure ?_));exact storeAll S1 f hf hk hr hst.2 h
 | [],_ :: _,_,_,_,_,_,_,hk,_,_,_=>by simp at hk
 | _ :: _,[],_,_,_,_,_,_,hk,_,_,_=>by simp at hk
theorem Qd {scope:Scope} {clo:List (Str × Addr)} {cap:Loc} {qual:Str} {a:Addr} {code:Value} {s:Shared} {stk:List Env} {binds:List (Str × Value)} {xs:List (Str × D)} {Q:Env→Shared→Prop}
  (g:GS B F H s) (ff:FF F s.heap B.h stk) (hok:V4 scope = true) (hcl:Vy scope clo cap F s.heap)
  (hk:binds.map (·.1) = xs.map (·.1)) (hr:Jc F (binds.map (·.2)) (xs.map (·.2))) (hst:(xs.all fun x=>Jj scope ((scope.names.filter fun p=>p.2 == .cell).map (·.1)) x.1) = true)
  (h:∀ s',St B (Gx scope clo qual a code F H s.heap stk) (putAll xs cap) F H s'→Q (Vo scope s.heap.objs.size clo qual a code) s') :
  wpAny B.M A (newFunctionEnv scope mainGlobals clo binds qual (some a) code none builtinsNs) Q E s:=by
 simp only [newFunctionEnv,Option.isSome_none,Bool.false_eq_true,if_false];refine wpAny_bind (wpAny_alloc ?_);refine wpAny_bind (wpAny_layCells _ (fun name kind cells=>by cases hkc:kind == NameKind.cell <;> simp [hkc]) _ _ _ _ ?_);rw [Zb];have e:({ s with heap:=s.heap.push { cls:=.type "frame",data:=.dict #[] } }:Shared).heap.objs.size = s.heap.objs.size + 1:=Heap.size_push ..;refine rwb e ?_;have S:=St.pn (qual:=qual) (a:=a) (code:=code) g ff hok hcl;exact wpAny_bind (storeAll (fm:=Gx scope clo qual a code F H s.heap stk) S _ (fun Z Z Z=>rfl) hk hr hst fun s' S'=>wpAny_pure (h s' S'))
theorem St.kh {scope:Scope} {clo:List (Str × Addr)} {qual:Str} {a:Addr} {code:Value} {s s':Shared} {stk:List Env} {F':Fz} {H':Led} {ρ':Loc}
  (S:St B (Gx scope clo qual a code F H s.heap stk) ρ' F' H' s'):Jl B F H s F' H' s' where
 le:=S.sub
 gs:=S.toGS
 kept:=fun b o e h1 h2=>S.keep b o e fun q=>(lA q).elim h1 h2
 live:=S.old
 newF:=S.frz
 newH:=fun p hp=>(S.led p hp).imp (fun q=>(lA q).elim id fun q=>absurd q (S.apart p hp).2.2) id
structure Rm (B:Base) (A:Around) (F:Fz) (H:Led) (s:Shared) (stk:List Env) (n:Nat):Prop where
 gs:GS B F H s
 ff:FF F s.heap B.h stk
 hd:Hok A F
 depth:A.depth + n ≤ 900
 units:A.units + 60 * n ≤ 9000
 frames:A.frames = some stk
inductive Na (B:Base) (F:Fz) (H:Led) (s:Shared) (P:D→Led→Prop) (v:Value) (s':Shared):Prop
 | mk (F':Fz) (d:D) (H':Led) (p:P d H') (r:Jd F' v d) (c:Jl B F H s F' H' s')
theorem Na.elim {s s':Shared} {v:Value} {C:Prop} (x:Na B F H s P v s') (k:∀ F' d H',P d H'→Jd F' v d→Jl B F H s F' H' s'→C):C:=x.rec k
noncomputable def FnK (B:Base) (n:Nat) (f:Value) (kw:List (Str × Value)) (ds:List D) (H:Led) (P:D→Led→Prop):Prop:=
 ∀ A F s stk vs,Rm B A F H s stk n→Jc F vs ds→wpAny B.M A (call f vs kw) (Na B F H s P) NoE s
noncomputable abbrev Fn (B:Base) (n:Nat) (f:Value) (ds:List D) (H:Led) (P:D→Led→Prop):Prop:=FnK B n f [] ds H P
theorem Cx.rm (C:Cx A fm sc cn n) {s:Shared} (S:St B fm ρ F H s):Rm B A F H s fm.stack n:=⟨S.toGS,S.ff,C.hd.le S.sub,C.depth,C.units,C.frames⟩
theorem Rm.le {s:Shared} {stk:List Env} {m:Nat} (r:Rm B A F H s stk n) (h:m ≤ n):Rm B A F H s stk m:=⟨r.gs,r.ff,r.hd,by have:=r.depth;lia,by have:=r.units;lia,r.frames⟩
theorem Xe {R:Result→Shared→Prop} {a:Addr} {o:Obj} {fd:FuncData} {body:List Stmt} {args:Args} {s:Shared} {stk:List Env} {binds:List (Str × Value)} {xs:List (Str × D)} {cap:Loc}
  (r:Rm B A F H s stk (n + 1)) (ho:s.heap.get? a = some o) (hd:o.data = .func fd) (hbody:fd.body = .stmts body) (hcd:s.heap.CodeRec fd.code fd.qualname) (hgl:fd.globals = mainGlobals) (hbu:fd.builtins = builtinsNs)
  (hbind:BindsTo s fd args binds) (hok:V4 fd.scope = true) (hcl:Vy fd.scope fd.closure cap F s.heap)
  (hk:binds.map (·.1) = xs.map (·.1)) (hr:Jc F (binds.map (·.2)) (xs.map (·.2))) (hst:(xs.all fun x=>Jj fd.scope ((fd.scope.names.filter fun p=>p.2 == .cell).map (·.1)) x.1) = true)
  (h:∀ fm A',fm = Gx fd.scope fd.closure (fd.qualname ++ ".<locals>.") a fd.code F H s.heap stk→A' = A.deeper fm.env→Cx A' fm fd.scope ((fd.scope.names.filter fun p=>p.2 == .cell).map (·.1)) n →
   ExS B A' fm (putAll xs cap) H body (fun Z H'=>∀ F' s',Jl B F H s F' H' s'→R (.ok (.ret .none)) s') (fun d H'=>∀ F' s' v,Jd F' v d→Jl B F H s F' H' s'→R (.ok (.ret v)) s')
    (fun e s'=>wpAny B.M A' (leaving fm.env e) (fun Z s''=>R (.error e) s'') (fun e' s''=>R (.error e') s'') s')):codeAny B.M A (.call (.ref a) args) R s:=by
 have hok':=hok;simp only [V4,Bool.and_eq_true,Bool.not_eq_true'] at hok';refine codeAny_call_function (by have:=r.depth;show A.depth < 1000;lia) ho hd hok'.2 hok'.1.2 hbody hcd (hbind _ _ _ _ ?_);rw [hgl,hbu];refine Qd r.gs r.ff hok hcl hk hr hst fun s1 S1=>?_;refine ⟨S1.bk.lim.keeps S1.base,codeAny_func ?_⟩
 ·have C:Cx (A.deeper (Gx fd.scope fd.closure (fd.qualname ++ ".<locals>.") a fd.code F H s.heap stk).env) (Gx fd.scope fd.closure (fd.qualname ++ ".<locals>.") a fd.code F H s.heap stk) fd.scope ((fd.scope.names.filter fun p=>p.2 == .cell).map (·.1)) n:=
   ⟨r.hd,rfl,by have:=r.depth;show A.depth + 1 + n ≤ 900;lia,by have:=r.units;show A.units + 3 + 60 * n ≤ 9000;lia,by show A.frames.map _ = _;rw [r.frames];rfl,rfl⟩
  refine wpAny_mono (h _ _ rfl rfl C F s1 S1) (fun fl s2 x2=>x2.elim (fun F2 ρ2 H2 l2 q S2=>q F2 s2 S2.kh) fun v F2 d H2 ρ2 l2 q rv S2=>q F2 s2 v rv S2.kh) fun Z Z x=>x
structure I8 (B:Base) (a:Addr) (kw:List (Str × Value)) (body:List Stmt) (scope:Scope) (names:List Str) (dflt:List (Str × D)):Prop where
 ex:∃ o fd,B.h.get? a = some o ∧ o.data = .func fd ∧ fd.body = .stmts body ∧ fd.scope = scope ∧ fd.closure = [] ∧ fd.globals = mainGlobals ∧ fd.builtins = builtinsNs ∧ B.h.CodeRec fd.code fd.qualname ∧
  ∀ s vs,(∀ b o,B.h.get? b = some o→s.heap.get? b = some o)→vs.length = names.length→∃ ws,ws.map (·.1) = dflt.map (·.1) ∧ (∀ F,Jc F (ws.map (·.2)) (dflt.map (·.2))) ∧ BindsTo s fd ⟨vs,kw⟩ (names.zip vs ++ ws)
noncomputable abbrev Jm (B:Base) (a:Addr) (body:List Stmt) (scope:Scope) (names:List Str) (dflt:List (Str × D)):Prop:=I8 B a [] body scope names dflt
theorem Jw {α β:Type}:∀ (xs:List α) (ys:List β),xs.length = ys.length→(xs.zip ys).map (·.1) = xs
 | [],_,_=>rfl
 | x :: xs,y :: ys,h=>by simp only [zip_cons_cons,map_cons];rw [Jw xs ys (by simpa using h)]
 | _ :: _,[],h=>by simp at h
theorem Yg {α β:Type}:∀ (xs:List α) (ys:List β),xs.length = ys.length→(xs.zip ys).map (·.2) = ys
 | [],[],_=>rfl
 | x :: xs,y :: ys,h=>by simp only [zip_cons_cons,map_cons];exact rwb (Yg xs ys (by simpa using h)) rfl
 | _ :: _,[],h=>by simp at h
 | [],_ :: _,h=>by simp at h
theorem I8.call {a:Addr} {kw:List (Str × Value)} {body:List Stmt} {scope:Scope} {names:List Str} {dflt:List (Str × D)} {R:Result→Shared→Prop} {s:Shared} {stk:List Env} {ds:List D} {vs:List Value} (S:I8 B a kw body scope names dflt)
  (hok:V4 scope = true) (hfree:(scope.names.all fun p=>p.2 != .free) = true) (hst:((names ++ dflt.map (·.1)).all fun x=>Jj scope ((scope.names.filter fun p=>p.2 == .cell).map (·.1)) x) = true)
  (hn:names.length = ds.length) (r:Rm B A F H s stk (n + 1)) (rv:Jc F vs ds)
  (h:∀ fm A',A' = A.deeper fm.env→fm.F₀ = F→A'.handled = A.handled→Cx A' fm scope ((scope.names.filter fun p=>p.2 == .cell).map (·.1)) n →
   ExS B A' fm (putAll (names.zip ds ++ dflt) []) H body (fun Z H'=>∀ F' s',Jl B F H s F' H' s'→R (.ok (.ret .none)) s') (fun d H'=>∀ F' s' v,Jd F' v d→Jl B F H s F' H' s'→R (.ok (.ret v)) s')
    (fun e s'=>wpAny B.M A' (leaving fm.env e) (fun Z s''=>R (.error e) s'') (fun e' s''=>R (.error e') s'') s')):codeAny B.M A (.call (.ref a) ⟨vs,kw⟩) R s:=by
 revert S hok hfree hst hn r rv h;revert B A n F H a kw body scope names dflt R s stk ds vs;refine no_implicit_lambda% (G16 (h:=?_));refine (?_:A16 _) _ _ _ _ _ _ _ _ _ _ _ _ _ _ _ _;intro B A n F H a kw body scope names dflt R s stk ds vs S hok hfree hst hn r rv h;obtain ⟨o,fd,h1,h2,h3,h4,h5,h6,h7,h8,h9⟩:=S.ex;subst h4;have hl:names.length = vs.length:=by (refine rwb rv.length ?_;exact rwb hn rfl)
 refine el13 (h9 s vs r.gs.base hl.symm) fun ws w1 w2 w3=>?_;have hcd:s.heap.CodeRec fd.code fd.qualname:=h8.keeps r.gs.base;refine Xe (xs:=names.zip ds ++ dflt) (cap:=[]) r (r.gs.base _ _ h1) h2 h3 hcd h6 h7 w3 hok (by refine rwb h5 ?_;exact Vy.nil hfree) ?_ ?_ ?_ fun fm A' e1 e2 C=>h fm A' e2 (by refine rwb e1 ?_;rfl) (by refine rwb e2 ?_;rfl) C
 ·refine rwb map_append (rwb map_append (rwb (Jw _ _ hl) (rwb (Jw _ _ hn) ?_)));exact rwb w1 rfl
 ·refine rwb map_append (rwb map_append (rwb (Yg _ _ hl) (rwb (Yg _ _ hn) ?_)));exact rv.append (w2 F)
 ·(replace hst:=ts all_append hst;replace hst:=all_map ▸ hst);refine rwb all_append ?_;simp only [Bool.and_eq_true] at hst ⊢;refine ⟨?_,hst.2⟩;have h10:=hst.1;(replace h10:=Eq.symm (Jw _ _ hn) ▸ h10;replace h10:=ts all_map h10);exact h10
theorem I8.fn {a:Addr} {kw:List (Str × Value)} {body:List Stmt} {scope:Scope} {names:List Str} {dflt:List (Str × D)} {ds:List D} (S:I8 B a kw body scope names dflt)
  (hok:V4 scope = true) (hfree:(scope.names.all fun p=>p.2 != .free) = true) (hst:((names ++ dflt.map (·.1)).all fun x=>Jj scope ((scope.names.filter fun p=>p.2 == .cell).map (·.1)) x) = true)
  (hn:names.length = ds.length)
  (h:∀ A' fm,Cx A' fm scope ((scope.names.filter fun p=>p.2 == .cell).map (·.1)) n→ExS B A' fm (putAll (names.zip ds ++ dflt) []) H body (fun Z H'=>P .none H') P NoE):FnK B (n + 1) (.ref a) kw ds H P:=fun A F s stk vs r rv=>by
 refine wpAny_call (S.call hok hfree hst hn r rv fun fm A' e1 e2 e3 C=>?_);refine fun F1 s1 S1=>wpAny_mono (h A' fm C F1 s1 S1) (fun fl s2 x2=>x2.elim (fun F2 ρ2 H2 l2 q S2=>.next F2 ρ2 H2 l2 (fun F' s' c=>⟨F',.none,H2,q,.none,c⟩) S2) fun v F2 d H2 ρ2 l2 q rv2 S2=>.ret v F2 d H2 ρ2 l2 (fun F' s' v' rv' c=>⟨F',d,H2,q,rv',c⟩) rv2 S2) fun Z Z x=>x.elim
theorem EvE.tq {x:Str} {pos:Pos} {v:Value} (C:Cx A fm sc cn n) (hv:B.mg x = some v) (h:P (.val v) H) (hk:autoParam (sc.names.lookup x = some .globalImplicit) aR) (hd:autoParam ((x == ("__debug__":Str)) = false) aD):EvE B A fm ρ H (.Name x pos) P E:=fun F s S=>by
 have hk':fm.env.kindOf x = some .globalImplicit:=by unfold Env.kindOf;rw [C.sc];exact hk
 exact Name_function_global S.ok.kind hk' (loadGlobal_global (env:=fm.env) (by rw [S.ok.glob];exact S.bk.g.keeps S.base) hv (here h (Fz.le.refl F) (.val _) S)) hd
theorem EvE.jfk {x:Str} {pos:Pos} {v:Value} {d:D} (C:Cx A fm sc cn n) (hk:sc.names.lookup x = some .globalImplicit) (hv:B.mg x = some v) (hr:∀ F,Jd F v d) (h:P d H) (hd:autoParam ((x == ("__debug__":Str)) = false) aD):EvE B A fm ρ H (.Name x pos) P E:=fun F s S=>by
 have hk':fm.env.kindOf x = some .globalImplicit:=by unfold Env.kindOf;rw [C.sc];exact hk
 exact Name_function_global S.ok.kind hk' (loadGlobal_global (env:=fm.env) (by rw [S.ok.glob];exact S.bk.g.keeps S.base) hv (here h (Fz.le.refl F) (hr F) S)) hd
theorem EvE.gu {x:Str} {pos:Pos} {v:Value} (C:Cx A fm sc cn n) (hk:sc.names.lookup x = some .globalImplicit) (hm:B.mg x = Option.none) (hv:bootBuiltins x = some v) (hn:x ≠ "__name__") (h:P (.val v) H) (hd:autoParam ((x == ("__debug__":Str)) = false) aD):EvE B A fm ρ H (.Name x pos) P E:=fun F s S=>by
 have hk':fm.env.kindOf x = some .globalImplicit:=by unfold Env.kindOf;rw [C.sc];exact hk
 exact Name_function_global S.ok.kind hk' (loadGlobal_builtin (env:=fm.env) (by rw [S.ok.glob];exact S.bk.g.keeps S.base) hm (by rw [S.ok.bi];exact S.bk.b.keeps S.base) ((S.bk.bs x hn).trans hv) (here h (Fz.le.refl F) (.val _) S)) hd
noncomputable def Kp (B:Base):D→Value→Prop
 | .val f,v=>f = v ∧ ∀ h,(∀ b o,B.h.get? b = some o→h.get? b = some o)→∃ k,(k = Keeper.frame ∨ k = Keeper.machine ∨ k = Keeper.boundFrame) ∧ Looks B.M h (keeperOf f) k
 | .fro a o,v=>v = .ref a ∧ ∃ fd,o.data = .func fd
 | .clo a _,v=>v = .ref a
 | _,_=>False
theorem Kp.builtin {i:String}:Kp B (.val (.builtin i)) (.builtin i):=⟨rfl,fun h Z=>⟨.machine,.inr (.inl rfl),.now⟩⟩
theorem Kp.type {i:String}:Kp B (.val (.type i)) (.type i):=⟨rfl,fun h Z=>⟨.machine,.inr (.inl rfl),.now⟩⟩
theorem Kp.xl {a:Addr} {kw:List (Str × Value)} {body:List Stmt} {scope:Scope} {names:List Str} {dflt:List (Str × D)} (S:I8 B a kw body scope names dflt):Kp B (.val (.ref a)) (.ref a):=by
 refine el23 S.ex fun o fd h1 h2 Z=>?_;refine ⟨rfl,fun h k=>⟨.frame,.inl rfl,?_⟩⟩;unfold keeperOf;refine (Looks.ld (part:=none) (k _ _ h1)).andThen ?_;refine rwb h2 ?_;exact .now
theorem Kp.at {d:D} {f v:Value} {F F':Fz} {s:Shared} (k:Kp B d f) (r:Jd F v d) (g:GS B F' H s) (l:F.le F'):v = f ∧ ∃ k,(k = Keeper.frame ∨ k = Keeper.machine ∨ k = Keeper.boundFrame) ∧ Looks B.M s.heap (keeperOf v) k:=by
 revert k r g l;revert B H d f v F F' s;refine no_implicit_lambda% (G8 (h:=?_));refine (?_:A8 _) _ _ _ _ _ _ _ _;intro B H d f v F F' s k r g l;cases r with
 | val v=>exact ⟨k.1,k.2 s.heap g.base⟩
 | fro h=>
  obtain ⟨rfl,fd,hd⟩:=k;refine ⟨rfl,.frame,.inl rfl,?_⟩;unfold keeperOf;refine (Looks.ld (part:=none) (g.froz _ _ (l.f _ _ h))).andThen ?_;refine rwb hd ?_;exact .now
 | clo h=>
  obtain rfl:=k;refine ⟨rfl,.frame,.inl rfl,?_⟩;unfold keeperOf;exact (Looks.ld (part:=none) (g.froz _ _ (l.f _ _ h))).andThen .now
 | _=>exact k.elim
noncomputable abbrev Jp (B:Base) (A:Around) (fm:Fm) (ρ:Loc) (H:Led) (f:Value) (ds:List D) (P:D→Led→Prop) (E:Value→Shared→Prop):Prop:=OpN B A fm ρ H (fun vs=>call f vs []) ds P E
theorem Xd {f:Value} {args:List (Bool × Sem Value)} {s:Shared} {Q:Args→Shared→Prop} (hp:args.any (·.1) = false)
  (h:wpAny B.M A (spliced args) (fun vs s'=>Q ⟨vs,[]⟩ s') E s):wpAny B.M A (evalArgs f true args []) Q E s:=by
 match args,hp with
 | [],_=>
  unfold evalArgs;show wpAny B.M A (spliced [] >>= _) Q E s;refine wpAny_bind (wpAny_mono h (fun vs s' h'=>?_) fun Z Z x=>x);refine wpAny_holding ?_;exact wpAny_bind (wpAny_pure (wpAny_bind (wpAny_pure (wpAny_pure h'))))
 | (true,x) :: rest,hp=>simp at hp
 | (false,x) :: rest,hp=>exact evalArgs_plain h
inductive Jd2 (B:Base) (A:Around) (fm:Fm) (ρ:Loc) (pos:Pos) (args:List Expr) (P:D→Led→Prop) (E:Value→Shared→Prop) (d:D) (H:Led):Prop
 | mk (f:Value) (k:Kp B d f) (h:EvL B A fm ρ H pos args (fun ds H2=>Jp B A fm ρ H2 f ds P E) E)
theorem EvE.call {x:Str} {np pos:Pos} {args:List Expr} (h:EvE B A fm ρ H (.Name x np) (Jd2 B A fm ρ pos args P E) E)
  (hs:autoParam (∀ env,(backTo pos (starEach args env)).any (·.1) = false) aI):EvE B A fm ρ H (.Call (.Name x np) args [] pos) P E:=fun F s S=>by
 refine wpAny_Call_ofName (wpAny_mono (h F s S) (fun v s1 zz=>zz.elim fun F1 d H1 z l r S1=>z.rec fun f k hL=>?_) fun Z Z x=>x);have hv:=(k.at r S1.toGS (Fz.le.refl F1)).1;refine callWith_of (P:=fun h=>∃ k,(k = Keeper.frame ∨ k = Keeper.machine ∨ k = Keeper.boundFrame) ∧ Looks B.M h (keeperOf v) k) (by rw [hs];rfl) (fun h x=>x) (Xd (hs _) (wpAny_mono (hL F1 s1 S1) (fun vs s2 zz=>zz.elim fun F2 ds H2 op l2 r2 S2=>?_) fun Z Z x=>x));refine ⟨(k.at r S2.toGS l2).2,?_⟩;refine rwb hv ?_;exact wpAny_mono (op F2 s2 vs S2 r2) (fun Z Z y=>y.le (l.trans l2)) fun Z Z x=>x
theorem FnK.op {f:Value} {kw:List (Str × Value)} {ds:List D} {m:Nat} (C:Cx A fm sc cn n) (k:FnK B m f kw ds H P) (hm:m ≤ n):OpN B A fm ρ H (fun vs=>PySem.call f vs kw) ds P E:=fun F s vs S rv=>
 wpAny_mono (k A F s fm.stack vs ((C.rm S).le hm) rv) (fun v s1 zz=>zz.elim fun F1 d H1 p rv1 c=>here p c.le rv1 (S.call c)) fun Z Z x=>x.elim
theorem FnK.mono {f:Value} {kw:List (Str × Value)} {ds:List D} {m:Nat} (k:FnK B m f kw ds H P) (h:∀ d H,P d H→P' d H):FnK B m f kw ds H P':=fun A F s stk vs r rv=>wpAny_mono (k A F s stk vs r rv) (fun v s' zz=>zz.elim fun F' d H' p q c=>⟨F',d,H',h d H' p,q,c⟩) fun Z Z x=>x
theorem FnK.is {f:Value} {kw:List (Str × Value)} {ds:List D} {e:D} {m:Nat} (C:Cx A fm sc cn n) (k:FnK B m f kw ds H (Is e H)) (hm:m ≤ n) (h:P e H):OpN B A fm ρ H (fun vs=>PySem.call f vs kw) ds P E:=
 (k.mono fun d H' y=>y.rec fun a b=>by subst a b;exact h).op C hm
theorem Fn.op {f:Value} {ds:List D} {m:Nat} (C:Cx A fm sc cn n) (k:Fn B m f ds H P) (hm:m ≤ n):Jp B A fm ρ H f ds P E:=FnK.op C k hm
theorem Fn.is {f:Value} {ds:List D} {e:D} {m:Nat} (C:Cx A fm sc cn n) (k:Fn B m f ds H (Is e H)) (hm:m ≤ n) (h:P e H):Jp B A fm ρ H f ds P E:=FnK.is C k hm h
inductive BiR (F:Fz) (s:Shared) (e:D) (v:Value) (s':Shared):Prop
 | mk (F':Fz) (h':Heap) (tk:Nat) (q:s' = { s with heap:=h',toks:=tk }) (ht:s.toks ≤ tk) (g:∀ t x,F'.g t = some x→F.g t = some x ∨ (s.toks ≤ t ∧ t < tk)) (k:∀ b o,s.heap.get? b = some o→h'.get? b = some o)
   (l:F.le F') (n:∀ b o,F'.f b = some o→F.f b = some o ∨ s.heap.get? b = none) (z:∀ b o,F'.f b = some o→h'.get? b = some o) (r:Jd F' v e)
noncomputable def Bi (B:Base) (f:Value) (ds:List D) (e:D):Prop:=
 ∀ A E F H s vs,GS B F H s→Jc F vs ds→I9 A s.heap→A.units ≤ 9000→wpAny B.M A (PySem.call f vs []) (BiR F s e) E s
end
section
variable {B:Base} {A:Around} {fm:Fm} {sc:Scope} {cn:List Str} {n:Nat} {ρ:Loc} {F:Fz} {H:Led} {E:Value→Shared→Prop} {P P':D→Led→Prop} {PB:Bool→Led→Prop} {N N':Loc→Led→Prop} {R:D→Led→Prop} {K:Frag}
noncomputable def Ji (B:Base) (H:Led) (d:D) (name:Str) (f:Value):Prop:=
 ∀ A F s v pl (Q:Value × List Value→Shared→Prop) E,GS B F H s→Jd F v d→Q (f,[v]) s→wpAny B.M A (getMethod v name pl) Q E s
inductive Jcb (B:Base) (A:Around) (fm:Fm) (ρ:Loc) (pos:Pos) (name:Str) (args:List Expr) (P:D→Led→Prop) (E:Value→Shared→Prop) (d:D) (H:Led):Prop
 | mk (f:Value) (m:Ji B H d name f) (k:Kp B (.val f) f) (h:EvL B A fm ρ H pos args (fun ds H2=>Jp B A fm ρ H2 f (d :: ds) P E) E)
inductive Jcd (P:D→Led→Prop) (d:D) (H:Led):Prop
 | mk (l:Addr) (e:d = .hdr l) (p:P (.ref l) H)
theorem EvE.ij {o:Expr} {name:Str} {apos pos:Pos} {args:List Expr} (h:EvE B A fm ρ H o (Jcb B A fm ρ pos name args P E) E)
  {pl:Env→Sem Bool} (he:autoParam (∀ env,eval (.Call (.Attribute o name apos) args [] pos) env = (do
   let ov ← eval o env
   standAt apos.atName
   let (f,first) ← holding [ov] (getMethod ov name (pl env))
   callWith pos f first (backTo pos (starEach args env)) (backToKw pos (keywordEach [] env)))) aI)
  (hs:autoParam (∀ env,(backTo pos (starEach args env)).any (·.1) = false) aI):EvE B A fm ρ H (.Call (.Attribute o name apos) args [] pos) P E:=fun F s S=>by
 show wpAny B.M A (eval (.Call (.Attribute o name apos) args [] pos) fm.env) _ _ _;rw [he];refine wpAny_bind (wpAny_mono (h F s S) (fun v s1 zz=>zz.elim fun F1 d H1 z l r S1=>z.rec fun f m k hL=>?_) fun Z Z x=>x);refine wpAny_bind (wpAny_standAt (wpAny_bind (wpAny_holding (m _ F1 s1 v _ _ _ S1.toGS r ?_))));refine callWith_of (P:=fun h=>∃ k,(k = Keeper.frame ∨ k = Keeper.machine ∨ k = Keeper.boundFrame) ∧ Looks B.M h (keeperOf f) k) (by rw [hs];rfl) (fun h x=>x) (Xd (hs _) (wpAny_mono (hL F1 s1 S1) (fun vs s2 zz=>zz.elim fun F2 ds H2 op l2 r2 S2=>?_) fun Z Z x=>x));refine ⟨k.2 s2.heap S2.base,?_⟩;exact wpAny_mono (op F2 s2 (v :: vs) S2 (.cons (r.mono l2) r2)) (fun Z Z y=>y.le (l.trans l2)) fun Z Z x=>x
theorem EvE.J4 {o:Expr} {name:Str} {apos pos:Pos} {args:List Expr} {d:D} (l:Lf B A fm ρ o d) (h:Jcb B A fm ρ pos name args P E d H)
  {pl:Env→Sem Bool} (he:autoParam (∀ env,eval (.Call (.Attribute o name apos) args [] pos) env = (do
   let ov ← eval o env
   standAt apos.atName
   let (f,first) ← holding [ov] (getMethod ov name (pl env))
   callWith pos f first (backTo pos (starEach args env)) (backToKw pos (keywordEach [] env)))) aI)
  (hs:autoParam (∀ env,(backTo pos (starEach args env)).any (·.1) = false) aI):EvE B A fm ρ H (.Call (.Attribute o name apos) args [] pos) P E:=EvE.ij (l _ _ _ h) he hs
theorem Lm {F:Fz} {s:Shared} {v:Value} {l:Addr} (g:GS B F H s) (r:Jd F v (.hdr l)):∃ a ox hs t k sl,v = .ref a ∧ InstAt s.heap a ox Vb (some (Xc hs t l k sl)):=by
 exact r.jfj fun Z Z Z Z Z Z h1 h2=>⟨_,_,_,_,_,_,rfl,⟨g.froz _ _ h1,rfl,rfl,g.froz _ _ h2⟩⟩
theorem Ji.hdr {l f:Addr} {name:Str} (X:K.In B.h) (hg:plainGet K Vb name = true) (hf:findIn K (.ref Vb) name = some (some (.ref f))) (ht:isFn K (.ref f) = true) (hl:(name == Str.ofString "_headers") = false):Ji B H (.hdr l) name (.ref f):=fun A F s v pl Q E g r h=>by
 refine el62 (Lm g r) fun a ox hs t k sl z6 I=>?_;subst z6;refine method_fn (X.keeps g.base) I (plainGet_of hg).1 (plainGet_of hg).2 hf (beq_iff_eq.mp ht) ?_ h;show (getL name [⟨hs,.str (Str.ofString "_headers") t,.ref l⟩]).map _ = _;unfold getL;have e:((Value.str (Str.ofString "_headers") t).isStr name) = false:=by
  show (Str.ofString "_headers" == name) = false;rw [beq_eq_false_iff_ne] at hl ⊢;exact fun q=>hl q.symm
 simp [e];rfl
theorem Ji.str {x:Str} {name:Str} {id:String} (slot:Slot "str" name id) (ty:typeOf (.builtin id) = pure (.type "method_descriptor")):Ji B H (.str x) name (.builtin id):=fun A F s v pl Q E g r h=>by
 revert h;exact r.zt fun Z Z h=>GM.of _ (typeIs_str _ _ _) slot ty GM.noRef h
theorem Ji.list {a:Addr} {ds:List D} {name:Str} {id:String} (ha:(a,ds) ∈ H) (slot:Slot "list" name id) (ty:typeOf (.builtin id) = pure (.type "method_descriptor")):Ji B H (.ref a) name (.builtin id):=fun A F s v pl Q E g r h=>by
 revert h;refine r.Kf fun h=>?_;refine el22 (g.own _ ha) fun vs k e Z=>?_;exact getMethod_builtin ⟨_,e,rfl⟩ PySem.F.plainAttrs_list slot ty (fun b q=>by cases q;exact ⟨_,e,rfl⟩) h
theorem Ji.int {i:Int} {name:Str} {id:String} (slot:Slot "int" name id) (pa:PlainAttrs "int") (ty:typeOf (.builtin id) = pure (.type "method_descriptor")):Ji B H (.int i) name (.builtin id):=fun A F s v pl Q E g r h=>by
 revert h;exact r.z5 fun Z h=>getMethod_builtin (typeIs_int _ _ _) pa slot ty (fun b q=>nomatch q) h
theorem EvE.headers {value:Expr} {pos:Pos} (X:K.In B.h) (h:EvE B A fm ρ H value (Jcd P) E)
  (hg:plainGet K Vb "_headers" = true) (hh:hasDictIn K Vb = true) {attr:Option Value} (ha:findIn K (.ref Vb) "_headers" = some attr) (hn:noGet K attr = true)
  (he:autoParam (∀ env,eval (.Attribute value "_headers" pos) env = (do
   let o ← eval value env
   standAt pos.atName
   let r ← holding [o] (getAttr o "_headers" true)
   letTemporaryGo value o r
   pure r)) aI) (hv:autoParam (∀ v r,letTemporaryGo value v r = pure ()) aI):EvE B A fm ρ H (.Attribute value "_headers" pos) P E:=fun F s S=>by
 show wpAny B.M A (eval (.Attribute value "_headers" pos) fm.env) _ _ _;rw [he];refine wpAny_bind (wpAny_mono (h F s S) (fun v s1 zz=>zz.elim fun F1 d H1 y le r S1=>y.rec fun l e p=>?_) fun Z Z x=>x);subst e;refine el62 (Lm S1.toGS r) fun a ox hs t k sl z6 I=>?_;subst z6;refine wpAny_bind (wpAny_standAt (wpAny_bind (wpAny_holding (get_value (X.keeps S1.base) I (plainGet_of hg).1 (findObj_own hh ha hn (v:=.ref l) ?_) rfl ?_))))
 ·show getL (Str.ofString "_headers") [⟨hs,.str (Str.ofString "_headers") t,.ref l⟩] = _;unfold getL;simp [Value.isStr]
 ·rw [hv];exact wpAny_bind (wpAny_pure (wpAny_pure (here p le (.ref l) (S1.tok _))))
end
noncomputable abbrev prog:List Stmt:=PySem.Challenge.pw_wc0026_01.main.body
noncomputable def bodyOf (i:Nat):List Stmt:=match prog[i]? with
 | some (.FunctionDef _ _ body _ _ _ _ _ _ _)=>body
 | _=>[]
noncomputable def Jh (i:Nat):Scope:=match prog[i]? with
 | some (.FunctionDef _ _ _ _ _ _ scope _ _ _)=>scope
 | _=>default
noncomputable def J9 (i j:Nat):List Stmt:=match prog[i]? with
 | some (.ClassDef _ _ _ body _ _ _ _ _ _ _)=>(match body[j]? with
  | some (.FunctionDef _ _ body _ _ _ _ _ _ _)=>body
  | _=>[])
 | _=>[]
noncomputable def Jt (i j:Nat):Scope:=match prog[i]? with
 | some (.ClassDef _ _ _ body _ _ _ _ _ _ _)=>(match body[j]? with
  | some (.FunctionDef _ _ _ _ _ _ scope _ _ _)=>scope
  | _=>default)
 | _=>default
noncomputable def B6 (i:Nat):Arguments:=match prog[i]? with
 | some (.FunctionDef _ ps _ _ _ _ _ _ _ _)=>ps
 | _=>{ posonlyargs:=[],args:=[],vararg:=none,kwonlyargs:=[],kw_defaults:=[],kwarg:=none,defaults:=[] }
noncomputable def Jcq (i j:Nat):Arguments:=match prog[i]? with
 | some (.ClassDef _ _ _ body _ _ _ _ _ _ _)=>(match body[j]? with
  | some (.FunctionDef _ ps _ _ _ _ _ _ _ _)=>ps
  | _=>B6 0)
 | _=>B6 0
noncomputable def fuO (p:Arguments) (b:List Stmt) (s:Scope) (n q:Str) (df:Value) (md:Str) (mt:Tok) (cd:Addr):Obj:=
 { cls:=.type "function",data:=.func { name:=n,qualname:=q,params:=p,body:=.stmts b,scope:=s,globals:=3,closure:=[],defaults:=df,kwdefaults:=.none,pyModule:=.str md mt,code:=.ref cd } }
noncomputable def fuF (i:Nat):Str→Str→Value→Str→Tok→Addr→Obj:=fuO (B6 i) (bodyOf i) (Jh i)
noncomputable def meF (i j:Nat):Str→Str→Value→Str→Tok→Addr→Obj:=fuO (Jcq i j) (J9 i j) (Jt i j)
noncomputable def coO (n q:Str) (t:Tok) (line argc kwo flags:Int) (c8 c11 c13 c14 c15:Value) (k:Int) (kt lt:Tok):Obj:=
 { cls:=.type "code",data:=.fields #[.str n t,.str q (t + 1),.str "/claim/cut.py" (t + 2),.int line 0,.int argc 0,.int 0 0,.int kwo 0,.int flags 0,c8,.bool true,.int 276 0,c11,.none,c13,c14,c15,.int k kt,.int line 0,.str "/claim/cut.py" lt] }
noncomputable def en (P:Params) (n:Str) (t:Tok) (v:Value):DictEntry:={ hash:=PyData.keyHash P n,key:=.str n t,val:=v }
noncomputable def Gq (P:Params):Frag:=[
 (2,{ cls:=.none,data:=.dict #[en P "\x69mport.loaded._sre" 183 (.bool true),en P "class._frozen_importlib.BuiltinImporter" 185 (.ref 14),en P "watched.\x69mport" 206 (.ref 18),en P "class._frozen_importlib.ModuleSpec" 216 (.ref 22),en P "sys.modules.booked-epoch" 245 (.int 3 0),en P "\x69mport.later-laid._sre" 270 (.bool true),en P "watched.library" 272 (.ref 27),en P "watched.library-objects" 0 (.str "\x0c" 0),en P "watched.library-deep._sre" 273 (.str "\x04\x00\x00\x0b\x04\x00\x00\x0b\x04\x00\x00\x03\x04\x00\x00\x0b\x08\x04dict\x02" 0)] 9 }),
 (3,{ cls:=.type "dict",data:=.dict #[en P "__name__" 165 (.str "law_wc0026_01" 704),en P "__doc__" 166 .none,en P "__package__" 167 .none,en P "__loader__" 168 (.builtin "__main__.__loader__#opaque"),en P "__spec__" 169 .none,en P "__annotations__" 170 (.ref 6),en P "__builtins__" 171 (.ref 4),en P "__file__" 173 (.str "/claim/cut.py" 172),en P "__cached__" 174 .none,en P "_sre" 275 (.ref 12),en P "_DIV_LIMIT" 285 (.int 4000 284),en P "_div2n1n" 302 (.ref 38),en P "_div3n2n" 316 (.ref 45),en P "_int2digits" 327 (.ref 52),en P "_digits2int" 338 (.ref 59),en P "_divmod_pos" 353 (.ref 66),en P "int_divmod" 363 (.ref 73),en P "add" 373 (.ref 80),en P "lshift" 381 (.ref 87),en P "mul" 389 (.ref 94),en P "neg" 396 (.ref 101),en P "sub" 404 (.ref 108),en P "delitem" 412 (.ref 115),en P "getitem" 420 (.ref 122),en P "indexOf" 430 (.ref 129),en P "setitem" 439 (.ref 136),en P "tspecials" 475 (.ref 141),en P "_name_disallowed_re" 501 (.ref 146),en P "_value_disallowed_re" 535 (.ref 151),en P "_formatparam" 545 (.ref 159),en P "Headers" 703 (.ref 280),en P "_law_cells" 715 (.ref 291),en P "_law_ties" 721 (.ref 296),en P "_law_entries" 727 (.ref 301),en P "_law_net" 741 (.ref 308),en P "_law_lacks" 750 (.ref 315),en P "_law_grow" 756 (.ref 320),en P "_law_ways" 762 (.ref 325),en P "_law_dive" 772 (.ref 332),en P "_law_run" 787 (.ref 339),en P "_law_pairings" 793 (.ref 344),en P "_law_number" 801 (.ref 351),en P "_law_struck" 807 (.ref 356),en P "_law_total" 813 (.ref 361),en P "law" 819 (.ref 366)] 45 }),
 (37,coO "_div2n1n" "_div2n1n" 286 4 3 0 3 (.ref 32) (.ref 33) (.ref 34) (.ref 35) (.ref 36) 300 0 301),
 (38,fuF 3 "_div2n1n" "_div2n1n" .none "cpy313._pylong" 282 37),
 (44,coO "_div3n2n" "_div3n2n" 303 20 6 0 3 (.ref 39) (.ref 40) (.ref 41) (.ref 42) (.ref 43) 314 0 315),
 (45,fuF 4 "_div3n2n" "_div3n2n" .none "cpy313._pylong" 282 44),
 (51,coO "_int2digits" "_int2digits" 317 30 2 0 3 (.ref 46) (.ref 47) (.ref 48) (.ref 49) (.ref 50) 325 0 326),
 (52,fuF 5 "_int2digits" "_int2digits" .none "cpy313._pylong" 282 51),
 (58,coO "_digits2int" "_digits2int" 328 46 2 0 3 (.ref 53) (.ref 54) (.ref 55) (.ref 56) (.ref 57) 336 0 337),
 (59,fuF 6 "_digits2int" "_digits2int" .none "cpy313._pylong" 282 58),
 (65,coO "_divmod_pos" "_divmod_pos" 339 55 2 0 3 (.ref 60) (.ref 61) (.ref 62) (.ref 63) (.ref 64) 351 0 352),
 (66,fuF 7 "_divmod_pos" "_divmod_pos" .none "cpy313._pylong" 282 65),
 (72,coO "int_divmod" "int_divmod" 354 66 2 0 3 (.ref 67) (.ref 68) (.ref 69) (.ref 70) (.ref 71) 361 0 362),
 (73,fuF 8 "int_divmod" "int_divmod" .none "cpy313._pylong" 282 72),
 (79,coO "add" "add" 366 78 2 0 3 (.ref 74) (.ref 75) (.ref 76) (.ref 77) (.ref 78) 371 0 372),
 (80,fuF 10 "add" "add" .none "cpy313.operator" 364 79),
 (86,coO "lshift" "lshift" 374 80 2 0 3 (.ref 81) (.ref 82) (.ref 83) (.ref 84) (.ref 85) 379 0 380),
 (87,fuF 11 "lshift" "lshift" .none "cpy313.operator" 364 86),
 (93,coO "mul" "mul" 382 82 2 0 3 (.ref 88) (.ref 89) (.ref 90) (.ref 91) (.ref 92) 387 0 388),
 (94,fuF 12 "mul" "mul" .none "cpy313.operator" 364 93),
 (100,coO "neg" "neg" 390 84 1 0 3 (.ref 95) (.ref 96) (.ref 97) (.ref 98) (.ref 99) 394 0 395),
 (101,fuF 13 "neg" "neg" .none "cpy313.operator" 364 100),
 (107,coO "sub" "sub" 397 86 2 0 3 (.ref 102) (.ref 103) (.ref 104) (.ref 105) (.ref 106) 402 0 403),
 (108,fuF 14 "sub" "sub" .none "cpy313.operator" 364 107),
 (114,coO "delitem" "delitem" 405 88 2 0 3 (.ref 109) (.ref 110) (.ref 111) (.ref 112) (.ref 113) 410 0 411),
 (115,fuF 15 "delitem" "delitem" .none "cpy313.operator" 364 114),
 (121,coO "getitem" "getitem" 413 90 2 0 3 (.ref 116) (.ref 117) (.ref 118) (.ref 119) (.ref 120) 418 0 419),
 (122,fuF 16 "getitem" "getitem" .none "cpy313.operator" 364 121),
 (128,coO "indexOf" "indexOf" 421 92 2 0 3 (.ref 123) (.ref 124) (.ref 125) (.ref 126) (.ref 127) 428 0 429),
 (129,fuF 17 "indexOf" "indexOf" .none "cpy313.operator" 364 128),
 (135,coO "setitem" "setitem" 431 98 3 0 3 (.ref 130) (.ref 131) (.ref 132) (.ref 133) (.ref 134) 437 0 438),
 (136,fuF 18 "setitem" "setitem" .none "cpy313.operator" 364 135),
 (145,{ cls:=.type "tuple",data:=.seq #[.int 14 0,.int 10 0,.int 4 0,.int 1 0,.int 1 0,.int 22 0,.int 0 0,.int 31 0,.int 16 0,.int 127 0,.int 0 0,.int 13 0,.int 7 0,.int 22 0,.int 0 0,.int 31 0,.int 16 0,.int 127 0,.int 0 0,.int 1 0] }),
 (146,{ cls:=.type "re.Pattern",data:=.fields #[.str "[\\x00-\\x1F\\x7F]" 477,.int 32 500,.int 0 0,.none,.none,.ref 145,.int 0 0] }),
 (150,{ cls:=.type "tuple",data:=.seq #[.int 14 0,.int 14 0,.int 4 0,.int 1 0,.int 1 0,.int 9 0,.int 4294966783 0,.int 0 0,.int 0 0,.int 2147483648 0,.int 0 0,.int 0 0,.int 0 0,.int 0 0,.int 0 0,.int 13 0,.int 11 0,.int 9 0,.int 4294966783 0,.int 0 0,.int 0 0,.int 2147483648 0,.int 0 0,.int 0 0,.int 0 0,.int 0 0,.int 0 0,.int 1 0] }),
 (151,{ cls:=.type "re.Pattern",data:=.fields #[.str "[\\x00-\\x08\\x0A-\\x1F\\x7F]" 503,.int 32 534,.int 0 0,.none,.none,.ref 150,.int 0 0] }),
 (167,{ cls:=.type "tuple",data:=.seq #[.none] }),
 (173,coO "__init__" "Headers.__init__" 558 115 2 0 3 (.ref 168) (.ref 169) (.ref 170) (.ref 171) (.ref 172) 565 0 566),
 (174,meF 24 0 "__init__" "Headers.__init__" (.ref 167) "cpy313.wsgiref.headers" 440 173),
 (180,coO "_convert_string_type" "Headers._convert_string_type" 568 125 2 1 3 (.ref 175) (.ref 176) (.ref 177) (.ref 178) (.ref 179) 575 0 576),
 (181,meF 24 1 "_convert_string_type" "Headers._convert_string_type" .none "cpy313.wsgiref.headers" 440 180),
 (199,coO "__delitem__" "Headers.__delitem__" 594 140 2 0 3 (.ref 196) (.ref 197) .none .none (.ref 198) 597 0 598),
 (200,meF 24 4 "__delitem__" "Headers.__delitem__" .none "cpy313.wsgiref.headers" 440 199),
 (218,coO "get_all" "Headers.get_all" 616 150 2 0 3 (.ref 215) (.ref 216) .none .none (.ref 217) 619 0 620),
 (219,meF 24 7 "get_all" "Headers.get_all" .none "cpy313.wsgiref.headers" 440 218),
 (220,{ cls:=.type "tuple",data:=.seq #[.none] }),
 (226,coO "get" "Headers.get" 622 154 3 0 3 (.ref 221) (.ref 222) (.ref 223) (.ref 224) (.ref 225) 630 0 631),
 (227,meF 24 8 "get" "Headers.get" (.ref 220) "cpy313.wsgiref.headers" 440 226),
 (231,coO "keys" "Headers.keys" 633 161 1 0 3 (.ref 228) (.ref 229) .none .none (.ref 230) 636 0 637),
 (232,meF 24 9 "keys" "Headers.keys" .none "cpy313.wsgiref.headers" 440 231),
 (236,coO "values" "Headers.values" 639 164 1 0 3 (.ref 233) (.ref 234) .none .none (.ref 235) 642 0 643),
 (237,meF 24 10 "values" "Headers.values" .none "cpy313.wsgiref.headers" 440 236),
 (243,coO "items" "Headers.items" 645 167 1 0 3 (.ref 238) (.ref 239) (.ref 240) (.ref 241) (.ref 242) 649 0 650),
 (244,meF 24 11 "items" "Headers.items" .none "cpy313.wsgiref.headers" 440 243),
 (269,coO "setdefault" "Headers.setdefault" 672 179 3 0 3 (.ref 264) (.ref 265) (.ref 266) (.ref 267) (.ref 268) 679 0 680),
 (270,meF 24 15 "setdefault" "Headers.setdefault" .none "cpy313.wsgiref.headers" 440 269),
 (276,coO "add_header" "Headers.add_header" 682 187 3 0 11 (.ref 271) (.ref 272) (.ref 273) (.ref 274) (.ref 275) 692 0 693),
 (277,meF 24 16 "add_header" "Headers.add_header" .none "cpy313.wsgiref.headers" 440 276),
 (279,{ cls:=.type "dict",data:=.dict #[en P "__module__" 553 (.str "cpy313.wsgiref.headers" 440),en P "__firstlineno__" 557 (.int 113 556),en P "__init__" 567 (.ref 174),en P "_convert_string_type" 577 (.ref 181),en P "__len__" 584 (.ref 188),en P "__setitem__" 593 (.ref 195),en P "__delitem__" 599 (.ref 200),en P "__getitem__" 607 (.ref 207),en P "__contains__" 615 (.ref 214),en P "get_all" 621 (.ref 219),en P "get" 632 (.ref 227),en P "keys" 638 (.ref 232),en P "values" 644 (.ref 237),en P "items" 651 (.ref 244),en P "__repr__" 658 (.ref 251),en P "__str__" 664 (.ref 256),en P "__bytes__" 671 (.ref 263),en P "setdefault" 681 (.ref 270),en P "add_header" 694 (.ref 277),en P "__static_attributes__" 696 (.ref 278),en P "__dict__" 698 (.ref 281),en P "__weakref__" 700 (.ref 282),en P "__doc__" 701 .none] 4 }),
 (280,{ cls:=.type "type",data:=.cls { name:="Headers",bases:=[.type "object"],mro:=[.ref 280,.type "object"],ns:=279,qualname:="Headers" },slots:=#[none,none,some (.str "Headers" 546),some (.str "Headers" 554),some (.builtin "object.__new__"),some (.bool true)] }),
 (290,coO "_law_cells" "_law_cells" 706 201 1 0 3 (.ref 285) (.ref 286) (.ref 287) (.ref 288) (.ref 289) 713 0 714),
 (291,fuF 26 "_law_cells" "_law_cells" .none "law_wc0026_01" 704 290),
 (295,coO "_law_ties" "_law_ties" 716 207 1 0 3 (.ref 292) (.ref 293) .none .none (.ref 294) 719 0 720),
 (296,fuF 27 "_law_ties" "_law_ties" .none "law_wc0026_01" 704 295),
 (300,coO "_law_entries" "_law_entries" 722 215 1 0 3 (.ref 297) (.ref 298) .none .none (.ref 299) 725 0 726),
 (301,fuF 28 "_law_entries" "_law_entries" .none "law_wc0026_01" 704 300),
 (307,coO "_law_net" "_law_net" 728 217 2 0 3 (.ref 302) (.ref 303) (.ref 304) (.ref 305) (.ref 306) 739 0 740),
 (308,fuF 29 "_law_net" "_law_net" .none "law_wc0026_01" 704 307),
 (314,coO "_law_lacks" "_law_lacks" 742 227 2 0 3 (.ref 309) (.ref 310) (.ref 311) (.ref 312) (.ref 313) 748 0 749),
 (315,fuF 30 "_law_lacks" "_law_lacks" .none "law_wc0026_01" 704 314),
 (319,coO "_law_grow" "_law_grow" 751 233 2 0 3 (.ref 316) (.ref 317) .none .none (.ref 318) 754 0 755),
 (320,fuF 31 "_law_grow" "_law_grow" .none "law_wc0026_01" 704 319),
 (324,coO "_law_ways" "_law_ways" 757 240 2 0 3 (.ref 321) (.ref 322) .none .none (.ref 323) 760 0 761),
 (325,fuF 32 "_law_ways" "_law_ways" .none "law_wc0026_01" 704 324),
 (331,coO "_law_dive" "_law_dive" 763 246 3 0 3 (.ref 326) (.ref 327) (.ref 328) (.ref 329) (.ref 330) 770 0 771),
 (332,fuF 33 "_law_dive" "_law_dive" .none "law_wc0026_01" 704 331),
 (338,coO "_law_run" "_law_run" 773 251 2 0 3 (.ref 333) (.ref 334) (.ref 335) (.ref 336) (.ref 337) 785 0 786),
 (339,fuF 34 "_law_run" "_law_run" .none "law_wc0026_01" 704 338),
 (343,coO "_law_pairings" "_law_pairings" 788 261 1 0 3 (.ref 340) (.ref 341) .none .none (.ref 342) 791 0 792),
 (344,fuF 35 "_law_pairings" "_law_pairings" .none "law_wc0026_01" 704 343),
 (350,coO "_law_number" "_law_number" 794 266 2 0 3 (.ref 345) (.ref 346) (.ref 347) (.ref 348) (.ref 349) 799 0 800),
 (351,fuF 36 "_law_number" "_law_number" .none "law_wc0026_01" 704 350),
 (355,coO "_law_struck" "_law_struck" 802 268 2 0 3 (.ref 352) (.ref 353) .none .none (.ref 354) 805 0 806),
 (356,fuF 37 "_law_struck" "_law_struck" .none "law_wc0026_01" 704 355),
 (360,coO "_law_total" "_law_total" 808 272 4 0 3 (.ref 357) (.ref 358) .none .none (.ref 359) 811 0 812),
 (361,fuF 38 "_law_total" "_law_total" .none "law_wc0026_01" 704 360),
 (365,coO "law" "law" 814 280 1 0 3 (.ref 362) (.ref 363) .none .none (.ref 364) 817 0 818),
 (366,fuF 39 "law" "law" .none "law_wc0026_01" 704 365)]
noncomputable abbrev Jdp:List Nat:=[2,3,37,38,44,45,51,52,58,59,65,66,72,73,79,80,86,87,93,94,100,101,107,108,114,115,121,122,128,129,135,136,145,146,150,151,167,173,174,180,181,199,200,218,219,220,226,227,231,232,236,237,243,244,269,270,276,277,279,280,290,291,295,296,300,301,307,308,314,315,319,320,324,325,331,332,338,339,343,344,350,351,355,356,360,361,365,366]
theorem Ba {α:Type} {Q:List α→Prop} {k:Nat} (q:∀ a vs,vs.length = k→Q (a :: vs)):∀ vs,vs.length = k + 1→Q vs:=fun vs=>by
 cases vs with
 | nil=>exact fun h=>absurd h (Nat.succ_ne_zero k).symm
 | cons a vs=>exact fun h=>q a vs (Nat.succ.inj h)
theorem Jev {α:Type} {Q:List α→Prop} (q:Q []):∀ vs,vs.length = 0→Q vs:=fun vs h=>by refine rwb (List.length_eq_zero_iff.mp h) ?_;exact q
theorem all1 {α:Type} {Q:List α→Prop} (q:∀ a,Q [a]):∀ vs,vs.length = 1→Q vs:=Ba fun a=>Jev (q a)
theorem all2 {α:Type} {Q:List α→Prop} (q:∀ a b,Q [a,b]):∀ vs,vs.length = 2→Q vs:=Ba fun a=>all1 (q a)
theorem Sr {α:Type} {Q:List α→Prop} (q:∀ a b c,Q [a,b,c]):∀ vs,vs.length = 3→Q vs:=Ba fun a=>all2 (q a)
theorem Jdt {α:Type} {Q:List α→Prop} (q:∀ a b c d,Q [a,b,c,d]):∀ vs,vs.length = 4→Q vs:=Ba fun a=>Sr (q a)
theorem Jeu {α:Type} {Q:List α→Prop} (q:∀ a b c d e f,Q [a,b,c,d,e,f]):∀ vs,vs.length = 6→Q vs:=Ba fun a=>Ba fun b=>Jdt (q a b)
structure XB (B:Base):Prop where
 ok:B.Ok
 k:(Gq B.w.params).In B.h
theorem mgX {B:Base} (X:XB B) {x:Str} {v:Value} (e:nsIn (Gq B.w.params) mainGlobals x = some (some v)):B.mg x = some v:=mg_of X.k X.ok.g e
theorem mgN {B:Base} (X:XB B) {x:Str} (e:nsIn (Gq B.w.params) mainGlobals x = some none):B.mg x = none:=mg_none_of X.k X.ok.g e
theorem Jm.of {B:Base} (X:XB B) {a:Addr} {body:List Stmt} {scope:Scope} {names:List Str} {oc:Value} {od:Option Addr} {fd:FuncData} {osl:Array (Option Value)}
  (h1:(Gq B.w.params).lookup a = some ⟨oc,od,.func fd,osl⟩) (h2:fd.body = .stmts body) (h3:fd.scope = scope) (h4:fd.closure = []) (h5:fd.globals = mainGlobals) (h6:fd.builtins = builtinsNs) (h7:codeIn (Gq B.w.params) fd.code fd.qualname = true)
  (h8:∀ vs:List Value,vs.length = names.length→bindArgs fd ⟨vs,[]⟩ = pure (names.zip vs)):Jm B a body scope names []:=
 ⟨_,fd,X.k _ _ h1,rfl,h2,h3,h4,h5,h6,codeRec_of X.k h7,fun s vs Z hl=>⟨[],rfl,fun Z=>.nil,by rw [append_nil];exact BindsTo.of_eq (h8 vs hl)⟩⟩
theorem EvE.jq {B:Base} {A:Around} {fm:Fm} {sc:Scope} {cn:List Str} {ρ:Loc} {E:Value→Shared→Prop} {H:Led} {n:Nat} {P:D→Led→Prop} {x:Str} {np pos:Pos} {args:List Expr} {a:Addr} {body:List Stmt} {scope:Scope} {names:List Str} {dflt:List (Str × D)}
  (C:Cx A fm sc cn n) (X:XB B) (S:Jm B a body scope names dflt) (h:EvL B A fm ρ H pos args (fun ds H2=>Jp B A fm ρ H2 (.ref a) ds P E) E) (hk:autoParam (sc.names.lookup x = some .globalImplicit) aR) (hm:autoParam (nsIn (Gq B.w.params) mainGlobals x = some (some (.ref a))) aR)
  (hd:autoParam ((x == ("__debug__":Str)) = false) aD) (hs:autoParam (∀ env,(backTo pos (starEach args env)).any (·.1) = false) aI):EvE B A fm ρ H (.Call (.Name x np) args [] pos) P E:=EvE.call (EvE.tq C (mgX X hm) ⟨_,Kp.xl S,h⟩ hk hd) hs
theorem EvL.loc {B:Base} {A:Around} {fm:Fm} {sc:Scope} {cn:List Str} {ρ:Loc} {E:Value→Shared→Prop} {H:Led} {n:Nat} {es:List Expr} {PL:List D→Led→Prop} {pos:Pos} {x:Str} {p:Pos} {d:D} (C:Cx A fm sc cn n) (hd:ρ.lookup x = some d) (h:EvL B A fm ρ H pos es (fun ds H2=>PL (d :: ds) H2) E) (hk:autoParam (sc.names.lookup x = some .local) aR) (hn:autoParam ((x == ("__debug__":Str)) = false) aD) (he:autoParam (∀ env,starEach (.Name x p :: es) env = (false,eval (.Name x p) env) :: starEach es env) aI):EvL B A fm ρ H pos (.Name x p :: es) PL E:=EvL.lf (Lf.loc C hd hk hn) h he
theorem EvL.int {B:Base} {A:Around} {fm:Fm} {ρ:Loc} {E:Value→Shared→Prop} {H:Led} {es:List Expr} {PL:List D→Led→Prop} {pos:Pos} {i:Int} {k} {p:Pos} (h:EvL B A fm ρ H pos es (fun ds H2=>PL (.int i :: ds) H2) E) (he:autoParam (∀ env,starEach (.Constant (.int i) k p :: es) env = (false,eval (.Constant (.int i) k p) env) :: starEach es env) aI):EvL B A fm ρ H pos (.Constant (.int i) k p :: es) PL E:=EvL.lf Lf.int h he
section
variable {B:Base} {A:Around} {fm:Fm} {sc:Scope} {cn:List Str} {ρ:Loc} {E:Value→Shared→Prop} {F:Fz} {H:Led} {n:Nat} {P:D→Led→Prop} {N:Loc→Led→Prop} {R:D→Led→Prop}
theorem Ss.assign {x:Str} {p pos value} {rest:List Stmt} (C:Cx A fm sc cn n) (h:EvE B A fm ρ H value (fun d H1=>ExS B A fm (put x d ρ) H1 rest N R E) E) (hk:autoParam (Jj sc cn x = true) aR) (hc:autoParam (Lg value = true) aR):ExS B A fm ρ H (.Assign [.Name x p] value pos :: rest) N R E:=Ss.cons (S1.assign C h hk hc)
theorem Ss.ret {e pos} {rest:List Stmt} (h:EvE B A fm ρ H e R E):ExS B A fm ρ H (.Return (some e) pos :: rest) N R E:=Ss.cons (S1.ret h)
theorem Ss.xh {test body orelse pos} {rest:List Stmt} (h:EvB B A fm ρ H test (fun b H1=>if b then ExS B A fm ρ H1 body (fun ρ1 H1=>ExS B A fm ρ1 H1 rest N R E) R E else ExS B A fm ρ H1 orelse (fun ρ1 H1=>ExS B A fm ρ1 H1 rest N R E) R E) E):ExS B A fm ρ H (.If test body orelse pos :: rest) N R E:=Ss.cons (S1.xh h)
noncomputable def qv:Program:=view PySem.Challenge.pw_wc0026_01 [0,2,3,4,5,6,7,8,10,11,12,13,14,15,16,17,18,20,21,22,24,26,27,28,29,30,31,32,33,34,35,36,37,38,39]
noncomputable def looseV:List Str:=["tspecials", "_name_disallowed_re", "_value_disallowed_re", "_formatparam"]
noncomputable def hookV:Hook:=kmHook Gq Jdp (fun Z=>by kernel_rfl) [293,54,47]
theorem Ml (tb:String→Option Builtin) (p:Program) (w:World) (N:Nat):openEnds tb p w N = ((importEnds tb (opening p) w N (start (opening p)).1 (start (opening p)).2).bind (fenceModules? p)).bind fun s₀=>match s₀.heap.isNs mainGlobals && s₀.gens.size == 0 with
  | true=>(topRun tb p w s₀.heap.objs.size (s₀.heap.nsMap mainGlobals "__annotations__") N s₀ (topStub p)).bind fun s₁=>match staticsOk (importedModules p.main.body) s₀.heap s₁.heap && namesBound p s₁.heap && gensDone s₁ && laidKept s₀.heap s₁.heap with
   | true=>some s₁
   | false=>none
  | false=>none:=rfl
theorem left:LeftO PySem.Challenge.pw_wc0026_01 qv looseV (fun s=>xlAt qv [] s && recOk (RowW.records PySem.Challenge.rw_wc0026_01.row.toRowW) s) (Hook.obs hookV) (Hook.val hookV) 3958:=fun w=>by
 rw [Ml,PySem.W.Fast.te14082659384304107361,PySem.W.Fast.te10274390034422433532,PySem.W.Fast.te14289696077712309145,PySem.W.Fast.te1435165496053646825,PySem.W.Fast.te4187177175401517315,PySem.W.Fast.te14364793385576792824,PySem.W.Fast.te5923862056798008813]
 kernel_rfl
theorem said:PySem.Challenge.rw_wc0026_01.wellSaid = true:=by
 rw [PySem.W.Fast.te9446332074065402090]
 kernel_rfl
end
end Mine.Tactic
end
section
open PySem PyProof.Rows
namespace Mine.Tactic
theorem Mx (a n:Nat):(max 0 (min (a:Int) n)).toNat = min a n:=by
 rcases Nat.le_total a n with h | h
 ·rw [Int.min_eq_left (Int.ofNat_le.mpr h),Int.max_eq_right (Int.natCast_nonneg _),toNat_natCast,Nat.min_eq_left h]
 ·rw [Int.min_eq_right (Int.ofNat_le.mpr h),Int.max_eq_right (Int.natCast_nonneg _),toNat_natCast,Nat.min_eq_right h]
theorem Fg (n:Nat):(-1:Int) + (n + 1:Nat) = n:=by lia
theorem D8 (n:Nat):((-1:Int) + n).toNat = n - 1:=by
 cases n with
 | zero=>rfl
 | succ n=>rw [Fg];rfl
theorem Nn (n:Nat):((n:Int) - 1).toNat = n - 1:=by rw [Int.sub_eq_add_neg,Int.add_comm];exact D8 n
theorem Jdm (x:Int):x % 5 ≠ (x + 1 + x / 5 % 4) % 5 ∧ 0 ≤ x % 5 ∧ x % 5 < 5 ∧ 0 ≤ (x + 1 + x / 5 % 4) % 5 ∧ (x + 1 + x / 5 % 4) % 5 < 5:=by
 refine ⟨fun e=>?_,emod_nonneg _ (by decide),emod_lt_of_pos _ (by decide),emod_nonneg _ (by decide),emod_lt_of_pos _ (by decide)⟩;have h1:=emod_nonneg (x / 5) (show (4:Int) ≠ 0 by decide);have h2:=emod_lt_of_pos (x / 5) (show (0:Int) < 4 by decide);generalize x / 5 % 4 = d at *;lia
theorem toNat_lt' {a c:Int} (h:a ≠ c) (ha:0 ≤ a) (hc:0 ≤ c) (q:¬ c.toNat < a.toNat):a.toNat < c.toNat:=Nat.lt_of_le_of_ne (Nat.not_lt.mp q) fun e=>h (by rw [← Int.toNat_of_nonneg ha,← Int.toNat_of_nonneg hc,e])
theorem Qb {a:Int} (h:a < 5):a.toNat < 5:=(Int.toNat_lt' (by decide)).mpr h
theorem Jr (k:Nat):(0:Int) < 2 ^ k:=Int.pow_pos (by decide)
theorem Js (k:Nat):((2 ^ k:Nat):Int) = (2:Int) ^ k:=by simp
theorem Ic {a:Int} {k:Nat} (h:0 ≤ a):Builtin.bitAnd a (2 ^ k - 1) = a % 2 ^ k:=by
 refine el11 (Int.eq_ofNat_of_zero_le h) fun n z1=>?_;subst z1;have hk:=Jr k;refine rwb (bitAnd_pp (by lia) (by lia)) ?_;have e:((2:Int) ^ k - 1).toNat = 2 ^ k - 1:=by
  rw [← Js];lia
 refine rwb e ?_;rw [toNat_natCast,Nat.and_two_pow_sub_one_eq_mod];rw [Int.natCast_emod,Js]
theorem Rj {x y:Int} {k:Nat} (hx:0 ≤ x) (hy:0 ≤ y) (h:y < 2 ^ k):Builtin.bitOr (x * 2 ^ k) y = x * 2 ^ k + y:=by
 refine el11 (Int.eq_ofNat_of_zero_le hx) fun m z1=>?_;subst z1;refine el11 (Int.eq_ofNat_of_zero_le hy) fun n z1=>?_;subst z1;have hn:n < 2 ^ k:=by rw [← Js] at h;exact_mod_cast h
 have e:((m:Int) * 2 ^ k) = ((m * 2 ^ k:Nat):Int):=by rw [Int.natCast_mul,Js]
 rewrite [bitOr_and];refine rwb e (rwb (bitAnd_pp (by lia) (by omega)) ?_);rw [toNat_natCast,toNat_natCast];have h1:=nat_or_add_and (m * 2 ^ k) n;have h2:m <<< k + n = m <<< k ||| n:=Nat.shiftLeft_add_eq_or_of_lt hn m;rw [Nat.shiftLeft_eq] at h2;have:m * 2 ^ k &&& n = 0:=by lia
 refine rwb this ?_;lia
theorem Hv {x:Int} {s:Nat} (hx:0 ≤ x):Builtin.bitXor x (x / 2 ^ s * 2 ^ s) = x % 2 ^ s:=by
 refine el11 (Int.eq_ofNat_of_zero_le hx) fun n z1=>?_;subst z1;have e:((n:Int) / 2 ^ s * 2 ^ s) = ((n / 2 ^ s * 2 ^ s:Nat):Int):=by rw [Int.natCast_mul,Int.natCast_ediv,Js]
 have e2:((n:Int) % 2 ^ s) = ((n % 2 ^ s:Nat):Int):=by rw [Int.natCast_emod,Js]
 rewrite [bitXor_and];refine rwb e (rwb e2 (rwb (bitAnd_pp (by lia) (by lia)) ?_));rw [toNat_natCast,toNat_natCast];have hlt:n % 2 ^ s < 2 ^ s:=Nat.mod_lt _ (Nat.pow_pos (by decide));have h1:n = (n / 2 ^ s * 2 ^ s) ||| (n % 2 ^ s):=by
  have h2:(n / 2 ^ s) <<< s + n % 2 ^ s = (n / 2 ^ s) <<< s ||| n % 2 ^ s:=Nat.shiftLeft_add_eq_or_of_lt hlt _;rw [Nat.shiftLeft_eq] at h2;(refine rwf h2 ?_;rw [Nat.mul_comm]);exact (Nat.div_add_mod n (2 ^ s)).symm
 have h3:n &&& (n / 2 ^ s * 2 ^ s) = n / 2 ^ s * 2 ^ s:=by
  conv=>lhs;lhs;rw [h1]
  rw [Nat.and_comm,Nat.and_or_distrib_left,Nat.and_self];have h4:=nat_or_add_and (n / 2 ^ s * 2 ^ s) (n % 2 ^ s);replace h4:=Eq.symm h1 ▸ h4;have h5:n / 2 ^ s * 2 ^ s + n % 2 ^ s = n:=by rw [Nat.mul_comm];exact Nat.div_add_mod n (2 ^ s)
  have:n / 2 ^ s * 2 ^ s &&& n % 2 ^ s = 0:=by lia
  refine rwb this ?_;rw [Nat.or_zero]
 rw [h3];have h5:n / 2 ^ s * 2 ^ s + n % 2 ^ s = n:=by rw [Nat.mul_comm];exact Nat.div_add_mod n (2 ^ s)
 lia
theorem Ze {a:Int}:a.natAbs < 2 ^ intBits a:=by
 unfold intBits
 by_cases h:(a == 0) = true
 ·rw [if_pos h];have:a = 0:=by simpa using h
  subst this;decide
 ·rw [if_neg h];exact Nat.lt_log2_self
theorem bits_le {a:Int} {k:Nat} (h:a.natAbs < 2 ^ k):intBits a ≤ k:=by
 unfold intBits
 by_cases h0:(a == 0) = true
 ·refine rwb (if_pos h0) ?_;lia
 ·refine rwb (if_neg h0) ?_;have hne:a.natAbs ≠ 0:=by intro q;apply h0;simp;lia
  exact (Nat.log2_lt hne).mpr h
theorem Pa {a:Int} (h:a ≠ 0):2 ^ (intBits a - 1) ≤ a.natAbs:=by
 unfold intBits;rw [if_neg (by simpa using h),Nat.add_sub_cancel];exact Nat.log2_self_le (by lia)
theorem X4 {a:Int} (h:a ≠ 0):0 < intBits a:=by
 unfold intBits;rw [if_neg (by simpa using h)];lia
theorem Pb {a:Int} {k:Nat} (h1:(2:Int) ^ k ≤ a) (h2:a < 2 ^ (k + 1)):intBits a = k + 1:=by
 have hp:=Jr k;refine el11 (Int.eq_ofNat_of_zero_le (show 0 ≤ a by lia)) fun n z1=>?_;subst z1;rw [← Js] at h1 h2;have h1:2 ^ k ≤ n:=by exact_mod_cast h1
 have h2:n < 2 ^ (k + 1):=by exact_mod_cast h2
 have a1:=bits_le (a:=(n:Int)) (k:=k + 1) (by simpa using h2);have a2:=Ze (a:=(n:Int));rw [Int.natAbs_natCast] at a2;have:k < intBits (n:Int):=by
  rcases Nat.lt_or_ge k (intBits (n:Int)) with h | h
  ·exact h
  ·have:=pow_le_pow_right (n:=2) (by decide) h;lia
 lia
theorem J0 {a b:Int} (hb:0 ≤ b):a.fdiv b = a / b:=Int.fdiv_eq_ediv_of_nonneg _ hb
theorem J3 {a b:Int} (hb:0 ≤ b):a.fmod b = a % b:=Int.fmod_eq_emod_of_nonneg _ hb
theorem Ku {x y:Int} (h:intBits y ≤ 9000):Builtin.divisionGoesByPylong x y = false:=by
 refine PyProof.noPylong_of_log2 ?_
 by_cases h0:y = 0
 ·subst h0;decide +kernel
 ·unfold intBits at h;rw [if_neg (by simpa using h0)] at h;lia
theorem Jb9 {x y:Int} (h:intBits x ≤ intBits y + 4000) (hy:y ≠ 0):Builtin.divisionGoesByPylong x y = false:=by
 unfold Builtin.divisionGoesByPylong;simp only [Bool.and_eq_false_iff,decide_eq_false_iff_not]
 right
 unfold intBits at h;rw [if_neg (show ¬ (y == 0) = true by simpa using hy)] at h ⊢
 by_cases hx:(x == 0) = true
 ·rw [if_pos hx];lia
 ·rw [if_neg hx] at h ⊢;lia
theorem Td {a b q r:Int} (h:a = q * b + r) (h0:0 ≤ r) (h1:r < b):q = a / b ∧ r = a % b:=by
 have hb:0 < b:=by lia
 have e:a = r + q * b:=by lia
 constructor
 ·(refine rwb e (rwb (Int.add_mul_ediv_right _ _ (by lia)) (rwb (Int.ediv_eq_zero_of_lt h0 h1) ?_)));lia
 ·simp only [e,Int.add_mul_emod_self_right,Int.emod_eq_of_lt h0 h1]
noncomputable def Vi (n:Nat):Nat→Int→List Int
 | 0,_=>[]
 | k + 1,x=>x % 2 ^ n :: Vi n k (x / 2 ^ n)
theorem Y8 (n:Nat) (x:Int):Vi n 0 x = []:=rfl
theorem Yw (n k:Nat) (x:Int):Vi n (k + 1) x = x % 2 ^ n :: Vi n k (x / 2 ^ n):=rfl
theorem Vw (n:Nat):∀ k x,(Vi n k x).length = k
 | 0,_=>rfl
 | k + 1,x=>by simp only [Y8,Yw,length_cons,Vw n k]
theorem Sp (n:Nat):∀ (j k:Nat) (x:Int),Vi n (j + k) x = Vi n j (x % 2 ^ (n * j)) ++ Vi n k (x / 2 ^ (n * j)):=by
 intro zs
 induction zs with
 | zero=>
  intro k x;simp [Y8,Yw]
 | succ j IH=>
  intro k x;have hp:=Jr n;have hj:=Jr (n * j);have e:(2:Int) ^ (n * (j + 1)) = 2 ^ n * 2 ^ (n * j):=by rw [← Int.pow_add];congr 1;rw [Nat.mul_add];lia
  simp only [show j + 1 + k = (j + k) + 1 by lia,Y8,Yw,IH k,Y8,Yw,cons_append,e];have e1:x % (2 ^ n * 2 ^ (n * j)) % 2 ^ n = x % 2 ^ n:=Int.emod_emod_of_dvd _ (Int.dvd_mul_right _ _);have e2:x % (2 ^ n * 2 ^ (n * j)) / 2 ^ n = x / 2 ^ n % 2 ^ (n * j):=by
   have h1:=Int.mul_ediv_add_emod x (2 ^ n * 2 ^ (n * j));have h2:x / (2 ^ n * 2 ^ (n * j)) = x / 2 ^ n / 2 ^ (n * j):=by simp only [Int.ediv_ediv_of_nonneg (Int.le_of_lt hp)]
   have h3:=Int.mul_ediv_add_emod (x / 2 ^ n) (2 ^ (n * j));have h4:x = x % (2 ^ n * 2 ^ (n * j)) + 2 ^ n * (2 ^ (n * j) * (x / 2 ^ n / 2 ^ (n * j))):=by (refine rwf h2 ?_;rw [← Int.mul_assoc]);lia
   have h5:x / 2 ^ n = x % (2 ^ n * 2 ^ (n * j)) / 2 ^ n + 2 ^ (n * j) * (x / 2 ^ n / 2 ^ (n * j)):=by
    conv=>lhs;rw [h4]
    rw [Int.add_mul_ediv_left _ _ (by lia)]
   lia
  simp only [e1,e2,Int.ediv_ediv_of_nonneg (Int.le_of_lt hp)]
noncomputable def valOf (n:Nat):List Int→Int
 | []=>0
 | d :: r=>d + valOf n r * 2 ^ n
theorem J5 (n:Nat):valOf n [] = 0:=rfl
theorem Jv (n:Nat) (d:Int) (r:List Int):valOf n (d :: r) = d + valOf n r * 2 ^ n:=rfl
theorem Uk (n:Nat):∀ xs ys:List Int,valOf n (xs ++ ys) = valOf n xs + valOf n ys * 2 ^ (n * xs.length):=by
 intro zs
 induction zs with
 | nil=>
  intro ys;simp [J5,Jv]
 | cons d r IH=>
  intro ys;simp only [cons_append,J5,Jv,J5,Jv,IH ys,length_cons,Nat.mul_add,Nat.mul_one,Int.pow_add,Int.add_mul,Int.mul_assoc];lia
theorem Hr (n:Nat):∀ (k:Nat) (x:Int),0 ≤ x→x < 2 ^ (n * k)→valOf n (Vi n k x) = x:=by
 intro zs
 induction zs with
 | zero=>
  intro x h0 h1;simp at h1;simp [Y8,Yw,J5,Jv];lia
 | succ k IH=>
  intro x h0 h1;have hp:=Jr n;rw [Yw,Jv,IH _ (Int.ediv_nonneg h0 (Int.le_of_lt hp))]
  ·rw [Int.mul_comm];have:=Int.mul_ediv_add_emod x (2 ^ n);lia
  ·refine Int.ediv_lt_of_lt_mul hp ?_;rw [← Int.pow_add];simp only [Nat.mul_add,Nat.mul_one] at h1;exact h1
theorem T1 (n:Nat) (hn:0 < n) {K:Int} (hK:0 ≤ K):∀ xs:List Int,(∀ x ∈ xs,-K ≤ x ∧ x ≤ K)→-(K * (2 ^ (n * xs.length) - 1)) ≤ valOf n xs ∧ valOf n xs ≤ K * (2 ^ (n * xs.length) - 1):=by
 intro zs
 induction zs with
 | nil=>
  intro Z;simp [J5,Jv]
 | cons x r IH=>
  intro h;refine Yd (IH fun y hy=>h y (.tail _ hy)) fun h1 h2=>?_;refine Yd (h x (.head _)) fun h3 h4=>?_;have hp:(2:Int) ≤ 2 ^ n:=by
   have:2 ^ 1 ≤ 2 ^ n:=pow_le_pow_right (by decide) hn;have e:=Js n;lia
  have e:(2:Int) ^ (n * (r.length + 1)) = 2 ^ (n * r.length) * 2 ^ n:=by rw [← Int.pow_add];congr 1
  simp only [J5,Jv,length_cons,e];generalize (2:Int) ^ (n * r.length) = A at *;generalize (2:Int) ^ n = C at *;have a1:valOf n r * C ≤ K * (A - 1) * C:=Int.mul_le_mul_of_nonneg_right h2 (by lia);have a2:-(K * (A - 1)) * C ≤ valOf n r * C:=Int.mul_le_mul_of_nonneg_right h1 (by lia);have a3:K * (A * C - 1) = K * (A - 1) * C + (K * C - K):=by
   simp only [Int.mul_sub,Int.mul_sub,Int.sub_mul,Int.mul_assoc,Int.mul_one];lia
  have a4:K * 2 ≤ K * C:=Int.mul_le_mul_of_nonneg_left hp hK;simp only [Int.neg_mul] at a2;lia
theorem Gb {n:Nat} (hn:0 < n) {k:Nat} {xs:List Int} (h:∀ x ∈ xs,intBits x ≤ k):intBits (valOf n xs) ≤ k + n * xs.length:=by
 have hK:(0:Int) ≤ 2 ^ k:=Int.le_of_lt (Jr k);have h2:=T1 n hn hK xs fun x hx=>by
  have a:=Ze (a:=x);have b:=pow_le_pow_right (n:=2) (by decide) (h x hx);have e:=Js k;omega
 refine bits_le ?_;have e:=Js (k + n * xs.length);simp only [Int.pow_add] at e;have e2:(2:Int) ^ k * (2 ^ (n * xs.length) - 1) = 2 ^ k * 2 ^ (n * xs.length) - 2 ^ k:=by simp only [Int.mul_sub,Int.mul_one]
 have:=Jr k;omega
theorem Lw (n:Nat):∀ (k:Nat) (x:Int),∀ d ∈ Vi n k x,0 ≤ d ∧ d < 2 ^ n
 | 0,_,d,h=>by simp [Y8,Yw] at h
 | k + 1,x,d,h=>by
  have hp:=Jr n;simp only [Y8,Yw] at h
  rcases lC h with rfl | h
  ·exact ⟨emod_nonneg _ (by lia),emod_lt_of_pos _ hp⟩
  ·exact Lw n k _ d h
theorem Xp (n:Nat) (d:Int) (xs:List Int):valOf n (xs ++ [d]).reverse = d + valOf n xs.reverse * 2 ^ n:=by
 rw [List.reverse_append];rfl
theorem Hq {V d b t:Int} {n:Nat} (hb:0 < b) (ht:t = V % b * 2 ^ n + d):(V * 2 ^ n + d) / b = V / b * 2 ^ n + t / b ∧ (V * 2 ^ n + d) % b = t % b:=by
 have e1:=Int.mul_ediv_add_emod V b;have e2:=Int.mul_ediv_add_emod t b;have e:V * 2 ^ n + d = (V / b * 2 ^ n + t / b) * b + t % b:=by
  have e3:(b * (V / b) + V % b) * 2 ^ n = V * 2 ^ n:=by exact rwb e1 rfl
  rw [Int.add_mul] at e3;have e4:V / b * 2 ^ n * b = b * (V / b) * 2 ^ n:=by simp only [Int.mul_comm b,Int.mul_assoc,Int.mul_assoc,Int.mul_comm b]
  have e5:=Int.mul_comm b (t / b);rw [Int.add_mul];lia
 refine Yd (Td e (emod_nonneg _ (by lia)) (emod_lt_of_pos _ hb)) fun h1 h2=>?_;exact ⟨h1.symm,h2.symm⟩
set_option autoImplicit true
set_option tactic.hygienic true in
theorem Ks {M:Model} {Γ:Ctx} {p:Pos} {t:Sem Fin} {fs:List Frame} {s s':Shared} {e:End}
  (h:Runs M Γ p t fs s e s'):s.toks ≤ s'.toks:=by
 induction h <;>
  first
  | exact le_refl _
  | assumption
  | (exact le_trans (le_succ _) (by assumption))
  | (rename_i h1 h2;exact le_trans h1 h2)
  | (rename_i h1 _ h2;exact le_trans h1 h2)
  | (rename_i h1 _ _ h2;exact le_trans h1 h2)
theorem Ni {M:Model} {Γ:Ctx} {p:Pos} {g:Nat} {r:Resume} {s s':Shared} {res:GenResult}
  (h:Wakes M Γ p g r s res s'):s.toks ≤ s'.toks:=by
 unfold Wakes at h;split at h
 ·exact h.elim
 ·split at h
  ·obtain ⟨e,s₁,h1,-,-,rfl⟩:=h;exact (show (s.setGen g .running).toks ≤ _ from Ks h1:_)
  ·obtain ⟨-,rfl⟩:=h;exact le_refl _
  ·obtain ⟨-,rfl⟩:=h;exact le_refl _
 ·obtain ⟨e,s₁,h1,-,-,rfl⟩:=h;exact (show (s.setGen g .running).toks ≤ _ from Ks h1:_)
 ·obtain ⟨-,rfl⟩:=h;exact le_refl _
 ·obtain ⟨-,rfl⟩:=h;exact le_refl _
theorem Ja0 {X:Type} {M:Model} {Γ:Ctx} (n:Nat) (t:Sem X) {Q:X→Pos→Shared→Prop} {E:Value→Pos→Shared→Prop}
  (p:Pos) (s:Shared) (hn:n ≤ s.toks) (h:Sem.wp M Γ t Q E p s) :
  Sem.wp M Γ t (fun a p' s'=>Q a p' s' ∧ n ≤ s'.toks) (fun e p' s'=>E e p' s' ∧ n ≤ s'.toks) p s:=by
 induction t generalizing p s with
 | pure x=>exact ⟨h,hn⟩
 | raise v=>exact ⟨h,hn⟩
 | unsupported | finish | yield | fork | await | register=>exact h
 | rule _ k ih | «at» _ k ih | alloc _ k ih | loadIfAlive _ k ih | point _ k ih | ask k ih | os _ _ k ih | handled _ k ih | newGen _ k ih | stack k ih | thread k ih=>exact ih _ _ _ hn h
 | fresh k ih=>exact ih _ _ _ (le_trans hn (le_succ _)) h
 | load a _ k ih | genState a k ih=>refine el12 h fun o ho h=>?_;exact ⟨o,ho,ih _ _ _ hn h⟩
 | update a _ f k ih | choose _ _ k ih=>exact ⟨h.1,ih _ _ _ hn h.2⟩
 | call c h g l k ih=>refine el22 h fun r s' hr h2=>?_;exact ⟨r,s',hr,ih _ _ _ (le_trans hn (Ks hr)) h2⟩
 | resume g r l k ih=>refine el22 h fun r s' hr h2=>?_;exact ⟨r,s',hr,ih _ _ _ (le_trans hn (Ni hr)) h2⟩
theorem Nh {X:Type} {M:Model} {A:Around} (n:Nat) {t:Sem X} {Q:X→Shared→Prop} {E:Value→Shared→Prop}
  {s:Shared} (hn:n ≤ s.toks) (h:wpAny M A t Q E s) :
  wpAny M A t (fun a s'=>Q a s' ∧ n ≤ s'.toks) (fun e s'=>E e s' ∧ n ≤ s'.toks) s:=
 fun Γ p hA=>Ja0 n t p s hn (h Γ p hA)
theorem wpAny_toks {X:Type} {M:Model} {A:Around} {t:Sem X} {Q:X→Shared→Prop} {E:Value→Shared→Prop}
  {s:Shared} (h:wpAny M A t (fun a s'=>s.toks ≤ s'.toks→Q a s') (fun e s'=>s.toks ≤ s'.toks→E e s') s) :
  wpAny M A t Q E s:=
 wpAny_mono (Nh s.toks (le_refl _) h) (fun Z Z h=>h.1 h.2) (fun Z Z h=>h.1 h.2)
end Mine.Tactic
end
section
open PySem PySem.W PyProof.Rows PySem.Calls
namespace Mine.Tactic
section
variable {B:Base} {A:Around} {fm:Fm} {sc:Scope} {cn:List Str} {n:Nat} {ρ:Loc} {F:Fz} {H H0:Led} {E E':Value→Shared→Prop} {P P':D→Led→Prop} {PB:Bool→Led→Prop} {N N':Loc→Led→Prop} {R:D→Led→Prop}
theorem one {vs:List Value} {d:D} {F:Fz} (r:Jc F vs [d]):∃ v,vs = [v] ∧ Jd F v d:=by
 exact r.Gs fun Z Z h r=>r.mr ⟨_,rfl,h⟩
@[elab_as_elim] theorem V2 {vs:List Value} {d:D} {F:Fz} {m:List Value→Prop} (r:Jc F vs [d]) (k:∀ v,Jd F v d→m [v]):m vs:=r.Gs fun v Z h r=>r.mr (k v h)
@[elab_as_elim] theorem Ru {vs:List Value} {d e:D} {F:Fz} {m:List Value→Prop} (r:Jc F vs [d,e]) (k:∀ v u,Jd F v d→Jd F u e→m [v,u]):m vs:=r.Gs fun v Z h r=>V2 r fun u h2=>k v u h h2
@[elab_as_elim] theorem Bu {vs:List Value} {d e f:D} {F:Fz} {m:List Value→Prop} (r:Jc F vs [d,e,f]) (k:∀ v u w,Jd F v d→Jd F u e→Jd F w f→m [v,u,w]):m vs:=r.Gs fun v Z h r=>Ru r fun u w h2 h3=>k v u w h h2 h3
theorem two {vs:List Value} {d e:D} {F:Fz} (r:Jc F vs [d,e]):∃ v u,vs = [v,u] ∧ Jd F v d ∧ Jd F u e:=by
 exact Ru r fun v u h h2=>⟨v,u,rfl,h,h2⟩
theorem three {vs:List Value} {d e f:D} {F:Fz} (r:Jc F vs [d,e,f]):∃ v u w,vs = [v,u,w] ∧ Jd F v d ∧ Jd F u e ∧ Jd F w f:=by
 exact Bu r fun v u w h h2 h3=>⟨v,u,w,rfl,h,h2,h3⟩
theorem Jd.je6 {F:Fz} {v:Value} {x:Str} (r:Jd F v (.str x)):∃ t,v = .str x t:=r.zt fun Z Z=>⟨_,rfl⟩
theorem Cl.sx {ds:List D} (hz:ds.length < 2 ^ 62) (h:P (.int ds.length) H):Jp B A fm ρ H (.builtin "len") [.lst ds] P E:=fun F s vs S rv=>by
 refine V2 rv fun v r=>?_;refine el23 (r.list S.toGS) fun a vs z2 hl hr=>?_;subst z2;have e:vs.toArray.size = ds.length:=by simp [hr.length]
 exact len_list hl (by refine rwb e ?_;lia) (by refine rwb e ?_;exact here h (Fz.le.refl F) (.int _ _) (S.tok _))
theorem Cl.jfg {a:Addr} {ds:List D} (ha:(a,ds) ∈ H) (hz:ds.length < 2 ^ 62) (h:P (.int ds.length) H):Jp B A fm ρ H (.builtin "len") [.ref a] P E:=fun F s vs S rv=>by
 refine V2 rv fun v r=>?_;refine r.Kf ?_;refine el12 (S.toGS.list ha) fun vs hl hr=>?_;have e:vs.toArray.size = ds.length:=by simp [hr.length]
 exact len_list hl (by refine rwb e ?_;lia) (by refine rwb e ?_;exact here h (Fz.le.refl F) (.int _ _) (S.tok _))
theorem Cl.jfe {ds:List D} (hz:ds.length < 2 ^ 62) (h:P (.int ds.length) H):Jp B A fm ρ H (.builtin "len") [.tup ds] P E:=fun F s vs S rv=>by
 refine V2 rv fun v r=>?_;refine el23 (r.tuple S.toGS) fun a vs z2 hl hr=>?_;subst z2;have e:vs.toArray.size = ds.length:=by simp [hr.length]
 exact len_tuple hl (by refine rwb e ?_;lia) (by refine rwb e ?_;exact here h (Fz.le.refl F) (.int _ _) (S.tok _))
theorem Cl.jff {x:Str} (hz:x.length < 2 ^ 62) (h:P (.int x.length) H):Jp B A fm ρ H (.builtin "len") [.str x] P E:=fun F s vs S rv=>by
 refine V2 rv fun v r=>?_;refine r.zt fun t Z=>?_;exact len_str (by lia) (here h (Fz.le.refl F) (.int _ _) (S.tok _))
theorem Cl.divmod {a b:Int} (hb:b ≠ 0) (hp:Builtin.divisionGoesByPylong a b = false) (h:P (.tup [.int (a.fdiv b),.int (a.fmod b)]) H):Jp B A fm ρ H (.builtin "divmod") [.int a,.int b] P E:=fun F s vs S rv=>by
 refine Ru rv fun v u r1 r2=>?_;refine r1.z5 fun t1=>?_;refine r2.z5 fun t2=>?_;refine el13 (St.Ii (T:="tuple") (vs:=[.int (a.fdiv b) s.toks,.int (a.fmod b) (s.toks + 1)]) (ds:=[.int (a.fdiv b),.int (a.fmod b)]) (S.tok (s.toks + 1 + 1))) fun F' l e S'=>?_;exact divmod_int hb (here h l (.tup e (.cons (.int _ _) (.cons (.int _ _) .nil))) S') (.inl hp)
theorem Cl.abs {a:Int} (h:P (.int (if a < 0 then -a else a)) H):Jp B A fm ρ H (.builtin "abs") [.int a] P E:=fun F s vs S rv=>by
 refine V2 rv fun v r=>?_;refine r.z5 fun t=>?_;exact wpAny_toks (call_abs_int fun u tk ht=>here h (Fz.le.refl F) (.int _ _) (S.tok _ ht))
theorem Cl.Ts {a:Int} (h:P (.int (intBits a)) H):Jp B A fm ρ H (.builtin "int.bit_length") [.int a] P E:=fun F s vs S rv=>by
 refine V2 rv fun v r=>?_;refine r.z5 fun t=>?_;exact call_int_bit_length (here h (Fz.le.refl F) (.int _ _) (S.tok _))
theorem Cl.ma {a:Int} (h:∀ r t u v,P (.fro r (Zi 0 a 1 t u v)) H):Jp B A fm ρ H (.type "range") [.int a] P E:=fun F s vs S rv=>by
 refine V2 rv fun v r=>?_;refine r.z5 fun t=>?_;have S':=St.freeze (tk:=s.toks + 1 + 1) (a:=s.heap.objs.size) (o:=Zi 0 a 1 s.toks t (s.toks + 1)) (h':=s.heap.push (Zi 0 a 1 s.toks t (s.toks + 1))) (S.tok (s.toks + 1 + 1)) (fun b o e=>Heap.get?_push_of_some _ e) (Je _) (Heap.get?_push_size _ rfl);exact call_range_1 (here (h _ _ _ _) (Fz.Gr (S.fresh (Je _)).1) (.fro (Fz.put_self ..)) S'.1)
theorem Cl.jan {a b:Int} (h:∀ r t u v,P (.fro r (Zi a b 1 t u v)) H):Jp B A fm ρ H (.type "range") [.int a,.int b] P E:=fun F s vs S rv=>by
 refine Ru rv fun v u r1 r2=>?_;refine r1.z5 fun t1=>?_;refine r2.z5 fun t2=>?_;have S':=St.freeze (tk:=s.toks + 1) (a:=s.heap.objs.size) (o:=Zi a b 1 t1 t2 s.toks) (h':=s.heap.push (Zi a b 1 t1 t2 s.toks)) (S.tok (s.toks + 1)) (fun b o e=>Heap.get?_push_of_some _ e) (Je _) (Heap.get?_push_size _ rfl);exact call_range_2 (here (h _ _ _ _) (Fz.Gr (S.fresh (Je _)).1) (.fro (Fz.put_self ..)) S'.1)
theorem Cl.jda {a b c:Int} (hc:c ≠ 0) (hp:Builtin.divisionGoesByPylong (b - a) c = false) (h:∀ r t u v,P (.fro r (Zi a b c t u v)) H):Jp B A fm ρ H (.type "range") [.int a,.int b,.int c] P E:=fun F s vs S rv=>by
 refine Bu rv fun v u w r1 r2 r3=>?_;refine r1.z5 fun t1=>?_;refine r2.z5 fun t2=>?_;refine r3.z5 fun t3=>?_;have S':=St.freeze (tk:=s.toks) (a:=s.heap.objs.size) (o:=Zi a b c t1 t2 t3) (h':=s.heap.push (Zi a b c t1 t2 t3)) (S.tok s.toks) (fun b o e=>Heap.get?_push_of_some _ e) (Je _) (Heap.get?_push_size _ rfl);exact call_range_3 hc (here (h _ _ _ _) (Fz.Gr (S.fresh (Je _)).1) (.fro (Fz.put_self ..)) S'.1) (.inl hp)
theorem Cl.append {a:Addr} {ds:List D} {d:D} {H':Led} (x:V6 a (ds ++ [d]) ds H H') (hz:ds.length ≤ sizeLine) (h:P .none H'):Jp B A fm ρ H (.builtin "list.append") [.ref a,d] P E:=fun F s vs S rv=>by
 refine Ru rv fun v u r1 r2=>?_;exact r1.Kf<|L2 x hz S r2 fun s' S'=>here h (Fz.le.refl F) .none S'
theorem Cl.reverse {a:Addr} {ds:List D} {H':Led} (x:V6 a ds.reverse ds H H') (hz:ds.length ≤ sizeLine) (h:P .none H'):Jp B A fm ρ H (.builtin "list.reverse") [.ref a] P E:=fun F s vs S rv=>by
 refine V2 rv fun v r1=>?_;refine r1.Kf ?_;refine el22 (S.own _ x.mem) fun vs k e hr=>?_;have hT:s.TypeIs (.ref a) "list":=⟨_,e,rfl⟩;refine wpAny_call_entry PySem.F.slot_list_reverse hT PySem.F.entry_list_reverse ?_ (PySem.F.args_list_reverse_1 _);show wpAny _ _ (updateSeq a (·.reverse) >>= fun Z=>ret .none) _ _ s;have hz':vs.toArray.size ≤ sizeLine:=by (refine rwb size_toArray (rwb hr.length ?_));exact hz
 refine wpAny_bind (wpAny_updateSeq e rfl (wpAny_pure ⟨.none,rfl,?_⟩) hz' (by refine rwb Array.size_reverse ?_;lia));refine here h (Fz.le.refl F) .none (S.set (tk:=s.toks) x (Heap.SameBut.update ..) ⟨vs.reverse,k,?_,hr.reverse⟩);refine rwb (Heap.get?_update_self _ e (by simp [Obj.mapSeq];rfl)) ?_;simp [Obj.mapSeq]
theorem Bv {ns:List Int}:∀ j,preSum (fun i=>ns.getD i 0) j = (ns.take j).sum:=by
 intro zs
 induction zs with
 | zero=>
  simp [preSum]
 | succ j IH=>
  rewrite [preSum];refine rwb IH ?_
  by_cases h:j < ns.length
  ·(refine rwb (take_succ_eq_append_getElem h) (rwb List.sum_append ?_));simp [List.getD_eq_getElem?_getD,h]
  ·have:ns.length ≤ j:=by lia
   refine rwb (take_of_length_le this) (rwb (take_of_length_le (by lia)) ?_);simp [List.getD_eq_getElem?_getD,this]
theorem Cl.sum {ns:List Int} (hh:A.handled = none) (h:P (.int ns.sum) H):Jp B A fm ρ H (.builtin "sum") [.lst (ns.map .int)] P E:=fun F s vs S rv=>by
 refine V2 rv fun v r=>?_;refine r.Mc fun a vs k ha hr=>?_;have hg:=S.froz _ _ ha;have hf:=Je s.heap;have hne:a ≠ s.heap.objs.size:=ne_of_lt (Heap.lt_size hg);have hl:vs.length = ns.length:=by (refine rwb hr.length ?_;rw [length_map])
 refine wpAny_toks (call_sum_walkG (wpAny_pyIter_list ⟨_,hg,rfl,_,rfl⟩ ⟨s.heap.objs.size,_,_,_,_,_,fun i=>ns.getD i 0,rfl,Walks.list (prog:=pw) (w:=B.w) (A:=A.in1) hh s.heap.objs.size a hne vs.toArray,
  ⟨⟨_,Heap.get?_push_size _ rfl,rfl,rfl⟩,⟨_,Heap.get?_push_of_some _ hg,rfl,_,rfl⟩⟩,fun b hb=>?_,fun i v hv=>?_,fun h' tk t' kp=>?_⟩))
 ·rw [Heap.size_push]
  rcases lC hb with rfl | hb
  ·exact Nat.lt_succ_self _
  ·refine rwb (lS hb) ?_;exact Nat.lt_succ_of_lt (Heap.lt_size hg)
 ·refine el12 (hr.get' (by simpa using hv)) fun d hd rv=>?_;replace hd:=ts (List.getElem?_map) hd;refine el12 (map_eq_some_iff.mp hd) fun m hm z2=>?_;subst z2;refine rv.z5 fun t=>?_;exact ⟨t,by dsimp only;(refine rwb (List.getD_eq_getElem?_getD) (rwb hm ?_));rfl⟩
 ·have e:preSum (fun i=>ns.getD i 0) vs.toArray.size = ns.sum:=by
   rewrite [Bv];refine rwb size_toArray (rwb hl ?_);exact rwb take_length rfl
  refine rwb e ?_;intro ht;exact here h (Fz.le.refl F) (.int _ _) (S.keeps fun b o e=>kp b o (fun hm=>by replace e:=(lS hm) ▸ e;replace e:=ts hf e;contradiction) (Heap.get?_push_of_some _ e))
theorem Ja5 {q q':Tab} (h:q ∈ Vn) (h':q' ∈ Vn) (e:q'.P = q.P):q' = q:=by
 revert h h' e;revert q q';refine no_implicit_lambda% (G2 (h:=?_));refine (?_:A2 _) _ _;intro q q' h h' e;simp only [Vn,mem_cons,not_mem_nil,or_false] at h h'
 rcases h with rfl | rfl | rfl <;> rcases h' with rfl | rfl | rfl <;> first | rfl | (exfalso;revert e;decide)
theorem St.jak {q:Tab} {s:Shared} {h':Heap} {tk:Nat} {c':Addr} {fd:FuncData} (S:St B fm ρ F H s) (hq:q ∈ Vn) (hx:Heap.ExtBut q.P s.heap h') (hge:s.heap.objs.size ≤ c') (hlt:c' < h'.objs.size)
  (hrec:h'.CodeRec (.ref c') q.qual) (hP:h'.get? q.P = some (tabObj #[rawInt q.line,rawInt q.col,.ref c'])) (hc:fd.code = .ref c') (hn:fd.qualname = q.qual) (ht:autoParam (s.toks ≤ tk) aK) :
  ∃ F',F.le F' ∧ Jd F' (.ref h'.objs.size) (.clo h'.objs.size fd) ∧ St B fm ρ F' H { s with heap:=h'.push { cls:=.type "function",data:=.func fd },toks:=tk }:=by
 revert S hq hx hge hlt hrec hP hc hn ht;revert B fm ρ F H q s h' tk c' fd;refine no_implicit_lambda% (G11 (h:=?_));refine (?_:A11 _) _ _ _ _ _ _ _ _ _ _ _;intro B fm ρ F H q s h' tk c' fd S hq hx hge hlt hrec hP hc hn ht;obtain ⟨c₂,oc,vs,t,e2,hoc,hd,hv⟩:=hrec;cases e2;have none_of:∀ b,s.heap.objs.size ≤ b→s.heap.get? b = none:=fun b hb=>Heap.get?_none_of_le hb;have cn:=none_of c' hge;have szle:s.heap.objs.size ≤ h'.objs.size:=Nat.le_of_lt (Nat.lt_of_le_of_lt hge hlt);have fn:=none_of h'.objs.size szle;have hPt:q.P ∈ Yb:=Wv hq;have hne:c' ≠ h'.objs.size:=ne_of_lt hlt;obtain ⟨psP,hPold⟩:=(S.tab q hq).there
 let fobj:Obj:={ cls:=.type "function",data:=.func fd }
 let F1:=F.put c' oc
 let F2:=F1.put h'.objs.size fobj
 have l1:F.le F1:=Fz.Gr (S.fresh cn).1;have F1n:F1.f h'.objs.size = none:=by show (F.put c' oc).f _ = _;rw [Fz.put_ne (Ne.symm hne)];exact (S.fresh fn).1
 have l2:F1.le F2:=Fz.Gr F1n;have le:F.le F2:=l1.trans l2;have F2c:F2.f c' = some oc:=l2.f _ _ (Fz.put_self ..);have F2f:F2.f h'.objs.size = some fobj:=Fz.put_self ..;have nw:∀ b o,F2.f b = some o→F.f b = some o ∨ (b = h'.objs.size ∧ o = fobj) ∨ (b = c' ∧ o = oc):=fun b o e=>by
  rcases Fz.yp e with e | e
  ·rcases Fz.yp e with e | e
   ·exact .inl e
   ·exact .inr (.inr e)
  ·exact .inr (.inl e)
 have newF:∀ b o,F2.f b = some o→F.f b = some o ∨ s.heap.get? b = none:=fun b o e=>by
  rcases nw b o e with e | ⟨rfl,_⟩ | ⟨rfl,_⟩
  ·exact .inl e
  ·exact .inr fn
  ·exact .inr cn
 have F2n:∀ b,s.heap.get? b ≠ none→F.f b = none→F2.f b = none:=fun b hb e=>by
  cases q2:F2.f b with
  | none=>rfl
  | some o=>
   rcases newF b o q2 with e2 | e2
   ·rw [e] at e2;cases e2
   ·exact absurd e2 hb
 have kp:∀ b o,b ≠ q.P→s.heap.get? b = some o→(h'.push fobj).get? b = some o:=fun b o hb e=>Heap.get?_push_of_some _ (hx b o hb e);have hP2:(h'.push fobj).get? q.P = some (tabObj #[rawInt q.line,rawInt q.col,.ref c']):=Heap.get?_push_of_some _ hP
 have g:GS B F2 H { s with heap:=h'.push fobj,toks:=tk }:={
  tp:=S.toGS.tpos ht
  tg:=S.toGS.jc7 ht
  same:=by obtain ⟨h,t,e⟩:=S.same;exact ⟨_,tk,by rw [e]⟩
  base:=fun b o e=>kp b o (fun z=>by rw [z,(S.tabF _ hPt).2] at e;cases e) (S.base b o e)
  froz:=fun b o e=>by
   rcases nw b o e with e | ⟨rfl,rfl⟩ | ⟨rfl,rfl⟩
   ·exact kp b o (fun z=>by rw [z,(S.tabF _ hPt).1] at e;cases e) (S.froz b o e)
   ·exact Heap.get?_push_size _ rfl
   ·exact Heap.get?_push_of_some _ hoc
  own:=fun p hp=>(S.own p hp).mono le fun o e=>kp _ o (fun z=>(S.apart p hp).2.2 (z ▸ hPt)) e
  nod:=S.nod
  apart:=fun p hp=>by
   obtain ⟨vs,m,e,_⟩:=S.own p hp;exact ⟨F2n _ (by rw [e];exact some_ne_none _) (S.apart p hp).1,(S.apart p hp).2⟩
  tab:=fun q' hq'=>by
   by_cases z:q'.P = q.P
   ·have:=Ja5 hq hq' z;subst this;exact .inr ⟨c',oc,vs,t,hP2,F2c,hd,hv⟩
   ·exact (S.tab q' hq').mono le fun o e=>kp _ o z e
  bk:=S.bk
  tabF:=fun a ha=>by
   obtain ⟨q',hq',rfl⟩:=Vd ha;obtain ⟨ps,e⟩:=(S.tab q' hq').there
   exact ⟨F2n _ (by rw [e];exact some_ne_none _) (S.tabF _ ha).1,(S.tabF _ ha).2⟩ }
 refine ⟨F2,le,.clo F2f hc F2c hd (by rw [hn];exact hv),?_⟩;refine S.upd g le (fun b o e Z ht Z=>.inl (kp b o (fun z=>ht (z ▸ hPt)) e)) (fun b hb q2=>?_) newF (fun p hp=>.inl (mem_map_of_mem hp)) ?_ fun b hbo o es m e hd=>⟨o,es,m,kp b o (fun z=>(S.ok.fresh b hbo).2.2 (z ▸ hPt)) e,hd⟩
 ·cases e:s.heap.get? b with
  | none=>exact hb e
  | some o=>
   by_cases z:b = q.P
   ·subst z;rw [show ({ s with heap:=h'.push fobj,toks:=tk }:Shared).heap.get? q.P = (h'.push fobj).get? q.P from rfl,hP2] at q2;cases q2
   ·rw [show ({ s with heap:=h'.push fobj,toks:=tk }:Shared).heap.get? b = (h'.push fobj).get? b from rfl,kp b o z e] at q2;cases q2
 ·refine S.toBears.kept le fun b o Z e Z n2=>.inl (kp b o (fun z=>?_) e);subst z;rw [hPold] at e;cases e;exact n2 _ rfl
theorem St.jal {q:Tab} {s:Shared} {h':Heap} {tk:Nat} {c':Addr} {oc:Obj} {vs:Array Value} {t:Tok} {fd:FuncData} (S:St B fm ρ F H s) (k:∀ b o,s.heap.get? b = some o→h'.get? b = some o) (hsz:s.heap.objs.size ≤ h'.objs.size)
  (hF:F.f c' = some oc) (hd:oc.data = .fields vs) (hv:vs[1]? = some (.str q.qual t)) (hc:fd.code = .ref c') (hn:fd.qualname = q.qual) (ht:autoParam (s.toks ≤ tk) aK) :
  ∃ F',F.le F' ∧ Jd F' (.ref h'.objs.size) (.clo h'.objs.size fd) ∧ St B fm ρ F' H { s with heap:=h'.push { cls:=.type "function",data:=.func fd },toks:=tk }:=by
 have fn:s.heap.get? h'.objs.size = none:=Heap.get?_none_of_le hsz;refine Yd (St.freeze (tk:=tk) (a:=h'.objs.size) (o:={ cls:=.type "function",data:=.func fd }) (h':=h'.push { cls:=.type "function",data:=.func fd }) S (fun b o e=>Heap.get?_push_of_some _ (k b o e)) fn (Heap.get?_push_size _ rfl)) fun S' l=>?_;exact ⟨_,l,.clo (Fz.put_self ..) hc (l.f _ _ hF) hd (by refine rwb hn ?_;exact hv),S'⟩
structure Oa (fd:FuncData) (qual:Str) (params:Arguments) (body:FuncBody) (scope:Scope) (clos:List (Str × Addr)):Prop where
 q:fd.qualname = qual
 p:fd.params = params
 b:fd.body = body
 s:fd.scope = scope
 c:fd.closure = clos
 g:fd.globals = mainGlobals
 bi:fd.builtins = builtinsNs
 d:fd.defaults = .none
 k:fd.kwdefaults = .none
theorem Xf {P:Addr} {F:Fz} {H:Led} {s:Shared} (g:GS B F H s) (hP:P ∈ Yb):s.heap.BuiltinsAt B.mg P:=by
 revert g hP;revert B P F H s;refine no_implicit_lambda% (G5 (h:=?_));refine (?_:A5 _) _ _ _ _ _;intro B P F H s g hP;obtain ⟨bm,ob,b1,b2,b3,b4,b5,b6⟩:=g.bk.bmain;refine ⟨bm,ob,b1,b2,fun q=>?_,fun q=>?_,g.base _ _ b3,b4,b5,b6⟩
 ·obtain ⟨o,es,ep,e,hd,_⟩:=g.bk.g;rw [q,e] at b3;cases b3;rw [hd] at b6;cases b6
 ·rw [q,(g.tabF P hP).2] at b3;cases b3
theorem Ey {P:Addr} {F:Fz} {H:Led} {s:Shared} (g:GS B F H s) (hP:P ∈ Yb):mainGlobals ≠ P:=fun q=>by
 obtain ⟨o,es,ep,e,_⟩:=g.bk.g;rw [q,(g.tabF P hP).2] at e;cases e
theorem Oj {q:Tab} {F:Fz} {H:Led} {s:Shared} (g:GS B F H s) (hq:q ∈ Vn):CodeHd s.heap q.c q.P:=(g.bk.heads q hq).keeps g.base
theorem Ff {q:Tab} {name:Str} {params:Arguments} {body:List Stmt} {scope:Scope} {pos:Pos} {fl:Nat} {s:Shared} {Q:Value→Shared→Prop} (S:St B fm ρ F H s) (hq:q ∈ Vn) (hcode:fm.env.code = .ref q.c)
  (hl:pos.line = q.line) (hcl:pos.col = q.col) (hcf:closureFor scope fm.env = pure (Vj fm.env scope.names []))
  (h:∀ f fd F' s',Oa fd q.qual params (.stmts body) scope (Vj fm.env scope.names [])→F.le F'→Jd F' (.ref f) (.clo f fd)→St B fm ρ F' H s'→Q (.ref f) s') :
  wpAny B.M A (makeFunction name q.qual params (.stmts body) scope fm.env [] [] [] pos fl) Q E s:=by
 revert S hq hcode hl hcl hcf h;revert B A fm ρ F H E q name params body scope pos fl s Q;refine no_implicit_lambda% (G16 (h:=?_));refine (?_:A16 _) _ _ _ _ _ _ _ _ _ _ _ _ _ _ _ _;intro B A fm ρ F H E q name params body scope pos fl s Q S hq hcode hl hcl hcf h;have hg:s.heap.Ns mainGlobals B.mg:=S.bk.g.keeps S.base;have hPt:=Wv hq;refine wpAny_toks ?_
 rcases S.tab q hq with hP | ⟨c',oc,vs,t,hP,hF,hd,hv⟩
 ·refine makeFunction_K hcf S.ok.glob hg hcode (Oj S.toGS hq) hP trivial rfl (Ey S.toGS hPt) (Xf S.toGS hPt) (no_implicit_lambda% (G5 (h:=?_)));refine (?_:A5 _) _ _ _ _ _;intro c' ctv doc h' tk hx hge hlt hrec htb;rw [hl,hcl] at htb;intro ht;obtain ⟨F',l,r,S'⟩:=S.jak (tk:=tk) (fd:=fnX name q.qual params body scope (Vj fm.env scope.names []) .none .none doc ((B.mg "__name__").getD .none) none (.ref c') ctv) hq hx hge hlt hrec htb rfl rfl;exact h _ _ F' _ ⟨rfl,rfl,rfl,rfl,rfl,rfl,rfl,rfl,rfl⟩ l r S'
 ·refine makeFunction_hit (cv:=.ref c') hcf S.ok.glob hg hcode (Oj S.toGS hq) hP ?_ ?_ (Xf S.toGS hPt) fun ctv doc h' tk k hsz ht=>?_
  ·exact trivial
  ·simp [codeAmong,rawInt,hl,hcl]
  obtain ⟨F',l,r,S'⟩:=S.jal (q:=q) (tk:=tk) (fd:=fnX name q.qual params body scope (Vj fm.env scope.names []) .none .none doc ((B.mg "__name__").getD .none) none (.ref c') ctv) k hsz hF hd hv rfl rfl;exact h _ _ F' _ ⟨rfl,rfl,rfl,rfl,rfl,rfl,rfl,rfl,rfl⟩ l r S'
theorem Fe {q:Tab} {name:Str} {params:Arguments} {body:Expr} {scope:Scope} {pos:Pos} {fl:Nat} {s:Shared} {Q:Value→Shared→Prop} (S:St B fm ρ F H s) (hq:q ∈ Vn) (hcode:fm.env.code = .ref q.c)
  (hl:pos.line = q.line) (hcl:pos.col = q.col) (hcf:closureFor scope fm.env = pure (Vj fm.env scope.names []))
  (h:∀ f fd F' s',Oa fd q.qual params (.expr body) scope (Vj fm.env scope.names [])→F.le F'→Jd F' (.ref f) (.clo f fd)→St B fm ρ F' H s'→Q (.ref f) s') :
  wpAny B.M A (makeFunction name q.qual params (.expr body) scope fm.env [] [] [] pos fl) Q E s:=by
 revert S hq hcode hl hcl hcf h;revert B A fm ρ F H E q name params body scope pos fl s Q;refine no_implicit_lambda% (G16 (h:=?_));refine (?_:A16 _) _ _ _ _ _ _ _ _ _ _ _ _ _ _ _ _;intro B A fm ρ F H E q name params body scope pos fl s Q S hq hcode hl hcl hcf h;have hg:s.heap.Ns mainGlobals B.mg:=S.bk.g.keeps S.base;have hPt:=Wv hq;refine wpAny_toks ?_
 rcases S.tab q hq with hP | ⟨c',oc,vs,t,hP,hF,hd,hv⟩
 ·refine kla_makeFunction hcf S.ok.glob hg hcode (Oj S.toGS hq) hP trivial rfl (Ey S.toGS hPt) (Xf S.toGS hPt) (no_implicit_lambda% (G4 (h:=?_)));refine (?_:A4 _) _ _ _ _;intro c' ctv h' tk hx hge hlt hrec htb;rw [hl,hcl] at htb;intro ht;obtain ⟨F',l,r,S'⟩:=S.jak (tk:=tk) (fd:=kla_fn name q.qual params body scope (Vj fm.env scope.names []) ((B.mg "__name__").getD .none) (.ref c') ctv) hq hx hge hlt hrec htb rfl rfl;exact h _ _ F' _ ⟨rfl,rfl,rfl,rfl,rfl,rfl,rfl,rfl,rfl⟩ l r S'
 ·refine kla_makeFunctionHit (cv:=.ref c') hcf S.ok.glob hg hcode (Oj S.toGS hq) hP ?_ ?_ (Xf S.toGS hPt) fun ctv h' tk k hsz=>?_
  ·exact trivial
  ·simp [codeAmong,rawInt,hl,hcl]
  intro ht;obtain ⟨F',l,r,S'⟩:=S.jal (q:=q) (tk:=tk) (fd:=kla_fn name q.qual params body scope (Vj fm.env scope.names []) ((B.mg "__name__").getD .none) (.ref c') ctv) k hsz hF hd hv rfl rfl;exact h _ _ F' _ ⟨rfl,rfl,rfl,rfl,rfl,rfl,rfl,rfl,rfl⟩ l r S'
noncomputable def Ri (sc scope:Scope):Bool:=scope.names.all fun p=>p.2 != .free || sc.names.lookup p.1 == some .cell || sc.names.lookup p.1 == some .free
theorem L1 {scope:Scope} {s:Shared} (C:Cx A fm sc cn n) (S:St B fm ρ F H s) (hf:Ri sc scope = true):∀ p ∈ scope.names,p.2 = .free→∃ c,fm.env.cells.lookup p.1 = some c:=fun p hp hk=>by
 have:=List.all_eq_true.mp hf p hp;rw [hk] at this;refine S.ok.celT p.1 ?_;unfold Env.kindOf;rw [C.sc]
 simpa using this
theorem S1.defn {q:Tab} {name:Str} {params:Arguments} {body:List Stmt} {scope:Scope} {pos:Pos} (C:Cx A fm sc cn n) (hq:q ∈ Vn) (hk:Jj sc cn name = true) (hcode:fm.env.code = .ref q.c) (hqual:qualnameIn fm.env name name = q.qual)
  (hl:pos.line = q.line) (hcl:pos.col = q.col) (hf:Ri sc scope = true) (hd0:params.defaults = []) (hk0:params.kw_defaults = []) (ha:∀ env,annTrees params none env = [])
  (h:∀ f fd,Oa fd q.qual params (.stmts body) scope (Vj fm.env scope.names [])→N (put name (.clo f fd) ρ) H):Ex1 B A fm ρ H (.FunctionDef name params body [] none [] scope none name pos) N R E:=fun F s S=>by
 refine nestDef_K hd0 hk0 (ha _) ?_;refine rwb hqual ?_;exact Ff S hq hcode hl hcl (Wd (L1 C S hf)) fun f fd F' s' I l r S'=>store C S' r hk fun s2 S2=>Uv (h f fd I) l S2
theorem EvE.lam {q:Tab} {params:Arguments} {body:Expr} {scope:Scope} {pos:Pos} (C:Cx A fm sc cn n) (hq:q ∈ Vn) (hcode:fm.env.code = .ref q.c) (hqual:fm.env.qual ++ "<lambda>" = q.qual)
  (hl:pos.line = q.line) (hcl:pos.col = q.col) (hf:Ri sc scope = true) (hd0:∀ env,defaultsOf params env = ([],[]))
  (h:∀ f fd,Oa fd q.qual params (.expr body) scope (Vj fm.env scope.names [])→P (.clo f fd) H):EvE B A fm ρ H (.Lambda params body scope pos) P E:=fun F s S=>by
 refine kla_eval (hd0 _) ?_;refine rwb hqual ?_;exact Fe S hq hcode hl hcl (Wd (L1 C S hf)) fun f fd F' s' I l r S'=>here (h f fd I) l r S'
theorem Kp.clo {a:Addr} {fd:FuncData}:Kp B (.clo a fd) (.ref a):=rfl
noncomputable def CFn (B:Base) (n:Nat) (fd:FuncData) (cap:Loc) (ds:List D) (H:Led) (P:D→Led→Prop):Prop:=
 ∀ A F s stk vs f,Rm B A F H s stk n→Jd F (.ref f) (.clo f fd)→Vy fd.scope fd.closure cap F s.heap→Jc F vs ds→wpAny B.M A (PySem.call (.ref f) vs []) (Na B F H s P) NoE s
theorem Cu {F:Fz} {s:Shared} {f:Addr} {fd:FuncData} (g:GS B F H s) (r:Jd F (.ref f) (.clo f fd)):s.heap.get? f = some { cls:=.type "function",data:=.func fd } ∧ s.heap.CodeRec fd.code fd.qualname:=by
 revert g r;revert B H F s f fd;refine no_implicit_lambda% (G6 (h:=?_));refine (?_:A6 _) _ _ _ _ _ _;intro B H F s f fd g r;cases r with
 | clo h1 h2 h3 h4 h5=>exact ⟨g.froz _ _ h1,_,_,_,_,h2,g.froz _ _ h3,h4,h5⟩
theorem CFn.mono {fd:FuncData} {cap:Loc} {ds:List D} (k:CFn B n fd cap ds H P) (h:∀ d H,P d H→P' d H):CFn B n fd cap ds H P':=fun A F s stk vs f r rf hc rv=>wpAny_mono (k A F s stk vs f r rf hc rv) (fun v s' zz=>zz.elim fun F' e H' q q3 q4=>⟨F',e,H',h _ _ q,q3,q4⟩) fun Z Z x=>x
theorem CFn.mk {fd:FuncData} {qual:Str} {params:Arguments} {body:List Stmt} {scope:Scope} {clos:List (Str × Addr)} {names:List Str} {ds:List D} {cap:Loc} (I:Oa fd qual params (.stmts body) scope clos) (hok:V4 scope = true)
  (hb:∀ vs:List Value,vs.length = names.length→bindArgs fd ⟨vs,[]⟩ = pure (names.zip vs)) (hst:(names.all fun x=>Jj scope ((scope.names.filter fun p=>p.2 == .cell).map (·.1)) x) = true) (hn:names.length = ds.length)
  (h:∀ A' fm L f code,fm.env = Vo scope L clos (qual ++ ".<locals>.") f code→Cx A' fm scope ((scope.names.filter fun p=>p.2 == .cell).map (·.1)) n→ExS B A' fm (putAll (names.zip ds) cap) H body (fun Z H'=>P .none H') P NoE) :
  CFn B (n + 1) fd cap ds H P:=fun A F s stk vs f r rf hcl rv=>by
 refine Yd (Cu r.gs rf) fun h1 h2=>?_;obtain ⟨i1,i2,i3,i4,i5,i6,i7,i8,i9⟩:=I;subst i1 i4 i5;have hl:names.length = vs.length:=by (refine rwb rv.length ?_;exact rwb hn rfl)
 refine wpAny_call ?_;refine Xe (xs:=names.zip ds) (cap:=cap) r h1 rfl i3 h2 i6 i7 (BindsTo.of_eq (hb vs hl.symm)) hok hcl (by (refine rwb (Jw _ _ hl) ?_;exact rwb (Jw _ _ hn) rfl)) (by (refine rwb (Yg _ _ hl) (rwb (Yg _ _ hn) ?_));exact rv) ?_ fun fm A' e1 e2 C=>?_
 ·(replace hst:=Eq.symm (Jw _ _ hn) ▸ hst;replace hst:=ts all_map hst);exact hst
 ·refine fun F1 s1 S1=>wpAny_mono (h A' fm s.heap.objs.size f fd.code (by refine rwb e1 ?_;rfl) C F1 s1 S1) (fun fl s2 x2=>x2.elim (fun F2 ρ2 H2 l2 q S2=>.next F2 ρ2 H2 l2 (fun F' s' c=>⟨F',.none,H2,q,.none,c⟩) S2) fun v F2 d H2 ρ2 l2 q rv2 S2=>.ret v F2 d H2 ρ2 l2 (fun F' s' v' rv' c=>⟨F',d,H2,q,rv',c⟩) rv2 S2) fun Z Z x=>x.elim
theorem CFn.mkE {fd:FuncData} {qual:Str} {params:Arguments} {body:Expr} {scope:Scope} {clos:List (Str × Addr)} {names:List Str} {ds:List D} {cap:Loc} (I:Oa fd qual params (.expr body) scope clos) (hok:V4 scope = true)
  (hb:∀ vs:List Value,vs.length = names.length→bindArgs fd ⟨vs,[]⟩ = pure (names.zip vs)) (hst:(names.all fun x=>Jj scope ((scope.names.filter fun p=>p.2 == .cell).map (·.1)) x) = true) (hn:names.length = ds.length)
  (h:∀ A' fm,Cx A' fm scope ((scope.names.filter fun p=>p.2 == .cell).map (·.1)) n→EvE B A' fm (putAll (names.zip ds) cap) H body P NoE) :
  CFn B (n + 1) fd cap ds H P:=fun A F s stk vs f r rf hcl rv=>by
 obtain ⟨h1,h2⟩:=Cu r.gs rf;obtain ⟨i1,i2,i3,i4,i5,i6,i7,i8,i9⟩:=I;subst i1 i4 i5;have hl:names.length = vs.length:=by rw [rv.length,hn]
 have hok':=hok;simp only [V4,Bool.and_eq_true,Bool.not_eq_true'] at hok';refine wpAny_call (kla_callFunE (by have:=r.depth;show A.depth < 1000;lia) h1 rfl hok'.2 hok'.1.2 i3 h2 ((BindsTo.of_eq (hb vs hl.symm)) _ _ _ _ ?_));rw [i6,i7];refine Qd (xs:=names.zip ds) (cap:=cap) r.gs r.ff hok hcl (by rw [Jw _ _ hl,Jw _ _ hn]) (by rw [Yg _ _ hl,Yg _ _ hn];exact rv) ?_ fun s1 S1=>?_
 ·rw [← Jw _ _ hn,all_map] at hst;exact hst
 refine ⟨S1.bk.lim.keeps S1.base,kla_codeExpr ?_⟩;have C:Cx (A.deeper (Gx fd.scope fd.closure (fd.qualname ++ ".<locals>.") f fd.code F H s.heap stk).env) (Gx fd.scope fd.closure (fd.qualname ++ ".<locals>.") f fd.code F H s.heap stk) fd.scope ((fd.scope.names.filter fun p=>p.2 == .cell).map (·.1)) n:=
  ⟨r.hd,rfl,by have:=r.depth;show A.depth + 1 + n ≤ 900;lia,by have:=r.units;show A.units + 3 + 60 * n ≤ 9000;lia,by show A.frames.map _ = _;rw [r.frames];rfl,rfl⟩
 exact wpAny_mono (h _ _ C F s1 S1) (fun v s2 zz=>zz.elim fun F2 d H2 p l2 rv2 S2=>⟨F2,d,H2,p,rv2,S2.kh⟩) fun Z Z x=>x.elim
theorem CFn.op {x:Str} {f:Addr} {fd:FuncData} {cap:Loc} {ds:List D} {m:Nat} (C:Cx A fm sc cn n) (k:CFn B m fd cap ds H P) (hm:m ≤ n) (hx:ρ.lookup x = some (.clo f fd)) (hkx:sc.names.lookup x = some .cell ∨ sc.names.lookup x = some .free)
  (hc:∀ x c,fd.closure.lookup x = some c→fm.env.cells.lookup x = some c) (hfr:∀ x,(x,NameKind.free) ∈ fd.scope.names→∃ c,fd.closure.lookup x = some c)
  (hcap:∀ x d,cap.lookup x = some d→fd.scope.names.lookup x = some .free ∧ ρ.lookup x = some d ∧ (sc.names.lookup x = some .cell ∨ sc.names.lookup x = some .free)):Jp B A fm ρ H (.ref f) ds P E:=fun F s vs S rv=>by
 have kd:∀ y,(sc.names.lookup y = some .cell ∨ sc.names.lookup y = some .free)→fm.env.kindOf y = some .cell ∨ fm.env.kindOf y = some .free:=fun y h=>by unfold Env.kindOf;refine rwb C.sc ?_;exact h
 refine el23 (S.Ng hx (kd x hkx)) fun c v e1 e2 e3=>?_;have rf:Jd F (.ref f) (.clo f fd):=by cases e3 with | clo a b c d e=>exact .clo a b c d e
 refine wpAny_mono (k A F s fm.stack vs f ((C.rm S).le hm) rf ⟨hfr,fun y c h q=>?_,fun y d h=>?_⟩ rv) (fun v s1 zz=>zz.elim fun F1 d H1 p rv1 c=>here p c.le rv1 (S.call c)) fun Z Z x=>x.elim
 ·rcases S.ok.celLv y c (hc y c h) with z | z
  ·exact S.lives c z q
  ·exact S.old c z q
 ·refine V5 (hcap y d h) fun h1 h2 h3=>?_;refine el23 (S.Ng h2 (kd y h3)) fun c v g1 g2 g3=>?_;refine el11 (hfr y (mem_of_lookup h1)) fun c' h4=>?_;have h5:=hc y c' h4;replace h5:=ts g1 h5;obtain rfl:=oi h5;exact ⟨h1,c,v,h4,g2,g3⟩
theorem Cv {scope:Scope} {s:Shared} (C:Cx A fm sc cn n) (hcell:∀ p ∈ scope.names,p.2 = .free→∃ c,fm.env.cells.lookup p.1 = some c) :
  (∀ x c,(Vj fm.env scope.names []).lookup x = some c→fm.env.cells.lookup x = some c) ∧ ∀ x,(x,NameKind.free) ∈ scope.names→∃ c,(Vj fm.env scope.names []).lookup x = some c:=by
 constructor
 ·intro x c h
  by_cases hx:(x,NameKind.free) ∈ scope.names
  ·replace h:=ts ((Zm).1 hx) h;refine el11 (hcell _ hx rfl) fun c' hc=>?_;have hc:fm.env.cells.lookup x = some c':=hc;replace h:=hc ▸ h;obtain rfl:=oi h;exact hc
  ·replace h:=ts ((Zm).2 hx) h;simp at h
 ·intro x hx;exact ⟨_,(Zm).1 hx⟩
theorem Jm.fnC {a:Addr} {body:List Stmt} {scope:Scope} {names:List Str} {dflt:List (Str × D)} {ds:List D} {code:Value} {qual:Str} (S:Jm B a body scope names dflt) (hq:∀ o fd,B.h.get? a = some o→o.data = .func fd→fd.code = code ∧ fd.qualname = qual)
  (hok:V4 scope = true) (hfree:(scope.names.all fun p=>p.2 != .free) = true) (hst:((names ++ dflt.map (·.1)).all fun x=>Jj scope ((scope.names.filter fun p=>p.2 == .cell).map (·.1)) x) = true)
  (hn:names.length = ds.length)
  (h:∀ A' fm L,fm.env = Vo scope L [] (qual ++ ".<locals>.") a code→fm.h₁.get? L = none→(∀ b o,B.h.get? b = some o→fm.h₁.get? b = some o)→Cx A' fm scope ((scope.names.filter fun p=>p.2 == .cell).map (·.1)) n→ExS B A' fm (putAll (names.zip ds ++ dflt) []) H body (fun Z H'=>P .none H') P NoE):Fn B (n + 1) (.ref a) ds H P:=by
 revert S hq hok hfree hst hn h;revert B n H P a body scope names dflt ds code qual;refine no_implicit_lambda% (G12 (h:=?_));refine (?_:A12 _) _ _ _ _ _ _ _ _ _ _ _ _;intro B n H P a body scope names dflt ds code qual S hq hok hfree hst hn h;refine no_implicit_lambda% (G5 (h:=?_));refine (?_:A5 _) _ _ _ _ _;exact fun A F s stk vs r rv=>by
  obtain ⟨o,fd,h1,h2,h3,h4,h5,h6,h7,h8,h9⟩:=S.ex;refine Yd (hq o fd h1 h2) fun q1 q2=>?_;subst h4;have hl:names.length = vs.length:=by (refine rwb rv.length ?_;exact rwb hn rfl)
  refine el13 (h9 s vs r.gs.base hl.symm) fun ws w1 w2 w3=>?_;have hcd:s.heap.CodeRec fd.code fd.qualname:=h8.keeps r.gs.base;refine wpAny_call (Xe (xs:=names.zip ds ++ dflt) (cap:=[]) r (r.gs.base _ _ h1) h2 h3 hcd h6 h7 w3 hok (by refine rwb h5 ?_;exact Vy.nil hfree) ?_ ?_ ?_ fun fm A' e1 e2 C=>?_)
  ·refine rwb map_append (rwb map_append (rwb (Jw _ _ hl) (rwb (Jw _ _ hn) ?_)));exact rwb w1 rfl
  ·refine rwb map_append (rwb map_append (rwb (Yg _ _ hl) (rwb (Yg _ _ hn) ?_)));exact rv.append (w2 F)
  ·(replace hst:=ts all_append hst;replace hst:=all_map ▸ hst);refine rwb all_append ?_;simp only [Bool.and_eq_true] at hst ⊢;refine ⟨?_,hst.2⟩;have h10:=hst.1;(replace h10:=Eq.symm (Jw _ _ hn) ▸ h10;replace h10:=ts all_map h10);exact h10
  ·refine fun F1 s1 S1=>wpAny_mono (h A' fm s.heap.objs.size (by (refine rwb e1 (rwf q1 (rwf q2 (rwf h5 ?_))));rfl) (by refine rwb e1 ?_;exact Je _) (by refine rwb e1 ?_;exact r.gs.base) C F1 s1 S1) (fun fl s2 x2=>x2.elim (fun F2 ρ2 H2 l2 q S2=>.next F2 ρ2 H2 l2 (fun F' s' c=>⟨F',.none,H2,q,.none,c⟩) S2) fun v F2 d H2 ρ2 l2 q rv2 S2=>.ret v F2 d H2 ρ2 l2 (fun F' s' v' rv' c=>⟨F',d,H2,q,rv',c⟩) rv2 S2) fun Z Z x=>x.elim
inductive Jdv (fm:Fm) (R:D→Led→Prop) (d:D) (H:Led):Prop
 | mk (a:Addr) (ds:List D) (H2:Led) (e1:d = .ref a) (e2:H = (a,ds) :: H2) (e3:fm.h₁.get? a = Option.none) (p:R (.lst ds) H2)
theorem S1.je7 {e:Expr} {pos:Pos} (h:EvE B A fm ρ H e (Jdv fm R) E):Ex1 B A fm ρ H (.Return (some e) pos) N R E:=fun F s S=>
 wpAny_Return_some (wpAny_mono (h F s S) (fun v s1 zz=>zz.elim fun F1 d H1 h1 l r S1=>by
  obtain ⟨a,ds,H2,e1,e2,e3,p⟩:=h1;subst e1 e2;refine r.Kf ?_;refine el14 (S1.ki e3) fun F2 l2 r2 S2 Z=>?_
  exact .ret _ F2 (.lst ds) H2 ρ (l.trans l2) p r2 S2) fun Z Z x=>x)
theorem Mk {prog:Program} {w:World} {s:Shared} {l:Addr} {items:Array Value} {ne:Nat} {k:Int} {t:Tok} {v:Value} {Q:Unit→Shared→Prop} (ho:s.heap.get? l = some (listOf items ne))
  (h0:0 ≤ k) (hfit:k < 2 ^ 63) (hn:k < items.size)
  (hQ:Q () { s with heap:=s.heap.update l (Obj.mapSeq (·.setIfInBounds k.toNat v)) }) :
  wpAny (model prog w) A (setItem (.ref l) (.int k t) v) Q E s:=by
 revert ho h0 hfit hn hQ;revert A E prog w s l items ne k t v Q;refine no_implicit_lambda% (G12 (h:=?_));refine (?_:A12 _) _ _ _ _ _ _ _ _ _ _ _ _;intro A E prog w s l items ne k t v Q ho h0 hfit hn hQ;have hl:s.heap.IsList l items:=⟨_,ho,rfl,ne,rfl⟩;unfold setItem
 try with_reducible refine wpAny_holding ?_
 first | refine wpAny_bind (wpAny_pure ?_) | skip
 refine wpAny_bind (wpAny_sequenceKey hl.typeIs (by decide) ?_)
 refine wpAny_bind (wpAny_callSpecial?_slot (name:=Str.ofString "__setitem__") hl.typeIs slot_list_setitem
  (wpAny_call_entry slot_list_setitem hl.typeIs entry_list_setitem ?_ (args_list_setitem _ _ _)))
 show wpAny _ _ (Builtin.List.listSubscript? (.int k t) >>= _) _ _ s;refine wpAny_bind (wpAny_listSubscript_int (fitsIndex_of h0 hfit) ?_);clear hfit;obtain ⟨j,rfl⟩:=Int.eq_ofNat_of_zero_le h0;have hj:j < items.size:=by lia
 have hx':items[j]? = some items[j]:=Array.getElem?_eq_getElem hj;show wpAny _ _ ((seqItemAt l j >>= fun r=>pure (r.map (j,·))) >>= _) _ _ s;refine wpAny_bind (wpAny_bind (wpAny_seqItemAt ho rfl (wpAny_pure ?_)));rw [hx'];show wpAny _ _ (setSeqItemAt l j v >>= _) _ _ s;refine wpAny_bind (wpAny_setSeqItemAt ho rfl ?_)
 first
  | exact wpAny_bind (wpAny_pure (wpAny_pure ⟨.none,rfl,wpAny_pure hQ⟩))
  | exact wpAny_pure ⟨.none,rfl,wpAny_pure hQ⟩
theorem Im {a:Addr} {ds:List D} {d:D} {k:Int} {t:Tok} {v:Value} {H':Led} {s:Shared} {Q:Unit→Shared→Prop} (S:St B fm ρ F H s) (x:V6 a (ds.set k.toNat d) ds H H') (h0:0 ≤ k) (h1:k < ds.length) (hz:ds.length < 2 ^ 62) (r:Jd F v d)
  (h:∀ s',St B fm ρ F H' s'→Q () s'):wpAny B.M A (setItem (.ref a) (.int k t) v) Q E s:=by
 refine el22 (S.own _ x.mem) fun vs m ho hr=>?_;have hlen:vs.length = ds.length:=hr.length;refine Mk ho h0 (by lia) (by (refine rwb size_toArray (rwb hlen ?_));exact h1) ?_;refine h _ (S.set (tk:=s.toks) x (Heap.SameBut.update ..) ⟨vs.set k.toNat v,m,?_,hr.set _ r⟩);refine rwb (Heap.get?_update_self _ ho (by simp [Obj.mapSeq];rfl)) ?_;simp [Obj.mapSeq]
inductive Jew (N:Led→Prop) (d d2 d3:D) (H:Led):Prop
 | mk (a:Addr) (ds:List D) (k:Int) (H4:Led) (e2:d2 = .ref a) (e3:d3 = .int k) (x:V6 a (ds.set k.toNat d) ds H H4) (h0:0 ≤ k) (h1:k < ds.length) (hz:ds.length < 2 ^ 62) (p:N H4)
inductive Je3 (N:Led→Prop) (a:Addr) (ds:List D) (k:Int) (d:D) (H:Led):Prop
 | mk (H5:Led) (x:V6 a (ds.set k.toNat d) ds H H5) (hz:ds.length < 2 ^ 62) (p:N H5)
inductive Je2 (B:Base) (A:Around) (fm:Fm) (ρ:Loc) (value:Expr) (op:Operator) (N:Led→Prop) (E:Value→Shared→Prop) (d2 d3:D) (H2:Led):Prop
 | mk (a:Addr) (ds:List D) (k:Int) (d0:D) (e2:d2 = .ref a) (e3:d3 = .int k) (hm:(a,ds) ∈ H2) (h0:0 ≤ k) (h1:k < 2 ^ 62) (hd:ds[k.toNat]? = some d0)
   (h:EvE B A fm ρ H2 value (fun d H3=>Op2 B A fm ρ H3 (inplaceOp op) d0 d (Je3 N a ds k) E) E)
theorem S1.setitem {o i value:Expr} {p' pos:Pos} (h:EvE B A fm ρ H value (fun d H1=>EvE B A fm ρ H1 o (fun d2 H2=>EvE B A fm ρ H2 i (Jew (N ρ) d d2) E) E) E)
  (hs:autoParam (∀ env,swapsWith value (some (.Subscript o i p')) pos.line env = pure false) aI):Ex1 B A fm ρ H (.Assign [.Subscript o i p'] value pos) N R E:=fun F s S=>by
 refine wpAny_Assign_Subscript (wpAny_mono (h F s S) (fun v s1 zz=>zz.elim fun F1 d H1 p1 l1 r1 S1=>wpAny_mono (p1 F1 s1 S1) (fun ov s2 zz=>zz.elim fun F2 d2 H2 p2 l2 r2 S2=>wpAny_mono (p2 F2 s2 S2) (fun iv s3 zz=>zz.elim fun F3 d3 H3 p3 l3 r3 S3=>?_) fun Z Z x=>x) fun Z Z x=>x) fun Z Z x=>x) (hs _);obtain ⟨a,ds,k,H4,rfl,rfl,x,h0,h1,hz,hN⟩:=p3;refine r3.z5 fun t=>?_;exact r2.Kf<|Im S3 x h0 h1 hz ((r1.mono l2).mono l3) fun s' S'=>Uv hN ((l1.trans l2).trans l3) S'
theorem Ce {a:Addr} {ds:List D} {d:D} {k:Int} {t:Tok} {s:Shared} {Q:Value→Shared→Prop} (S:St B fm ρ F H s) (ha:(a,ds) ∈ H) (h0:0 ≤ k) (h1:k < 2 ^ 62) (hd:ds[k.toNat]? = some d)
  (h:∀ v,Jd F v d→Q v s):wpAny B.M A (getItem (.ref a) (.int k t)) Q E s:=by
 refine el12 (S.toGS.list ha) fun vs hl hr=>?_;refine el12 (hr.get hd) fun v hv r=>?_;exact wpAny_getItem_list hl h0 (by lia) (by simpa using hv) (h v r)
theorem S1.pq {o i value:Expr} {p' pos:Pos} {op:Operator} (h:EvE B A fm ρ H o (fun d2 H1=>EvE B A fm ρ H1 i (Je2 B A fm ρ value op (N ρ) E d2) E) E)
  (hi:autoParam (∀ ov iv new,augStore i ov iv new = (do holding [new,ov,iv] (setItem ov iv new);release [new,ov,iv] [];pure .next)) aI):Ex1 B A fm ρ H (.AugAssign (.Subscript o i p') op value pos) N R E:=by
 refine no_implicit_lambda% (G2 (h:=?_));refine (?_:A2 _) _ _;exact fun F s S=>by
  refine wpAny_AugAssign_SubscriptAny (wpAny_mono (h F s S) (fun ov s1 zz=>zz.elim fun F1 d2 H1 p1 l1 r1 S1=>wpAny_mono (p1 F1 s1 S1) (fun iv s2 zz=>zz.elim fun F2 d3 H2 p2 l2 r2 S2=>?_) fun Z Z x=>x) fun Z Z x=>x) hi;obtain ⟨a,ds,k,d0,rfl,rfl,hm,h0,h1,hd0,hv⟩:=p2;refine r2.z5 fun t=>?_;refine r1.Kf ?_;refine Ce S2 hm h0 h1 hd0 fun v0 r0=>?_;refine wpAny_mono (hv F2 s2 S2) (fun v s3 zz=>zz.elim fun F3 d H3 op3 l3 r3 S3=>?_) fun Z Z x=>x;refine wpAny_mono (op3 F3 s3 v0 v S3 (r0.mono l3) r3) (fun w s4 zz=>zz.elim fun F4 d' H4 y l4 r4 S4=>y.rec fun H5 x hz hN=>?_) fun Z Z x=>x;have hk:k < ds.length:=by
   have:=(lG hd0).1;lia
  exact Im S4 x h0 hk hz r4 fun s' S'=>Uv hN (((l1.trans l2).trans l3).trans l4) S'
theorem Hk (v:Value) (k:Nat):List.foldl (fun x1 x2=>x1 ++ x2) (#[]:Array Value) (List.replicate k #[v]) = (List.replicate k v).toArray:=by
 have:∀ (acc:Array Value),List.foldl (fun x1 x2=>x1 ++ x2) acc (List.replicate k #[v]) = acc ++ (List.replicate k v).toArray:=by
  induction k with
  | zero=>intro acc;simp
  | succ k ih=>intro acc;(refine rwb replicate_succ (rwb foldl_cons ?_);rewrite [ih];refine rwb replicate_succ ?_);apply Array.ext';simp
 simpa using this #[]
theorem Op2.jb2 {d:D} {k:Int} (h0:0 ≤ k) (h1:k ≤ 2 ^ 24) (h:∀ b,fm.h₁.get? b = Option.none→P (.ref b) ((b,List.replicate k.toNat d) :: H)):Op2 B A fm ρ H (binaryOp .Mult) (.lst [d]) (.int k) P E:=fun F s v u S r1 r2=>by
 refine r2.z5 fun t=>?_;refine r1.Mc fun l vs m ha hr=>?_;revert ha;refine V2 hr fun v0 r0 ha=>?_;have hl:=S.froz _ _ ha;have hl:s.heap.get? l = some { cls:=.type "list",dict:=Option.none,data:=.seq #[v0] m,slots:=#[] }:=hl;have hsz:(#[v0]:Array Value).size * k.toNat ≤ 2 ^ 24:=by
  have e1:(#[v0]:Array Value).size = 1:=rfl;refine rwb e1 ?_;lia
 have hsmall:¬ Builtin.List.listTooLong ((#[v0]:Array Value).size * k.toNat) = true:=by
  have e1:(#[v0]:Array Value).size = 1:=rfl;refine rwb e1 ?_;simp [Builtin.List.listTooLong,sizeLine];lia
 refine wpAny_binaryOp_repeat_ref (T:="list") (U:="int") (by decide) ⟨_,hl,rfl⟩ (fun s'=>typeIs_int s' k t) noFill_list_mul PySem.F.fills_int_mul PySem.F.slot_int_rmul repeat_list PySem.F.slot_int_index.lookup
  (call_meets PySem.F.slot_int_rmul (typeIs_int s k t) PySem.F.entry_int_rmul (PySem.F.args_int_rmul_2 _ _) (int___rmul___int_list k t l #[v0] m)
   ⟨hl,rfl,⟨_,hl,rfl⟩,call_meets PySem.F.slot_list_mul ⟨_,hl,rfl⟩ PySem.F.entry_list_mul (PySem.F.args_list_mul_2 _ _)
    (AutoListH.list___mul___list_int_3 l #[v0] m k t (by simp [Builtin.List.listFitsIndex];lia) (by lia) (by simpa using hsmall))
    ⟨hl,?_⟩⟩)
 have e:List.foldl (fun x1 x2=>x1 ++ x2) (#[]:Array Value) (List.replicate (if (#[v0]:Array Value).isEmpty = true then 0 else k.toNat) #[v0]) = (List.replicate k.toNat v0).toArray:=by
  refine rwb (if_neg (by simp)) ?_;exact Hk v0 _
 refine rwb e ?_;have hf:=Je s.heap;have hrep:∀ j,Jc F (List.replicate j v0) (List.replicate j d):=fun j=>by
  induction j with
  | zero=>exact .nil
  | succ j ih=>exact .cons r0 ih
 exact here (h _ (Vk.none S.old hf)) (Fz.le.refl F) (.ref _) (S.addL (tk:=s.toks) (fun b o e=>Heap.get?_push_of_some _ e) hf ⟨_,0,Heap.get?_push_size _ rfl,hrep _⟩)
theorem Op2.addL {ds es:List D} (hz:ds.length + es.length ≤ sizeLine) (h:P (.lst (ds ++ es)) H):Op2 B A fm ρ H (binaryOp .Add) (.lst ds) (.lst es) P E:=fun F s v u S r1 r2=>by
 refine r1.Mc fun l vs m ha hr=>r2.Mc fun b ws m2 hb hr2=>?_;have ho:=S.froz _ _ ha;have ho2:=S.froz _ _ hb;have e:vs.toArray ++ ws.toArray = (vs ++ ws).toArray:=by simp
 refine el13 (St.Ii (T:="list") (vs:=vs ++ ws) (ds:=ds ++ es) S) fun F' l ef S'=>?_;refine concat_meets ⟨_,ho,rfl⟩ ⟨_,ho2,rfl⟩ noFill_list_add seq_list_add PySem.F.slot_list_add PySem.F.entry_list_add (PySem.F.args_list_add_2 _ _) (list_addW _ b vs.toArray ws.toArray m m2 Option.none Option.none #[] #[] (by simpa [hr.length,hr2.length] using hz)) ⟨ho,ho2,?_⟩;refine rwb e ?_;exact here h l (.lst ef ((hr.append hr2).mono l)) S'
theorem Op2.je8 {d:D} {k:Int} (h0:0 ≤ k) (h1:k ≤ 2 ^ 24) (h:P (.lst (List.replicate k.toNat d)) H):Op2 B A fm ρ H (binaryOp .Mult) (.lst [d]) (.int k) P E:=fun F s v u S r1 r2=>by
 refine wpAny_mono (Op2.jb2 (P:=Jdv fm fun d' H'=>d' = .lst (List.replicate k.toNat d) ∧ H' = H) h0 h1 (fun b hb=>⟨b,_,_,rfl,rfl,hb,rfl,rfl⟩) F s v u S r1 r2) (fun v s1 zz=>zz.elim fun F1 e H1 h1 l r S1=>?_) fun Z Z x=>x;obtain ⟨b,ds,H2,e1,e2,e3,e4,e5⟩:=h1;cases e4;subst e5 e1 e2;refine r.Kf ?_;refine el14 (S1.ki e3) fun F2 l2 r2 S2 Z=>?_;exact here h (l.trans l2) r2 S2
theorem St.jcf {x:Str} {a:Addr} {d':D} {s:Shared} (S:St B fm ρ F H s) (hx:ρ.lookup x = some (.ref a)) (hk:fm.env.kindOf x = some .local ∨ fm.env.kindOf x = some .cell ∨ fm.env.kindOf x = some .free) (r:Jd F (.ref a) d'):St B fm (put x d' ρ) F H s:=by
 revert S hx hk r;revert B fm ρ F H x a d' s;refine no_implicit_lambda% (G9 (h:=?_));refine (?_:A9 _) _ _ _ _ _ _ _ _ _;intro B fm ρ F H x a d' s S hx hk r
 exact { S with
   ns:=by
    refine el12 S.ns fun m hm h=>?_;refine ⟨m,hm,fun y d e1 e2=>?_⟩
    by_cases hy:y = x
    ·subst hy;rw [put_self] at e1;obtain rfl:=oi e1;refine el12 (h y _ hx e2) fun v h1 h2=>?_;cases h2;exact ⟨_,h1,r⟩
    ·rw [put_ne hy] at e1;exact h y d e1 e2
   cell:=fun y d e1 e2=>by
    by_cases hy:y = x
    ·subst hy;rw [put_self] at e1;obtain rfl:=oi e1;refine el23 (S.cell y _ hx e2) fun c v h1 h2 h3=>?_;cases h3;exact ⟨c,_,h1,h2,r⟩
    ·rw [put_ne hy] at e1;exact S.cell y d e1 e2 }
theorem ExT.freeze {t:Sem Flow} {x:Str} {a:Addr} {ds:List D} (C:Cx A fm sc cn n) (hx:ρ.lookup x = some (.ref a)) (hk:sc.names.lookup x = some .local ∨ sc.names.lookup x = some .cell ∨ sc.names.lookup x = some .free) (ha:fm.h₁.get? a = Option.none)
  (h:ExT B A fm (put x (.lst ds) ρ) H t N R E):ExT B A fm ρ ((a,ds) :: H) t N R E:=fun F s S=>by
 refine el14 (S.ki ha) fun F2 l2 r2 S2 Z=>?_;have hk':fm.env.kindOf x = some .local ∨ fm.env.kindOf x = some .cell ∨ fm.env.kindOf x = some .free:=by unfold Env.kindOf;refine rwb C.sc ?_;exact hk
 exact wpAny_mono (h F2 s (S2.jcf hx hk' r2)) (fun Z Z y=>y.le l2) fun Z Z x=>x
theorem OpN.Nd {ds:List D} (h:∀ a,fm.h₁.get? a = Option.none→P (.ref a) ((a,ds) :: H)) (hsz:autoParam (Nat.ble ds.length sizeLine = true) aR):OpN B A fm ρ H newList ds P E:=fun F s vs S rv=>by
 have hf:=Je s.heap;refine wpAny_newList ?_ (by refine rwb rv.length ?_;exact (Nat.le_of_ble_eq_true hsz));exact here (h _ (Vk.none S.old hf)) (Fz.le.refl F) (.ref _) (S.addL (tk:=s.toks) (fun b o e=>Heap.get?_push_of_some _ e) hf ⟨vs,0,Heap.get?_push_size _ rfl,rv⟩)
end
section
variable {B:Base} {A:Around} {fm:Fm} {sc:Scope} {cn:List Str} {ρ:Loc} {E:Value→Shared→Prop} {F:Fz} {H:Led} {n:Nat} {P:D→Led→Prop} {N:Loc→Led→Prop} {R:D→Led→Prop}
noncomputable abbrev C7 (i:Int) (H:Led):D→Led→Prop:=Is (.int i) H
theorem W0 (X:XB B):Jm B 80 (bodyOf 10) (Jh 10) ["a", "b"] []:=Jm.of X (by rfl) rfl rfl rfl rfl rfl (by rfl) (all2 fun a b=>rfl)
theorem Wz (X:XB B):Jm B 87 (bodyOf 11) (Jh 11) ["a", "b"] []:=Jm.of X (by rfl) rfl rfl rfl rfl rfl (by rfl) (all2 fun a b=>rfl)
theorem Wy (X:XB B):Jm B 94 (bodyOf 12) (Jh 12) ["a", "b"] []:=Jm.of X (by rfl) rfl rfl rfl rfl rfl (by rfl) (all2 fun a b=>rfl)
theorem R0 (X:XB B):Jm B 101 (bodyOf 13) (Jh 13) ["a"] []:=Jm.of X (by rfl) rfl rfl rfl rfl rfl (by rfl) (all1 fun a=>rfl)
theorem Ei (X:XB B):Jm B 108 (bodyOf 14) (Jh 14) ["a", "b"] []:=Jm.of X (by rfl) rfl rfl rfl rfl rfl (by rfl) (all2 fun a b=>rfl)
theorem Il (X:XB B):Jm B 122 (bodyOf 16) (Jh 16) ["a", "b"] []:=Jm.of X (by rfl) rfl rfl rfl rfl rfl (by rfl) (all2 fun a b=>rfl)
theorem O3 (X:XB B):Jm B 38 (bodyOf 3) (Jh 3) ["a", "b", "n"] []:=Jm.of X (by rfl) rfl rfl rfl rfl rfl (by rfl) (Sr fun a b c=>rfl)
theorem O2 (X:XB B):Jm B 45 (bodyOf 4) (Jh 4) ["a12", "a3", "b", "b1", "b2", "n"] []:=Jm.of X (by rfl) rfl rfl rfl rfl rfl (by rfl) (Jeu fun a b c d e f=>rfl)
theorem K0 (X:XB B) {a b:Int}:Fn B (n + 1) (.ref 80) [.int a,.int b] H (C7 (a + b) H):=by
 refine (W0 X).fn (by rfl) (by rfl) (by rfl) rfl fun A' fm C=>?_;exact Ss.ret<|EvE.jo (Lf.loc C (by rfl)) (Lf.loc C (by rfl))<|Op2.add ⟨rfl,rfl⟩
theorem Kz (X:XB B) {a b:Int} (hb:0 ≤ b) (hsz:(intBits a:Int) + b ≤ 2 ^ 27):Fn B (n + 1) (.ref 87) [.int a,.int b] H (C7 (a * 2 ^ b.toNat) H):=by
 refine (Wz X).fn (by rfl) (by rfl) (by rfl) rfl fun A' fm C=>?_;exact Ss.ret<|EvE.jo (Lf.loc C (by rfl)) (Lf.loc C (by rfl))<|Op2.shl hb hsz ⟨rfl,rfl⟩
theorem Ky (X:XB B) {a b:Int} (hm:IntMulOk a b):Fn B (n + 1) (.ref 94) [.int a,.int b] H (C7 (a * b) H):=by
 refine (Wy X).fn (by rfl) (by rfl) (by rfl) rfl fun A' fm C=>?_;exact Ss.ret<|EvE.jo (Lf.loc C (by rfl)) (Lf.loc C (by rfl))<|Op2.mul hm ⟨rfl,rfl⟩
theorem Hh (X:XB B) {a:Int}:Fn B (n + 1) (.ref 101) [.int a] H (C7 (-a) H):=by
 refine (R0 X).fn (by rfl) (by rfl) (by rfl) rfl fun A' fm C=>?_;exact Ss.ret<|EvE.un<|EvE.loc C (by rfl)<|Op1.neg ⟨rfl,rfl⟩
theorem Jcv (X:XB B) {a b:Int}:Fn B (n + 1) (.ref 108) [.int a,.int b] H (C7 (a - b) H):=by
 refine (Ei X).fn (by rfl) (by rfl) (by rfl) rfl fun A' fm C=>?_;exact Ss.ret<|EvE.jo (Lf.loc C (by rfl)) (Lf.loc C (by rfl))<|Op2.sub ⟨rfl,rfl⟩
theorem Sb (X:XB B) {a:Addr} {ds:List D} {k:Int} {d:D} (ha:(a,ds) ∈ H) (h0:0 ≤ k) (h1:k < 2 ^ 62) (hd:ds[k.toNat]? = some d):Fn B (n + 1) (.ref 122) [.ref a,.int k] H (Is d H):=by
 refine (Il X).fn (by rfl) (by rfl) (by rfl) rfl fun A' fm C=>?_;exact Ss.ret<|EvE.J7 (Lf.loc C (by rfl)) (Lf.loc C (by rfl))<|Op2.iz rfl ha h0 h1 hd ⟨rfl,rfl⟩
noncomputable def Jc5 (B:Base) (m:Nat) (k:Nat):Prop:=∀ (H:Led) (a b:Int) (n:Nat),n ≤ k→0 ≤ a→0 < b→intBits b = n→a < 2 ^ n * b→Fn B m (.ref 38) [.int a,.int b,.int n] H (Is (.tup [.int (a / b),.int (a % b)]) H)
noncomputable abbrev Has (ρ:Loc) (x:Str) (d:D):Prop:=ρ.lookup x = some d
theorem Has.self {x:Str} {d:D} {ρ:Loc}:Has (put x d ρ) x d:=put_self x d ρ
theorem Has.ne {x y:Str} {d e:D} {ρ:Loc} (h:Has ρ y e) (hn:autoParam (y ≠ x) aD):Has (put x d ρ) y e:=by show (put x d ρ).lookup y = _;rw [put_ne hn];exact h
theorem Jbo (X:XB B) {m k:Nat} (ih:Jc5 B m k) (hk:k ≤ 2 ^ 20) {a12 a3 b b1 b2:Int} {h:Nat} (hh:h ≤ k) (h1:intBits b1 = h) (hb1:0 < b1) (hb2:0 ≤ b2) (hb2':b2 < 2 ^ h) (hb:b = b1 * 2 ^ h + b2) (ha:0 ≤ a12) (ha':a12 < b) (ha3:0 ≤ a3) (ha3':a3 < 2 ^ h) :
  Fn B (m + 1) (.ref 45) [.int a12,.int a3,.int b,.int b1,.int b2,.int h] H (Is (.tup [.int ((a12 * 2 ^ h + a3) / b),.int ((a12 * 2 ^ h + a3) % b)]) H):=by
 revert X ih hk hh h1 hb1 hb2 hb2' hb ha ha' ha3 ha3';revert B H m k a12 a3 b b1 b2 h;refine no_implicit_lambda% (G10 (h:=?_));refine (?_:A10 _) _ _ _ _ _ _ _ _ _ _;intro B H m k a12 a3 b b1 b2 h X ih hk hh h1 hb1 hb2 hb2' hb ha ha' ha3 ha3';have hp:=Jr h;have hbb:0 < b:=by have:=Int.mul_pos hb1 hp;lia
 have hmg:B.mg "_div2n1n" = some (.ref 38):=mgX X (by rfl);have bits1:b1 < 2 ^ h:=by
  have:=Ze (a:=b1);replace this:=h1 ▸ this;have e:=Js h;lia
 have b12:b1 * 2 ^ h + b2 < 2 ^ (2 * h):=by
  have e:(2:Int) ^ (2 * h) = 2 ^ h * 2 ^ h:=by rw [← Int.pow_add];congr 1;lia
  have h3:(b1 + 1) * 2 ^ h ≤ 2 ^ h * 2 ^ h:=Int.mul_le_mul_of_nonneg_right (by lia) (Int.le_of_lt hp);rw [Int.add_mul] at h3;lia
 have a12b:a12 < 2 ^ (2 * h):=by lia
 have nb:∀ {z:Int} {j:Nat},0 ≤ z→z < 2 ^ j→intBits z ≤ j:=fun {z j} hz hz'=>bits_le (by have:=Js j;lia);refine (O2 X).fn (by rfl) (by rfl) (by rfl) rfl (no_implicit_lambda% (G2 (h:=?_)));refine (?_:A2 _) _ _;intro A' fm C;have rest:∀ (ρ:Loc) (q r:Int),Has ρ "q" (.int q)→Has ρ "r" (.int r)→Has ρ "a3" (.int a3)→Has ρ "b" (.int b)→Has ρ "b2" (.int b2)→Has ρ "n" (.int h) →
   a12 = q * b1 + r→0 ≤ q→q < 2 ^ h→0 ≤ r→r < 2 ^ (2 * h + 1)→r * 2 ^ h + a3 - q * b2 < b→ExS B A' fm ρ H ((bodyOf 4).drop 1) (fun Z Z=>False) (Is (.tup [.int ((a12 * 2 ^ h + a3) / b),.int ((a12 * 2 ^ h + a3) % b)]) H) NoE:=by
  refine no_implicit_lambda% (G3 (h:=?_));refine (?_:A3 _) _ _ _;intro ρ q r lq lr l3 lb lb2 ln e1 e2 e3 e4 e5 e6;refine Ss.cons ?_;refine S1.assign C ?_;refine EvE.bin (EvE.bin (EvE.jo (Lf.loc C lr) (Lf.loc C ln) (Op2.shl (by lia) ?_ (EvE.loc C l3 (Op2.bor ?_)))))
  ·have:=nb e4 e5;lia
  have e7:Builtin.bitOr (r * 2 ^ ((h:Int)).toNat) a3 = r * 2 ^ h + a3:=by rw [toNat_natCast];exact Rj e4 ha3 ha3'
  refine rwb e7 ?_;refine EvE.jo (Lf.loc C lq) (Lf.loc C lb2) (Op2.mul (IntMulOk.of_bits (le_trans (nb e2 e3) (by lia)) (le_trans (nb hb2 hb2') (by lia))) (Op2.sub ?_));have e8:a12 * 2 ^ h + a3 = q * b + (r * 2 ^ h + a3 - q * b2):=by
   (refine rwb hb (rwb e1 ?_);rw [Int.mul_add,Int.add_mul,← Int.mul_assoc]);lia
  refine Ss.cons ?_;refine S1.jd3 C (fun k ρ1 H1=>H1 = H ∧ ∃ q' r',Has ρ1 "q" (.int q') ∧ Has ρ1 "r" (.int r') ∧ Has ρ1 "b" (.int b) ∧ a12 * 2 ^ h + a3 = q' * b + r' ∧ r' < b ∧ k = (-r').toNat) (-(r * 2 ^ h + a3 - q * b2)).toNat
   ⟨rfl,q,_,lq.ne,Has.self,lb.ne,e8,e6,rfl⟩ ?_
  refine no_implicit_lambda% (G3 (h:=?_));refine (?_:A3 _) _ _ _;rintro k' ρ1 H1 ⟨rfl,q',r',lq',lr',lb',e9,e10,rfl⟩;refine EvB.zq (Lf.loc C lr') Lf.int (Op2.ltI ⟨_,rfl,?_⟩)
  by_cases hr:r' < 0
  ·refine rwb (if_pos (by simpa using hr)) ?_;refine Ss.cons (S1.aug C (by rfl) (.inl (by rfl)) lq' (EvE.int (Op2.jfh ?_)));refine Ss.cons (S1.aug C (by rfl) (.inl (by rfl)) lr'.ne (EvE.loc C lb'.ne (Op2.iadd ?_)));refine Ss.nil ⟨(-(r' + b)).toNat,by lia,rfl,q' - 1,r' + b,Has.self.ne,Has.self,lb'.ne.ne,?_,by lia,rfl⟩;(refine rwb e9 ?_;rw [Int.sub_mul]);lia
  ·refine rwb (if_neg (by simpa using hr)) ?_;refine Ss.cons (S1.ret (EvE.tup (EvL.lf (Lf.loc C lq') (EvL.lf (Lf.loc C lr') (EvL.nil (OpN.tuple ⟨?_,rfl⟩))))));refine Yd (Td e9 (by lia) e10) fun g1 g2=>?_;refine rwf g1 ?_;exact rwf g2 rfl
 refine Ss.cons (S1.xh (EvB.cmp (EvE.jo (Lf.loc C (by rfl)) (Lf.loc C (by rfl)) (Op2.shr (by lia) (EvE.loc C (by rfl) (Op2.jaz ⟨_,rfl,?_⟩))))));have e0:a12.fdiv (2 ^ ((h:Int)).toNat) = a12 / 2 ^ h:=by rw [toNat_natCast];exact J0 (Int.le_of_lt hp)
 refine rwb e0 ?_
 by_cases hq:a12 / 2 ^ h = b1
 ·refine rwb (if_pos (by simpa using hq)) ?_;refine Ss.cons ?_;refine S1.iy C ?_;refine EvE.bin (EvE.jo Lf.int (Lf.loc C (by rfl)) (Op2.shl (by lia) ?_ (EvE.int (Op2.sub ?_))))
  ·have:intBits 1 = 1:=by decide
   lia
  refine EvE.bin (EvE.Wf (Lf.loc C (by rfl)) (EvE.jo (Lf.loc C (by rfl)) (Lf.loc C (by rfl)) (Op2.shl (by lia) ?_ (Op2.sub (EvE.loc C (by rfl) (Op2.add ?_))))))
  ·refine rwb h1 ?_;lia
  refine Ss.nil ?_;have e2:a12 = b1 * 2 ^ h + a12 % 2 ^ h:=by (refine rwf hq ?_;rw [Int.mul_comm]);exact (Int.mul_ediv_add_emod a12 (2 ^ h)).symm
  have m0:=emod_nonneg a12 (show (2:Int) ^ h ≠ 0 by lia);have m1:=emod_lt_of_pos a12 hp;rw [toNat_natCast,Int.one_mul];refine (rest _ (2 ^ h - 1) (a12 - b1 * 2 ^ h + b1) ?_ ?_ ?_ ?_ ?_ ?_ ?_ (by lia) (by lia) (by lia) ?_ ?_).mono (fun Z Z x=>x.elim) fun Z Z x=>x
  iterate 6 rfl
  ·rw [Int.sub_mul,Int.mul_comm (2 ^ h)];lia
  ·have e3:(2:Int) ^ (2 * h + 1) = 2 ^ (2 * h) * 2:=Int.pow_succ _ _;have e4:(2:Int) ^ (2 * h) = 2 ^ h * 2 ^ h:=by rw [← Int.pow_add];congr 1;lia
   have e5:(2:Int) ^ h * 1 ≤ 2 ^ h * 2 ^ h:=Int.mul_le_mul_of_nonneg_left (by lia) (Int.le_of_lt hp);lia
  ·have e3:(a12 + 1) * 2 ^ h ≤ b * 2 ^ h:=Int.mul_le_mul_of_nonneg_right (by lia) (Int.le_of_lt hp);rw [Int.add_mul,Int.one_mul] at e3;have e4:(a12 - b1 * 2 ^ h + b1) * 2 ^ h = a12 * 2 ^ h - b1 * 2 ^ h * 2 ^ h + b1 * 2 ^ h:=by rw [Int.add_mul,Int.sub_mul]
   have e5:(2 ^ h - 1) * b2 = b2 * 2 ^ h - b2:=by rw [Int.sub_mul,Int.one_mul,Int.mul_comm]
   have e6:b * 2 ^ h = b1 * 2 ^ h * 2 ^ h + b2 * 2 ^ h:=by (refine rwb hb ?_;rw [Int.add_mul])
   lia
 ·refine rwb (if_neg (by simpa using hq)) ?_;refine Ss.cons ?_;refine S1.unpack (by rfl) (Ym (by rfl)) C ?_;have lt:a12 < 2 ^ h * b1:=by
   have h5:a12 / 2 ^ h < b1:=by
    have h6:a12 / 2 ^ h ≤ b1:=by
     have:a12 / 2 ^ h < b1 + 1:=Int.ediv_lt_of_lt_mul hp (by rw [Int.add_mul];lia);lia
    lia
   have:=Int.lt_mul_of_ediv_lt hp h5;rw [Int.mul_comm];exact this
  refine EvE.call (EvE.tq C hmg ⟨_,Kp.xl (O3 X),?_⟩);refine EvL.lf (Lf.loc C (by rfl)) (EvL.lf (Lf.loc C (by rfl)) (EvL.lf (Lf.loc C (by rfl)) (EvL.nil ?_)));refine Fn.is C (ih H a12 b1 h hh ha hb1 h1 lt) (le_refl _) ?_;refine Asg.tup C rfl (Jg.cons (Asg.name C (Jg.cons (Asg.name C (Jg.nil ?_)))));refine Ss.nil ?_;have d0:=Int.ediv_nonneg ha (Int.le_of_lt hb1);have d1:a12 / b1 < 2 ^ h:=Int.ediv_lt_of_lt_mul hb1 lt;have m0:=emod_nonneg a12 (show b1 ≠ 0 by lia);have m1:=emod_lt_of_pos a12 hb1;refine (rest _ (a12 / b1) (a12 % b1) ?_ ?_ ?_ ?_ ?_ ?_ ?_ d0 d1 m0 ?_ ?_).mono (fun Z Z x=>x.elim) fun Z Z x=>x
  iterate 6 rfl
  ·rw [Int.mul_comm];exact (Int.mul_ediv_add_emod a12 b1).symm
  ·have e3:(2:Int) ^ (2 * h + 1) = 2 ^ (2 * h) * 2:=Int.pow_succ _ _;have e4:(2:Int) ^ (2 * h) = 2 ^ h * 2 ^ h:=by rw [← Int.pow_add];congr 1;lia
   have e5:(2:Int) ^ h * 1 ≤ 2 ^ h * 2 ^ h:=Int.mul_le_mul_of_nonneg_left (by lia) (Int.le_of_lt hp);lia
  ·have e3:(a12 % b1 + 1) * 2 ^ h ≤ b1 * 2 ^ h:=Int.mul_le_mul_of_nonneg_right (by lia) (Int.le_of_lt hp);have e4:=Int.mul_nonneg d0 hb2;rw [Int.add_mul] at e3;lia
theorem Rd (X:XB B) {m k:Nat} (ih:Jc5 B m k) (hk:k ≤ 2 ^ 18) {a b:Int} {n:Nat} (hn:n ≤ 4000 ∨ n ≤ 2 * k) (ha:0 ≤ a) (hb:0 < b) (hbn:intBits b = n) (hab:a < 2 ^ n * b) :
  Fn B (m + 2) (.ref 38) [.int a,.int b,.int n] H (Is (.tup [.int (a / b),.int (a % b)]) H):=by
 revert X ih hk hn ha hb hbn hab;revert B H m k a b n;refine no_implicit_lambda% (G7 (h:=?_));refine (?_:A7 _) _ _ _ _ _ _ _;intro B H m k a b n X ih hk hn ha hb hbn hab;have hmg:B.mg "_div3n2n" = some (.ref 45):=mgX X (by rfl);have hlim:∃ t,B.mg "_DIV_LIMIT" = some (.int 4000 t):=⟨_,mgX X (by rfl)⟩;have hdm:B.mg "divmod" = none:=mgN X (by rfl);have b2n:b < 2 ^ n:=by
  have:=Ze (a:=b);replace this:=hbn ▸ this;have e:=Js n;lia
 have hn20:n ≤ 2 ^ 19:=by lia
 have a2n:a < 2 ^ (2 * n):=by
  have e:(2:Int) ^ (2 * n) = 2 ^ n * 2 ^ n:=by rw [← Int.pow_add];congr 1;lia
  have:=Int.mul_lt_mul_of_pos_left b2n (Jr n);lia
 have nb:∀ {z:Int} {j:Nat},0 ≤ z→z < 2 ^ j→intBits z ≤ j:=fun {z j} hz hz'=>bits_le (by have:=Js j;lia);have ba:=nb ha a2n;refine el11 hlim fun tl hlim=>?_;refine (O3 X).fn (by rfl) (by rfl) (by rfl) rfl (no_implicit_lambda% (G2 (h:=?_)));refine (?_:A2 _) _ _;intro A' fm C;refine Ss.cons (S1.xh (EvB.cmp (EvE.bin (EvE.J4 (Lf.loc C (by rfl)) ⟨_,Ji.int F.slot_int_bit_length F.plainAttrs_int F.type_int_bit_length,Kp.builtin,EvL.nil (Cl.Ts (EvE.loc C (by rfl) (Op2.sub ?_)))⟩))));refine EvE.jfk C (by rfl) hlim (d:=.int 4000) (fun F=>.int _ _) (Op2.leI ⟨_,rfl,?_⟩)
 by_cases hc:(intBits a:Int) - n ≤ 4000
 ·refine rwb (if_pos (by simpa using hc)) ?_;refine Ss.cons (S1.ret (EvE.call (EvE.gu C (by rfl) hdm (by rfl) (by decide) ⟨_,Kp.builtin,EvL.lf (Lf.loc C (by rfl)) (EvL.lf (Lf.loc C (by rfl)) (EvL.nil (Cl.divmod (by lia) ?_ ⟨?_,rfl⟩)))⟩)))
  ·exact Jb9 (by refine rwb hbn ?_;lia) (by lia)
  ·refine rwb (J0 (Int.le_of_lt hb)) ?_;exact rwb (J3 (Int.le_of_lt hb)) rfl
 refine rwb (if_neg (by simpa using hc)) ?_;refine Ss.nil ?_;have hn2:n ≤ 2 * k:=by
  refine Or.elim hn (fun h=>?_) fun h=>?_
  ·exfalso;lia
  ·exact h
 have mid:∀ (ρ:Loc) (a' b':Int) (h:Nat) (pad:Int),Has ρ "a" (.int a')→Has ρ "b" (.int b')→Has ρ "n" (.int (2 * h:Nat))→Has ρ "pad" (.int pad)→h ≤ k→0 ≤ a'→0 < b'→intBits b' = 2 * h→a' < 2 ^ (2 * h) * b' →
   ExS B A' fm ρ H ((bodyOf 3).drop 3) (fun Z Z=>False) (Is (.tup [.int (a' / b'),.int (if pad != 0 then (a' % b').fdiv (2 ^ 1) else a' % b')]) H) NoE:=by
  refine no_implicit_lambda% (G5 (h:=?_));refine (?_:A5 _) _ _ _ _ _;intro ρ a' b' h pad la lb ln lp hh ha' hb' hbn' hab';have hp:=Jr h;have e2h:(2:Int) ^ (2 * h) = 2 ^ h * 2 ^ h:=by rw [← Int.pow_add];congr 1;lia
  have h0:0 < h:=by
   rcases Nat.eq_zero_or_pos h with q | q
   ·exfalso;subst q;have:=X4 (a:=b') (by lia);lia
   ·exact q
  have hbl:b' < 2 ^ (2 * h):=by
   have:=Ze (a:=b');replace this:=hbn' ▸ this;have e:=Js (2 * h);lia
  have hbg:(2:Int) ^ (2 * h - 1) ≤ b':=by
   have:=Pa (a:=b') (by lia);replace this:=hbn' ▸ this;have e:=Js (2 * h - 1);lia
  have sh:((2 * h:Nat):Int).fdiv (2 ^ (1:Int).toNat) = (h:Int):=by
   (refine rwb (show ((1:Int).toNat) = 1 by rfl) ?_;rewrite [Int.pow_succ,Int.pow_zero];refine rwb (J0 (by decide)) ?_);lia
  refine Ss.cons (S1.assign C (EvE.jo (Lf.loc C ln) Lf.int (Op2.shr (by decide) ?_)));refine rwb sh ?_;refine Ss.cons (S1.assign C (EvE.bin (EvE.jo Lf.int (Lf.loc C Has.self) (Op2.shl (by lia) ?_ (EvE.int (Op2.sub ?_))))))
  ·have:intBits 1 = 1:=by decide
   lia
  rw [toNat_natCast,Int.one_mul]
  refine Ss.cons (S1.iy C (EvE.jo (Lf.loc C lb.ne.ne) (Lf.loc C Has.self.ne) (Op2.shr (by lia)
   (EvE.jo (Lf.loc C lb.ne.ne) (Lf.loc C Has.self) (Op2.band ?_)))))
  refine rwb (Ic (Int.le_of_lt hb')) ?_;rewrite [toNat_natCast];refine rwb (J0 (Int.le_of_lt hp)) ?_;have hb1:b' / 2 ^ h * 2 ^ h + b' % 2 ^ h = b':=by rw [Int.mul_comm];exact Int.mul_ediv_add_emod b' (2 ^ h)
  have m0:=emod_nonneg b' (show (2:Int) ^ h ≠ 0 by lia);have m1:=emod_lt_of_pos b' hp;have hbit1:intBits (b' / 2 ^ h) = h:=by
   have e:h - 1 + 1 = h:=by lia
   have:=Pb (a:=b' / 2 ^ h) (k:=h - 1) (by
    refine Int.le_ediv_of_mul_le hp ?_
    (rewrite [← Int.pow_add];refine rwb (show h - 1 + h = 2 * h - 1 by lia) ?_);exact hbg) (by refine rwb e ?_;exact Int.ediv_lt_of_lt_mul hp (by refine rwf e2h ?_;exact hbl))
   lia
  have hb1p:0 < b' / 2 ^ h:=by
   rcases Int.lt_or_le 0 (b' / 2 ^ h) with q | q
   ·exact q
   ·exfalso
    have q2:=Int.ediv_nonneg (Int.le_of_lt hb') (Int.le_of_lt hp);have q3:b' / 2 ^ h = 0:=by lia
    replace hbit1:=q3 ▸ hbit1;have:intBits 0 = 0:=by decide
    lia
  have d3:=fun {x y:Int} (hx:0 ≤ x) (hx':x < b') (hy:0 ≤ y) (hy':y < 2 ^ h)=>Jbo (H:=H) X ih (by lia) hh hbit1 hb1p m0 m1 hb1.symm hx hx' hy hy';refine Ss.cons (S1.unpack (by rfl) (Ym (by rfl)) C (EvE.call (EvE.tq C hmg ⟨_,Kp.xl (O2 X),?_⟩)));refine EvL.cons (EvE.jo (Lf.loc C la.ne.ne.ne.ne) (Lf.loc C ln.ne.ne.ne.ne) (Op2.shr (by lia) ?_));refine EvL.cons (EvE.bin (EvE.jo (Lf.loc C la.ne.ne.ne.ne) (Lf.loc C Has.self.ne.ne.ne) (Op2.shr (by lia) (EvE.loc C Has.self.ne.ne (Op2.band ?_)))));refine EvL.lf (Lf.loc C lb.ne.ne.ne.ne) ?_;refine EvL.lf (Lf.loc C Has.self) ?_;refine EvL.lf (Lf.loc C Has.self.ne) ?_;refine EvL.lf (Lf.loc C Has.self.ne.ne.ne) (EvL.nil ?_);have ea:a'.fdiv (2 ^ ((2 * h:Nat):Int).toNat) = a' / 2 ^ (2 * h):=by rw [toNat_natCast];exact J0 (Int.le_of_lt (Jr _))
  have eb:Builtin.bitAnd (a'.fdiv (2 ^ ((h:Int)).toNat)) (2 ^ h - 1) = a' / 2 ^ h % 2 ^ h:=by
   (rewrite [toNat_natCast];refine rwb (J0 (Int.le_of_lt hp)) ?_);exact Ic (Int.ediv_nonneg ha' (Int.le_of_lt hp))
  refine rwb ea (rwb eb ?_);have c1:=Int.ediv_nonneg ha' (Int.le_of_lt hp);have c2:a' / 2 ^ (2 * h) < b':=Int.ediv_lt_of_lt_mul (Jr _) (by rw [Int.mul_comm];exact hab');have c3:a' / 2 ^ (2 * h) * 2 ^ h + a' / 2 ^ h % 2 ^ h = a' / 2 ^ h:=by
   have:a' / 2 ^ (2 * h) = a' / 2 ^ h / 2 ^ h:=by (refine rwb e2h ?_;exact rwb (Int.ediv_ediv_of_nonneg (Int.le_of_lt hp)) rfl)
   (refine rwb this ?_;rw [Int.mul_comm]);exact Int.mul_ediv_add_emod _ _
  refine Fn.is C (d3 (Int.ediv_nonneg ha' (Int.le_of_lt (Jr _))) c2 (emod_nonneg _ (by lia)) (emod_lt_of_pos _ hp)) (le_refl _) ?_;refine rwb c3 ?_;refine Asg.tup C rfl (Jg.cons (Asg.name C (Jg.cons (Asg.name C (Jg.nil ?_)))));refine Ss.cons (S1.unpack (by rfl) (Ym (by rfl)) C (EvE.call (EvE.tq C hmg ⟨_,Kp.xl (O2 X),?_⟩)));refine EvL.lf (Lf.loc C Has.self) ?_;refine EvL.cons (EvE.jo (Lf.loc C la.ne.ne.ne.ne.ne.ne) (Lf.loc C Has.self.ne.ne.ne.ne) (Op2.band ?_));refine EvL.lf (Lf.loc C lb.ne.ne.ne.ne.ne.ne) ?_;refine EvL.lf (Lf.loc C Has.self.ne.ne) ?_;refine EvL.lf (Lf.loc C Has.self.ne.ne.ne) ?_;refine EvL.lf (Lf.loc C Has.self.ne.ne.ne.ne.ne) (EvL.nil ?_);refine rwb (Ic ha') ?_;have r0:=emod_nonneg (a' / 2 ^ h) (show b' ≠ 0 by lia);have r1:=emod_lt_of_pos (a' / 2 ^ h) hb';have w0:=emod_nonneg a' (show (2:Int) ^ h ≠ 0 by lia);have w1:=emod_lt_of_pos a' hp;refine Fn.is C (d3 r0 r1 w0 w1) (le_refl _) ?_;refine Asg.tup C rfl (Jg.cons (Asg.name C (Jg.cons (Asg.name C (Jg.nil ?_)))));have t0:0 ≤ a' / 2 ^ h % b' * 2 ^ h + a' % 2 ^ h:=by have:=Int.mul_nonneg r0 (Int.le_of_lt hp);lia
  have t1:a' / 2 ^ h % b' * 2 ^ h + a' % 2 ^ h < 2 ^ h * b':=by
   have:(a' / 2 ^ h % b' + 1) * 2 ^ h ≤ b' * 2 ^ h:=Int.mul_le_mul_of_nonneg_right (by lia) (Int.le_of_lt hp);rw [Int.add_mul,Int.mul_comm b'] at this;lia
  have t2:=Int.ediv_nonneg t0 (Int.le_of_lt hb');have t3:(a' / 2 ^ h % b' * 2 ^ h + a' % 2 ^ h) / b' < 2 ^ h:=Int.ediv_lt_of_lt_mul hb' t1;have t4:=Int.ediv_nonneg c1 (Int.le_of_lt hb');have t5:a' = (a' / 2 ^ h / b' * 2 ^ h + (a' / 2 ^ h % b' * 2 ^ h + a' % 2 ^ h) / b') * b' + (a' / 2 ^ h % b' * 2 ^ h + a' % 2 ^ h) % b':=by
   have u1:=Int.mul_ediv_add_emod (a' / 2 ^ h % b' * 2 ^ h + a' % 2 ^ h) b';have u2:=Int.mul_ediv_add_emod (a' / 2 ^ h) b';have u3:=Int.mul_ediv_add_emod a' (2 ^ h);have u4:(b' * (a' / 2 ^ h / b') + a' / 2 ^ h % b') * 2 ^ h = (a' / 2 ^ h) * 2 ^ h:=by exact rwb u2 rfl
   rw [Int.add_mul] at u4;rw [Int.add_mul];have u5:a' / 2 ^ h / b' * 2 ^ h * b' = b' * (a' / 2 ^ h / b') * 2 ^ h:=by rw [Int.mul_comm b',Int.mul_assoc,Int.mul_assoc,Int.mul_comm b']
   have u6:=Int.mul_comm (2 ^ h) (a' / 2 ^ h);have u7:=Int.mul_comm b' ((a' / 2 ^ h % b' * 2 ^ h + a' % 2 ^ h) / b');lia
  refine Yd (Td t5 (emod_nonneg _ (by lia)) (emod_lt_of_pos _ hb')) fun t6 t7=>?_;have last:∀ (ρ':Loc) (rr:Int),Has ρ' "q1" (.int (a' / 2 ^ h / b'))→Has ρ' "q2" (.int ((a' / 2 ^ h % b' * 2 ^ h + a' % 2 ^ h) / b'))→Has ρ' "half_n" (.int h)→Has ρ' "r" (.int rr) →
    ExS B A' fm ρ' H ((bodyOf 3).drop 9) (fun Z Z=>False) (Is (.tup [.int (a' / b'),.int rr]) H) NoE:=by
   refine no_implicit_lambda% (G2 (h:=?_));refine (?_:A2 _) _ _;intro ρ' rr l1 l2 l3 l4;refine Ss.cons (S1.ret (EvE.tup (EvL.cons (EvE.bin (EvE.jo (Lf.loc C l1) (Lf.loc C l3) (Op2.shl (by lia) ?_ (EvE.loc C l2 (Op2.bor ?_))))))))
   ·have q1:a' / 2 ^ h / b' < 2 ^ h:=Int.ediv_lt_of_lt_mul hb' (Int.ediv_lt_of_lt_mul hp (by
     have:a' < 2 ^ h * b' * 2 ^ h:=by (rewrite [Int.mul_right_comm];refine rwf e2h ?_);exact hab'
     exact this))
    have:=nb t4 q1;lia
   ·rewrite [toNat_natCast];refine rwb (Rj t4 t2 t3) (rwf t6 ?_);exact EvL.lf (Lf.loc C l4) (EvL.nil (OpN.tuple ⟨rfl,rfl⟩))
  refine Ss.cons (S1.xh (EvB.plain (EvE.loc C lp.ne.ne.ne.ne.ne.ne.ne.ne ⟨_,Tru.int,?_⟩)))
  by_cases hpad:(pad != 0) = true
  ·refine rwb (if_pos hpad) (rwb (if_pos hpad) ?_);refine Ss.cons (S1.aug C (by rfl) (.inl (by rfl)) Has.self (EvE.int (Op2.jfi (by decide) ?_)));refine Ss.nil ?_;refine rwb (show (1:Int).toNat = 1 by rfl) (rwf t7 ?_);exact last _ _ Has.self.ne.ne.ne.ne Has.self.ne.ne Has.self.ne.ne.ne.ne.ne.ne.ne.ne Has.self
  ·refine rwb (if_neg hpad) (rwb (if_neg hpad) ?_);refine Ss.nil ?_;refine rwf t7 ?_;exact last _ _ Has.self.ne.ne.ne Has.self.ne Has.self.ne.ne.ne.ne.ne.ne.ne Has.self
 refine Ss.cons (S1.assign C (EvE.jo (Lf.loc C (by rfl)) Lf.int (Op2.band ?_)));rw [bitAnd_m1];refine Ss.cons (S1.xh (EvB.plain (EvE.loc C Has.self ⟨_,Tru.int,?_⟩)))
 by_cases hpad:(((n:Int) % 2) != 0) = true
 ·refine rwb (if_pos hpad) ?_;have hodd:n % 2 = 1:=by
   have:(n:Int) % 2 ≠ 0:=by simpa using hpad
   lia
  refine Ss.cons (S1.aug C (by rfl) (.inl (by rfl)) (by rfl) (EvE.int (Op2.jej (by decide) ?_ ?_)))
  ·lia
  refine Ss.cons (S1.aug C (by rfl) (.inl (by rfl)) (by rfl) (EvE.int (Op2.jej (by decide) ?_ ?_)))
  ·refine rwb hbn ?_;lia
  refine Ss.cons (S1.aug C (by rfl) (.inl (by rfl)) (by rfl) (EvE.int (Op2.iadd ?_)));refine Ss.nil ?_;have eh:(n:Int) + 1 = ((2 * ((n + 1) / 2):Nat):Int):=by lia
  refine rwb (show (1:Int).toNat = 1 by rfl) ?_;rewrite [Int.pow_succ,Int.pow_zero,Int.one_mul];refine rwb eh ?_;have en:2 * ((n + 1) / 2) = n + 1:=by lia
  refine ((mid _ (a * 2) (b * 2) ((n + 1) / 2) ((n:Int) % 2) ?_ ?_ ?_ ?_ (by lia) (by lia) (by lia) ?_ ?_).mono (fun Z Z x=>x.elim) fun d H' w=>w.rec fun x y=>⟨?_,y⟩)
  iterate 4 rfl
  ·refine rwb en ?_;have g1:=Pa (a:=b) (by lia);replace g1:=hbn ▸ g1;have g2:=Js (n - 1);have g3:=X4 (a:=b) (by lia);replace g3:=hbn ▸ g3;have g4:(2:Int) ^ n = 2 ^ (n - 1) * 2:=by rw [← Int.pow_succ];congr 1;lia
   exact Pb (by lia) (by rw [Int.pow_succ];lia)
  ·refine rwb en ?_;rw [Int.pow_succ];have:a * 2 < 2 ^ n * b * 2:=by lia
   have e:(2:Int) ^ n * 2 * (b * 2) = 2 ^ n * b * 2 * 2:=by rw [Int.mul_assoc,Int.mul_left_comm 2 b,← Int.mul_assoc,← Int.mul_assoc]
   refine rwb e ?_;have:=Int.mul_pos (Jr n) hb;lia
  ·have e1:a * 2 % (b * 2) = a % b * 2:=by (rewrite [Int.mul_comm a,Int.mul_comm b];refine rwb (Int.mul_emod_mul_of_pos _ _ (by decide)) ?_;rw [Int.mul_comm])
   have e2:(a % b * 2).fdiv (2 ^ 1) = a % b:=by (rewrite [Int.pow_succ,Int.pow_zero];refine rwb (J0 (by decide)) ?_);lia
   refine rwb x (rwb (if_pos hpad) (rwb (Int.mul_ediv_mul_of_pos_left _ _ (by decide)) (rwb e1 ?_)));exact rwb e2 rfl
 ·refine rwb (if_neg hpad) ?_;refine Ss.nil ?_;have hev:n % 2 = 0:=by
   have:¬ (n:Int) % 2 ≠ 0:=by simpa using hpad
   lia
  have en:2 * (n / 2) = n:=by lia
  refine ((mid _ a b (n / 2) ((n:Int) % 2) ?_ ?_ ?_ ?_ (by lia) ha hb ?_ ?_).mono (fun Z Z x=>x.elim) fun d H' zqq=>zqq.rec fun x y=>⟨?_,y⟩)
  ·rfl
  ·rfl
  ·refine rwb en ?_;rfl
  ·rfl
  ·refine rwb en ?_;exact hbn
  ·refine rwb en ?_;exact hab
  ·refine rwb x ?_;exact rwb (if_neg hpad) rfl
theorem Jds (X:XB B):∀ j,j ≤ 6→Jc5 B (2 * j + 2) (4000 * 2 ^ j)
 | 0,_=>fun H a b n hn ha hb hbn hab=>Rd (m:=0) (k:=0) X (fun H a b n hn ha hb hbn hab=>by
   exfalso;have:=X4 (a:=b) (by lia);lia) (by decide) (.inl (by simpa using hn)) ha hb hbn hab
 | j + 1,hj=>fun H a b n hn ha hb hbn hab=>(Rd (m:=2 * j + 2) (k:=4000 * 2 ^ j) X (Jds X j (by lia)) (by
   have:2 ^ j ≤ 2 ^ 5:=pow_le_pow_right (by decide) (by lia)
   lia) (.inr (by rw [Nat.pow_succ] at hn;lia)) ha hb hbn hab)
noncomputable def Fb (i j:Nat):List Stmt:=match (bodyOf i)[j]? with
 | some (.FunctionDef _ _ body _ _ _ _ _ _ _)=>body
 | _=>[]
noncomputable def Vf (i j:Nat):Scope:=match (bodyOf i)[j]? with
 | some (.FunctionDef _ _ _ _ _ _ scope _ _ _)=>scope
 | _=>default
noncomputable def Of (i j:Nat):Arguments:=match (bodyOf i)[j]? with
 | some (.FunctionDef _ params _ _ _ _ _ _ _ _)=>params
 | _=>default
noncomputable def Ve (ds:List D) (k:Nat) (es:List D):List D:=ds.take k ++ es ++ ds.drop (k + es.length)
theorem O4 {ds:List D} {k:Nat} {d:D} (h:k < ds.length):Ve ds k [d] = ds.set k d:=by
 (refine rwb List.set_eq_take_append_cons_drop (rwb (if_pos h) ?_));simp [Ve]
theorem Np {ds:List D} {k:Nat} {es fs:List D} (h:k + es.length ≤ ds.length):Ve (Ve ds k es) (k + es.length) fs = Ve ds k (es ++ fs):=by
 have hl:(ds.take k).length = k:=by refine rwb length_take ?_;lia
 unfold Ve;refine rwb (List.take_append_of_le_length (by rw [length_append,hl];exact le_refl _)) (rwb (take_of_length_le (by rw [length_append,hl];lia)) (rwb List.drop_append ?_));refine rwb (List.drop_of_length_le (by rw [length_append,hl];lia)) ?_;rewrite [nil_append];refine rwb List.drop_drop (rwb length_append (rwb length_append (rwb hl ?_)));simp only [append_assoc]
 congr 4
 lia
theorem Mj {ds:List D} {k:Nat} {es:List D} (h:k + es.length ≤ ds.length):(Ve ds k es).length = ds.length:=by
 unfold Ve;simp only [length_append,length_take,length_drop];lia
noncomputable abbrev Hu (l f:Addr) (fd:FuncData) (m:Nat):Loc:=[("a_digits",.ref l),("inner",.clo f fd),("n",.int m)]
theorem Ll {fd:FuncData} {q:Str} {b:FuncBody} {s:Scope} {c:List (Str × Addr)} (I:Oa fd q (Of 5 1) b s c) (vs:List Value) (h:vs.length = (["x", "L", "R"]:List Str).length):bindArgs fd ⟨vs,[]⟩ = pure ((["x", "L", "R"]:List Str).zip vs):=by
 revert vs;refine Sr fun Z Z Z=>?_;unfold bindArgs;refine rwb I.p (rwb I.d (rwb I.k ?_));rfl
theorem Aw {fd:FuncData} {clos:List (Str × Addr)} {f l:Addr} {m:Nat} (hm:m ≤ 2 ^ 14) (I:Oa fd "_int2digits.<locals>.inner" (Of 5 1) (.stmts (Fb 5 1)) (Vf 5 1) clos)
  (hfr:∀ x,(x,NameKind.free) ∈ (Vf 5 1).names→∃ c,clos.lookup x = some c) :
  ∀ (d:Nat) (L R:Nat) (x:Int) (ds:List D),L < R→R ≤ ds.length→(ds.length ≤ 2 ^ 16 ∧ m * ds.length ≤ 2 ^ 24)→R - L ≤ 2 ^ d→0 ≤ x→x < 2 ^ (m * (R - L)) →
   CFn B (d + 1) fd (Hu l f fd m) [.int x,.int L,.int R] ((l,ds) :: H) (Is .none ((l,Ve ds L ((Vi m (R - L) x).map .int)) :: H)):=by
 revert hm I hfr;revert B H fd clos f l m;refine no_implicit_lambda% (G7 (h:=?_));refine (?_:A7 _) _ _ _ _ _ _ _;intro B H fd clos f l m hm I hfr;have c0:∀ L',cellsFrom L' (Vf 5 1).names [] = []:=fun Z=>rfl;have hi1:∀ x:Int,0 ≤ x→∀ j:Nat,x < 2 ^ j→intBits x ≤ j:=fun x hx j h=>bits_le (by have:=Js j;lia);intro d
 induction d with
 | zero=>
  intro L R x ds h1 h2 h3 h4 h5 h6;have hR:R = L + 1:=by simp at h4;lia
  subst hR;refine CFn.mk I (by rfl) (Ll I) (by rfl) rfl fun A' fm L' f' code ee C=>?_;refine Ss.cons (S1.xh (EvB.cmp (EvE.jo (Lf.loc C (by rfl)) Lf.int (Op2.add (EvE.loc C (by rfl) (Op2.jaz ⟨_,rfl,?_⟩))))));refine rwb (if_pos (by simp)) ?_;refine Ss.cons (S1.setitem (EvE.loc C (by rfl) (EvE.jau C (by rfl) (by rfl) (EvE.loc C (by rfl) ⟨l,ds,L,_,rfl,rfl,.head,by lia,by lia,by lia,?_⟩))));refine Ss.cons (S1.jea ⟨rfl,?_⟩);have e:L + 1 - L = 1:=by lia
  rw [e] at h6 ⊢;rw [Nat.mul_one] at h6;simp only [Y8,Yw,map_cons,map_nil];refine rwb (Int.emod_eq_of_lt h5 h6) (rwb (O4 (by lia)) ?_);rw [toNat_natCast]
 | succ d ih=>
  intro L R x ds h1 h2 h3 h4 h5 h6;refine CFn.mk I (by rfl) (Ll I) (by rfl) rfl fun A' fm L' f' code ee C=>?_;refine Ss.cons (S1.xh (EvB.cmp (EvE.jo (Lf.loc C (by rfl)) Lf.int (Op2.add (EvE.loc C (by rfl) (Op2.jaz ⟨_,rfl,?_⟩))))))
  by_cases hR:R = L + 1
  ·subst hR;refine rwb (if_pos (by simp)) ?_;refine Ss.cons (S1.setitem (EvE.loc C (by rfl) (EvE.jau C (by rfl) (by rfl) (EvE.loc C (by rfl) ⟨l,ds,L,_,rfl,rfl,.head,by lia,by lia,by lia,?_⟩))));refine Ss.cons (S1.jea ⟨rfl,?_⟩);have e:L + 1 - L = 1:=by lia
   rw [e] at h6 ⊢;rw [Nat.mul_one] at h6;simp only [Y8,Yw,map_cons,map_nil];refine rwb (Int.emod_eq_of_lt h5 h6) (rwb (O4 (by lia)) ?_);rw [toNat_natCast]
  ·refine rwb (if_neg (by simp;lia)) ?_;refine Ss.nil ?_;have hmul:m * (R - L) ≤ 2 ^ 24:=le_trans (Nat.mul_le_mul_left m (show R - L ≤ ds.length by lia)) h3.2;refine Ss.cons (S1.assign C (EvE.bin (EvE.jo (Lf.loc C (by rfl)) (Lf.loc C (by rfl)) (Op2.add (EvE.int (Op2.shr (by decide) ?_))))));have emid:((L:Int) + R).fdiv (2 ^ (1:Int).toNat) = (((L + R) / 2:Nat):Int):=by
    (refine rwb (show ((1:Int).toNat) = 1 by rfl) ?_;rewrite [Int.pow_succ,Int.pow_zero];refine rwb (J0 (by decide)) ?_);lia
   refine rwb emid ?_;generalize hM:(L + R) / 2 = M;have hM1:L < M:=by lia
   have hM2:M < R:=by lia
   refine Ss.cons (S1.assign C (EvE.bin (EvE.jo (Lf.loc C (by rfl)) (Lf.loc C (by rfl)) (Op2.sub (EvE.jau C (by rfl) (by rfl) (Op2.mul (IntMulOk.of_left ?_) ?_))))))
   ·refine le_trans (bits_le (k:=64) ?_) (le_refl _);have:(2:Nat) ^ 64 = 18446744073709551616:=by decide
    lia
   have esh:((M:Int) - L) * m = ((m * (M - L):Nat):Int):=by
    rewrite [Int.mul_comm,Int.natCast_mul];exact rwb (Int.ofNat_sub (Nat.le_of_lt hM1)) rfl
   refine rwb esh ?_;refine Ss.cons (S1.assign C (EvE.jo (Lf.loc C (by rfl)) (Lf.loc C (by rfl)) (Op2.shr (by lia) ?_)));rewrite [toNat_natCast];refine rwb (J0 (Int.le_of_lt (Jr _))) ?_;have hq0:=Int.ediv_nonneg h5 (Int.le_of_lt (Jr (m * (M - L))));have hq1:x / 2 ^ (m * (M - L)) < 2 ^ (m * (R - M)):=by
    refine Int.ediv_lt_of_lt_mul (Jr _) ?_;(rewrite [← Int.pow_add,← Nat.mul_add];refine rwb (show R - M + (M - L) = R - L by lia) ?_);exact h6
   refine Ss.cons (S1.assign C (EvE.Wf (Lf.loc C (by rfl)) (EvE.jo (Lf.loc C (by rfl)) (Lf.loc C (by rfl)) (Op2.shl (by lia) ?_ (Op2.bxor ?_)))))
   ·have b1:=hi1 _ hq0 _ hq1;have b2:m * (R - M) ≤ m * (R - L):=Nat.mul_le_mul_left _ (by lia);have b3:m * (M - L) ≤ m * (R - L):=Nat.mul_le_mul_left _ (by lia);lia
   rewrite [toNat_natCast];refine rwb (Hv h5) ?_;have hr0:=emod_nonneg x (show (2:Int) ^ (m * (M - L)) ≠ 0 by have:=Jr (m * (M - L));lia);have hr1:=emod_lt_of_pos x (Jr (m * (M - L)));have hce:fm.env.cells = clos:=by refine rwb ee ?_;show cellsFrom _ _ [] ++ clos = clos;rw [c0];rfl
   have hop:∀ {ρ:Loc} {H2:Led} {es:List D} {PP:D→Led→Prop} {EE:Value→Shared→Prop} (hp1:Has ρ "a_digits" (.ref l)) (hp2:Has ρ "inner" (.clo f fd)) (hp3:Has ρ "n" (.int m)) (k:CFn B (d + 1) fd (Hu l f fd m) es H2 PP),Jp B A' fm ρ H2 (.ref f) es PP EE:=fun {ρ H2 es PP EE} hp1 hp2 hp3 k=>
    CFn.op (x:="inner") C k (le_refl _) hp2 (.inr (by rfl)) (fun y c h=>by (refine rwb hce (rwf I.c ?_));exact h) (fun y h=>by replace h:=I.s ▸ h;refine rwb I.c ?_;exact hfr y h) (fun y e h=>by
     refine rwb I.s ?_;simp only [Hu,lookup_cons,lookup_nil] at h;split at h
     ·rename_i q;obtain rfl:=oi h;refine rwb (beq_iff_eq.mp q) ?_;exact ⟨by rfl,hp1,.inr (by rfl)⟩
     ·split at h
      ·rename_i q;obtain rfl:=oi h;refine rwb (beq_iff_eq.mp q) ?_;exact ⟨by rfl,hp2,.inr (by rfl)⟩
      ·split at h
       ·rename_i q;obtain rfl:=oi h;refine rwb (beq_iff_eq.mp q) ?_;exact ⟨by rfl,hp3,.inr (by rfl)⟩
       ·contradiction)
   have hlen1:=Vw m (M - L) (x % 2 ^ (m * (M - L)));refine Ss.cons (S1.expr (EvE.call (EvE.jau C (by rfl) (by rfl) ⟨_,Kp.clo,EvL.lf (Lf.loc C (by rfl)) (EvL.lf (Lf.loc C (by rfl)) (EvL.lf (Lf.loc C (by rfl)) (EvL.nil ?_))) ⟩)));refine hop (by rfl) (by rfl) (by rfl) ((ih L M _ ds hM1 (by lia) h3 (by lia) hr0 hr1).mono fun e H' z=>z.rec fun q1 q2=>?_);subst q2;refine Ss.cons (S1.expr (EvE.call (EvE.jau C (by rfl) (by rfl) ⟨_,Kp.clo,EvL.lf (Lf.loc C (by rfl)) (EvL.lf (Lf.loc C (by rfl)) (EvL.lf (Lf.loc C (by rfl)) (EvL.nil ?_))) ⟩)));have hl1:((Vi m (M - L) (x % 2 ^ (m * (M - L)))).map D.int).length = M - L:=by (rewrite [length_map];exact rwb hlen1 rfl)
   have hsl:(Ve ds L ((Vi m (M - L) (x % 2 ^ (m * (M - L)))).map D.int)).length = ds.length:=Mj (by refine rwb hl1 ?_;lia);refine hop (by rfl) (by rfl) (by rfl) ((ih M R _ _ hM2 (by refine rwb hsl ?_;exact h2) (by refine rwb hsl ?_;exact h3) (by lia) hq0 hq1).mono fun e H' zqq=>zqq.rec fun q1 q2=>?_);subst q2;refine Ss.nil ⟨rfl,?_⟩;have e3:Ve (Ve ds L ((Vi m (M - L) (x % 2 ^ (m * (M - L)))).map D.int)) M ((Vi m (R - M) (x / 2 ^ (m * (M - L)))).map D.int) = Ve ds L ((Vi m (R - L) x).map D.int):=by
    have e4:=Np (ds:=ds) (k:=L) (es:=(Vi m (M - L) (x % 2 ^ (m * (M - L)))).map D.int) (fs:=(Vi m (R - M) (x / 2 ^ (m * (M - L)))).map D.int) (by refine rwb hl1 ?_;lia);(replace e4:=hl1 ▸ e4;replace e4:=(show L + (M - L) = M by lia) ▸ e4);refine rwb e4 (rwf map_append ?_);rewrite [← Sp];exact rwb (show M - L + (R - M) = R - L by lia) rfl
   exact rwb e3 rfl
theorem Od (X:XB B):Jm B 52 (bodyOf 5) (Jh 5) ["a", "n"] []:=Jm.of X (by rfl) rfl rfl rfl rfl rfl (by rfl) (all2 fun a b=>rfl)
noncomputable def dlen (m:Nat) (a:Int):Nat:=(intBits a + m - 1) / m
theorem E8 {m:Nat} {a:Int} (hm:0 < m) (h0:0 ≤ a):a < 2 ^ (m * dlen m a):=by
 have h1:=Ze (a:=a);have h2:intBits a ≤ m * dlen m a:=by
  have:=Nat.div_add_mod (intBits a + m - 1) m;have h3:=Nat.mod_lt (intBits a + m - 1) hm;unfold dlen;lia
 have h4:=pow_le_pow_right (n:=2) (by decide) h2;have h5:=Js (m * dlen m a);lia
theorem Ho {m:Nat} {a:Int} (hm:0 < m) (h0:a ≠ 0):0 < dlen m a:=by
 have h1:=X4 h0;unfold dlen;exact Nat.div_pos (by omega) hm
theorem Ib {m:Nat} (hm:0 < m):dlen m 0 = 0:=by
 have:intBits 0 = 0:=by decide
 unfold dlen;refine rwb this ?_;exact Nat.div_eq_of_lt (by omega)
theorem Co {m:Nat} {a:Int} (hm:0 < m):m * dlen m a ≤ intBits a + m:=by
 have:=Nat.mul_div_le (intBits a + m - 1) m;unfold dlen;omega
theorem Sa (X:XB B) {a:Int} {m:Nat} (hm0:0 < m) (hm:m ≤ 2 ^ 14) (h0:0 ≤ a) (hb:intBits a ≤ 2 ^ 22) (hd:dlen m a ≤ 2 ^ 16):Fn B 19 (.ref 52) [.int a,.int m] H (Is (.lst ((Vi m (dlen m a) a).map .int)) H):=by
 revert X hm0 hm h0 hb hd;revert B H a m;refine no_implicit_lambda% (G4 (h:=?_));refine (?_:A4 _) _ _ _ _;intro B H a m X hm0 hm h0 hb hd;refine (Od X).fnC (code:=.ref 51) (qual:="_int2digits") (fun o fd e1 e2=>?_) (by rfl) (by rfl) (by rfl) rfl fun A' fm L ee hL hbase C=>?_
 ·replace e1:=ts (X.k _ _ (by rfl)) e1;obtain rfl:=oi e1;cases e2;exact ⟨rfl,rfl⟩
 have hlen:B.mg "len" = none:=mgN X (by rfl);refine Ss.cons (S1.assign C (EvE.bin (EvE.lst (EvL.lf Lf.int (EvL.nil (OpN.list ?_))))));refine EvE.bin (EvE.bin (EvE.bin (EvE.J4 (Lf.loc C (by rfl)) ⟨_,Ji.int PySem.F.slot_int_bit_length PySem.F.plainAttrs_int PySem.F.type_int_bit_length,Kp.builtin,EvL.nil (Cl.Ts ?_)⟩)));refine EvE.Vl C (by rfl) (Op2.add (EvE.int (Op2.sub ?_)));refine EvE.Vl C (by rfl) (Op2.fdiv (by lia) (Ku (le_trans (bits_le (k:=15) ?_) (by decide))) ?_)
 ·have:(2:Nat) ^ 15 = 32768:=by decide
  lia
 have ed:(((intBits a:Nat):Int) + m - 1).fdiv m = ((dlen m a:Nat):Int):=by
  refine rwb (J0 (by lia)) ?_;unfold dlen;rw [Int.natCast_ediv];congr 1;lia
 refine rwb ed ?_;refine Op2.jb2 (by lia) (by lia) fun b hbf=>?_;rw [toNat_natCast];have hce:Ri (Jh 5) (Vf 5 1) = true:=by rfl
 refine Ss.cons (S1.defn (q:=⟨51,47,33,4, "_int2digits.<locals>.inner"⟩) C (.head _) (by rfl) (by refine rwb ee ?_;rfl) (by refine rwb ee ?_;rfl) rfl rfl hce (by rfl) (by rfl) (fun Z=>rfl) fun f fd I=>?_);have hcell:∀ p ∈ (Vf 5 1).names,p.2 = .free→∃ c,fm.env.cells.lookup p.1 = some c:=by
  refine rwb ee ?_;intro p hp hk;have h1:(Jh 5).names.lookup p.1 = some .cell:=by
   have h2:((Vf 5 1).names.all fun p=>p.2 != .free || (Jh 5).names.lookup p.1 == some .cell) = true:=by rfl
   have:=List.all_eq_true.mp h2 p hp;replace this:=hk ▸ this
   simpa using this
  refine el11 (Za (k:=L + 1) (mem_of_lookup h1)) fun c hc=>?_;exact ⟨c,by show (_ ++ _:List (Str × Addr)).lookup _ = _;(refine rwb lookup_append (rwb hc ?_));rfl⟩
 refine Yd (Cv (scope:=Vf 5 1) (s:=B.s) C hcell) fun sub1 sub2=>?_;refine Ss.cons (S1.xh (EvB.plain (EvE.loc C (by rfl) ⟨_,Tru.int,?_⟩)));have fin:∀ {ρ:Loc} {ds:List D} {R:D→Led→Prop},Has ρ "a_digits" (.ref b)→R (.lst ds) H→ExS B A' fm ρ ((b,ds) :: H) ((bodyOf 5).drop 3) (fun Z Z=>False) R NoE:=fun {ρ ds R} hp hR=>
  Ss.cons (S1.je7 (EvE.Vl C hp ⟨b,ds,H,rfl,rfl,hbf,hR⟩))
 by_cases ha:(a != 0) = true
 ·refine rwb (if_pos ha) ?_;have ha':a ≠ 0:=by simpa using ha
  have hdp:=Ho hm0 ha';refine Ss.cons (S1.expr (EvE.call (EvE.Vl C (by rfl) ⟨_,Kp.clo,?_⟩)));refine EvL.lf (Lf.loc C (by rfl)) ?_;refine EvL.lf Lf.int ?_;refine EvL.cons (EvE.call (EvE.gu C (by rfl) hlen (by rfl) (by decide) ⟨_,Kp.builtin,?_⟩));refine EvL.lf (Lf.Vl C (by rfl)) (EvL.nil (Cl.jfg (.head _) (by refine rwb length_replicate ?_;lia) ?_));refine EvL.nil ?_;refine rwb length_replicate ?_
  refine CFn.op (x:="inner") (cap:=Hu b f fd m) C (m:=17) ?_ (by lia) (by rfl) (.inl (by rfl)) (fun y c h=>by replace h:=I.c ▸ h;exact sub1 y c h) (fun y h=>by replace h:=I.s ▸ h;refine rwb I.c ?_;exact sub2 y h) (fun y e h=>by
   refine rwb I.s ?_;simp only [Hu,lookup_cons,lookup_nil] at h;split at h
   ·rename_i q;obtain rfl:=oi h;refine rwb (beq_iff_eq.mp q) ?_;exact ⟨by rfl,by rfl,.inl (by rfl)⟩
   ·split at h
    ·rename_i q;obtain rfl:=oi h;refine rwb (beq_iff_eq.mp q) ?_;exact ⟨by rfl,by rfl,.inl (by rfl)⟩
    ·split at h
     ·rename_i q;obtain rfl:=oi h;refine rwb (beq_iff_eq.mp q) ?_;exact ⟨by rfl,by rfl,.inl (by rfl)⟩
     ·contradiction)
  refine (Aw (H:=H) hm I sub2 16 0 (dlen m a) a (List.replicate (dlen m a) (.int 0)) hdp (by refine rwb length_replicate ?_;exact le_refl _) (by refine rwb length_replicate ?_;have:=Co (a:=a) hm0;lia) (by lia) h0 (by rw [Nat.sub_zero];exact E8 hm0 h0)).mono fun e H' z=>z.rec fun q1 q2=>?_;subst q2;refine Ss.nil ?_;refine (fin (by rfl) ⟨?_,rfl⟩).mono (fun Z Z x=>x.elim) fun Z Z x=>x;rw [Nat.sub_zero]
  congr 1
  unfold Ve;refine rwb take_zero ?_;rewrite [nil_append,Nat.zero_add,length_map,Vw];refine rwb (List.drop_of_length_le (by rw [length_replicate];exact le_refl _)) ?_;rw [append_nil]
 ·refine rwb (if_neg ha) ?_;have ha':a = 0:=by simpa using ha
  subst ha';refine Ss.nil ?_;refine (fin (by rfl) ⟨?_,rfl⟩).mono (fun Z Z x=>x.elim) fun Z Z x=>x;refine rwb (Ib hm0) ?_;rfl
noncomputable abbrev Ax (xs:List Int) (f:Addr) (fd:FuncData) (m:Nat):Loc:=[("digits",.lst (xs.map .int)),("inner",.clo f fd),("n",.int m)]
theorem Io {fd:FuncData} {q:Str} {b:FuncBody} {s:Scope} {c:List (Str × Addr)} (I:Oa fd q (Of 6 0) b s c) (vs:List Value) (h:vs.length = (["L", "R"]:List Str).length):bindArgs fd ⟨vs,[]⟩ = pure ((["L", "R"]:List Str).zip vs):=by
 revert vs;refine all2 fun Z Z=>?_;unfold bindArgs;refine rwb I.p (rwb I.d (rwb I.k ?_));rfl
theorem Jba {xs:List Int} {L:Nat} (h:L < xs.length):(xs.drop L).take 1 = [xs[L]]:=by
 refine rwb (List.drop_eq_getElem_cons h) ?_;rfl
theorem Ja9 {xs:List Int} {L M R:Nat} (h1:L ≤ M) (h2:M ≤ R):(xs.drop L).take (R - L) = (xs.drop L).take (M - L) ++ (xs.drop M).take (R - M):=by
 refine rwb (show R - L = (M - L) + (R - M) by lia) (rwb List.take_add (rwb List.drop_drop ?_));exact rwb (show L + (M - L) = M by lia) rfl
theorem Sq {fd:FuncData} {clos:List (Str × Addr)} {f:Addr} {m k:Nat} {xs:List Int} (hm0:0 < m) (hm:m ≤ 2 ^ 14) (hk:k ≤ 2 ^ 20) (hxs:∀ x ∈ xs,intBits x ≤ k) (hlen:xs.length ≤ 2 ^ 16) (hml:m * xs.length ≤ 2 ^ 24)
  (I:Oa fd "_digits2int.<locals>.inner" (Of 6 0) (.stmts (Fb 6 0)) (Vf 6 0) clos)
  (hfr:∀ x,(x,NameKind.free) ∈ (Vf 6 0).names→∃ c,clos.lookup x = some c) :
  ∀ (d:Nat) (L R:Nat),L < R→R ≤ xs.length→R - L ≤ 2 ^ d →
   CFn B (d + 1) fd (Ax xs f fd m) [.int L,.int R] H (Is (.int (valOf m ((xs.drop L).take (R - L)))) H):=by
 revert hm0 hm hk hxs hlen hml I hfr;revert B H fd clos f m k xs;refine no_implicit_lambda% (G8 (h:=?_));refine (?_:A8 _) _ _ _ _ _ _ _ _;intro B H fd clos f m k xs hm0 hm hk hxs hlen hml I hfr;have c0:∀ L',cellsFrom L' (Vf 6 0).names [] = []:=fun Z=>rfl;have leaf:∀ (d L R:Nat),R = L + 1→R ≤ xs.length→CFn B (d + 1) fd (Ax xs f fd m) [.int L,.int R] H (Is (.int (valOf m ((xs.drop L).take (R - L)))) H):=by
  refine no_implicit_lambda% (G3 (h:=?_));refine (?_:A3 _) _ _ _;intro d L R hR h2;subst hR;refine CFn.mk I (by rfl) (Io I) (by rfl) rfl fun A' fm L' f' code ee C=>?_;refine Ss.cons (S1.xh (EvB.cmp (EvE.jo (Lf.loc C (by rfl)) Lf.int (Op2.add (EvE.loc C (by rfl) (Op2.jaz ⟨_,rfl,?_⟩))))));refine rwb (if_pos (by simp)) ?_;refine Ss.cons (S1.ret (EvE.J7 (Lf.jau C (by rfl) (by rfl)) (Lf.loc C (by rfl)) (Op2.X8 (d:=.int xs[L]) rfl (by lia) (by lia) ?_ ⟨?_,rfl⟩)))
  ·simp [show L < xs.length by lia]
  ·(refine rwb (show L + 1 - L = 1 by lia) (rwb (Jba (by lia)) ?_));simp [J5,Jv]
 refine no_implicit_lambda% (G1 (h:=?_));refine (?_:A1 _) _;intro d
 induction d with
 | zero=>intro L R h1 h2 h3;exact leaf 0 L R (by simp at h3;lia) h2
 | succ d ih=>
  intro L R h1 h2 h3
  by_cases hR:R = L + 1
  ·exact leaf (d + 1) L R hR h2
  refine CFn.mk I (by rfl) (Io I) (by rfl) rfl fun A' fm L' f' code ee C=>?_;refine Ss.cons (S1.xh (EvB.cmp (EvE.jo (Lf.loc C (by rfl)) Lf.int (Op2.add (EvE.loc C (by rfl) (Op2.jaz ⟨_,rfl,?_⟩))))));refine rwb (if_neg (by simp;lia)) ?_;refine Ss.nil ?_;refine Ss.cons (S1.assign C (EvE.bin (EvE.jo (Lf.loc C (by rfl)) (Lf.loc C (by rfl)) (Op2.add (EvE.int (Op2.shr (by decide) ?_))))));have emid:((L:Int) + R).fdiv (2 ^ (1:Int).toNat) = (((L + R) / 2:Nat):Int):=by
   (refine rwb (show ((1:Int).toNat) = 1 by rfl) ?_;rewrite [Int.pow_succ,Int.pow_zero];refine rwb (J0 (by decide)) ?_);lia
  refine rwb emid ?_;generalize hM:(L + R) / 2 = M;have hM1:L < M:=by lia
  have hM2:M < R:=by lia
  refine Ss.cons (S1.assign C (EvE.bin (EvE.jo (Lf.loc C (by rfl)) (Lf.loc C (by rfl)) (Op2.sub (EvE.jau C (by rfl) (by rfl) (Op2.mul (IntMulOk.of_left ?_) ?_))))))
  ·refine bits_le (k:=64) ?_;have:(2:Nat) ^ 64 = 18446744073709551616:=by decide
   lia
  have esh:((M:Int) - L) * m = ((m * (M - L):Nat):Int):=by
   rewrite [Int.mul_comm,Int.natCast_mul];exact rwb (Int.ofNat_sub (Nat.le_of_lt hM1)) rfl
  refine rwb esh ?_;have hce:fm.env.cells = clos:=by refine rwb ee ?_;show cellsFrom _ _ [] ++ clos = clos;rw [c0];rfl
  have hop:∀ {ρ:Loc} {H2:Led} {es:List D} {PP:D→Led→Prop} {EE:Value→Shared→Prop} (hp1:Has ρ "digits" (.lst (xs.map .int))) (hp2:Has ρ "inner" (.clo f fd)) (hp3:Has ρ "n" (.int m)) (k:CFn B (d + 1) fd (Ax xs f fd m) es H2 PP),Jp B A' fm ρ H2 (.ref f) es PP EE:=fun {ρ H2 es PP EE} hp1 hp2 hp3 k=>
   CFn.op (x:="inner") C k (le_refl _) hp2 (.inr (by rfl)) (fun y c h=>by (refine rwb hce (rwf I.c ?_));exact h) (fun y h=>by replace h:=I.s ▸ h;refine rwb I.c ?_;exact hfr y h) (fun y e h=>by
    refine rwb I.s ?_;simp only [Ax,lookup_cons,lookup_nil] at h;split at h
    ·rename_i q;obtain rfl:=oi h;refine rwb (beq_iff_eq.mp q) ?_;exact ⟨by rfl,hp1,.inr (by rfl)⟩
    ·split at h
     ·rename_i q;obtain rfl:=oi h;refine rwb (beq_iff_eq.mp q) ?_;exact ⟨by rfl,hp2,.inr (by rfl)⟩
     ·split at h
      ·rename_i q;obtain rfl:=oi h;refine rwb (beq_iff_eq.mp q) ?_;exact ⟨by rfl,hp3,.inr (by rfl)⟩
      ·contradiction)
  have hseg:((xs.drop M).take (R - M)).length = R - M:=by (refine rwb length_take (rwb length_drop ?_));lia
  have hsegL:((xs.drop L).take (M - L)).length = M - L:=by (refine rwb length_take (rwb length_drop ?_));lia
  have hmul:m * (R - L) ≤ 2 ^ 24:=le_trans (Nat.mul_le_mul_left m (show R - L ≤ xs.length by lia)) hml;refine Ss.cons (S1.ret (EvE.bin (EvE.bin (EvE.call (EvE.jau C (by rfl) (by rfl) ⟨_,Kp.clo,EvL.lf (Lf.loc C (by rfl)) (EvL.lf (Lf.loc C (by rfl)) (EvL.nil ?_))⟩)))));refine hop (by rfl) (by rfl) (by rfl) ((ih M R hM2 h2 (by lia)).mono fun e H' z=>z.rec fun q1 q2=>?_);subst q1 q2;refine EvE.loc C (by rfl) (Op2.shl (by lia) ?_ ?_)
  ·have b1:=Gb hm0 (k:=k) (xs:=(xs.drop M).take (R - M)) fun x hx=>hxs x (List.mem_of_mem_drop (mem_of_mem_take hx));replace b1:=hseg ▸ b1;have b2:m * (R - M) ≤ m * (R - L):=Nat.mul_le_mul_left _ (by lia);have b3:m * (M - L) ≤ m * (R - L):=Nat.mul_le_mul_left _ (by lia);lia
  refine EvE.call (EvE.jau C (by rfl) (by rfl) ⟨_,Kp.clo,EvL.lf (Lf.loc C (by rfl)) (EvL.lf (Lf.loc C (by rfl)) (EvL.nil ?_))⟩);refine hop (by rfl) (by rfl) (by rfl) ((ih L M hM1 (by lia) (by lia)).mono fun e H' zqq=>zqq.rec fun q1 q2=>?_);subst q1 q2;refine Op2.add ⟨?_,rfl⟩;rewrite [toNat_natCast];refine rwb (Ja9 (Nat.le_of_lt hM1) (Nat.le_of_lt hM2)) ?_;rewrite [Uk];refine rwb hsegL ?_
  congr 1;lia
theorem Qc (X:XB B):Jm B 59 (bodyOf 6) (Jh 6) ["digits", "n"] []:=Jm.of X (by rfl) rfl rfl rfl rfl rfl (by rfl) (all2 fun a b=>rfl)
theorem Lr (X:XB B) {xs:List Int} {m k:Nat} (hm0:0 < m) (hm:m ≤ 2 ^ 14) (hk:k ≤ 2 ^ 20) (hxs:∀ x ∈ xs,intBits x ≤ k) (hlen:xs.length ≤ 2 ^ 16) (hml:m * xs.length ≤ 2 ^ 24):Fn B 19 (.ref 59) [.lst (xs.map .int),.int m] H (Is (.int (valOf m xs)) H):=by
 revert X hm0 hm hk hxs hlen hml;revert B H xs m k;refine no_implicit_lambda% (G5 (h:=?_));refine (?_:A5 _) _ _ _ _ _;intro B H xs m k X hm0 hm hk hxs hlen hml;refine (Qc X).fnC (code:=.ref 58) (qual:="_digits2int") (fun o fd e1 e2=>?_) (by rfl) (by rfl) (by rfl) rfl fun A' fm L ee hL hbase C=>?_
 ·replace e1:=ts (X.k _ _ (by rfl)) e1;obtain rfl:=oi e1;cases e2;exact ⟨rfl,rfl⟩
 have hlenB:B.mg "len" = none:=mgN X (by rfl);have hce:Ri (Jh 6) (Vf 6 0) = true:=by rfl
 refine Ss.cons (S1.defn (q:=⟨58,54,48,4, "_digits2int.<locals>.inner"⟩) C (.tail _ (.head _)) (by rfl) (by refine rwb ee ?_;rfl) (by refine rwb ee ?_;rfl) rfl rfl hce (by rfl) (by rfl) (fun Z=>rfl) fun f fd I=>?_);have hcell:∀ p ∈ (Vf 6 0).names,p.2 = .free→∃ c,fm.env.cells.lookup p.1 = some c:=by
  refine rwb ee ?_;intro p hp hk;have h1:(Jh 6).names.lookup p.1 = some .cell:=by
   have h2:((Vf 6 0).names.all fun p=>p.2 != .free || (Jh 6).names.lookup p.1 == some .cell) = true:=by rfl
   have:=List.all_eq_true.mp h2 p hp;replace this:=hk ▸ this
   simpa using this
  refine el11 (Za (k:=L + 1) (mem_of_lookup h1)) fun c hc=>?_;exact ⟨c,by show (_ ++ _:List (Str × Addr)).lookup _ = _;(refine rwb lookup_append (rwb hc ?_));rfl⟩
 refine Yd (Cv (scope:=Vf 6 0) (s:=B.s) C hcell) fun sub1 sub2=>?_;refine Ss.cons (S1.ret (EvE.I0 (EvB.plain (EvE.Vl C (by rfl) ⟨_,Tru.lst (by rw [length_map];lia),?_⟩))))
 by_cases hx:xs = []
 ·subst hx;refine rwb (if_neg (by simp)) ?_;exact EvE.int ⟨rfl,rfl⟩
 ·refine rwb (if_pos (by simp [hx])) ?_;have hpos:0 < xs.length:=List.length_pos_iff.mpr hx;refine EvE.call (EvE.Vl C (by rfl) ⟨_,Kp.clo,?_⟩);refine EvL.lf Lf.int ?_;refine EvL.cons (EvE.call (EvE.gu C (by rfl) hlenB (by rfl) (by decide) ⟨_,Kp.builtin,?_⟩));refine EvL.lf (Lf.Vl C (by rfl)) (EvL.nil (Cl.sx (by rw [length_map];lia) ?_));refine EvL.nil ?_;rw [length_map]
  refine CFn.op (x:="inner") (cap:=Ax xs f fd m) C (m:=17) ?_ (by lia) (by rfl) (.inl (by rfl)) (fun y c h=>by replace h:=I.c ▸ h;exact sub1 y c h) (fun y h=>by replace h:=I.s ▸ h;refine rwb I.c ?_;exact sub2 y h) (fun y e h=>by
   refine rwb I.s ?_;simp only [Ax,lookup_cons,lookup_nil] at h;split at h
   ·rename_i q;obtain rfl:=oi h;refine rwb (beq_iff_eq.mp q) ?_;exact ⟨by rfl,by rfl,.inl (by rfl)⟩
   ·split at h
    ·rename_i q;obtain rfl:=oi h;refine rwb (beq_iff_eq.mp q) ?_;exact ⟨by rfl,by rfl,.inl (by rfl)⟩
    ·split at h
     ·rename_i q;obtain rfl:=oi h;refine rwb (beq_iff_eq.mp q) ?_;exact ⟨by rfl,by rfl,.inl (by rfl)⟩
     ·contradiction)
  refine (Sq (H:=H) hm0 hm hk hxs hlen hml I sub2 16 0 xs.length hpos (le_refl _) (by lia)).mono fun e H' z=>z.rec fun q1 q2=>⟨?_,q2⟩;refine rwb q1 ?_;rewrite [Nat.sub_zero];refine rwb drop_zero ?_;exact rwb take_length rfl
end
section
variable {prog:Program} {w:World} {A:Around} {E:Value→Shared→Prop} {s:Shared}
theorem Ap {e it:Addr} {i:Nat} {P:Value→Nat→Prop} {K:Heap→Prop} {old:Value} {Q:Option Value→Shared→Prop}
  (hd:∀ (Q:Value→Shared→Prop) E,(∀ x h' tk,P x tk→K h'→Heap.SameBut it s.heap h'→Q x { s with heap:=h',toks:=tk })→wpAny (model prog w) A.in1 (Builtin.SmallTypes.nextOf (.ref it)) Q E s)
  (fr:∀ h h',K h→(∀ b o,b ≠ e→h.get? b = some o→h'.get? b = some o)→K h')
  (he:IsEnum s.heap e it i old) (hne:e ≠ it)
  (hQ:∀ x h' tk,P x tk→IsEnumOut h' e it ((i:Int) + 1) x s.heap.objs.size→K h' →
   h'.get? s.heap.objs.size = some { cls:=.type "tuple",data:=.seq #[.int i tk,x] }→h'.objs.size = s.heap.objs.size + 1 →
   (∀ b o,b ≠ e→b ≠ it→s.heap.get? b = some o→h'.get? b = some o)→Q (some (.ref s.heap.objs.size)) { s with heap:=h',toks:=tk + 1 }) :
  wpAny (model prog w) A (pyNext (.ref e)) Q E s:=by
 revert hd fr he hne hQ;revert prog w A E s e it i P K old Q;refine no_implicit_lambda% (G12 (h:=?_));refine (?_:A12 _) _ _ _ _ _ _ _ _ _ _ _ _;intro prog w A E s e it i P K old Q hd fr he hne hQ;have hT:s.TypeIs (.ref e) "enumerate":=⟨_,he,rfl⟩;unfold pyNext
 refine wpAny_bind (wpAny_attempt (wpAny_callSpecial?_slot (name:=Str.ofString "__next__") hT F.slot_enumerate_next
  (wpAny_call_entry F.slot_enumerate_next hT F.entry_enumerate_next ?_ (F.args_enumerate_next_1 _))))
 obtain ⟨h0,g,d,t0,os⟩:=s;show wpAny _ _ (field (.ref e) 2 >>= _) _ _ _;refine wpAny_bind (wpAny_field he rfl (x:=.ref it) rfl ?_);refine wpAny_bind (hd _ _ fun x h1 tk hx hK1 hs1=>?_);replace hs1:Heap.SameBut it h0 h1:=hs1;have e1:IsEnum h1 e it i old:=(hs1.2 e hne).trans he;refine wpAny_bind (wpAny_field e1 rfl (x:=rawInt i) rfl ?_);refine wpAny_bind (wpAny_field e1 rfl (x:=.none) rfl ?_);refine wpAny_bind (wpAny_mkInt ?_);refine wpAny_bind (wpAny_setField_rec e1 (by simp) fun h2 e2 hs2=>?_);replace hs2:Heap.SameBut e h1 h2:=hs2;replace e2:IsEnum h2 e it ((i:Int) + 1) old:=e2;refine wpAny_bind (wpAny_setField_rec e2 (by simp) fun h3 e3 hs3=>?_);replace hs3:Heap.SameBut e h2 h3:=hs3;replace e3:IsEnum h3 e it ((i:Int) + 1) old:=e3;refine wpAny_bind (wpAny_newTuple ?_);have z3:h3.objs.size = h0.objs.size:=by (rewrite [hs3.1,hs2.1];exact hs1.1)
 have hlt:e < h0.objs.size:=Heap.lt_size he
 let ob:Obj:={ cls:=.type "tuple",data:=.seq #[.int i tk,x] }
 have e4:IsEnum (h3.push ob) e it ((i:Int) + 1) old:=Heap.get?_push_of_some _ e3;refine wpAny_bind ?_;unfold Builtin.SmallTypes.ownedTupleIsFree;refine wpAny_bind (wpAny_field e4 rfl (x:=.none) rfl (wpAny_pure ?_));simp only [if_true];refine wpAny_bind (wpAny_rule ?_);refine wpAny_bind (wpAny_field e4 rfl (x:=old) rfl ?_);refine wpAny_bind (wpAny_setField_rec e4 (by simp) fun h5 e5 hs5=>?_);replace hs5:Heap.SameBut e (h3.push ob) h5:=hs5;replace e5:IsEnum h5 e it ((i:Int) + 1) x:=e5;refine wpAny_bind ?_;unfold Builtin.SmallTypes.ownedTupleHandOut;refine wpAny_bind (wpAny_setField_rec e5 (by simp) fun h6 e6 hs6=>?_);replace hs6:Heap.SameBut e h5 h6:=hs6;replace e6:IsEnumOut h6 e it ((i:Int) + 1) x h3.objs.size:=e6;refine wpAny_setField_rec e6 (by simp) fun h7 e7 hs7=>?_;replace hs7:Heap.SameBut e h6 h7:=hs7;replace e7:IsEnumOut h7 e it ((i:Int) + 1) x h3.objs.size:=e7;have up:∀ b o,b ≠ e→(h3.push ob).get? b = some o→h7.get? b = some o:=fun b o hb q=>hs7.extBut b o hb (hs6.extBut b o hb (hs5.extBut b o hb q));have up1:∀ b o,b ≠ e→h1.get? b = some o→h7.get? b = some o:=fun b o hb q=>up b o hb (Heap.get?_push_of_some _ (hs3.extBut b o hb (hs2.extBut b o hb q)));refine wpAny_bind (wpAny_letGo ?_);simp only [z3] at e7;simp only [z3];refine wpAny_pure ⟨_,rfl,wpAny_pure (hQ x h7 tk hx e7 (fr _ _ hK1 up1) (up _ _ (Nat.ne_of_gt hlt) ?_) ?_ fun b o hbe hbi q=>up1 b o hbe (hs1.extBut b o hbi q))⟩
 ·show (h3.push ob).get? h0.objs.size = some ob;refine rwf z3 ?_;exact Heap.get?_push_size _ rfl
 ·(simp only [hs7.1];rewrite [hs6.1,hs5.1,Heap.size_push];exact rwb z3 rfl)
end
section
variable {B:Base} {A:Around} {fm:Fm} {sc:Scope} {cn:List Str} {n:Nat} {ρ:Loc} {F:Fz} {H H0:Led} {E E':Value→Shared→Prop} {P P':D→Led→Prop} {PB:Bool→Led→Prop} {N N':Loc→Led→Prop} {R:D→Led→Prop}
theorem Y7.call {x:Str} {np pos:Pos} {e target:Expr} {T:String} {PP:List D→Led→Led→Prop}
  (h:EvE B A fm ρ H (.Name x np) (fun d H1=>d = .val (.type T) ∧ EvE B A fm ρ H1 e (fun d1 H2=>∀ F s v,St B fm ρ F H2 s→Jd F v d1→wpAny B.M A (PySem.call (.type T) [v]) (fun v s1=>∀ (E':Value→Shared→Prop) (Q:Value→Shared→Prop),
   (∀ F1 s2 tg I ch bs fp ds Stt ext H2,F.le F1→tg target→St B fm ρ F1 H2 s2→Zy B fm F1 H2 ch bs→Src B A tg I ch bs fp ds F1 Stt→Stt 0 s2.heap→PP ds ext H2 →
    (∀ ρ' F' H' s'' H'',St B fm ρ' F' H' s''→Zy B fm F' H' ch bs→F1.le F'→(∀ b ∈ bs,∀ o,s2.heap.get? b = some o→s''.heap.get? b = some o)→H''.Perm (ext ++ H')→St B fm ρ' F' H'' s'')→Q (.ref I) s2)→wpAny B.M A (pyIter v) Q E' s1) E s) E) E)
  (he:∀ env,starEach [e] env = [(false,eval e env)]):Y7 B A fm ρ H (.Call (.Name x np) [e] [] pos) target PP E:=by
 revert h he;revert B A fm ρ H E x np pos e target T PP;refine no_implicit_lambda% (G13 (h:=?_));refine (?_:A13 _) _ _ _ _ _ _ _ _ _ _ _ _ _;intro B A fm ρ H E x np pos e target T PP h he;refine no_implicit_lambda% (G2 (h:=?_));refine (?_:A2 _) _ _;exact fun F s S=>by
  refine wpAny_Call_ofName (wpAny_mono (h F s S) (fun v s1 zz=>zz.elim fun F1 d H1 y l r S1=>Yd y fun ed hE=>?_) fun Z Z x=>x);subst ed;refine r.tn ?_;refine callWith_of (P:=fun Z=>True) (by rw [he];rfl) (fun h Z=>⟨.machine,.inr (.inl rfl),.now⟩) ?_;rw [he];refine evalArgs_plain ?_
  have hL:EvL B A fm ρ H1 pos [e] (fun ds H2=>∃ d1,ds = [d1] ∧ ∀ F s v,St B fm ρ F H2 s→Jd F v d1→wpAny B.M A (PySem.call (.type T) [v]) (fun v s1=>∀ (E':Value→Shared→Prop) (Q:Value→Shared→Prop),
    (∀ F1 s2 tg I ch bs fp ds Stt ext H2,F.le F1→tg target→St B fm ρ F1 H2 s2→Zy B fm F1 H2 ch bs→Src B A tg I ch bs fp ds F1 Stt→Stt 0 s2.heap→PP ds ext H2 →
     (∀ ρ' F' H' s'' H'',St B fm ρ' F' H' s''→Zy B fm F' H' ch bs→F1.le F'→(∀ b ∈ bs,∀ o,s2.heap.get? b = some o→s''.heap.get? b = some o)→H''.Perm (ext ++ H')→St B fm ρ' F' H'' s'')→Q (.ref I) s2)→wpAny B.M A (pyIter v) Q E' s1) E s) E:=
   EvL.cons (hE.mono fun d1 H2 p=>EvL.nil ⟨d1,rfl,p⟩) (fun env=>by refine rwb (he env) ?_;rfl)
  have h1:=hL F1 s1 S1;rw [he] at h1;refine wpAny_mono h1 (fun vs s2 zz=>zz.elim fun F2 ds H2 zqq l2 r2 S2=>el12 zqq fun d1 e1 p=>⟨trivial,?_⟩) fun Z Z x=>x;subst e1;refine el12 (one r2) fun v2 z1 r2'=>?_;subst z1;exact wpAny_mono (p F2 s2 v2 S2 r2') (fun v3 s3 q E' Q hQ=>q E' Q fun F3 s4 tg I ch bs fp ds Stt ext H3 l3=>hQ F3 s4 tg I ch bs fp ds Stt ext H3 ((l.trans l2).trans l3)) fun Z Z x=>x
theorem Jbc {α:Type} {xs:List α} {i:Nat} (h:i < xs.length):xs.reverse[i]? = xs[xs.length - 1 - i]?:=by
 rw [List.getElem?_reverse h]
theorem Y7.rev {np pos:Pos} {e target:Expr} {PP:List D→Led→Led→Prop} (C:Cx A fm sc cn n) (hh:A.handled = Option.none) (hk:sc.names.lookup ("reversed":Str) = some .globalImplicit) (hm:B.mg "reversed" = Option.none)
  (h:EvE B A fm ρ H e (fun d1 H2=>∃ ds,d1 = .lst ds ∧ PP ds.reverse [] H2) E) (he:autoParam (∀ env,starEach [e] env = [(false,eval e env)]) aI):Y7 B A fm ρ H (.Call (.Name "reversed" np) [e] [] pos) target PP E:=by
 exact Y7.call (T:="reversed") (EvE.gu C hk hm boot_reversed (by decide) ⟨rfl,h.mono fun d1 H2 y F s v S r=>el12 y fun ds ed p=>by
   subst ed;refine r.Mc fun a vs m ha hr=>?_;have hg:=S.froz _ _ ha;have hf:=Je s.heap;have hne:a ≠ s.heap.objs.size:=ne_of_lt (Heap.lt_size hg);have hlen:vs.length = ds.length:=hr.length;refine call_reversed_list ⟨_,hg,rfl,m,rfl⟩ fun E' Q hQ=>?_;have hI:({ s with heap:=s.heap.push (revObj a ((vs.toArray.size:Int) - 1)) }:Shared).heap.IsRevIter s.heap.objs.size a ((vs.toArray.size:Int) - 1):=⟨_,Heap.get?_push_size _ rfl,rfl,rfl⟩;refine wpAny_pyIter_revIter hI ?_;have W:=Walks.listRev (prog:=pw) (w:=B.w) hh s.heap.objs.size a hne vs.toArray;refine hQ F _ (fun Z=>True) s.heap.objs.size [s.heap.objs.size] [] [s.heap.objs.size,a] ds.reverse (fun i h=>i ≤ vs.toArray.size ∧ h.IsRevIter s.heap.objs.size a ((vs.toArray.size:Int) - 1 - (i:Int)) ∧ h.IsList a vs.toArray) [] H2 (Fz.le.refl F) trivial
    (S.keeps (tk:=s.toks) fun b o e=>Heap.get?_push_of_some _ e) (S.x9 hf) ?_ ⟨Nat.zero_le _,by simpa using hI,⟨_,Heap.get?_push_of_some _ hg,rfl,m,rfl⟩⟩ p fun ρ' F' H' s'' H'' S'' Z Z Z hp=>S''.perm hp
   exact {
    mem:=mem_singleton_self _
    frame:=W.frame
    item:=fun i s1 t Q E Z hi st hz hQ=>by
     have hi2:i < ds.length:=by simpa using hi
     refine wpAny_toks (W.item i s1 _ _ (by simp [hlen,hi2]) st fun v1 h' tk hP st' hk' hz'=>⟨_,rfl,?_⟩);refine V5 (id st') fun Z z1 Z=>?_;obtain ⟨o,g1,g2,_⟩:=z1;refine X0 g1 g2 (by decide) ?_;have hP':vs[vs.length - 1 - i]? = some v1:=by simpa using hP
     refine el12 (hr.get' hP') fun d hd rv=>?_;exact hQ _ d h' tk .no hz' (by (refine rwb (Jbc hi2) (rwf hlen ?_));exact hd) (fun F1 l1 Z=>rv.mono l1) Nu.Nc st' hk'
    done:=fun s1 Q E Z Z st hz hQ=>wpAny_toks (W.done s1 _ _ (by
     have:ds.reverse.length = vs.toArray.size:=by simp [hlen]
     replace st:=this ▸ st;exact st) fun h' tk k hz'=>hQ h' tk hz' k)
    self:=W.self
    goodC:=fun i h st b hb=>by refine rwb (lS hb) ?_;(refine V5 st fun Z z1 Z=>?_;obtain ⟨o,g1,g2,g3⟩:=z1);exact ⟨o,_,_,g1,g2,by decide,g3⟩
    goodB:=fun Z Z Z b hb=>nomatch hb
    fpF:=fun b hb=>by
     rcases lC hb with rfl | hb
     ·exact .inl (mem_singleton_self _)
     ·refine rwb (lS hb) ?_;exact .inr (.inr (by refine rwb ha ?_;exact some_ne_none _))
    apart:=fun Z hb=>nomatch hb }⟩) he
noncomputable def Qf:Expr→Bool
 | .Tuple ..=>true
 | _=>false
theorem Src.enum {e it:Addr} {fp:List Addr} {m:Nat} {Pd:Nat→Value→Prop} {Sd:Nat→Heap→Prop} {F:Fz} {es:List D} (D₀:Draws pw B.w A.in1 it fp m Pd Sd) (hei:e ≠ it) (hef:e ∉ fp) (hif:it ∈ fp) (hes:es.length = m)
  (hit:∀ i h,Sd i h→∃ o T vs,h.get? it = some o ∧ o.cls = .type T ∧ T ≠ "frame" ∧ o.data = .fields vs) (hfp:∀ b ∈ fp,b = it ∨ F.f b ≠ Option.none) (hdraw:∀ i (s:Shared) (Q:Value→Shared→Prop) (E:Value→Shared→Prop),i < m→Sd i s.heap→(∀ x d h' tk (nt:Option (Tok × Str)),es[i]? = some d→(∀ F1:Fz,F.le F1→(∀ t z,nt = some (t,z)→F1.g t = Option.none)→Jd (F1.Nb nt) x d)→(∀ t z,nt = some (t,z)→s.toks ≤ t ∧ t < tk)→s.toks ≤ tk→Sd (i + 1) h'→Heap.SameBut it s.heap h'→Q x { s with heap:=h',toks:=tk })→wpAny (model pw B.w) A.in1 (Builtin.SmallTypes.nextOf (.ref it)) Q E s) :
  Src B A (fun t=>Qf t = true) e [e,it] [] (e :: fp) (es.zipIdx.map fun p=>D.tup [.int p.2,p.1]) F (fun i h=>(∃ old,IsEnum h e it i old) ∧ Sd i h):=by
 revert D₀ hei hef hif hes hit hfp hdraw;revert B A e it fp m Pd Sd F es;refine no_implicit_lambda% (G10 (h:=?_));refine (?_:A10 _) _ _ _ _ _ _ _ _ _ _;intro B A e it fp m Pd Sd F es D₀ hei hef hif hes hit hfp hdraw;have W:=WalksT.enumerateD D₀ e hei hef hif;have hlen:(es.zipIdx.map fun p=>D.tup [.int p.2,p.1]).length = m:=by simp [hes]
 exact {
  mem:=mem_cons_self
  frame:=W.frame
  item:=fun i s t Q E ht hi st hz hQ=>by
   simp only [hlen] at hi;obtain ⟨⟨old,he⟩,hs⟩:=st;have helt:e < s.heap.objs.size:=Heap.lt_size he;have hilt:it < s.heap.objs.size:=by obtain ⟨_,y⟩:=D₀.live _ _ hs;exact Heap.lt_size y
   refine Ap (K:=Sd (i + 1)) (P:=fun x tk=>∃ d nt,es[i]? = some d ∧ (∀ F1:Fz,F.le F1→(∀ t z,nt = some (t,z)→F1.g t = Option.none)→Jd (F1.Nb nt) x d) ∧ (∀ t z,nt = some (t,z)→s.toks ≤ t ∧ t < tk) ∧ s.toks ≤ tk) (fun Q E hq=>hdraw i s Q E hi hs fun x d h' tk nt q1 q2 q3 q4=>hq x h' tk ⟨d,nt,q1,q2,q3,q4⟩) (fun h h' q k=>D₀.frame _ _ _ q fun b hb o y=>k b o (fun z=>hef (z ▸ hb)) y) he hei fun x h' tk w ho hs' hT hsz hk=>el24 w fun d nt hd rv hnt htk=>⟨_,rfl,?_⟩;cases t with
   | Tuple elts k p=>
    refine wpAny_letOwnedTupleGo_enum ho fun h2 he2 hs2=>?_;refine hQ _ (.tup [.int i,d]) h2 (tk + 1) ⟨some (s.heap.objs.size,{ cls:=.type "tuple",data:=.seq #[.int i tk,x] }),nt⟩ (Nat.le_succ_of_le htk) ?_ (fun F1 l1 hn=>?_) ⟨fun a o q=>?_,fun t z q=>⟨(hnt t z q).1,Nat.lt_succ_of_lt (hnt t z q).2⟩⟩ ⟨⟨_,by simpa using he2⟩,D₀.frame _ _ _ hs' fun b hb o y=>(hs2.2 b fun q=>hef (q ▸ hb)).trans y⟩ fun b o hb y=>?_
    ·(refine rwb (List.getElem?_map) (rwb (List.getElem?_zipIdx) (rwb hd ?_)));simp
    ·refine Jd.tup (vs:=[.int i tk,x]) (n:=0) ?_ (.cons (.int _ _) (.cons (rv _ (l1.trans (Fz.Gr (hn.1 _ _ rfl))) hn.2) .nil));show (((F1.put _ _).Nb nt)).f _ = _;rw [Fz.To];exact Fz.put_self ..
    ·cases q;exact ⟨Je _,(hs2.2 _ (Nat.ne_of_gt helt)).trans hT⟩
    ·refine (hs2.2 b fun e'=>hb (by simp [e'])).trans (hk b o (fun e'=>hb (by simp [e'])) (fun e'=>hb (by simp [e'])) y)
   | _=>contradiction
  done:=fun s Q E Z Z st hz hQ=>by rw [hlen] at st;exact wpAny_toks (W.done s _ _ st fun h' tk k hz'=>hQ h' tk hz' k)
  self:=W.self
  goodC:=fun i h zqq b hb=>Yd zqq fun zqqq hs=>el11 zqqq fun old he=>by
   rcases lC hb with rfl | hb
   ·exact ⟨_,_,_,he,rfl,by decide,rfl⟩
   ·refine rwb (lS hb) ?_;exact hit i h hs
  goodB:=fun Z Z Z b hb=>nomatch hb
  fpF:=fun b hb=>by
   rcases lC hb with rfl | hb
   ·exact .inl mem_cons_self
   ·rcases hfp b hb with rfl | q
    ·exact .inl (mem_cons_of_mem _ (mem_singleton_self _))
    ·exact .inr (.inr q)
  apart:=fun Z hb=>nomatch hb }
theorem Y7.jck {np pos:Pos} {e target:Expr} {PP:List D→Led→Led→Prop} (C:Cx A fm sc cn n) (hh:A.handled = Option.none) (hk:sc.names.lookup ("enumerate":Str) = some .globalImplicit) (hm:B.mg "enumerate" = Option.none) (ht:Qf target = true)
  (h:EvE B A fm ρ H e (fun d1 H2=>∃ ds,d1 = .lst ds ∧ PP (ds.zipIdx.map fun p=>D.tup [.int p.2,p.1]) [] H2) E) (he:autoParam (∀ env,starEach [e] env = [(false,eval e env)]) aI):Y7 B A fm ρ H (.Call (.Name "enumerate" np) [e] [] pos) target PP E:=by
 exact Y7.call (T:="enumerate") (EvE.gu C hk hm (by decide +kernel) (by decide) ⟨rfl,h.mono fun d1 H2 y F s v S r=>el12 y fun ds ed p=>by
   subst ed;refine r.Mc fun a vs m ha hr=>?_;have hg:=S.froz _ _ ha;have hne:a ≠ s.heap.objs.size:=ne_of_lt (Heap.lt_size hg);have hlen:vs.length = ds.length:=hr.length;refine call_enumerate_list ⟨_,hg,rfl,m,rfl⟩ fun h' he' hit' hsz hk' E' Q hQ=>?_;refine wpAny_pyIter_enum he' ?_;have f1:s.heap.get? s.heap.objs.size = Option.none:=Je _;have f2:s.heap.get? (s.heap.objs.size + 1) = Option.none:=Heap.get?_none_of_le (le_succ _);have D₀:=Draws.list (prog:=pw) (w:=B.w) (A:=A.in1) hh s.heap.objs.size a hne vs.toArray;have hlt:=Heap.lt_size hg;refine hQ F _ (fun t=>Qf t = true) (s.heap.objs.size + 1) [s.heap.objs.size + 1,s.heap.objs.size] [] _ _ _ [] H2 (Fz.le.refl F) ht (S.keeps (tk:=s.toks) hk')
    ⟨fun b hb=>?_,fun b hb=>nomatch hb⟩ (Src.enum (es:=ds) D₀ (Nat.succ_ne_self _) ?_ mem_cons_self (by simp [hlen]) (fun i h zqq=>Yd zqq fun zqqq _=>el13 zqqq fun o g1 g2 g3=>⟨o,_,_,g1,g2,by decide,g3⟩) (fun b hb=>?_) fun i s Q E hi hs hq=>wpAny_toks (D₀.item i s _ _ hi hs fun x h' tk hv st sb htk=>by refine el12 (hr.get' (k:=i) (v:=x) (by simpa using hv)) fun d hd rv=>?_;exact hq x d h' tk Option.none hd (fun F1 l1 Z=>rv.mono l1) (fun Z Z q=>nomatch q) htk st sb))
    ⟨⟨_,he'⟩,hit',⟨_,hk' _ _ hg,rfl,m,rfl⟩⟩ p fun ρ' F' H' s'' H'' S'' Z Z Z hp=>S''.perm hp
   ·rcases lC hb with rfl | hb
    ·exact S.me f2
    ·refine rwb (lS hb) ?_;exact S.me f1
   ·intro hb
    rcases lC hb with q | hb
    ·exact absurd q (Nat.succ_ne_self _)
    ·replace hlt:=Eq.symm (lS hb) ▸ hlt;exact absurd hlt (Nat.not_lt.mpr (le_succ _))
   ·rcases lC hb with rfl | hb
    ·exact .inl rfl
    ·refine rwb (lS hb) ?_;exact .inr (by refine rwb ha ?_;exact some_ne_none _)⟩) he
theorem Y7.jem {np pos:Pos} {e target:Expr} {PP:List D→Led→Led→Prop} (C:Cx A fm sc cn n) (hh:A.handled = Option.none) (hk:sc.names.lookup ("enumerate":Str) = some .globalImplicit) (hm:B.mg "enumerate" = Option.none) (ht:Qf target = true)
  (h:EvE B A fm ρ H e (fun d1 H2=>∃ x,d1 = .str x ∧ strIterType x = "str_ascii_iterator" ∧ PP ((x.cps.toList.map fun c=>D.str ⟨#[c]⟩).zipIdx.map fun p=>D.tup [.int p.2,p.1]) [] H2) E) (he:autoParam (∀ env,starEach [e] env = [(false,eval e env)]) aI):Y7 B A fm ρ H (.Call (.Name "enumerate" np) [e] [] pos) target PP E:=by
 exact Y7.call (T:="enumerate") (EvE.gu C hk hm (by decide +kernel) (by decide) ⟨rfl,h.mono fun d1 H2 y F s v S r=>el13 y fun x ed hx p=>by
   subst ed;refine r.zt fun t Z=>?_;refine call_enumerate_str fun h' he' hit' hsz hk' E' Q hQ=>?_;replace hit':=hx ▸ hit';refine wpAny_pyIter_enum he' ?_;have f1:s.heap.get? s.heap.objs.size = Option.none:=Je _;have f2:s.heap.get? (s.heap.objs.size + 1) = Option.none:=Heap.get?_none_of_le (le_succ _);have D₀:=Draws.strAscii (prog:=pw) (w:=B.w) (A:=A.in1) hh s.heap.objs.size x t;refine hQ F _ (fun t=>Qf t = true) (s.heap.objs.size + 1) [s.heap.objs.size + 1,s.heap.objs.size] [] _ _ _ [] H2 (Fz.le.refl F) ht (S.keeps (tk:=s.toks) hk')
    ⟨fun b hb=>?_,fun b hb=>nomatch hb⟩ (Src.enum (es:=x.cps.toList.map fun c=>D.str ⟨#[c]⟩) D₀ (Nat.succ_ne_self _) ?_ mem_cons_self (by simp) (fun i h zqq=>el13 zqq fun o g1 g2 g3=>⟨o,_,_,g1,g2,by decide,g3⟩) (fun b hb=>.inl (lS hb)) fun i s Q E hi hs hq=>?_)
    ⟨⟨_,he'⟩,hit'⟩ p fun ρ' F' H' s'' H'' S'' Z Z Z hp=>S''.perm hp
   ·rcases lC hb with rfl | hb
    ·exact S.me f2
    ·refine rwb (lS hb) ?_;exact S.me f1
   ·intro hb;exact absurd (lS hb) (Nat.succ_ne_self _)
   ·refine wpAny_nextOf_ascii_item hs (c:=x.cps[i]) (by simp [hi]) fun h' hit' hs'=>hq _ (.str ⟨#[x.cps[i]]⟩) h' (s.toks + 1) (some (s.toks,⟨#[x.cps[i]]⟩)) ?_ (fun F1 Z Z=>.str _ _ (Fz.L8 ..)) (fun t z q=>by cases q;exact ⟨le_refl _,Nat.lt_succ_self _⟩) (le_succ _) hit' hs'
    (refine rwb (List.getElem?_map) (rwb (Array.getElem?_toList) (rwb (Array.getElem?_eq_getElem hi) ?_)));rfl⟩) he
noncomputable def Fn0 (B:Base) (n:Nat) (f:Value) (ds:List D) (H:Led) (P:D→Led→Prop):Prop:=
 ∀ A F s stk vs,A.handled = Option.none→Rm B A F H s stk n→Jc F vs ds→wpAny B.M A (PySem.call f vs []) (Na B F H s P) NoE s
theorem Fn0.mono {f:Value} {ds:List D} {m:Nat} (k:Fn0 B m f ds H P) (h:∀ d H,P d H→P' d H):Fn0 B m f ds H P':=fun A F s stk vs hh r rv=>wpAny_mono (k A F s stk vs hh r rv) (fun v s' zz=>zz.elim fun F' d H' p q c=>⟨F',d,H',h d H' p,q,c⟩) fun Z Z x=>x
theorem Fn0.op {f:Value} {ds:List D} {m:Nat} (C:Cx A fm sc cn n) (hh:A.handled = Option.none) (k:Fn0 B m f ds H P) (hm:m ≤ n):Jp B A fm ρ H f ds P E:=fun F s vs S rv=>
 wpAny_mono (k A F s fm.stack vs hh ((C.rm S).le hm) rv) (fun v s1 zz=>zz.elim fun F1 d H1 p rv1 c=>here p c.le rv1 (S.call c)) fun Z Z x=>x.elim
theorem Fn0.is {f:Value} {ds:List D} {e:D} {m:Nat} (C:Cx A fm sc cn n) (hh:A.handled = Option.none) (k:Fn0 B m f ds H (Is e H)) (hm:m ≤ n) (h:P e H):Jp B A fm ρ H f ds P E:=
 (k.mono fun d H' y=>y.rec fun a b=>by subst a b;exact h).op C hh hm
theorem Jm.Pm {a:Addr} {body:List Stmt} {scope:Scope} {names:List Str} {dflt:List (Str × D)} {ds:List D} (S:Jm B a body scope names dflt)
  (hok:V4 scope = true) (hfree:(scope.names.all fun p=>p.2 != .free) = true) (hst:((names ++ dflt.map (·.1)).all fun x=>Jj scope ((scope.names.filter fun p=>p.2 == .cell).map (·.1)) x) = true)
  (hn:names.length = ds.length)
  (h:∀ A' fm,A'.handled = Option.none→Cx A' fm scope ((scope.names.filter fun p=>p.2 == .cell).map (·.1)) n→ExS B A' fm (putAll (names.zip ds ++ dflt) []) H body (fun Z H'=>P .none H') P NoE):Fn0 B (n + 1) (.ref a) ds H P:=fun A F s stk vs hh r rv=>by
 refine wpAny_call (S.call hok hfree hst hn r rv fun fm A' e1 e2 e3 C=>?_);refine fun F1 s1 S1=>wpAny_mono (h A' fm (e3.trans hh) C F1 s1 S1) (fun fl s2 x2=>x2.elim (fun F2 ρ2 H2 l2 q S2=>.next F2 ρ2 H2 l2 (fun F' s' c=>⟨F',.none,H2,q,.none,c⟩) S2) fun v F2 d H2 ρ2 l2 q rv2 S2=>.ret v F2 d H2 ρ2 l2 (fun F' s' v' rv' c=>⟨F',d,H2,q,rv',c⟩) rv2 S2) fun Z Z x=>x.elim
end
section
variable {B:Base} {A:Around} {fm:Fm} {sc:Scope} {cn:List Str} {ρ:Loc} {E:Value→Shared→Prop} {F:Fz} {H:Led} {n:Nat} {P:D→Led→Prop} {N:Loc→Led→Prop} {R:D→Led→Prop}
theorem Dn (X:XB B):Jm B 66 (bodyOf 7) (Jh 7) ["a", "b"] []:=Jm.of X (by rfl) rfl rfl rfl rfl rfl (by rfl) (all2 fun a b=>rfl)
theorem Jbt {m:Nat} {a:Int} {K:Nat} (hm:0 < m) (h:intBits a ≤ m * K):dlen m a ≤ K:=by
 unfold dlen;rw [Nat.div_le_iff_le_mul_add_pred hm];omega
theorem Jbn (X:XB B) {a b:Int} (h0:0 ≤ a) (hb:0 < b) (hm:intBits b ≤ 2 ^ 14) (ha:intBits a ≤ 2 ^ 16) :
  Fn0 B 20 (.ref 66) [.int a,.int b] H (Is (.tup [.int (a / b),.int (a % b)]) H):=by
 revert X h0 hb hm ha;revert B H a b;refine no_implicit_lambda% (G4 (h:=?_));refine (?_:A4 _) _ _ _ _;intro B H a b X h0 hb hm ha;have hmp:=X4 (a:=b) (by lia);generalize em:intBits b = m at *;have hi2d:B.mg "_int2digits" = some (.ref 52):=mgX X (by rfl);have hd2i:B.mg "_digits2int" = some (.ref 59):=mgX X (by rfl);have hdiv:B.mg "_div2n1n" = some (.ref 38):=mgX X (by rfl);have hrev:B.mg "reversed" = none:=mgN X (by rfl);have hdl:dlen m a ≤ 2 ^ 16:=Jbt hmp (le_trans ha (Nat.le_mul_of_pos_left _ hmp));have hdm:=Co (a:=a) hmp;have hb2:b < 2 ^ m:=by
  have:=Ze (a:=b);replace this:=em ▸ this;have e:=Js m;lia
 refine (Dn X).Pm (by rfl) (by rfl) (by rfl) rfl (no_implicit_lambda% (G2 (h:=?_)));refine (?_:A2 _) _ _;intro A' fm hh C;refine Ss.cons (S1.assign C (EvE.J4 (Lf.loc C (by rfl)) ⟨_,Ji.int PySem.F.slot_int_bit_length PySem.F.plainAttrs_int PySem.F.type_int_bit_length,Kp.builtin,EvL.nil (Cl.Ts ?_)⟩));refine rwb em ?_;refine Ss.cons (S1.assign C (EvE.call (EvE.tq C hi2d ⟨_,Kp.xl (Od X),EvL.lf (Lf.loc C (by rfl)) (EvL.lf (Lf.loc C (by rfl)) (EvL.nil ?_))⟩)));refine Fn.is C (Sa X hmp (by lia) h0 (by lia) hdl) (le_refl _) ?_;refine Ss.cons (S1.assign C (EvE.int ?_));refine Ss.cons (S1.assign C (EvE.lst (EvL.nil (OpN.Nd fun ql hql=>?_))))
 refine Ss.cons (S1.Nf (fun ds i ρ1 H1=>∃ (qs:List Int) (rr:Int),H1 = (ql,qs.map D.int) :: H ∧ Has ρ1 "r" (.int rr) ∧ Has ρ1 "q_digits" (.ref ql) ∧ Has ρ1 "b" (.int b) ∧ Has ρ1 "n" (.int m) ∧ qs.length = i ∧
   rr = valOf m ((Vi m (dlen m a) a).reverse.take i).reverse % b ∧ valOf m qs.reverse = valOf m ((Vi m (dlen m a) a).reverse.take i).reverse / b ∧ (∀ q ∈ qs,0 ≤ q ∧ q < 2 ^ m)) C ?_)
 refine Y7.rev C hh (by rfl) hrev (EvE.loc C (by rfl) ⟨_,rfl,id,fun Z=>List.Perm.refl _,?_,?_,?_⟩)
 ·exact ⟨[],0,rfl,by rfl,by rfl,by rfl,by rfl,rfl,by simp [J5,Jv],by simp [J5,Jv],fun q hq=>nomatch hq⟩
 ·rintro fm' i d' ρ1 H1 C' hd' ⟨qs,rr,rfl,lr,lq,lb,ln,hl,e1,e2,hqs⟩;have hlenr:(Vi m (dlen m a) a).reverse.length = dlen m a:=by (refine rwb length_reverse ?_;rw [Vw])
  (replace hd':=Eq.symm map_reverse ▸ hd';replace hd':=ts (List.getElem?_map) hd');refine el12 (map_eq_some_iff.mp hd') fun x hx z2=>?_;subst z2;refine el11 (lG hx) fun hil hxi=>?_;refine Yd (Lw m _ _ x (List.mem_reverse.mp (List.mem_of_getElem? hx))) fun x0 x1=>?_;generalize hV:valOf m ((Vi m (dlen m a) a).reverse.take i).reverse = V at *;have hp:=Jr m;have r0:0 ≤ rr:=by refine rwb e1 ?_;exact emod_nonneg _ (by lia)
  have r1:rr < b:=by refine rwb e1 ?_;exact emod_lt_of_pos _ hb
  have hrb:rr * 2 ^ m + x < 2 ^ m * b:=by
   have:(rr + 1) * 2 ^ m ≤ b * 2 ^ m:=Int.mul_le_mul_of_nonneg_right (by lia) (Int.le_of_lt hp);rw [Int.add_mul,Int.mul_comm b] at this;lia
  have hr0:0 ≤ rr * 2 ^ m + x:=by have:=Int.mul_nonneg r0 (Int.le_of_lt hp);lia
  refine Asg.name C' ?_;refine Ss.cons (S1.unpack (by rfl) (Ym (by rfl)) C' (EvE.call (EvE.tq C' hdiv ⟨_,Kp.xl (O3 X),?_⟩)));refine EvL.cons (EvE.bin (EvE.jo (Lf.loc C' lr.ne) (Lf.loc C' ln.ne) (Op2.shl (by lia) ?_ (EvE.loc C' Has.self (Op2.add ?_)))))
  ·have:intBits rr ≤ m:=bits_le (by have:=Js m;lia);lia
  refine EvL.lf (Lf.loc C' lb.ne) ?_;refine EvL.lf (Lf.loc C' ln.ne) (EvL.nil ?_);rw [toNat_natCast];refine Fn.is C' (Jds X 3 (by decide) _ _ _ m (by lia) hr0 hb em hrb) (by lia) ?_;refine Asg.tup C' rfl (Jg.cons (Asg.name C' (Jg.cons (Asg.name C' (Jg.nil ?_)))));have hqs1:qs.length ≤ 2 ^ 16:=by lia
  refine Ss.cons (S1.expr (EvE.J4 (Lf.loc C' lq.ne.ne.ne) ⟨_,Ji.list (.head _) PySem.F.slot_list_append PySem.F.type_list_append,Kp.builtin,EvL.lf (Lf.loc C' Has.self.ne) (EvL.nil (Cl.append .head ?_ ?_))⟩))
  ·rw [length_map];exact le_trans hqs1 (by decide)
  refine Yd (Hq (V:=V) (d:=x) (n:=m) hb (t:=rr * 2 ^ m + x) (by rw [e1])) fun s1 s2=>?_;have etake:valOf m ((Vi m (dlen m a) a).reverse.take (i + 1)).reverse = V * 2 ^ m + x:=by
   (refine rwb (take_succ_eq_append_getElem hil) ?_;refine rwb hxi ?_;rewrite [Xp];refine rwb hV ?_);lia
  refine Ss.nil ⟨qs ++ [(rr * 2 ^ m + x) / b],(rr * 2 ^ m + x) % b,by refine rwb map_append ?_;rfl,Has.self,lq.ne.ne.ne,lb.ne.ne.ne,ln.ne.ne.ne,by refine rwb length_append ?_;simp [hl],?_,?_,?_⟩
  ·refine rwb etake ?_;(refine rwb s2 ?_;with_reducible rfl)
  ·(refine rwb etake ?_;refine rwb s1 ?_;rewrite [Xp];refine rwb e2 ?_);lia
  ·intro q hq
   rcases lA hq with hq | hq
   ·exact hqs q hq
   ·refine rwb (lS hq) ?_;exact ⟨Int.ediv_nonneg hr0 (Int.le_of_lt hb),Int.ediv_lt_of_lt_mul hb hrb⟩
 ·rintro ρ1 H1 ⟨qs,rr,rfl,lr,lq,lb,ln,hl,e1,e2,hqs⟩;(replace hl:=length_reverse ▸ hl;rw [length_map,Vw] at hl);have hV:valOf m ((Vi m (dlen m a) a).reverse.take (((Vi m (dlen m a) a).map D.int).reverse).length).reverse = a:=by
   refine rwb (take_of_length_le (by simp)) ?_;rw [reverse_reverse];exact Hr m _ a h0 (E8 hmp h0)
  rw [hV] at e1 e2;have hqs1:qs.length ≤ 2 ^ 16:=by lia
  refine Ss.nil ?_;refine Ss.cons (S1.expr (EvE.J4 (Lf.loc C lq) ⟨_,Ji.list (.head _) PySem.F.slot_list_reverse PySem.F.type_list_reverse,Kp.builtin,EvL.nil (Cl.reverse .head ?_ ?_)⟩))
  ·rw [length_map];exact le_trans hqs1 (by decide)
  refine ExT.freeze C lq (.inl (by rfl)) hql ?_;refine rwf map_reverse ?_;refine Ss.cons (S1.assign C (EvE.call (EvE.tq C hd2i ⟨_,Kp.xl (Qc X),EvL.lf (Lf.loc C Has.self) (EvL.lf (Lf.loc C ln.ne) (EvL.nil ?_))⟩)));refine Fn.is C (Lr (k:=m) X hmp (by lia) (by lia) (fun q hq=>?_) (by refine rwb length_reverse ?_;exact hqs1) (by (refine rwb length_reverse ?_;refine rwb hl ?_);lia)) (le_refl _) ?_
  ·refine Yd (hqs q (List.mem_reverse.mp hq)) fun q0 q1=>?_;exact bits_le (by have:=Js m;lia)
  refine Ss.cons (S1.ret (EvE.tup (EvL.lf (Lf.loc C Has.self) (EvL.lf (Lf.loc C lr.ne.ne) (EvL.nil (OpN.tuple ⟨?_,rfl⟩))))));refine rwb e2 ?_;(refine rwb e1 ?_;with_reducible rfl)
theorem Yq (X:XB B):Jm B 73 (bodyOf 8) (Jh 8) ["a", "b"] []:=Jm.of X (by rfl) rfl rfl rfl rfl rfl (by rfl) (all2 fun a b=>rfl)
theorem bits_neg (a:Int):intBits (-a) = intBits a:=by
 unfold intBits;rw [Int.natAbs_neg]
 by_cases h:a = 0
 ·subst h;rfl
 ·refine rwb (if_neg (by simpa using h)) ?_;exact rwb (if_neg (by simpa using h)) rfl
theorem Hx (a:Int) (h:a < 0):intBits (Builtin.bitNot a) ≤ intBits a:=by
 refine bits_le ?_;have:=Ze (a:=a);unfold Builtin.bitNot;omega
theorem Ue (X:XB B) {a b:Int} (hb:b ≠ 0) (hm:intBits b ≤ 2 ^ 14) (ha:intBits a ≤ 2 ^ 16) :
  Fn0 B 23 (.ref 73) [.int a,.int b] H (Is (.tup [.int (a.fdiv b),.int (a.fmod b)]) H):=by
 revert X hb hm ha;revert B H a b;refine no_implicit_lambda% (G4 (h:=?_));refine (?_:A4 _) _ _ _ _;intro B H a b X hb hm ha;have hself:B.mg "int_divmod" = some (.ref 73):=mgX X (by rfl);have hdp:B.mg "_divmod_pos" = some (.ref 66):=mgX X (by rfl);have pp:∀ {a b:Int},0 ≤ a→0 < b→intBits b ≤ 2 ^ 14→intBits a ≤ 2 ^ 16→Fn0 B 21 (.ref 73) [.int a,.int b] H (Is (.tup [.int (a / b),.int (a % b)]) H):=by
  intro a b h0 hb hm ha;refine (Yq X).Pm (by rfl) (by rfl) (by rfl) rfl fun A' fm hh C=>?_;refine Ss.cons (S1.xh (EvB.zq (Lf.loc C (by rfl)) Lf.int (Op2.jaz ⟨_,rfl,?_⟩)));refine rwb (if_neg (by simp;lia)) ?_;refine Ss.cons (S1.xh (EvB.zq (Lf.loc C (by rfl)) Lf.int (Op2.ltI ⟨_,rfl,?_⟩)));refine rwb (if_neg (by simp;lia)) ?_;refine Ss.cons (S1.xh (EvB.zq (Lf.loc C (by rfl)) Lf.int (Op2.ltI ⟨_,rfl,?_⟩)));refine rwb (if_neg (by simp;lia)) ?_;refine Ss.cons (S1.ret (EvE.call (EvE.tq C hdp ⟨_,Kp.xl (Dn X),EvL.lf (Lf.loc C (by rfl)) (EvL.lf (Lf.loc C (by rfl)) (EvL.nil ?_))⟩)));exact Fn0.is C hh (Jbn X h0 hb hm ha) (le_refl _) ⟨rfl,rfl⟩
 have np:∀ {a b:Int},0 < b→intBits b ≤ 2 ^ 14→intBits a ≤ 2 ^ 16→Fn0 B 22 (.ref 73) [.int a,.int b] H (Is (.tup [.int (a / b),.int (a % b)]) H):=by
  intro a b hb hm ha
  rcases Int.lt_or_le a 0 with h0 | h0
  ·refine (Yq X).Pm (by rfl) (by rfl) (by rfl) rfl fun A' fm hh C=>?_;refine Ss.cons (S1.xh (EvB.zq (Lf.loc C (by rfl)) Lf.int (Op2.jaz ⟨_,rfl,?_⟩)));refine rwb (if_neg (by simp;lia)) ?_;refine Ss.cons (S1.xh (EvB.zq (Lf.loc C (by rfl)) Lf.int (Op2.ltI ⟨_,rfl,?_⟩)));refine rwb (if_neg (by simp;lia)) ?_;refine Ss.cons (S1.xh (EvB.zq (Lf.loc C (by rfl)) Lf.int (Op2.ltI ⟨_,rfl,?_⟩)));refine rwb (if_pos (by simp;lia)) ?_;refine Ss.cons (S1.unpack (by rfl) (Ym (by rfl)) C (EvE.call (EvE.tq C hself ⟨_,Kp.xl (Yq X),EvL.cons (EvE.un (EvE.loc C (by rfl) (Op1.inv (EvL.lf (Lf.loc C (by rfl)) (EvL.nil ?_)))))⟩)));have hn0:0 ≤ Builtin.bitNot a:=by unfold Builtin.bitNot;lia
   refine Fn0.is C hh (pp hn0 hb hm (le_trans (Hx a h0) ha)) (le_refl _) ?_;refine Asg.tup C rfl (Jg.cons (Asg.name C (Jg.cons (Asg.name C (Jg.nil ?_)))));refine Ss.cons (S1.ret (EvE.tup ?_));refine EvL.cons (EvE.un (EvE.loc C Has.self.ne (Op1.inv ?_)));refine EvL.cons (EvE.Wf (Lf.loc C (by rfl)) (EvE.un (EvE.loc C Has.self (Op1.inv (Op2.add ?_)))));refine EvL.nil (OpN.tuple ⟨?_,rfl⟩);have e1:=Int.mul_ediv_add_emod (Builtin.bitNot a) b;have e2:=emod_nonneg (Builtin.bitNot a) (show b ≠ 0 by lia);have e3:=emod_lt_of_pos (Builtin.bitNot a) hb
   obtain ⟨g1,g2⟩:=Td (a:=a) (b:=b) (q:=Builtin.bitNot (Builtin.bitNot a / b)) (r:=b + Builtin.bitNot (Builtin.bitNot a % b)) (by
    have e4:Builtin.bitNot (Builtin.bitNot a / b) * b = -(b * (Builtin.bitNot a / b)) - b:=by
     show (-(Builtin.bitNot a / b) - 1) * b = _;rw [Int.sub_mul,Int.neg_mul,Int.one_mul,Int.mul_comm b]
    have e5:Builtin.bitNot a = -a - 1:=rfl;have e6:Builtin.bitNot (Builtin.bitNot a % b) = -(Builtin.bitNot a % b) - 1:=rfl
    lia) (by show 0 ≤ b + (-(Builtin.bitNot a % b) - 1);lia) (by show b + (-(Builtin.bitNot a % b) - 1) < b;lia)
   refine rwb g1 ?_;exact rwb g2 rfl
  ·exact fun A F s stk vs hh r rv=>pp h0 hb hm ha A F s stk vs hh (r.le (by lia)) rv
 rcases Int.lt_or_le b 0 with h | h
 ·refine (Yq X).Pm (by rfl) (by rfl) (by rfl) rfl (no_implicit_lambda% (G2 (h:=?_)));refine (?_:A2 _) _ _;intro A' fm hh C;refine Ss.cons (S1.xh (EvB.zq (Lf.loc C (by rfl)) Lf.int (Op2.jaz ⟨_,rfl,?_⟩)));refine rwb (if_neg (by simp;lia)) ?_;refine Ss.cons (S1.xh (EvB.zq (Lf.loc C (by rfl)) Lf.int (Op2.ltI ⟨_,rfl,?_⟩)));refine rwb (if_pos (by simp;lia)) ?_;refine Ss.cons (S1.unpack (by rfl) (Ym (by rfl)) C (EvE.call (EvE.tq C hself ⟨_,Kp.xl (Yq X),EvL.cons (EvE.un (EvE.loc C (by rfl) (Op1.neg (EvL.cons (EvE.un (EvE.loc C (by rfl) (Op1.neg (EvL.nil ?_))))))))⟩)));refine Fn0.is C hh (np (by lia) (by rw [bits_neg];exact hm) (by rw [bits_neg];exact ha)) (le_refl _) ?_;refine Asg.tup C rfl (Jg.cons (Asg.name C (Jg.cons (Asg.name C (Jg.nil ?_)))));refine Ss.cons (S1.ret (EvE.tup ?_));refine EvL.lf (Lf.loc C Has.self.ne) ?_;refine EvL.cons (EvE.un (EvE.loc C Has.self (Op1.neg ?_)));refine EvL.nil (OpN.tuple ⟨?_,rfl⟩);have e1:a.fdiv b = -a / -b:=by (rewrite [← Int.neg_fdiv_neg];exact rwb (J0 (by lia)) rfl)
  have e2:a.fmod b = -(-a % -b):=by
   have f1:=Int.mul_fdiv_add_fmod a b;have f2:=Int.mul_ediv_add_emod (-a) (-b);replace f1:=e1 ▸ f1;have:-b * (-a / -b) = -(b * (-a / -b)):=by rw [Int.neg_mul]
   lia
  refine rwb e1 ?_;exact rwb e2 rfl
 ·have h':0 < b:=by lia
  intro A F s stk vs hh r rv;have:=np (a:=a) h' hm ha A F s stk vs hh (r.le (by lia)) rv;refine rwb (J0 h) (rwb (J3 h) ?_);exact this
noncomputable def Ti (e:Addr) (h:Heap):Prop:=∃ o vs,h.get? e = some o ∧ o.data = .fields vs ∧ vs[2]? = some .none
theorem Ti.push {e:Addr} {h:Heap} (x:Ti e h) (o:Obj):Ti e (h.push o):=let ⟨o',vs,a,b⟩:=x;⟨o',vs,Heap.get?_push_of_some _ a,b⟩
structure Tame {α:Type} (t:Sem α):Prop where
 out:∀ (M:Model) (Γ:Ctx) (P:α→Pos→Shared→Prop) (Ee:Value→Pos→Shared→Prop) (p:Pos) (s:Shared) (e:Addr),Ti e s.heap→Sem.wp M Γ t P Ee p s→Sem.wp M Γ t (fun a p' s'=>P a p' s' ∧ Ti e s'.heap) Ee p s
namespace Tame
variable {α β:Type}
theorem pure (a:α):Tame (Pure.pure a:Sem α):=⟨fun Z Z Z Z Z Z Z c h=>⟨h,c⟩⟩
theorem unsupported (w:String):Tame (PySem.unsupported w:Sem α):=⟨fun Z Z Z Z Z Z Z Z h=>h⟩
theorem bind {m:Sem α} {f:α→Sem β} (hm:Tame m) (hf:∀ a,Tame (f a)):Tame (m >>= f):=⟨fun M Γ P Ee p s e c h=>by
 rw [Sem.wp_bind'] at h ⊢
 exact Sem.wp_mono M Γ m (fun a p' s' h'=>(hf a).out M Γ P Ee p' s' e h'.2 h'.1) (fun Z Z Z x=>x) p s (hm.out M Γ _ Ee p s e c h)⟩
theorem ite {c:Prop} [Decidable c] {t u:Sem α} (ht:Tame t) (hu:Tame u):Tame (if c then t else u):=by split <;> assumption
theorem load (a:Addr):Tame (PySem.load a):=⟨fun Z Z Z Z Z Z Z c y=>el12 y fun o h1 h2=>⟨o,h1,h2,c⟩⟩
theorem stack:Tame PySem.stack:=⟨fun M Γ P Ee p s e c h=>⟨h,c⟩⟩
theorem alloc (o:Obj):Tame (PySem.alloc o):=⟨fun Z Z Z Z Z Z Z c h=>⟨h,c.push o⟩⟩
theorem field (v:Value) (i:Nat):Tame (PySem.field v i):=⟨fun Z Γ P Ee p s e c h=>by
 obtain ⟨a,o,vs,x,h1,h2,h3,h4,h5⟩:=(wp_field_iff Γ v i P Ee p s).mp h
 exact (wp_field_iff Γ v i _ Ee p s).mpr ⟨a,o,vs,x,h1,h2,h3,h4,h5,c⟩⟩
theorem setField (v:Value) (i:Nat) (x:Value) (hi:i ≠ 2):Tame (PySem.setField v i x):=⟨fun Z Γ P Ee p s e c h=>by
 refine el35 ((wp_setField_iff Γ v i x P Ee p s).mp h) fun a o vs h1 h2 h3 h4 h5=>?_;refine (wp_setField_iff Γ v i x _ Ee p s).mpr ⟨a,o,vs,h1,h2,h3,h4,h5,?_⟩;refine el23 c fun o' vs' c1 c2 c3=>?_
 by_cases q:e = a
 ·subst q;replace c1:=ts h2 c1;obtain rfl:=oi c1;replace c2:=ts h3 c2;cases c2;have hd:=Obj.data_mapFields h3 (·.setIfInBounds i x);exact ⟨_,_,Heap.get?_update_self _ h2 (Obj.isFreed_of_fields hd),hd,by refine rwb (Array.getElem?_setIfInBounds_ne hi) ?_;exact c3⟩
 ·exact ⟨o',vs',(Heap.get?_update_ne _ _ _ _ q).trans c1,c2,c3⟩⟩
end Tame
theorem Qm (env:Env) (outer:List Env):Tame (behindIsImport env outer):=by
 unfold behindIsImport
 (repeat' with_reducible first | assumption | exact Tame.pure _ | exact Tame.unsupported _ | exact Tame.field _ _ | exact Tame.setField _ _ _ (by decide) | exact Tame.load _ | exact Tame.stack | exact Tame.alloc _ | apply Tame.ite | apply Tame.bind | intro Z | split)
theorem Gw:Tame underTheClaimsCaller:=by
 unfold underTheClaimsCaller
 (repeat' with_reducible first | assumption | exact Tame.pure _ | exact Tame.unsupported _ | exact Tame.field _ _ | exact Tame.setField _ _ _ (by decide) | exact Tame.load _ | exact Tame.stack | exact Tame.alloc _ | apply Tame.ite | apply Tame.bind | intro Z | split)
theorem Mh (env:Env) (i:Bool) (l:List Env):Tame (keptBack env i l):=by
 have:=Gw;cases l <;> unfold keptBack <;> (repeat' with_reducible first | assumption | exact Tame.pure _ | exact Tame.unsupported _ | exact Tame.field _ _ | exact Tame.setField _ _ _ (by decide) | exact Tame.load _ | exact Tame.stack | exact Tame.alloc _ | apply Tame.ite | apply Tame.bind | intro Z | split)
theorem Tame.update {a:Addr} {f:Obj→Obj} (hf:∀ o,(f o).data = o.data):Tame (PySem.update a f):=⟨fun M Γ P Ee p s e c h=>by
 refine Yd h fun h1 h2=>?_;refine ⟨h1,h2,?_⟩;refine el23 c fun o' vs' c1 c2 c3=>?_
 by_cases q:e = a
 ·subst q;exact ⟨_,vs',Heap.get?_update_self _ c1 (Obj.isFreed_of_fields ((hf _).trans c2)),(hf _).trans c2,c3⟩
 ·exact ⟨o',vs',(Heap.get?_update_ne _ _ _ _ q).trans c1,c2,c3⟩⟩
theorem Ko:∀ l:List Env,Tame (readyFrames l):=by
 intro zs
 induction zs with
 | nil=>
  exact Tame.pure _
 | cons env outer IH=>
  have ih:=IH;have h1:=Qm env outer;have h2:=fun i=>Mh env i outer;unfold readyFrames
  (repeat' with_reducible first | assumption | exact Tame.pure _ | exact Tame.unsupported _ | exact Tame.field _ _ | exact Tame.setField _ _ _ (by decide) | exact Tame.load _ | exact Tame.stack | exact Tame.alloc _ | apply Tame.ite | apply Tame.bind | intro Z | split)
  all_goals first | exact h2 _ | exact Tame.update fun Z=>rfl
theorem Ry (env:Env):Tame (PySem.frameOf env):=by
 have h0:Tame frameEnvs:=by unfold frameEnvs;(repeat' with_reducible first | assumption | exact Tame.pure _ | exact Tame.unsupported _ | exact Tame.field _ _ | exact Tame.setField _ _ _ (by decide) | exact Tame.load _ | exact Tame.stack | exact Tame.alloc _ | apply Tame.ite | apply Tame.bind | intro Z | split)
 have h2:∀ l,Tame (frameObject l):=fun l=>by
  cases l with
  | nil=>exact Tame.pure _
  | cons env outer=>
   have:=Ko (env :: outer);unfold frameObject
   (repeat' with_reducible first | assumption | exact Tame.pure _ | exact Tame.unsupported _ | exact Tame.field _ _ | exact Tame.setField _ _ _ (by decide) | exact Tame.load _ | exact Tame.stack | exact Tame.alloc _ | apply Tame.ite | apply Tame.bind | intro Z | split)
 unfold PySem.frameOf
 (repeat' with_reducible first | assumption | exact Tame.pure _ | exact Tame.unsupported _ | exact Tame.field _ _ | exact Tame.setField _ _ _ (by decide) | exact Tame.load _ | exact Tame.stack | exact Tame.alloc _ | apply Tame.ite | apply Tame.bind | intro Z | split)
 all_goals first | exact h2 _ | skip
theorem Un (f:Addr) (hadNext:Bool):Tame (entryPlaceOf f hadNext):=by
 unfold entryPlaceOf
 (repeat' with_reducible first | assumption | exact Tame.pure _ | exact Tame.unsupported _ | exact Tame.field _ _ | exact Tame.setField _ _ _ (by decide) | exact Tame.load _ | exact Tame.stack | exact Tame.alloc _ | apply Tame.ite | apply Tame.bind | intro Z | split)
theorem Ow (c:String) (cells:List Value):Tame (newFields c cells):=by
 unfold newFields newObj newObjAsIs
 (repeat' with_reducible first | assumption | exact Tame.pure _ | exact Tame.unsupported _ | exact Tame.field _ _ | exact Tame.setField _ _ _ (by decide) | exact Tame.load _ | exact Tame.stack | exact Tame.alloc _ | apply Tame.ite | apply Tame.bind | intro Z | split)
theorem Gd (e:Value) (f:Option Addr):Tame (setFlight e f):=by
 unfold setFlight
 (repeat' with_reducible first | assumption | exact Tame.pure _ | exact Tame.unsupported _ | exact Tame.field _ _ | exact Tame.setField _ _ _ (by decide) | exact Tame.load _ | exact Tame.stack | exact Tame.alloc _ | apply Tame.ite | apply Tame.bind | intro Z | split)
theorem Xq (e:Value) (env:Env):Tame (noteFrame e env):=by
 have h1:=Ry env;have h2:=Un;have h3:=Ow;unfold noteFrame EntryCells.newEntry
 (repeat' with_reducible first | assumption | exact Tame.pure _ | exact Tame.unsupported _ | exact Tame.field _ _ | exact Tame.setField _ _ _ (by decide) | exact Tame.load _ | exact Tame.stack | exact Tame.alloc _ | apply Tame.ite | apply Tame.bind | intro Z | split)
 all_goals first | exact h2 _ _ | exact h3 _ _ | skip
theorem Um (e:Value) (env:Env):Tame (leaving env e):=(Xq e env).bind fun Z=>Gd _ _
theorem V9 {α:Type} {M:Model} {A:Around} {t:Sem α} {Q:α→Shared→Prop} {E:Value→Shared→Prop} {s:Shared} {e:Addr} (ht:Tame t) (c:Ti e s.heap) (h:wpAny M A t Q E s):wpAny M A t (fun a s'=>Q a s' ∧ Ti e s'.heap) E s:=fun Γ p hΓ=>
 ht.out M Γ _ _ p s e c (h Γ p hΓ)
end
section
variable {B:Base} {A:Around} {fm:Fm} {sc:Scope} {cn:List Str} {n:Nat} {ρ:Loc} {F:Fz} {H H0:Led} {E E':Value→Shared→Prop} {P P':D→Led→Prop} {PB:Bool→Led→Prop} {N N':Loc→Led→Prop} {R:D→Led→Prop}
structure Fly (B:Base) (F:Fz) (H:Led) (s:Shared) (stk:List Env) (e:Addr) (X:String) (vs:List Value) (F':Fz) (Bh:Heap) (t:Addr) (s':Shared):Prop where
 tp:s'.toks ≠ 0
 tg:∀ t x,F'.g t = some x→t < s'.toks ∧ t ≠ 0
 same:∃ h' tk,s' = { s with heap:=h',toks:=tk }
 le:F.le F'
 newF:∀ b o,F'.f b = some o→F.f b = some o ∨ s.heap.get? b = none
 fly:Heap.FlyingW Bh stk e (.type X) (.ref t) s'.heap
 tup:s'.heap.TupAt t vs
 new:Bh.get? t = none
 ctx:Ti e s'.heap
 base:∀ b o,B.h.get? b = some o→Bh.get? b = some o
 froz:∀ b o,F'.f b = some o→Bh.get? b = some o
 own:∀ p ∈ H,Mq F' Bh p.1 p.2
 tab:∀ q ∈ Vn,L5 F' Bh q
 dict:∀ b o,s.heap.get? b = some o→(∃ es n,o.data = .dict es n)→∃ sl,s'.heap.get? b = some { o with slots:=sl }
 cov:∀ b o,s.heap.get? b = some o→b ∉ H.map (·.1)→b ∉ Yb→Bh.get? b = some o ∨ ((∃ es n,o.data = .dict es n) ∧ ((∃ sl,Bh.get? b = some { o with slots:=sl }) ∨ ∃ env ∈ stk,env.frame = some b))
theorem Fly.post {s s':Shared} {stk:List Env} {e t:Addr} {X:String} {vs:List Value} {F':Fz} {Bh:Heap} (g:GS B F H s) (x:Fly B F H s stk e X vs F' Bh t s'):Jl B F H s F' H s':=by
 have st:=x.fly.1;have nf:∀ b,s.heap.get? b ≠ none→F.f b = none→F'.f b = none:=fun b hb hf=>by
  cases q:F'.f b with
  | none=>rfl
  | some o=>
   rcases x.newF b o q with z | z
   ·rw [hf] at z;cases z
   ·exact absurd z hb
 have kept:∀ b o,s.heap.get? b = some o→b ∉ H.map (·.1)→b ∉ Yb→Kept s'.heap b o:=fun b o e h1 h2=>by
  rcases x.cov b o e h1 h2 with q | ⟨hd,q | q⟩
  ·exact .inl (st b o q)
  ·obtain ⟨sl,q⟩:=q;exact .inr ⟨hd,sl,st _ _ q⟩
  ·obtain ⟨sl,q⟩:=x.dict b o e hd;exact .inr ⟨hd,sl,q⟩
 refine ⟨x.le,?_,kept,fun b hb q=>?_,x.newF,fun p hp=>.inl (mem_map_of_mem hp)⟩
 ·obtain ⟨h',tk,e'⟩:=x.same
  exact {
   tp:=x.tp
   tg:=x.tg
   same:=by obtain ⟨h0,t0,e0⟩:=g.same;exact ⟨h',tk,by rw [e',e0]⟩
   base:=fun b o e=>st b o (x.base b o e)
   froz:=fun b o e=>st b o (x.froz b o e)
   own:=fun p hp=>(x.own p hp).mono (Fz.le.refl _) fun o e=>st _ _ e
   nod:=g.nod
   apart:=fun p hp=>by
    obtain ⟨ws,m,e,_⟩:=g.own p hp;exact ⟨nf _ (by rw [e];exact some_ne_none _) (g.apart p hp).1,(g.apart p hp).2⟩
   tab:=fun q hq=>(x.tab q hq).mono (Fz.le.refl _) fun o e=>st _ _ e
   bk:=g.bk
   tabF:=fun a ha=>by
    obtain ⟨q,hq,rfl⟩:=Vd ha;obtain ⟨ps,e⟩:=(g.tab q hq).there
    exact ⟨nf _ (by rw [e];exact some_ne_none _) (g.tabF _ ha).1,(g.tabF _ ha).2⟩ }
 ·cases eb:s.heap.get? b with
  | none=>exact hb eb
  | some o=>
   by_cases h1:b ∈ H.map (·.1)
   ·obtain ⟨p,hp,rfl⟩:=lM h1;obtain ⟨ws,m,e,_⟩:=x.own p hp;rw [st _ _ e] at q;cases q
   ·by_cases h2:b ∈ Yb
    ·obtain ⟨q',hq',rfl⟩:=Vd h2;obtain ⟨ps,e⟩:=(x.tab q' hq').there;rw [st _ _ e] at q;cases q
    ·exact R7 (kept b o eb h1 h2) q
theorem FF.mem {F:Fz} {h base:Heap} {l:List Env} (x:FF F h base l) (env:Env) (hm:env ∈ l) (L:Addr) (hL:env.frame = some L):base.get? L = none ∧ L ∉ Yb ∧ (∃ o es n,h.get? L = some o ∧ o.data = .dict es n) ∧ F.f L = none:=
 (x env hm).elim fun L' o es n Z h1 h2 h3 h4 h5 h6=>by
  replace hL:=ts h1 hL;obtain rfl:=oi hL;exact ⟨h2,h3,⟨o,es,n,h4,h5⟩,h6⟩
theorem leave_new {scope:Scope} {clo:List (Str × Addr)} {qual:Str} {a:Addr} {code:Value} {s s1:Shared} {stk:List Env} {F1:Fz} {H1:Led} {h2:Heap} {tk:Nat} {e:Addr} {X:String} {vs:List Value} {Q:Unit→Shared→Prop} {A':Around}
  (S1:St B (Gx scope clo qual a code F H s.heap stk) ρ F1 H1 s1) (g:GS B F H s) (hsub:∀ p ∈ H,p ∈ H1) (hx:Heap.MadeExcOf s1.heap h2 e (.type X) vs) (hA:A'.frames = some ((Vo scope s.heap.objs.size clo qual a code) :: stk)) (ht:s1.toks ≤ tk)
  (hQ:∀ F' Bh t s',F1.le F'→Fly B F H s stk e X vs F' Bh t s'→Q () s'):wpAny B.M A' (leaving (Vo scope s.heap.objs.size clo qual a code) (.ref e)) Q E { s1 with heap:=h2,toks:=tk }:=by
 have hs:∃ h' tk,s1 = { s with heap:=h',toks:=tk }:=by
  refine el21 g.same fun h0 t0 e0=>?_;refine el21 S1.same fun h' t1 e1=>?_;exact ⟨h',t1,by (refine rwb e1 ?_;exact rwb e0 rfl)⟩
 have hff:FF F1 s1.heap B.h ((Vo scope s.heap.objs.size clo qual a code) :: stk):=S1.ff
 let fr:=((Vo scope s.heap.objs.size clo qual a code) :: stk).filterMap (·.frame)
 let Bh:=hideAll s1.heap fr
 have inFr:∀ b,b ∈ fr→∃ env ∈ ((Vo scope s.heap.objs.size clo qual a code) :: stk),env.frame = some b:=fun b hb=>by
  refine el12 (List.mem_filterMap.mp hb) fun env h1 h2=>?_;exact ⟨env,h1,h2⟩
 have frMem:∀ b,b ∈ fr→B.h.get? b = none ∧ b ∉ Yb ∧ (∃ o es n,s1.heap.get? b = some o ∧ o.data = .dict es n) ∧ F1.f b = none:=fun b hb=>by
  refine el12 (inFr b hb) fun env h1 h2=>?_;exact hff.mem env h1 b h2
 have bhOf:∀ b o,s1.heap.get? b = some o→(∀ es n,o.data ≠ .dict es n)→Bh.get? b = some o:=fun b o e hd=>hideAll_get _ e fun hm=>by
  refine el32 ((frMem b hm).2.2.1) fun o' es m q1 q2=>?_;replace q1:=ts e q1;obtain rfl:=oi q1;exact hd _ _ q2
 refine wpAny_mono (V9 (e:=e) (Um _ _) (by refine el12 hx.there fun t q Z=>?_;exact ⟨_,_,q,rfl,rfl⟩) (wpAny_leaves_madeW (Q:=fun Z s'=>∃ h' t,s' = { s1 with heap:=h',toks:=tk } ∧ Heap.FlyingW Bh stk e (.type X) (.ref t) h' ∧ h'.TupAt t vs ∧ Bh.get? t = none ∧ h2.UpToSlots h') (base:=Bh) (h:=s1.heap) hA rfl (fun b o q=>of_hideAll _ q) (funFrames_hide hff.to fun env he b hb=>List.mem_filterMap.mpr ⟨env,he,hb⟩) hx fun h' t x1 x2 x3 x4=>⟨h',t,rfl,x1,x2,x3,x4⟩)) (fun Z s' y=>Yd y fun zqq cx=>el25 zqq fun h' t e' x1 x2 x3 x4=>?_) fun Z Z x=>x;subst e';refine hQ F1 Bh t _ (Fz.le.refl _) ?_
 exact {
  tp:=S1.toGS.tpos ht
  tg:=S1.toGS.jc7 ht
  same:=by refine el21 hs fun h0 t0 e0=>?_;exact ⟨h',tk,by exact rwb e0 rfl⟩
  le:=S1.sub
  newF:=S1.frz
  fly:=x1
  tup:=x2
  new:=x3
  ctx:=cx
  base:=fun b o e=>hideAll_get _ (S1.base b o e) fun hm=>by replace e:=ts ((frMem b hm).1) e;contradiction
  froz:=fun b o e=>hideAll_get _ (S1.froz b o e) fun hm=>by replace e:=ts ((frMem b hm).2.2.2) e;contradiction
  own:=fun p hp=>(S1.own p (hsub p hp)).mono (Fz.le.refl _) fun o e=>by
   refine el22 (S1.own p (hsub p hp)) fun ws m q Z=>?_;replace q:=ts e q;obtain rfl:=oi q;exact bhOf _ _ e fun Z Z q=>nomatch q
  tab:=fun q hq=>(S1.tab q hq).mono (Fz.le.refl _) fun o e=>by
   refine el11 ((S1.tab q hq).there) fun ps q2=>?_;replace q2:=ts e q2;obtain rfl:=oi q2;exact bhOf _ _ e fun Z Z q=>nomatch q
  dict:=fun b o eb hd=>by
   refine el21 hd fun es m hd=>?_;have h1:b ∉ H.map (·.1):=fun hm=>by
    refine el12 (lM hm) fun p hp z2=>?_;subst z2;refine el22 (g.own p hp) fun ws k q Z=>?_;replace q:=ts eb q;obtain rfl:=oi q;contradiction
   have h2:b ∉ Yb:=fun hm=>by
    refine el12 (Vd hm) fun q hq z2=>?_;subst z2;refine el11 ((g.tab q hq).there) fun ps q2=>?_;replace q2:=ts eb q2;obtain rfl:=oi q2;contradiction
   have up:∀ o1,s1.heap.get? b = some o1→o1.data = .dict es m→∃ sl,h'.get? b = some { o1 with slots:=sl }:=fun o1 e1 d1=>x4 b o1 (hx.keeps b o1 e1) fun vs q=>by replace q:=ts d1 q;contradiction
   rcases S1.keep b o eb (fun q=>(lA q).elim h1 h2) with k | ⟨_,sl,k⟩
   ·exact up o k hd
   ·refine el11 (up _ k hd) fun sl' q=>?_;exact ⟨sl',q⟩
  cov:=fun b o eb h1 h2=>by
   have hne:∀ env ∈ ((Vo scope s.heap.objs.size clo qual a code) :: stk),env.frame = some b→∃ env ∈ stk,env.frame = some b:=fun env he hf=>by
    rcases lC he with rfl | he
    ·have:s.heap.objs.size = b:=oi hf;(replace eb:=Eq.symm this ▸ eb;rw [Je] at eb);contradiction
    ·exact ⟨env,he,hf⟩
   refine (Classical.em (b ∈ fr)).elim (fun hm=>?_) fun hm=>?_
   ·refine el12 (inFr b hm) fun env q1 q2=>?_;refine el32 ((frMem b hm).2.2.1) fun o' es m q3 q4=>?_;refine el13 ((S1.keep b o eb (fun q=>(lA q).elim h1 h2)).some) fun o2 q5 q6 Z=>?_;replace q5:=ts q3 q5;obtain rfl:=oi q5;exact .inr ⟨⟨es,m,by (refine rwf q6 ?_;exact q4)⟩,.inr (hne env q1 q2)⟩
   ·rcases S1.keep b o eb (fun q=>(lA q).elim h1 h2) with k | ⟨hd,sl,k⟩
    ·exact .inl (hideAll_get _ k hm)
    ·exact .inr ⟨hd,.inl ⟨sl,hideAll_get _ k hm⟩⟩ }
theorem Fo {scope:Scope} {clo:List (Str × Addr)} {qual:Str} {a:Addr} {code:Value} {s s1 s2:Shared} {stk:List Env} {F1 F2:Fz} {H1:Led} {Bh:Heap} {e t:Addr} {X:String} {vs:List Value} {Q:Unit→Shared→Prop} {A':Around}
  (S1:St B (Gx scope clo qual a code F H s.heap stk) ρ F1 H1 s1) (g:GS B F H s) (hsub:∀ p ∈ H,p ∈ H1) (x:Fly B F1 H1 s1 ((Vo scope s.heap.objs.size clo qual a code) :: stk) e X vs F2 Bh t s2) (hA:A'.frames = some ((Vo scope s.heap.objs.size clo qual a code) :: stk))
  (hQ:∀ F' Bh t s',F2.le F'→Fly B F H s stk e X vs F' Bh t s'→Q () s'):wpAny B.M A' (leaving (Vo scope s.heap.objs.size clo qual a code) (.ref e)) Q E s2:=by
 refine wpAny_mono (V9 (e:=e) (Um _ _) x.ctx (wpAny_leaves_onW (Q:=fun Z s'=>∃ h',s' = { s2 with heap:=h' } ∧ Heap.FlyingW Bh stk e (.type X) (.ref t) h' ∧ s2.heap.UpToSlots h') hA rfl x.fly fun h' y1 y2=>⟨h',rfl,y1,y2⟩)) (fun Z s' y=>Yd y fun zqq cx=>el13 zqq fun h' e' y1 y2=>?_) fun Z Z x=>x;subst e';refine hQ F2 Bh t _ (Fz.le.refl _) ?_;have notH:∀ b o,s.heap.get? b = some o→(∃ es n,o.data = .dict es n)→b ∉ H.map (·.1) ∧ b ∉ Yb:=fun b o eb zqqq=>el21 zqqq fun es m hd=>by
  constructor
  ·intro hm;refine el12 (lM hm) fun p hp z2=>?_;subst z2;refine el22 (g.own p hp) fun ws k q Z=>?_;replace q:=ts eb q;obtain rfl:=oi q;contradiction
  ·intro hm;refine el12 (Vd hm) fun q hq z2=>?_;subst z2;refine el11 ((g.tab q hq).there) fun ps q2=>?_;replace q2:=ts eb q2;obtain rfl:=oi q2;contradiction
 exact {
  tp:=x.tp
  tg:=x.tg
  same:=by
   refine el21 g.same fun h0 t0 e0=>?_;refine el21 S1.same fun h1 t1 e1=>?_;refine el21 x.same fun h3 t3 e3=>?_;exact ⟨h',t3,by (refine rwb e3 (rwb e1 ?_);exact rwb e0 rfl)⟩
  le:=S1.sub.trans x.le
  newF:=fun b o e=>by
   rcases x.newF b o e with q | q
   ·exact S1.frz b o q
   ·exact .inr (Vk.none S1.old q)
  fly:=y1
  tup:=x.tup.of_slots y2
  new:=x.new
  ctx:=cx
  base:=x.base
  froz:=x.froz
  own:=fun p hp=>x.own p (hsub p hp)
  tab:=x.tab
  dict:=fun b o eb hd=>by
   refine Yd (notH b o eb hd) fun h1 h2=>?_;refine el21 hd fun es m hd'=>?_;have up:∀ o1,s1.heap.get? b = some o1→o1.data = .dict es m→∃ sl,h'.get? b = some { o1 with slots:=sl }:=fun o1 e1 d1=>by
    refine el11 (x.dict b o1 e1 ⟨es,m,d1⟩) fun sl q=>?_;obtain ⟨sl2,q2⟩:=y2 b _ q fun vs z=>by (replace z:=ts (show ({ o1 with slots:=sl }:Obj).data = o1.data from rfl) z;replace z:=ts d1 z);contradiction
    exact ⟨sl2,q2⟩
   rcases S1.keep b o eb (fun q=>(lA q).elim h1 h2) with k | ⟨_,sl,k⟩
   ·exact up o k hd'
   ·refine el11 (up _ k hd') fun sl' q=>?_;exact ⟨sl',q⟩
  cov:=fun b o eb h1 h2=>by
   have h3:b ∉ H1.map (·.1):=fun hm=>by
    refine el12 (lM hm) fun p hp z2=>?_;subst z2
    rcases S1.led p hp with q | q
    ·exact (lA q).elim h1 h2
    ·(replace q:=(show (Gx scope clo qual a code F H s.heap stk).h₁ = s.heap from rfl) ▸ q;replace q:=ts eb q);contradiction
   have hne:∀ env ∈ ((Vo scope s.heap.objs.size clo qual a code) :: stk),env.frame = some b→∃ env ∈ stk,env.frame = some b:=fun env he hf=>by
    rcases lC he with rfl | he
    ·have:s.heap.objs.size = b:=oi hf;(replace eb:=Eq.symm this ▸ eb;rw [Je] at eb);contradiction
    ·exact ⟨env,he,hf⟩
   rcases S1.keep b o eb (fun q=>(lA q).elim h1 h2) with k | ⟨hd,sl,k⟩
   ·rcases x.cov b o k h3 h2 with q | ⟨hd,q | ⟨env,q1,q2⟩⟩
    ·exact .inl q
    ·exact .inr ⟨hd,.inl q⟩
    ·exact .inr ⟨hd,.inr (hne env q1 q2)⟩
   ·rcases x.cov b _ k h3 h2 with q | ⟨_,⟨sl2,q⟩ | ⟨env,q1,q2⟩⟩
    ·exact .inr ⟨hd,.inl ⟨sl,q⟩⟩
    ·exact .inr ⟨hd,.inl ⟨sl2,q⟩⟩
    ·exact .inr ⟨hd,.inr (hne env q1 q2)⟩ }
inductive Jad (B:Base) (F:Fz) (H:Led) (s:Shared) (stk:List Env) (X:String) (ws:List D) (e:Value) (s':Shared):Prop
 | mk (a:Addr) (us:List Value) (F':Fz) (Bh:Heap) (t:Addr) (q:e = .ref a) (r:Jc F' us ws) (x:Fly B F H s stk a X us F' Bh t s')
noncomputable def FnX (B:Base) (n:Nat) (f:Value) (kw:List (Str × Value)) (ds:List D) (H:Led) (X:String) (ws:List D):Prop:=
 ∀ A F s stk vs,A.handled = Option.none→Rm B A F H s stk n→Jc F vs ds→wpAny B.M A (PySem.call f vs kw) (fun Z Z=>False) (Jad B F H s stk X ws) s
end
section
variable {B:Base} {A:Around} {fm:Fm} {sc:Scope} {cn:List Str} {n:Nat} {ρ:Loc} {F:Fz} {H H0:Led} {E:Value→Shared→Prop} {P P':D→Led→Prop} {PB:Bool→Led→Prop} {N N':Loc→Led→Prop} {R:D→Led→Prop} {X:String} {ws:List D}
inductive Rz (B:Base) (fm:Fm) (H0:Led) (X:String) (ws:List D) (e:Value) (s':Shared):Prop
 | new (a:Addr) (F1:Fz) (H1:Led) (ρ1:Loc) (s1:Shared) (us:List Value) (q:e = .ref a) (S:St B fm ρ1 F1 H1 s1) (h0:∀ p ∈ H0,p ∈ H1) (h2:Heap) (tk:Nat) (ht:s1.toks ≤ tk) (e':s' = { s1 with heap:=h2,toks:=tk })
   (x:Heap.MadeExcOf s1.heap h2 a (.type X) us) (r:Jc F1 us ws)
 | on (a:Addr) (F1:Fz) (H1:Led) (ρ1:Loc) (s1:Shared) (us:List Value) (q:e = .ref a) (S:St B fm ρ1 F1 H1 s1) (h0:∀ p ∈ H0,p ∈ H1) (F2:Fz) (Bh:Heap) (t:Addr) (x:Fly B F1 H1 s1 fm.stack a X us F2 Bh t s') (r:Jc F2 us ws)
theorem Rz.leave {scope:Scope} {clo:List (Str × Addr)} {qual:Str} {a:Addr} {code e:Value} {s s2:Shared} {stk:List Env} {A':Around} (x:Rz B (Gx scope clo qual a code F H s.heap stk) H X ws e s2) (g:GS B F H s)
  (hA:A'.frames = some ((Vo scope s.heap.objs.size clo qual a code) :: stk)):wpAny B.M A' (leaving (Vo scope s.heap.objs.size clo qual a code) e) (fun Z=>Jad B F H s stk X ws e) E s2:=by
 cases x with
 | new b F1 H1 ρ1 s1 us q S h0 h2 tk ht e' hx r=>
  subst q e';exact leave_new S g h0 hx hA ht fun F' Bh t s' lf x=>⟨b,us,F',Bh,t,rfl,r.mono lf,x⟩
 | on b F1 H1 ρ1 s1 us q S h0 F2 Bh t x r=>
  subst q;exact Fo S g h0 x hA fun F' Bh t s' lf x=>⟨b,us,F',Bh,t,rfl,r.mono lf,x⟩
theorem FnX.opK {f:Value} {kw:List (Str × Value)} {ds:List D} {m:Nat} (C:Cx A fm sc cn n) (hh:A.handled = Option.none) (k:FnX B m f kw ds H X ws) (hm:m ≤ n) (h0:∀ p ∈ H0,p ∈ H):OpN B A fm ρ H (fun vs=>PySem.call f vs kw) ds P (Rz B fm H0 X ws):=fun F s vs S rv=>
 wpAny_mono (k A F s fm.stack vs hh ((C.rm S).le hm) rv) (fun Z Z x=>x.elim) fun e s' y=>y.rec fun a us F' Bh t e1 r1 x=>.on a F H ρ s us e1 S h0 F' Bh t x r1
theorem MadeExc.of {h h':Heap} {e:Addr} {vs:List Value} (x:Heap.MadeExc h h' e X vs):Heap.MadeExcOf h h' e (.type X) vs:=⟨x.keeps,x.new,x.there⟩
theorem S1.raise {x:Str} {np cpos pos:Pos} {args:List Expr} {newId initId:String} (Fc:ExcCallFacts X newId initId) (G:ExcRaiseFacts X) (hh:A.handled = Option.none)
  (h:EvE B A fm ρ H (.Name x np) (fun d H1=>d = .val (.type X) ∧ EvL B A fm ρ H1 cpos args (fun ds H2=>ds = ws ∧ ds.length ≤ sizeLine ∧ ∀ p ∈ H0,p ∈ H2) (Rz B fm H0 X ws)) (Rz B fm H0 X ws))
  (hs:autoParam (∀ env,(backTo cpos (starEach args env)).any (·.1) = false) aI) :
  Ex1 B A fm ρ H (.Raise (some (.Call (.Name x np) args [] cpos)) Option.none pos) N R (Rz B fm H0 X ws):=by
 exact fun F s S=>by
  refine wpAny_Raise_call Fc G hh (hs _) (wpAny_mono (h F s S) (fun v s1 zz=>zz.elim fun F1 d H1 y l r S1=>Yd y fun e1 hL=>?_) fun Z Z x=>x);subst e1;refine r.tn ?_;refine ⟨rfl,Xd (hs _) (wpAny_mono (hL F1 s1 S1) (fun vs s2 zz=>zz.elim fun F2 ds H2 zqq l2 r2 S2=>V5 zqq fun e2 hl h0=>?_) fun Z Z x=>x)⟩;subst e2;refine ⟨rfl,by show vs.length ≤ _;refine rwb r2.length ?_;exact hl,fun h' e hm=>?_⟩;exact .new e F2 H2 ρ s2 vs rfl S2 h0 h' s2.toks (le_refl _) rfl (MadeExc.of hm) r2
theorem I8.fnX {a:Addr} {kw:List (Str × Value)} {body:List Stmt} {scope:Scope} {names:List Str} {dflt:List (Str × D)} {ds:List D} (S:I8 B a kw body scope names dflt)
  (hok:V4 scope = true) (hfree:(scope.names.all fun p=>p.2 != .free) = true) (hst:((names ++ dflt.map (·.1)).all fun x=>Jj scope ((scope.names.filter fun p=>p.2 == .cell).map (·.1)) x) = true)
  (hn:names.length = ds.length)
  (h:∀ A' fm,A'.handled = Option.none→Cx A' fm scope ((scope.names.filter fun p=>p.2 == .cell).map (·.1)) n→ExS B A' fm (putAll (names.zip ds ++ dflt) []) H body (fun Z Z=>False) (fun Z Z=>False) (Rz B fm H X ws)):FnX B (n + 1) (.ref a) kw ds H X ws:=by
 revert S hok hfree hst hn h;revert B n H X ws a kw body scope names dflt ds;refine no_implicit_lambda% (G12 (h:=?_));refine (?_:A12 _) _ _ _ _ _ _ _ _ _ _ _ _;intro B n H X ws a kw body scope names dflt ds S hok hfree hst hn h;refine no_implicit_lambda% (G5 (h:=?_));refine (?_:A5 _) _ _ _ _ _;exact fun A F s stk vs hh r rv=>by
  obtain ⟨o,fd,h1,h2,h3,h4,h5,h6,h7,h8,h9⟩:=S.ex;subst h4;have hl:names.length = vs.length:=by (refine rwb rv.length ?_;exact rwb hn rfl)
  refine el13 (h9 s vs r.gs.base hl.symm) fun us w1 w2 w3=>?_
  refine wpAny_call (Xe (xs:=names.zip ds ++ dflt) (cap:=[]) r (r.gs.base _ _ h1) h2 h3 (h8.keeps r.gs.base) h6 h7 w3 hok (by refine rwb h5 ?_;exact Vy.nil hfree) ?_ ?_ (by
   (replace hst:=Eq.symm (Jw names ds hn) ▸ hst;replace hst:=Eq.symm map_append ▸ hst;replace hst:=ts all_map hst);exact hst) fun fm A' e1 e2 C=>?_)
  ·refine rwb map_append (rwb map_append (rwb (Jw _ _ hl) (rwb (Jw _ _ hn) ?_)));exact rwb w1 rfl
  ·refine rwb map_append (rwb map_append (rwb (Yg _ _ hl) (rwb (Yg _ _ hn) ?_)));exact rv.append (w2 F)
  ·refine fun F1 s1 S1=>wpAny_mono (h A' fm (by refine rwb e2 ?_;exact hh) C F1 s1 S1) (fun fl s2 x2=>x2.elim (fun Z Z Z Z q Z=>q.elim) fun Z Z Z Z Z Z q Z Z=>q.elim) fun e s2 x=>?_;subst e1 e2;exact x.leave r.gs (by show A.frames.map _ = _;refine rwb r.frames ?_;rfl)
end
section
variable {B:Base} {A:Around} {fm:Fm} {sc:Scope} {cn:List Str} {n:Nat} {ρ:Loc} {F:Fz} {H H0:Led} {E:Value→Shared→Prop} {P P':D→Led→Prop} {PB:Bool→Led→Prop} {N N':Loc→Led→Prop} {R:D→Led→Prop} {X T:String} {ws:List D} {J:Loc→Led→Prop}
inductive Rx (B:Base) (fm:Fm) (J:Loc→Led→Prop) (X:String) (ws:List D) (e:Value) (s':Shared):Prop
 | mk (a:Addr) (F1:Fz) (H1:Led) (ρ1:Loc) (s1:Shared) (us:List Value) (F2:Fz) (Bh:Heap) (t:Addr) (q:e = .ref a) (S:St B fm ρ1 F1 H1 s1) (j:J ρ1 H1) (r:Jc F2 us ws) (x:Fly B F1 H1 s1 fm.stack a X us F2 Bh t s')
theorem FnX.jep {f:Value} {kw:List (Str × Value)} {ds:List D} {m:Nat} (C:Cx A fm sc cn n) (hh:A.handled = Option.none) (k:FnX B m f kw ds H X ws) (hm:m ≤ n) (h0:J ρ H):OpN B A fm ρ H (fun vs=>PySem.call f vs kw) ds P (Rx B fm J X ws):=fun F s vs S rv=>
 wpAny_mono (k A F s fm.stack vs hh ((C.rm S).le hm) rv) (fun Z Z x=>x.elim) fun e s' y=>y.rec fun a us F' Bh t e1 r1 x=>⟨a,F,H,ρ,s,us,F',Bh,t,e1,S,h0,r1,x⟩
theorem Fly.slots {s s':Shared} {stk:List Env} {e t:Addr} {vs:List Value} {F':Fz} {Bh h':Heap} (x:Fly B F H s stk e X vs F' Bh t s') (fl:Heap.FlyingW Bh stk e (.type X) (.ref t) h') (u:s'.heap.UpToSlots h') (c:Ti e h'):Fly B F H s stk e X vs F' Bh t { s' with heap:=h' } where
 tp:=x.tp
 tg:=x.tg
 same:=by refine el21 x.same fun h0 t0 e0=>?_;exact ⟨h',t0,by exact rwb e0 rfl⟩
 le:=x.le
 newF:=x.newF
 fly:=fl
 tup:=x.tup.of_slots u
 new:=x.new
 ctx:=c
 base:=x.base
 froz:=x.froz
 own:=x.own
 tab:=x.tab
 dict:=fun b o eb hd=>by
  refine el11 (x.dict b o eb hd) fun sl q=>?_;refine el21 hd fun es m hd=>?_;obtain ⟨sl2,q2⟩:=u b _ q fun vs z=>by (replace z:=ts (show ({ o with slots:=sl }:Obj).data = o.data from rfl) z;replace z:=ts hd z);contradiction
  exact ⟨sl2,q2⟩
 cov:=x.cov
theorem St.jb4 {s:Shared} {h':Heap} {tk:Nat} {m':Str→Option Value} (S:St B fm ρ F H s) (hn:h'.Ns fm.env.locals m') (k:Heap.SameBut fm.env.locals s.heap h') (ht:autoParam (s.toks ≤ tk) aK):St B fm [] F H { s with heap:=h',toks:=tk }:=by
 have hL:=S.ok.ownL;have hne:∀ b,b ∉ fm.own→b ≠ fm.env.locals:=fun b hb q=>hb (q ▸ hL);refine S.upd (S.toGS.kg k (S.ok.fresh _ hL).1 (S.ownF _ hL).1 (S.ownF _ hL).2 (S.ok.fresh _ hL).2.2) (Fz.le.refl F)
  (fun b o e Z Z h3=>.inl (k.extBut b o (hne b h3) e)) (V3 k (by refine el32 hn fun o Z Z e Z=>?_;refine rwb e ?_;exact some_ne_none _)) (fun Z Z e=>.inl e) (fun p hp=>.inl (mem_map_of_mem hp)) ⟨⟨_,hn,fun y dy e1 e2=>(by contradiction)⟩,fun y dy e1 e2=>(by contradiction),fun y hy c e=>?_⟩ fun b hb o es n e hd=>?_
 ·refine el11 (S.cellAt y hy c e) fun v' q2=>?_;obtain ⟨_,c',e',_,h1⟩:=S.ok.ownC y hy;replace e':=ts e e';obtain rfl:=oi e';exact ⟨v',IsCell.kept q2 fun o e=>.inl (k.extBut c o h1 e)⟩
 ·by_cases q:b = fm.env.locals
  ·subst q;refine el33 hn fun o' es' ep' a1 a2 Z=>?_;exact ⟨o',es',ep',a1,a2⟩
  ·exact ⟨o,es,n,k.extBut b o q e,hd⟩
noncomputable def L7 (F:Fz) (e:Addr) (o:Obj) (X:String) (ws:List D):Prop:=
 F.f e = some o ∧ o.cls = .type X ∧ ∃ vs t ot us k,o.data = .fields vs ∧ vs[0]? = some (.ref t) ∧ vs[2]? = some .none ∧ F.f t = some ot ∧ ot.cls = .type "tuple" ∧ ot.data = .seq us.toArray k ∧ Jc F us ws
theorem L7.le {F F':Fz} {e:Addr} {o:Obj} (x:L7 F e o X ws) (l:F.le F'):L7 F' e o X ws:=by
 revert x l;revert X ws F F' e o;refine no_implicit_lambda% (G6 (h:=?_));refine (?_:A6 _) _ _ _ _ _ _;intro X ws F F' e o x l;obtain ⟨a,b,vs,t,ot,us,k,c,d,d2,f,g,i,j⟩:=x;exact ⟨l.f _ _ a,b,vs,t,ot,us,k,c,d,d2,l.f _ _ f,g,i,j.mono l⟩
theorem GS.take {s:Shared} (g:GS B F H s) {a:Addr} {o:Obj} (ha:s.heap.get? a = some o) (h0:F.f a = Option.none) (hO:a ∉ H.map (·.1)) (hT:a ∉ Yb):GS B (F.put a o) H s ∧ F.le (F.put a o):=by
 have le:=Fz.Gr (o:=o) h0;have nf:∀ b,b ≠ a→F.f b = Option.none→(F.put a o).f b = Option.none:=fun b hb e=>by rw [Fz.put_ne hb];exact e
 refine ⟨?_,le⟩
 exact {
  tp:=g.tp
  tg:=g.tg
  same:=g.same
  base:=g.base
  froz:=fun b ob e=>by
   rcases Fz.yp e with e | ⟨rfl,rfl⟩
   ·exact g.froz b ob e
   ·exact ha
  own:=fun p hp=>(g.own p hp).mono le fun o e=>e
  nod:=g.nod
  apart:=fun p hp=>⟨nf _ (fun q=>hO (q ▸ mem_map_of_mem hp)) (g.apart p hp).1,(g.apart p hp).2⟩
  tab:=fun q hq=>(g.tab q hq).mono le fun o e=>e
  bk:=g.bk
  tabF:=fun b hb=>⟨nf _ (fun q=>hT (q ▸ hb)) (g.tabF b hb).1,(g.tabF b hb).2⟩ }
theorem Fly.fresh {s s':Shared} {stk:List Env} {e t:Addr} {vs:List Value} {F':Fz} {Bh:Heap} (g:GS B F H s) (x:Fly B F H s stk e X vs F' Bh t s') {a:Addr} {o:Obj} (hB:Bh.get? a = Option.none) (ha:s'.heap.get? a = some o) (hd:∀ es n,o.data ≠ .dict es n) :
  s.heap.get? a = Option.none ∧ F'.f a = Option.none ∧ a ∉ H.map (·.1) ∧ a ∉ Yb:=by
 have h1:a ∉ H.map (·.1):=fun hm=>by
  refine el12 (lM hm) fun p hp z2=>?_;subst z2;refine el22 (x.own p hp) fun ws m e Z=>?_;replace e:=ts hB e;contradiction
 have h2:a ∉ Yb:=fun hm=>by
  refine el12 (Vd hm) fun q' hq' z2=>?_;subst z2;refine el11 ((x.tab q' hq').there) fun ps e=>?_;replace e:=ts hB e;contradiction
 refine ⟨?_,?_,h1,h2⟩
 ·cases eb:s.heap.get? a with
  | none=>rfl
  | some o'=>
   rcases x.cov a o' eb h1 h2 with q | ⟨hd',_⟩
   ·replace q:=ts hB q;contradiction
   ·refine el11 (x.dict a o' eb hd') fun sl q=>?_;refine el21 hd' fun es m hd'=>?_;replace q:=ts ha q;obtain rfl:=oi q;exact absurd hd' (hd es m)
 ·cases q:F'.f a with
  | none=>rfl
  | some o'=>have:=x.froz a o' q;replace this:=ts hB this;contradiction
theorem Fly.jdh {s s':Shared} {stk:List Env} {e t:Addr} {vs:List Value} {F':Fz} {Bh:Heap} (g:GS B F H s) (x:Fly B F H s stk e X vs F' Bh t s') (hw:Jc F' vs ws) :
  ∃ F2 o,F'.le F2 ∧ Jl B F H s F2 H s' ∧ L7 F2 e o X ws:=by
 revert g x hw;revert B F H X ws s s' stk e t vs F' Bh;refine no_implicit_lambda% (G13 (h:=?_));refine (?_:A13 _) _ _ _ _ _ _ _ _ _ _ _ _ _;intro B F H X ws s s' stk e t vs F' Bh g x hw;have c:=x.post g;refine el24 x.fly.first (no_implicit_lambda% (G2 (h:=?_)));refine (?_:A2 _) _ _;intro oe vs0 he hcl hd hv0;refine el23 x.tup (no_implicit_lambda% (G2 (h:=?_)));refine (?_:A2 _) _ _;intro ot k ht htc htd;refine el23 x.ctx fun o2 vs2 hc1 hc2 hc3=>?_;replace hc1:=ts he hc1;obtain rfl:=oi hc1;replace hc2:=ts hd hc2;cases hc2;have fe:=x.fresh g x.fly.2.1 he (by refine rwb hd ?_;intro Z Z q;contradiction);have ft:=x.fresh g x.new ht (by refine rwb htd ?_;intro Z Z q;contradiction);have net:t ≠ e:=fun q=>by subst q;replace ht:=ts he ht;obtain rfl:=oi ht;replace htd:=ts hd htd;contradiction
 refine Yd (c.gs.take he fe.2.1 fe.2.2.1 fe.2.2.2) fun g1 l1=>?_;refine Yd (g1.take (a:=t) ht (by rw [Fz.put_ne net];exact ft.2.1) ft.2.2.1 ft.2.2.2) fun g2 l2=>?_;refine ⟨_,oe,l1.trans l2,⟨c.le.trans (l1.trans l2),g2,c.kept,c.live,fun b o q=>?_,c.newH⟩,l2.f _ _ (Fz.put_self _ _ _),hcl,vs0,t,ot,vs,k,hd,hv0,hc3,Fz.put_self _ _ _,htc,htd,hw.mono (l1.trans l2)⟩
 rcases Fz.yp q with q | ⟨rfl,rfl⟩
 ·rcases Fz.yp q with q | ⟨rfl,rfl⟩
  ·exact c.newF b o q
  ·exact .inr fe.1
 ·exact .inr ft.1
noncomputable def Sk (fm:Fm):Prop:=∃ outer L,fm.stack = fm.env :: outer ∧ fm.env.frame = some L
theorem S1.jai {body orelse:List Stmt} {xn nm:Str} {np hpos pos:Pos} {b0:Stmt} {suite:List Stmt} {rest:List ExceptHandler} (C:Cx A fm sc cn n) (hk:sc.names.lookup xn = some .globalImplicit) (hl:sc.names.lookup nm = some .local)
  (hm:B.mg xn = Option.none) (hv:bootBuiltins xn = some (.type T)) (hn:xn ≠ "__name__") (hexc:isSubtype (.type T) (.type "BaseException") = Pure.pure true)
  (hnt:isSubtype (.type ((Manifest.find? T).elim "type" fun x=>x.metatype)) (.type "tuple") = Pure.pure false) (hsub:isSubtype (.type X) (.type T) = Pure.pure true)
  (hb:∀ fm',Cx A fm' sc cn n→ExS B A fm' ρ H body (fun Z Z=>False) (fun Z Z=>False) (Rx B fm' J X ws))
  (hs:∀ fm' e o ρ' H',Cx (A.mark (some (.ref e))) fm' sc cn n→L7 fm'.F₀ e o X ws→J ρ' H'→ExS B (A.mark (some (.ref e))) fm' (put nm (.fro e o) ρ') H' (b0 :: suite) (fun Z Z=>False) R NoE)
  (sk:Sk fm) (hd:autoParam ((xn == ("__debug__":Str)) = false) aD) :
  Ex1 B A fm ρ H (.Try body (.ExceptHandler (some (.Name xn np)) (some nm) (b0 :: suite) hpos :: rest) orelse [] pos) N R E:=by
 revert C hk hl hm hv hn hexc hnt hsub hb hs sk hd;revert B A fm sc cn n ρ H E N R X T ws J body orelse xn nm np hpos pos b0 suite rest;refine no_implicit_lambda% (G25 (h:=?_));refine (?_:A25 _) _ _ _ _ _ _ _ _ _ _ _ _ _ _ _ _ _ _ _ _ _ _ _ _ _;intro B A fm sc cn n ρ H E N R X T ws J body orelse xn nm np hpos pos b0 suite rest C hk hl hm hv hn hexc hnt hsub hb hs sk hd;refine no_implicit_lambda% (G2 (h:=?_));refine (?_:A2 _) _ _;exact fun F s S=>by
  refine wpAny_Try_except (wpAny_mono (hb (fm.at F H s.heap) (C.at S.sub H s.heap) F s S.rebase) (fun fl s1 x1=>x1.elim (fun Z Z Z Z q Z=>q.elim) fun Z Z Z Z Z Z q Z Z=>q.elim) fun e s1 hx=>?_);obtain ⟨a,F1,H1,ρ1,s0,us,F2,Bh,t,rfl,S1,j,hw,x⟩:=hx;obtain ⟨outer,L,q1,q2⟩:=sk;have hfr:A.frames = some (fm.env :: outer):=by rw [C.frames,q1]
  have q3:fm.env.scope = sc:=C.sc;have hkx:fm.env.kindOf xn = some .globalImplicit:=by unfold Env.kindOf;rw [q3];exact hk
  have hkn:fm.env.kindOf nm = some .local:=by unfold Env.kindOf;rw [q3];exact hl
  rw [show (fm.at F H s.heap).stack = fm.env :: outer from q1] at x;refine wpAny_mono (V9 (e:=a) (Xq _ _) x.ctx (wpAny_looks_onW (Q:=fun Z s'=>∃ h',s' = { s1 with heap:=h' } ∧ Heap.HeldW Bh (fm.env :: outer) a (.type X) (.ref t) L h' ∧ s1.heap.UpToSlots h') hfr q2 x.fly fun h' y1 y2=>⟨h',rfl,y1,y2⟩)) (fun Z s' ⟨⟨h4,e4,y1,y2⟩,c4⟩=>?_) fun Z Z x=>x;subst e4;refine wpAny_mono (V9 (e:=a) (Gd _ _) c4 (wpAny_landsW (Q:=fun Z s'=>∃ h',s' = { s1 with heap:=h' } ∧ Heap.FlyingW Bh (fm.env :: outer) a (.type X) (.ref t) h' ∧ h4.UpToSlots h') y1 fun h' y1 y2=>⟨h',rfl,y1,y2⟩)) (fun Z s' ⟨⟨h5,e5,z1,z2⟩,c5⟩=>?_) fun Z Z x=>x;subst e5;have x5:=x.slots z1 (y2.trans z2) c5;have T5:=S1.call (x5.post S1.toGS);have hty:({ s1 with heap:=h5 }:Shared).TypeIs (.ref a) X:=by
   obtain ⟨oe,he,hc⟩:=z1.there;exact ⟨oe,he,hc⟩
  refine wpAny_handleBy_builtin_as (X:=X) (T:=T) (b:=true) hexc hnt hsub (Name_function_global S.ok.kind hkx (loadGlobal_builtin (env:=fm.env) (by rw [S.ok.glob];exact T5.bk.g.keeps T5.base) hm (by rw [S.ok.bi];exact T5.bk.b.keeps T5.base) ((T5.bk.bs xn hn).trans hv) ⟨rfl,hty,?_⟩) hd);rw [if_pos rfl];refine wpAny_mono (V9 (e:=a) (Gd _ _) c5 (lands_againW (Q:=fun Z s'=>∃ h',s' = { s1 with heap:=h' } ∧ Heap.FlyingW Bh (fm.env :: outer) a (.type X) (.ref t) h' ∧ h5.UpToSlots h') z1 fun h' y1 y2=>⟨h',rfl,y1,y2⟩)) (fun Z s' ⟨⟨h6,e6,v1,v2⟩,c6⟩=>?_) fun Z Z x=>x;subst e6;have x6:=x.slots v1 ((y2.trans z2).trans v2) c6;obtain ⟨F3,o,l3,cp,ex⟩:=x6.jdh S1.toGS hw;have T6:=S1.call cp;obtain ⟨m,hm',_⟩:=id T6.ns;refine wpAny_storeName_local hkn hm' (fun h7 hn7 hs7=>?_) (by rw [S.ok.kind];rfl);have T7:=T6.Tp (tk:=s1.toks + 1) hkn hm' hn7 hs7 (Jd.fro ex.1);have l0:F.le F3:=T6.sub;have C':Cx (A.mark (some (.ref a))) ((fm.at F H s.heap).at F3 H1 h7) sc cn n:=by
   refine ⟨.inr ?_,C.sc,C.depth,C.units,C.frames,C.cn⟩;obtain ⟨e1,e2,vs,t',ot,us',k,e3,e4,e5,_⟩:=ex;exact ⟨a,o,vs,rfl,e1,e3,e5⟩
  refine wpAny_mono (hs ((fm.at F H s.heap).at F3 H1 h7) a o ρ1 H1 C' ex j F3 _ T7.rebase) (fun fl s8 x8=>x8.elim (fun Z Z Z Z q Z=>q.elim) fun v F8 d H8 ρ8 l8 r8 rv8 S8=>?_) fun Z Z x=>x.elim;have S9:=T7.back S8;obtain ⟨m9,hm9,_⟩:=id S9.ns;refine wpAny_nameGoes hkn hm9 (by rw [S.ok.kind];rfl) fun h' m' hn' hs'=>Vx.ret v F8 d H8 [] (l0.trans S8.sub) r8 rv8 (S.back (S9.jb4 hn' hs'))
theorem S1.jd6 {body:List Stmt} {h0:ExceptHandler} {hs:List ExceptHandler} {pos:Pos} (hb:ExS B A fm ρ H body N R NoE):Ex1 B A fm ρ H (.Try body (h0 :: hs) [] [] pos) N R E:=fun F s S=>by
 refine wpAny_Try_except (wpAny_mono (hb F s S) (fun fl s1 x1=>?_) fun Z Z x=>x.elim);cases fl with
 | next=>exact wpAny_execs_nil x1
 | ret v=>exact x1
 | brk=>exact nomatch x1
 | cont=>exact nomatch x1
theorem Jm.jel {a:Addr} {body:List Stmt} {scope:Scope} {names:List Str} {dflt:List (Str × D)} {ds:List D} (S:Jm B a body scope names dflt)
  (hok:V4 scope = true) (hfree:(scope.names.all fun p=>p.2 != .free) = true) (hst:((names ++ dflt.map (·.1)).all fun x=>Jj scope ((scope.names.filter fun p=>p.2 == .cell).map (·.1)) x) = true)
  (hn:names.length = ds.length)
  (h:∀ A' fm,A'.handled = Option.none→Sk fm→Cx A' fm scope ((scope.names.filter fun p=>p.2 == .cell).map (·.1)) n→ExS B A' fm (putAll (names.zip ds ++ dflt) []) H body (fun Z H'=>P .none H') P NoE):Fn0 B (n + 1) (.ref a) ds H P:=by
 revert S hok hfree hst hn h;revert B n H P a body scope names dflt ds;refine no_implicit_lambda% (G10 (h:=?_));refine (?_:A10 _) _ _ _ _ _ _ _ _ _ _;intro B n H P a body scope names dflt ds S hok hfree hst hn h;refine no_implicit_lambda% (G5 (h:=?_));refine (?_:A5 _) _ _ _ _ _;exact fun A F s stk vs hh r rv=>by
  obtain ⟨o,fd,h1,h2,h3,h4,h5,h6,h7,h8,h9⟩:=S.ex;subst h4;have hl:names.length = vs.length:=by (refine rwb rv.length ?_;exact rwb hn rfl)
  refine el13 (h9 s vs r.gs.base hl.symm) fun us w1 w2 w3=>?_;have hcd:s.heap.CodeRec fd.code fd.qualname:=h8.keeps r.gs.base
  refine wpAny_call (Xe (xs:=names.zip ds ++ dflt) (cap:=[]) r (r.gs.base _ _ h1) h2 h3 hcd h6 h7 w3 hok (by refine rwb h5 ?_;exact Vy.nil hfree) ?_ ?_ (by
   (replace hst:=Eq.symm (Jw names ds hn) ▸ hst;replace hst:=Eq.symm map_append ▸ hst;replace hst:=ts all_map hst);exact hst) fun fm A' e1 e2 C=>?_)
  ·refine rwb map_append (rwb map_append (rwb (Jw _ _ hl) (rwb (Jw _ _ hn) ?_)));exact rwb w1 rfl
  ·refine rwb map_append (rwb map_append (rwb (Yg _ _ hl) (rwb (Yg _ _ hn) ?_)));exact rv.append (w2 F)
  ·refine fun F1 s1 S1=>wpAny_mono (h A' fm (by refine rwb e2 ?_;exact hh) (by refine rwb e1 ?_;exact ⟨_,_,rfl,rfl⟩) C F1 s1 S1) (fun fl s2 x2=>x2.elim (fun F2 ρ2 H2 l2 q S2=>.next F2 ρ2 H2 l2 (fun F' s' c=>⟨F',.none,H2,q,.none,c⟩) S2) fun v F2 d H2 ρ2 l2 q rv2 S2=>.ret v F2 d H2 ρ2 l2 (fun F' s' v' rv' c=>⟨F',d,H2,q,rv',c⟩) rv2 S2) fun Z Z x=>x.elim
end
section
variable {B:Base} {A:Around} {fm:Fm} {sc:Scope} {cn:List Str} {n:Nat} {ρ:Loc} {F:Fz} {H H0:Led} {E:Value→Shared→Prop} {P P':D→Led→Prop} {PB:Bool→Led→Prop} {N N':Loc→Led→Prop} {R:D→Led→Prop} {X I J:String} {ws:List D}
theorem S1.jdb {x:Str} {np pos:Pos} {newId initId:String} (Fc:ExcCallFacts X newId initId) (hc:ExcClass X I J) (hh:A.handled = Option.none) (hself:isSubtype (.type X) (.type X) = Pure.pure true)
  (hx:EvE B A fm ρ H (.Name x np) (Is (.val (.type X)) H) NoE) (h0:∀ p ∈ H0,p ∈ H) :
  Ex1 B A fm ρ H (.Raise (some (.Name x np)) Option.none pos) N R (Rz B fm H0 X []):=by
 revert Fc hc hh hself hx h0;revert B A fm ρ H H0 N R X I J x np pos newId initId;refine no_implicit_lambda% (G16 (h:=?_));refine (?_:A16 _) _ _ _ _ _ _ _ _ _ _ _ _ _ _ _ _;intro B A fm ρ H H0 N R X I J x np pos newId initId Fc hc hh hself hx h0;refine no_implicit_lambda% (G2 (h:=?_));refine (?_:A2 _) _ _;exact fun F s S=>by
  show wpAny B.M A (do standAt pos;raiseStmt fm.env (some (do let v ← eval (.Name x np) fm.env;standAt pos;pure v)) none) _ _ s;refine wpAny_bind (wpAny_standAt ?_);unfold raiseStmt;dsimp only;refine wpAny_bind (wpAny_bind (wpAny_mono (hx F s S) (fun v s₁ zz=>zz.elim fun F1 d H1 y l r S1=>y.rec fun e1 e2=>wpAny_bind (wpAny_standAt (wpAny_pure ?_))) fun Z Z x=>x.elim));subst e1 e2;cases r;refine wpAny_bind (wpAny_pure ?_);dsimp only;refine wpAny_bind (wpAny_holding ?_);unfold excFromValue isExcClass;refine wpAny_bind (wpAny_bind (wpAny_pure ?_));simp only [if_true];refine rwb hc.base ?_;refine wpAny_pure ?_;simp only [if_true];obtain ⟨hp,g,dr,tk,os⟩:=s₁;refine wpAny_bind (wpAny_call_exc Fc (fun h' e hn=>?_) (by show 0 ≤ _;exact Nat.zero_le _));refine el13 hn.there fun t he hnt ht=>?_;have hT:(⟨h',g,dr,tk,os⟩:Shared).TypeIs (.ref e) X:=⟨_,he,rfl⟩;refine wpAny_bind (wpAny_isInstance hT hc.base ?_);simp only [Bool.not_true,Bool.false_eq_true,if_false];refine wpAny_pure ?_
  first | (refine wpAny_bind (m:=isType (.type X)) (wpAny_pure ?_)) | (refine wpAny_bind (wpAny_pure ?_))
  first | (refine rwb (if_pos rfl) ?_) | (simp only [if_true]) | dsimp only
  refine wpAny_bind (wpAny_holding ?_);unfold raisedFor
  first | (simp only [Bool.false_eq_true,if_false]) | (rw [if_neg (by decide)]) | skip
  first | (refine wpAny_bind (wpAny_typeOf hT ?_)) | (refine wpAny_bind ?_;refine wpAny_bind (wpAny_typeOf hT ?_))
  refine wpAny_bind (call_issubclass (issubclass_self hc hself) ?_)
  first | (refine wpAny_bind (wpAny_truthy_bool ?_)) | (refine wpAny_truthy_bool ?_) | (dsimp only [wants];first | (refine wpAny_bind (wpAny_truthy_bool ?_)) | (refine wpAny_truthy_bool ?_))
  first | (refine rwb (if_pos rfl) ?_) | (simp only [if_true]) | skip
  refine wpAny_pure ?_;unfold setFlight raiseNew;refine wpAny_bind (wpAny_bind (wpAny_field (i:=1) (x:=Value.none) he rfl rfl ?_));refine rwb (if_neg (by decide)) ?_;refine wpAny_pure (wpAny_bind (wpAny_handled ?_));refine rwb hh ?_;have fin:Rz B fm H0 X [] (.ref e) ⟨h',g,dr,tk,os⟩:=.new e F1 _ ρ _ [] rfl S1 h0 h' tk (le_refl _) rfl (MadeExc.of hn) .nil
  first
   | exact wpAny_throw fin
   | exact wpAny_bind (wpAny_pure (wpAny_throw fin))
end
mutual
noncomputable def D.py:D→PyData
 | .bool b=>.bool b
 | .int i=>.int i
 | .str x=>.str x
 | .tup ds=>.tuple (D.mf ds)
 | .lst ds=>.list (D.mf ds)
 | _=>.none
noncomputable def D.mf:List D→List PyData
 | []=>[]
 | d :: ds=>d.py :: D.mf ds
end
mutual
noncomputable def D.pl:D→Bool
 | .none | .bool _ | .int _ | .str _=>true
 | .tup ds=>D.jao ds
 | .lst ds=>D.jao ds
 | _=>false
noncomputable def D.jao:List D→Bool
 | []=>true
 | d :: ds=>d.pl && D.jao ds
end
theorem Wc (i:Int):D.py (.int i) = .int i:=rfl
theorem Wb (x:Str):D.py (.str x) = .str x:=rfl
theorem Gi (ds:List D):D.py (.tup ds) = .tuple (D.mf ds):=rfl
theorem Vz (ds:List D):D.py (.lst ds) = .list (D.mf ds):=rfl
theorem W3:D.mf [] = []:=rfl
theorem Gh (d:D) (ds:List D):D.mf (d :: ds) = d.py :: D.mf ds:=rfl
theorem Jcm (ds:List D):D.pl (.lst ds) = D.jao ds:=rfl
section
variable {B:Base} {A:Around} {fm:Fm} {sc:Scope} {cn:List Str} {n:Nat} {ρ:Loc} {F:Fz} {H H0:Led} {E:Value→Shared→Prop} {P P':D→Led→Prop} {PB:Bool→Led→Prop} {N N':Loc→Led→Prop} {R:D→Led→Prop} {X:String} {ws:List D}
theorem Jd.reads {s:Shared} (g:GS B F H s) {v:Value} {d:D} (r:Jd F v d):d.pl = true→∃ as,Reads s.heap v d.py as:=
 Jd.rec (motive_1:=fun v d Z=>d.pl = true→∃ as,Reads s.heap v d.py as) (motive_2:=fun vs ds Z=>D.jao ds = true→∃ as,ReadsAll s.heap vs (D.mf ds) as) (fun Z=>⟨_,.none⟩) (fun b Z=>⟨_,.bool b⟩) (fun i t Z=>⟨_,.int i t⟩) (fun x t Z Z=>⟨_,.str x t⟩)
  (fun h Z q e=>(q e).elim fun Z q=>⟨_,.tuple (g.froz _ _ h) rfl rfl q⟩) (fun h Z q e=>(q e).elim fun Z q=>⟨_,.list (g.froz _ _ h) rfl rfl q⟩) (fun Z e=>absurd e Bool.false_ne_true) (fun Z Z e=>absurd e Bool.false_ne_true) (fun Z e=>absurd e Bool.false_ne_true) (fun Z e=>absurd e Bool.false_ne_true) (fun Z Z Z Z Z e=>absurd e Bool.false_ne_true)
  (fun Z=>⟨_,.nil⟩) (fun Z Z a b e=>have e:=Bool.and_eq_true_iff.mp e;let ⟨as,q⟩:=a e.1;let ⟨bs,q2⟩:=b e.2;⟨_,.cons q q2⟩) r
theorem Jc.reads {s:Shared} (g:GS B F H s) {ds:List D}:∀ {vs:List Value},Jc F vs ds→D.jao ds = true→∃ as,ReadsAll s.heap vs (D.mf ds) as:=by
 induction ds with
 | nil=>exact fun r=>r.mr fun Z=>⟨_,.nil⟩
 | cons d ds ih=>
  refine fun r=>r.Gs fun v vs h r e=>?_;have e:=Bool.and_eq_true_iff.mp e;refine el11 (h.reads g e.1) fun as q=>?_;refine el11 (ih r e.2) fun bs q2=>?_;exact ⟨_,.cons q q2⟩
noncomputable def Dt (H:Led) (d:D) (p:PyData):Prop:=(d.pl = true ∧ d.py = p) ∨ ∃ a ds,d = .ref a ∧ (a,ds) ∈ H ∧ D.jao ds = true ∧ p = .list (D.mf ds)
theorem Dt.pl {d:D} (h:d.pl = true):Dt H d d.py:=.inl ⟨h,rfl⟩
theorem Dt.own {a:Addr} {ds:List D} (h:(a,ds) ∈ H) (hp:D.jao ds = true):Dt H (.ref a) (.list (D.mf ds)):=.inr ⟨a,ds,rfl,h,hp,rfl⟩
theorem Dt.reads {d:D} {p:PyData} {s:Shared} {v:Value} (x:Dt H d p) (g:GS B F H s) (r:Jd F v d):∃ as,Reads s.heap v p as:=by
 rcases x with ⟨h,rfl⟩ | ⟨a,ds,rfl,h,hp,rfl⟩
 ·exact r.reads g h
 ·refine r.Kf ?_;refine el22 (g.own _ h) fun vs k e r=>?_;refine el11 (r.reads g hp) fun as q=>?_;exact ⟨_,.list e rfl rfl q⟩
theorem Op2.eqD {d1 d2:D} {p1 p2:PyData} (C:Cx A fm sc cn n) (h1:Dt H d1 p1) (h2:Dt H d2 p2) (c1:p1.canLay0 = true) (c2:p2.canLay0 = true) (hd:min p1.depth p2.depth < 900) (h:P (.bool (PyData.eqv p1 p2)) H) :
  Op2 B A fm ρ H (compareOp .Eq) d1 d2 P E:=fun F s v u S r1 r2=>by
 refine el11 (h1.reads S.toGS r1) fun as q1=>?_;refine el11 (h2.reads S.toGS r2) fun bs q2=>?_;exact SeqAt.compareEq_reads q1 q2 c1 c2 (by have:=C.units;show _ < 9900;lia) (here h (Fz.le.refl F) (.bool _) S)
theorem Op2.neD {d1 d2:D} {p1 p2:PyData} (C:Cx A fm sc cn n) (h1:Dt H d1 p1) (h2:Dt H d2 p2) (c1:p1.canLay0 = true) (c2:p2.canLay0 = true) (hd:min p1.depth p2.depth < 900) (h:P (.bool (!PyData.eqv p1 p2)) H) :
  Op2 B A fm ρ H (compareOp .NotEq) d1 d2 P E:=fun F s v u S r1 r2=>by
 refine el11 (h1.reads S.toGS r1) fun as q1=>?_;refine el11 (h2.reads S.toGS r2) fun bs q2=>?_;exact SeqAt.compareNe_reads q1 q2 c1 c2 (by have:=C.units;show _ < 9900;lia) (here h (Fz.le.refl F) (.bool _) S)
theorem Op2.jfc {d1 d2:D} {p1:PyData} {ps:List PyData} (C:Cx A fm sc cn n) (h1:Dt H d1 p1) (h2:Dt H d2 (.list ps)) (c1:p1.canLay0 = true) (c2:PyData.canLayAll0 ps = true) (hd:p1.depth < 800) (h:P (.bool (!ps.any fun y=>PyData.eqv y p1)) H) :
  Op2 B A fm ρ H (compareOp .NotIn) d1 d2 P E:=fun F s v u S r1 r2=>by
 refine el11 (h1.reads S.toGS r1) fun as q1=>?_;refine el11 (h2.reads S.toGS r2) fun bs q2=>?_;exact SeqAt.notIn_list_reads q2 q1 c2 c1 (by have:=C.units;show _ < 9900;lia) (here h (Fz.le.refl F) (.bool _) S)
theorem Op2.jfb {d1:D} {ds:List D} {p1:PyData} (C:Cx A fm sc cn n) (h1:Dt H d1 p1) (h2:D.jao ds = true) (c1:p1.canLay0 = true) (c2:PyData.canLayAll0 (D.mf ds) = true) (hd:p1.depth < 800) (h:P (.bool (!(D.mf ds).any fun y=>PyData.eqv y p1)) H) :
  Op2 B A fm ρ H (compareOp .NotIn) d1 (.tup ds) P E:=fun F s v u S r1 r2=>by
 refine el11 (h1.reads S.toGS r1) fun as q1=>?_;refine el11 (r2.reads S.toGS (by exact h2)) fun bs q2=>?_;rw [Gi] at q2;exact SeqAt.notIn_tuple_reads q2 q1 c2 c1 (by have:=C.units;show _ < 9900;lia) (here h (Fz.le.refl F) (.bool _) S)
theorem Op2.jaq {x y:Str} (h:P (.bool (!Txt.contains x y)) H):Op2 B A fm ρ H (compareOp .NotIn) (.str y) (.str x) P E:=fun F s v u S r1 r2=>by
 exact r1.zt fun Z Z=>r2.zt fun Z Z=>PySem.P.notIn_str (here h (Fz.le.refl F) (.bool _) S)
theorem St.booked {s:Shared} (S:St B fm ρ F H s):NoneBooked s.heap:=let ⟨mc,hn,hk⟩:=S.bk.booked;⟨mc,hn.keeps S.base,hk⟩
theorem Op2.isS {x y:Str} (h:∀ b:Bool,(b = true→x = y)→P (D.bool b) H):Op2 B A fm ρ H (compareOp .Is) (.str x) (.str y) P E:=fun F s v u S r1 r2=>by
 refine r1.zt fun t ht=>r2.zt fun t' ht'=>?_;show wpAny B.M A (do return Value.bool (← isSame (.str x t) (.str y t'))) _ _ s;have z1:=(S.tg t x ht).2;have z2:=(S.tg t' y ht').2;have h0:(t == 0 || t' == 0) = false:=by simp [z1,z2]
 by_cases e:x = y
 ·exact wpAny_bind (wpAny_isSame_str h0 S.booked fun b=>wpAny_pure (here (h b fun Z=>e) (Fz.le.refl F) (.bool _) S))
 ·have hne:t ≠ t':=by rintro rfl;replace ht':=ts ht ht';exact e (oi ht')
  refine rwb (isSame_str_other x y t t' h0 (by simpa using hne) (by simpa using e)) ?_;exact wpAny_bind (wpAny_pure (wpAny_pure (here (h false fun q=>nomatch q) (Fz.le.refl F) (.bool _) S)))
noncomputable def D.nn:D→Option Bool
 | .none=>some true
 | .val _=>Option.none
 | _=>some false
theorem Jd.nn {v:Value} {d:D} {b:Bool} (r:Jd F v d) (h:d.nn = some b):(v == Value.none) = b:=by
 refine r.inv (m:=fun v=>(v == Value.none) = b) ?_;cases d with
 | none=>exact oi h
 | bool=>exact oi h
 | int=>exact fun Z=>oi h
 | str=>exact fun Z Z=>oi h
 | tup=>exact fun Z Z Z Z Z=>oi h
 | lst=>exact fun Z Z Z Z Z=>oi h
 | ref=>exact oi h
 | hdr=>exact fun Z Z Z Z Z Z Z Z=>oi h
 | val=>exact absurd h.symm (some_ne_none _)
 | fro=>exact fun Z=>oi h
 | clo=>exact fun Z Z Z Z Z Z Z Z Z=>oi h
theorem Op2.isN {d:D} {b:Bool} (hd:d.nn = some b) (h:P (.bool b) H):Op2 B A fm ρ H (compareOp .Is) d .none P E:=fun F s v u S r1 r2=>by
 refine r2.jap ?_;show wpAny B.M A (do return Value.bool (← isSame v .none)) _ _ s;rewrite [isSame_none];refine rwb (r1.nn hd) ?_;exact wpAny_bind (wpAny_pure (wpAny_pure (here h (Fz.le.refl F) (.bool _) S)))
theorem Op2.jat {d:D} {b:Bool} (hd:d.nn = some b) (h:P (.bool (!b)) H):Op2 B A fm ρ H (compareOp .IsNot) d .none P E:=fun F s v u S r1 r2=>by
 refine r2.jap ?_;show wpAny B.M A (do return Value.bool (!(← isSame v .none))) _ _ s;rewrite [isSame_none];refine rwb (r1.nn hd) ?_;exact wpAny_bind (wpAny_pure (wpAny_pure (here h (Fz.le.refl F) (.bool _) S)))
theorem Op2.isT {a b:String} (h:P (.bool (Value.type a == Value.type b)) H):Op2 B A fm ρ H (compareOp .Is) (.val (.type a)) (.val (.type b)) P E:=fun F s v u S r1 r2=>by
 refine r1.tn<|r2.tn ?_;show wpAny B.M A (do return Value.bool (← isSame (.type a) (.type b))) _ _ s;exact wpAny_bind (wpAny_isSame_plain rfl (wpAny_pure (here h (Fz.le.refl F) (.bool _) S)))
theorem Op2.jei {a b:String} (h:P (.bool (!(Value.type a == Value.type b))) H):Op2 B A fm ρ H (compareOp .IsNot) (.val (.type a)) (.val (.type b)) P E:=fun F s v u S r1 r2=>by
 refine r1.tn<|r2.tn ?_;show wpAny B.M A (do return Value.bool (!(← isSame (.type a) (.type b)))) _ _ s;exact wpAny_bind (wpAny_isSame_plain rfl (wpAny_pure (here h (Fz.le.refl F) (.bool _) S)))
theorem Cl.jce {x:Str} (h:P (.val (.type "str")) H):Jp B A fm ρ H (.type "type") [.str x] P E:=fun F s vs S rv=>by
 refine V2 rv fun v r=>?_;refine r.zt fun t Z=>?_;exact call_type_of (typeIs_str _ _ _) (by decide) (here h (Fz.le.refl F) (.val _) S)
theorem Cl.jd5 {a:Addr} {ds:List D} (ha:(a,ds) ∈ H) (h:P (.val (.type "list")) H):Jp B A fm ρ H (.type "type") [.ref a] P E:=fun F s vs S rv=>by
 refine V2 rv fun v r=>?_;refine r.Kf ?_;refine el22 (S.own _ ha) fun vs k e Z=>?_;exact call_type_of (x:=.ref a) ⟨_,e,rfl⟩ (by decide) (here h (Fz.le.refl F) (.val _) S)
theorem Cl.upper {x:Str} (hz:Builtin.Str.tooLong (Txt.upper x).length = false) (h:P (.str (Txt.upper x)) H):Jp B A fm ρ H (.builtin "str.upper") [.str x] P E:=fun F s vs S rv=>by
 refine V2 rv fun v r=>?_;refine r.zt fun t Z=>?_;exact SC.upper hz (Qp h S)
theorem Cl.lower {x:Str} (hz:Builtin.Str.tooLong (Txt.lower x).length = false) (h:P (.str (Txt.lower x)) H):Jp B A fm ρ H (.builtin "str.lower") [.str x] P E:=fun F s vs S rv=>by
 refine V2 rv fun v r=>?_;refine r.zt fun t Z=>?_;exact SC.lower hz (Qp h S)
theorem Cl.je5 {a:Int} (ha:a.natAbs.log2 < 1920) (h:P (.str (toString a)) H):Jp B A fm ρ H (.type "str") [.int a] P E:=fun F s vs S rv=>by
 refine V2 rv fun v r=>?_;refine r.z5 fun t=>?_;exact PySem.P.str_of_int ha (Qp h S)
theorem Cl.jde {x:Str} {i:Int} (hi:PySem.intText? x = some i) (hz:x.length ≤ 640) (h:P (.int i) H):Jp B A fm ρ H (.type "int") [.str x] P E:=fun F s vs S rv=>by
 refine V2 rv fun v r=>?_;refine r.zt fun t Z=>?_;exact KIN.call_text hi hz (here h (Fz.le.refl F) (.int _ _) (S.tok _))
theorem Cl.chr {i:Int} (hi:(decide (i < 0) || decide (i > 0x10FFFF)) = false) (h:P (.str ⟨#[i.toNat]⟩) H):Jp B A fm ρ H (.builtin "chr") [.int i] P E:=fun F s vs S rv=>by
 refine V2 rv fun v r=>?_;refine r.z5 fun t=>?_;exact PySem.P.chr_of_int hi (Qp h S)
theorem Cl.zt {e:Addr} {o:Obj} {ni:String} {x:Str} (C:Cx A fm sc cn n) (ex:L7 fm.F₀ e o X [.str x]) (FX:ExcStrFacts X ni) (h:P (.str x) H):Jp B A fm ρ H (.type "str") [.fro e o] P E:=fun F s vs S rv=>by
 refine V2 rv fun v r=>?_;refine r.tr fun Z=>?_;obtain ⟨h1,h2,vs,t,ot,us,k,h3,h4,h5,h6,h7,h8,h9⟩:=ex.le S.sub;revert h8;refine V2 h9 fun u ru=>ru.zt fun tk hk h8=>?_;exact PySem.P.str_of_exc_one FX (by have:=C.units;show _ < 9900;lia) ⟨o,vs,S.froz _ _ h1,h2,h3,h4⟩ ⟨ot,k,S.froz _ _ h6,h7,h8⟩ (here h (Fz.le.refl F) (.str _ _ hk) S)
theorem Cl.jd8 {e:Addr} {o:Obj} {ni:String} (C:Cx A fm sc cn n) (ex:L7 fm.F₀ e o X []) (FX:ExcStrFacts X ni) (h:P (.str Str.empty) H):Jp B A fm ρ H (.type "str") [.fro e o] P E:=fun F s vs S rv=>by
 refine V2 rv fun v r=>?_;refine r.tr fun Z=>?_;obtain ⟨h1,h2,vs,t,ot,us,k,h3,h4,h5,h6,h7,h8,h9⟩:=ex.le S.sub;cases h9;exact PySem.P.str_of_exc_none FX (by have:=C.units;show _ < 9900;lia) ⟨o,vs,S.froz _ _ h1,h2,h3,h4⟩ ⟨ot,k,S.froz _ _ h6,h7,h8⟩ (Qp h S)
end
section
variable {B:Base} {A:Around} {fm:Fm} {sc:Scope} {cn:List Str} {n:Nat} {ρ:Loc} {F:Fz} {H H0:Led} {E:Value→Shared→Prop} {P P':D→Led→Prop} {PB:Bool→Led→Prop} {N N':Loc→Led→Prop} {R:D→Led→Prop} {X:String} {ws:List D}
noncomputable def allOf (h:Heap) (L:Addr):List (Addr × Obj):=(List.range h.objs.size).filterMap fun a=>if a = L then none else (h.get? a).map fun o=>(a,o)
theorem Kw {h:Heap} {L a:Addr} {o:Obj}:(a,o) ∈ allOf h L ↔ a ≠ L ∧ h.get? a = some o:=by
 unfold allOf;rw [List.mem_filterMap]
 constructor
 ·refine fun zz=>el12 zz fun b hb e=>?_
  by_cases q:b = L
  ·replace e:=ts (if_pos q) e;contradiction
  ·replace e:=ts (if_neg q) e;refine el12 (map_eq_some_iff.mp e) fun o' e1 e2=>?_;cases e2;exact ⟨q,e1⟩
 ·refine fun zz=>Yd zz fun h1 h2=>?_;exact ⟨a,List.mem_range.mpr (Heap.lt_size h2),by (refine rwb (if_neg h1) (rwb h2 ?_));rfl⟩
noncomputable def h00:Heap:={}
theorem Cd (a:Addr):h00.get? a = none:=by rfl
theorem frOf {h:Heap} {L:Addr} {m:Str→Option Value} (hn:h.Ns L m):Fr h00 L h m:=⟨hn,fun b o e=>(by rw [Cd] at e;cases e),Nat.zero_le _⟩
theorem B9 (h:Heap) (L:Addr):News h00 L h (allOf h L):=fun p hp=>by
 obtain ⟨h1,h2⟩:=Kw.mp (show (p.1,p.2) ∈ allOf h L from hp);exact ⟨h2,h1,Cd _⟩
theorem GS.jfn {s:Shared} {h':Heap} {tk:Nat} {L:Addr} (g:GS B F H s) (k:∀ b o,b ≠ L→s.heap.get? b = some o→h'.get? b = some o) (h1:B.h.get? L = none) (h2:F.f L = none) (h3:L ∉ H.map (·.1)) (h4:L ∉ Yb) (ht:s.toks ≤ tk):GS B F H { s with heap:=h',toks:=tk } where
 tp:=g.tpos ht
 tg:=g.jc7 ht
 same:=by obtain ⟨h,t,e⟩:=g.same;exact ⟨h',tk,by rw [e]⟩
 base:=fun b o e=>k b o (fun q=>by rw [q,h1] at e;cases e) (g.base b o e)
 froz:=fun b o e=>k b o (fun q=>by rw [q,h2] at e;cases e) (g.froz b o e)
 own:=fun p hp=>(g.own p hp).mono (Fz.le.refl F) fun o e=>k _ o (fun q=>h3 (q ▸ mem_map_of_mem hp)) e
 nod:=g.nod
 apart:=g.apart
 tab:=fun q hq=>(g.tab q hq).mono (Fz.le.refl F) fun o e=>k _ o (fun z=>h4 (z ▸ Wv hq)) e
 bk:=g.bk
 tabF:=g.tabF
theorem Ns.fun {h:Heap} {L:Addr} {m m':Str→Option Value} (x:h.Ns L m) (y:h.Ns L m'):m = m':=by
 obtain ⟨o,es,ep,a1,a2,a3,a4⟩:=x;obtain ⟨o',es',ep',b1,b2,b3,b4⟩:=y;rw [a1] at b1;cases b1;rw [a2] at b2;cases b2
 funext y;rw [← a4,← b4]
theorem St.ofFr {s:Shared} {h':Heap} {tk:Nat} {m:Str→Option Value} (S:St B fm ρ F H s) (hm:s.heap.Ns fm.env.locals m) (Fr':Fr h00 fm.env.locals h' m) (Nw:News h00 fm.env.locals h' (allOf s.heap fm.env.locals)) (ht:s.toks ≤ tk):St B fm ρ F H { s with heap:=h',toks:=tk }:=by
 revert S hm Fr' Nw ht;revert B fm ρ F H s h' tk m;refine no_implicit_lambda% (G9 (h:=?_));refine (?_:A9 _) _ _ _ _ _ _ _ _ _;intro B fm ρ F H s h' tk m S hm Fr' Nw ht;have hL:=S.ok.ownL;have hne:∀ b,b ∉ fm.own→b ≠ fm.env.locals:=fun b hb q=>hb (q ▸ hL);have k:∀ b o,b ≠ fm.env.locals→s.heap.get? b = some o→h'.get? b = some o:=fun b o hb e=>(Nw (b,o) (Kw.mpr ⟨hb,e⟩)).1;have hC:∀ c,c ≠ fm.env.locals→∀ o,s.heap.get? c = some o→Kept h' c o:=fun c e2 o e=>.inl (k c o e2 e);refine S.upd (S.toGS.jfn k (S.ok.fresh _ hL).1 (S.ownF _ hL).1 (S.ownF _ hL).2 (S.ok.fresh _ hL).2.2 ht) (Fz.le.refl F)
  (fun b o e Z Z h3=>.inl (k b o (hne b h3) e)) (Vk.of fun b o e=>?_) (fun Z Z e=>.inl e) (fun p hp=>.inl (mem_map_of_mem hp)) ⟨⟨m,Fr'.ns,fun y dy e1 e2=>?_⟩,fun y dy e1 e2=>?_,fun y hy c e=>?_⟩ fun b hb o es n e hd=>?_
 ·by_cases q:b = fm.env.locals
  ·subst q;refine el32 Fr'.ns fun o' es' ep' a1 Z=>?_;exact ⟨o',a1⟩
  ·exact ⟨o,k b o q e⟩
 ·refine el12 S.ns fun m1 hm1 r1=>?_;have:m1 = m:=Ns.fun hm1 hm;subst this;exact r1 y dy e1 e2
 ·refine el23 (S.cell y dy e1 e2) fun c v' q1 q2 q3=>?_;refine ⟨c,v',q1,IsCell.kept q2 (hC c fun z=>?_),q3⟩;refine el12 q2 fun o1 b1 b2=>?_;refine el33 hm fun o2 es2 ep2 c1 c2 Z=>?_;replace b1:=z ▸ b1;replace b1:=ts c1 b1;obtain rfl:=oi b1;replace b2:=ts c2 b2;contradiction
 ·refine el11 (S.cellAt y hy c e) fun v' q2=>?_;obtain ⟨_,c',e',_,h1⟩:=S.ok.ownC y hy;replace e':=ts e e';obtain rfl:=oi e';exact ⟨v',IsCell.kept q2 (hC c h1)⟩
 ·by_cases q:b = fm.env.locals
  ·subst q;refine el33 Fr'.ns fun o' es' ep' a1 a2 Z=>?_;exact ⟨o',es',ep',a1,a2⟩
  ·exact ⟨o,es,n,k b o q e,hd⟩
theorem St.take {s:Shared} {a:Addr} {o₀:Obj} (S:St B fm ρ F H s) (ha:s.heap.get? a = some o₀) (nd:∀ es n,o₀.data ≠ .dict es n) (nc:∀ v,o₀.data ≠ .cell v) (fr:F.f a = none) (hO:a ∉ H.map (·.1)) (hT:a ∉ Yb) (hw:fm.h₁.get? a = none) :
  F.le (F.put a o₀) ∧ St B fm ρ (F.put a o₀) H s:=by
 revert S ha nd nc fr hO hT hw;revert B fm ρ F H s a o₀;refine no_implicit_lambda% (G8 (h:=?_));refine (?_:A8 _) _ _ _ _ _ _ _ _;intro B fm ρ F H s a o₀ S ha nd nc fr hO hT hw;refine Yd (S.toGS.take ha fr hO hT) fun g le=>?_;refine ⟨le,?_⟩;have other:∀ b,b ≠ a→(F.put a o₀).f b = F.f b:=fun b q=>Fz.put_ne q;have dic:∀ b o es m,s.heap.get? b = some o→o.data = .dict es m→b ≠ a:=fun b o es m e hd q=>by subst q;replace e:=ts ha e;obtain rfl:=oi e;exact nd _ _ hd
 exact {
  toGS:=g
  toBears:=S.toBears.kept le fun b o Z e Z Z=>.inl e
  ok:=S.ok
  ownF:=fun b hb=>⟨by
   cases q:(F.put a o₀).f b with
   | none=>rfl
   | some o=>
    rcases Fz.yp q with q | ⟨rfl,rfl⟩
    ·replace q:=ts ((S.ownF b hb).1) q;contradiction
    ·rcases S.ok.ownIs b hb with e | ⟨x,hx,e⟩
     ·refine el12 S.ns fun m z1 Z=>?_;obtain ⟨o,es,ep,a1,a2,_⟩:=z1;(replace a1:=Eq.symm e ▸ a1;replace a1:=ts ha a1);obtain rfl:=oi a1;exact absurd a2 (nd _ _)
     ·refine el22 (S.cellAt x hx b e) fun v' o1 b1 b2=>?_;replace b1:=ts ha b1;obtain rfl:=oi b1
      exact absurd b2 (nc _),(S.ownF b hb).2⟩
  keep:=S.keep
  led:=S.led
  frz:=fun b o q=>by rcases Fz.yp q with q | ⟨rfl,rfl⟩;exact S.frz b o q;exact .inr hw
  sub:=S.sub.trans le
  ff:=S.ff.upd (fun b o es n e hd Z=>⟨o,es,n,e,hd⟩) fun b o es n eb hd hf=>by
   refine rwb (other b (dic b o es n eb hd)) ?_;exact hf
  old:=S.old
  lives:=S.lives }
theorem St.jcg {s:Shared} {h':Heap} {tk:Nat} {m:Str→Option Value} {a:Addr} {o₀:Obj} (S:St B fm ρ F H s) (hm:s.heap.Ns fm.env.locals m) (Fr':Fr h00 fm.env.locals h' m) (Nw:News h00 fm.env.locals h' ((a,o₀) :: allOf s.heap fm.env.locals)) (nD:s.heap.get? a = none)
  (nd:∀ es n,o₀.data ≠ .dict es n) (nc:∀ v,o₀.data ≠ .cell v) (ht:s.toks ≤ tk):F.le (F.put a o₀) ∧ St B fm ρ (F.put a o₀) H { s with heap:=h',toks:=tk }:=by
 have S2:=S.ofFr hm Fr' (fun p hp=>Nw p (.tail _ hp)) ht;have fr:=S.fresh nD;exact S2.take (Nw _ (.head _)).1 nd nc fr.1 fr.2.2.2 fr.2.2.1 (Vk.none S.old nD)
theorem Jer {prog:Program} {w:World} {A:Around} {x y:Str} {t u:Tok} {Q:Array Nat→Shared→Prop} {s:Shared} (h1:y.cps.toList < x.cps.toList→Q #[1,0] s) (h2:¬ y.cps.toList < x.cps.toList→Q #[0,1] s) :
  (kas_sort 2).kasWp (kas_ask prog w A oneType' [.str x t,.str y u]) Q s:=by
 by_cases h:y.cps.toList < x.cps.toList
 ·refine (show kas_ask prog w A oneType' [.str x t,.str y u] 1 0 _ s from kas_lt_str ?_);refine rwb (decide_eq_true h) ?_;exact h1 h
 ·refine (show kas_ask prog w A oneType' [.str x t,.str y u] 1 0 _ s from kas_lt_str ?_);refine rwb (decide_eq_false h) ?_;exact h2 h
theorem Cl.jbz {x y:Str} (h:P (.lst (if y.cps.toList < x.cps.toList then [.str y,.str x] else [.str x,.str y])) H):Jp B A fm ρ H (.builtin "sorted") [.lst [.str x,.str y]] P E:=fun F s vs S rv=>by
 refine V2 rv fun v r=>?_;refine r.Mc fun a vs k ha hr=>?_;revert ha;refine Ru hr fun u1 u2 r1 r2=>r1.zt fun t ht=>r2.zt fun u hu ha=>?_;refine el12 (id S.ns) fun m hm Z=>?_;have hg:=S.froz _ _ ha;refine wpAny_toks (kas_sorted (frOf hm) (B9 _ _) ⟨_,hg,rfl,_,rfl⟩ (by show 2 ≤ 2;decide) (by show 2 < 64;decide) (T:=.type "str") (fun h Z Z v hv=>?_) (by decide) fun D' e1 h' Fr1 N1 hD=>?_)
 ·rcases lC hv with rfl | hv
  ·exact Looks.of_pure rfl
  ·refine rwb (lS hv) ?_;exact Looks.of_pure rfl
 have fin:∀ (p:Array Nat) (vs':List Value) (ds:List D),(p.toList.map fun i=>[Value.str x t,Value.str y u].getD i Value.none) = vs'→Jc F vs' ds→P (.lst ds) H →
   KasFin h00 fm.env.locals m D' e1 (p.toList.map fun i=>[Value.str x t,Value.str y u].getD i Value.none) (fun s''=>s.toks ≤ s''.toks→Vp B fm ρ F P (.ref D') s'') { s with heap:=h' }:=fun p vs' ds e1' r' hp=>by
  refine rwb e1' ?_;refine KasFin.intro (s:={ s with heap:=h' }) Fr1 N1 (.head fun p hp=>ne_of_lt (hD p hp)) fun h2 c Fr2 N2 htk=>?_;have hD2:=N2 _ (.head _);have nD:s.heap.get? D' = Option.none:=by
   cases q:s.heap.get? D' with
   | none=>rfl
   | some o=>exact absurd (hD (D',o) (Kw.mpr ⟨hD2.2.1,q⟩)) (Nat.lt_irrefl _)
  refine Yd (S.jcg hm Fr2 N2 nD (fun Z Z q=>nomatch q) (fun Z q=>nomatch q) htk) fun le S3=>?_;exact here hp le (.lst (Fz.put_self ..) (r'.mono le)) S3
 refine Jer (fun hlt=>?_) fun hlt=>?_
 ·replace h:=(if_pos hlt) ▸ h;exact fin _ [.str y u,.str x t] _ rfl (.cons (.str _ _ hu) (.cons (.str _ _ ht) .nil)) h
 ·replace h:=(if_neg hlt) ▸ h;exact fin _ [.str x t,.str y u] _ rfl (.cons (.str _ _ ht) (.cons (.str _ _ hu) .nil)) h
theorem Op2.jfp {ds es:List D} (hz:ds.length + es.length ≤ sizeLine) (h:P (.tup (ds ++ es)) H):Op2 B A fm ρ H (binaryOp .Add) (.tup ds) (.tup es) P E:=fun F s v u S r1 r2=>by
 refine r1.jc6 fun a vs k ha hr=>r2.jc6 fun b us k' hb hr'=>?_;refine el12 (id S.ns) fun m hm Z=>?_;refine add_tuples (vs:=vs) (ws:=us) (frOf hm) (B9 _ _) ⟨_,S.froz _ _ ha,rfl,_,rfl⟩ ⟨_,S.froz _ _ hb,rfl,_,rfl⟩ (fun e=>?_) (fun Z e=>?_) (fun Z Z h' F1 N1=>?_) (by (refine rwb hr.length (rwb hr'.length ?_));exact hz)
 ·subst e;cases hr;exact here h (Fz.le.refl F) (.tup hb hr') S
 ·subst e;cases hr';rw [append_nil] at h;exact here h (Fz.le.refl F) (.tup ha hr) S
 ·refine Yd (S.jcg (tk:=s.toks) hm F1 N1 (Je _) (fun Z Z q=>nomatch q) (fun Z q=>nomatch q) (le_refl _)) fun le S3=>?_;exact here h le (.tup (Fz.put_self ..) ((hr.append hr').mono le)) S3
theorem Jc.jec {vs:List Value}:∀ {ds:List D},vs.length = ds.length→(∀ (j:Nat) (v:Value),vs[j]? = some v→∃ d:D,ds[j]? = some d ∧ Jd F v d)→Jc F vs ds:=by
 induction vs with
 | nil=>intro ds hl Z;cases ds with | nil=>exact .nil | cons=>contradiction
 | cons v vs ih=>
  intro ds hl h;cases ds with
  | nil=>contradiction
  | cons d ds=>
   refine el12 (h 0 v rfl) fun d' e r=>?_;obtain rfl:=oi e;exact .cons r (ih (by simpa using hl) fun j v e=>h (j + 1) v (by simpa using e))
theorem Cl.ro {r:Addr} {a b c:Int} {t u v:Tok} {k:Nat} (hh:A.handled = none) (hs:Builtin.Range.small a b c = true) (hk:Builtin.Range.rangeSize a b c = (k:Int)) (hz:k ≤ 2 ^ 24) (h:P (.lst ((List.range k).map fun (i:Nat)=>D.int (a + (i:Int) * c))) H) :
  Jp B A fm ρ H (.type "list") [.fro r (Zi a b c t u v)] P E:=fun F s vs S rv=>by
 refine el12 (one rv) fun v' z1 rr=>?_;subst z1;refine rr.tr fun hr=>?_;refine wpAny_toks (call_list_range hh (S.froz _ _ hr) hs hk hz fun h' tk acc c' kp hl hi htk=>?_);have S2:=S.keeps (tk:=tk) kp htk;have fr:=S.fresh (Je s.heap);refine Yd (S2.take hl (fun Z Z q=>nomatch q) (fun Z q=>nomatch q) fr.1 fr.2.2.2 fr.2.2.1 (Vk.none S.old (Je _))) fun le S3=>?_;refine here h le (.lst (vs:=acc.toList) (n:=c') (Fz.put_self ..) ?_) S3;refine Jc.jec (by have:=hi.1;simp [this]) fun j w e=>?_;have hj:j < k:=by
  have:=(lG e).1;have:=hi.1;simp at *;lia
 refine el11 (hi.2 j w (by simpa using e)) fun t' z1=>?_;subst z1;exact ⟨_,by (refine rwb (List.getElem?_map) (rwb (List.getElem?_range hj) ?_));rfl,.int _ _⟩
theorem Op2.jcj {x:Str} (h:P (.str Str.empty) H):Op2 B A fm ρ H (binaryOp .Mult) (.str x) (.int 0) P E:=fun F s v u S r1 r2=>by
 exact r1.zt fun Z Z=>r2.z5 fun Z=>PySem.P.mul_str_none (by decide) (by decide) (Qp h S)
theorem Op2.jci {x:Str} (h:P (.str x) H):Op2 B A fm ρ H (binaryOp .Mult) (.str x) (.int 1) P E:=fun F s v u S r1 r2=>by
 refine r2.z5 fun Z=>r1.zt fun t ht=>?_
 exact PySem.P.mul_str (by decide) (fun Z q=>by simp at q) (fun Z q=>by simp at q) (by
  (refine rwb (if_neg (by decide)) (rwb (if_pos (by simp)) ?_));exact here h (Fz.le.refl F) (.str _ _ ht) S)
theorem EvE.jfo {x pos} (h:EvE B A fm ρ H x P E):EvE B A fm ρ H (.BoolOp .And [x] pos) P E:=fun F s S=>BoolOp_one (h F s S)
theorem EvE.jen {x y rest pos} (h:EvE B A fm ρ H x (IsB fun b H1=>if b = true then EvE B A fm ρ H1 (.BoolOp .And (y :: rest) pos) P E else P (.bool false) H1) E):EvE B A fm ρ H (.BoolOp .And (x :: y :: rest) pos) P E:=fun F s S=>
 BoolOp_and (wpAny_mono (h F s S) (fun v s1 zz=>zz.elim fun F1 d H1 z l r S1=>z.rec fun b e p=>by
  subst e;refine r.Pp<|wpAny_truthy_bool ?_;cases b
  ·exact here p l (.bool _) S1
  ·exact wpAny_mono (p F1 s1 S1) (fun Z Z x=>x.le l) fun Z Z x=>x) fun Z Z x=>x)
end
section
variable {B:Base} {A:Around} {fm:Fm} {sc:Scope} {cn:List Str} {n:Nat} {ρ:Loc} {F:Fz} {H H0:Led} {E E':Value→Shared→Prop} {P P':D→Led→Prop} {PB:Bool→Led→Prop} {N N':Loc→Led→Prop} {R:D→Led→Prop} {X:String} {ws:List D}
theorem ExT.toE {t:Sem Flow} (h:ExT B A fm ρ H t N R E) (k:∀ e s,E e s→E' e s):ExT B A fm ρ H t N R E':=fun F s S=>wpAny_mono (h F s S) (fun Z Z x=>x) k
theorem Jm.jfl {a:Addr} {body:List Stmt} {scope:Scope} {names:List Str} {dflt:List (Str × D)} {ds:List D} (S:Jm B a body scope names dflt)
  (hok:V4 scope = true) (hfree:(scope.names.all fun p=>p.2 != .free) = true) (hst:((names ++ dflt.map (·.1)).all fun x=>Jj scope ((scope.names.filter fun p=>p.2 == .cell).map (·.1)) x) = true)
  (hn:names.length = ds.length)
  (h:∀ A' fm E,A'.handled = Option.none→Cx A' fm scope ((scope.names.filter fun p=>p.2 == .cell).map (·.1)) n→(∀ e s',Rz B fm H X ws e s'→E e s')→PassesOwn B.M A' fm.env E→ExS B A' fm (putAll (names.zip ds ++ dflt) []) H body (fun Z Z=>False) (fun Z Z=>False) E):FnX B (n + 1) (.ref a) [] ds H X ws:=by
 revert S hok hfree hst hn h;revert B n H X ws a body scope names dflt ds;refine no_implicit_lambda% (G11 (h:=?_));refine (?_:A11 _) _ _ _ _ _ _ _ _ _ _ _;intro B n H X ws a body scope names dflt ds S hok hfree hst hn h;refine no_implicit_lambda% (G5 (h:=?_));refine (?_:A5 _) _ _ _ _ _;exact fun A F s stk vs hh r rv=>by
  obtain ⟨o,fd,h1,h2,h3,h4,h5,h6,h7,h8,h9⟩:=S.ex;subst h4;have hl:names.length = vs.length:=by (refine rwb rv.length ?_;exact rwb hn rfl)
  refine el13 (h9 s vs r.gs.base hl.symm) fun us w1 w2 w3=>?_;have hcd:s.heap.CodeRec fd.code fd.qualname:=h8.keeps r.gs.base
  refine wpAny_call (Xe (xs:=names.zip ds ++ dflt) (cap:=[]) r (r.gs.base _ _ h1) h2 h3 hcd h6 h7 w3 hok (by refine rwb h5 ?_;exact Vy.nil hfree) ?_ ?_ (by
   (replace hst:=Eq.symm (Jw names ds hn) ▸ hst;replace hst:=Eq.symm map_append ▸ hst;replace hst:=ts all_map hst);exact hst) fun fm A' e1 e2 C=>?_)
  ·refine rwb map_append (rwb map_append (rwb (Jw _ _ hl) (rwb (Jw _ _ hn) ?_)));exact rwb w1 rfl
  ·refine rwb map_append (rwb map_append (rwb (Yg _ _ hl) (rwb (Yg _ _ hn) ?_)));exact rv.append (w2 F)
  ·refine fun F1 s1 S1=>wpAny_mono (h A' fm _ (by refine rwb e2 ?_;exact hh) C ?_ PassesOwn.leaving F1 s1 S1) (fun fl s2 x2=>x2.elim (fun Z Z Z Z q Z=>q.elim) fun Z Z Z Z Z Z q Z Z=>q.elim) fun Z Z x=>x;intro e s2 x;subst e1 e2;exact x.leave r.gs (by show A.frames.map _ = _;refine rwb r.frames ?_;rfl)
end
section
variable {B:Base} {A:Around} {fm:Fm} {sc:Scope} {cn:List Str} {ρ:Loc} {E:Value→Shared→Prop} {F:Fz} {H:Led} {n:Nat} {P:D→Led→Prop} {N:Loc→Led→Prop} {R:D→Led→Prop}
theorem N9 (X:XB B) {a:Int}:FnX B 2 (.ref 73) [] [.int a,.int 0] H "ZeroDivisionError" []:=by
 refine (Yq X).fnX (by rfl) (by rfl) (by rfl) rfl fun A' fm hh C=>?_;refine Ss.cons (S1.xh (EvB.zq (Lf.loc C (by rfl)) Lf.int (Op2.jaz ⟨_,rfl,?_⟩)));rw [if_pos (by simp)];refine Ss.cons (S1.jdb PySem.F.excCall_ZeroDivisionError excClass_ZeroDivisionError hh (by rw [isSubtype_type];kernel_rfl) (EvE.gu C (by rfl) (mgN X (by rfl)) PyProof.Rows.Boot.«ZeroDivisionError» (by decide) ⟨rfl,rfl⟩) fun p hp=>hp)
end
open PySem.Builtin.Re
theorem Xj:Slot "re.Pattern" "search" "re.Pattern.search" :=
 .of (owner:="re.Pattern") (n:="search") (by rw [typeLookup_type,builtinLookup_eq_fast];kernel_rfl) (by decide +kernel) (by decide +kernel) (by decide +kernel)
  (by first | exact .inl (by decide +kernel) | exact .inr (by decide +kernel)) (by rw [isSubtype_type];kernel_rfl)
theorem Ia:entryFor table "re.Pattern.search" = some Builtin.«re.Pattern.search»:=entryFor_of_tree (by kernel_rfl)
theorem I2:typeOf (.builtin "re.Pattern.search") = pure (.type "method_descriptor"):=by show builtinType _ = _;rw [builtinType_eq_fast];kernel_rfl
theorem La:PlainAttrs "re.Pattern" :=
 ⟨⟨"object.__getattribute__",by rw [typeLookup_type,builtinLookup_eq_fast];kernel_rfl,by decide +kernel⟩,by rw [typeLookup_type,builtinLookup_eq_fast];kernel_rfl⟩
theorem I7 (a b:Value):argsOk "re.Pattern.search" ⟨[a,b],[]⟩:=by unfold argsOk;kernel_rfl
theorem Jco (id f:String) (v:Value):reNamed id f ["string", "pos", "endpos"] 1 [v] [] = pure [some v,none,none]:=by rfl
noncomputable def codeN:Array Nat:=#[14,10,4,1,1,22,0,31,16,127,0,13,7,22,0,31,16,127,0,1]
noncomputable def V1:Array Nat:=#[14,14,4,1,1,9,4294966783,0,0,2147483648,0,0,0,0,0,13,11,9,4294966783,0,0,2147483648,0,0,0,0,0,1]
theorem Jbk {c:Nat} (h1:32 ≤ c) (h2:c < 127) (sn:Sre.Seen):∃ sn',Sre.inSet codeN c codeN.size 5 true sn = .ok (false,sn'):=
 have e1:¬ (decide (0 ≤ c) && decide (c ≤ 31)) = true:=fun e=>Nat.not_succ_le_self _ (le_trans h1 (of_decide_eq_true (Bool.and_eq_true_iff.mp e).2));have e2:¬ (c == 127) = true:=fun e=>ne_of_lt h2 (eq_of_beq e)
 ⟨_,(if_neg e1:(if (decide (0 ≤ c) && decide (c ≤ 31)) = true then _ else Sre.inSet codeN c 19 8 true _) = _).trans
  ((if_neg e2:(if (c == 127) = true then _ else Sre.inSet codeN c 18 10 true _) = _).trans rfl)⟩
theorem Jc0 {c:Nat} (h1:32 ≤ c) (h2:c < 127):(decide (c < 256) && (V1.getD (5 + (1 + c / 32)) 0).testBit (c % 32)) = false:=by
 have:∀ c:Fin 127,32 ≤ c.val→(decide (c.val < 256) && (V1.getD (5 + (1 + c.val / 32)) 0).testBit (c.val % 32)) = false:=by decide +kernel
 exact this ⟨c,h2⟩ h1
theorem Jbj {c:Nat} (h1:32 ≤ c) (h2:c < 127) (sn:Sre.Seen):∃ sn',Sre.inSet V1 c V1.size 5 true sn = .ok (false,sn'):=
 ⟨_,(if_neg (Bool.eq_false_iff.mp (Jc0 h1 h2)):(if (decide (c < 256) && (V1.getD (5 + (1 + c / 32)) 0).testBit (c % 32)) = true then _ else Sre.inSet V1 c 27 14 true _) = _).trans rfl⟩
theorem Mp {m:Sre.M} (h:∀ k sn,k < m.lim→∃ sn',Sre.inSet m.code (m.text.getD k 0) m.code.size 5 true sn = .ok (false,sn')) (fuel:Nat):∀ s sn,∃ sn',Sre.M.admitted m fuel s sn = .ok (none,sn'):=
 fuel.rec (fun s sn=>⟨sn,rfl⟩) fun f ih s sn=>(Nat.lt_or_ge s m.lim).elim (fun hs=>(h s sn hs).elim fun sn' e=>(ih (s + 1) sn').elim fun sn2 e2=>⟨sn2,(if_neg (Nat.not_le.mpr hs)).trans (rwb (m:=fun x=>(match x with | .ok (true,seen)=>.ok (some s,seen) | .ok (false,seen)=>Sre.M.admitted m f (s + 1) seen | .error why=>.error why:Except String (Option Nat × Sre.Seen)) = _) e e2)⟩) fun hs=>⟨sn,if_pos hs⟩
theorem Aa {code text:Array Nat} (hc:code = codeN ∨ code = V1) (h:∀ k,k < text.size→32 ≤ text.getD k 0 ∧ text.getD k 0 < 127) :
  ∃ m:Sre.M,Sre.forSearch code text 0 0 text.size false = m ∧ m.answer = some false ∧ m.frames = [] ∧ m.outcome = none:=by
 refine ⟨_,rfl,?_⟩;have main:∀ (code:Array Nat) (m:Sre.M),m.code = code→m.text = text→m.lim = text.size→m.hasFirstSet = true→m.frames = []→m.outcome = none →
   (∀ c sn,32 ≤ c→c < 127→∃ sn',Sre.inSet code c code.size 5 true sn = .ok (false,sn')) →
   (m.attemptFrom 0 true).answer = some false ∧ (m.attemptFrom 0 true).frames = [] ∧ (m.attemptFrom 0 true).outcome = none:=by
  intro code m e1 e2 e3 e4 e5 e6 hs
  obtain ⟨sn',e⟩:=Mp (m:=m) (fun k sn hk=>by
   replace hk:=e3 ▸ hk;have:=h k hk;refine rwb e1 (rwb e2 ?_)
   exact hs _ _ this.1 this.2) (m.lim + 1 - 0) 0 m.seen
  unfold Sre.M.attemptFrom;refine rwb e4 (rwb e ?_);exact ⟨rfl,e5,e6⟩
 have fin:∀ code:Array Nat,(Sre.header code).1 = 1→(Sre.header code).2 ≠ 0→(∀ m:Sre.M,m.code = code→m.hasFirstSet = true)→(∀ c sn,32 ≤ c→c < 127→∃ sn',Sre.inSet code c code.size 5 true sn = .ok (false,sn')) →
   (Sre.forSearch code text 0 0 text.size false).answer = some false ∧ (Sre.forSearch code text 0 0 text.size false).frames = [] ∧ (Sre.forSearch code text 0 0 text.size false).outcome = none:=by
  intro code h1 h2 h3 h4;unfold Sre.forSearch;dsimp only;split
  ·exact ⟨rfl,rfl,rfl⟩
  ·exact main code _ rfl rfl rfl (h3 _ rfl) rfl rfl h4
 rcases hc with rfl | rfl
 ·exact fin codeN rfl (by decide) (fun m e=>by unfold Sre.M.hasFirstSet;refine rwb e ?_;rfl) fun c sn h1 h2=>Jbk h1 h2 sn
 ·exact fin V1 rfl (by decide) (fun m e=>by unfold Sre.M.hasFirstSet;refine rwb e ?_;rfl) fun c sn h1 h2=>Jbj h1 h2 sn
theorem Ac {m:Sre.M} (h1:m.answer = some false) (h2:m.frames = []) (h3:m.outcome = none):(m.runFor 4).outcome = some .failed:=by
 have e:m.step = { m with outcome:=some .failed }:=by
  unfold Sre.M.step;refine rwb h3 ?_;simp only [Option.isSome_none,Bool.false_eq_true,if_false];refine rwb h1 (rwb h2 ?_);rfl
 have e':(m.runFor 4) = m.step.runFor 3:=(if_neg (by rw [h3];decide):(if m.outcome.isSome = true then m else m.step.runFor 3) = _);rw [e',e];rfl
section
variable {prog:Program} {w:World} {A:Around} {E:Value→Shared→Prop} {s:Shared}
theorem Sh {m:Sre.M} {Q:Sre.M→Shared→Prop} (h:(m.runFor 4).outcome.isSome = true) (q:Q (m.runFor 4) s) (k:Nat):wpAny (model prog w) A (reDrive (k + 1) m) Q E s:=by
 show wpAny _ _ (if (m.runFor 4).outcome.isSome = true then pure (m.runFor 4) else _) _ _ _;rw [if_pos h];exact wpAny_pure q
theorem Ad {α:Type} {cs:α→Bool} {f:α→String} {Q:PUnit→Shared→Prop}:∀ l:List α,Q ⟨⟩ s→wpAny (model prog w) A (forIn l PUnit.unit fun i Z=>do
   if cs i = true then do rule (f i);pure (ForInStep.yield PUnit.unit) else pure (ForInStep.yield PUnit.unit)) Q E s:=by
 intro zs
 induction zs with
 | nil=>
  intro h;exact wpAny_pure h
 | cons a l IH=>
  intro h;rw [forIn_cons];refine wpAny_bind ?_;cases cs a
  ·refine rwb (if_neg (by decide)) ?_;exact wpAny_pure (IH h)
  ·refine rwb (if_pos rfl) ?_;exact wpAny_bind (wpAny_rule (wpAny_pure (IH h)))
theorem B2 {m:Sre.M} {o:Sre.Outcome} {Q:Option Sre.M→Shared→Prop} (h:(m.runFor 4).outcome = some o) (q1:o = .failed→Q none s) (q2:o = .matched→Q (some (m.runFor 4)) s) (ho:∀ w,o ≠ .stuck w):wpAny (model prog w) A (reRunToEnd m) Q E s:=by
 unfold reRunToEnd;refine wpAny_bind (Sh (k:=2 ^ 64 - 1) (by refine rwb h ?_;rfl) ?_);generalize m.runFor 4 = m' at *;refine wpAny_bind (Ad (List.range Sre.names.size) ?_);refine rwb h ?_;cases o with
 | matched=>exact wpAny_pure (q2 rfl)
 | failed=>exact wpAny_pure (q1 rfl)
 | stuck w=>exact absurd rfl (ho w)
inductive X5 (h:Heap) (a:Addr) (code:Array Nat):Prop
 | mk (o:Obj) (fs:Array Value) (ct:Addr) (oc:Obj) (items:Array Value) (k:Nat) (a1:h.get? a = some o) (a2:o.cls = .type "re.Pattern") (a3:o.dict = none) (a4:o.data = .fields fs) (a5:fs.getD 2 .none = .int 0 0)
   (a6:fs.getD 5 .none = .ref ct) (a7:fs.getD 6 .none = .int 0 0) (a8:h.get? ct = some oc) (a9:oc.data = .seq items k) (a10:(items.map reRawOf).map (·.toNat) = code)
theorem X5.keeps {h h':Heap} {a:Addr} {code:Array Nat} (x:X5 h a code) (k:∀ b o,h.get? b = some o→h'.get? b = some o):X5 h' a code:=
 let ⟨o,fs,ct,oc,items,n,a1,a2,a3,a4,a5,a6,a7,a8,a9,r⟩:=x;⟨o,fs,ct,oc,items,n,k _ _ a1,a2,a3,a4,a5,a6,a7,k _ _ a8,a9,r⟩
theorem It {a:Addr} {code:Array Nat} {x:Str} {t:Tok} {o:Sre.Outcome} {Q:Value→Shared→Prop} (hp:X5 s.heap a code) (h:((Sre.forSearch code x.cps 0 0 x.cps.size false).runFor 4).outcome = some o) (ho:∀ w,o ≠ .stuck w) (hz:(x.cps.size:Int) ≤ 2 ^ 63 - 1)
  (q1:o = .failed→Q .none s) (q2:o = .matched→∀ ob om,ob.cls = .type "tuple"→om.cls = .type "re.Match"→(∃ v k,ob.data = .seq v k)→(∃ v,om.data = .fields v)→Q (.ref (s.heap.objs.size + 1)) { s with heap:=(s.heap.push ob).push om }) :
  wpAny (model prog w) A (call (.builtin "re.Pattern.search") [.ref a,.str x t]) Q E s:=by
 revert hp h ho hz q1 q2;revert prog w A E s a code x t o Q;refine no_implicit_lambda% (G11 (h:=?_));refine (?_:A11 _) _ _ _ _ _ _ _ _ _ _ _;intro prog w A E s a code x t o Q hp h ho hz q1 q2;obtain ⟨ob,fs,ct,oc,items,n,a1,a2,a3,a4,a5,a6,a7,a8,a9,a10⟩:=hp;refine wpAny_call_entry Xj ⟨_,a1,a2⟩ Ia ?_ (I7 _ _);unfold Builtin.«re.Pattern.search»;refine wpAny_bind ?_;unfold reTarget;dsimp only;rw [Jco];refine wpAny_bind (wpAny_pure ?_);dsimp only;refine wpAny_bind (wpAny_pure ?_);refine wpAny_bind (wpAny_pure ?_);refine wpAny_bind (wpAny_fieldsOf a1 a4 ?_);refine wpAny_bind (m:=reTextOf (.str x t)) (wpAny_bind (wpAny_pure (wpAny_pure ?_)));dsimp only;refine rwb a5 (rwb a6 (rwb a7 (rwb (if_neg (by decide)) (rwb (if_neg (by decide)) ?_))));refine wpAny_bind (m:=reNoCollectionInside (.str x t) 0) (wpAny_pure ?_);refine wpAny_bind (m:=reRawItems (.ref ct)) ?_;unfold reRawItems;refine wpAny_bind (wpAny_seqItems a8 a9 (wpAny_pure (wpAny_pure ?_)));have el:min ((2:Int) ^ 63 - 1).toNat x.cps.size = x.cps.size:=Nat.min_eq_right (by lia);have ec:Array.map (fun x=>x.toNat) (Array.map reRawOf ((some items).getD #[])) = code:=a10;unfold reAnswer;dsimp only;refine rwb el (rwb ec ?_);refine wpAny_bind (B2 h (fun e=>?_) (fun e=>?_) ho)
 ·exact wpAny_pure ⟨_,rfl,q1 e⟩
 ·dsimp only;refine wpAny_bind (m:=reNewMatch (.ref a) (.str x t) _ _ _ _) ?_;unfold reNewMatch;dsimp only;refine rwb (if_neg (by show ¬ ((List.range 0).any _) = true;simp)) ?_;refine wpAny_bind (wpAny_newTuple ?_ (by show (2:Nat) ≤ sizeLine;decide));unfold newFields;refine wpAny_newObj_type ?_ (by show (6:Nat) ≤ _;decide);refine wpAny_pure ⟨_,rfl,?_⟩;rw [Heap.size_push];refine q2 e _ _ ?_ ?_ ?_ ?_
  ·rfl
  ·rfl
  ·exact ⟨_,_,rfl⟩
  ·exact ⟨_,rfl⟩
theorem Rv {a:Addr} {Q:Bool→Shared→Prop} (hT:s.TypeIs (.ref a) "re.Match") (h:Q true s):wpAny (model prog w) A (truthy (.ref a)) Q E s:=by
 unfold truthy;dsimp only;refine wpAny_bind (wpAny_callSpecial?_none hT (by (rewrite [typeLookup_type];refine rwb builtinLookup_eq_fast ?_);kernel_rfl) ?_);dsimp only;refine wpAny_bind (wpAny_specialOf hT (r:=none) (by (rewrite [typeLookup_type];refine rwb builtinLookup_eq_fast ?_);kernel_rfl) ?_);exact wpAny_pure h
end
section
variable {B:Base} {A:Around} {fm:Fm} {sc:Scope} {cn:List Str} {n:Nat} {ρ:Loc} {F:Fz} {H H0:Led} {E E':Value→Shared→Prop} {P P':D→Led→Prop} {PB:Bool→Led→Prop} {N N':Loc→Led→Prop} {R:D→Led→Prop} {X:String} {ws:List D}
theorem Ji.pat {a:Addr} {code:Array Nat} (hp:X5 B.h a code):Ji B H (.val (.ref a)) "search" (.builtin "re.Pattern.search"):=fun A F s v pl Q E g r h=>by
 revert h;refine r.tn fun h=>?_;obtain ⟨o,fs,ct,oc,items,k,a1,a2,a3,_⟩:=hp.keeps g.base;exact getMethod_builtin ⟨_,a1,a2⟩ La Xj I2 (fun b q=>by cases q;exact ⟨_,a1,a3⟩) h
noncomputable def found (code:Array Nat) (x:Str):Option Sre.Outcome:=((Sre.forSearch code x.cps 0 0 x.cps.size false).runFor 4).outcome
theorem Hc {code:Array Nat} {x:Str} (hc:code = codeN ∨ code = V1) (h:∀ k,k < x.cps.size→32 ≤ x.cps.getD k 0 ∧ x.cps.getD k 0 < 127):found code x = some .failed:=by
 obtain ⟨m,e,h1,h2,h3⟩:=Aa hc h;unfold found;rw [e];exact Ac h1 h2 h3
theorem Cl.jb1 {a:Addr} {code:Array Nat} {x:Str} (hp:X5 B.h a code) (hf:found code x = some .failed) (hz:(x.cps.size:Int) ≤ 2 ^ 63 - 1) (h:P .none H):Jp B A fm ρ H (.builtin "re.Pattern.search") [.val (.ref a),.str x] P E:=fun F s vs S rv=>by
 refine Ru rv fun v u r1 r2=>?_;refine r1.tn ?_;refine r2.zt fun t Z=>?_;exact It (hp.keeps S.base) hf (fun w e=>nomatch e) hz (fun Z=>here h (Fz.le.refl F) .none S) fun e=>nomatch e
theorem Cl.jb0 {a:Addr} {code:Array Nat} {x:Str} (hp:X5 B.h a code) (hf:found code x = some .matched) (hz:(x.cps.size:Int) ≤ 2 ^ 63 - 1) (h:∀ b o,o.cls = .type "re.Match"→P (.fro b o) H):Jp B A fm ρ H (.builtin "re.Pattern.search") [.val (.ref a),.str x] P E:=fun F s vs S rv=>by
 refine Ru rv fun v u r1 r2=>?_;refine r1.tn ?_;refine r2.zt fun t Z=>?_;refine It (hp.keeps S.base) hf (fun w e=>nomatch e) hz (fun e=>nomatch e) fun Z ob om c1 c2 y zqq=>el11 zqq fun v2 d2=>el21 y fun v1 k1 d1=>?_;have S1:=S.keeps (tk:=s.toks) (h':=s.heap.push ob) fun b o e=>Heap.get?_push_of_some _ e;have fr:(s.heap.push ob).get? (s.heap.objs.size + 1) = Option.none:=by
  have:=Je (s.heap.push ob);rw [Heap.size_push] at this;exact this
 obtain ⟨S2,le⟩:=St.freeze (tk:=s.toks) (a:=s.heap.objs.size + 1) (o:=om) (h':=(s.heap.push ob).push om) S1 (fun b o e=>Heap.get?_push_of_some _ e) fr (by
  have:=Heap.get?_push_size (s.heap.push ob) (o:=om) (Obj.isFreed_of_fields d2)
  rw [Heap.size_push] at this;exact this)
 exact here (h _ _ c2) le (.fro (Fz.put_self ..)) S2
theorem Tru.match {b:Addr} {o:Obj} (hc:o.cls = .type "re.Match"):Tru B A fm ρ H (.fro b o) true:=fun F s v E Q S r h=>by
 exact r.tr fun e=>Rv ⟨_,S.froz _ _ e,hc⟩ (h _ S)
inductive Jdw (B:Base) (A:Around) (fm:Fm) (ρ:Loc) (pos:Pos) (name:Str) (args:List Expr) (kn:Str) (b:Bool) (P:D→Led→Prop) (E:Value→Shared→Prop) (d:D) (H:Led):Prop
 | mk (f:Value) (m:Ji B H d name f) (k:Kp B (.val f) f) (h:EvL B A fm ρ H pos args (fun ds H2=>OpN B A fm ρ H2 (fun vs=>PySem.call f vs [(kn,.bool b)]) (d :: ds) P E) E)
theorem EvE.xk {o:Expr} {name kn:Str} {apos pos kp cp:Pos} {ck:Nat} {b:Bool} {a0:Expr} {args:List Expr} (h:EvE B A fm ρ H o (Jdw B A fm ρ pos name (a0 :: args) kn b P E) E)
  {pl:Env→Sem Bool} (he:autoParam (∀ env,eval (.Call (.Attribute o name apos) (a0 :: args) [⟨some kn,.Constant (.bool b) ck cp,kp⟩] pos) env = (do
   let ov ← eval o env
   standAt apos.atName
   let (f,first) ← holding [ov] (getMethod ov name (pl env))
   callWith pos f first (backTo pos (starEach (a0 :: args) env)) (backToKw pos (keywordEach [⟨some kn,.Constant (.bool b) ck cp,kp⟩] env)))) aI)
  (hs:autoParam (∀ env,((backTo pos (starEach (a0 :: args) env)).any (·.1) || (backToKw pos (keywordEach [⟨some kn,.Constant (.bool b) ck cp,kp⟩] env)).any (·.1.isNone)) = false) aI)
  (ha:autoParam (∀ env,starEach (a0 :: args) env = (false,eval a0 env) :: starEach args env) aI):EvE B A fm ρ H (.Call (.Attribute o name apos) (a0 :: args) [⟨some kn,.Constant (.bool b) ck cp,kp⟩] pos) P E:=by
 revert h he hs ha;revert B A fm ρ H E P o name kn apos pos kp cp ck b a0 args pl;refine no_implicit_lambda% (G19 (h:=?_));refine (?_:A19 _) _ _ _ _ _ _ _ _ _ _ _ _ _ _ _ _ _ _ _;intro B A fm ρ H E P o name kn apos pos kp cp ck b a0 args pl h he hs ha;exact fun F s S=>by
  show wpAny B.M A (eval (.Call (.Attribute o name apos) (a0 :: args) [⟨some kn,.Constant (.bool b) ck cp,kp⟩] pos) fm.env) _ _ _;rw [he];refine wpAny_bind (wpAny_mono (h F s S) (fun v s1 zz=>zz.elim fun F1 d H1 z l r S1=>z.rec fun f m k hL=>?_) fun Z Z x=>x);refine wpAny_bind (wpAny_standAt (wpAny_bind (wpAny_holding (m _ F1 s1 v _ _ _ S1.toGS r ?_))));refine callWith_of (P:=fun h=>∃ k,(k = Keeper.frame ∨ k = Keeper.machine ∨ k = Keeper.boundFrame) ∧ Looks B.M h (keeperOf f) k) (hs _) (fun h x=>x) ?_;refine evalArgs_kw2 rfl (wpAny_mono (hL F1 s1 S1) (fun vs s2 zz=>zz.elim fun F2 ds H2 op l2 r2 S2=>?_) fun Z Z x=>x) (ha _);refine kwAll_cons (wpAny_mono (EvE.bool (P:=fun d H=>d = .bool b ∧ H = H2) (k:=ck) (pos:=cp) ⟨rfl,rfl⟩ F2 s2 S2) (fun kv s3 zz=>zz.elim fun F3 dk H3 zqq l3 r3 S3=>Yd zqq fun e1 e2=>?_) fun Z Z x=>x);subst e1 e2;refine r3.Pp ?_;refine kwAll_nil ?_;refine ⟨k.2 s3.heap S3.base,?_⟩;exact wpAny_mono (op F3 s3 (v :: vs) S3 ((Jc.cons (r.mono l2) r2).mono l3)) (fun Z Z y=>y.le (l.trans (l2.trans l3))) fun Z Z x=>x
end
section
variable {B:Base} {A:Around} {fm:Fm} {sc:Scope} {cn:List Str} {n:Nat} {ρ:Loc} {F:Fz} {H H0:Led} {E E':Value→Shared→Prop} {P P':D→Led→Prop} {PB:Bool→Led→Prop} {N N':Loc→Led→Prop} {R:D→Led→Prop} {X:String} {ws:List D}
theorem Z8 {α:Type} {x:α}:∀ {l:List α},x ∈ l→∃ r,l.Perm (x :: r):=fun {l} h=>by
 obtain ⟨s,t,rfl⟩:=List.append_of_mem h;exact ⟨s ++ t,List.perm_middle⟩
noncomputable abbrev I6 (scope:Scope):List Str:=(scope.names.filter fun p=>p.2 == .cell).map (·.1)
noncomputable def Iv (B:Base) (A:Around) (sc:Scope) (n:Nat) (scope:Scope) (ρ:Loc) (H2:Led) (target:Expr) (d:D) (K:(Fm→Led→Loc→Prop)):Prop:=
 ∀ D' fm' out,Cx A fm' (Jx sc scope) (I6 scope) n→Asg B A fm' (capt scope ρ) ((D',out) :: H2) target d (fun ρ1 H3=>H3 = (D',out) :: H2 ∧ (∀ x e,(capt scope ρ).lookup x = some e→ρ1.lookup x = some e) ∧
  ∀ fm'' out',Cx A fm'' (Jx sc scope) (I6 scope) n→K fm'' ((D',out') :: H2) ρ1) NoE
theorem V8 {α β:Type} (f:α→β):∀ l:List α,(l.flatMap fun d=>[f d]) = l.map f
 | []=>rfl
 | a :: l=>by rw [flatMap_cons,V8 f l];rfl
theorem Ck {α β:Type} (t:α→Bool) (f:α→β):∀ l:List α,(l.flatMap fun d=>if t d then [f d] else []).length ≤ l.length
 | []=>le_refl _
 | a :: l=>by (refine rwb flatMap_cons (rwb length_append (rwb length_cons ?_)));have:=Ck t f l;cases t a;(show 0 + _ ≤ _;lia);(show 1 + _ ≤ _;lia)
theorem X1 {α β:Type} (t:α→Bool) (f:α→β):∀ l:List α,(l.flatMap fun d=>if t d then [f d] else []) = (l.filter t).map f:=by
 intro zs
 induction zs with
 | nil=>
  exact rfl
 | cons a l IH=>
  rw [flatMap_cons,IH,filter_cons];cases t a <;> simp
theorem N6 {elt target iter:Expr} {scope:Scope} {pos:Pos} {H1 H2 ext:Led} {ds:List D} {f:D→D} (hp:H1.Perm (ext ++ H2)) (hz:ds.length ≤ 2 ^ 20)
  (turn:∀ d ∈ ds,Iv B A sc n scope ρ H2 target d fun fm H ρ1=>EvE B A fm ρ1 H elt (Is (f d) H) NoE) :
  Gives B A sc n ρ H1 H2 ext elt ⟨target,iter,[],0⟩ [] scope pos ds (fun d=>[f d]):=by
 refine ⟨hp,by rw [V8,length_map];exact hz,fun env' D' d hd fm' out he C F s v S r=>?_⟩;refine wpAny_mono (turn d hd D' fm' out C F s v S r) (fun Z s1 zz=>zz.elim fun F1 ρ1 H3 y l S1=>V5 y fun e1 e2 e3=>⟨F1,ρ1,H3,⟨e1,e2,?_⟩,l,S1⟩) fun Z Z x=>x;exact Y5.leaf fun fm2 out2 Z C2=>e3 fm2 out2 C2
theorem Ez {elt target iter c:Expr} {scope:Scope} {pos:Pos} {H1 H2 ext:Led} {ds:List D} {t:D→Bool} {f:D→D} (hp:H1.Perm (ext ++ H2)) (hz:ds.length ≤ 2 ^ 20)
  (turn:∀ d ∈ ds,Iv B A sc n scope ρ H2 target d fun fm H ρ1=>EvB B A fm ρ1 H c (fun b H4=>H4 = H ∧ b = t d) NoE ∧ (t d = true→EvE B A fm ρ1 H elt (Is (f d) H) NoE)) :
  Gives B A sc n ρ H1 H2 ext elt ⟨target,iter,[c],0⟩ [] scope pos ds (fun d=>if t d then [f d] else []):=by
 refine ⟨hp,le_trans (Ck t f ds) hz,fun env' D' d hd fm' out he C F s v S r=>?_⟩;refine wpAny_mono (turn d hd D' fm' out C F s v S r) (fun Z s1 zz=>zz.elim fun F1 ρ1 H3 y l S1=>V5 y fun e1 e2 e3=>⟨F1,ρ1,H3,⟨e1,e2,?_⟩,l,S1⟩) fun Z Z x=>x;refine fun fm2 out2 he2 C2=>(e3 fm2 out2 C2).1.mono fun b H4 zqq=>Yd zqq fun q1 q2=>⟨q1,?_⟩;subst q2;cases q:t d
 ·refine rwb (if_neg (by decide)) ?_;exact if_neg (by decide)
 ·refine rwb (if_pos rfl) (rwb (if_pos rfl) ?_);exact Y5.leaf fun fm3 out3 Z C3=>(e3 fm3 out3 C3).2 q
inductive C1X (B:Base) (A:Around) (fm:Fm) (sc:Scope) (n:Nat) (ρ:Loc) (elt target:Expr) (scope:Scope) (P:D→Led→Prop) (d:D) (H:Led):Prop
 | mk (ds:List D) (f:D→D) (ext H2:Led) (it:Jn B A fm ρ H d ds true ext H2) (hp:H.Perm (ext ++ H2)) (hz:ds.length ≤ 2 ^ 20)
   (turn:∀ d ∈ ds,Iv B A sc n scope ρ H2 target d fun fm H ρ1=>EvE B A fm ρ1 H elt (Is (f d) H) NoE) (q:P (.lst (ds.map f)) H)
inductive Je1 (B:Base) (A:Around) (fm:Fm) (sc:Scope) (n:Nat) (ρ:Loc) (elt target c:Expr) (scope:Scope) (P:D→Led→Prop) (d:D) (H:Led):Prop
 | mk (ds:List D) (t:D→Bool) (f:D→D) (ext H2:Led) (it:Jn B A fm ρ H d ds true ext H2) (hp:H.Perm (ext ++ H2)) (hz:ds.length ≤ 2 ^ 20)
   (turn:∀ d ∈ ds,Iv B A sc n scope ρ H2 target d fun fm H ρ1=>EvB B A fm ρ1 H c (fun b H4=>H4 = H ∧ b = t d) NoE ∧ (t d = true→EvE B A fm ρ1 H elt (Is (f d) H) NoE)) (q:P (.lst ((ds.filter t).map f)) H)
theorem EvE.Po {elt target iter:Expr} {scope:Scope} {pos:Pos} (C:Cx A fm sc cn n) (hok:Zs sc scope = true)
  (h:EvE B A fm ρ H iter (C1X B A fm sc n ρ elt target scope P) E) (hs:autoParam (∀ env x,foldedSetIterable iter env x = pure x) aI):EvE B A fm ρ H (.ListComp elt [⟨target,iter,[],0⟩] scope pos) P E:=
 EvE.comp C hok (fun g hg=>by exact rwb (lS hg) rfl) (Nat.zero_le _) (h.mono fun d H1 y=>y.rec fun ds f ext H2 it hp hz turn q=>⟨ds,_,ext,H2,it,N6 hp hz turn,by rw [V8];exact q⟩) hs
theorem EvE.sz {elt target iter c:Expr} {scope:Scope} {pos:Pos} (C:Cx A fm sc cn n) (hok:Zs sc scope = true)
  (h:EvE B A fm ρ H iter (Je1 B A fm sc n ρ elt target c scope P) E) (hs:autoParam (∀ env x,foldedSetIterable iter env x = pure x) aI):EvE B A fm ρ H (.ListComp elt [⟨target,iter,[c],0⟩] scope pos) P E:=
 EvE.comp C hok (fun g hg=>by exact rwb (lS hg) rfl) (le_refl _) (h.mono fun d H1 y=>y.rec fun ds t f ext H2 it hp hz turn q=>⟨ds,_,ext,H2,it,Ez hp hz turn,by rw [X1];exact q⟩) hs
end
theorem O7 {α:Type} (xs:List α) (a:Nat):∀ k:Nat,((List.range k).map (a + ·)).filterMap (fun i=>xs[i]?) = (xs.drop a).take k:=by
 intro zs
 induction zs with
 | zero=>
  simp
 | succ k IH=>
  simp only [range_succ,map_append,List.filterMap_append,IH,take_add_one,List.getElem?_drop]
  congr 1
theorem Vs {α:Type} (xs:List α) (lo hi:Option Int):pick xs lo hi none = (xs.drop (lo.elim 0 (clipAt xs.length))).take (hi.elim xs.length (clipAt xs.length) - lo.elim 0 (clipAt xs.length)):=by
 unfold pick;rw [sliceBounds_plain];dsimp only;simp only [sliceRange_one,O7]
theorem B5 {α:Type} (xs:List α):pick xs none none none = xs:=by
 rw [Vs];simp
theorem U0 (n a:Nat):clipAt n (a:Int) = min a n:=by
 unfold clipAt;rw [if_neg (Int.not_lt.mpr (Int.natCast_nonneg a))];exact Mx a n
theorem Jbu (n:Nat):clipAt n (-1) = n - 1:=by
 cases n with
 | zero=>rfl
 | succ n=>
  unfold clipAt;rw [if_pos (by decide),Fg,Mx];exact Nat.min_eq_left (le_succ n)
theorem pick_from {α:Type} (xs:List α) (a:Nat):pick xs (some (a:Int)) none none = xs.drop a:=by
 rw [Vs];have e:clipAt xs.length (a:Int) = min a xs.length:=U0 _ _;simp only [Option.elim,e];rw [take_of_length_le (by rw [length_drop];omega)]
 rcases Nat.le_total a xs.length with h | h
 ·rw [Nat.min_eq_left h]
 ·rw [Nat.min_eq_right h,List.drop_eq_nil_of_le h,List.drop_eq_nil_of_le (le_refl _)]
theorem M5 {α:Type} (xs:List α) (b:Nat):pick xs none (some (b:Int)) none = xs.take b:=by
 rw [Vs];have e:clipAt xs.length (b:Int) = min b xs.length:=U0 _ _;simp only [Option.elim,e,drop_zero,Nat.sub_zero]
 rcases Nat.le_total b xs.length with h | h
 ·exact rwb (Nat.min_eq_left h) rfl
 ·refine rwb (Nat.min_eq_right h) (rwb (take_of_length_le h) ?_);exact rwb (take_of_length_le (le_refl _)) rfl
theorem R6 {α:Type} (xs:List α):pick xs none (some (-1)) none = xs.take (xs.length - 1):=by
 rw [Vs];have e:clipAt xs.length (-1) = xs.length - 1:=Jbu _;simp only [Option.elim,e,drop_zero,Nat.sub_zero]
theorem Dx {α:Type} (xs:List α) (a b:Nat) (hb:b ≤ xs.length) (ha:a ≤ b):pick xs (some (a:Int)) (some (b:Int)) none = (xs.drop a).take (b - a):=by
 rw [Vs];have e1:clipAt xs.length (a:Int) = a:=(U0 _ _).trans (Nat.min_eq_left (le_trans ha hb));have e2:clipAt xs.length (b:Int) = b:=(U0 _ _).trans (Nat.min_eq_left hb);simp only [Option.elim,e1,e2]
theorem B3 {α:Type} (xs:List α):((List.range xs.length).map fun k=>xs.length - 1 - k).filterMap (fun i=>xs[i]?) = xs.reverse:=by
 refine List.ext_getElem? fun i=>?_;refine rwb List.filterMap_map ?_;have key:∀ k,k ≤ xs.length→(List.range k).filterMap ((fun i=>xs[i]?) ∘ fun k=>xs.length - 1 - k) = xs.reverse.take k:=by
  intro k
  induction k with
  | zero=>intro Z;simp
  | succ k ih=>
   intro hk;refine rwb range_succ (rwb List.filterMap_append (rwb (ih (by omega)) (rwb take_add_one (rwb (List.getElem?_reverse (by omega)) ?_))))
   congr 1
 refine rwb (key _ (le_refl _)) ?_;exact rwb (take_of_length_le (by simp)) rfl
theorem B4 {α:Type} (xs:List α):pick xs none none (some (-1)) = xs.reverse:=by
 unfold pick;show ((sliceRange ((xs.length:Int) - 1) (-1) (-1))).filterMap _ = _;simp only [W.krv_sliceRange,B3]
theorem Lb (x:Str) (lo hi:Option Int):Xy x lo hi = ⟨(pick x.cps.toList lo hi none).toArray⟩:=by
 have e:Builtin.Str.strSliceIndices lo hi 1 x.length = (List.range (hi.elim x.length (clipAt x.length) - lo.elim 0 (clipAt x.length))).map (lo.elim 0 (clipAt x.length) + ·):=by
  have:=sliceBounds_plain lo hi x.length;rw [← sliceRange_one];have h1:(sliceBounds lo hi none x.length).1 = ((lo.elim 0 (clipAt x.length):Nat):Int):=by exact rwb this rfl
  have h2:(sliceBounds lo hi none x.length).2.1 = ((hi.elim x.length (clipAt x.length):Nat):Int):=by exact rwb this rfl
  simp only [← h1,← h2];cases lo <;> cases hi <;> rfl
 have hl:x.cps.toList.length = x.length:=Array.length_toList;unfold Xy;refine rwb e ?_;rewrite [Vs];refine rwb hl ?_;have hf:((List.range (hi.elim x.length (clipAt x.length) - lo.elim 0 (clipAt x.length))).map (lo.elim 0 (clipAt x.length) + ·)).filterMap (fun i=>x.cps[i]?) = (x.cps.toList.drop (lo.elim 0 (clipAt x.length))).take (hi.elim x.length (clipAt x.length) - lo.elim 0 (clipAt x.length)):=by
  rw [← O7]
  congr 1
  funext i
  exact (Array.getElem?_toList).symm
 refine rwb hf ?_;split
 ·rename_i q;rewrite [length_map] at q;replace q:=length_range ▸ q;have q:=eq_of_beq q;have hc:∀ i:Int,clipAt x.length i ≤ x.length:=fun i=>by unfold clipAt;omega
  have h2:hi.elim x.length (clipAt x.length) ≤ x.length:=by cases hi with | none=>exact le_refl _ | some i=>exact hc i
  rcases Nat.eq_zero_or_pos x.length with z | z
  ·have:x.cps.toList = []:=List.length_eq_zero_iff.mp (by refine rwb hl ?_;exact z);refine rwb this ?_;simp;have:x.cps = #[]:=Array.toList_inj.mp this;cases x;simp_all
  ·have ha:lo.elim 0 (clipAt x.length) = 0:=by omega
   refine rwb ha (rwb drop_zero ?_);exact rwb (take_of_length_le (by omega)) rfl
 ·rfl
noncomputable abbrev Zw:Obj:={ cls:=.type "dict",data:=.dict #[] }
section
variable {B:Base} {A:Around} {fm:Fm} {sc:Scope} {cn:List Str} {n:Nat} {ρ:Loc} {F:Fz} {H H0:Led} {E E':Value→Shared→Prop} {P P':D→Led→Prop} {X:String} {ws:List D}
theorem Jl.frz {s:Shared} {a:Addr} {o:Obj} {h':Heap} {tk:Nat} (g:GS B F H s) (k:∀ b o,s.heap.get? b = some o→h'.get? b = some o) (ha:s.heap.get? a = none) (ho:h'.get? a = some o) (ht:s.toks ≤ tk):Jl B F H s (F.put a o) H { s with heap:=h',toks:=tk }:=by
 refine Yd (GS.freeze (tk:=tk) g k ha ho ht) fun g' le=>?_;refine ⟨le,g',fun b o e Z Z=>.inl (k b o e),Vk.of fun b o e=>⟨o,k b o e⟩,fun b ob e=>?_,fun p hp=>.inl (mem_map_of_mem hp)⟩
 rcases Fz.yp e with e | ⟨rfl,rfl⟩
 ·exact .inl e
 ·exact .inr ha
theorem Rm.post {s s':Shared} {F':Fz} {stk:List Env} (r:Rm B A F H s stk n) (c:Jl B F H s F' H s') (hk:∀ b o,s.heap.get? b = some o→s'.heap.get? b = some o):Rm B A F' H s' stk n:=
 ⟨c.gs,r.ff.upd (fun b o es m e hd Z=>⟨o,es,m,hk b o e,hd⟩) (D3 c.newF),r.hd.le c.le,r.depth,r.units,r.frames⟩
structure C0 (B:Base) (a:Addr) (body:List Stmt) (scope:Scope) (names:List Str) (kn:Str):Prop where
 ex:∃ o fd,B.h.get? a = some o ∧ o.data = .func fd ∧ fd.body = .stmts body ∧ fd.scope = scope ∧ fd.closure = [] ∧ fd.globals = mainGlobals ∧ fd.builtins = builtinsNs ∧ B.h.CodeRec fd.code fd.qualname ∧
  ∀ vs,vs.length = names.length→bindArgs fd ⟨vs,[]⟩ = (alloc Zw >>= fun d=>pure (names.zip vs ++ [(kn,.ref d)]))
theorem C0.call {a:Addr} {body:List Stmt} {scope:Scope} {names:List Str} {kn:Str} {R:Result→Shared→Prop} {s:Shared} {stk:List Env} {ds:List D} {vs:List Value} (S:C0 B a body scope names kn)
  (hok:V4 scope = true) (hfree:(scope.names.all fun p=>p.2 != .free) = true) (hst:((names ++ [kn]).all fun x=>Jj scope ((scope.names.filter fun p=>p.2 == .cell).map (·.1)) x) = true)
  (hn:names.length = ds.length) (r:Rm B A F H s stk (n + 1)) (rv:Jc F vs ds)
  (h:∀ (fd:FuncData) (F':Fz) (s':Shared) (fm:Fm) (A':Around) (p:Addr),(p == sysModules) = false→(∀ b o,s.heap.get? b = some o→s'.heap.get? b = some o)→Jl B F H s F' H s'→Rm B A F' H s' stk (n + 1)→fd.scope = scope→fd.closure = []→fm = Gx fd.scope fd.closure (fd.qualname ++ ".<locals>.") a fd.code F' H s'.heap stk→A' = A.deeper fm.env→A'.handled = A.handled→Cx A' fm scope ((scope.names.filter fun p=>p.2 == .cell).map (·.1)) n →
   ExS B A' fm (putAll (names.zip ds ++ [(kn,.fro p Zw)]) []) H body (fun Z H'=>∀ F'' s'',Jl B F' H s' F'' H' s''→R (.ok (.ret .none)) s'') (fun d H'=>∀ F'' s'' v,Jd F'' v d→Jl B F' H s' F'' H' s''→R (.ok (.ret v)) s'')
    (fun e s'=>wpAny B.M A' (leaving fm.env e) (fun Z s''=>R (.error e) s'') (fun e' s''=>R (.error e') s'') s')):codeAny B.M A (.call (.ref a) ⟨vs,[]⟩) R s:=by
 revert S hok hfree hst hn r rv h;revert B A n F H a body scope names kn R s stk ds vs;refine no_implicit_lambda% (G15 (h:=?_));refine (?_:A15 _) _ _ _ _ _ _ _ _ _ _ _ _ _ _ _;intro B A n F H a body scope names kn R s stk ds vs S hok hfree hst hn r rv h;obtain ⟨o,fd,h1,h2,h3,h4,h5,h6,h7,h8,h9⟩:=S.ex;subst h4;have hl:names.length = vs.length:=by rw [rv.length,hn]
 have hcd:s.heap.CodeRec fd.code fd.qualname:=h8.keeps r.gs.base;have hok':=hok;simp only [V4,Bool.and_eq_true,Bool.not_eq_true'] at hok';refine codeAny_call_function (by have:=r.depth;show A.depth < 1000;lia) (r.gs.base _ _ h1) h2 hok'.2 hok'.1.2 h3 hcd ?_;rw [h9 vs hl.symm];refine wpAny_bind (wpAny_alloc (wpAny_pure ?_));have kp:∀ b o,s.heap.get? b = some o→(s.heap.push Zw).get? b = some o:=fun b o e=>Heap.get?_push_of_some _ e;have c0:Jl B F H s (F.put s.heap.objs.size Zw) H { s with heap:=s.heap.push Zw }:=Jl.frz (tk:=s.toks) r.gs kp (Je _) (Heap.get?_push_size _ rfl) (le_refl _);have r':Rm B A (F.put s.heap.objs.size Zw) H { s with heap:=s.heap.push Zw } stk (n + 1):=r.post c0 kp;have hp1:(s.heap.objs.size == sysModules) = false:=by
  obtain ⟨o3,_,_,e3,_⟩:=r.gs.bk.g;have:=Heap.lt_size (r.gs.base _ _ e3);rw [beq_eq_false_iff_ne];intro q;rw [q] at this;exact absurd this (by decide)
 rw [h6,h7]
 refine Qd (xs:=names.zip ds ++ [(kn,.fro s.heap.objs.size Zw)]) (cap:=[]) r'.gs r'.ff hok (by rw [h5];exact Vy.nil hfree) ?_ ?_ (by
  rw [← Jw names ds hn,show [kn] = ([(kn,D.fro s.heap.objs.size Zw)]:List (Str × D)).map (·.1) from rfl,← map_append,all_map] at hst;exact hst) fun s1 S1=>?_
 ·rw [map_append,map_append,Jw _ _ hl,Jw _ _ hn];rfl
 ·rw [map_append,map_append,Yg _ _ hl,Yg _ _ hn];exact (rv.mono c0.le).append (.cons (.fro (Fz.put_self ..)) .nil)
 refine ⟨S1.bk.lim.keeps S1.base,codeAny_func ?_⟩;have C:Cx (A.deeper (Gx fd.scope fd.closure (fd.qualname ++ ".<locals>.") a fd.code (F.put s.heap.objs.size Zw) H (s.heap.push Zw) stk).env) (Gx fd.scope fd.closure (fd.qualname ++ ".<locals>.") a fd.code (F.put s.heap.objs.size Zw) H (s.heap.push Zw) stk) fd.scope ((fd.scope.names.filter fun p=>p.2 == .cell).map (·.1)) n:=
  ⟨r'.hd,rfl,by have:=r.depth;show A.depth + 1 + n ≤ 900;lia,by have:=r.units;show A.units + 3 + 60 * n ≤ 9000;lia,by show A.frames.map _ = _;rw [r.frames];rfl,rfl⟩
 refine wpAny_mono (h fd _ { s with heap:=s.heap.push Zw } _ _ _ hp1 kp c0 r' rfl h5 rfl rfl rfl C _ s1 S1) (fun fl s2 x2=>x2.elim (fun F2 ρ2 H2 l2 q S2=>q F2 s2 S2.kh) fun v F2 d H2 ρ2 l2 q rv S2=>q F2 s2 v rv S2.kh) fun Z Z x=>x
theorem C0.Pm {a:Addr} {body:List Stmt} {scope:Scope} {names:List Str} {kn:Str} {ds:List D} (S:C0 B a body scope names kn)
  (hok:V4 scope = true) (hfree:(scope.names.all fun p=>p.2 != .free) = true) (hst:((names ++ [kn]).all fun x=>Jj scope ((scope.names.filter fun p=>p.2 == .cell).map (·.1)) x) = true)
  (hn:names.length = ds.length)
  (h:∀ A' fm p,(p == sysModules) = false→A'.handled = none→Cx A' fm scope ((scope.names.filter fun p=>p.2 == .cell).map (·.1)) n→ExS B A' fm (putAll (names.zip ds ++ [(kn,.fro p Zw)]) []) H body (fun Z H'=>P .none H') P NoE):Fn0 B (n + 1) (.ref a) ds H P:=fun A F s stk vs hh r rv=>by
 refine wpAny_call (S.call hok hfree hst hn r rv fun fd F' s' fm A' p hp Z c r' Z Z e1 e2 e3 C=>?_);refine fun F1 s1 S1=>wpAny_mono (h A' fm p hp (e3.trans hh) C F1 s1 S1) (fun fl s2 x2=>x2.elim (fun F2 ρ2 H2 l2 q S2=>.next F2 ρ2 H2 l2 (fun F'' s'' c'=>⟨F'',.none,H2,q,.none,c.trans c'⟩) S2) fun v F2 d H2 ρ2 l2 q rv2 S2=>.ret v F2 d H2 ρ2 l2 (fun F'' s'' v' rv' c'=>⟨F'',d,H2,q,rv',c.trans c'⟩) rv2 S2) fun Z Z x=>x.elim
theorem Fly.back {s s' s'':Shared} {stk:List Env} {e t:Addr} {us:List Value} {F' F'':Fz} {Bh:Heap} (g:GS B F H s) (c:Jl B F H s F' H s') (hk:∀ b o,s.heap.get? b = some o→s'.heap.get? b = some o) (x:Fly B F' H s' stk e X us F'' Bh t s''):Fly B F H s stk e X us F'' Bh t s'' where
 tp:=x.tp
 tg:=x.tg
 same:=by
  refine el21 g.same fun h0 t0 e0=>?_;refine el21 c.gs.same fun h1 t1 e1=>?_;refine el21 x.same fun h2 t2 e2=>?_;exact ⟨h2,t2,by (refine rwb e2 (rwb e1 ?_);exact rwb e0 rfl)⟩
 le:=c.le.trans x.le
 newF:=fun b o e=>by
  rcases x.newF b o e with q | q
  ·exact c.newF b o q
  ·exact .inr (c.live.none q)
 fly:=x.fly
 tup:=x.tup
 new:=x.new
 ctx:=x.ctx
 base:=x.base
 froz:=x.froz
 own:=x.own
 tab:=x.tab
 dict:=fun b o eb hd=>x.dict b o (hk b o eb) hd
 cov:=fun b o eb h1 h2=>x.cov b o (hk b o eb) h1 h2
theorem C0.fnX {a:Addr} {body:List Stmt} {scope:Scope} {names:List Str} {kn:Str} {ds:List D} (S:C0 B a body scope names kn)
  (hok:V4 scope = true) (hfree:(scope.names.all fun p=>p.2 != .free) = true) (hst:((names ++ [kn]).all fun x=>Jj scope ((scope.names.filter fun p=>p.2 == .cell).map (·.1)) x) = true)
  (hn:names.length = ds.length)
  (h:∀ A' fm p,(p == sysModules) = false→A'.handled = none→Cx A' fm scope ((scope.names.filter fun p=>p.2 == .cell).map (·.1)) n→ExS B A' fm (putAll (names.zip ds ++ [(kn,.fro p Zw)]) []) H body (fun Z Z=>False) (fun Z Z=>False) (Rz B fm H X ws)):FnX B (n + 1) (.ref a) [] ds H X ws:=fun A F s stk vs hh r rv=>by
 refine wpAny_call (S.call hok hfree hst hn r rv fun fd F' s' fm A' p hp kp c r' e4 e5 e1 e2 e3 C=>?_);subst e4 e1;refine fun F1 s1 S1=>wpAny_mono (h A' _ p hp (e3.trans hh) C F1 s1 S1) (fun fl s2 x2=>x2.elim (fun F2 ρ2 H2 l2 q S2=>q.elim) fun v F2 d H2 ρ2 l2 q rv2 S2=>q.elim) fun e s2 x=>?_;subst e2;exact wpAny_mono (x.leave r'.gs (by show A.frames.map _ = _;refine rwb r.frames ?_;rfl)) (fun Z s'' y=>y.rec fun b us F'' Bh t q rv x=>⟨b,us,F'',Bh,t,q,rv,x.back r.gs c kp⟩) fun Z Z x=>x
end
section
variable {B:Base} {A:Around} {fm:Fm} {sc:Scope} {cn:List Str} {n:Nat} {ρ:Loc} {F:Fz} {H H0:Led} {E E':Value→Shared→Prop} {P P':D→Led→Prop} {X:String} {ws:List D}
theorem Te {h:Heap} {p:Addr} (e:h.get? p = some Zw):h.DictAt (PySem.strKind pw B.w) p [] 0:=
 ⟨Zw,#[],e,⟨rfl,rfl,rfl⟩,rfl,fun e he=>by simp at he,.nil,by simp⟩
inductive ItX (H0:Led) (p:Addr) (d:D) (H:Led):Prop
 | mk (e:H = H0) (a:Addr) (o:Obj) (q:d = .fro a o) (hc:o.cls = .type "dict_items") (hd:o.data = .fields #[.ref p])
theorem Y7.jdc {x:Str} {np apos pos:Pos} {target:Expr} {p:Addr} {PP:List D→Led→Led→Prop} (C:Cx A fm sc cn n) (hh:A.handled = none) (h1:sc.names.lookup x = some .local) (h2:ρ.lookup x = some (.fro p Zw)) (hn:(x == ("__debug__":Str)) = false) (hp:(p == sysModules) = false) (h:PP [] [] H)
  {pl:Env→Sem Bool} (he:autoParam (∀ env,eval (.Call (.Attribute (.Name x np) "items" apos) [] [] pos) env = (do
   let ov ← eval (.Name x np) env
   standAt apos.atName
   let (f,first) ← holding [ov] (getMethod ov "items" (pl env))
   callWith pos f first (backTo pos (starEach [] env)) (backToKw pos (keywordEach [] env)))) aI) :
  Y7 B A fm ρ H (.Call (.Attribute (.Name x np) "items" apos) [] [] pos) target PP E:=fun F s S=>by
 have ev:EvE B A fm ρ H (.Call (.Attribute (.Name x np) "items" apos) [] [] pos) (ItX H p) E:=by
  refine EvE.ij (pl:=pl) (he:=he) (EvE.loc C h2 ⟨.builtin "dict.items",fun A F s v pl Q E g r q=>?_,Kp.builtin,EvL.nil fun F s vs S rv=>?_⟩ h1 hn)
  ·revert q;exact r.tr fun e q=>getMethod_builtin ⟨_,g.froz _ _ e,rfl⟩ PySem.F.plainAttrs_dict PySem.F.slot_dict_items PySem.F.type_dict_items (fun b q'=>by cases q';exact ⟨_,g.froz _ _ e,rfl⟩) q
  ·refine V2 rv fun v r=>?_;refine r.tr fun e=>?_;have da:s.heap.DictAt (PySem.strKind pw B.w) p [] 0:=Te (S.froz _ _ e);refine call_meetsIn PySem.F.slot_dict_items ⟨_,S.froz _ _ e,rfl⟩ PySem.F.entry_dict_items (PySem.F.args_dict_items_1 _) (meets_dict_items (PySem.strKind pw B.w) p hp) ⟨⟨[],da.dictOf⟩,?_⟩;refine Yd (St.freeze (tk:=s.toks) (a:=s.heap.objs.size) (o:={ cls:=.type "dict_items",data:=.fields #[.ref p] }) (h':=s.heap.push { cls:=.type "dict_items",data:=.fields #[.ref p] }) S (fun b o e=>Heap.get?_push_of_some _ e) (Je _) (Heap.get?_push_size _ rfl)) fun S' le=>?_;exact here ⟨rfl,_,_,rfl,rfl,rfl⟩ le (.fro (Fz.put_self ..)) S'
 refine wpAny_mono (ev F s S) (fun v s1 zz E' Q hQ=>zz.elim fun F1 d H1 y l r S1=>y.rec fun e1 a o e2 hc hd=>?_) fun Z Z x=>x;subst e1 e2;refine r.tr fun ea=>?_;refine el12 S1.ns fun m hm hr=>?_;have hk':fm.env.kindOf x = some .local:=by unfold Env.kindOf;refine rwb C.sc ?_;exact h1
 refine el12 (hr x _ h2 hk') fun u Z ru=>?_;refine ru.tr fun ep=>?_;have da:s1.heap.DictAt (PySem.strKind pw B.w) p [] 0:=Te (S1.froz _ _ ep);refine wpAny_pyIter_items ⟨_,S1.froz _ _ ea,hc,hd⟩ da ?_;have hf:=Je s1.heap;have hne:p ≠ s1.heap.objs.size:=ne_of_lt (Heap.lt_size (S1.froz _ _ ep))
 let it0:Obj:={ cls:=.type "dict_itemiterator",data:=.fields #[.none,.bool false,.ref p,.int 0 0,.int 0 0,.int 0 0,.none,.none] }
 refine hQ F1 _ (fun Z=>True) s1.heap.objs.size [s1.heap.objs.size] [] [s1.heap.objs.size,p] [] (fun i h=>IsItemIter h s1.heap.objs.size p 0 0 0 .none .none ∧ h.get? p = some Zw) [] H1 l trivial
  (S1.keeps (tk:=s1.toks) fun b o e=>Heap.get?_push_of_some _ e) (S1.x9 hf) ?_ ⟨Heap.get?_push_size _ rfl,Heap.get?_push_of_some _ (S1.froz _ _ ep)⟩ h fun ρ' F' H' s'' H'' S'' Z Z Z hp=>S''.perm hp
 exact {
  mem:=mem_singleton_self _
  frame:=fun i h h' zqq k=>Yd zqq fun q1 q2=>⟨k _ mem_cons_self _ q1,k _ (by simp) _ q2⟩
  item:=fun i s t Q E Z hi=>absurd hi (Nat.not_lt_zero _)
  done:=fun s2 Q E Z Z zqqq hz hQ=>Yd zqqq fun q1 q2=>wpAny_pyNext_items_end (kvs:=([]:List (Str × Value))) (knd:=PySem.strKind pw B.w) hh q1 (Te q2) rfl fun h' ex=>hQ h' s2.toks (le_refl _) fun b o hb e=>ex b o (fun q=>hb (by refine rwb q ?_;exact mem_singleton_self _)) e
  self:=fun i s2 Q E zqqqq hq=>Yd zqqqq fun q1 _=>kcp_self q1 hq
  goodC:=fun i h zqqqqq b hb=>Yd zqqqqq fun q1 _=>by refine rwb (lS hb) ?_;exact ⟨_,_,_,q1,rfl,by decide,rfl⟩
  goodB:=fun Z Z Z b hb=>nomatch hb
  fpF:=fun b hb=>by
   rcases lC hb with rfl | hb
   ·exact .inl (mem_singleton_self _)
   ·refine rwb (lS hb) ?_;exact .inr (.inr (by refine rwb ep ?_;exact some_ne_none _))
  apart:=fun Z hb=>nomatch hb }
end
section
variable {prog:Program} {w:World} {A:Around} {E:Value→Shared→Prop} {s:Shared} {K:Frag}
theorem Ja8 {x dx l:Addr} {sl:Array (Option Value)} {Q:Unit→Shared→Prop} (X:K.In s.heap) (hx:s.heap.get? x = some (instObj Vb dx)) (hdx:s.heap.get? dx = some { emptyDict with slots:=sl })
  (hs:findIn K (.ref Vb) "__setattr__" = some (some (.builtin "object.__setattr__"))) (hp:plainOver K Vb = true) (ht:takerIn K Vb "_headers" = some none) (hh:hasDictIn K Vb = true)
  (h:∀ h' hs t k,Heap.SameBut dx s.heap h'→h'.get? dx = some (Xc hs t l k sl)→Q () { s with heap:=h',toks:=s.toks + 2 }) :
  wpAny (model prog w) A (setAttr (.ref x) "_headers" (.ref l)) Q E s:=by
 revert X hx hdx hs hp ht hh h;revert prog w A E s K x dx l sl Q;refine no_implicit_lambda% (G11 (h:=?_));refine (?_:A11 _) _ _ _ _ _ _ _ _ _ _ _;intro prog w A E s K x dx l sl Q X hx hdx hs hp ht hh h;have I:InstAt s.heap x (instObj Vb dx) Vb (some { emptyDict with slots:=sl }):=⟨hx,rfl,rfl,hdx⟩;refine set_plain X I hs (osa_open (s:={ s with toks:=s.toks + 1 }) X I hp ht fun b=>?_);refine el12 (any_some hh) fun cd hc hd'=>?_;refine wpAny_bind (wpAny_pure (wpAny_bind (wpAny_bind (wpAny_loadPart hx (wpAny_bind (Looks.here (s:={ s with toks:=s.toks + 1 }) (looks_clsIn X hc) ?_))))));refine rwb hd' ?_;refine wpAny_pure (a:=some dx) (wpAny_bind (wpAny_pure (wpAny_bind ?_)));unfold nsSet;refine wpAny_bind (wpAny_bind (wpAny_askSetting (wpAny_pure (wpAny_bind (wpAny_mkText (wpAny_bind (wpAny_loadPart hdx ?_)))))));dsimp only;rw [aRefKeyMayBeTheName_at];have sb:=Heap.SameBut.update s.heap dx (Obj.putName (Str.ofString "_headers") (PyData.keyHash w.params (Str.ofString "_headers")) (.str (Str.ofString "_headers") (s.toks + 1)) (.ref l));have D':(s.heap.update dx (Obj.putName (Str.ofString "_headers") (PyData.keyHash w.params (Str.ofString "_headers")) (.str (Str.ofString "_headers") (s.toks + 1)) (.ref l))).get? dx = some (Xc (PyData.keyHash w.params (Str.ofString "_headers")) (s.toks + 1) l 1 sl):=
  Heap.get?_update_self _ hdx (by rfl)
 refine rwb (if_neg (by simp)) ?_;refine wpAny_updatePart hdx ?_;refine wpAny_bind (wpAny_lookBehind D' (pastItsLine_dict (by show 1 ≤ _;refine rwb sizeLine_eq ?_;omega)) ?_);exact wpAny_pure (h _ _ _ _ sb D')
end
section
variable {B:Base} {A:Around} {fm:Fm} {sc:Scope} {cn:List Str} {n:Nat} {ρ:Loc} {F:Fz} {H H0:Led} {E E':Value→Shared→Prop} {P P':D→Led→Prop} {PB:Bool→Led→Prop} {N N':Loc→Led→Prop} {R:D→Led→Prop}
theorem St.jeb {s:Shared} (S:St B fm ρ F H s) {h:Heap} {F₀:Fz} {W:List Addr} (h1:∀ b o,h.get? b = some o→fm.h₀.get? b = some o) (hF:F₀.le fm.F₀) (hFn:∀ b o,fm.F₀.f b = some o→F₀.f b = some o ∨ h.get? b = none)
  (hW:∀ b ∈ fm.W,b ∈ W) (hcl:∀ x c,fm.env.cells.lookup x = some c→c ∈ fm.own):St B { fm with h₀:=h,h₁:=h,F₀:=F₀,W:=W } ρ F H s:=by
 have no:∀ b,fm.h₁.get? b = none→h.get? b = none:=fun b e=>by
  cases q:h.get? b with
  | none=>rfl
  | some o=>replace e:=ts (S.ok.sub1 _ _ (h1 b o q)) e;contradiction
 exact {
  toGS:=S.toGS
  toBears:=⟨S.ns,S.cell,S.cellAt⟩
  ok:={
   kind:=S.ok.kind
   glob:=S.ok.glob
   bi:=S.ok.bi
   ownL:=S.ok.ownL
   ownC:=S.ok.ownC
   cellInj:=S.ok.cellInj
   fresh:=fun a ha=>⟨(S.ok.fresh a ha).1,(by
    cases q:h.get? a with
    | none=>rfl
    | some o=>
     have:=(S.ok.fresh a ha).2.1
     replace this:=ts (h1 a o q) this;contradiction),(S.ok.fresh a ha).2.2⟩
   tabW:=fun a ha=>hW a (S.ok.tabW a ha)
   ownIs:=S.ok.ownIs
   celT:=S.ok.celT
   celLv:=fun x c e=>.inl (hcl x c e)
   sub1:=fun Z Z e=>e }
  ownF:=S.ownF
  keep:=fun b o e hb=>S.keep b o (h1 b o e) fun q=>hb (hW b q)
  led:=fun p hp=>(S.led p hp).imp (hW _) (no _)
  frz:=fun b o e=>by
   rcases S.frz b o e with q | q
   ·exact hFn b o q
   ·exact .inr (no _ q)
  sub:=hF.trans S.sub
  ff:=S.ff
  old:=fun b hb=>S.old b fun q=>hb (no b q)
  lives:=S.lives }
theorem FF.put {a:Addr} {o:Obj} {h base:Heap} {l:List Env} (hn:∀ env ∈ l,env.frame ≠ some a) (x:FF F h base l):FF (F.put a o) h base l:=fun env he=>
 (x env he).elim fun L oL es m k h1 h2 h3 h4 h5 h6=>⟨L,oL,es,m,k,h1,h2,h3,h4,h5,by rw [Fz.put_ne fun q=>hn env he (by rw [h1,q])];exact h6⟩
theorem St.jd7 {s:Shared} {a:Addr} {o:Obj} (S:St B fm ρ F H s) (j:Jbw B fm F H a) (ha:s.heap.get? a = some o):F.le (F.put a o) ∧ St B fm ρ (F.put a o) H s:=by
 revert S j ha;revert B fm ρ F H s a o;refine no_implicit_lambda% (G8 (h:=?_));refine (?_:A8 _) _ _ _ _ _ _ _ _;intro B fm ρ F H s a o S j ha;obtain ⟨j1,j2,j3,j4,j5,j6,j7,j8⟩:=j;refine Yd (S.toGS.take ha j3 j6 j5) fun g le=>?_;refine ⟨le,?_⟩
 exact {
  toGS:=g
  toBears:=S.toBears.kept le fun b o Z e Z Z=>.inl e
  ok:=S.ok
  ownF:=fun b hb=>⟨by rw [Fz.put_ne (show b ≠ a from fun q=>j2 (by rw [← q];exact hb))];exact (S.ownF b hb).1,(S.ownF b hb).2⟩
  keep:=S.keep
  led:=S.led
  frz:=fun b o q=>by rcases Fz.yp q with q | ⟨rfl,rfl⟩;exact S.frz b o q;exact .inr j7
  sub:=S.sub.trans le
  ff:=S.ff.put j8
  old:=S.old
  lives:=S.lives }
theorem Hs {R:Result→Shared→Prop} {a:Addr} {o:Obj} {fd:FuncData} {body:List Stmt} {args:Args} {s:Shared} {stk:List Env} {binds:List (Str × Value)} {xs:List (Str × D)} {cap:Loc}
  (r:Rm B A F H s stk (n + 1)) (ho:s.heap.get? a = some o) (hd:o.data = .func fd) (hbody:fd.body = .stmts body) (hcd:s.heap.CodeRec fd.code fd.qualname) (hgl:fd.globals = mainGlobals) (hbu:fd.builtins = builtinsNs)
  (hbind:BindsTo s fd args binds) (hok:V4 fd.scope = true) (hcl:Vy fd.scope fd.closure cap F s.heap)
  (hk:binds.map (·.1) = xs.map (·.1)) (hr:Jc F (binds.map (·.2)) (xs.map (·.2))) (hst:(xs.all fun x=>Jj fd.scope ((fd.scope.names.filter fun p=>p.2 == .cell).map (·.1)) x.1) = true)
  (h:∀ fm A' s1,fm = Gx fd.scope fd.closure (fd.qualname ++ ".<locals>.") a fd.code F H s.heap stk→A' = A.deeper fm.env→Cx A' fm fd.scope ((fd.scope.names.filter fun p=>p.2 == .cell).map (·.1)) n→St B fm (putAll xs cap) F H s1 →
   wpAny B.M A' (execs body fm.env) (fun fl s'=>match fl with | .next=>R (.ok (.ret .none)) s' | .ret v=>R (.ok (.ret v)) s' | _=>False)
    (fun e s'=>wpAny B.M A' (leaving fm.env e) (fun Z s''=>R (.error e) s'') (fun e' s''=>R (.error e') s'') s') s1):codeAny B.M A (.call (.ref a) args) R s:=by
 have hok':=hok;simp only [V4,Bool.and_eq_true,Bool.not_eq_true'] at hok';refine codeAny_call_function (by have:=r.depth;show A.depth < 1000;omega) ho hd hok'.2 hok'.1.2 hbody hcd (hbind _ _ _ _ ?_);rw [hgl,hbu];refine Qd r.gs r.ff hok hcl hk hr hst fun s1 S1=>?_;refine ⟨S1.bk.lim.keeps S1.base,codeAny_func ?_⟩;have C:Cx (A.deeper (Gx fd.scope fd.closure (fd.qualname ++ ".<locals>.") a fd.code F H s.heap stk).env) (Gx fd.scope fd.closure (fd.qualname ++ ".<locals>.") a fd.code F H s.heap stk) fd.scope ((fd.scope.names.filter fun p=>p.2 == .cell).map (·.1)) n:=
   ⟨r.hd,rfl,by have:=r.depth;show A.depth + 1 + n ≤ 900;omega,by have:=r.units;show A.units + 3 + 60 * n ≤ 9000;omega,by show A.frames.map _ = _;rw [r.frames];rfl,rfl⟩
 refine wpAny_mono (h _ _ s1 rfl rfl C S1) (fun fl s2 x2=>?_) fun Z Z x=>x;cases fl with
 | next=>exact x2
 | ret v=>exact x2
 | brk=>exact x2.elim
 | cont=>exact x2.elim
end
section
variable {prog:Program} {w:World} {A:Around} {E:Value→Shared→Prop} {s:Shared}
theorem Dq {l sl d:Addr} {items new:Array Value} {ne nd:Nat} {Q:Unit→Shared→Prop} (ho:s.heap.get? l = some (listOf items ne)) (hd:s.heap.get? d = some (listOf new nd)) (hs:s.heap.IsSliceOf sl .none .none .none)
  (hne:l ≠ d) (hz:items.size + new.size ≤ sizeLine) (hQ:∀ f:Array Value→Array Value,f items = new→Q () { s with heap:=s.heap.update l (Obj.mapSeq f) }) :
  wpAny (model prog w) A (setItem (.ref l) (.ref sl) (.ref d)) Q E s:=by
 revert ho hd hs hne hz hQ;revert prog w A E s l sl d items new ne nd Q;refine no_implicit_lambda% (G13 (h:=?_));refine (?_:A13 _) _ _ _ _ _ _ _ _ _ _ _ _ _;intro prog w A E s l sl d items new ne nd Q ho hd hs hne hz hQ;have hl:s.heap.IsList l items:=⟨_,ho,rfl,ne,rfl⟩;refine el13 (id hs) fun os hos hcs hds=>?_;have hTs:s.TypeIs (.ref sl) "slice":=⟨os,hos,hcs⟩;unfold setItem
 try with_reducible refine wpAny_holding ?_
 first | refine wpAny_bind (wpAny_pure ?_) | skip
 refine wpAny_bind (wpAny_sequenceKey hl.typeIs (by decide) ?_)
 refine wpAny_bind (wpAny_callSpecial?_slot (name:=Str.ofString "__setitem__") hl.typeIs slot_list_setitem
  (wpAny_call_entry slot_list_setitem hl.typeIs entry_list_setitem ?_ (args_list_setitem _ _ _)))
 show wpAny _ _ (Builtin.List.listSubscript? (.ref sl) >>= _) _ _ s;refine wpAny_bind ?_;unfold Builtin.List.listSubscript?;refine wpAny_bind (wpAny_specialOf hTs slice_no_index ?_);simp only [Option.isNone_none,if_true];refine wpAny_pure ?_;show wpAny _ _ (typeOf (.ref sl) >>= _) _ _ s;refine wpAny_bind (wpAny_typeOf hTs ?_);refine rwb (if_neg (by decide)) ?_;rw [listSliceParts_eq];refine wpAny_bind (wpAny_bind (wpAny_field hos hds (x:=.none) rfl (wpAny_bind (wpAny_listPart .none ?_))));refine rwb (if_neg (by decide)) ?_;refine wpAny_bind (wpAny_field hos hds (x:=.none) rfl (wpAny_bind (wpAny_listPart .none ?_)));refine wpAny_bind (wpAny_field hos hds (x:=.none) rfl (wpAny_bind (wpAny_listPart .none (wpAny_pure ?_))));refine rwb (if_neg (by show ¬ (l == d) = true;simpa using hne)) ?_;refine wpAny_bind (m:=Builtin.List.listAllItems (.ref d) _) ?_;unfold Builtin.List.listAllItems;refine wpAny_bind (wpAny_typeOf (⟨_,hd,rfl⟩:s.TypeIs (.ref d) "list") ?_);refine rwb (if_pos (by decide)) ?_;refine listItems_at hd rfl ?_;refine wpAny_bind (listItems_at ho rfl ?_);refine wpAny_bind (wpAny_of_eq (sliceIndices_raw none none none items.size (by decide)) ?_);have eb:sliceBounds none none none items.size = ((0:Int),((items.size:Nat):Int),(1:Int)):=by rfl
 refine rwb eb ?_;dsimp only;refine rwb (if_pos (by decide)) ?_;refine wpAny_bind (wpAny_rule ?_);refine rwb (if_neg (by unfold Builtin.List.listTooLong;simp;exact hz)) ?_;have e1:(max (0:Int) (items.size:Int)).toNat = items.size:=by rw [Int.max_eq_right (Int.natCast_nonneg _),toNat_natCast]
 have ef:(fun xs:Array Value=>xs.extract 0 (0:Int).toNat ++ new ++ xs.extract (max (0:Int) (items.size:Int)).toNat) items = new:=by
  dsimp only;refine rwb e1 ?_;simp
 refine wpAny_bind (listUpdate_at ho rfl ?_ (by lia) (by have:=congrArg Array.size ef;dsimp only at this;refine rwb this ?_;lia));refine wpAny_bind (wpAny_letGo ?_);exact wpAny_pure ⟨_,rfl,wpAny_pure (hQ _ ef)⟩
end
section
variable {B:Base} {A:Around} {fm:Fm} {sc:Scope} {cn:List Str} {n:Nat} {ρ:Loc} {F:Fz} {H H0:Led} {E E':Value→Shared→Prop} {P P':D→Led→Prop} {PB:Bool→Led→Prop} {N N':Loc→Led→Prop} {R:D→Led→Prop}
theorem S1.jc9 {o value:Expr} {p p' pos:Pos} (h:EvE B A fm ρ H value (fun d H1=>EvE B A fm ρ H1 o (fun d2 H2=>∃ es a ds H4,d = .lst es ∧ d2 = .ref a ∧ V6 a es ds H2 H4 ∧ ds.length + es.length ≤ sizeLine ∧ N ρ H4) E) E)
  (hs:∀ env,swapsWith value (some (.Subscript o (.Slice none none none p) p')) pos.line env = pure false):Ex1 B A fm ρ H (.Assign [.Subscript o (.Slice none none none p) p'] value pos) N R E:=by
 revert h hs;revert B A fm ρ H E N R o value p p' pos;refine no_implicit_lambda% (G13 (h:=?_));refine (?_:A13 _) _ _ _ _ _ _ _ _ _ _ _ _ _;intro B A fm ρ H E N R o value p p' pos h hs;refine no_implicit_lambda% (G2 (h:=?_));refine (?_:A2 _) _ _;exact fun F s S=>by
  refine wpAny_Assign_Subscript (wpAny_mono (h F s S) (fun v s1 zz=>zz.elim fun F1 d H1 p1 l1 r1 S1=>wpAny_mono (p1 F1 s1 S1) (fun ov s2 zz=>zz.elim fun F2 d2 H2 y l2 r2 S2=>el45 y fun es a ds H4 e1 e2 x hz hN=>?_) fun Z Z x=>x) fun Z Z x=>x) (hs _);subst e1 e2;cases r2;refine r1.Mc fun b vs k hb hr=>?_;refine wpAny_Slice ?_;rw [evalPart_none];refine wpAny_pure (wpAny_pure (wpAny_pure ?_));refine el22 (S2.own _ x.mem) fun ws m ho hro=>?_;have gb:=S2.froz _ _ (l2.f _ _ hb);have hne:a ≠ b:=fun q=>by
   have:=(S2.apart _ x.mem).1;(replace this:=(show ((a,ds):Addr × List D).1 = a from rfl) ▸ this;replace this:=q ▸ this;replace this:=ts (l2.f _ _ hb) this);contradiction
  have S3:=S2.keeps (tk:=s2.toks) (h':=s2.heap.push { cls:=.type "slice",data:=.fields #[.none,.none,.none] }) fun b o e=>Heap.get?_push_of_some _ e;refine Dq (s:={ s2 with heap:=s2.heap.push { cls:=.type "slice",data:=.fields #[.none,.none,.none] } }) (Heap.get?_push_of_some _ ho) (Heap.get?_push_of_some _ gb) (Heap.IsSliceOf.new ..) hne (by (refine rwb size_toArray (rwb size_toArray (rwb hro.length (rwb hr.length ?_))));exact hz) fun f hf=>?_;have q:=get?_update_seq (Heap.get?_push_of_some { cls:=.type "slice",data:=.fields #[.none,.none,.none] } ho) f;replace q:=hf ▸ q;exact Uv hN (l1.trans l2) (S3.set (tk:=s2.toks) x (Heap.SameBut.update ..) ⟨vs,_,q,hr.mono l2⟩)
theorem S1.jaw {x:Str} {p:Pos} {stpos:Pos} {elt:Expr} {g:Comprehension} {gs:List Comprehension} {scope:Scope} {pos:Pos} (C:Cx A fm sc cn n) (hk:Jj sc cn x = true) (hok:Zs sc scope = true)
  (ha:∀ g' ∈ g :: gs,g'.is_async = 0) (hi:g.ifs.length ≤ 1)
  (hw:swapsWith (.ListComp elt (g :: gs) scope pos) (some (.Name x p)) stpos.line (Ls sc) = pure true)
  (h:EvE B A fm ρ H g.iter (Qu B A fm sc n ρ elt g gs scope pos (fun es H1=>∀ D',fm.h₁.get? D' = Option.none→N (put x (.ref D') ρ) ((D',es) :: H1))) E) (hs:autoParam (∀ env x,foldedSetIterable g.iter env x = pure x) aI):Ex1 B A fm ρ H (.Assign [.Name x p] (.ListComp elt (g :: gs) scope pos) stpos) N R E:=fun F s S=>by
 have hw':swapsWith (.ListComp elt (g :: gs) scope pos) (some (.Name x p)) stpos.line fm.env = pure true:=by
  have e:fm.env.scope = (Ls sc).scope:=C.sc;have:swapsWith (.ListComp elt (g :: gs) scope pos) (some (.Name x p)) stpos.line fm.env = swapsWith (.ListComp elt (g :: gs) scope pos) (some (.Name x p)) stpos.line (Ls sc):=by
   unfold swapsWith Env.blockKind Env.kindOf;exact rwb e rfl
  refine rwb this ?_;exact hw
 refine rwb (exec_Assign_Name_used _ _ _ _ hw') (rwb (Ct ha) ?_);refine wpAny_bind (wpAny_standAt (wpAny_bind (wpAny_bind ?_)));refine L0 (use:=some (PySem.assign (.Name x p) fm.env)) C hok ha hi hs S (h.mono (Qu.mono fun ys H1 hN D' L' F' s' l hD S' hns j=>?_));obtain ⟨j1,j2,j3,j4,j5,j6,j7,j8⟩:=j;refine el11 hns fun m hm=>?_;refine el33 (id hm) fun o es ep e1 e2 e3=>?_;have S3:=S'.rebase;have C3:=C.at S'.sub ((D',ys) :: H1) s'.heap;refine wpAny_assign_Name (show wpAny B.M A (storeName (fm.at F' ((D',ys) :: H1) s'.heap).env x (.ref D')) _ _ _ from store C3 S3 (.ref _) hk fun s4 S4=>?_);have kp:=S4.keep L' o (Tf e1 j2) fun q=>(lA q).elim j6 j5;have S5:=S'.back S4;refine ⟨m,Ns.kept hm fun o' e'=>by replace e':=ts e1 e';obtain rfl:=oi e';exact kp,fun h' hs'=>wpAny_pure ?_⟩;exact wpAny_pure (Uv (hN D' hD) l (S5.jb3 ⟨j1,j2,j3,j4,j5,j6,j7,j8⟩ hs'))
theorem Jm.jfm {a:Addr} {body:List Stmt} {scope:Scope} {names:List Str} {dflt:List (Str × D)} {ds:List D} {code:Value} {qual:Str} (S:Jm B a body scope names dflt) (hq:∀ o fd,B.h.get? a = some o→o.data = .func fd→fd.code = code ∧ fd.qualname = qual)
  (hok:V4 scope = true) (hfree:(scope.names.all fun p=>p.2 != .free) = true) (hst:((names ++ dflt.map (·.1)).all fun x=>Jj scope ((scope.names.filter fun p=>p.2 == .cell).map (·.1)) x) = true)
  (hn:names.length = ds.length)
  (h:∀ A' fm L,A'.handled = none→fm.env = Vo scope L [] (qual ++ ".<locals>.") a code→fm.h₁.get? L = none→(∀ b o,B.h.get? b = some o→fm.h₁.get? b = some o)→Cx A' fm scope ((scope.names.filter fun p=>p.2 == .cell).map (·.1)) n→ExS B A' fm (putAll (names.zip ds ++ dflt) []) H body (fun Z H'=>P .none H') P NoE):Fn0 B (n + 1) (.ref a) ds H P:=by
 revert S hq hok hfree hst hn h;revert B n H P a body scope names dflt ds code qual;refine no_implicit_lambda% (G12 (h:=?_));refine (?_:A12 _) _ _ _ _ _ _ _ _ _ _ _ _;intro B n H P a body scope names dflt ds code qual S hq hok hfree hst hn h;refine no_implicit_lambda% (G5 (h:=?_));refine (?_:A5 _) _ _ _ _ _;exact fun A F s stk vs hh r rv=>by
  obtain ⟨o,fd,h1,h2,h3,h4,h5,h6,h7,h8,h9⟩:=S.ex;refine Yd (hq o fd h1 h2) fun q1 q2=>?_;subst h4;have hl:names.length = vs.length:=by (refine rwb rv.length ?_;exact rwb hn rfl)
  refine el13 (h9 s vs r.gs.base hl.symm) fun ws w1 w2 w3=>?_;have hcd:s.heap.CodeRec fd.code fd.qualname:=h8.keeps r.gs.base;refine wpAny_call (Xe (xs:=names.zip ds ++ dflt) (cap:=[]) r (r.gs.base _ _ h1) h2 h3 hcd h6 h7 w3 hok (by refine rwb h5 ?_;exact Vy.nil hfree) ?_ ?_ ?_ fun fm A' e1 e2 C=>?_)
  ·refine rwb map_append (rwb map_append (rwb (Jw _ _ hl) (rwb (Jw _ _ hn) ?_)));exact rwb w1 rfl
  ·refine rwb map_append (rwb map_append (rwb (Yg _ _ hl) (rwb (Yg _ _ hn) ?_)));exact rv.append (w2 F)
  ·(replace hst:=ts all_append hst;replace hst:=all_map ▸ hst);refine rwb all_append ?_;simp only [Bool.and_eq_true] at hst ⊢;refine ⟨?_,hst.2⟩;have h10:=hst.1;(replace h10:=Eq.symm (Jw _ _ hn) ▸ h10;replace h10:=ts all_map h10);exact h10
  ·refine fun F1 s1 S1=>wpAny_mono (h A' fm s.heap.objs.size (by refine rwb e2 ?_;exact hh) (by (refine rwb e1 (rwf q1 (rwf q2 (rwf h5 ?_))));rfl) (by refine rwb e1 ?_;exact Je _) (by refine rwb e1 ?_;exact r.gs.base) C F1 s1 S1) (fun fl s2 x2=>x2.elim (fun F2 ρ2 H2 l2 q S2=>.next F2 ρ2 H2 l2 (fun F' s' c=>⟨F',.none,H2,q,.none,c⟩) S2) fun v F2 d H2 ρ2 l2 q rv2 S2=>.ret v F2 d H2 ρ2 l2 (fun F' s' v' rv' c=>⟨F',d,H2,q,rv',c⟩) rv2 S2) fun Z Z x=>x.elim
theorem kp0 {scope:Scope}:∀ y e,(capt scope ρ).lookup y = some e→(capt scope ρ).lookup y = some e:=fun Z Z q=>q
theorem kpp {scope:Scope} {x:Str} {d:D} {σ:Loc} (h:∀ y e,(capt scope ρ).lookup y = some e→σ.lookup y = some e) (hn:autoParam ((scope.names.lookup x == some .free) = false) aR):∀ y e,(capt scope ρ).lookup y = some e→(put x d σ).lookup y = some e:=fun y e q=>by
 by_cases hy:y = x
 ·subst hy;rw [(Va q).2] at hn;simp at hn
 ·rw [put_ne hy];exact h y e q
theorem J2 {scope:Scope} {x:Str} {d:D}:∀ {ρ:Loc},ρ.lookup x = some d→scope.names.lookup x = some .free→(capt scope ρ).lookup x = some d
 | [],h,_=>by contradiction
 | (y,e) :: r,h,hf=>by
  unfold capt;rw [filter_cons]
  by_cases hy:x = y
  ·subst hy;replace h:=ts lookup_cons h;simp only [beq_self_eq_true] at h;rw [if_pos (by show (scope.names.lookup x == some .free) = true;rw [hf];rfl)];rw [lookup_cons];simp only [beq_self_eq_true];exact h
  ·have hb:(x == y) = false:=beq_eq_false_iff_ne.mpr hy;(replace h:=ts lookup_cons h;replace h:=hb ▸ h);have ih:=J2 (ρ:=r) h hf;split
   ·(refine rwb lookup_cons ?_;rw [hb]);exact ih
   ·exact ih
noncomputable def NoH (ρ:Loc) (x:Str):Prop:=ρ.lookup x = none
theorem NoH.ne {x y:Str} {d:D} (h:NoH ρ x) (hn:autoParam (x ≠ y) aD):NoH (put y d ρ) x:=by unfold NoH;rw [put_ne hn];exact h
theorem NoH.capt {scope:Scope} {x:Str} (hn:autoParam ((scope.names.lookup x == some .free) = false) aR):NoH (capt scope ρ) x:=by
 unfold NoH;cases h:(Mine.Tactic.capt scope ρ).lookup x with
 | none=>rfl
 | some d=>rw [(Va h).2] at hn;simp at hn
theorem kpn {σ:Loc} {x:Str} {d:D} (hn:NoH ρ x) (h:∀ y e,ρ.lookup y = some e→σ.lookup y = some e):∀ y e,ρ.lookup y = some e→(put x d σ).lookup y = some e:=fun y e q=>by
 by_cases hy:y = x
 ·subst hy;rw [hn] at q;cases q
 ·rw [put_ne hy];exact h y e q
theorem kpi:∀ y e,ρ.lookup y = some e→ρ.lookup y = some e:=fun Z Z q=>q
theorem Ra {elt:Expr} {gens:List Comprehension} {scope:Scope} {pos:Pos} {k:Nat} {D':Addr} {env:Env} (hg:gens[k + 1]? = none) :
  emitTree elt gens scope pos k (.ref D') env = (do let _ ← call (.builtin "list.append") [.ref D',← eval elt env]):=by
 unfold emitTree;exact rwb hg rfl
noncomputable def Iu (B:Base) (A:Around) (sc:Scope) (cn:List Str) (n:Nat) (ρ:Loc) (H2:Led) (D':Addr) (target:Expr) (d:D) (K:Loc→Prop):Prop:=
 ∀ fm out,Cx A fm sc cn n→Asg B A fm ρ ((D',out) :: H2) target d (fun ρ1 H3=>H3 = (D',out) :: H2 ∧ (∀ x e,ρ.lookup x = some e→ρ1.lookup x = some e) ∧ K ρ1) NoE
noncomputable def Rn (B:Base) (A:Around) (sc:Scope) (cn:List Str) (n:Nat) (ρ:Loc) (H2:Led) (D':Addr) (iter:Expr) (ds:List D):Prop:=
 ∀ fm out,Cx A fm sc cn n→EvE B A fm ρ ((D',out) :: H2) iter (fun d H1=>H1 = (D',out) :: H2 ∧ d = .lst ds) NoE
noncomputable def Th (B:Base) (A:Around) (sc:Scope) (cn:List Str) (n:Nat) (ρ:Loc) (H2:Led) (D':Addr) (elt:Expr) (f:D):Prop:=
 ∀ fm out,Cx A fm sc cn n→EvE B A fm ρ ((D',out) :: H2) elt (Is f ((D',out) :: H2)) NoE
noncomputable def Jca (B:Base) (A:Around) (sc:Scope) (cn:List Str) (n:Nat) (ρ:Loc) (H2:Led) (D':Addr) (c:Expr) (b:Bool):Prop:=
 ∀ fm out,Cx A fm sc cn n→EvB B A fm ρ ((D',out) :: H2) c (fun b' H4=>H4 = (D',out) :: H2 ∧ b' = b) NoE
theorem Jn.lt {ds:List D} {d:D} (h:d = .lst ds):Jn B A fm ρ H d ds true [] H:=by
 subst h;exact Jn.lst
theorem Y5.jee {elt target iter c:Expr} {gens:List Comprehension} {scope:Scope} {pos:Pos} {k:Nat} {D':Addr} {env:Env} {ds:List D} {t:D→Bool} {f:D→D} (hg:gens[k + 1]? = some ⟨target,iter,[c],0⟩) (hg2:gens[k + 1 + 1]? = none) (ha:∀ g ∈ gens,g.is_async = 0)
  (hit:Rn B A sc cn n ρ H D' iter ds)
  (turn:∀ d ∈ ds,Iu B A sc cn n ρ H D' target d fun ρ1=>Jca B A sc cn n ρ1 H D' c (t d) ∧ (t d = true→Th B A sc cn n ρ1 H D' elt (f d)))
  (hs:autoParam (∀ env x,foldedSetIterable iter env x = pure x) aI) :
  Y5 B A env sc cn n ρ H D' (emitTree elt gens scope pos k (.ref D') env) (ds.flatMap fun d=>if t d then [f d] else []):=by
 refine Y5.node hg ha (le_refl _) ds _ hs (fun fm out Z C=>(hit fm out C).mono fun d H1 y=>Yd y fun q1 q2=>⟨q1,Jn.lt q2⟩) fun d hd fm out he C F s v S r=>?_;refine wpAny_mono (turn d hd fm out C F s v S r) (fun Z s1 zz=>zz.elim fun F1 ρ1 H3 zqq l S1=>I5 zqq fun e1 e2 e3 e4=>⟨F1,ρ1,H3,⟨e1,e2,?_⟩,l,S1⟩) fun Z Z x=>x;refine fun fm2 out2 he2 C2=>(e3 fm2 out2 C2).mono fun b H4 zqqq=>Yd zqqq fun q1 q2=>⟨q1,?_⟩;subst q2;cases q:t d
 ·refine rwb (if_neg (by decide)) ?_;exact rwb (if_neg (by decide)) rfl
 ·refine rwb (if_pos rfl) (rwb (if_pos rfl) (rwb (Ra hg2) ?_));exact Y5.leaf fun fm3 out3 Z C3=>e4 q fm3 out3 C3
theorem Y5.last {elt target iter:Expr} {gens:List Comprehension} {scope:Scope} {pos:Pos} {k:Nat} {D':Addr} {env:Env} {ds:List D} {f:D→D} (hg:gens[k + 1]? = some ⟨target,iter,[],0⟩) (hg2:gens[k + 1 + 1]? = none) (ha:∀ g ∈ gens,g.is_async = 0)
  (hit:Rn B A sc cn n ρ H D' iter ds)
  (turn:∀ d ∈ ds,Iu B A sc cn n ρ H D' target d fun ρ1=>Th B A sc cn n ρ1 H D' elt (f d))
  (hs:autoParam (∀ env x,foldedSetIterable iter env x = pure x) aI) :
  Y5 B A env sc cn n ρ H D' (emitTree elt gens scope pos k (.ref D') env) (ds.flatMap fun d=>[f d]):=by
 refine Y5.node hg ha (Nat.zero_le _) ds _ hs (fun fm out Z C=>(hit fm out C).mono fun d H1 y=>Yd y fun q1 q2=>⟨q1,Jn.lt q2⟩) fun d hd fm out he C F s v S r=>?_;refine wpAny_mono (turn d hd fm out C F s v S r) (fun Z s1 zz=>zz.elim fun F1 ρ1 H3 zqq l S1=>V5 zqq fun e1 e2 e4=>⟨F1,ρ1,H3,⟨e1,e2,?_⟩,l,S1⟩) fun Z Z x=>x;show Y5 B A env sc cn n ρ1 H D' _ _;refine rwb (Ra hg2) ?_;exact Y5.leaf fun fm3 out3 Z C3=>e4 fm3 out3 C3
theorem Y5.mid {elt target iter:Expr} {gens:List Comprehension} {scope:Scope} {pos:Pos} {k:Nat} {D':Addr} {env:Env} {ds:List D} {gOf:D→List D} (hg:gens[k + 1]? = some ⟨target,iter,[],0⟩) (ha:∀ g ∈ gens,g.is_async = 0)
  (hit:Rn B A sc cn n ρ H D' iter ds)
  (turn:∀ d ∈ ds,Iu B A sc cn n ρ H D' target d fun ρ1=>∀ env,Y5 B A env sc cn n ρ1 H D' (emitTree elt gens scope pos (k + 1) (.ref D') env) (gOf d))
  (hs:autoParam (∀ env x,foldedSetIterable iter env x = pure x) aI) :
  Y5 B A env sc cn n ρ H D' (emitTree elt gens scope pos k (.ref D') env) (ds.flatMap gOf):=by
 refine Y5.node hg ha (Nat.zero_le _) ds _ hs (fun fm out Z C=>(hit fm out C).mono fun d H1 y=>Yd y fun q1 q2=>⟨q1,Jn.lt q2⟩) fun d hd fm out he C F s v S r=>?_;exact wpAny_mono (turn d hd fm out C F s v S r) (fun Z s1 zz=>zz.elim fun F1 ρ1 H3 zqq l S1=>V5 zqq fun e1 e2 e4=>⟨F1,ρ1,H3,⟨e1,e2,e4 _⟩,l,S1⟩) fun Z Z x=>x
theorem Jcu {elt target iter:Expr} {gs:List Comprehension} {scope:Scope} {pos:Pos} {H1 H2 ext:Led} {ds:List D} {gOf:D→List D} (hp:H1.Perm (ext ++ H2)) (hz:(ds.flatMap gOf).length ≤ 2 ^ 20)
  (turn:∀ D',∀ d ∈ ds,Iu B A (Jx sc scope) (I6 scope) n (capt scope ρ) H2 D' target d fun ρ1=>∀ env,Y5 B A env (Jx sc scope) (I6 scope) n ρ1 H2 D' (emitTree elt (⟨target,iter,[],0⟩ :: gs) scope pos 0 (.ref D') env) (gOf d)) :
  Gives B A sc n ρ H1 H2 ext elt ⟨target,iter,[],0⟩ gs scope pos ds gOf:=by
 refine ⟨hp,hz,fun env' D' d hd fm' out he C F s v S r=>?_⟩;exact wpAny_mono (turn D' d hd fm' out C F s v S r) (fun Z s1 zz=>zz.elim fun F1 ρ1 H3 y l S1=>V5 y fun e1 e2 e3=>⟨F1,ρ1,H3,⟨e1,e2,e3 env'⟩,l,S1⟩) fun Z Z x=>x
theorem Jcs {c:Prop} [Decidable c] {e1 e2:Expr} {x:D} (h1:c→EvE B A fm ρ H e1 (Is x H) E) (h2:¬ c→EvE B A fm ρ H e2 (Is x H) E) (h:P x H):if c then EvE B A fm ρ H e1 P E else EvE B A fm ρ H e2 P E:=by
 by_cases hc:c
 ·refine rwb (if_pos hc) ?_;exact (h1 hc).mono fun d H1 ⟨a,b⟩=>by subst a b;exact h
 ·refine rwb (if_neg hc) ?_;exact (h2 hc).mono fun d H1 ⟨a,b⟩=>by subst a b;exact h
open Classical in
noncomputable def via {α β:Type} (l:List α) (f:α→D) (g:α→β) (z:β) (d:D):β:=if h:∃ a,a ∈ l ∧ f a = d then g h.choose else z
theorem Y0 {α β:Type} {l:List α} {f:α→D} {g:α→β} {z:β} (hinj:∀ a b,f a = f b→a = b) {a:α} (ha:a ∈ l):via l f g z (f a) = g a:=by
 have h:∃ b,b ∈ l ∧ f b = f a:=⟨a,ha,rfl⟩;unfold via;rw [dif_pos h,hinj _ _ h.choose_spec.2]
theorem Xo {α:Type} {l:List α} {f:α→D} {g:α→List D} (hinj:∀ a b,f a = f b→a = b):(l.map f).flatMap (via l f g []) = l.flatMap g:=by
 rw [flatMap_map];have:∀ l':List α,(∀ a ∈ l',a ∈ l)→l'.flatMap (fun a=>via l f g [] (f a)) = l'.flatMap g:=by
  intro l'
  induction l' with
  | nil=>intro Z;rfl
  | cons a l' ih=>
   intro h;refine rwb flatMap_cons (rwb flatMap_cons (rwb (Y0 hinj (h a (.head _))) ?_));exact rwb (ih fun b hb=>h b (.tail _ hb)) rfl
 exact this l fun a ha=>ha
theorem Rt {α:Type} {l:List α} {f:α→D} {g:α→D} {z:D} (hinj:∀ a b,f a = f b→a = b):(l.map f).map (via l f g z) = l.map g:=by
 rw [map_map];exact map_congr_left fun a ha=>Y0 hinj ha
theorem Y5.jfd {α:Type} {l:List α} {f:α→D} {g:α→List D} {elt target iter:Expr} {gens:List Comprehension} {scope:Scope} {pos:Pos} {k:Nat} {D':Addr} {env:Env} (hinj:∀ a b,f a = f b→a = b) (hg:gens[k + 1]? = some ⟨target,iter,[],0⟩) (ha:∀ g ∈ gens,g.is_async = 0)
  (hit:Rn B A sc cn n ρ H D' iter (l.map f))
  (turn:∀ a ∈ l,Iu B A sc cn n ρ H D' target (f a) fun ρ1=>∀ env,Y5 B A env sc cn n ρ1 H D' (emitTree elt gens scope pos (k + 1) (.ref D') env) (g a))
  (hs:autoParam (∀ env x,foldedSetIterable iter env x = pure x) aI) :
  Y5 B A env sc cn n ρ H D' (emitTree elt gens scope pos k (.ref D') env) (l.flatMap g):=by
 refine rwf (Xo (l:=l) (f:=f) (g:=g) hinj) ?_;refine Y5.mid hg ha hit (fun d hd=>?_) hs;refine el12 (lM hd) fun a ham z2=>?_;subst z2;refine rwb (Y0 hinj ham) ?_;exact turn a ham
theorem Y5.jas {α:Type} {l:List α} {f:α→D} {t:α→Bool} {g:α→D} {elt target iter c:Expr} {gens:List Comprehension} {scope:Scope} {pos:Pos} {k:Nat} {D':Addr} {env:Env} (hinj:∀ a b,f a = f b→a = b) (hg:gens[k + 1]? = some ⟨target,iter,[c],0⟩) (hg2:gens[k + 1 + 1]? = none) (ha:∀ g ∈ gens,g.is_async = 0)
  (hit:Rn B A sc cn n ρ H D' iter (l.map f))
  (turn:∀ a ∈ l,Iu B A sc cn n ρ H D' target (f a) fun ρ1=>Jca B A sc cn n ρ1 H D' c (t a) ∧ (t a = true→Th B A sc cn n ρ1 H D' elt (g a)))
  (hs:autoParam (∀ env x,foldedSetIterable iter env x = pure x) aI) :
  Y5 B A env sc cn n ρ H D' (emitTree elt gens scope pos k (.ref D') env) ((l.filter t).map g):=by
 have e:(l.map f).flatMap (fun d=>if via l f t false d then [via l f g .none d] else []) = (l.filter t).map g:=by
  rewrite [X1];refine rwb filter_map (rwb map_map ?_);have e1:l.filter (via l f t false ∘ f) = l.filter t:=filter_congr fun a ha=>Y0 hinj ha;refine rwb e1 ?_;exact map_congr_left fun a ha=>Y0 hinj (lF ha).1
 refine rwf e ?_;refine Y5.jee hg hg2 ha hit (fun d hd=>?_) hs;refine el12 (lM hd) fun a ham z2=>?_;subst z2;refine rwb (Y0 hinj ham) (rwb (Y0 hinj ham) ?_);exact turn a ham
theorem Y5.jef {α:Type} {l:List α} {f:α→D} {g:α→D} {elt target iter:Expr} {gens:List Comprehension} {scope:Scope} {pos:Pos} {k:Nat} {D':Addr} {env:Env} (hinj:∀ a b,f a = f b→a = b) (hg:gens[k + 1]? = some ⟨target,iter,[],0⟩) (hg2:gens[k + 1 + 1]? = none) (ha:∀ g ∈ gens,g.is_async = 0)
  (hit:Rn B A sc cn n ρ H D' iter (l.map f))
  (turn:∀ a ∈ l,Iu B A sc cn n ρ H D' target (f a) fun ρ1=>Th B A sc cn n ρ1 H D' elt (g a))
  (hs:autoParam (∀ env x,foldedSetIterable iter env x = pure x) aI) :
  Y5 B A env sc cn n ρ H D' (emitTree elt gens scope pos k (.ref D') env) (l.map g):=by
 have e:(l.map f).flatMap (fun d=>[via l f g .none d]) = l.map g:=by (rewrite [V8];exact rwb (Rt hinj) rfl)
 refine rwf e ?_;refine Y5.last hg hg2 ha hit (fun d hd=>?_) hs;refine el12 (lM hd) fun a ham z2=>?_;subst z2;refine rwb (Y0 hinj ham) ?_;exact turn a ham
theorem R9 {α:Type} {l:List α} {f:α→D} {g:α→List D} {elt target iter:Expr} {gs:List Comprehension} {scope:Scope} {pos:Pos} {H1 H2 ext:Led} (hinj:∀ a b,f a = f b→a = b) (hp:H1.Perm (ext ++ H2)) (hz:(l.flatMap g).length ≤ 2 ^ 20)
  (turn:∀ D',∀ a ∈ l,Iu B A (Jx sc scope) (I6 scope) n (capt scope ρ) H2 D' target (f a) fun ρ1=>∀ env,Y5 B A env (Jx sc scope) (I6 scope) n ρ1 H2 D' (emitTree elt (⟨target,iter,[],0⟩ :: gs) scope pos 0 (.ref D') env) (g a)) :
  Gives B A sc n ρ H1 H2 ext elt ⟨target,iter,[],0⟩ gs scope pos (l.map f) (via l f g []):=by
 refine Jcu hp (by refine rwb (Xo hinj) ?_;exact hz) fun D' d hd=>?_;refine el12 (lM hd) fun a ham z2=>?_;subst z2;refine rwb (Y0 hinj ham) ?_;exact turn D' a ham
theorem EvE.Md {α:Type} {l:List α} {f:α→D} {g:α→D} {elt target iter:Expr} {scope:Scope} {pos:Pos} (C:Cx A fm sc cn n) (hinj:∀ a b,f a = f b→a = b) (hok:Zs sc scope = true)
  (h:EvE B A fm ρ H iter (fun d H1=>∃ ext H2,Jn B A fm ρ H1 d (l.map f) true ext H2 ∧ H1.Perm (ext ++ H2) ∧ l.length ≤ 2 ^ 20 ∧
   (∀ a ∈ l,Iv B A sc n scope ρ H2 target (f a) fun fm H ρ1=>EvE B A fm ρ1 H elt (Is (g a) H) NoE) ∧ P (.lst (l.map g)) H1) E) (hs:autoParam (∀ env x,foldedSetIterable iter env x = pure x) aI):EvE B A fm ρ H (.ListComp elt [⟨target,iter,[],0⟩] scope pos) P E:=
 EvE.Po C hok (h.mono fun d H1 y=>el25 y fun ext H2 it hp hz turn q=>⟨_,via l f g .none,ext,H2,it,hp,by rw [length_map];exact hz,fun d hd=>by
  refine el12 (lM hd) fun a ha z2=>?_;subst z2
  refine rwb (Y0 hinj ha) ?_;exact turn a ha,by refine rwb (Rt hinj) ?_;exact q⟩) hs
theorem EvE.Ql {α:Type} {l:List α} {f:α→D} {t:α→Bool} {g:α→D} {elt target iter c:Expr} {scope:Scope} {pos:Pos} (C:Cx A fm sc cn n) (hinj:∀ a b,f a = f b→a = b) (hok:Zs sc scope = true)
  (h:EvE B A fm ρ H iter (fun d H1=>∃ ext H2,Jn B A fm ρ H1 d (l.map f) true ext H2 ∧ H1.Perm (ext ++ H2) ∧ l.length ≤ 2 ^ 20 ∧
   (∀ a ∈ l,Iv B A sc n scope ρ H2 target (f a) fun fm H ρ1=>EvB B A fm ρ1 H c (fun b H4=>H4 = H ∧ b = t a) NoE ∧ (t a = true→EvE B A fm ρ1 H elt (Is (g a) H) NoE)) ∧ P (.lst ((l.filter t).map g)) H1) E) (hs:autoParam (∀ env x,foldedSetIterable iter env x = pure x) aI):EvE B A fm ρ H (.ListComp elt [⟨target,iter,[c],0⟩] scope pos) P E:=
 EvE.sz C hok (h.mono fun d H1 y=>el25 y fun ext H2 it hp hz turn q=>⟨_,via l f t false,via l f g .none,ext,H2,it,hp,by rw [length_map];exact hz,fun d hd=>by
  refine el12 (lM hd) fun a ha z2=>?_;subst z2;(refine rwb (Y0 hinj ha) (rwb (Y0 hinj ha) ?_));exact turn a ha,by
   refine rwb filter_map (rwb map_map ?_);have e1:l.filter (via l f t false ∘ f) = l.filter t:=filter_congr fun a ha=>Y0 hinj ha;refine rwb e1 (rwb (show (l.filter t).map (via l f g .none ∘ f) = (l.filter t).map g from map_congr_left fun a ha=>Y0 hinj (lF ha).1) ?_)
   exact q⟩) hs
theorem S1.Bf {α:Type} {l:List α} {f:α→D} {g:α→D} {x:Str} {p stpos:Pos} {elt target iter:Expr} {scope:Scope} {pos:Pos} (C:Cx A fm sc cn n) (hinj:∀ a b,f a = f b→a = b) (hk:Jj sc cn x = true) (hok:Zs sc scope = true)
  (hw:swapsWith (.ListComp elt [⟨target,iter,[],0⟩] scope pos) (some (.Name x p)) stpos.line (Ls sc) = pure true)
  (h:EvE B A fm ρ H iter (fun d H1=>∃ ext H2,Jn B A fm ρ H1 d (l.map f) true ext H2 ∧ H1.Perm (ext ++ H2) ∧ l.length ≤ 2 ^ 20 ∧
   (∀ a ∈ l,Iv B A sc n scope ρ H2 target (f a) fun fm H ρ1=>EvE B A fm ρ1 H elt (Is (g a) H) NoE) ∧ N (put x (.lst (l.map g)) ρ) H1) E) (hs:autoParam (∀ env x,foldedSetIterable iter env x = pure x) aI):Ex1 B A fm ρ H (.Assign [.Name x p] (.ListComp elt [⟨target,iter,[],0⟩] scope pos) stpos) N R E:=
 S1.Om C hk hok (fun g hg=>by exact rwb (lS hg) rfl) (Nat.zero_le _) hw (h.mono fun d H1 y=>el25 y fun ext H2 it hp hz turn q=>⟨_,fun d=>[via l f g .none d],ext,H2,it,N6 hp (by rw [length_map];exact hz) fun d hd=>by
  refine el12 (lM hd) fun a ha z2=>?_;subst z2
  refine rwb (Y0 hinj ha) ?_;exact turn a ha,by (rewrite [V8];refine rwb (Rt hinj) ?_);exact q⟩) hs
theorem S1.Ea {α:Type} {l:List α} {f:α→D} {t:α→Bool} {g:α→D} {x:Str} {p stpos:Pos} {elt target iter c:Expr} {scope:Scope} {pos:Pos} (C:Cx A fm sc cn n) (hinj:∀ a b,f a = f b→a = b) (hk:Jj sc cn x = true) (hok:Zs sc scope = true)
  (hw:swapsWith (.ListComp elt [⟨target,iter,[c],0⟩] scope pos) (some (.Name x p)) stpos.line (Ls sc) = pure true)
  (h:EvE B A fm ρ H iter (fun d H1=>∃ ext H2,Jn B A fm ρ H1 d (l.map f) true ext H2 ∧ H1.Perm (ext ++ H2) ∧ l.length ≤ 2 ^ 20 ∧
   (∀ a ∈ l,Iv B A sc n scope ρ H2 target (f a) fun fm H ρ1=>EvB B A fm ρ1 H c (fun b H4=>H4 = H ∧ b = t a) NoE ∧ (t a = true→EvE B A fm ρ1 H elt (Is (g a) H) NoE)) ∧ N (put x (.lst ((l.filter t).map g)) ρ) H1) E) (hs:autoParam (∀ env x,foldedSetIterable iter env x = pure x) aI):Ex1 B A fm ρ H (.Assign [.Name x p] (.ListComp elt [⟨target,iter,[c],0⟩] scope pos) stpos) N R E:=
 S1.Om C hk hok (fun g hg=>by exact rwb (lS hg) rfl) (le_refl _) hw (h.mono fun d H1 y=>el25 y fun ext H2 it hp hz turn q=>⟨_,fun d=>if via l f t false d then [via l f g .none d] else [],ext,H2,it,Ez hp (by rw [length_map];exact hz) fun d hd=>by
  refine el12 (lM hd) fun a ha z2=>?_;subst z2;(refine rwb (Y0 hinj ha) (rwb (Y0 hinj ha) ?_));exact turn a ha,by
   rewrite [X1];refine rwb filter_map (rwb map_map ?_);have e1:l.filter (via l f t false ∘ f) = l.filter t:=filter_congr fun a ha=>Y0 hinj ha;refine rwb e1 (rwb (show (l.filter t).map (via l f g .none ∘ f) = (l.filter t).map g from map_congr_left fun a ha=>Y0 hinj (lF ha).1) ?_)
   exact q⟩) hs
theorem Jm.jdf {B:Base} {A:Around} {F:Fz} {n:Nat} {a:Addr} {body:List Stmt} {scope:Scope} {x:Str} {d:D} {v:Value} {s:Shared} {P:D→Led→Prop} (S:Jm B a body scope [x] [])
  (g:GS B F [] { s with toks:=s.toks + 1 }) (hh:A.handled = none) (hdep:A.depth + (n + 1) ≤ 900) (hun:A.units + 60 * (n + 1) ≤ 9000) (hfr:A.frames = some [])
  (hok:V4 scope = true) (hfree:(scope.names.all fun p=>p.2 != .free) = true) (hx:scope.names.lookup x = some .local) (rv:Jd F v d)
  (h:∀ A' fm,A'.handled = none→Sk fm→Cx A' fm scope ((scope.names.filter fun p=>p.2 == .cell).map (·.1)) n→ExS B A' fm (put x d []) [] body (fun Z Z=>False) P NoE) :
  codeAny B.M A (.call (.ref a) ⟨[v],[]⟩) (fun r s'=>∃ v' d' F' H',r = .ok (.ret v') ∧ P d' H' ∧ Jd F' v' d' ∧ GS B F' H' s') s:=by
 revert S g hh hdep hun hfr hok hfree hx rv h;revert B A F n a body scope x d v s P;refine no_implicit_lambda% (G12 (h:=?_));refine (?_:A12 _) _ _ _ _ _ _ _ _ _ _ _ _;intro B A F n a body scope x d v s P S g hh hdep hun hfr hok hfree hx rv h;obtain ⟨o,fd,h1,h2,h3,h4,h5,h6,h7,h8,h9⟩:=S.ex;subst h4;obtain ⟨us,w1,w2,w3⟩:=h9 s [v] g.base rfl;have hus:us = []:=List.map_eq_nil_iff.mp w1;subst hus;have hok':=hok;simp only [V4,Bool.and_eq_true,Bool.not_eq_true'] at hok';refine codeAny_call_function (by show A.depth < 1000;lia) (g.base _ _ h1) h2 hok'.2 hok'.1.2 h3 (h8.keeps g.base) (w3 _ _ _ _ ?_);rw [h6,h7];have hcl:Vy fd.scope fd.closure [] F s.heap:=by rw [h5];exact Vy.nil hfree
 simp only [newFunctionEnv,Option.isSome_none,Bool.false_eq_true,if_false];refine wpAny_bind (wpAny_alloc ?_);refine wpAny_bind (wpAny_layCells _ (fun name kind cells=>by cases hkc:kind == NameKind.cell <;> simp [hkc]) _ _ _ _ ?_);rw [Zb];have e:({ s with heap:=s.heap.push { cls:=.type "frame",data:=.dict #[] } }:Shared).heap.objs.size = s.heap.objs.size + 1:=Heap.size_push ..;rw [e];have S0:=St.pn (qual:=fd.qualname ++ ".<locals>.") (a:=a) (code:=fd.code) (stk:=[]) g (fun Z h=>nomatch h) hok hcl;obtain ⟨m,hm,_⟩:=id S0.ns;rw [zip_cons_cons,List.zip_nil_left,append_nil,forIn_cons];refine wpAny_bind (wpAny_bind (wpAny_bind (wpAny_storeName_local (m:=m) hx hm (fun h' hn hs=>wpAny_pure ?_) (by show (fd.scope.kind == _ || _) = _;rw [show fd.scope.kind = .function by simpa using hok'.1.1.1];rfl))));dsimp only;rw [forIn_nil];refine wpAny_pure (wpAny_pure ?_);have S1:=S0.Tp (tk:=s.toks + 1) hx hm hn hs rv (le_refl _);refine ⟨S1.bk.lim.keeps S1.base,codeAny_func ?_⟩;have C:Cx (A.deeper (Gx fd.scope fd.closure (fd.qualname ++ ".<locals>.") a fd.code F [] s.heap []).env) (Gx fd.scope fd.closure (fd.qualname ++ ".<locals>.") a fd.code F [] s.heap []) fd.scope ((fd.scope.names.filter fun p=>p.2 == .cell).map (·.1)) n:=
  ⟨.inl hh,rfl,by show A.depth + 1 + n ≤ 900;lia,by show A.units + 3 + 60 * n ≤ 9000;lia,by show A.frames.map _ = _;rw [hfr];rfl,rfl⟩
 refine wpAny_mono (h (A.deeper (Gx fd.scope fd.closure (fd.qualname ++ ".<locals>.") a fd.code F [] s.heap []).env) _ (by exact hh) ⟨_,_,rfl,rfl⟩ C F _ S1) (fun fl s2 x2=>x2.elim (fun F2 ρ2 H2 l2 q S2=>q.elim) fun v F2 d H2 ρ2 l2 q rv S2=>⟨v,d,F2,H2,rfl,q,rv,S2.toGS⟩) fun Z Z x=>x.elim
theorem Tt {P:Params} {h:Heap} {F:Fz}:∀ {ns:List Int} {vs:List Value},WellAll P h vs (ofPys (ns.map PyData.int))→Jc F vs (ns.map D.int)
 | [],_,w=>by cases w;exact .nil
 | n :: ns,_,w=>by
  cases w with
  | cons a r=>cases a;exact .cons (.int _ _) (Tt r)
noncomputable abbrev T4:List (Addr × Addr):=[(51,47),(58,54),(295,293)]
set_option tactic.hygienic true in
theorem ns_none_of {K:Frag} {h:Heap} {a:Addr} {mg:Str→Option Value} {n:Str} (X:K.In h) (G:h.Ns a mg) (e:nsIn K a n = some none):mg n = none:=by
 revert X G e;revert K h a mg n;refine no_implicit_lambda% (G5 (h:=?_));refine (?_:A5 _) _ _ _ _ _;intro K h a mg n X G e;refine el34 G (no_implicit_lambda% (G3 (h:=?_)));refine (?_:A3 _) _ _ _;intro o es ep ho hd Z hf;unfold nsIn at e;split at e
 ·rename_i c d es' n' sl q;have:=X _ _ q;replace this:=ts ho this;obtain rfl:=oi this;cases hd;split at e
  ·cases e
  ·rename_i he;rw [← hf];unfold nsFind findBy;refine rwf (Array.find?_toList) (rwb he ?_);rfl
 ·contradiction
theorem Ja4 {w:World} {h:Heap} (X:(Gq w.params).In h) (h8:∀ P ∈ [293,54,47],h.get? P = some (tabObj #[])):TabsAt T4 h:=
 List.forall_mem_cons.mpr ⟨⟨codeHd_of_K X (by rfl),h8 _ (by decide)⟩,List.forall_mem_cons.mpr ⟨⟨codeHd_of_K X (by rfl),h8 _ (by decide)⟩,List.forall_mem_cons.mpr ⟨⟨codeHd_of_K X (by rfl),h8 _ (by decide)⟩,fun Z h=>nomatch h⟩⟩⟩
noncomputable def baseOf (w:World) (s:Shared) (mg mb:Str→Option Value):Base:=⟨w,s,ghostOf s.heap T4,mg,mb⟩
theorem Ay {p:Program} {loose:List Str} {mean:ExcName→Option Value} {mg mb:Str→Option Value} {w:World} {s:Shared} (T:Top p loose mean mg mb s.heap) (hT:TabsAt T4 s.heap) (X:(Gq w.params).In s.heap):(baseOf w s mg mb).Ok where
 g:=ghost_ns hT T.g
 b:=ghost_ns hT T.b
 lim:=let ⟨mc,a,r⟩:=T.nolimit;⟨mc,ghost_ns hT a,r⟩
 booked:=let ⟨mc,a,_⟩:=T.nodigits;⟨mc,ghost_ns hT a,ns_none_of X a (by rfl)⟩
 bs:=T.builtins
 bmain:=let ⟨bm,ob,a1,a2,a3,a4,r⟩:=T.bmain;⟨bm,ob,a1,a2,ghost_get hT a3 (fun q=>by rw [q] at a4;cases a4),a4,r⟩
 heads:=fun q hq=>by
  have hc:CodeAll T4 (ghostOf s.heap T4):=ghost_code hT;simp only [Vn,mem_cons,not_mem_nil,or_false] at hq
  rcases hq with rfl | rfl | rfl
  ·exact hc.1
  ·exact hc.2.1
  ·exact hc.2.2.1
end
section
variable {B:Base} {A:Around} {fm:Fm} {sc:Scope} {cn:List Str} {ρ:Loc} {E:Value→Shared→Prop} {F:Fz} {H:Led} {n:Nat} {P:D→Led→Prop} {N:Loc→Led→Prop} {R:D→Led→Prop}
theorem Xt (X:XB B):Jm B 136 (bodyOf 18) (Jh 18) ["a", "b", "c"] []:=Jm.of X (by rfl) rfl rfl rfl rfl rfl (by rfl) (Sr fun a b c=>rfl)
theorem Wn (X:XB B):Jm B 129 (bodyOf 17) (Jh 17) ["a", "b"] []:=Jm.of X (by rfl) rfl rfl rfl rfl rfl (by rfl) (all2 fun a b=>rfl)
theorem Lo (X:XB B) {a:Addr} {ds:List D} {k:Int} {d:D} {H':Led} (x:V6 a (ds.set k.toNat d) ds H H') (h0:0 ≤ k) (h1:k < ds.length) (hz:ds.length < 2 ^ 62):Fn B (n + 1) (.ref 136) [.ref a,.int k,d] H (Is .none H'):=by
 refine (Xt X).fn (by rfl) (by rfl) (by rfl) rfl fun A' fm C=>?_;refine Ss.cons (S1.setitem (EvE.loc C (by rfl) (EvE.loc C (by rfl) (EvE.loc C (by rfl) ⟨a,ds,k,H',rfl,rfl,x,h0,h1,hz,Ss.nil ⟨rfl,rfl⟩⟩))))
noncomputable def Idx (d:D) (ys:List Str):Prop:=(∃ x,d = .str x ∧ strIterType x = "str_ascii_iterator" ∧ ys = x.cps.toList.map fun c=>⟨#[c]⟩) ∨ d = .lst (ys.map .str)
theorem Ca {np pos p:Pos} {x:Str} {target:Expr} {d:D} {ys:List Str} {PP:List D→Led→Led→Prop} (hx:Idx d ys) (C:Cx A fm sc cn n) (hh:A.handled = none) (hk:sc.names.lookup ("enumerate":Str) = some .globalImplicit) (hm:B.mg "enumerate" = none) (ht:Qf target = true)
  (h1:sc.names.lookup x = some .local) (h2:ρ.lookup x = some d) (hn:(x == ("__debug__":Str)) = false) (h:PP ((ys.map D.str).zipIdx.map fun p=>D.tup [.int p.2,p.1]) [] H) :
  Y7 B A fm ρ H (.Call (.Name "enumerate" np) [.Name x p] [] pos) target PP E:=by
 rcases hx with ⟨z,rfl,hz,rfl⟩ | rfl
 ·refine Y7.jem C hh hk hm ht (EvE.loc C h2 ⟨z,rfl,hz,?_⟩ h1 hn);rw [map_map] at h;exact h
 ·exact Y7.jck C hh hk hm ht (EvE.loc C h2 ⟨_,rfl,h⟩ h1 hn)
noncomputable abbrev Ep:Str:="sequence.index(x): x not in sequence"
theorem Cb {y z:Str} {PB:Bool→Led→Prop} {pos:Pos} {l1 l2 l3 l4 p1 p2:Pos} (C:Cx A fm sc cn n) (h1:sc.names.lookup ("j":Str) = some .local) (h2:sc.names.lookup ("b":Str) = some .local) (hj:Has ρ "j" (.str z)) (hb:Has ρ "b" (.str y)) (h:PB (z == y) H) :
  EvB B A fm ρ H (.BoolOp .Or [.Compare (.Name "j" l1) [.Is] [.Name "b" l2] p1,.Compare (.Name "j" l3) [.Eq] [.Name "b" l4] p2] pos) PB E:=by
 refine EvB.or (EvB.zq (Lf.loc C hj h1) (Lf.loc C hb h2) (Op2.isS fun b e=>⟨b,rfl,?_⟩));cases b
 ·refine rwb (if_neg (by decide)) ?_;refine EvB.or (EvB.zq (Lf.loc C hj h1) (Lf.loc C hb h2) (Op2.jay ⟨_,rfl,?_⟩));cases q:(z == y)
  ·refine rwb (if_neg (by decide)) ?_;exact EvB.jeo (q ▸ h)
  ·refine rwb (if_pos rfl) ?_;exact q ▸ h
 ·refine rwb (if_pos rfl) ?_;(replace h:=(e rfl) ▸ h;rw [beq_self_eq_true] at h);exact h
theorem Ci (X:XB B) {d:D} {ys:List Str} {y:Str} {i:Nat} (hd:Idx d ys) (hi:ys[i]? = some y) (hmin:∀ j,j < i→ys[j]? ≠ some y):Fn0 B (n + 1) (.ref 129) [d,.str y] H (Is (.int i) H):=by
 revert X hd hi hmin;revert B H n d ys y i;refine no_implicit_lambda% (G7 (h:=?_));refine (?_:A7 _) _ _ _ _ _ _ _;intro B H n d ys y i X hd hi hmin;have hm:B.mg "enumerate" = none:=mgN X (by rfl);refine (Wn X).Pm (by rfl) (by rfl) (by rfl) rfl (no_implicit_lambda% (G2 (h:=?_)));refine (?_:A2 _) _ _;intro A' fm hh C;refine Ss.cons (S1.Nf (fun ds k ρ1 H1=>H1 = H ∧ Has ρ1 "b" (.str y) ∧ k ≤ i) C (Ca hd C hh (by rfl) hm (by rfl) (by rfl) (by rfl) (by decide) ⟨id,fun Z=>List.Perm.refl _,⟨rfl,by rfl,Nat.zero_le _⟩,?_,?_⟩))
 ·refine no_implicit_lambda% (G5 (h:=?_));refine (?_:A5 _) _ _ _ _ _;refine fun fm' k d' ρ1 H1 C' hd' zz=>V5 zz fun z0 hb hk=>?_;subst z0;(replace hd':=ts (List.getElem?_map) hd';replace hd':=(List.getElem?_zipIdx) ▸ hd';replace hd':=(List.getElem?_map) ▸ hd');refine el12 (map_eq_some_iff.mp hd') fun p hp z2=>?_;subst z2;refine el12 (map_eq_some_iff.mp hp) fun q hq z2=>?_;subst z2;refine el12 (map_eq_some_iff.mp hq) fun z hz z2=>?_;subst z2;refine Asg.tup C' rfl (Jg.cons (Asg.name C' (Jg.cons (Asg.name C' (Jg.nil ?_)))));refine Ss.cons (S1.xh (Cb C' (by rfl) (by rfl) Has.self hb.ne.ne ?_));cases e:(z == y)
  ·refine rwb (if_neg (by decide)) ?_;refine Ss.nil (Ss.nil ⟨rfl,hb.ne.ne,?_⟩)
   rcases Nat.lt_or_ge k i with q | q
   ·exact q
   ·have:k = i:=Nat.le_antisymm hk q;subst this;replace hz:=ts hi hz;obtain rfl:=oi hz;rw [beq_self_eq_true] at e;contradiction
  ·refine rwb (if_pos rfl) ?_;have ez:z = y:=eq_of_beq e;subst ez;refine Ss.cons (S1.ret (EvE.loc C' Has.self.ne ⟨?_,rfl⟩))
   rcases Nat.lt_or_ge k i with q | q
   ·exact absurd hz (hmin k q)
   ·have:k = i:=Nat.le_antisymm hk q;subst this;simp
 ·refine fun ρ1 H1 zz=>V5 zz fun z0 hb hk=>?_;subst z0
  exfalso
  have:=(lG hi).1;simp at hk;lia
theorem Am (X:XB B) {d:D} {ys:List Str} {y:Str} (hd:Idx d ys) (hno:y ∉ ys):FnX B 2 (.ref 129) [] [d,.str y] H "ValueError" [.str Ep]:=by
 have hm:B.mg "enumerate" = none:=mgN X (by rfl);refine (Wn X).jfl (by rfl) (by rfl) (by rfl) rfl fun A' fm E hh C hE hP=>?_;refine Ss.cons (S1.Nf (fun ds k ρ1 H1=>H1 = H ∧ Has ρ1 "b" (.str y)) C (Ca hd C hh (by rfl) hm (by rfl) (by rfl) (by rfl) (by decide) ⟨id,fun Z=>List.Perm.refl _,⟨rfl,by rfl⟩,?_,?_⟩))
 ·refine fun fm' k d' ρ1 H1 C' hd' zz=>Yd zz fun z0 hb=>?_;subst z0;(replace hd':=ts (List.getElem?_map) hd';replace hd':=(List.getElem?_zipIdx) ▸ hd';replace hd':=(List.getElem?_map) ▸ hd');refine el12 (map_eq_some_iff.mp hd') fun p hp z2=>?_;subst z2;refine el12 (map_eq_some_iff.mp hp) fun q hq z2=>?_;subst z2;refine el12 (map_eq_some_iff.mp hq) fun z hz z2=>?_;subst z2;refine Asg.tup C' rfl (Jg.cons (Asg.name C' (Jg.cons (Asg.name C' (Jg.nil ?_)))));refine Ss.cons (S1.xh (Cb C' (by rfl) (by rfl) Has.self hb.ne.ne ?_));have e:(z == y) = false:=by
   rw [beq_eq_false_iff_ne];intro e;subst e;exact hno (List.mem_of_getElem? hz)
  refine rwb e (rwb (if_neg (by decide)) ?_);exact Ss.nil (Ss.nil ⟨rfl,hb.ne.ne⟩)
 ·refine fun ρ1 H1 zz=>Yd zz fun z0 hb=>?_;subst z0;refine Ss.cons (ExT.toE (E:=Rz B fm H1 "ValueError" [.str Ep]) ?_ fun e s q=>hP e s (hE e s q));refine S1.raise PySem.F.excCall_ValueError PySem.F.excRaise_ValueError hh ?_;refine EvE.gu C (by rfl) (mgN X (by rfl)) PyProof.Rows.Boot.«ValueError» (by decide) ⟨rfl,?_⟩;exact EvL.lf Lf.str (EvL.nil ⟨rfl,by decide,fun p hp=>hp⟩)
theorem I8.of {B:Base} (X:XB B) {a:Addr} {kw:List (Str × Value)} {body:List Stmt} {scope:Scope} {names:List Str} {dflt:List (Str × D)} {ws:List (Str × Value)} {oc:Value} {od:Option Addr} {fd:FuncData} {osl:Array (Option Value)}
  (h1:(Gq B.w.params).lookup a = some ⟨oc,od,.func fd,osl⟩) (h2:fd.body = .stmts body) (h3:fd.scope = scope) (h4:fd.closure = []) (h5:fd.globals = mainGlobals) (h6:fd.builtins = builtinsNs) (h7:codeIn (Gq B.w.params) fd.code fd.qualname = true)
  (hw:ws.map (·.1) = dflt.map (·.1)) (hv:∀ F,Jc F (ws.map (·.2)) (dflt.map (·.2)))
  (h8:∀ vs:List Value,vs.length = names.length→bindArgs fd ⟨vs,kw⟩ = pure (names.zip vs ++ ws)):I8 B a kw body scope names dflt:=
 ⟨_,fd,X.k _ _ h1,rfl,h2,h3,h4,h5,h6,codeRec_of X.k h7,fun s vs Z hl=>⟨ws,hw,hv,BindsTo.of_eq (h8 vs hl)⟩⟩
theorem Yl (X:XB B) (b:Bool):I8 B 181 [("name",.bool b)] (J9 24 1) (Jt 24 1) ["self", "value"] [("name",.bool b)]:=
 I8.of (ws:=[("name",.bool b)]) X (by rfl) rfl rfl rfl rfl rfl (by rfl) rfl (fun F=>.cons (.bool b) .nil) (all2 fun a b=>rfl)
theorem Jb7 (X:XB B):X5 B.h 146 codeN:=⟨_,_,145,_,_,_,X.k _ _ (by rfl),rfl,rfl,rfl,rfl,rfl,rfl,X.k _ _ (by rfl),rfl,by decide +kernel⟩
theorem Jb6 (X:XB B):X5 B.h 151 V1:=⟨_,_,150,_,_,_,X.k _ _ (by rfl),rfl,rfl,rfl,rfl,rfl,rfl,X.k _ _ (by rfl),rfl,by decide +kernel⟩
noncomputable def M6 (b:Bool):Array Nat:=if b then codeN else V1
theorem Zv (X:XB B) {l:Addr} {x:Str} {b:Bool} (hf:found (M6 b) x = some .failed) (hz:(x.cps.size:Int) ≤ 2 ^ 63 - 1):FnK B (n + 1) (.ref 181) [("name",.bool b)] [.hdr l,.str x] H (Is (.str x) H):=by
 revert X hf hz;revert B H n l x b;refine no_implicit_lambda% (G6 (h:=?_));refine (?_:A6 _) _ _ _ _ _ _;intro B H n l x b X hf hz;refine (Yl X b).fn (by rfl) (by rfl) (by rfl) rfl (no_implicit_lambda% (G2 (h:=?_)));refine (?_:A2 _) _ _;intro A' fm C;refine Ss.cons (S1.xh (EvB.cmp ?_));refine EvE.call (EvE.gu C (by rfl) (mgN X (by rfl)) PyProof.Rows.Boot.«type» (by decide) ⟨_,Kp.type,EvL.lf (Lf.loc C (by rfl)) (EvL.nil (Cl.jce ?_))⟩);refine EvE.gu C (by rfl) (mgN X (by rfl)) PyProof.Rows.Boot.«str» (by decide) (Op2.isT ⟨_,rfl,?_⟩);refine rwb (if_pos (by decide)) ?_;refine Ss.cons (S1.assign C (EvE.I0 (EvB.plain (EvE.loc C (by rfl) ⟨b,Tru.bool,?_⟩))));have fin:∀ {ρ:Loc} {a:Addr},X5 B.h a (M6 b)→Has ρ "regex" (.val (.ref a))→Has ρ "value" (.str x)→ExS B A' fm ρ H (((J9 24 1).head?.elim [] fun st=>match st with | .If _ body _ _=>body | _=>[]).drop 1) (fun ρ1 H1=>ExS B A' fm ρ1 H1 ((J9 24 1).drop 1) (fun Z H'=>Is (.str x) H .none H') (Is (.str x) H) NoE) (Is (.str x) H) NoE:=fun {ρ a} hp h1 h2=>by
  refine Ss.cons (S1.xh (EvB.plain (EvE.J4 (Lf.loc C h1) ⟨_,Ji.pat hp,Kp.builtin,EvL.lf (Lf.loc C h2) (EvL.nil (Cl.jb1 hp hf hz ⟨false,Tru.none,?_⟩))⟩)));refine rwb (if_neg (by decide)) ?_;exact Ss.nil (Ss.cons (S1.ret (EvE.loc C h2 ⟨rfl,rfl⟩)))
 cases b
 ·refine rwb (if_neg (by decide)) ?_;exact EvE.tq C (mgX X (by rfl)) (fin (Jb6 X) Has.self (by rfl))
 ·refine rwb (if_pos rfl) ?_;exact EvE.tq C (mgX X (by rfl)) (fin (Jb7 X) Has.self (by rfl))
noncomputable abbrev Dz:Str:="Control characters not allowed in headers"
theorem Cg (X:XB B) {l:Addr} {x:Str} {b:Bool} (hf:found (M6 b) x = some .matched) (hz:(x.cps.size:Int) ≤ 2 ^ 63 - 1):FnX B 2 (.ref 181) [("name",.bool b)] [.hdr l,.str x] H "ValueError" [.str Dz]:=by
 revert X hf hz;revert B H l x b;refine no_implicit_lambda% (G5 (h:=?_));refine (?_:A5 _) _ _ _ _ _;intro B H l x b X hf hz;refine (Yl X b).fnX (by rfl) (by rfl) (by rfl) rfl (no_implicit_lambda% (G2 (h:=?_)));refine (?_:A2 _) _ _;intro A' fm hh C;refine Ss.cons (S1.xh (EvB.cmp ?_));refine EvE.call (EvE.gu C (by rfl) (mgN X (by rfl)) PyProof.Rows.Boot.«type» (by decide) ⟨_,Kp.type,EvL.lf (Lf.loc C (by rfl)) (EvL.nil (Cl.jce ?_))⟩);refine EvE.gu C (by rfl) (mgN X (by rfl)) PyProof.Rows.Boot.«str» (by decide) (Op2.isT ⟨_,rfl,?_⟩);refine rwb (if_pos (by decide)) ?_;refine Ss.cons (S1.assign C (EvE.I0 (EvB.plain (EvE.loc C (by rfl) ⟨b,Tru.bool,?_⟩))));have fin:∀ {ρ:Loc} {a:Addr} {N:Loc→Led→Prop} {R:D→Led→Prop},X5 B.h a (M6 b)→Has ρ "regex" (.val (.ref a))→Has ρ "value" (.str x)→ExS B A' fm ρ H (((J9 24 1).head?.elim [] fun st=>match st with | .If _ body _ _=>body | _=>[]).drop 1) N R (Rz B fm H "ValueError" [.str Dz]):=fun {ρ a N R} hp h1 h2=>by
  refine Ss.cons (S1.xh (EvB.plain (EvE.J4 (Lf.loc C h1) ⟨_,Ji.pat hp,Kp.builtin,EvL.lf (Lf.loc C h2) (EvL.nil (Cl.jb0 hp hf hz fun b0 o0 c0=>⟨true,Tru.match c0,?_⟩))⟩)));refine rwb (if_pos rfl) ?_;refine Ss.cons (S1.raise PySem.F.excCall_ValueError PySem.F.excRaise_ValueError hh ?_);refine EvE.gu C (by rfl) (mgN X (by rfl)) PyProof.Rows.Boot.«ValueError» (by decide) ⟨rfl,?_⟩;exact EvL.lf Lf.str (EvL.nil ⟨rfl,by decide,fun p hp=>hp⟩)
 cases b
 ·refine rwb (if_neg (by decide)) ?_;exact EvE.tq C (mgX X (by rfl)) (fin (Jb6 X) Has.self (by rfl))
 ·refine rwb (if_pos rfl) ?_;exact EvE.tq C (mgX X (by rfl)) (fin (Jb7 X) Has.self (by rfl))
noncomputable abbrev tab (hs:List (Str × Str)):List D:=hs.map fun p=>.tup [.str p.1,.str p.2]
structure Pr (x:Str):Prop where
 c:∀ c ∈ x.cps.toList,32 ≤ c ∧ c < 127
 z:x.length ≤ 2 ^ 20
theorem Pr.found {x:Str} (h:Pr x) (b:Bool):found (M6 b) x = some .failed:=Hc (by unfold M6;cases b <;> simp) fun k hk=>by
 have e:x.cps.getD k 0 = x.cps[k]:=by simp [Array.getD,hk]
 rw [e];exact h.c _ (by simp)
theorem Pr.size {x:Str} (h:Pr x):(x.cps.size:Int) ≤ 2 ^ 63 - 1:=by have:=h.z;show ((x.length:Nat):Int) ≤ _;lia
noncomputable def Wq (x:Str):Str:=⟨x.cps.map lo1⟩
noncomputable def upS (x:Str):Str:=⟨x.cps.map up1⟩
theorem Pr.a {x:Str} (h:Pr x):∀ c ∈ x.cps.toList,c < 128:=fun c hc=>by have:=h.c c hc;lia
theorem Pr.low {x:Str} (h:Pr x):Pr (Wq x) where
 c:=fun c hc=>by
  have hc:c ∈ (x.cps.map lo1).toList:=hc;rw [Array.toList_map,mem_map] at hc;obtain ⟨d,hd,rfl⟩:=hc;have:=h.c d hd;unfold lo1;split <;> lia
 z:=by show (x.cps.map lo1).size ≤ _;rw [Array.size_map];exact h.z
theorem Pr.up {x:Str} (h:Pr x):Pr (upS x) where
 c:=fun c hc=>by
  have hc:c ∈ (x.cps.map up1).toList:=hc;rw [Array.toList_map,mem_map] at hc;obtain ⟨d,hd,rfl⟩:=hc;have:=h.c d hd;unfold up1;split <;> omega
 z:=by show (x.cps.map up1).size ≤ _;rw [Array.size_map];exact h.z
theorem Pr.fit {x:Str} (h:Pr x):Builtin.Str.tooLong x.length = false:=by
 have:=h.z;unfold Builtin.Str.tooLong;refine rwb sizeLine_eq ?_;simp;lia
theorem Cl.X6 {P:D→Led→Prop} {x:Str} (hx:Pr x) (h:P (.str (Wq x)) H):Jp B A fm ρ H (.builtin "str.lower") [.str x] P E:=by
 have e:=lower_ascii hx.a;exact Cl.lower (by refine rwb e ?_;exact hx.low.fit) (by refine rwb e ?_;exact h)
theorem Cl.xg {P:D→Led→Prop} {x:Str} (hx:Pr x) (h:P (.str (upS x)) H):Jp B A fm ρ H (.builtin "str.upper") [.str x] P E:=by
 have e:=upper_ascii hx.a;exact Cl.upper (by refine rwb e ?_;exact hx.up.fit) (by refine rwb e ?_;exact h)
theorem Zl {x:Str}:Ji B H (.str x) "lower" (.builtin "str.lower"):=Ji.str PySem.F.slot_str_lower PySem.F.type_str_lower
theorem Y4 {x:Str}:Ji B H (.str x) "upper" (.builtin "str.upper"):=Ji.str PySem.F.slot_str_upper PySem.F.type_str_upper
theorem Yk (X:XB B) {l:Addr}:Ji B H (.hdr l) "_convert_string_type" (.ref 181):=Ji.hdr X.k (by rfl) (by rfl) (by rfl) (by decide)
theorem O0 (X:XB B):Jm B 232 (J9 24 9) (Jt 24 9) ["self"] []:=Jm.of X (by rfl) rfl rfl rfl rfl rfl (by rfl) (all1 fun a=>rfl)
theorem Oy (X:XB B):Jm B 237 (J9 24 10) (Jt 24 10) ["self"] []:=Jm.of X (by rfl) rfl rfl rfl rfl rfl (by rfl) (all1 fun a=>rfl)
theorem Wm (X:XB B):Jm B 244 (J9 24 11) (Jt 24 11) ["self"] []:=Jm.of X (by rfl) rfl rfl rfl rfl rfl (by rfl) (all1 fun a=>rfl)
theorem EvE.hd {P:D→Led→Prop} {value:Expr} {pos:Pos} (X:XB B) (h:EvE B A fm ρ H value (Jcd P) E)
  (he:autoParam (∀ env,eval (.Attribute value "_headers" pos) env = (do
   let o ← eval value env
   standAt pos.atName
   let r ← holding [o] (getAttr o "_headers" true)
   letTemporaryGo value o r
   pure r)) aI) (hv:autoParam (∀ v r,letTemporaryGo value v r = pure ()) aI):EvE B A fm ρ H (.Attribute value "_headers" pos) P E:=
 EvE.headers X.k h (by rfl) (by rfl) (by rfl) (by rfl) he hv
theorem E1 (X:XB B) {l:Addr} {hs:List (Str × Str)} (hl:(l,tab hs) ∈ H) (hz:hs.length ≤ 2 ^ 20):Fn B (n + 1) (.ref 232) [.hdr l] H (Is (.lst (hs.map fun p=>.str p.1)) H):=by
 refine el11 (Z8 hl) fun H2 hp=>?_;refine (O0 X).fn (by rfl) (by rfl) (by rfl) rfl fun A' fm C=>?_;refine Ss.cons (S1.ret (EvE.Po C (by rfl) (EvE.hd X (EvE.loc C (by rfl) ⟨l,rfl,tab hs,fun d=>match d with | .tup (k :: _)=>k | d=>d,[(l,tab hs)],H2,Jn.own hp,hp,by rw [length_map];exact hz,?_,?_,rfl⟩))))
 ·intro d hd D' fm' out C';refine el12 (lM hd) fun p hp z2=>?_;subst z2;refine Asg.tup C' rfl (Jg.cons (Asg.name C' (Jg.cons (Asg.name C' (Jg.nil ⟨rfl,fun x e q=>?_,fun fm2 out2 C2=>?_⟩)))))
  ·contradiction
  ·exact EvE.loc C2 (by rfl) ⟨rfl,rfl⟩
 ·refine rwb map_map ?_;rfl
theorem An (X:XB B) {l:Addr} {hs:List (Str × Str)} (hl:(l,tab hs) ∈ H) (hz:hs.length ≤ 2 ^ 20):Fn B (n + 1) (.ref 237) [.hdr l] H (Is (.lst (hs.map fun p=>.str p.2)) H):=by
 refine el11 (Z8 hl) fun H2 hp=>?_;refine (Oy X).fn (by rfl) (by rfl) (by rfl) rfl fun A' fm C=>?_;refine Ss.cons (S1.ret (EvE.Po C (by rfl) (EvE.hd X (EvE.loc C (by rfl) ⟨l,rfl,tab hs,fun d=>match d with | .tup [_,v]=>v | d=>d,[(l,tab hs)],H2,Jn.own hp,hp,by rw [length_map];exact hz,?_,?_,rfl⟩))))
 ·intro d hd D' fm' out C';refine el12 (lM hd) fun p hp z2=>?_;subst z2;refine Asg.tup C' rfl (Jg.cons (Asg.name C' (Jg.cons (Asg.name C' (Jg.nil ⟨rfl,fun x e q=>?_,fun fm2 out2 C2=>?_⟩)))))
  ·contradiction
  ·exact EvE.loc C2 (by rfl) ⟨rfl,rfl⟩
 ·refine rwb map_map ?_;rfl
theorem Uw (X:XB B) {l:Addr} {hs:List (Str × Str)} (hl:(l,tab hs) ∈ H) (hz:hs.length ≤ 2 ^ 20):Fn B (n + 1) (.ref 244) [.hdr l] H (fun d H'=>∃ b,d = .ref b ∧ H' = (b,tab hs) :: H):=by
 refine (Wm X).fn (by rfl) (by rfl) (by rfl) rfl fun A' fm C=>?_;refine Ss.cons (S1.ret (EvE.bg (EvE.hd X (EvE.loc C (by rfl) ⟨l,rfl,EvP.none (EvP.none (EvP.none (Zx.jfa hl (by decide) ?_ fun b=>⟨b,rfl,?_⟩)))⟩))))
 ·rw [length_map];exact le_trans hz (by rw [sizeLine_eq];decide)
 ·rw [B5]
theorem Jdj {ext H2:Led} (hp:H.Perm (ext ++ H2)):∃ wr:Led→Led,(∀ H',(wr H').Perm (ext ++ H')) ∧ wr H2 = H:=by
 classical
 refine ⟨fun H'=>if H' = H2 then H else ext ++ H',fun H'=>?_,if_pos rfl⟩;dsimp only;split
 ·rename_i q;refine rwb q ?_;exact hp
 ·exact List.Perm.refl _
theorem Oe (X:XB B):Jm B 227 (J9 24 8) (Jt 24 8) ["self", "name"] [("default",.none)]:=by
 refine ⟨_,_,X.k _ _ (by rfl),rfl,rfl,rfl,rfl,rfl,rfl,codeRec_of X.k (by rfl),fun s vs hb h=>⟨[("default",.none)],rfl,fun F=>.cons .none .nil,?_⟩⟩;revert vs;exact all2 fun Z Z=>kp_binds (X.k.keeps hb) fun S=>by rfl
theorem Gy (X:XB B):Jm B 219 (J9 24 7) (Jt 24 7) ["self", "name"] []:=Jm.of X (by rfl) rfl rfl rfl rfl rfl (by rfl) (all2 fun a b=>rfl)
noncomputable def Yi (x y:Str):Bool:=Wq x == Wq y
noncomputable abbrev PrT (hs:List (Str × Str)):Prop:=∀ p ∈ hs,Pr p.1
noncomputable def Ta (hs:List (Str × Str)) (x:Str):Option Str:=(hs.find? fun p=>Yi p.1 x).map (·.2)
noncomputable def D.os:Option Str→D
 | some x=>.str x
 | Option.none=>.none
theorem E6 {α:Type} {t:α→Bool}:∀ {l:List α} {i:Nat} {p:α},l[i]? = some p→t p = true→(∀ q ∈ l.take i,t q = false)→l.find? t = some p
 | a :: l,0,p,h,ht,_=>by
  simp at h;subst h;refine rwb (List.find?_cons) ?_;exact rwb ht rfl
 | a :: l,i + 1,p,h,ht,hq=>by
  refine rwb (List.find?_cons) (rwb (hq a (by simp)) ?_);exact E6 (by simpa using h) ht fun q hm=>hq q (by simp [hm])
theorem Jbp {α:Type} {t:α→Bool} {l:List α} (h:∀ q ∈ l,t q = false):l.find? t = none:=by
 rw [List.find?_eq_none];intro q hq;rw [h q hq];decide
theorem fn_get (X:XB B) {l:Addr} {hs:List (Str × Str)} {x:Str} (hl:(l,tab hs) ∈ H) (hx:Pr x) (hp:PrT hs):Fn B (n + 3) (.ref 227) [.hdr l,.str x] H (Is (.os (Ta hs x)) H):=by
 revert X hl hx hp;revert B H n l hs x;refine no_implicit_lambda% (G6 (h:=?_));refine (?_:A6 _) _ _ _ _ _ _;intro B H n l hs x X hl hx hp;refine el11 (Z8 hl) fun H2 hperm=>?_;refine el12 (Jdj (ext:=[(l,tab hs)]) hperm) fun wr w1 w2=>?_;refine (Oe X).fn (by rfl) (by rfl) (by rfl) rfl (no_implicit_lambda% (G1 (h:=?_)));refine (?_:A1 _) _;intro A' fm C;refine Ss.cons (S1.assign C (EvE.xk (EvE.loc C (by rfl) ⟨_,Yk X,Kp.xl (Yl X true),?_⟩)));refine EvL.cons (EvE.J4 (Lf.loc C (by rfl)) ⟨_,Zl,Kp.builtin,EvL.nil (Cl.X6 hx (EvL.nil ?_))⟩);refine FnK.is C (Zv X (hx.low.found true) hx.low.size) (Nat.le_add_left _ _) ?_;refine Ss.cons (S1.Nf (fun ds i ρ1 H1=>H1 = H2 ∧ ds = tab hs ∧ Has ρ1 "name" (.str (Wq x)) ∧ Has ρ1 "default" .none ∧ ∀ p ∈ hs.take i,Yi p.1 x = false) C (Y7.of (EvE.hd X (EvE.loc C (by rfl) ⟨l,rfl,tab hs,true,[(l,tab hs)],H2,Jn.own hperm,wr,w1,?_,?_,?_⟩))))
 ·exact ⟨rfl,rfl,by rfl,by rfl,fun p hp=>by simp at hp⟩
 ·rintro fm' i d' ρ1 H1 C' hd' ⟨rfl,-,hn,hdf,hi⟩;replace hd':=ts (List.getElem?_map) hd';refine el12 (map_eq_some_iff.mp hd') fun z0 hkv z2=>?_;obtain ⟨k,v⟩:=z0;subst z2;have hk:Pr k:=hp _ (List.mem_of_getElem? hkv);refine Asg.tup C' rfl (Jg.cons (Asg.name C' (Jg.cons (Asg.name C' (Jg.nil ?_)))));refine Ss.cons (S1.xh (EvB.cmp (EvE.J4 (Lf.loc C' Has.self.ne) ⟨_,Zl,Kp.builtin,EvL.nil (Cl.X6 hk (EvE.loc C' hn.ne.ne (Op2.jay ⟨_,rfl,?_⟩)))⟩)));cases e:(Wq k == Wq x)
  ·rw [if_neg (by decide)];refine Ss.nil (Ss.nil ⟨rfl,rfl,hn.ne.ne,hdf.ne.ne,fun p hp=>?_⟩);refine el11 (lG hkv) fun h1 h2=>?_;(replace hp:=(take_succ_eq_append_getElem h1) ▸ hp;replace hp:=h2 ▸ hp)
   rcases lA hp with hp | hp
   ·exact hi p hp
   ·rw [lS hp];exact e
  ·rw [if_pos rfl];refine Ss.cons (S1.ret (EvE.loc C' Has.self ⟨?_,w2⟩));unfold Ta;rw [E6 hkv e hi];rfl
 ·rintro ρ1 H1 ⟨rfl,-,hn,hdf,hi⟩;rw [w2];refine Ss.nil (Ss.cons (S1.ret (EvE.loc C hdf ⟨?_,rfl⟩)));unfold Ta;rw [Jbp fun q hq=>hi q (by rw [length_map,take_length];exact hq)];rfl
noncomputable def A0 (hs:List (Str × Str)) (x:Str):List Str:=(hs.filter fun p=>Yi p.1 x).map (·.2)
theorem Ud (X:XB B) {l:Addr} {hs:List (Str × Str)} {x:Str} (hl:(l,tab hs) ∈ H) (hx:Pr x) (hp:PrT hs) (hz:hs.length ≤ 2 ^ 20):Fn B (n + 3) (.ref 219) [.hdr l,.str x] H (Is (.lst ((A0 hs x).map .str)) H):=by
 revert X hl hx hp hz;revert B H n l hs x;refine no_implicit_lambda% (G6 (h:=?_));refine (?_:A6 _) _ _ _ _ _ _;intro B H n l hs x X hl hx hp hz;refine el11 (Z8 hl) fun H2 hperm=>?_;refine (Gy X).fn (by rfl) (by rfl) (by rfl) rfl (no_implicit_lambda% (G1 (h:=?_)));refine (?_:A1 _) _;intro A' fm C;refine Ss.cons (S1.assign C (EvE.xk (EvE.loc C (by rfl) ⟨_,Yk X,Kp.xl (Yl X true),?_⟩)));refine EvL.cons (EvE.J4 (Lf.Vl C (by rfl)) ⟨_,Zl,Kp.builtin,EvL.nil (Cl.X6 hx (EvL.nil ?_))⟩);refine FnK.is C (Zv X (hx.low.found true) hx.low.size) (Nat.le_add_left _ _) ?_;refine Ss.cons (S1.ret (EvE.sz C (by rfl) (EvE.hd X (EvE.loc C (by rfl) ⟨l,rfl,tab hs,fun d=>match d with | .tup (.str k :: _)=>Yi k x | _=>false,fun d=>match d with | .tup [_,v]=>v | d=>d,[(l,tab hs)],H2,Jn.own hperm,hperm,by rw [length_map];exact hz,?_,?_,rfl⟩))))
 ·intro d hd D' fm' out C';refine el12 (lM hd) fun p hpm z2=>?_;subst z2;have hk:Pr p.1:=hp p hpm;refine Asg.name C' ⟨rfl,fun y e q=>?_,fun fm2 out2 C2=>⟨?_,fun Z=>?_⟩⟩
  ·exact Q0 (by rfl) y e q
  ·refine EvB.cmp (EvE.ij (EvE.J7 (Lf.loc C2 (by rfl)) Lf.int (Op2.Qv (j:=0) (d:=.str p.1) rfl (by decide) (by decide) (by rfl) (by rfl) ⟨_,Zl,Kp.builtin,EvL.nil (Cl.X6 hk (EvE.Vl C2 (by rfl) (Op2.jay ⟨_,rfl,rfl,rfl⟩)))⟩)))
  ·exact EvE.J7 (Lf.loc C2 (by rfl)) Lf.int (Op2.Qv (j:=1) rfl (by decide) (by decide) (by rfl) (by rfl) ⟨rfl,rfl⟩)
 ·unfold A0 tab;refine rwb filter_map (rwb map_map (rwb map_map ?_));rfl
theorem T8 (hs:List (Str × Str)) (x v:Str):tab (hs ++ [(x,v)]) = tab hs ++ [.tup [.str x,.str v]]:=by unfold tab;refine rwb map_append ?_;rfl
theorem Xu (X:XB B):Jm B 270 (J9 24 15) (Jt 24 15) ["self", "name", "value"] []:=Jm.of X (by rfl) rfl rfl rfl rfl rfl (by rfl) (Sr fun a b c=>rfl)
theorem Li (X:XB B) {l:Addr}:Ji B H (.hdr l) "get" (.ref 227):=Ji.hdr X.k (by rfl) (by rfl) (by rfl) (by decide)
theorem Mn (X:XB B) {l:Addr} {hs:List (Str × Str)} {x v:Str} {H1:Led} (hl:V6 l (tab (hs ++ [(x,v)])) (tab hs) H H1) (hx:Pr x) (hv:Pr v) (hp:PrT hs) (hz:hs.length ≤ 2 ^ 20):Fn B (n + 4) (.ref 270) [.hdr l,.str x,.str v] H
  (fun d H'=>match Ta hs x with | some r=>d = .str r ∧ H' = H | none=>d = .str v ∧ H' = H1):=by
 revert X hl hx hv hp hz;revert B H n l hs x v H1;refine no_implicit_lambda% (G8 (h:=?_));refine (?_:A8 _) _ _ _ _ _ _ _ _;intro B H n l hs x v H1 X hl hx hv hp hz;refine (Xu X).fn (by rfl) (by rfl) (by rfl) rfl (no_implicit_lambda% (G2 (h:=?_)));refine (?_:A2 _) _ _;intro A' fm C;refine Ss.cons (S1.assign C (EvE.J4 (Lf.loc C (by rfl)) ⟨_,Li X,Kp.xl (Oe X),EvL.lf (Lf.loc C (by rfl)) (EvL.nil (Fn.is C (fn_get X hl.mem hx hp) (le_refl _) ?_))⟩));cases e:Ta hs x with
 | some r=>
  refine Ss.cons (S1.xh (EvB.zq (Lf.loc C Has.self) Lf.none (Op2.isN (b:=false) rfl ⟨_,rfl,?_⟩)));refine rwb (if_neg (by decide)) ?_;exact Ss.cons (S1.ret (EvE.loc C Has.self ⟨rfl,rfl⟩))
 | none=>
  refine Ss.cons (S1.xh (EvB.zq (Lf.loc C Has.self) Lf.none (Op2.isN (b:=true) rfl ⟨_,rfl,?_⟩)));refine rwb (if_pos rfl) ?_;refine Ss.cons (S1.expr (EvE.ij (EvE.hd X (EvE.loc C (by rfl) ⟨l,rfl,_,Ji.list hl.mem PySem.F.slot_list_append PySem.F.type_list_append,Kp.builtin,?_⟩))));refine EvL.cons (EvE.tup ?_);refine EvL.cons (EvE.xk (EvE.loc C (by rfl) ⟨_,Yk X,Kp.xl (Yl X true),EvL.lf (Lf.loc C (by rfl)) (EvL.nil (FnK.is C (Zv X (hx.found true) hx.size) (Nat.le_add_left _ _) ?_))⟩));refine EvL.cons (EvE.xk (EvE.loc C (by rfl) ⟨_,Yk X,Kp.xl (Yl X false),EvL.lf (Lf.loc C (by rfl)) (EvL.nil (FnK.is C (Zv X (hv.found false) hv.size) (Nat.le_add_left _ _) ?_))⟩));refine EvL.nil (OpN.tuple (EvL.nil (Cl.append (by rw [← T8];exact hl) (by rw [length_map];exact le_trans hz (by refine rwb sizeLine_eq ?_;decide)) ?_)));exact Ss.cons (S1.ret (EvE.loc C (by rfl) ⟨rfl,rfl⟩))
theorem Cl.jeg {y x:Str} (hz:JoinOk y [x] = true) (h:P (.str x) H):Jp B A fm ρ H (.builtin "str.join") [.str y,.lst [.str x]] P E:=fun F s vs S rv=>by
 refine Ru rv fun v u r1 r2=>?_;refine r1.zt fun t Z=>?_;refine r2.Mc fun a vs k ha hr=>?_;refine el12 (one hr) fun w z1 rw'=>?_;subst z1;refine el11 rw'.je6 fun tx z1=>?_;subst z1;unfold JoinOk at hz;rw [Bool.not_eq_true'] at hz;exact call_meets PySem.F.slot_str_join (typeIs_str _ _ _) PySem.F.entry_str_join (PySem.F.args_str_join_2 _ _) (meets_str_join_list y t a [(x,tx)] hz) ⟨⟨_,S.froz _ _ ha,rfl,_,rfl⟩,here h (Fz.le.refl F) rw' S⟩
theorem Ah {x:Str}:Ji B H (.str x) "join" (.builtin "str.join"):=Ji.str PySem.F.slot_str_join PySem.F.type_str_join
theorem Yv (X:XB B):C0 B 277 (J9 24 16) (Jt 24 16) ["self", "_name", "_value"] "_params" :=
 ⟨_,_,X.k _ _ (by rfl),rfl,rfl,rfl,rfl,rfl,rfl,codeRec_of X.k (by rfl),(Sr fun a b c=>rfl)⟩
theorem Cw {m:Nat} {A':Around} {fm:Fm} {l p a:Addr} {x v:Str} {ρ:Loc} {H:Led} {N:Loc→Led→Prop} {R:D→Led→Prop} {E:Value→Shared→Prop} (C:Cx A' fm (Jt 24 16) (I6 (Jt 24 16)) m) (hh:A'.handled = none) (hp:(p == sysModules) = false)
  (h1:Has ρ "self" (.hdr l)) (h2:Has ρ "_name" (.str x)) (h3:Has ρ "_value" (.str v)) (h4:Has ρ "parts" (.ref a)) (h5:Has ρ "_params" (.fro p Zw)) (ha:fm.h₁.get? a = none)
  (h:∀ ρ1,Has ρ1 "self" (.hdr l)→Has ρ1 "_name" (.str x)→Has ρ1 "parts" (.lst [.str v])→ExS B A' fm ρ1 H ((J9 24 16).drop 3) N R E) :
  ExS B A' fm ρ ((a,[.str v]) :: H) ((J9 24 16).drop 2) N R E:=by
 refine Ss.cons (S1.Nf (fun ds i ρ1 H1=>H1 = (a,[.str v]) :: H ∧ ds = [] ∧ Has ρ1 "self" (.hdr l) ∧ Has ρ1 "_name" (.str x) ∧ Has ρ1 "parts" (.ref a)) C (Y7.jdc C hh (by rfl) h5 (by decide) hp ⟨id,fun Z=>List.Perm.refl _,⟨rfl,rfl,h1,h2,h4⟩,?_,?_⟩))
 ·rintro fm' i d' ρ1 H1 C' hd' Z;simp at hd'
 ·rintro ρ1 H1 ⟨rfl,-,h1,h2,h4⟩;refine Ss.nil ?_;refine ExT.freeze C h4 (.inl (by rfl)) ha ?_;exact h _ h1.ne h2.ne Has.self
theorem Qr (X:XB B) {l:Addr} {hs:List (Str × Str)} {x v:Str} {H1:Led} (hl:V6 l (tab (hs ++ [(x,v)])) (tab hs) H H1) (hx:Pr x) (hv:Pr v) (hz:hs.length ≤ 2 ^ 20):Fn0 B (n + 3) (.ref 277) [.hdr l,.str x,.str v] H (Is .none H1):=by
 refine (Yv X).Pm (by rfl) (by rfl) (by rfl) rfl fun A' fm p hp hh C=>?_;refine Ss.cons (S1.assign C (EvE.lst (EvL.nil (OpN.Nd fun a ha=>?_))));refine Ss.cons (S1.xh (EvB.zq (Lf.loc C (by rfl)) Lf.none (Op2.jat (b:=false) rfl ⟨_,rfl,?_⟩)));refine rwb (if_pos (by decide)) ?_;refine Ss.cons (S1.assign C (EvE.xk (EvE.loc C (by rfl) ⟨_,Yk X,Kp.xl (Yl X false),EvL.lf (Lf.loc C (by rfl)) (EvL.nil (FnK.is C (Zv X (hv.found false) hv.size) (Nat.le_add_left _ _) ?_))⟩)));refine Ss.cons (S1.expr (EvE.J4 (Lf.loc C (by rfl)) ⟨_,Ji.list (.head _) PySem.F.slot_list_append PySem.F.type_list_append,Kp.builtin,EvL.lf (Lf.loc C (by rfl)) (EvL.nil (Cl.append .head (by decide) ?_))⟩));refine Ss.nil (Cw C hh hp (by rfl) (by rfl) (by rfl) (by rfl) (by rfl) ha fun ρ1 h1 h2 h4=>?_);refine Ss.cons (S1.expr (EvE.ij (EvE.hd X (EvE.loc C h1 ⟨l,rfl,_,Ji.list hl.mem PySem.F.slot_list_append PySem.F.type_list_append,Kp.builtin,?_⟩))));refine EvL.cons (EvE.tup ?_);refine EvL.cons (EvE.xk (EvE.loc C h1 ⟨_,Yk X,Kp.xl (Yl X true),EvL.lf (Lf.loc C h2) (EvL.nil (FnK.is C (Zv X (hx.found true) hx.size) (Nat.le_add_left _ _) ?_))⟩));refine EvL.cons (EvE.J4 Lf.str ⟨_,Ah,Kp.builtin,EvL.lf (Lf.loc C h4) (EvL.nil (Cl.jeg ?_ ?_))⟩)
 ·have:=hv.z;unfold JoinOk Builtin.Str.tooLong;refine rwb sizeLine_eq ?_;show (!decide (0 + v.length + _ > _)) = true;have e:PySem.Str.length "; " = 2:=by decide
  simp;lia
 refine EvL.nil (OpN.tuple (EvL.nil (Cl.append (by rw [← T8];exact hl) (by rw [length_map];exact le_trans hz (by refine rwb sizeLine_eq ?_;decide)) ?_)));exact Ss.nil ⟨rfl,rfl⟩
theorem Hf (X:XB B) {l:Addr} {x v:Str} (hv:found V1 v = some .matched) (hz:(v.cps.size:Int) ≤ 2 ^ 63 - 1):FnX B 3 (.ref 277) [] [.hdr l,.str x,.str v] H "ValueError" [.str Dz]:=by
 refine (Yv X).fnX (by rfl) (by rfl) (by rfl) rfl fun A' fm p hp hh C=>?_;refine Ss.cons (S1.assign C (EvE.lst (EvL.nil (OpN.Nd fun a ha=>?_))));refine Ss.cons (S1.xh (EvB.zq (Lf.loc C (by rfl)) Lf.none (Op2.jat (b:=false) rfl ⟨_,rfl,?_⟩)));refine rwb (if_pos (by decide)) ?_;refine Ss.cons (S1.assign C (EvE.xk (EvE.loc C (by rfl) ⟨_,Yk X,Kp.xl (Yl X false),EvL.lf (Lf.loc C (by rfl)) (EvL.nil ?_)⟩)));exact FnX.opK C hh (Cg X hv hz) (le_refl _) fun q hq=>.tail _ hq
theorem He (X:XB B) {l:Addr} {hs:List (Str × Str)} {x v:Str} (hl:(l,tab hs) ∈ H) (hv:found V1 v = some .failed) (hvz:(v.cps.size:Int) ≤ 2 ^ 63 - 1) (hx:found codeN x = some .matched) (hxz:(x.cps.size:Int) ≤ 2 ^ 63 - 1):FnX B 3 (.ref 277) [] [.hdr l,.str x,.str v] H "ValueError" [.str Dz]:=by
 refine (Yv X).fnX (by rfl) (by rfl) (by rfl) rfl fun A' fm p hp hh C=>?_;refine Ss.cons (S1.assign C (EvE.lst (EvL.nil (OpN.Nd fun a ha=>?_))));refine Ss.cons (S1.xh (EvB.zq (Lf.loc C (by rfl)) Lf.none (Op2.jat (b:=false) rfl ⟨_,rfl,?_⟩)));refine rwb (if_pos (by decide)) ?_;refine Ss.cons (S1.assign C (EvE.xk (EvE.loc C (by rfl) ⟨_,Yk X,Kp.xl (Yl X false),EvL.lf (Lf.loc C (by rfl)) (EvL.nil (FnK.is C (Zv X (b:=false) hv hvz) (le_refl _) ?_))⟩)));refine Ss.cons (S1.expr (EvE.J4 (Lf.loc C (by rfl)) ⟨_,Ji.list (.head _) PySem.F.slot_list_append PySem.F.type_list_append,Kp.builtin,EvL.lf (Lf.loc C (by rfl)) (EvL.nil (Cl.append .head (by decide) ?_))⟩));refine Ss.nil (Cw C hh hp (by rfl) (by rfl) (by rfl) (by rfl) (by rfl) ha fun ρ1 h1 h2 h4=>?_);refine Ss.cons (S1.expr (EvE.ij (EvE.hd X (EvE.loc C h1 ⟨l,rfl,_,Ji.list hl PySem.F.slot_list_append PySem.F.type_list_append,Kp.builtin,?_⟩))));refine EvL.cons (EvE.tup ?_);refine EvL.cons (EvE.xk (EvE.loc C h1 ⟨_,Yk X,Kp.xl (Yl X true),EvL.lf (Lf.loc C h2) (EvL.nil ?_)⟩));exact FnX.opK C hh (Cg X (b:=true) hx hxz) (le_refl _) fun q hq=>hq
noncomputable abbrev PrV (hs:List (Str × Str)):Prop:=∀ p ∈ hs,Pr p.1 ∧ Pr p.2
theorem Aj (X:XB B) {l:Addr} {hs:List (Str × Str)} {A':Around} {fm:Fm} {ρ:Loc} {N:Loc→Led→Prop} {R:D→Led→Prop} {E:Value→Shared→Prop} {m:Nat} (C:Cx A' fm (Jt 24 0) (I6 (Jt 24 0)) (m + 1)) (hl:(l,tab hs) ∈ H) (hv:PrV hs)
  (h1:Has ρ "self" (.hdr l)) (h2:Has ρ "headers" (.ref l)) (h:∀ ρ1,N ρ1 H):ExS B A' fm ρ H ((J9 24 0).drop 3) N R E:=by
 refine el11 (Z8 hl) fun H2 hperm=>?_;refine el12 (Jdj (ext:=[(l,tab hs)]) hperm) fun wr w1 w2=>?_;refine Ss.cons (S1.xh (EvB.plain (EvE.bool ⟨true,Tru.bool,?_⟩)));refine rwb (if_pos rfl) ?_;refine Ss.cons (S1.Nf (fun ds i ρ1 H1=>H1 = H2 ∧ ds = tab hs ∧ Has ρ1 "self" (.hdr l)) C (Y7.of (EvE.loc C h2 ⟨tab hs,true,[(l,tab hs)],H2,Jn.own hperm,wr,w1,⟨rfl,rfl,h1⟩,?_,?_⟩)))
 ·rintro fm' i d' ρ1 H1 C' hd' ⟨rfl,-,h1⟩;replace hd':=ts (List.getElem?_map) hd';refine el12 (map_eq_some_iff.mp hd') fun z0 hkv z2=>?_;obtain ⟨k,v⟩:=z0;subst z2;have hk:=hv _ (List.mem_of_getElem? hkv);refine Asg.tup C' rfl (Jg.cons (Asg.name C' (Jg.cons (Asg.name C' (Jg.nil ?_)))));refine Ss.cons (S1.expr (EvE.xk (EvE.loc C' h1.ne.ne ⟨_,Yk X,Kp.xl (Yl X true),EvL.lf (Lf.loc C' Has.self.ne) (EvL.nil (FnK.is C' (Zv X (hk.1.found true) hk.1.size) (Nat.le_add_left _ _) ?_))⟩)));refine Ss.cons (S1.expr (EvE.xk (EvE.loc C' h1.ne.ne ⟨_,Yk X,Kp.xl (Yl X false),EvL.lf (Lf.loc C' Has.self) (EvL.nil (FnK.is C' (Zv X (hk.2.found false) hk.2.size) (Nat.le_add_left _ _) ?_))⟩)));exact Ss.nil ⟨rfl,rfl,h1.ne.ne⟩
 ·rintro ρ1 H1 ⟨rfl,-,h1⟩;refine rwb w2 ?_;exact Ss.nil (Ss.nil (Ss.nil (h ρ1)))
theorem M9 {st:Stmt} {rest:List Stmt} {N:Loc→Led→Prop} {s:Shared} {Q:Flow→Shared→Prop} (h:Ex1 B A fm ρ H st N (fun Z Z=>False) NoE) (S:St B fm ρ F H s)
  (k:∀ F' s' ρ' H',F.le F'→N ρ' H'→St B fm ρ' F' H' s'→wpAny B.M A (execs rest fm.env) Q E s'):wpAny B.M A (execs (st :: rest) fm.env) Q E s:=
 wpAny_execs_cons (wpAny_mono (h F s S) (fun fl s' x=>x.elim (fun F' ρ' H' l p S'=>k F' s' ρ' H' l p S') fun Z Z Z Z Z Z q Z Z=>q.elim) fun Z Z x=>x.elim)
theorem Nl (vs:List Value):(A.under (.builtin "type.__call__" ⟨.ref 280 :: vs,[]⟩)).depth = A.depth + 1 ∧ (A.under (.builtin "type.__call__" ⟨.ref 280 :: vs,[]⟩)).units = A.units + 1 ∧
  (A.under (.builtin "type.__call__" ⟨.ref 280 :: vs,[]⟩)).frames = A.frames ∧ (A.under (.builtin "type.__call__" ⟨.ref 280 :: vs,[]⟩)).handled = A.handled:=by
 obtain ⟨hd,dp,fr,gd,un⟩:=A;refine ⟨rfl,rfl,?_,rfl⟩;cases fr <;> rfl
noncomputable def Jag (x:Addr) (P:D→Led→Prop) (ρ:Loc) (H:Led):Prop:=∃ l hs,Has ρ "self" (.ref x) ∧ Has ρ "headers" (.ref l) ∧ (l,tab hs) ∈ H ∧ PrV hs ∧ P (.hdr l) H
theorem Ha (X:XB B) {stk:List Env} {s:Shared} {vs:List Value} {dh:D} {vh:Value} {R:Result→Shared→Prop} {fd:FuncData} {o:Obj} {A₁:Around} (a1:A₁.depth = A.depth + 1) (a2:A₁.units = A.units + 1) (a3:A₁.frames = A.frames) (a4:A₁.handled = A.handled) (r:Rm B A F H s stk (n + 4))
  (ho:B.h.get? 174 = some o) (hd:o.data = .func fd) (hbody:fd.body = .stmts (J9 24 0)) (hsc:fd.scope = Jt 24 0) (hclo:fd.closure = []) (hgl:fd.globals = mainGlobals) (hbu:fd.builtins = builtinsNs) (hcd:B.h.CodeRec fd.code fd.qualname)
  (hbind:∀ s',(∀ b o,B.h.get? b = some o→s'.heap.get? b = some o)→BindsTo s' fd ⟨.ref (s.heap.objs.size + 1) :: vs,[]⟩ [("self",.ref (s.heap.objs.size + 1)),("headers",vh)]) (rh:Jd F vh dh)
  (pre1:∀ A' fm m,Cx A' fm (Jt 24 0) (I6 (Jt 24 0)) (m + 1)→∃ N1,(∀ st,(J9 24 0)[0]? = some st→Ex1 B A' fm (putAll [("self",.ref (s.heap.objs.size + 1)),("headers",dh)] []) H st N1 (fun Z Z=>False) NoE) ∧
   ∀ ρ1 H1,N1 ρ1 H1→∀ st,(J9 24 0)[1]? = some st→Ex1 B A' fm ρ1 H1 st (Jag (s.heap.objs.size + 1) P) (fun Z Z=>False) NoE)
  (hR:∀ F' H' s' l,Jl B F H s F' H' s'→Jd F' (.ref (s.heap.objs.size + 1)) (.hdr l)→P (.hdr l) H'→R (.ok (.ret (.ref (s.heap.objs.size + 1)))) s') :
  codeAny B.M A₁ (.call (.ref 174) ⟨.ref (s.heap.objs.size + 1) :: vs,[]⟩) (InitBack (s.heap.objs.size + 1) R) { s with heap:=(s.heap.push emptyDict).push (instObj Vb s.heap.objs.size) }:=by
 revert X a1 a2 a3 a4 r ho hd hbody hsc hclo hgl hbu hcd hbind rh pre1 hR;revert B A F H n P stk s vs dh vh R fd o A₁;refine no_implicit_lambda% (G15 (h:=?_));refine (?_:A15 _) _ _ _ _ _ _ _ _ _ _ _ _ _ _ _;intro B A F H n P stk s vs dh vh R fd o A₁ X a1 a2 a3 a4 r ho hd hbody hsc hclo hgl hbu hcd hbind rh pre1 hR;have kp:∀ b o,s.heap.get? b = some o→((s.heap.push emptyDict).push (instObj Vb s.heap.objs.size)).get? b = some o:=fun b o e=>Heap.get?_push_of_some _ (Heap.get?_push_of_some _ e);have hdx:((s.heap.push emptyDict).push (instObj Vb s.heap.objs.size)).get? s.heap.objs.size = some emptyDict:=Heap.get?_push_of_some _ (Heap.get?_push_size _ rfl);have hx:((s.heap.push emptyDict).push (instObj Vb s.heap.objs.size)).get? (s.heap.objs.size + 1) = some (instObj Vb s.heap.objs.size):=by
  have:=Heap.get?_push_size (s.heap.push emptyDict) (o:=instObj Vb s.heap.objs.size) rfl;rw [Heap.size_push] at this;exact this
 have nx:s.heap.get? (s.heap.objs.size + 1) = none:=Heap.get?_none_of_le (le_succ _);have ndx:=Je s.heap;have fdx:=r.gs.fresh ndx;have c0:Jl B F H s (F.put (s.heap.objs.size + 1) (instObj Vb s.heap.objs.size)) H { s with heap:=(s.heap.push emptyDict).push (instObj Vb s.heap.objs.size) }:=Jl.frz (tk:=s.toks) r.gs kp nx hx (le_refl _);have r2:Rm B A₁ (F.put (s.heap.objs.size + 1) (instObj Vb s.heap.objs.size)) H { s with heap:=(s.heap.push emptyDict).push (instObj Vb s.heap.objs.size) } stk (n + 3):=by
  have q:=r.post c0 kp;exact ⟨q.gs,q.ff,by have:=q.hd;unfold Hok at this ⊢;refine rwb a4 ?_;exact this,by have:=q.depth;refine rwb a1 ?_;lia,by have:=q.units;refine rwb a2 ?_;lia,a3.trans q.frames⟩
 generalize hF2:F.put (s.heap.objs.size + 1) (instObj Vb s.heap.objs.size) = F2 at *;generalize hh2:(s.heap.push emptyDict).push (instObj Vb s.heap.objs.size) = h2 at *;have sz2:h2.objs.size = s.heap.objs.size + 2:=by (refine rwf hh2 ?_;rw [Heap.size_push,Heap.size_push])
 refine Hs (xs:=[("self",.ref (s.heap.objs.size + 1)),("headers",dh)]) (cap:=[]) r2 (r2.gs.base _ _ ho) hd hbody (hcd.keeps r2.gs.base) hgl hbu (hbind _ r2.gs.base) (by refine rwb hsc ?_;rfl) (by refine rwb hclo ?_;exact Vy.nil (by refine rwb hsc ?_;rfl)) rfl (.cons (.ref _) (.cons (rh.mono c0.le) .nil)) (by refine rwb hsc ?_;rfl) fun fm A' s1 e1 e2 C S1=>?_;rw [hsc] at C e1;refine el11 (⟨_,rfl⟩:∃ st,(J9 24 0)[0]? = some st) fun st0 hst0=>?_;refine el11 (⟨_,rfl⟩:∃ st,(J9 24 0)[1]? = some st) fun st1 hst1=>?_;have body:J9 24 0 = st0 :: st1 :: (J9 24 0).drop 2:=by
  have e0:st0 = _:=(oi hst0).symm;have e1:st1 = _:=(oi hst1).symm;(refine rwb e0 (rwb e1 ?_));rfl
 refine rwb body ?_;refine el12 (pre1 A' fm _ C) fun N1 p1 p2=>?_;refine M9 (p1 st0 hst0) S1 fun F3 s3 ρ3 H3 l3 n3 S3=>?_;refine M9 (p2 ρ3 H3 n3 st1 hst1) S3 fun F4 s4 ρ4 H4 l4 y S4=>el25 y fun l hs hself hhead hl hv hP=>?_;have hF24:F2.le F4:=by have:=S4.sub;replace this:=e1 ▸ this;exact this
 have fx:F4.f (s.heap.objs.size + 1) = some (instObj Vb s.heap.objs.size):=hF24.f _ _ (by refine rwf hF2 ?_;exact Fz.put_self ..);have eW:fm.W = H.map (·.1) ++ Yb:=by refine rwb e1 ?_;rfl
 have eh0:fm.h₀ = h2:=by refine rwb e1 ?_;rfl
 have eh1:fm.h₁ = h2:=by refine rwb e1 ?_;rfl
 have eF0:fm.F₀ = F2:=by refine rwb e1 ?_;rfl
 have eL:fm.env.locals = h2.objs.size:=by refine rwb e1 ?_;rfl
 have eown:fm.own = [h2.objs.size]:=by refine rwb e1 ?_;rfl
 have ecl:fm.env.cells = []:=by (refine rwb e1 (rwb hclo ?_));rfl
 have estk:fm.stack = fm.env :: stk:=by refine rwb e1 ?_;rfl
 have efr:fm.env.frame = some h2.objs.size:=by refine rwb e1 ?_;rfl
 have ndW:s.heap.objs.size ∉ H.map (·.1) ++ Yb:=fun hm=>(lA hm).elim fdx.2.2.2 fdx.2.2.1;obtain ⟨sl,hd4⟩:∃ sl,s4.heap.get? s.heap.objs.size = some { emptyDict with slots:=sl }:=by
  rcases S4.keep _ _ (by refine rwb eh0 ?_;exact hdx) (by refine rwb eW ?_;exact ndW) with q | ⟨_,sl,q⟩
  ·exact ⟨_,q⟩
  ·exact ⟨sl,q⟩
 have ev:∀ {x:Str} {d:D} {p:Pos} {E:Value→Shared→Prop} {s':Shared} {F':Fz},(Jt 24 0).names.lookup x = some .local→ρ4.lookup x = some d→(x == ("__debug__":Str)) = false→St B fm ρ4 F' H4 s' →
   wpAny B.M A' (eval (.Name x p) fm.env) (fun v s''=>∃ F'',F'.le F'' ∧ Jd F'' v d ∧ St B fm ρ4 F'' H4 s'') E s':=fun {x d p E s' F'} k1 k2 k3 S'=>
  wpAny_mono ((EvE.loc (P:=fun d' H'=>d' = d ∧ H' = H4) C k2 ⟨rfl,rfl⟩ k1 k3:EvE B A' fm ρ4 H4 (.Name x p) _ E) F' s' S') (fun v s'' zz=>zz.elim fun F'' d' H' zqq l' r' S''=>Yd zqq fun q1 q2=>by subst q1 q2;exact ⟨F'',l',r',S''⟩) fun Z Z x=>x
 refine wpAny_execs_cons (plainObj_wpAny_Assign_Attribute (wpAny_mono (ev (by rfl) hhead (by decide) S4) (fun v s5 zqqq=>el13 zqqq fun F5 l5 r5 S5=>wpAny_mono (ev (by rfl) hself (by decide) S5) (fun ov s6 zqqqq=>el13 zqqqq fun F6 l6 r6 S6=>?_) fun Z Z x=>x) fun Z Z x=>x));cases r5;cases r6;have hF26:F2.le F6:=hF24.trans (l5.trans l6);have fx6:F6.f (s.heap.objs.size + 1) = some (instObj Vb s.heap.objs.size):=hF26.f _ _ (by refine rwf hF2 ?_;exact Fz.put_self ..);obtain ⟨sl,hd6⟩:∃ sl,s6.heap.get? s.heap.objs.size = some { emptyDict with slots:=sl }:=by
  rcases S6.keep _ _ (by refine rwb eh0 ?_;exact hdx) (by refine rwb eW ?_;exact ndW) with q | ⟨_,sl,q⟩
  ·exact ⟨_,q⟩
  ·exact ⟨sl,q⟩
 refine Ja8 (X.k.keeps S6.base) (S6.froz _ _ fx6) hd6 (by rfl) (by rfl) (by rfl) (by rfl) fun h7 hsh t7 k7 sb hd7=>?_;have inh2:∀ b o,s.heap.get? b = some o→h2.get? b = some o:=kp
 have S6':St B { fm with h₀:=s.heap,h₁:=s.heap,F₀:=F,W:=H.map (·.1) ++ Yb } ρ4 F6 H4 s6:=S6.jeb (by refine rwb eh0 ?_;exact kp) (by refine rwb eF0 ?_;exact c0.le) (by
  refine rwb eF0 (rwf hF2 ?_);intro b o e
  rcases Fz.yp e with q | ⟨rfl,_⟩
  ·exact .inl q
  ·exact .inr nx) (by refine rwb eW ?_;exact fun Z q=>q) (by refine rwb ecl ?_;intro x c q;contradiction)
 have fd6:F6.f s.heap.objs.size = none:=by
  cases q:F6.f s.heap.objs.size with
  | none=>rfl
  | some o'=>
   rcases S6'.frz _ _ q with e | e
   ·have:=fdx.1;(replace e:=ts (show ({ fm with h₀:=s.heap,h₁:=s.heap,F₀:=F,W:=H.map (·.1) ++ Yb }:Fm).F₀.f s.heap.objs.size = F.f s.heap.objs.size from rfl) e;replace e:=ts this e);contradiction
   ·exfalso
    rcases S6.frz _ _ q with e2 | e2
    ·(replace e2:=eF0 ▸ e2;replace e2:=Eq.symm hF2 ▸ e2;replace e2:=ts (Fz.put_ne (ne_of_lt (Nat.lt_succ_self _))) e2;replace e2:=ts fdx.1 e2);contradiction
    ·(replace e2:=eh1 ▸ e2;replace e2:=ts hdx e2);contradiction
 have j:Jbw B { fm with h₀:=s.heap,h₁:=s.heap,F₀:=F,W:=H.map (·.1) ++ Yb } F6 H4 s.heap.objs.size:=by
  refine ⟨by show _ ≠ fm.env.locals;(refine rwb eL (rwb sz2 ?_));exact ne_of_lt (Nat.lt_add_of_pos_right (by decide)),by show _ ∉ fm.own;(refine rwb eown (rwb sz2 ?_));simp,fd6,fdx.2.1,fdx.2.2.1,fun hm=>?_,ndx,fun env he hf=>?_⟩
  ·refine el12 (lM hm) fun p hp ep=>?_
   rcases S6.led p hp with q | q
   ·(replace q:=eW ▸ q;replace q:=ep ▸ q);exact ndW q
   ·(replace q:=eh1 ▸ q;replace q:=ep ▸ q;replace q:=ts hdx q);contradiction
  ·have he:env ∈ fm.stack:=he;replace he:=estk ▸ he
   rcases lC he with rfl | he
   ·(replace hf:=ts efr hf;replace hf:=sz2 ▸ hf);have:=oi hf;lia
   ·refine I5 (r.ff.mem env he _ hf) fun Z Z z2 Z=>?_;obtain ⟨o',es,m,q,_⟩:=z2;replace q:=ts ndx q;contradiction
 have S7:=(S6'.jb3 j sb).tok (s6.toks + 2) (Nat.le_add_right _ _);refine Yd (S7.jd7 j hd7) fun le8 S8=>?_;have rh8:Jd (F6.put s.heap.objs.size (Xc hsh t7 l k7 sl)) (.ref (s.heap.objs.size + 1)) (.hdr l):=.hdr (le8.f _ _ fx6) (Fz.put_self ..);have S9:=S8.jcf hself (.inl (by show fm.env.kindOf _ = _;unfold Env.kindOf;refine rwb C.sc ?_;rfl)) rh8;have C9:Cx A' { fm with h₀:=s.heap,h₁:=s.heap,F₀:=F,W:=H.map (·.1) ++ Yb } (Jt 24 0) (I6 (Jt 24 0)) (n + 2):=
  ⟨by have e9:A'.handled = A.handled:=(by refine rwb e2 ?_;exact a4);have:=r.hd;unfold Hok at this ⊢;refine rwb e9 ?_;exact this,C.sc,C.depth,C.units,C.frames,C.cn⟩
 refine wpAny_mono (Aj X C9 (N:=fun Z H'=>H' = H4) (R:=fun Z Z=>False) (E:=NoE) hl hv Has.self hhead.ne (fun Z=>rfl) _ _ S9) (fun fl s10 x10=>x10.elim (fun F10 ρ10 H10 l10 q10 S10=>?_) fun Z Z Z Z Z Z q Z Z=>q.elim) fun Z Z x=>x.elim
 ·subst q10;refine ⟨rfl,hR F10 _ s10 l ⟨S10.sub,S10.toGS,fun b o e h1 h2=>S10.keep b o e fun q=>(lA q).elim h1 h2,S10.old,S10.frz,fun p hp=>(S10.led p hp).imp (fun q=>(lA q).elim id fun q=>absurd q (S10.apart p hp).2.2) id⟩ (rh8.mono l10) hP⟩
theorem E0 (X:XB B) {ds:List D} {dh:D}
  (hb:∀ F vs,Jc F vs ds→∃ vh,Jd F vh dh ∧ ∀ fd o x s',B.h.get? 174 = some o→o.data = .func fd→(∀ b o,B.h.get? b = some o→s'.heap.get? b = some o)→BindsTo s' fd ⟨x :: vs,[]⟩ [("self",x),("headers",vh)])
  (pre1:∀ x A' fm m,Cx A' fm (Jt 24 0) (I6 (Jt 24 0)) (m + 1)→∃ N1,(∀ st,(J9 24 0)[0]? = some st→Ex1 B A' fm (putAll [("self",.ref x),("headers",dh)] []) H st N1 (fun Z Z=>False) NoE) ∧
   ∀ ρ1 H1,N1 ρ1 H1→∀ st,(J9 24 0)[1]? = some st→Ex1 B A' fm ρ1 H1 st (Jag x P) (fun Z Z=>False) NoE):Fn B (n + 4) (.ref 280) ds H P:=fun A F s stk vs r rv=>by
 refine el12 (hb F vs rv) fun vh rh hbind=>?_;have Xs:(Gq B.w.params).In s.heap:=X.k.keeps r.gs.base;refine I5 (Nl (A:=A) vs) fun a1 a2 a3 a4=>?_;obtain ⟨o,fd,e1,e2,e3,e4,e5,e6,e7,e8⟩:∃ o fd,B.h.get? 174 = some o ∧ o.data = .func fd ∧ fd.body = .stmts (J9 24 0) ∧ fd.scope = Jt 24 0 ∧ fd.closure = [] ∧ fd.globals = mainGlobals ∧ fd.builtins = builtinsNs ∧ B.h.CodeRec fd.code fd.qualname:=
  ⟨_,_,X.k _ _ (by rfl),rfl,rfl,rfl,rfl,rfl,rfl,codeRec_of X.k (by rfl)⟩
 refine wpAny_call ?_;obtain ⟨hh,g,d,t,os⟩:=s;refine make_core (C:=280) (init:=.ref 174) (makes_of Xs (by rfl)) (looks_findIn Xs (by rfl)) (fun self=>bind_fn Xs self (by rfl)) (.inl (by rfl)) ?_;exact Ha X (s:=⟨hh,g,d,t,os⟩) (R:=wants _ _) a1 a2 a3 a4 r e1 e2 e3 e4 e5 e6 e7 e8 (fun s' hs=>hbind fd o _ s' e1 e2 hs) rh (pre1 _) fun F' H' s' l c rl p=>⟨F',.hdr l,H',p,rl,c⟩
theorem Dw {x l:Addr} {hs:List (Str × Str)} {A':Around} {fm:Fm} {m:Nat} {ρ1:Loc} (X:XB B) (C:Cx A' fm (Jt 24 0) (I6 (Jt 24 0)) (m + 1)) (h1:Has ρ1 "self" (.ref x)) (h2:Has ρ1 "headers" (.ref l)) (hl:(l,tab hs) ∈ H) (hv:PrV hs) (hp:P (.hdr l) H) :
  ∀ st,(J9 24 0)[1]? = some st→Ex1 B A' fm ρ1 H st (Jag x P) (fun Z Z=>False) NoE:=fun st e=>by
 have e:st = _:=(oi e).symm;refine rwb e ?_;refine S1.xh (EvB.cmp (EvE.call (EvE.gu C (by rfl) (mgN X (by rfl)) PyProof.Rows.Boot.«type» (by decide) ⟨_,Kp.type,EvL.lf (Lf.loc C h2) (EvL.nil (Cl.jd5 hl ?_))⟩)));refine EvE.gu C (by rfl) (mgN X (by rfl)) PyProof.Rows.Boot.«list» (by decide) (Op2.jei ⟨_,rfl,?_⟩);refine rwb (if_neg (by decide)) ?_;exact Ss.nil ⟨l,hs,h1,h2,hl,hv,hp⟩
theorem Cj (X:XB B):Fn B (n + 4) (.ref 280) [] H (fun d H'=>∃ l,d = .hdr l ∧ H' = (l,tab []) :: H):=by
 revert X;revert B H n;refine no_implicit_lambda% (G3 (h:=?_));refine (?_:A3 _) _ _ _;intro B H n X;refine E0 X (dh:=.none) (fun F vs rv=>?_) fun x A' fm m C=>⟨fun ρ1 H1=>∃ a,Has ρ1 "self" (.ref x) ∧ Has ρ1 "headers" (.ref a) ∧ H1 = (a,tab []) :: H,fun st e=>?_,?_⟩
 ·cases rv;refine ⟨.none,.none,fun fd o x s' e1 e2 hb=>?_⟩;have e3:=X.k 174 _ (by rfl);replace e3:=ts e1 e3;obtain rfl:=oi e3;cases e2;exact kp_binds (X.k.keeps hb) fun S=>by rfl
 ·have e:st = _:=(oi e).symm;refine rwb e ?_;refine S1.assign C (EvE.I0 (EvB.zq (Lf.loc C (by rfl)) Lf.none (Op2.jat (b:=true) rfl ⟨_,rfl,?_⟩)));refine rwb (if_neg (by decide)) ?_;exact EvE.lst (EvL.nil (OpN.jar fun a=>⟨a,by rfl,Has.self,rfl⟩))
 ·refine fun ρ1 H1 zz=>el13 zz fun a h1 h2 z3=>?_;subst z3;exact Dw X C h1 h2 (.head _) (fun p hp=>nomatch hp) ⟨a,rfl,rfl⟩
theorem Wa (X:XB B) {l:Addr} {hs:List (Str × Str)} (hl:(l,tab hs) ∈ H) (hv:PrV hs):Fn B (n + 4) (.ref 280) [.ref l] H (Is (.hdr l) H):=by
 refine E0 X (dh:=.ref l) (fun F vs rv=>?_) fun x A' fm m C=>⟨fun ρ1 H1=>Has ρ1 "self" (.ref x) ∧ Has ρ1 "headers" (.ref l) ∧ H1 = H,fun st e=>?_,?_⟩
 ·refine V2 rv fun v r=>?_;refine ⟨v,r,fun fd o x s' e1 e2 hb=>?_⟩;have e3:=X.k 174 _ (by rfl);replace e3:=ts e1 e3;obtain rfl:=oi e3;cases e2;exact kp_binds (X.k.keeps hb) fun S=>by rfl
 ·have e:st = _:=(oi e).symm;refine rwb e ?_;refine S1.assign C (EvE.I0 (EvB.zq (Lf.loc C (by rfl)) Lf.none (Op2.jat (b:=false) rfl ⟨_,rfl,?_⟩)));refine rwb (if_pos (by decide)) ?_;exact EvE.loc C (by rfl) ⟨by rfl,Has.self,rfl⟩
 ·refine fun ρ1 H1 zz=>V5 zz fun h1 h2 z2=>?_;subst z2;exact Dw X C h1 h2 hl hv ⟨rfl,rfl⟩
theorem Gm (X:XB B):Kp B (.val (.ref 280)) (.ref 280):=by
 refine ⟨rfl,fun h k=>?_⟩;refine el12 (looks_keep (K:=Gq B.w.params) (M:=B.M) (h:=h) (f:=.ref 280) (by rfl) (X.k.keeps k)) fun kk hk lk=>?_;exact ⟨kk,hk.elim .inl fun q=>.inr (.inl q),lk⟩
end
section
variable {M:Model} {A:Around} {E:Value→Shared→Prop} {s:Shared} {K:Frag} {x C f:Addr} {ox:Obj} {od:Option Obj} {i:Value}
theorem Cs {Q:Unit→Shared→Prop} (X:K.In s.heap) (I:InstAt s.heap x ox C od) (hq:noSeq K C = true) (hs:findIn K (.ref C) "__delitem__" = some (some (.ref f))) (hf:isFn K (.ref f) = true)
  (h:wpAny M A (call (.ref f) [.ref x,i]) (fun Z s'=>Q () s') E s):wpAny M A (delItem (.ref x) i) Q E s:=by
 unfold delItem sequenceKey;refine wpAny_holding (wpAny_bind (wpAny_bind (I.type.here ?_)));refine wpAny_bind ((anyM_none X hq).here ?_);refine rwb (if_pos (show (!false) = true from rfl)) ?_;exact wpAny_pure (wpAny_bind (special_fn X I hs (beq_iff_eq.mp hf) (wpAny_mono h (fun Z Z z=>wpAny_pure z) fun Z Z z=>z)))
end
section
variable {B:Base} {A:Around} {fm:Fm} {sc:Scope} {cn:List Str} {ρ:Loc} {E:Value→Shared→Prop} {F:Fz} {H:Led} {n:Nat} {P:D→Led→Prop} {N:Loc→Led→Prop} {R:D→Led→Prop}
theorem S1.jdg (X:XB B) {o i:Expr} {p pos:Pos} (h:EvE B A fm ρ H o (fun d H1=>EvE B A fm ρ H1 i (fun d2 H2=>∃ l,d = .hdr l ∧ Jp B A fm ρ H2 (.ref 200) [.hdr l,d2] (fun Z H3=>N ρ H3) E) E) E) :
  Ex1 B A fm ρ H (.Delete [.Subscript o i p] pos) N R E:=by
 revert X h;revert B A fm ρ E H N R o i p pos;refine no_implicit_lambda% (G12 (h:=?_));refine (?_:A12 _) _ _ _ _ _ _ _ _ _ _ _ _;intro B A fm ρ E H N R o i p pos X h;refine no_implicit_lambda% (G2 (h:=?_));refine (?_:A2 _) _ _;exact fun F s S=>by
  refine wpAny_Delete (wpAny_deleteEach_cons ?_)
  show wpAny B.M A (do
   let ov ← eval o fm.env
   let iv ← holding [ov] (eval i fm.env)
   standAt p
   holding [ov,iv] (delItem ov iv)
   release [ov,iv] []) _ _ _
  refine wpAny_bind (wpAny_mono (h F s S) (fun v s1 zz=>zz.elim fun F1 d H1 p1 l1 r1 S1=>?_) fun Z Z x=>x);refine wpAny_bind (wpAny_holding (wpAny_mono (p1 F1 s1 S1) (fun u s2 zz=>zz.elim fun F2 d2 H2 y l2 r2 S2=>el12 y fun l e op=>?_) fun Z Z x=>x));subst e;have r1':=r1.mono l2;refine el62 (Lm S2.toGS r1') fun a ox hs t k sl z6 I=>?_;subst z6;refine wpAny_bind (wpAny_standAt (wpAny_bind (wpAny_holding ?_)));refine Cs (X.k.keeps S2.base) I (by rfl) (by rfl) (by rfl) ?_;refine wpAny_mono (op F2 s2 [.ref a,u] S2 (.cons r1' (.cons r2 .nil))) (fun w s3 zz=>zz.elim fun F3 d3 H3 p3 l3 r3 S3=>?_) fun Z Z x=>x;exact wpAny_release (wpAny_deleteEach_nil (Uv p3 ((l1.trans l2).trans l3) S3))
theorem Mi (X:XB B):Jm B 200 (J9 24 4) (Jt 24 4) ["self", "name"] []:=Jm.of X (by rfl) rfl rfl rfl rfl rfl (by rfl) (all2 fun a b=>rfl)
noncomputable def Ly (hs:List (Str × Str)) (x:Str):List (Str × Str):=hs.filter fun p=>!Yi p.1 x
theorem Tb (X:XB B) {l:Addr} {hs:List (Str × Str)} {x:Str} {H1:Led} (hl:V6 l (tab (Ly hs x)) (tab hs) H H1) (hx:Pr x) (hp:PrT hs) (hz:hs.length ≤ 2 ^ 20):Fn B (n + 3) (.ref 200) [.hdr l,.str x] H (Is .none H1):=by
 revert X hl hx hp hz;revert B H n l hs x H1;refine no_implicit_lambda% (G7 (h:=?_));refine (?_:A7 _) _ _ _ _ _ _ _;intro B H n l hs x H1 X hl hx hp hz;refine el11 (Z8 hl.mem) fun H2 hperm=>?_;refine (Mi X).fn (by rfl) (by rfl) (by rfl) rfl fun A' fm C=>?_;refine Ss.cons (S1.assign C (EvE.xk (EvE.loc C (by rfl) ⟨_,Yk X,Kp.xl (Yl X true),?_⟩)));refine EvL.cons (EvE.J4 (Lf.Vl C (by rfl)) ⟨_,Zl,Kp.builtin,EvL.nil (Cl.X6 hx (EvL.nil ?_))⟩);refine FnK.is C (Zv X (hx.low.found true) hx.low.size) (Nat.le_add_left _ _) ?_;refine Ss.cons (S1.jc9 (EvE.sz C (by rfl) (EvE.hd X (EvE.loc C (by rfl) ⟨l,rfl,tab hs,fun d=>match d with | .tup (.str k :: _)=>!Yi k x | _=>false,fun d=>d,[(l,tab hs)],H2,Jn.own hperm,hperm,by rw [length_map];exact hz,?_,?_⟩))) (fun Z=>rfl))
 ·intro d hd D' fm' out C';refine el12 (lM hd) fun p hpm z2=>?_;subst z2;have hk:Pr p.1:=hp p hpm;refine Asg.name C' ⟨rfl,fun y e q=>?_,fun fm2 out2 C2=>⟨?_,fun Z=>?_⟩⟩
  ·exact Q0 (by rfl) y e q
  ·refine EvB.cmp (EvE.ij (EvE.J7 (Lf.loc C2 (by rfl)) Lf.int (Op2.Qv (j:=0) (d:=.str p.1) rfl (by decide) (by decide) (by rfl) (by rfl) ⟨_,Zl,Kp.builtin,EvL.nil (Cl.X6 hk (EvE.Vl C2 (by rfl) (Op2.neS ⟨_,rfl,rfl,rfl⟩)))⟩)))
  ·exact EvE.loc C2 (by rfl) ⟨rfl,rfl⟩
 ·refine EvE.hd X (EvE.loc C (by rfl) ⟨l,rfl,_,l,tab hs,H1,rfl,rfl,?_,?_,Ss.nil ⟨rfl,rfl⟩⟩)
  ·have e:((tab hs).filter (fun d=>match d with | .tup (.str k :: _)=>!Yi k x | _=>false)).map (fun d=>d) = tab (Ly hs x):=by
    unfold Ly tab;rewrite [List.map_id'];refine rwb filter_map ?_;rfl
   refine rwb e ?_;exact hl
  ·rw [length_map,length_map];have:=length_filter_le (fun d=>match d with | D.tup (.str k :: _)=>!Yi k x | _=>false) (tab hs);rw [length_map] at this;refine rwb sizeLine_eq ?_;omega
theorem Xw (X:XB B):Jm B 115 (bodyOf 15) (Jh 15) ["a", "b"] []:=Jm.of X (by rfl) rfl rfl rfl rfl rfl (by rfl) (all2 fun a b=>rfl)
theorem Lq (X:XB B) {l:Addr} {hs:List (Str × Str)} {x:Str} {H1:Led} (hl:V6 l (tab (Ly hs x)) (tab hs) H H1) (hx:Pr x) (hp:PrT hs) (hz:hs.length ≤ 2 ^ 20):Fn B (n + 4) (.ref 115) [.hdr l,.str x] H (Is .none H1):=by
 refine (Xw X).fn (by rfl) (by rfl) (by rfl) rfl fun A' fm C=>?_;refine Ss.cons (S1.jdg X (EvE.loc C (by rfl) (EvE.loc C (by rfl) ⟨l,rfl,?_⟩)));exact ((Tb X hl hx hp hz).mono fun d H' y=>y.rec fun a b=>Ss.nil ⟨rfl,b⟩).op C (le_refl _)
theorem M4 (X:XB B):Jm B 291 (bodyOf 26) (Jh 26) ["script"] []:=Jm.of X (by rfl) rfl rfl rfl rfl rfl (by rfl) (all1 fun a=>rfl)
noncomputable def Ig (cs:List Int) (m:Int):Prop:=cs.length = 8 ∧ ∀ c ∈ cs,0 ≤ c ∧ c ≤ m
theorem Ig.add {cs:List Int} {m a x:Int} {i:Nat} (h:Ig cs m) (ha:cs[i]? = some a) (h0:0 ≤ x) (h1:x < 1000000):Ig (cs.set i (a + x)) (m + 1000000):=
 have ha':=h.2 a (List.mem_of_getElem? ha)
 ⟨by refine rwb length_set ?_;exact h.1,fun c hc=>by
  rcases mem_or_eq_of_mem_set hc with hc | rfl
  ·have:=h.2 c hc;lia
  ·lia⟩
theorem Ig.get {cs:List Int} {m:Int} (h:Ig cs m) (j:Nat) (hj:j < 8):∃ a,cs[j]? = some a:=by
 have hj':j < cs.length:=by refine rwb h.1 ?_;exact hj
 exact ⟨_,List.getElem?_eq_getElem hj'⟩
theorem Hj (X:XB B) {ns:List Int} (hz:ns.length ≤ 63):Fn0 B (n + 1) (.ref 291) [.lst (ns.map .int)] H (fun d H'=>H' = H ∧ ∃ cs:List Int,d = .lst (cs.map .int) ∧ cs.length = 8 ∧ ∀ c ∈ cs,0 ≤ c ∧ c < 10 ^ 9):=by
 revert X hz;revert B H n ns;refine no_implicit_lambda% (G4 (h:=?_));refine (?_:A4 _) _ _ _ _;intro B H n ns X hz;have hen:B.mg "enumerate" = none:=mgN X (by rfl);refine (M4 X).Pm (by rfl) (by rfl) (by rfl) rfl (no_implicit_lambda% (G2 (h:=?_)));refine (?_:A2 _) _ _;intro A' fm hh C;refine Ss.cons (S1.assign C (EvE.lst ?_))
 iterate 8 refine EvL.lf Lf.int ?_
 refine EvL.nil (OpN.Nd fun b hb=>?_);have ez:(ns.take 60).map D.int = pick (ns.map D.int) none (some (60:Int)) none:=by
  have:=M5 (ns.map D.int) 60;rw [map_take];exact this.symm
 refine Ss.cons (S1.Nf (fun ds i ρ1 H1=>∃ cs:List Int,H1 = (b,cs.map .int) :: H ∧ Has ρ1 "cells" (.ref b) ∧ Ig cs (65 + i * 2000000)) C (Y7.jck C hh (by rfl) hen (by rfl) ?_));refine EvE.bg (EvE.loc C (by rfl) (EvP.none (EvP.some (EvE.int ⟨60,rfl,EvP.none (Zx.lst (by decide) (by rw [length_map,sizeLine_eq];lia) ⟨_,rfl,?_⟩)⟩))));rw [← ez];refine ⟨id,fun Z=>List.Perm.refl _,⟨[4,3,18,18,65,0,15,3],rfl,by rfl,rfl,by decide⟩,?_,?_⟩
 ·rintro fm' i d' ρ1 H1 C' hd' ⟨cs,rfl,hc,hok⟩;rw [List.getElem?_map,List.getElem?_zipIdx,List.getElem?_map] at hd';obtain ⟨p,hp,rfl⟩:=map_eq_some_iff.mp hd';obtain ⟨q,hq,rfl⟩:=map_eq_some_iff.mp hp;obtain ⟨x,hx,rfl⟩:=map_eq_some_iff.mp hq;have hi:i < 60:=by have:=(lG hx).1;rw [length_take] at this;lia
  refine Asg.tup C' rfl (Jg.cons (Asg.name C' (Jg.cons (Asg.name C' (Jg.nil ?_)))));simp only [Nat.zero_add];have l1:∀ {σ:Loc},List.lookup ("cells":Str) (put "number" (D.int x) (put "place" (D.int i) σ)) = List.lookup ("cells":Str) σ:=fun {σ}=>by rw [put_ne (by decide),put_ne (by decide)]
  have m0:(0:Int) ≤ (i:Int).fmod 8 ∧ (i:Int).fmod 8 < 8:=by
   rw [Int.fmod_eq_emod_of_nonneg _ (by decide)];lia
  have m4:(0:Int) ≤ ((i:Int) + 4).fmod 8 ∧ ((i:Int) + 4).fmod 8 < 8:=by
   rw [Int.fmod_eq_emod_of_nonneg _ (by decide)];lia
  have xr:(0:Int) ≤ x.fmod 1000000 ∧ x.fmod 1000000 < 1000000:=by
   rw [Int.fmod_eq_emod_of_nonneg _ (by decide)];lia
  have xs:(0:Int) ≤ (x.fdiv 1000000).fmod 1000000 ∧ (x.fdiv 1000000).fmod 1000000 < 1000000:=by
   rw [Int.fmod_eq_emod_of_nonneg _ (by decide)];lia
  obtain ⟨a,ha⟩:=hok.get ((i:Int).fmod 8).toNat (by lia);refine Ss.cons (S1.pq (EvE.loc C' (by rw [l1];exact hc) (EvE.jo (Lf.loc C' (by rw [put_ne (by decide)];exact put_self _ _ _)) Lf.int (Op2.fmod (by decide) ⟨b,_,_,_,rfl,rfl,mem_cons_self,m0.1,by lia,by rw [List.getElem?_map,ha];rfl,?_⟩))));refine EvE.jo (Lf.loc C' (put_self _ _ _)) Lf.int (Op2.fmod (by decide) (Op2.iadd ⟨_,.head,by rw [length_map,hok.1];decide,?_⟩));have hok1:=hok.add ha xr.1 xr.2;obtain ⟨a4,ha4⟩:=hok1.get (((i:Int) + 4).fmod 8).toNat (by lia);have e1:∀ (cs:List Int) (c:Int) (j:Nat),(cs.map D.int).set j (D.int c) = (cs.set j c).map D.int:=fun cs c j=>(map_set ..).symm;rw [e1];refine Ss.cons (S1.pq (EvE.loc C' (by rw [l1];exact hc) (EvE.bin (EvE.jo (Lf.loc C' (by rw [put_ne (by decide)];exact put_self _ _ _)) Lf.int (Op2.add (EvE.int (Op2.fmod (by decide) ⟨b,_,_,_,rfl,rfl,mem_cons_self,m4.1,by lia,by rw [List.getElem?_map,ha4];rfl,?_⟩)))))));refine EvE.bin (EvE.jo (Lf.loc C' (put_self _ _ _)) Lf.int (Op2.fdiv (by decide) (Ku (by decide)) (EvE.int (Op2.fmod (by decide) (Op2.iadd ⟨_,.head,by rw [length_map,hok1.1];decide,?_⟩)))));have hok2:=hok1.add ha4 xs.1 xs.2;rw [e1];refine Ss.nil ⟨_,rfl,hc.ne.ne,?_⟩;have:(65 + (i:Int) * 2000000 + 1000000 + 1000000) = 65 + ((i + 1:Nat):Int) * 2000000:=by lia
  rw [← this];exact hok2
 ·rintro ρ1 H1 ⟨cs,rfl,hc,hok⟩;refine Ss.nil ?_;refine ExT.freeze C hc (.inl (by rfl)) hb ?_;refine Ss.cons (S1.ret (EvE.loc C Has.self ⟨rfl,cs,rfl,hok.1,fun c hc=>?_⟩));have:=hok.2 c hc;have hl:(List.map (fun p=>D.tup [.int p.2,p.1]) ((ns.take 60).map D.int).zipIdx).length ≤ 60:=by simp;lia
  constructor
  ·exact this.1
  ·have:=this.2;have:((List.map (fun p=>D.tup [.int p.2,p.1]) ((ns.take 60).map D.int).zipIdx).length:Int) ≤ 60:=by exact_mod_cast hl
   lia
noncomputable abbrev Tie:=Nat × Nat × Int
noncomputable def L (i:Nat):Str:=⟨#[97 + i]⟩
noncomputable def Zg (t:Tie):D:=.tup [.str (L t.1),.str (L t.2.1),.int t.2.2]
inductive Jc1 (T:List Tie) (m:Nat):Prop
 | mk (p1 p2 p3:Nat) (w0 w1 w2 w3:Int) (X:List Tie) (e:T = (0,1,w0) :: (p1,2,w1) :: (p2,3,w2) :: (p3,4,w3) :: X) (h1:p1 ≤ 1) (h2:p2 ≤ 2) (h3:p3 ≤ 3) (h4:X.length ≤ m)
structure Yf (T:List Tie) (m:Nat):Prop where
 tree:Jc1 T m
 lt:∀ t ∈ T,t.1 < t.2.1 ∧ t.2.1 < 5
 wt:∀ t ∈ T,-1000 ≤ t.2.2 ∧ t.2.2 ≤ 999
 nd:(T.map fun t=>(t.1,t.2.1)).Nodup
noncomputable def wgh (c:Int):Int:=if c % 2 ≠ 0 then -1 - c / 2 % 1000 else c / 2 % 1000
theorem Bj (c:Int):-1000 ≤ wgh c ∧ wgh c ≤ 999:=by
 unfold wgh;split <;> lia
theorem Yf.snoc {T:List Tie} {m i j:Nat} {w:Int} (h:Yf T m) (hij:i < j) (hj:j < 5) (hw:-1000 ≤ w ∧ w ≤ 999) (hn:(i,j) ∉ T.map fun t=>(t.1,t.2.1)):Yf (T ++ [(i,j,w)]) (m + 1) where
 tree:=by
  obtain ⟨p1,p2,p3,w0,w1,w2,w3,X,rfl,h1,h2,h3,h4⟩:=h.tree;exact ⟨p1,p2,p3,w0,w1,w2,w3,X ++ [(i,j,w)],rfl,h1,h2,h3,by rw [length_append];exact Nat.add_le_add_right h4 1⟩
 lt:=fun t ht=>by
  rcases lA ht with ht | ht
  ·exact h.lt t ht
  ·rw [lS ht];exact ⟨hij,hj⟩
 wt:=fun t ht=>by
  rcases lA ht with ht | ht
  ·exact h.wt t ht
  ·rw [lS ht];exact hw
 nd:=by
  rw [map_append,nodup_append];refine ⟨h.nd,by simp,fun a ha b hb e=>?_⟩;rw [map_cons,map_nil,mem_singleton] at hb;subst hb;subst e;exact hn ha
theorem Yf.le {T:List Tie} {m k:Nat} (h:Yf T m) (hk:m ≤ k):Yf T k:=
 let ⟨p1,p2,p3,w0,w1,w2,w3,X,e,h1,h2,h3,h4⟩:=h.tree
 ⟨⟨p1,p2,p3,w0,w1,w2,w3,X,e,h1,h2,h3,le_trans h4 hk⟩,h.lt,h.wt,h.nd⟩
theorem Yf.len {T:List Tie} {m:Nat} (h:Yf T m):T.length ≤ m + 4:=by
 obtain ⟨p1,p2,p3,w0,w1,w2,w3,X,rfl,h1,h2,h3,h4⟩:=h.tree;simp;exact h4
theorem Op2.letter {value slice:Expr} {x:Str} (o m:Nat) {j:Int} (hs:Zk slice = true) (hx:x = ⟨(((List.range m).map (97 + o + ·)).toArray)⟩) (h0:0 ≤ j) (h1:j < m) (hm:m ≤ 5) (h:P (.str (L (o + j.toNat))) H):Op2 B A fm ρ H (subscriptTail value slice) (.str x) (.int j) P E:=by
 revert hs hx h0 h1 hm h;revert B A fm ρ E H P value slice x o m j;refine no_implicit_lambda% (G13 (h:=?_));refine (?_:A13 _) _ _ _ _ _ _ _ _ _ _ _ _ _;intro B A fm ρ E H P value slice x o m j hs hx h0 h1 hm h;refine Op2.X7 (c:=97 + (o + j.toNat)) hs (by lia) (by lia) ?_ h;subst hx;have:m = 0 ∨ m = 1 ∨ m = 2 ∨ m = 3 ∨ m = 4 ∨ m = 5:=by lia
 have hj:j = 0 ∨ j = 1 ∨ j = 2 ∨ j = 3 ∨ j = 4:=by lia
 simp only [← Nat.add_assoc]
 rcases hj with rfl | rfl | rfl | rfl | rfl <;> rcases this with rfl | rfl | rfl | rfl | rfl | rfl <;> first | (exfalso;omega) | rfl
theorem Op2.Ol {value slice:Expr} {j:Int} (hs:Zk slice = true) (h0:0 ≤ j) (h1:j < 5) (h:P (.str (L j.toNat)) H):Op2 B A fm ρ H (subscriptTail value slice) (.str "abcde") (.int j) P E:=
 Op2.letter 0 5 hs (by rfl) h0 h1 (le_refl _) (by rw [Nat.zero_add];exact h)
theorem Jdz {i j:Nat} (h:i ≠ j):(L i == L j) = false:=by
 unfold L;rw [beq_eq_false_iff_ne];intro e;injection e with e
 injection e with e
 injection e with e
 lia
theorem Iw {i j:Nat} (h:L i = L j):i = j:=by
 by_cases e:i = j
 ·exact e
 ·have:=Jdz e;rw [h] at this;simp at this
theorem Rl (i j:Nat):(L i == L j) = (i == j):=by
 by_cases h:i = j
 ·subst h;simp
 ·rw [Jdz h];symm;rw [beq_eq_false_iff_ne];exact h
noncomputable def D.fl:Nat→D→Bool
 | _,.int _=>true
 | _,.str x=>PyData.strOk x
 | n + 1,.tup ds=>ds.all (D.fl n)
 | n + 1,.lst ds=>ds.all (D.fl n)
 | _,_=>false
theorem Z4 (n:Nat) (i:Int):D.fl n (.int i) = true:=by cases n <;> rfl
theorem Zr (n:Nat) (x:Str):D.fl n (.str x) = PyData.strOk x:=by cases n <;> rfl
theorem Z2 (n:Nat) (ds:List D):D.fl (n + 1) (.tup ds) = ds.all (D.fl n):=rfl
theorem Z3 (n:Nat) (ds:List D):D.fl (n + 1) (.lst ds) = ds.all (D.fl n):=rfl
inductive FlI (n:Nat):D→Prop
 | int (i:Int):FlI n (.int i)
 | str (x:Str) (h:PyData.strOk x = true):FlI n (.str x)
 | tup {m:Nat} (q:n = m + 1) (ds:List D) (h:∀ d ∈ ds,D.fl m d = true):FlI n (.tup ds)
 | lst {m:Nat} (q:n = m + 1) (ds:List D) (h:∀ d ∈ ds,D.fl m d = true):FlI n (.lst ds)
theorem fl_inv {n:Nat} {d:D} (h:D.fl n d = true):FlI n d:=by
 cases d with
 | int i=>exact .int i
 | str x=>exact .str x (by rw [Zr] at h;exact h)
 | tup ds=>
  cases n with
  | zero=>contradiction
  | succ n=>exact .tup rfl ds (List.all_eq_true.mp h)
 | lst ds=>
  cases n with
  | zero=>contradiction
  | succ n=>exact .lst rfl ds (List.all_eq_true.mp h)
 | _=>cases n <;> contradiction
theorem Se {Q:Nat→D→Prop} (hi:∀ n i,Q n (.int i)) (hs:∀ n x,PyData.strOk x = true→Q n (.str x)) (ht:∀ n ds,(∀ d ∈ ds,D.fl n d = true ∧ Q n d)→Q (n + 1) (.tup ds)) (hl:∀ n ds,(∀ d ∈ ds,D.fl n d = true ∧ Q n d)→Q (n + 1) (.lst ds)) :
  ∀ (n:Nat) (d:D),D.fl n d = true→Q n d:=by
 intro n
 induction n with
 | zero=>
  intro d h;cases fl_inv h with
  | int i=>exact hi 0 i
  | str x h=>exact hs 0 x h
  | tup q=>contradiction
  | lst q=>contradiction
 | succ n ih=>
  intro d h;cases fl_inv h with
  | int i=>exact hi _ i
  | str x h=>exact hs _ x h
  | tup q ds h=>cases q;exact ht n ds fun d hd=>⟨h d hd,ih d (h d hd)⟩
  | lst q ds h=>cases q;exact hl n ds fun d hd=>⟨h d hd,ih d (h d hd)⟩
theorem E4:∀ (n:Nat) (d:D),D.fl n d = true→d.pl = true:=by
 have all:∀ (n:Nat) (ds:List D),(∀ d ∈ ds,D.fl n d = true ∧ d.pl = true)→D.jao ds = true:=by
  intro n ds
  induction ds with
  | nil=>intro Z;rfl
  | cons d ds hi=>exact fun h=>Bool.and_eq_true_iff.mpr ⟨(h d (.head _)).2,hi fun e he=>h e (.tail _ he)⟩
 exact Se (fun Z Z=>rfl) (fun Z Z Z=>rfl) all all
theorem Ug:∀ (n:Nat) (d:D),D.fl n d = true→d.py.canLay0 = true ∧ d.py.depth ≤ n:=by
 have all:∀ (n:Nat) (ds:List D),(∀ d ∈ ds,D.fl n d = true ∧ d.py.canLay0 = true ∧ d.py.depth ≤ n)→PyData.canLayAll0 (D.mf ds) = true ∧ PyData.depthAll (D.mf ds) ≤ n:=by
  intro n ds
  induction ds with
  | nil=>intro Z;simp [W3,Gh,PyData.canLayAll0,PyData.depthAll]
  | cons d ds hi=>
   intro h;have h1:=(h d (.head _)).2;have h2:=hi fun e he=>h e (.tail _ he);simp only [W3,Gh,PyData.canLayAll0,PyData.depthAll,h1.1,h2.1,Bool.and_self,true_and];exact Nat.max_le.mpr ⟨h1.2,h2.2⟩
 refine Se (Q:=fun n d=>d.py.canLay0 = true ∧ d.py.depth ≤ n) (fun n i=>?_) (fun n x h=>?_) (fun n ds h=>?_) fun n ds h=>?_
 ·simp [Wc,Wb,Gi,Vz,PyData.canLay0,PyData.depth]
 ·simp [Wc,Wb,Gi,Vz,PyData.canLay0,PyData.depth,h]
 ·have q:=all n ds h;simp only [Wc,Wb,Gi,Vz,PyData.canLay0,PyData.depth,q.1,true_and];have:=q.2;lia
 ·have q:=all n ds h;simp only [Wc,Wb,Gi,Vz,PyData.canLay0,PyData.depth,q.1,true_and];have:=q.2;lia
theorem E5 {n:Nat} {ds:List D} (h:∀ d ∈ ds,D.fl n d = true):PyData.canLayAll0 (D.mf ds) = true ∧ PyData.depthAll (D.mf ds) ≤ n:=by
 have l:=Ug (n + 1) (.lst ds) (by simpa [Z4,Zr,Z2,Z3] using h);rw [Vz] at l;simp only [PyData.canLay0,PyData.depth] at l;have l2:=l.2;exact ⟨l.1,by lia⟩
theorem Hl {n:Nat} {ds:List D} (h:∀ d ∈ ds,D.fl n d = true):D.jao ds = true:=by
 have l:=E4 (n + 1) (.lst ds) (by simpa [Z4,Zr,Z2,Z3] using h)
 simpa [Jcm] using l
theorem Sf:∀ (n:Nat) (d e:D) (k:Nat),D.fl n d = true→D.fl k e = true→(PyData.eqv d.py e.py = true ↔ d = e):=by
 have all:∀ (n:Nat) (k:Nat) (ds es:List D),(∀ d ∈ ds,D.fl n d = true ∧ ∀ e k,D.fl k e = true→(PyData.eqv d.py e.py = true ↔ d = e))→(∀ d ∈ es,D.fl k d = true) →
   (PyData.eqvAll (D.mf ds) (D.mf es) = true ↔ ds = es):=by
  intro n k ds
  induction ds with
  | nil=>intro es Z Z;cases es <;> simp [W3,Gh,PyData.eqvAll]
  | cons d ds hi=>
   intro es h1 h2;cases es with
   | nil=>simp [W3,Gh,PyData.eqvAll]
   | cons e es=>simp only [W3,Gh,PyData.eqvAll,Bool.and_eq_true,(h1 d (.head _)).2 e k (h2 e (.head _)),hi es (fun x hx=>h1 x (.tail _ hx)) fun x hx=>h2 x (.tail _ hx),List.cons.injEq]
 have go:=Se (Q:=fun Z d=>∀ e k,D.fl k e = true→(PyData.eqv d.py e.py = true ↔ d = e)) (fun n i e k h=>by cases fl_inv h <;> simp [Wc,Wb,Gi,Vz,PyData.eqv]) (fun n x Z e k h=>by cases fl_inv h <;> simp [Wc,Wb,Gi,Vz,PyData.eqv])
  (fun n ds hd e k h=>by
   cases fl_inv h with
   | tup q es h'=>simp only [Wc,Wb,Gi,Vz,PyData.eqv,D.tup.injEq];exact all n _ ds es hd h'
   | _=>simp [Wc,Wb,Gi,Vz,PyData.eqv]) fun n ds hd e k h=>by
   cases fl_inv h with
   | lst q es h'=>simp only [Wc,Wb,Gi,Vz,PyData.eqv,D.lst.injEq];exact all n _ ds es hd h'
   | _=>simp [Wc,Wb,Gi,Vz,PyData.eqv]
 exact fun n d e k h=>go n d h e k
theorem Hm {n k:Nat}:∀ (ds:List D) (d:D),(∀ e ∈ ds,D.fl n e = true)→D.fl k d = true→((D.mf ds).any (fun y=>PyData.eqv y d.py) = true ↔ d ∈ ds):=by
 intro zs
 induction zs with
 | nil=>
  intro d Z Z;simp [W3,Gh]
 | cons e ds IH=>
  intro d h hd;have q:=IH d (fun x hx=>h x (.tail _ hx)) hd;have q1:=Sf n e d k (h e (.head _)) hd;simp only [W3,Gh,List.any_cons,Bool.or_eq_true,q,q1,mem_cons]
  constructor
  ·rintro (x | x)
   ·exact .inl x.symm
   ·exact .inr x
  ·rintro (x | x)
   ·exact .inl x.symm
   ·exact .inr x
noncomputable def Df (H:Led) (d e:D):Prop:=D.fl 9 e = true ∧ (d = e ∨ ∃ a ds,d = .ref a ∧ (a,ds) ∈ H ∧ e = .lst ds)
theorem Df.dt {d e:D} (h:Df H d e):Dt H d e.py:=by
 obtain ⟨hf,rfl | ⟨a,ds,rfl,hm,rfl⟩⟩:=h
 ·exact Dt.pl (E4 9 _ hf)
 ·exact Dt.own hm (Hl (n:=8) (by simpa [Z4,Zr,Z2,Z3] using hf))
theorem Op2.eqF {d1 d2 e1 e2:D} (C:Cx A fm sc cn n) (h1:Df H d1 e1) (h2:Df H d2 e2) (h:∀ b:Bool,(b = true ↔ e1 = e2)→P (.bool b) H):Op2 B A fm ρ H (compareOp .Eq) d1 d2 P E:=
 have l1:=Ug 9 e1 h1.1;have l2:=Ug 9 e2 h2.1
 Op2.eqD C h1.dt h2.dt l1.1 l2.1 (by have:=l1.2;omega) (h _ (Sf 9 e1 e2 9 h1.1 h2.1))
theorem Op2.neF {d1 d2 e1 e2:D} (C:Cx A fm sc cn n) (h1:Df H d1 e1) (h2:Df H d2 e2) (h:∀ b:Bool,(b = true ↔ e1 ≠ e2)→P (.bool b) H):Op2 B A fm ρ H (compareOp .NotEq) d1 d2 P E:=
 have l1:=Ug 9 e1 h1.1;have l2:=Ug 9 e2 h2.1
 Op2.neD C h1.dt h2.dt l1.1 l2.1 (by have:=l1.2;omega) (h _ (by rw [Bool.not_eq_true',← Bool.not_eq_true];exact not_congr (Sf 9 e1 e2 9 h1.1 h2.1)))
theorem Op2.jed {d1 d2:D} {ds:List D} (C:Cx A fm sc cn n) (h1:D.fl 9 d1 = true) (h2:Df H d2 (.lst ds)) (h:∀ b:Bool,(b = true ↔ d1 ∉ ds)→P (.bool b) H):Op2 B A fm ρ H (compareOp .NotIn) d1 d2 P E:=
 have l1:=Ug 9 d1 h1;have hf:∀ d ∈ ds,D.fl 8 d = true:=by simpa [Z4,Zr,Z2,Z3] using h2.1
 Op2.jfc (ps:=D.mf ds) C (Dt.pl (E4 9 _ h1)) (by have:=h2.dt;rwa [Vz] at this) l1.1 (E5 hf).1 (by have:=l1.2;lia) (h _ (by rw [Bool.not_eq_true',← Bool.not_eq_true];exact not_congr (Hm ds d1 hf h1)))
theorem Op2.jch {d1:D} {ds:List D} (C:Cx A fm sc cn n) (h1:D.fl 9 d1 = true) (hf:∀ d ∈ ds,D.fl 8 d = true) (h:∀ b:Bool,(b = true ↔ d1 ∉ ds)→P (.bool b) H):Op2 B A fm ρ H (compareOp .NotIn) d1 (.tup ds) P E:=
 have l1:=Ug 9 d1 h1
 Op2.jfb C (Dt.pl (E4 9 _ h1)) (Hl hf) l1.1 (E5 hf).1 (by have:=l1.2;lia) (h _ (by rw [Bool.not_eq_true',← Bool.not_eq_true];exact not_congr (Hm ds d1 hf h1)))
theorem Dl (X:XB B):Jm B 296 (bodyOf 27) (Jh 27) ["cells"] []:=Jm.of X (by rfl) rfl rfl rfl rfl rfl (by rfl) (all1 fun a=>rfl)
noncomputable def Jdo (i j:Nat):Expr:=match (bodyOf i)[j]? with
 | some (.Assign _ (.Lambda _ b _ _) _)=>b
 | _=>.Constant .none 0 default
noncomputable def Fu (i j:Nat):Scope:=match (bodyOf i)[j]? with
 | some (.Assign _ (.Lambda _ _ s _) _)=>s
 | _=>default
noncomputable def Fv (i j:Nat):Arguments:=match (bodyOf i)[j]? with
 | some (.Assign _ (.Lambda p _ _ _) _)=>p
 | _=>default
noncomputable def Jcz (i j:Nat):Scope:=match (bodyOf i)[j]? with
 | some (.Assign _ (.ListComp _ _ s _) _)=>s
 | _=>default
theorem Ft {fd:FuncData} {q:Str} {b:FuncBody} {s:Scope} {c:List (Str × Addr)} (I:Oa fd q (Fv 27 0) b s c) (vs:List Value) (h:vs.length = (["number"]:List Str).length):bindArgs fd ⟨vs,[]⟩ = pure ((["number"]:List Str).zip vs):=by
 revert vs;refine all1 fun Z=>?_;unfold bindArgs;refine rwb I.p (rwb I.d ?_);rfl
theorem Rh {fd:FuncData} {c:Int} (I:Oa fd "_law_ties.<locals>.<lambda>" (Fv 27 0) (.expr (Jdo 27 0)) (Fu 27 0) (Vj fm.env (Fu 27 0).names [])):CFn B (n + 1) fd [] [.int c] H (Is (.int (wgh c)) H):=by
 revert I;revert B fm H n fd c;refine no_implicit_lambda% (G6 (h:=?_));refine (?_:A6 _) _ _ _ _ _ _;intro B fm H n fd c I;refine CFn.mkE I (names:=["number"]) (by rfl) (Ft I) (by rfl) rfl (no_implicit_lambda% (G2 (h:=?_)));refine (?_:A2 _) _ _;intro A' fm C;refine EvE.I0 (EvB.plain (EvE.jo (Lf.loc C (by rfl)) Lf.int (Op2.fmod (by decide) ⟨_,Tru.int,?_⟩)));have e2:c.fdiv 2 = c / 2:=J0 (by decide);have e3:(c / 2).fmod 1000 = c / 2 % 1000:=J3 (by decide);have e1:c.fmod 2 = c % 2:=J3 (by decide);refine rwb e1 ?_;unfold wgh
 by_cases h:c % 2 ≠ 0
 ·refine rwb (if_pos (by simpa using h)) (rwb (if_pos h) ?_);refine EvE.bin (EvE.un (EvE.int (Op1.neg (EvE.bin (EvE.jo (Lf.loc C (by rfl)) Lf.int (Op2.fdiv (by decide) (Ku (by decide)) (EvE.int (Op2.fmod (by decide) (Op2.sub ?_)))))))));(refine rwb e2 (rwb e3 ?_));exact ⟨rfl,rfl⟩
 ·refine rwb (if_neg (by simpa using h)) (rwb (if_neg h) ?_);refine EvE.bin (EvE.jo (Lf.loc C (by rfl)) Lf.int (Op2.fdiv (by decide) (Ku (by decide)) (EvE.int (Op2.fmod (by decide) ?_))));(refine rwb e2 (rwb e3 ?_));exact ⟨rfl,rfl⟩
noncomputable def Qz (cs:List Int) (k:Nat):Tie:=((cs.getD k 0 % (k + 1)).toNat,k + 1,wgh (cs.getD k 0 / (k + 1)))
theorem Jdl {cs:List Int} (hl:cs.length = 8) (hc:∀ c ∈ cs,0 ≤ c ∧ c < 10 ^ 9):Yf ((List.range 4).map (Qz cs)) 0 where
 tree:=⟨(cs.getD 1 0 % (1 + 1)).toNat,(cs.getD 2 0 % (2 + 1)).toNat,(cs.getD 3 0 % (3 + 1)).toNat,_,_,_,_,[],by
   show [_,_,_,_] = _;unfold Qz;have:(cs.getD 0 0 % (((0:Nat):Int) + 1)).toNat = 0:=by have:=Int.emod_one (cs.getD 0 0);simp
   refine rwb this ?_;rfl,by lia,by lia,by lia,by simp⟩
 lt:=fun t ht=>by
  refine el12 (lM ht) fun k hk z2=>?_;subst z2;have:=List.mem_range.mp hk;have h1:=emod_lt_of_pos (cs.getD k 0) (b:=(k:Int) + 1) (by lia);have h2:=emod_nonneg (cs.getD k 0) (b:=(k:Int) + 1) (by lia);refine ⟨?_,?_⟩ <;> simp only [Qz] <;> lia
 wt:=fun t ht=>by
  refine el12 (lM ht) fun k hk z2=>?_;subst z2;exact Bj _
 nd:=by
  have h:((List.range 4).map (Qz cs)).map (fun t=>(t.1,t.2.1)) = [((Qz cs 0).1,1),((Qz cs 1).1,2),((Qz cs 2).1,3),((Qz cs 3).1,4)]:=rfl;refine rwb h ?_;simp
theorem fn_ties (X:XB B) {cs:List Int} (hl:cs.length = 8) (hc:∀ c ∈ cs,0 ≤ c ∧ c < 10 ^ 9):Fn0 B (n + 2) (.ref 296) [.lst (cs.map .int)] H (fun d H'=>H' = H ∧ ∃ T,d = .lst (T.map Zg) ∧ Yf T 2):=by
 revert X hl hc;revert B H n cs;refine no_implicit_lambda% (G4 (h:=?_));refine (?_:A4 _) _ _ _ _;intro B H n cs X hl hc;refine (Dl X).jfm (code:=.ref 295) (qual:="_law_ties") (fun o fd e1 e2=>?_) (by rfl) (by rfl) (by rfl) rfl fun A' fm lc hh ee hL hbase C=>?_
 ·rw [X.k _ _ (by rfl)] at e1;cases e1;cases e2;exact ⟨rfl,rfl⟩
 have hce:Ri (Jh 27) (Fu 27 0) = true:=by rfl
 refine Ss.cons (S1.assign C (EvE.lam (q:=⟨295,293,208,12, "_law_ties.<locals>.<lambda>"⟩) C (.tail _ (.tail _ (.head _))) (by rw [ee];rfl) (by rw [ee];rfl) rfl rfl hce (fun Z=>rfl) fun f fd I=>?_));have hget:∀ k:Nat,k < 8→(cs.map D.int)[k]? = some (.int (cs.getD k 0)) ∧ 0 ≤ cs.getD k 0 ∧ cs.getD k 0 < 10 ^ 9:=fun k hk=>by
  have hk':k < cs.length:=by rw [hl];exact hk
  rw [List.getElem?_map,List.getElem?_eq_getElem hk',List.getD_eq_getElem?_getD,List.getElem?_eq_getElem hk'];exact ⟨rfl,hc _ (getElem_mem hk')⟩
 have hcomp:Zs (Jh 27) (Jcz 27 1) = true:=by rfl
 have erng:(List.range 4).map (fun i=>D.int (0 + (i:Nat) * 1)) = (List.range 4).map (fun i=>D.int (i:Nat)):=by rfl
 have hf0:∀ k:Nat,k < 4→(match (D.int (k:Nat)) with | .int k=>Zg (Qz cs k.toNat) | d=>d) = Zg (Qz cs k):=fun k hk=>rfl;refine Ss.cons (S1.jaw C (by rfl) hcomp (fun g hg=>by rw [lS hg]) (Nat.zero_le _) (by rfl) ?_);refine EvE.call (EvE.gu C (by rfl) (mgN X (by rfl)) PyProof.Rows.Boot.«range» (by decide) ⟨_,Kp.type,EvL.lf Lf.int (EvL.nil (Cl.ma fun r t u v=>?_))⟩);refine ⟨_,_,[],H,Jn.jdi (k:=4) hh (by rfl) (by rfl),N6 (f:=fun d=>match d with | .int k=>Zg (Qz cs k.toNat) | d=>d) (List.Perm.refl _) (by decide) ?_,fun b hb=>?_⟩
 ·rintro d hd D' fm' out C';obtain ⟨k,hk,rfl⟩:=lM hd;have hk:=List.mem_range.mp hk;have ek:(0 + (k:Int) * 1) = (k:Int):=by lia
  rw [ek];refine Asg.name C' ⟨rfl,fun y e q=>Q0 (by rfl) y e q,fun fm2 out2 C2=>?_⟩;obtain ⟨h1,h2,h3⟩:=hget k (by lia);refine EvE.tup<|EvL.cons<|EvE.l9 Lf.str<|EvE.bin<|EvE.J7 (Lf.Vl C2 (by rfl)) (Lf.loc C2 (by rfl))<|Op2.X8 rfl (by lia) (by lia) (by rw [toNat_natCast];exact h1) ?_;refine EvE.jo (Lf.loc C2 (by rfl)) Lf.int<|Op2.add<|Op2.fmod (by lia) ?_;rw [J3 (by lia)];have m1:=emod_lt_of_pos (cs.getD k 0) (b:=(k:Int) + 1) (by lia);have m2:=emod_nonneg (cs.getD k 0) (b:=(k:Int) + 1) (by lia);refine Op2.letter 0 4 rfl (by rfl) m2 (by lia) (by decide) ?_;refine EvL.cons<|EvE.J7 Lf.str (Lf.loc C2 (by rfl))<|Op2.letter 1 4 rfl (by rfl) (by lia) (by lia) (by decide) ?_;refine EvL.cons<|EvE.call<|EvE.Vl C2 (by rfl) ⟨_,Kp.clo,?_⟩;refine EvL.cons<|EvE.bin<|EvE.J7 (Lf.Vl C2 (by rfl)) (Lf.loc C2 (by rfl))<|Op2.X8 rfl (by lia) (by lia) (by rw [toNat_natCast];exact h1) ?_;refine EvE.jo (Lf.loc C2 (by rfl)) Lf.int<|Op2.add<|Op2.fdiv (by lia) (Ku ?_) ?_
  ·exact le_trans (bits_le (k:=3) (by lia)) (by decide)
  rw [J0 (by lia)];refine EvL.nil<|CFn.op (x:="weigh") (cap:=[]) C2 (m:=n + 1) ((Rh I).mono fun d H' z=>z.rec fun a b=>?_) (le_refl _) (by rfl) (.inl (by rfl)) (fun y c h=>by rw [I.c] at h;cases h) (fun y h=>by rw [I.s] at h;exact absurd h (by simp)) (fun y e h=>by cases h);subst a b;refine EvL.nil<|OpN.tuple ⟨?_,rfl⟩;show _ = Zg (Qz cs (k:Int).toNat);rw [toNat_natCast];unfold Qz Zg;rw [Nat.zero_add,Nat.add_comm 1 k]
 rw [V8];have e4:(List.map (fun d=>match d with | D.int k=>Zg (Qz cs k.toNat) | d=>d) ((List.range 4).map fun (i:Nat)=>D.int (0 + (i:Int) * 1))) = ((List.range 4).map (Qz cs)).map Zg:=by rfl
 rw [e4];refine Ss.cons<|S1.for (fun ds i ρ1 H1=>∃ T:List Tie,H1 = (b,T.map Zg) :: H ∧ Has ρ1 "ties" (.ref b) ∧ Has ρ1 "weigh" (.clo f fd) ∧ Yf T i) C ?_;refine EvE.bg<|EvE.Vl C (by rfl)<|EvP.some<|EvE.int ⟨4,rfl,EvP.some<|EvE.int ⟨6,rfl,EvP.none<|Zx.lst (by decide) (by rw [length_map,hl];decide) ⟨_,_,Jn.lst,⟨_,rfl,Has.self,Has.self.ne,Jdl hl hc⟩,?_,?_⟩⟩⟩
 ·rintro fm' i d' ρ1 H1 C' hd' ⟨T,rfl,ht,hw,hT⟩;have e5:pick (cs.map D.int) (some (4:Int)) (some (6:Int)) none = ((cs.drop 4).take 2).map D.int:=by
   have:=Dx (cs.map D.int) 4 6 (by rw [length_map,hl];decide) (by decide);rw [map_take,List.map_drop];exact this
  rw [e5,List.getElem?_map] at hd';obtain ⟨x,hx,rfl⟩:=map_eq_some_iff.mp hd';have hx0:=(hc x (List.mem_of_mem_drop (mem_of_mem_take (List.mem_of_getElem? hx)))).1;refine Asg.name C' ?_;obtain ⟨a,ha⟩:∃ a:Int,a = x % 5:=⟨_,rfl⟩;obtain ⟨c,hcc⟩:∃ c:Int,c = (x + 1 + x / 5 % 4) % 5:=⟨_,rfl⟩;have hac:a ≠ c ∧ 0 ≤ a ∧ a < 5 ∧ 0 ≤ c ∧ c < 5:=by rw [ha,hcc];exact Jdm x
  have hlen:B.mg "sorted" = none:=mgN X (by rfl);refine Ss.assign C'<|EvE.call<|EvE.gu C' (by rfl) hlen (by rfl) (by decide) ⟨_,Kp.builtin,EvL.cons<|EvE.lst<|EvL.cons<|EvE.l9 Lf.str<|EvE.jo (Lf.loc C' Has.self) Lf.int<|Op2.fmod (by decide) ?_⟩;rw [J3 (by decide),← ha];refine Op2.Ol rfl hac.2.1 hac.2.2.1 ?_;refine EvL.cons<|EvE.l9 Lf.str<|EvE.bin<|EvE.bin<|EvE.jo (Lf.loc C' Has.self) Lf.int<|Op2.add<|EvE.bin<|EvE.jo (Lf.loc C' Has.self) Lf.int<|Op2.fdiv (by decide) (Ku (by decide))<|EvE.int<|Op2.fmod (by decide)<|Op2.add<|EvE.int<|Op2.fmod (by decide) ?_;rw [J0 (by decide),J3 (by decide),J3 (by decide),← hcc];refine Op2.Ol rfl hac.2.2.2.1 hac.2.2.2.2 ?_;refine EvL.nil<|OpN.list<|EvL.nil<|Cl.jbz ?_;obtain ⟨lo,hi,hlt,h5,es⟩:∃ lo hi:Nat,lo < hi ∧ hi < 5 ∧ (if (L c.toNat).cps.toList < (L a.toNat).cps.toList then [D.str (L c.toNat),D.str (L a.toNat)] else [D.str (L a.toNat),D.str (L c.toNat)]) = [D.str (L lo),D.str (L hi)]:=by
   have hlt:∀ i j:Nat,((L i).cps.toList < (L j).cps.toList) ↔ i < j:=fun i j=>by
    show [97 + i] < [97 + j] ↔ _;rw [List.cons_lt_cons_iff];simp
   by_cases h:c.toNat < a.toNat
   ·exact ⟨c.toNat,a.toNat,h,Qb hac.2.2.1,if_pos ((hlt _ _).mpr h)⟩
   ·exact ⟨a.toNat,c.toNat,toNat_lt' hac.1 hac.2.1 hac.2.2.2.1 h,Qb hac.2.2.2.2,if_neg fun q=>h ((hlt _ _).mp q)⟩
  rw [es];have hT6:=hT.len;have hi2:i < 2:=by have:=(lG hx).1;rw [length_take] at this;lia
  have hTn:∀ p:Nat × Nat,p ∈ T.map (fun t=>(t.1,t.2.1)) ↔ (D.lst [.str (L p.1),.str (L p.2)]) ∈ (T.map Zg).map (fun d=>match d with | .tup (x :: y :: _)=>D.lst [x,y] | d=>d):=fun p=>by
   rw [map_map,mem_map,mem_map]
   constructor
   ·rintro ⟨t,ht,rfl⟩;exact ⟨t,ht,rfl⟩
   ·rintro ⟨t,ht,e⟩;refine ⟨t,ht,?_⟩;have e2:D.lst [.str (L t.1),.str (L t.2.1)] = D.lst [.str (L p.1),.str (L p.2)]:=e;injection e2 with e2
    injection e2 with e3 e4
    injection e4 with e4 _
    injection e3 with e3
    injection e4 with e4
    exact Prod.ext (Iw e3) (Iw e4)
  refine Ss.xh<|EvB.jav (Lf.loc C' Has.self)<|EvE.Po C' (by rfl)<|EvE.loc C' ht.ne.ne ⟨T.map Zg,fun d=>match d with | .tup (x :: y :: _)=>.lst [x,y] | d=>d,[(b,T.map Zg)],H,Jn.own (List.Perm.refl _),List.Perm.refl _,by rw [length_map];lia,?_,?_⟩
  ·rintro d hd D' fm2 out C2;obtain ⟨t,htm,rfl⟩:=lM hd;refine Asg.tup C2 rfl<|Jg.cons<|Asg.name C2<|Jg.cons<|Asg.name C2<|Jg.cons<|Asg.name C2<|Jg.nil ⟨rfl,kpp (kpp (kpp kp0)),fun fm3 out3 C3=>?_⟩;refine EvE.lst<|EvL.loc C3 Has.self.ne.ne<|EvL.loc C3 Has.self.ne<|EvL.nil<|OpN.list ⟨rfl,rfl⟩
  have hstr:∀ j:Nat,j < 5→PyData.strOk (L j) = true:=fun j hj=>by
   show (#[97 + j]:Array Nat).all _ = true;simp;lia
  refine Op2.jed C' (by simp [Z4,Zr,Z2,Z3,hstr lo (by lia),hstr hi h5]) ⟨by
   simp only [Z4,Zr,Z2,Z3,all_eq_true];intro d hd;obtain ⟨t',ht',rfl⟩:=lM hd;obtain ⟨t,ht2,rfl⟩:=lM ht';have:=hT.lt t ht2
   simp [Zg,Z4,Zr,Z2,Z3,hstr t.1 (by lia),hstr t.2.1 (by lia)],.inl rfl⟩ fun q hq=>⟨q,rfl,?_⟩
  rw [← hTn (lo,hi)] at hq;cases q
  ·rw [if_neg (by decide)];exact Ss.nil<|Ss.nil ⟨T,rfl,ht.ne.ne,hw.ne.ne,hT.le (by lia)⟩
  ·rw [if_pos rfl];have hno:=hq.mp rfl;refine Ss.cons<|S1.expr<|EvE.J4 (Lf.loc C' ht.ne.ne) ⟨_,Ji.list (.head _) PySem.F.slot_list_append PySem.F.type_list_append,Kp.builtin,EvL.cons<|EvE.tup<|EvL.cons<|EvE.J7 (Lf.loc C' Has.self) Lf.int<|Op2.X8 rfl (by decide) (by decide) (by rfl)<|EvL.cons<|EvE.J7 (Lf.loc C' Has.self) Lf.int<|Op2.X8 rfl (by decide) (by decide) (by rfl) ?_⟩;refine EvL.cons<|EvE.call<|EvE.Vl C' hw.ne.ne ⟨_,Kp.clo,EvL.cons<|EvE.jo (Lf.loc C' Has.self.ne) Lf.int<|Op2.fdiv (by decide) (Ku (by decide))<|EvL.nil ?_⟩;refine CFn.op (x:="weigh") (cap:=[]) C' (m:=n + 1) ((Rh (fm:=fm) I).mono fun d H' zqq=>zqq.rec fun a b=>?_) (le_refl _) hw.ne.ne (.inl (by rfl)) (fun y c h=>by rw [I.c] at h;cases h) (fun y h=>by rw [I.s] at h;exact absurd h (by simp)) (fun y e h=>by cases h);subst a b;refine EvL.nil<|OpN.tuple<|EvL.nil<|Cl.append .head (by rw [length_map,sizeLine_eq];lia) ?_;refine Ss.nil<|Ss.nil ⟨T ++ [(lo,hi,wgh (x.fdiv 20))],by rw [map_append];rfl,ht.ne.ne,hw.ne.ne,hT.snoc hlt h5 (Bj _) hno⟩
 ·rintro ρ1 H1 ⟨T,rfl,ht,hw,hT⟩;refine Ss.nil ?_;refine ExT.freeze C ht (.inl (by rfl)) hb ?_;refine Ss.ret<|EvE.loc C Has.self ⟨rfl,T,rfl,hT.le ?_⟩;have:=Dx (cs.map D.int) 4 6 (by rw [length_map,hl];decide) (by decide);rw [show pick (cs.map D.int) (some (4:Int)) (some (6:Int)) none = _ from this,length_take];lia
noncomputable def num (w:Int):Str:=Str.ofString (toString w)
theorem W8 (m:Nat):(num m).cps.toList = (Nat.toDigits 10 m).map Char.toNat:=KIN.signs_num m
theorem W7 (m:Nat):(num (-((m + 1:Nat):Int))).cps.toList = 45 :: (Nat.toDigits 10 (m + 1)).map Char.toNat:=by
 unfold num;rw [signs_ofString];show ("-" ++ Nat.repr (m + 1)).toList.map Char.toNat = _;simp only [String.toList_append,map_append,Nat.toList_repr];rfl
theorem Lx (m:Nat):PySem.NumText.AllDigits ((Nat.toDigits 10 m).map Char.toNat):=by
 intro c hc;obtain ⟨ch,hch,e⟩:=lM hc;have r:=digit_range (Nat.isDigit_of_mem_toDigits (by decide) (by decide) hch);rw [← e];exact r
theorem Cr (m:Nat) (h:m < 10 ^ 9):((Nat.toDigits 10 m).map Char.toNat).length ≤ 9:=by
 have h1:=toString_length_le (v:=(m:Int)) (by lia) (k:=9) (by decide) (by lia);have h2:(Str.ofString (toString (m:Int))).length = (Str.ofString (toString (m:Int))).cps.toList.length:=Array.length_toList.symm;rw [h2,show (Str.ofString (toString (m:Int))).cps.toList = _ from W8 m] at h1;exact h1
theorem E9 (m:Nat):(Nat.toDigits 10 m).map Char.toNat ≠ []:=fun e=>by
 have h:=toDigits_len_ge 10 m;rw [List.map_eq_nil_iff.mp e] at h;exact absurd h (by decide)
theorem Qg (w:Int):(∃ m:Nat,w = m) ∨ ∃ m:Nat,w = -((m + 1:Nat):Int):=by
 rcases Int.le_total 0 w with h | h
 ·exact .inl ⟨w.toNat,by lia⟩
 ·by_cases e:w = 0
  ·exact .inl ⟨0,e⟩
  ·exact .inr ⟨(-w - 1).toNat,by lia⟩
theorem W6 {w:Int} (h:-1000000 ≤ w) (h':w ≤ 1000000):Pr (num w) ∧ (num w).length ≤ 10 ∧ 1 ≤ (num w).length:=by
 have e:(num w).length = (num w).cps.toList.length:=Array.length_toList.symm;have hp:∀ m,∀ c ∈ (Nat.toDigits 10 m).map Char.toNat,32 ≤ c ∧ c < 127:=fun m c hc=>by
  have:=Lx m c hc;lia
 rcases Qg w with ⟨m,rfl⟩ | ⟨m,rfl⟩
 ·have l:=Cr m (by lia);have l2:=List.length_pos_iff.mpr (E9 m);rw [W8] at e;exact ⟨⟨fun c hc=>by rw [W8] at hc;exact hp m c hc,by lia⟩,by lia,by lia⟩
 ·have l:=Cr (m + 1) (by lia);simp only [W7,length_cons] at e;refine ⟨⟨fun c hc=>?_,by lia⟩,by lia,by lia⟩;rw [W7] at hc
  rcases lC hc with rfl | hc
  ·lia
  ·exact hp _ c hc
theorem num_reads {w:Int} (h:-1000000 ≤ w) (h':w ≤ 1000000):PySem.intText? (num w) = some w:=by
 rcases Qg w with ⟨m,rfl⟩ | ⟨m,rfl⟩
 ·exact KIN.num_reads (by lia) (by lia)
 ·have:=PySem.intText_neg (W7 m) (Lx _) (E9 _) (le_trans (W6 h h').2.1 (by decide));simp only [this,KIN.val_back]
noncomputable def Jf (w:List Nat):Str:=⟨(w.map (97 + ·)).toArray⟩
theorem Bm (i:Nat):Jf [i] = L i:=rfl
theorem Zu (w:List Nat):(Jf w).length = w.length:=by
 show ((w.map (97 + ·)).toArray).size = _;simp
theorem J8 (w:List Nat):(Jf w).cps.toList = w.map (97 + ·):=by simp [Jf]
theorem Str.ext' {x y:Str} (h:x.cps.toList = y.cps.toList):x = y:=by
 obtain ⟨x⟩:=x;obtain ⟨y⟩:=y
 congr 1
 exact Array.ext' h
theorem app_list (x y:Str):(x ++ y).cps.toList = x.cps.toList ++ y.cps.toList:=by
 show (x.cps ++ y.cps).toList = _;simp
theorem Uj (w v:List Nat):Jf w ++ Jf v = Jf (w ++ v):=Str.ext' (by simp only [app_list,J8,J8,J8,map_append])
theorem Y6 {w v:List Nat} (h:Jf w = Jf v):w = v:=by
 have h1:(Jf w).cps.toList = (Jf v).cps.toList:=by exact rwb h rfl
 simp only [J8,J8] at h1;have hinj:∀ (a b:List Nat),a.map (97 + ·) = b.map (97 + ·)→a = b:=by
  intro a
  induction a with
  | nil=>intro b hb;cases b with
   | nil=>rfl
   | cons=>simp at hb
  | cons x a ih=>intro b hb;cases b with
   | nil=>simp at hb
   | cons y b=>
    simp only [map_cons,List.cons.injEq] at hb;simp only [ih b hb.2,show x = y by lia]
 exact hinj w v h1
theorem Yt {w:List Nat} (h:∀ i ∈ w,i < 5) (hl:w.length ≤ 100):Pr (Jf w):=⟨fun c hc=>by
 rw [J8] at hc;obtain ⟨i,hi,rfl⟩:=lM hc
 have:=h i hi;lia,by rw [Zu];lia⟩
theorem Ut {w:List Nat} (h:∀ i ∈ w,i < 5):Wq (Jf w) = Jf w:=Str.ext' (by
 show ((Jf w).cps.map lo1).toList = _;simp only [Array.toList_map,J8,map_map];refine map_congr_left fun i hi=>?_;have:=h i hi;have h5:i = 0 ∨ i = 1 ∨ i = 2 ∨ i = 3 ∨ i = 4:=by lia
 rcases h5 with rfl | rfl | rfl | rfl | rfl <;> rfl)
theorem Z1 {w:List Nat} (h:∀ i ∈ w,i < 5):Wq (upS (Jf w)) = Jf w:=Str.ext' (by
 show (((Jf w).cps.map up1).map lo1).toList = _;simp only [Array.toList_map,Array.toList_map,J8,map_map,map_map];refine map_congr_left fun i hi=>?_;have:=h i hi;have h5:i = 0 ∨ i = 1 ∨ i = 2 ∨ i = 3 ∨ i = 4:=by lia
 rcases h5 with rfl | rfl | rfl | rfl | rfl <;> rfl)
theorem Pr.app {x y:Str} (hx:Pr x) (hy:Pr y) (hz:(x ++ y).length ≤ 2 ^ 20):Pr (x ++ y):=⟨fun c hc=>by
 rw [app_list] at hc
 rcases lA hc with h | h
 ·exact hx.c c h
 ·exact hy.c c h,hz⟩
theorem Tg (x y:Str):(x ++ y).length = x.length + y.length:=by
 show (x.cps ++ y.cps).size = _;simp [Str.length]
theorem Wt {i:Nat} (h:i < 5):Pr (L i):=Yt (w:=[i]) (by simpa using h) (by simp)
theorem Pr.strOk {x:Str} (h:Pr x):PyData.strOk x = true:=by
 show x.cps.all _ = true;rw [Array.all_eq_true'];intro c hc;have:=h.c c (Array.mem_toList_iff.mpr hc);simp;lia
noncomputable def Xz (i:Nat) (w m:Int):Str:=if w % m ≠ 0 then upS (L i) else L i
noncomputable def Aq (t:Tie):List (Str × Str):=[(Xz t.1 t.2.2 2,L t.2.1 ++ num t.2.2),(Xz t.2.1 t.2.2 3,L t.1 ++ num t.2.2)]
noncomputable def Vc (T:List Tie):List (Str × Str):=T.flatMap Aq
noncomputable def Yj (t:Tie):Prop:=t.1 < 5 ∧ t.2.1 < 5 ∧ -1000 ≤ t.2.2 ∧ t.2.2 ≤ 999
theorem Yf.in {T:List Tie} {m:Nat} (h:Yf T m):∀ t ∈ T,Yj t:=fun t ht=>by
 have h1:=h.lt t ht;have h2:=h.wt t ht;exact ⟨by lia,h1.2,h2⟩
theorem D6 {i:Nat} {w m:Int} (h:i < 5):Pr (Xz i w m):=by
 unfold Xz;split
 ·exact (Wt h).up
 ·exact Wt h
theorem Nj {i:Nat} {w:Int} (h:i < 5) (h1:-1000 ≤ w) (h2:w ≤ 999):Pr (L i ++ num w) ∧ (L i ++ num w).length ≤ 11:=by
 have hn:=W6 (w:=w) (by lia) (by lia);have hl:(L i ++ num w).length ≤ 11:=by rw [Tg];have:(L i).length = 1:=rfl;lia
 exact ⟨(Wt h).app hn.1 (by lia),hl⟩
theorem Wr (T:List Tie):(Vc T).length = 2 * T.length:=by
 unfold Vc
 induction T with
 | nil=>rfl
 | cons t T ih=>(refine rwb flatMap_cons (rwb length_append (rwb ih ?_));rw [length_cons]);show 2 + _ = _;lia
theorem Uy {T:List Tie} (h:∀ t ∈ T,Yj t):PrV (Vc T):=fun p hp=>by
 refine el12 (List.mem_flatMap.mp hp) fun t ht hp=>?_;have:=h t ht;simp only [Aq,mem_cons,not_mem_nil,or_false] at hp
 rcases hp with rfl | rfl
 ·exact ⟨D6 this.1,(Nj this.2.1 this.2.2.1 this.2.2.2).1⟩
 ·exact ⟨D6 this.2.1,(Nj this.1 this.2.2.1 this.2.2.2).1⟩
theorem Wj:∀ a b:Tie,Zg a = Zg b→a = b:=fun ⟨i,j,w⟩ ⟨i',j',w'⟩ h=>by
 unfold Zg at h;injection h with h
 injection h with h1 h
 injection h with h2 h
 injection h with h3 _
 injection h1 with h1
 injection h2 with h2
 injection h3 with h3
 exact Prod.ext (Iw h1) (Prod.ext (Iw h2) h3)
theorem Xv (X:XB B):Jm B 301 (bodyOf 28) (Jh 28) ["ties"] []:=Jm.of X (by rfl) rfl rfl rfl rfl rfl (by rfl) (all1 fun a=>rfl)
theorem Cl.num {w:Int} (h:-1000000 ≤ w) (h':w ≤ 1000000) (hP:P (.str (num w)) H):Jp B A fm ρ H (.type "str") [.int w] P E:=
 Cl.je5 (by
  by_cases h0:w.natAbs = 0
  ·rw [h0];decide
  ·have:=(Nat.log2_lt h0 (k:=20)).mpr (by lia)
   lia) hP
theorem Lp (X:XB B) {T:List Tie} (hT:∀ t ∈ T,Yj t) (hz:T.length ≤ 100):Fn B (n + 1) (.ref 301) [.lst (T.map Zg)] H (Is (.lst (tab (Vc T))) H):=by
 revert X hT hz;revert B H n T;refine no_implicit_lambda% (G4 (h:=?_));refine (?_:A4 _) _ _ _ _;intro B H n T X hT hz;refine (Xv X).fn (by rfl) (by rfl) (by rfl) rfl (no_implicit_lambda% (G2 (h:=?_)));refine (?_:A2 _) _ _;intro A' fm C;have hstr:B.mg "str" = none:=mgN X (by rfl);refine Ss.ret<|EvE.comp C (by rfl) (by decide) (by decide) ?_
 let g2:Tie→Tie→D:=fun t p=>.tup [.str (if t.2.2 % p.2.2 ≠ 0 then upS (L p.1) else L p.1),.str (L p.2.1 ++ Mine.Tactic.num t.2.2)]
 have eg:T.flatMap (fun t=>[(t.1,t.2.1,2),(t.2.1,t.1,3)].map (g2 t)) = tab (Vc T):=by unfold Vc tab;refine rwb map_flatMap ?_;rfl
 refine EvE.loc C (by rfl) ⟨_,_,[],H,Jn.lst,R9 Wj (g:=fun t=>[(t.1,t.2.1,2),(t.2.1,t.1,3)].map (g2 t)) (List.Perm.refl _) (by rw [eg,length_map,Wr];lia) ?_,?_⟩
 ·rintro D' t ht fm2 out C2;have hin:=hT t ht;refine Asg.tup C2 rfl<|Jg.cons<|Asg.name C2<|Jg.cons<|Asg.name C2<|Jg.cons<|Asg.name C2<|Jg.nil ⟨rfl,kpp (kpp (kpp kp0)),fun env=>?_⟩;refine Y5.jef (l:=[(t.1,t.2.1,2),(t.2.1,t.1,3)]) Wj (by rfl) (by rfl) (by decide) ?_ ?_
  ·intro fm3 out3 C3;refine EvE.lst<|EvL.cons<|EvE.tup<|EvL.loc C3 (by rfl)<|EvL.loc C3 (by rfl)<|EvL.int<|EvL.nil<|OpN.tuple ?_;refine EvL.cons<|EvE.tup<|EvL.loc C3 (by rfl)<|EvL.loc C3 (by rfl)<|EvL.int<|EvL.nil<|OpN.tuple ?_;exact EvL.nil<|OpN.list ⟨rfl,rfl⟩
  ·intro p hp;have hp3:p.1 < 5 ∧ p.2.1 < 5 ∧ (p.2.2 = 2 ∨ p.2.2 = 3):=by
    simp only [mem_cons,not_mem_nil,or_false] at hp
    rcases hp with rfl | rfl
    ·exact ⟨hin.1,hin.2.1,.inl rfl⟩
    ·exact ⟨hin.2.1,hin.1,.inr rfl⟩
   obtain ⟨i,j,m⟩:=p;refine V5 hp3 fun hi hj hm=>?_;intro fm3 out3 C3;refine Asg.tup C3 rfl<|Jg.cons<|Asg.name C3<|Jg.cons<|Asg.name C3<|Jg.cons<|Asg.name C3<|Jg.nil ⟨rfl,kpn (NoH.ne (NoH.ne (NoH.ne NoH.capt)))<|kpn (NoH.ne (NoH.ne (NoH.ne NoH.capt)))<|kpn (NoH.ne (NoH.ne (NoH.ne NoH.capt))) kpi,fun fm4 out4 C4=>?_⟩;refine EvE.tup<|EvL.cons<|EvE.I0<|EvB.plain<|EvE.jo (Lf.loc C4 (by rfl)) (Lf.loc C4 (by rfl))<|Op2.fmod (by lia) ⟨_,Tru.int,?_⟩;refine rwb (J3 (by lia)) ?_;refine Jcs (x:=.str (if t.2.2 % m ≠ 0 then upS (L i) else L i)) (fun h=>?_) (fun h=>?_) ?_
   ·exact EvE.J4 (Lf.loc C4 (by rfl)) ⟨_,Y4,Kp.builtin,EvL.nil<|Cl.xg (Wt hi) ⟨by (refine rwb (if_pos (by simpa using h)) ?_;with_reducible rfl),rfl⟩⟩
   ·exact EvE.loc C4 (by rfl) ⟨by (refine rwb (if_neg (by simpa using h)) ?_;with_reducible rfl),rfl⟩
   refine EvL.cons<|EvE.Wf (Lf.loc C4 (by rfl))<|EvE.call<|EvE.gu C4 (by rfl) hstr PyProof.Rows.Boot.«str» (by decide) ⟨_,Kp.type,EvL.loc C4 (by rfl)<|EvL.nil<|Cl.num (by have:=hin.2.2;lia) (by have:=hin.2.2;lia)<|Op2.Ob (by have:=(Nj hj hin.2.2.1 hin.2.2.2).2;rw [Tg] at this;refine rwb sizeLine_eq ?_;lia)<|EvL.nil<|OpN.tuple ⟨rfl,rfl⟩⟩
 ·exact ⟨by rw [Xo Wj,eg],rfl⟩
theorem M3 (X:XB B):Jm B 315 (bodyOf 30) (Jh 30) ["way", "letter"] []:=Jm.of X (by rfl) rfl rfl rfl rfl rfl (by rfl) (all2 fun a b=>rfl)
theorem Ew {w:List Nat} (h:∀ i ∈ w,i < 5):Idx (.str (Jf w)) (w.map L):=.inl ⟨_,rfl,by
  unfold strIterType;rw [if_pos];rw [Array.all_eq_true'];intro c hc;have:=Array.mem_toList_iff.mpr hc;rw [J8] at this;refine el12 (lM this) fun i hi z2=>?_;subst z2;have:=h i hi
  simp;lia,by (rewrite [J8];refine rwb map_map ?_);rfl⟩
theorem Cm {α:Type} [DecidableEq α] {y:α}:∀ {ys:List α},y ∈ ys→∃ i:Nat,ys[i]? = some y ∧ ∀ j:Nat,j < i→ys[j]? ≠ some y
 | x :: ys,h=>by
  by_cases e:x = y
  ·subst e;exact ⟨0,rfl,fun j hj=>by lia⟩
  ·rcases lC h with q | q
   ·exact absurd q.symm e
   ·refine el12 (Cm q) fun i h1 h2=>?_;refine ⟨i + 1,h1,fun j hj=>?_⟩;cases j with
    | zero=>simpa using e
    | succ j=>exact h2 j (by lia)
theorem Hi (X:XB B) {w:List Nat} {k:Nat} (hw:∀ i ∈ w,i < 5):Fn0 B (n + 3) (.ref 315) [.str (Jf w),.str (L k)] H (Is (.bool (!w.contains k)) H):=by
 revert X hw;revert B H n w k;refine no_implicit_lambda% (G5 (h:=?_));refine (?_:A5 _) _ _ _ _ _;intro B H n w k X hw;refine (M3 X).jel (by rfl) (by rfl) (by rfl) rfl (no_implicit_lambda% (G2 (h:=?_)));refine (?_:A2 _) _ _;intro A' fm hh sk C;have hstr:B.mg "str" = none:=mgN X (by rfl);have hve:B.mg "ValueError" = none:=mgN X (by rfl)
 by_cases hk:k ∈ w
 ·refine rwb (List.contains_iff_mem.mpr hk) ?_;refine el12 (Cm (mem_map_of_mem (f:=L) hk)) fun i h1 h2=>?_;refine Ss.cons<|S1.jd6<|Ss.cons<|S1.expr<|EvE.jq C X (Wn X)<|EvL.loc C (by rfl)<|EvL.loc C (by rfl)<|EvL.nil<|Fn0.is C hh (Ci (n:=n) X (Ew hw) h1 h2) (by lia) ?_;exact Ss.nil<|Ss.ret<|EvE.bool ⟨rfl,rfl⟩
 ·have hc:w.contains k = false:=by rw [Bool.eq_false_iff];intro q;exact hk (List.contains_iff_mem.mp q)
  refine rwb hc ?_;have hno:L k ∉ w.map L:=fun q=>by
   refine el12 (lM q) fun j hj e=>?_;exact hk (Iw e ▸ hj)
  refine Ss.cons<|S1.jai (X:="ValueError") (T:="ValueError") (ws:=[.str Ep]) (J:=fun Z H1=>H1 = H) C (by rfl) (by rfl) hve PyProof.Rows.Boot.«ValueError» (by decide) (by rfl) (by rfl) (by rfl) (fun fm' C'=>?_) (fun fm' e o ρ' H' C' ex hJ=>?_) sk
  ·exact Ss.cons<|S1.expr<|EvE.jq C' X (Wn X)<|EvL.loc C' (by rfl)<|EvL.loc C' (by rfl)<|EvL.nil<|FnX.jep C' hh (Am X (Ew hw) hno) (by lia) rfl
  ·subst hJ;refine Ss.ret<|EvE.cmp<|EvE.call<|EvE.gu C' (by rfl) hstr PyProof.Rows.Boot.«str» (by decide) ⟨_,Kp.type,EvL.loc C' Has.self<|EvL.nil<|Cl.zt C' ex PySem.F.excStr_ValueError<|EvE.str<|Op2.jay ⟨by simp [Ep],rfl⟩⟩
theorem Kp.jc8 {a:Addr} {body:List Stmt} {scope:Scope} {names:List Str} {kw:Str} (S:C0 B a body scope names kw):Kp B (.val (.ref a)) (.ref a):=by
 refine el23 S.ex fun o fd h1 h2 Z=>?_;refine ⟨rfl,fun h k=>⟨.frame,.inl rfl,?_⟩⟩;unfold keeperOf;refine (Looks.ld (part:=none) (k _ _ h1)).andThen ?_;refine rwb h2 ?_;exact .now
theorem Ek (X:XB B):Jm B 308 (bodyOf 29) (Jh 29) ["ties", "odd"] []:=Jm.of X (by rfl) rfl rfl rfl rfl rfl (by rfl) (all2 fun a b=>rfl)
noncomputable def signs (p:Nat):List Nat:=List.range 9 ++ [127] ++ (List.range (23 - p)).map (9 + p + ·)
theorem P7 (p:Nat) (h:p ≤ 1):(signs p).length = 33 - p:=by unfold signs;simp;lia
noncomputable def isM (o:Option Sre.Outcome):Bool:=match o with | some .matched=>true | _=>false
noncomputable def isN (o:Option Sre.Outcome):Bool:=match o with | some .failed=>true | _=>false
theorem F0 {o:Option Sre.Outcome} (h:isM o = true):o = some .matched:=by unfold isM at h;split at h;rfl;contradiction
theorem Jct {o:Option Sre.Outcome} (h:isN o = true):o = some .failed:=by unfold isN at h;split at h;rfl;contradiction
theorem Az:∀ s ∈ signs 1,found V1 ⟨#[98,49,s]⟩ = some .matched:=by
 have h:(signs 1).all (fun s=>isM (found V1 ⟨#[98,49,s]⟩)) = true:=by decide +kernel
 exact fun s hs=>F0 (List.all_eq_true.mp h s hs)
theorem Hz:∀ s ∈ signs 0,found codeN ⟨#[97,s]⟩ = some .matched:=by
 have h:(signs 0).all (fun s=>isM (found codeN ⟨#[97,s]⟩)) = true:=by decide +kernel
 exact fun s hs=>F0 (List.all_eq_true.mp h s hs)
theorem N4:found V1 ⟨#[98,49]⟩ = some .failed:=Jct (by decide +kernel)
theorem V0 (X:XB B) {l:Addr}:Ji B H (.hdr l) "add_header" (.ref 277):=Ji.hdr X.k (by rfl) (by rfl) (by rfl) (by decide)
theorem Jcx (X:XB B) {T:List Tie} (hT:∀ t ∈ T,Yj t) (hz:T.length ≤ 100) {c:Int} (hc:0 ≤ c):Fn0 B (n + 5) (.ref 308) [.lst (T.map Zg),.int c] H (fun d H'=>∃ l,d = .hdr l ∧ H' = (l,tab (Vc T)) :: H):=by
 revert X hT hz hc;revert B H n T c;refine no_implicit_lambda% (G5 (h:=?_));refine (?_:A5 _) _ _ _ _ _;intro B H n T c X hT hz hc;refine (Ek X).jel (by rfl) (by rfl) (by rfl) rfl (no_implicit_lambda% (G2 (h:=?_)));refine (?_:A2 _) _ _;intro A' fm hh sk C;have hstr:B.mg "str" = none:=mgN X (by rfl);have hve:B.mg "ValueError" = none:=mgN X (by rfl);have hli:B.mg "list" = none:=mgN X (by rfl);have hra:B.mg "range" = none:=mgN X (by rfl);have hle:B.mg "len" = none:=mgN X (by rfl);have hch:B.mg "chr" = none:=mgN X (by rfl);obtain ⟨p,hp,hp1⟩:∃ p:Nat,c % 2 = p ∧ p ≤ 1:=⟨(c % 2).toNat,by lia,by lia⟩;refine Ss.cons<|S1.iy C ?_;refine EvE.call<|EvE.tq C (mgX X (by rfl)) ⟨_,Gm X,EvL.nil<|Fn.op C ((Cj (n:=n) X).mono ?_) (by lia)⟩;rintro d H1 ⟨l,rfl,rfl⟩;refine EvE.bin<|EvE.bin<|EvE.call<|EvE.gu C (by rfl) hli PyProof.Rows.Boot.«list» (by decide) ⟨_,Kp.type,EvL.cons<|EvE.call<|EvE.gu C (by rfl) hra PyProof.Rows.Boot.«range» (by decide) ⟨_,Kp.type,EvL.int<|EvL.nil<|Cl.ma fun r t u v=>EvL.nil<|Cl.ro (k:=9) hh (by rfl) (by rfl) (by decide) ?_⟩⟩;refine EvE.lst<|EvL.int<|EvL.nil<|OpN.list<|Op2.addL (by rw [sizeLine_eq];simp) ?_;refine EvE.call<|EvE.gu C (by rfl) hli PyProof.Rows.Boot.«list» (by decide) ⟨_,Kp.type,EvL.cons<|EvE.call<|EvE.gu C (by rfl) hra PyProof.Rows.Boot.«range» (by decide) ⟨_,Kp.type,EvL.cons<|EvE.Wf Lf.int<|EvE.jo (Lf.loc C (by rfl)) Lf.int<|Op2.fmod (by decide)<|Op2.add ?_⟩⟩;rw [J3 (by decide),hp];have hsm:Builtin.Range.small (9 + (p:Int)) 32 1 = true ∧ Builtin.Range.rangeSize (9 + (p:Int)) 32 1 = ((23 - p:Nat):Int):=by
  have:p = 0 ∨ p = 1:=by lia
  rcases this with rfl | rfl <;> exact ⟨by rfl,by rfl⟩
 refine EvL.int<|EvL.nil<|Cl.jan fun r t u v=>EvL.nil<|Cl.ro (k:=23 - p) hh hsm.1 hsm.2 (by lia)<|Op2.addL (by rw [sizeLine_eq];simp;lia) ?_;have es:(List.map (fun (i:Nat)=>D.int (0 + (i:Int) * 1)) (List.range 9) ++ [D.int 127] ++ List.map (fun (i:Nat)=>D.int (9 + (p:Int) + (i:Int) * 1)) (List.range (23 - p))) = (signs p).map fun s=>D.int (s:Nat):=by
  have:p = 0 ∨ p = 1:=by lia
  rcases this with rfl | rfl <;> rfl
 rw [es];have hpv:=Uy hT;have hel:=Wr T;refine Ss.cons<|S1.for (fun ds i ρ1 H1=>H1 = (l,tab ((Vc T).take i)) :: H ∧ Has ρ1 "net" (.hdr l) ∧ Has ρ1 "signs" (.lst ((signs p).map fun s=>D.int (s:Nat))) ∧ Has ρ1 "odd" (.int c)) C ?_;refine EvE.jq C X (Xv X)<|EvL.loc C (by rfl)<|EvL.nil<|Fn.is C (Lp (n:=0) X hT hz) (by lia) ⟨_,_,Jn.lst,⟨rfl,by rfl,by rfl,by rfl⟩,?_,?_⟩
 ·rintro fm' i d' ρ1 H1 C' hd' ⟨rfl,h1,h2,h3⟩;rw [List.getElem?_map] at hd';obtain ⟨q,hq,rfl⟩:=map_eq_some_iff.mp hd';have hqv:=hpv q (List.mem_of_getElem? hq);refine Asg.tup C' rfl<|Jg.cons<|Asg.name C'<|Jg.cons<|Asg.name C'<|Jg.nil ?_;refine Ss.cons<|S1.expr<|EvE.J4 (Lf.loc C' h1.ne.ne) ⟨_,V0 X,Kp.jc8 (Yv X),EvL.loc C' Has.self.ne<|EvL.loc C' Has.self<|EvL.nil<|Fn0.op C' hh ((Qr (n:=n) X .head hqv.1 hqv.2 (by rw [length_take];lia)).mono ?_) (by lia)⟩;rintro d H1 ⟨rfl,rfl⟩;refine Ss.nil ⟨?_,h1.ne.ne,h2.ne.ne,h3.ne.ne⟩;have:(Vc T).take (i + 1) = (Vc T).take i ++ [(q.1,q.2)]:=by rw [take_add_one,hq];rfl
  rw [this]
 rintro ρ1 H1 ⟨rfl,h1,h2,h3⟩;have el:(Vc T).take ((tab (Vc T)).length) = Vc T:=by rw [length_map,take_length]
 rw [el];refine Ss.nil ?_;have hsl:=P7 p hp1;obtain ⟨j,hj⟩:∃ j:Nat,(c / 2) % ((33 - p:Nat):Int) = j:=⟨((c / 2) % ((33 - p:Nat):Int)).toNat,by have:=emod_nonneg (c / 2) (b:=((33 - p:Nat):Int)) (by lia);lia⟩;have hjl:j < (signs p).length:=by have:=emod_lt_of_pos (c / 2) (b:=((33 - p:Nat):Int)) (by lia);lia
 obtain ⟨sg,hsg⟩:∃ sg,(signs p)[j]? = some sg:=⟨_,List.getElem?_eq_getElem hjl⟩;have hsm:sg ∈ signs p:=List.mem_of_getElem? hsg;have hsr:sg < 128:=by
  unfold signs at hsm;simp only [mem_append,List.mem_range,mem_singleton,mem_map] at hsm
  rcases hsm with (h | h) | ⟨a,ha,h⟩ <;> lia
 refine Ss.assign C<|EvE.call<|EvE.gu C (by rfl) hch (by rfl) (by decide) ⟨_,Kp.builtin,EvL.cons<|EvE.l9 (Lf.loc C h2)<|EvE.bin<|EvE.jo (Lf.loc C h3) Lf.int<|Op2.fdiv (by decide) (Ku (by decide))<|EvE.call<|EvE.gu C (by rfl) hle (by rfl) (by decide) ⟨_,Kp.builtin,EvL.loc C h2<|EvL.nil<|Cl.sx (by rw [length_map];lia)<|Op2.fmod (by rw [length_map];lia) ?_⟩⟩;rw [J0 (by decide),J3 (by lia),length_map,hsl,hj];refine Op2.X8 rfl (by lia) (by lia) (by rw [toNat_natCast,List.getElem?_map,hsg];rfl)<|EvL.nil<|Cl.chr (by simp;lia) ?_;rw [toNat_natCast];refine Ss.cons<|S1.jai (X:="ValueError") (T:="ValueError") (ws:=[.str Dz]) (J:=fun ρ1 H1=>H1 = (l,tab (Vc T)) :: H ∧ Has ρ1 "net" (.hdr l)) C (by rfl) (by rfl) hve PyProof.Rows.Boot.«ValueError» (by decide) (by rfl) (by rfl) (by rfl) (fun fm' C'=>?_) (fun fm' e o ρ' H' C' ex hJ=>?_) sk
 ·have hs:Has (put "sign" (.str ⟨#[sg]⟩) ρ1) "sign" (.str ⟨#[sg]⟩):=Has.self;refine Ss.cons<|S1.expr<|EvE.J4 (Lf.loc C' h1.ne) ⟨_,V0 X,Kp.jc8 (Yv X),?_⟩;refine EvL.cons<|EvE.Wf Lf.str<|EvE.Wf (Lf.loc C' hs)<|EvE.Wf Lf.int<|EvE.jo (Lf.loc C' h3.ne) Lf.int<|Op2.fmod (by decide)<|Op2.sub ?_;rw [J3 (by decide),hp];have:p = 0 ∨ p = 1:=by lia
  rcases this with rfl | rfl
  ·refine Op2.jci<|Op2.Ob (by rw [sizeLine_eq];exact le_trans (show 2 ≤ 3 by decide) (by decide)) ?_;refine EvL.cons<|EvE.Wf Lf.str<|EvE.Wf (Lf.loc C' hs)<|EvE.jo (Lf.loc C' h3.ne) Lf.int<|Op2.fmod (by decide) ?_;rw [J3 (by decide),hp];refine Op2.jcj<|Op2.Ob (by rw [sizeLine_eq];exact le_trans (show 2 ≤ 3 by decide) (by decide)) ?_;refine EvL.nil<|FnX.jep C' hh (He X (.head _) (v:=("b1":Str) ++ Str.empty) (x:=("a":Str) ++ ⟨#[sg]⟩) N4 (by decide) (Hz sg hsm) (by show ((2:Nat):Int) ≤ _;decide)) (by lia) ⟨rfl,h1.ne⟩
  ·refine Op2.jcj<|Op2.Ob (by rw [sizeLine_eq];exact le_trans (show 1 ≤ 3 by decide) (by decide)) ?_;refine EvL.cons<|EvE.Wf Lf.str<|EvE.Wf (Lf.loc C' hs)<|EvE.jo (Lf.loc C' h3.ne) Lf.int<|Op2.fmod (by decide) ?_;rw [J3 (by decide),hp];refine Op2.jci<|Op2.Ob (by rw [sizeLine_eq];exact le_trans (show 3 ≤ 3 by decide) (by decide)) ?_;refine EvL.nil<|FnX.jep C' hh (Hf X (v:=("b1":Str) ++ ⟨#[sg]⟩) (Az sg hsm) (by show ((3:Nat):Int) ≤ _;decide)) (by lia) ⟨rfl,h1.ne⟩
 ·obtain ⟨rfl,hn⟩:=hJ;refine Ss.ret<|EvE.I0<|EvB.cmp<|EvE.call<|EvE.gu C' (by rfl) hstr PyProof.Rows.Boot.«str» (by decide) ⟨_,Kp.type,EvL.loc C' Has.self<|EvL.nil<|Cl.zt C' ex PySem.F.excStr_ValueError<|EvE.str<|Op2.jay ⟨_,rfl,?_⟩⟩;rw [if_pos (by rfl)];exact EvE.loc C' hn.ne ⟨l,rfl,rfl⟩
noncomputable def Jb (w:List Nat):Nat:=w.getLastD 0
noncomputable abbrev Way:=List Nat × Int
noncomputable def Uz (t:Tie):List (Nat × Nat):=[(t.1,t.2.1),(t.2.1,t.1)]
noncomputable def stepT (w:List Nat) (t:Tie):List Way:=((Uz t).filter fun q=>q.1 == Jb w && !w.contains q.2).map fun q=>(w ++ [q.2],t.2.2)
noncomputable def Jy (T:List Tie) (r:Nat):Nat→List Way
 | 0=>[([r],1)]
 | k + 1=>(Jy T r k).flatMap fun p=>T.flatMap (stepT p.1)
noncomputable def Qx (T:List Tie) (r k:Nat):List Way:=(List.range (k + 1)).flatMap (Jy T r)
noncomputable abbrev Ja (T:List Tie) (r:Nat):List Way:=Qx T r 4
theorem Kl (T:List Tie) (r:Nat):Qx T r 0 = [([r],1)]:=rfl
theorem Yu (T:List Tie) (r k:Nat):Qx T r (k + 1) = Qx T r k ++ Jy T r (k + 1):=by
 unfold Qx;rw [range_succ,flatMap_append];simp
noncomputable def Gv (p:Way):D:=.tup [.str (Jf p.1),.int p.2]
theorem Wg:∀ a b:Way,Gv a = Gv b→a = b:=fun ⟨w,x⟩ ⟨v,y⟩ h=>by
 unfold Gv at h;injection h with h
 injection h with h1 h2
 injection h2 with h2 _
 injection h1 with h1
 injection h2 with h2
 exact Prod.ext (Y6 h1) h2
noncomputable def pairD (q:Nat × Nat):D:=.tup [.str (L q.1),.str (L q.2)]
theorem Af:∀ a b:Nat × Nat,pairD a = pairD b→a = b:=fun ⟨i,j⟩ ⟨i',j'⟩ h=>by
 unfold pairD at h;injection h with h
 injection h with h1 h
 injection h with h2 _
 injection h1 with h1
 injection h2 with h2
 exact Prod.ext (Iw h1) (Iw h2)
theorem Nx:∀ (m:Nat) (l:List Nat),l.Nodup→(∀ i ∈ l,i < m)→l.length ≤ m:=by
 intro zs
 induction zs with
 | zero=>
  intro l Z h;cases l with
  | nil=>exact le_refl _
  | cons a l=>exact absurd (h a (.head _)) (Nat.not_lt_zero _)
 | succ m IH=>
  intro l hn h
  by_cases hm:m ∈ l
  ·have ih:=IH (l.erase m) (hn.erase m) fun i hi=>by
    have h1:=(List.Nodup.mem_erase_iff hn).mp hi;have:=h i h1.2;have:=h1.1;lia
   replace ih:=(List.length_erase_of_mem hm) ▸ ih;lia
  ·have ih:=IH l hn fun i hi=>by
    have:=h i hi;have:i ≠ m:=fun e=>hm (e ▸ hi);lia
   lia
structure Cz (p:Way) (k:Nat):Prop where
 len:p.1.length = k + 1
 lt:∀ i ∈ p.1,i < 5
 nd:p.1.Nodup
 wt:-1000 ≤ p.2 ∧ p.2 ≤ 999
theorem Cz.le {p:Way} {k:Nat} (h:Cz p k):k < 5:=by
 have:=Nx 5 p.1 h.nd h.lt;rw [h.len] at this;lia
theorem Ai {w:List Nat} {t:Tie} {p:Way}:p ∈ stepT w t ↔ ∃ q ∈ Uz t,q.1 = Jb w ∧ q.2 ∉ w ∧ p = (w ++ [q.2],t.2.2):=by
 unfold stepT;simp only [mem_map,List.mem_filter,Bool.and_eq_true,beq_iff_eq,Bool.not_eq_true',contains_eq_mem,decide_eq_false_iff_not]
 constructor
 ·(refine fun zz=>el12 zz fun q z1 z2=>?_;obtain ⟨h1,h2,h3⟩:=z1;subst z2);exact ⟨q,h1,h2,h3,rfl⟩
 ·(refine fun zz=>el14 zz fun q h1 h2 h3 z4=>?_;subst z4);exact ⟨q,⟨h1,h2,h3⟩,rfl⟩
theorem Wo {t:Tie} {q:Nat × Nat}:q ∈ Uz t ↔ q = (t.1,t.2.1) ∨ q = (t.2.1,t.1):=by simp [Uz]
theorem J6 {T:List Tie} {r:Nat} (hT:∀ t ∈ T,Yj t) (hr:r < 5):∀ k,∀ p ∈ Jy T r k,Cz p k:=by
 intro zs
 induction zs with
 | zero=>
  intro p hp;refine rwb (lS hp) ?_;exact ⟨rfl,by simpa using hr,by simp,by simp,by simp⟩
 | succ k IH=>
  intro p hp;refine el12 (List.mem_flatMap.mp hp) fun p0 h0 hp=>?_;refine el12 (List.mem_flatMap.mp hp) fun t ht hp=>?_;refine el14 (Ai.mp hp) fun q hq h1 h2 z4=>?_;subst z4;have ih:=IH p0 h0;have hin:=hT t ht;refine ⟨by simp only [length_append,ih.len];rfl,fun i hi=>?_,?_,hin.2.2⟩
  ·rcases lA hi with hi | hi
   ·exact ih.lt i hi
   ·refine rwb (lS hi) ?_
    rcases Wo.mp hq with rfl | rfl
    ·exact hin.2.1
    ·exact hin.1
  ·rw [nodup_append];refine ⟨ih.nd,by simp,fun a ha b hb e=>?_⟩;replace e:=(lS hb) ▸ e;exact h2 (e ▸ ha)
theorem E3 {α β:Type} {f:α→List β} {m:Nat}:∀ l:List α,(∀ a ∈ l,(f a).length ≤ m)→(l.flatMap f).length ≤ l.length * m:=by
 intro zs
 induction zs with
 | nil=>
  intro Z;simp
 | cons a l IH=>
  intro h;simp only [flatMap_cons,length_append,length_cons,Nat.succ_mul];have h1:=h a (.head _);have h2:=IH fun b hb=>h b (.tail _ hb);lia
theorem P6 (w:List Nat) (t:Tie):(stepT w t).length ≤ 2:=by
 unfold stepT;rw [length_map];exact le_trans (length_filter_le _ _) (le_refl _)
theorem Gl {T:List Tie} {r:Nat} (hT:T.length ≤ 6):∀ k,(Jy T r k).length ≤ 12 ^ k
 | 0=>le_refl _
 | k + 1=>by
  have h:=E3 (f:=fun p:Way=>T.flatMap (stepT p.1)) (m:=12) (Jy T r k) fun p Z=>le_trans (E3 T fun t Z=>P6 p.1 t) (by lia);have ih:=Gl (r:=r) hT k;simp only [Nat.pow_succ];exact le_trans h (Nat.mul_le_mul_right _ ih)
theorem T2 {T:List Tie} {r:Nat} (hT:T.length ≤ 6):∀ k,k ≤ 4→(Qx T r k).length ≤ 50000:=by
 have h:∀ k,k ≤ 4→(Qx T r k).length ≤ 12 ^ k + 12 ^ k:=by
  intro k
  induction k with
  | zero=>intro Z;simp only [Kl];exact Nat.le_add_left 1 1
  | succ k ih=>
   intro hk;rw [Yu,length_append];have h1:=ih (by lia);have h2:=Gl (r:=r) hT (k + 1);simp only [Nat.pow_succ] at *;lia
 intro k hk;have:=h k hk;have h4:12 ^ k ≤ 12 ^ 4:=pow_le_pow_right (by decide) hk;have:(12:Nat) ^ 4 = 20736:=by decide
 lia
theorem Vh (w:List Nat) (k:Nat):Txt.contains (Jf w) (L k) = w.contains k:=by
 unfold Txt.contains L;rw [StrLaws.found_one,J8]
 by_cases h:k ∈ w
 ·refine rwb (decide_eq_true (List.mem_map.mpr ⟨k,h,rfl⟩)) ?_;exact rwb (List.contains_iff_mem.mpr h) rfl
 ·rw [decide_eq_false fun q=>?_,Bool.eq_false_iff.mpr fun q=>h (List.contains_iff_mem.mp q)];refine el12 (lM q) fun j hj e=>?_;have:j = k:=by lia
  exact h (this ▸ hj)
theorem Ja2 {w:List Nat} {j:Nat} {i:Nat} (h:w[j]? = some i):(Jf w).cps[j]? = some (97 + i):=by
 unfold Jf;(refine rwb (List.getElem?_toArray) (rwb (List.getElem?_map) (rwb h ?_)));rfl
theorem Op2.Pl {value slice:Expr} {w:List Nat} (hs:Zk slice = true) (hne:w ≠ []) (hl:w.length < 1000) (h:P (.str (L (Jb w))) H):Op2 B A fm ρ H (subscriptTail value slice) (.str (Jf w)) (.int (-1)) P E:=by
 refine Op2.X7 (c:=97 + Jb w) hs (by decide) (by decide) ?_ h;have hp:=List.length_pos_iff.mpr hne;have e:seqIndex? (-1) (Jf w).length = some (w.length - 1):=by
  rw [Zu];unfold seqIndex?;simp;lia
 refine rwb e ?_;refine Ja2 ?_;unfold Jb;refine rwb (List.getLastD_eq_getLast?) (rwb (List.getLast?_eq_getElem?) ?_);refine rwb (List.getElem?_eq_getElem (by lia)) ?_;rfl
theorem Dk (X:XB B):Jm B 325 (bodyOf 32) (Jh 32) ["ties", "root"] []:=Jm.of X (by rfl) rfl rfl rfl rfl rfl (by rfl) (all2 fun a b=>rfl)
theorem Jbl (X:XB B) {T:List Tie} (hT:∀ t ∈ T,Yj t) (hz:T.length ≤ 6) {r:Nat} (hr:r < 5):Fn0 B (n + 1) (.ref 325) [.lst (T.map Zg),.str (L r)] H (Is (.lst ((Ja T r).map Gv)) H):=by
 revert X hT hz hr;revert B H n T r;refine no_implicit_lambda% (G5 (h:=?_));refine (?_:A5 _) _ _ _ _ _;intro B H n T r X hT hz hr;refine (Dk X).Pm (by rfl) (by rfl) (by rfl) rfl (no_implicit_lambda% (G2 (h:=?_)));refine (?_:A2 _) _ _;intro A' fm hh C;have hra:B.mg "range" = none:=mgN X (by rfl);refine Ss.cons<|S1.iy C ?_;have one:∀ {ρ:Loc} {p1 p2 p3 p4:Pos} {P:D→Led→Prop} {E:Value→Shared→Prop},Has ρ "root" (.str (L r))→P (.lst [Gv ([r],1)]) H→EvE B A' fm ρ H (.List [.Tuple [.Name "root" p1,.Constant (.int 1) 0 p2] 0 p3] p4) P E:=fun {ρ p1 p2 p3 p4 P E} h1 h2=>
  EvE.lst<|EvL.cons<|EvE.tup<|EvL.loc C h1<|EvL.int<|EvL.nil<|OpN.tuple<|EvL.nil<|OpN.list h2
 refine one (by rfl)<|one (by rfl) ?_;refine Ss.cons<|S1.for (fun ds i ρ1 H1=>H1 = H ∧ Has ρ1 "ties" (.lst (T.map Zg)) ∧ Has ρ1 "ways" (.lst ((Qx T r i).map Gv)) ∧ Has ρ1 "level" (.lst ((Jy T r i).map Gv))) C ?_;refine EvE.call<|EvE.gu C (by rfl) hra PyProof.Rows.Boot.«range» (by decide) ⟨_,Kp.type,EvL.int<|EvL.nil<|Cl.ma fun ra ta ua va=>⟨_,_,Jn.jdi (k:=4) hh (by rfl) (by rfl),⟨rfl,by rfl,by rfl,by rfl⟩,?_,?_⟩⟩
 ·refine no_implicit_lambda% (G5 (h:=?_));refine (?_:A5 _) _ _ _ _ _;refine fun fm' i d' ρ1 H1 C' hd' zz=>I5 zz fun z0 h1 h2 h3=>?_;subst z0;have hi:i < 4:=by
   have:=(lG hd').1;(rewrite [length_map] at this;replace this:=length_range ▸ this);exact this
  refine Asg.name C' ?_;have hlev:(Jy T r i).flatMap (fun p=>(T.flatMap (stepT p.1)).map Gv) = (Jy T r (i + 1)).map Gv:=List.map_flatMap.symm;refine Ss.cons<|S1.Om C' (by rfl) (by rfl) (by decide) (by decide) (by rfl) ?_;refine EvE.loc C' h3.ne ⟨_,_,[],_,Jn.lst,R9 Wg (g:=fun p=>(T.flatMap (stepT p.1)).map Gv) (List.Perm.refl _) ?_ ?_,?_⟩
  ·refine rwb hlev ?_;rw [length_map];have h1:=Gl (T:=T) (r:=r) hz (i + 1);have h2:12 ^ (i + 1) ≤ 12 ^ 4:=pow_le_pow_right (by decide) (by lia);exact le_trans h1 (le_trans h2 (by decide))
  ·refine no_implicit_lambda% (G2 (h:=?_));refine (?_:A2 _) _ _;intro D' p hp fm2 out C2;have hw:=J6 hT hr i p hp;have hw5:=hw.le;refine Asg.tup C2 rfl<|Jg.cons<|Asg.name C2<|Jg.cons<|Asg.name C2<|Jg.nil ⟨rfl,kpp (kpp kp0),fun env=>?_⟩;refine rwb map_flatMap ?_;refine Y5.jfd Wj (by rfl) (by decide) ?_ ?_
   ·intro fm3 out3 C3;exact EvE.Vl C3 (Has.ne (Has.ne (J2 h1.ne (by rfl)))) ⟨rfl,rfl⟩
   ·intro t ht fm3 out3 C3;have hin:=hT t ht;refine Asg.tup C3 rfl<|Jg.cons<|Asg.name C3<|Jg.cons<|Asg.name C3<|Jg.cons<|Asg.name C3<|Jg.nil ⟨rfl,kpn (NoH.ne (NoH.ne NoH.capt))<|kpn (NoH.ne (NoH.ne NoH.capt))<|kpn (NoH.ne (NoH.ne NoH.capt)) kpi,fun env=>?_⟩;unfold stepT;refine rwb map_map ?_;refine Y5.jas Af (by rfl) (by rfl) (by decide) ?_ ?_
    ·intro fm4 out4 C4;refine EvE.lst<|EvL.cons<|EvE.tup<|EvL.loc C4 Has.self.ne.ne<|EvL.loc C4 Has.self.ne<|EvL.nil<|OpN.tuple ?_;refine EvL.cons<|EvE.tup<|EvL.loc C4 Has.self.ne<|EvL.loc C4 Has.self.ne.ne<|EvL.nil<|OpN.tuple ?_;exact EvL.nil<|OpN.list ⟨rfl,rfl⟩
    ·intro q hq fm4 out4 C4;refine Asg.tup C4 rfl<|Jg.cons<|Asg.name C4<|Jg.cons<|Asg.name C4<|Jg.nil ⟨rfl,?_,?_,?_⟩
     ·exact kpn (NoH.ne (NoH.ne (NoH.ne (NoH.ne (NoH.ne NoH.capt)))))<|kpn (NoH.ne (NoH.ne (NoH.ne (NoH.ne (NoH.ne NoH.capt))))) kpi
     ·intro fm5 out5 C5;refine EvB.and<|EvB.jav (Lf.loc C5 Has.self.ne)<|EvE.l9 (Lf.loc C5 Has.self.ne.ne.ne.ne.ne.ne)<|EvE.un<|EvE.int<|Op1.neg<|Op2.Pl (by rfl) (by intro e;have:=hw.len;replace this:=e ▸ this;contradiction) (by refine rwb hw.len ?_;lia)<|Op2.jay ⟨_,rfl,?_⟩;rw [Rl];cases e1:q.1 == Jb p.1
      ·refine rwb (if_neg (by decide)) ?_;exact ⟨rfl,rfl⟩
      ·refine rwb (if_pos rfl) ?_;refine EvB.and<|EvB.zq (Lf.loc C5 Has.self) (Lf.loc C5 Has.self.ne.ne.ne.ne.ne.ne)<|Op2.jaq ⟨_,rfl,?_⟩;rw [Vh];cases e2:p.1.contains q.2
       ·(refine rwb Bool.not_false (rwb (if_pos rfl) ?_));exact EvB.jax ⟨rfl,rfl⟩
       ·(refine rwb Bool.not_true (rwb (if_neg (by decide)) ?_));exact ⟨rfl,rfl⟩
     ·intro hq1 fm5 out5 C5;refine EvE.tup<|EvL.cons<|EvE.jo (Lf.loc C5 Has.self.ne.ne.ne.ne.ne.ne) (Lf.loc C5 Has.self)<|Op2.Ob (by (rewrite [Zu];refine rwb hw.len (rwb sizeLine_eq ?_));show _ + 1 ≤ _;lia)<|EvL.loc C5 Has.self.ne.ne<|EvL.nil<|OpN.tuple ⟨?_,rfl⟩;rw [← Bm,Uj];rfl
  ·refine rwb (Xo Wg) (rwb hlev ?_);have hl:=Gl (T:=T) (r:=r) hz (i + 1);have h12:12 ^ (i + 1) ≤ 12 ^ 4:=pow_le_pow_right (by decide) (by lia);have hu:=T2 (T:=T) (r:=r) hz i (by lia);refine Ss.assign C'<|EvE.jo (Lf.loc C' h2.ne.ne) (Lf.loc C' Has.self)<|Op2.addL (by (rewrite [length_map,length_map];refine rwb sizeLine_eq ?_);lia) ?_;exact Ss.nil ⟨rfl,h1.ne.ne.ne,by (refine rwf map_append ?_;rw [← Yu]);exact Has.self,Has.self.ne⟩
 ·refine no_implicit_lambda% (G2 (h:=?_));refine (?_:A2 _) _ _;refine fun ρ1 H1 zz=>I5 zz fun z0 h1 h2 h3=>?_;subst z0;exact Ss.nil<|Ss.ret<|EvE.loc C h2 ⟨rfl,rfl⟩
theorem Eo {w v:Int} (h:num w = num v):w = v:=by
 have dig:∀ m k:Nat,(Nat.toDigits 10 m).map Char.toNat = (Nat.toDigits 10 k).map Char.toNat→m = k:=fun m k e=>by
  have:=congrArg PySem.NumText.digitsVal e
  rwa [KIN.val_back,KIN.val_back] at this
 have hd:∀ m k:Nat,(Nat.toDigits 10 m).map Char.toNat ≠ 45 :: (Nat.toDigits 10 k).map Char.toNat:=fun m k e=>by
  have:=Lx m 45 (by refine rwb e ?_;exact .head _);lia
 have h1:(num w).cps.toList = (num v).cps.toList:=by exact rwb h rfl
 rcases Qg w with ⟨m,rfl⟩ | ⟨m,rfl⟩ <;> rcases Qg v with ⟨k,rfl⟩ | ⟨k,rfl⟩
 ·simp only [W8,W8] at h1;exact rwb (dig _ _ h1) rfl
 ·simp only [W8,W7] at h1;exact absurd h1 (hd _ _)
 ·simp only [W8,W7] at h1;exact absurd h1.symm (hd _ _)
 ·simp only [W7,W7] at h1;simp only [List.cons.injEq,true_and] at h1;exact rwb (dig _ _ h1) rfl
noncomputable def Mw (j:Nat) (t:Tie):List (Nat × Int):=((Uz t).filter fun q=>q.1 == j).map fun q=>(q.2,t.2.2)
noncomputable def Jz (T:List Tie) (j:Nat):List (Nat × Int):=T.flatMap (Mw j)
noncomputable def Vm (a:Nat × Int):Str:=L a.1 ++ num a.2
noncomputable def Bt (a:Nat × Int):D:=.str (Vm a)
theorem Kd (i:Nat) (x:Str):(L i ++ x).cps.toList = (97 + i) :: x.cps.toList:=by rw [app_list];rfl
theorem Py:∀ a b:Nat × Int,Bt a = Bt b→a = b:=fun ⟨i,x⟩ ⟨j,y⟩ h=>by
 unfold Bt Vm at h;injection h with h
 have h1:(L i ++ num x).cps.toList = (L j ++ num y).cps.toList:=by simp only [h]
 simp only [Kd,Kd,List.cons.injEq] at h1;exact Prod.ext (by show i = j;lia) (Eo (Str.ext' h1.2))
theorem Lh {i:Nat} {w m:Int} (h:i < 5):Wq (Xz i w m) = L i:=by
 unfold Xz;split
 ·exact Z1 (w:=[i]) (by simpa using h)
 ·exact Ut (w:=[i]) (by simpa using h)
theorem Og {i j:Nat} {w m:Int} (h:i < 5) (hj:j < 5):Yi (Xz i w m) (upS (L j)) = (i == j):=by
 unfold Yi;simp only [Lh h,show Wq (upS (L j)) = L j from Z1 (w:=[j]) (by simpa using hj),Rl]
theorem L3 {T:List Tie} (hT:∀ t ∈ T,Yj t) {j:Nat} (hj:j < 5):A0 (Vc T) (upS (L j)) = (Jz T j).map Vm:=by
 unfold A0 Vc Jz
 induction T with
 | nil=>rfl
 | cons t T ih=>
  have ih:=ih fun t ht=>hT t (.tail _ ht);have hin:=hT t (.head _);simp only [flatMap_cons,filter_append,map_append,ih,flatMap_cons,map_append]
  congr 1
  unfold Aq Mw Uz;simp only [filter_cons,filter_cons,filter_nil,filter_cons,filter_cons,filter_nil,Og hin.1 hj,Og hin.2.1 hj];cases t.1 == j <;> cases t.2.1 == j <;> rfl
theorem Mv (T:List Tie) (w:List Nat):(((Jz T (Jb w)).filter fun a=>!w.contains a.1).map fun a=>(w ++ [a.1],a.2)) = T.flatMap (stepT w):=by
 unfold Jz
 induction T with
 | nil=>rfl
 | cons t T ih=>
  simp only [flatMap_cons,filter_append,map_append,ih,flatMap_cons]
  congr 1
  unfold Mw stepT;simp only [filter_map,map_map,filter_filter]
  congr 1
  exact filter_congr fun q Z=>Bool.and_comm _ _
noncomputable def I1 (p:Way):D:=.tup [.str (Jf p.1),.str (num p.2)]
theorem Tw:∀ a b:Way,I1 a = I1 b→a = b:=fun ⟨w,x⟩ ⟨v,y⟩ h=>by
 unfold I1 at h;injection h with h
 injection h with h1 h2
 injection h2 with h2 _
 injection h1 with h1
 injection h2 with h2
 exact Prod.ext (Y6 h1) (Eo h2)
noncomputable def Zz (p:Way):Str × Str:=(Jf p.1,num p.2)
theorem Cz.pr {p:Way} {k:Nat} (h:Cz p k):Pr (Zz p).1 ∧ Pr (Zz p).2:=by
 have:=h.le;exact ⟨Yt h.lt (by rw [h.len];lia),(W6 (by have:=h.wt;lia) (by have:=h.wt;lia)).1⟩
theorem Ul {T:List Tie} {r k:Nat} {p:Way}:p ∈ Qx T r k ↔ ∃ j,j ≤ k ∧ p ∈ Jy T r j:=by
 unfold Qx;rw [List.mem_flatMap]
 constructor
 ·refine fun zz=>el12 zz fun j hj hp=>?_;exact ⟨j,by have:=List.mem_range.mp hj;lia,hp⟩
 ·refine fun zz=>el12 zz fun j hj hp=>?_;exact ⟨j,List.mem_range.mpr (by lia),hp⟩
theorem Ja3 {T:List Tie} {r:Nat} (hT:∀ t ∈ T,Yj t) (hr:r < 5) (k:Nat):PrV ((Qx T r k).map Zz):=fun p hp=>by
 obtain ⟨q,hq,rfl⟩:=lM hp;obtain ⟨j,_,hj⟩:=Ul.mp hq;exact (J6 hT hr j q hj).pr
theorem V7 {w:List Nat} (h:w ≠ []):Jb w ∈ w:=by
 unfold Jb;rw [List.getLastD_eq_getLast?,List.getLast?_eq_some_getLast h];exact List.getLast_mem h
theorem Kn (a:Nat × Int):(Vm a).cps[0]? = some (97 + a.1):=by
 rw [← Array.getElem?_toList];unfold Vm;rw [Kd];rfl
theorem Vq (a:Nat × Int):((seqIndex? 0 (Vm a).length).bind fun j=>(Vm a).cps[j]?) = some (97 + a.1):=by
 have h:(Vm a).length = (num a.2).length + 1:=by unfold Vm;rw [Tg];show 1 + _ = _;lia
 have e:seqIndex? 0 (Vm a).length = some 0:=by refine rwb h ?_;unfold seqIndex?;simp;try lia
 refine rwb e ?_;exact Kn a
theorem Km (a:Nat × Int):Xy (Vm a) (some 1) none = num a.2:=by
 rw [Lb];have e:pick (Vm a).cps.toList (some (1:Int)) none none = (Vm a).cps.toList.drop 1:=pick_from _ 1;refine rwb e ?_;refine Str.ext' ?_;unfold Vm;simp only [Kd,drop_one,tail_cons]
theorem Vv (w:List Nat):Xy (Jf w) none (some (-1)) = Jf w.dropLast:=by
 rw [Lb,R6];refine Str.ext' ?_;rw [J8,J8,length_map,← map_take,← List.dropLast_eq_take]
theorem Tv (w:List Nat) (k:Nat):Xy (Jf w) none (some (k:Int)) = Jf (w.take k):=by
 rw [Lb,M5];refine Str.ext' ?_;rw [J8,J8,← map_take]
theorem Xa (X:XB B) {l:Addr}:Ji B H (.hdr l) "get_all" (.ref 219):=Ji.hdr X.k (by rfl) (by rfl) (by rfl) (by decide)
theorem Dm (X:XB B):Jm B 320 (bodyOf 31) (Jh 31) ["net", "root"] []:=Jm.of X (by rfl) rfl rfl rfl rfl rfl (by rfl) (all2 fun a b=>rfl)
theorem Jbm (X:XB B) {T:List Tie} (hT:∀ t ∈ T,Yj t) (hz:T.length ≤ 6) {r:Nat} (hr:r < 5) {l:Addr} (hl:(l,tab (Vc T)) ∈ H):Fn0 B (n + 5) (.ref 320) [.hdr l,.str (L r)] H (fun d H'=>∃ lt,d = .hdr lt ∧ H' = (lt,tab ((Ja T r).map Zz)) :: H):=by
 revert X hT hz hr hl;revert B H n T r l;refine no_implicit_lambda% (G6 (h:=?_));refine (?_:A6 _) _ _ _ _ _ _;intro B H n T r l X hT hz hr hl;refine (Dm X).Pm (by rfl) (by rfl) (by rfl) rfl (no_implicit_lambda% (G2 (h:=?_)));refine (?_:A2 _) _ _;intro A' fm hh C;have hra:B.mg "range" = none:=mgN X (by rfl);refine Ss.cons<|S1.iy C ?_;refine EvE.call<|EvE.tq C (mgX X (by rfl)) ⟨_,Gm X,?_⟩;refine EvL.cons<|EvE.lst<|EvL.cons<|EvE.tup<|EvL.loc C (by rfl)<|EvL.lf Lf.str<|EvL.nil<|OpN.tuple<|EvL.nil<|OpN.jar (no_implicit_lambda% (G1 (h:=?_)));refine (?_:A1 _) _;intro lt;refine EvL.nil<|Fn.is C (Wa (n:=n) X (hs:=[Zz ([r],1)]) (.head _) (fun p hp=>by refine rwb (lS hp) ?_;exact (Ja3 hT hr 0 _ (.head _)))) (by lia) ?_;refine EvE.lst<|EvL.cons<|EvE.tup<|EvL.loc C (by rfl)<|EvL.lf Lf.str<|EvL.nil<|OpN.tuple<|EvL.nil<|OpN.list ?_;refine Ss.cons<|S1.for (fun ds i ρ1 H1=>H1 = (lt,tab ((Qx T r i).map Zz)) :: H ∧ Has ρ1 "net" (.hdr l) ∧ Has ρ1 "tree" (.hdr lt) ∧ Has ρ1 "level" (.lst ((Jy T r i).map I1))) C ?_;refine EvE.call<|EvE.gu C (by rfl) hra PyProof.Rows.Boot.«range» (by decide) ⟨_,Kp.type,EvL.int<|EvL.nil<|Cl.ma fun ra ta ua va=>⟨_,_,Jn.jdi (k:=4) hh (by rfl) (by rfl),⟨rfl,by rfl,by rfl,by rfl⟩,?_,?_⟩⟩
 ·refine no_implicit_lambda% (G5 (h:=?_));refine (?_:A5 _) _ _ _ _ _;refine fun fm' i d' ρ1 H1 C' hd' zz=>I5 zz fun z0 h1 h2 h3=>?_;subst z0;have hi:i < 4:=by
   have:=(lG hd').1;(rewrite [length_map] at this;replace this:=length_range ▸ this);exact this
  refine Asg.name C' ?_;have hlev:(Jy T r i).flatMap (fun p=>(T.flatMap (stepT p.1)).map I1) = (Jy T r (i + 1)).map I1:=List.map_flatMap.symm;have hl12:=Gl (T:=T) (r:=r) hz (i + 1);have h12:12 ^ (i + 1) ≤ 12 ^ 4:=pow_le_pow_right (by decide) (by lia);have h124:(12:Nat) ^ 4 = 20736:=by decide
  refine Ss.cons<|S1.Om C' (by rfl) (by rfl) (by decide) (by decide) (by rfl) ?_;refine EvE.loc C' h3.ne ⟨_,_,[],_,Jn.lst,R9 Tw (g:=fun p=>(T.flatMap (stepT p.1)).map I1) (List.Perm.refl _) ?_ ?_,?_⟩
  ·(refine rwb hlev ?_;rw [length_map]);lia
  ·refine no_implicit_lambda% (G2 (h:=?_));refine (?_:A2 _) _ _;intro D' p hp fm2 out C2;have hw:=J6 hT hr i p hp;have hw5:=hw.le;have hne:p.1 ≠ []:=by intro e;have:=hw.len;replace this:=e ▸ this;contradiction
   have hlast:=hw.lt _ (V7 hne);refine Asg.tup C2 rfl<|Jg.cons<|Asg.name C2<|Jg.cons<|Asg.name C2<|Jg.nil ⟨rfl,kpp (kpp kp0),fun env=>?_⟩;rewrite [← Mv];refine rwb map_map ?_;refine Y5.jas Py (by rfl) (by rfl) (by decide) ?_ ?_
   ·refine no_implicit_lambda% (G2 (h:=?_));refine (?_:A2 _) _ _;intro fm3 out3 C3;refine EvE.J4 (Lf.Vl C3 (Has.ne (Has.ne (J2 h1.ne (by rfl))))) ⟨_,Xa X,Kp.xl (Gy X),EvL.cons<|EvE.ij<|EvE.l9 (Lf.loc C3 Has.self.ne)<|EvE.un<|EvE.int<|Op1.neg<|Op2.Pl (by rfl) hne (by refine rwb hw.len ?_;lia) ⟨_,Y4,Kp.builtin,EvL.nil<|Cl.xg (Wt hlast)<|EvL.nil<|Fn.is C3 (Ud (n:=n) X (.tail _ (.tail _ hl)) (Wt hlast).up (fun q hq=>(Uy hT q hq).1) (by rw [Wr];lia)) (by lia) ⟨rfl,?_⟩⟩⟩;(refine rwb (L3 hT hlast) (rwb map_map ?_));rfl
   ·intro a ha fm3 out3 C3;refine el12 (List.mem_flatMap.mp ha) fun ta hta ht2=>?_;refine el12 (lM ht2) fun qa hqa z2=>?_;subst z2;have hin:=hT ta hta;refine Asg.name C3 ⟨rfl,kpn (NoH.ne (NoH.ne NoH.capt)) kpi,?_,?_⟩
    ·intro fm5 out5 C5;refine EvB.plain<|EvE.jq C5 X (M3 X)<|EvL.loc C5 Has.self.ne.ne<|EvL.cons<|EvE.J7 (Lf.loc C5 Has.self) Lf.int<|Op2.X7 (c:=97 + qa.2) (by rfl) (by decide) (by decide) (Vq (qa.2,ta.2.2))<|EvL.nil<|Fn0.is C5 hh (Hi (n:=n) (k:=qa.2) X hw.lt) (by lia) ⟨_,Tru.bool,rfl,rfl⟩
    ·intro Z fm5 out5 C5;refine EvE.tup<|EvL.cons<|EvE.Wf (Lf.loc C5 Has.self.ne.ne)<|EvE.J7 (Lf.loc C5 Has.self) Lf.int<|Op2.X7 (c:=97 + qa.2) (by rfl) (by decide) (by decide) (Vq (qa.2,ta.2.2))<|Op2.Ob (by (rewrite [Zu];refine rwb hw.len (rwb sizeLine_eq ?_));show _ + 1 ≤ _;lia) ?_;have hv:=(W6 (w:=ta.2.2) (by have:=hin.2.2;lia) (by have:=hin.2.2;lia)).2.1;have ht:=Km (qa.2,ta.2.2);refine EvL.cons<|EvE.bg<|EvE.loc C5 Has.self<|EvP.some<|EvE.int ⟨1,rfl,EvP.none<|EvP.none<|Zx.str (by (refine rwb ht (rwb sizeLine_eq ?_));show (num ta.2.2).length ≤ _;lia)<|EvL.nil<|OpN.tuple ⟨?_,rfl⟩⟩;(refine rwb ht (rwb (show (⟨#[97 + qa.2]⟩:Str) = Jf [qa.2] from rfl) ?_);rw [Uj]);rfl
  ·refine rwb (Xo Tw) (rwb hlev ?_);have hu:=T2 (T:=T) (r:=r) hz i (by lia);refine Ss.cons<|S1.for (fun ds j ρ1 H1=>H1 = (lt,tab ((Qx T r i ++ (Jy T r (i + 1)).take j).map Zz)) :: H ∧ Has ρ1 "net" (.hdr l) ∧ Has ρ1 "tree" (.hdr lt) ∧ Has ρ1 "level" (.lst ((Jy T r (i + 1)).map I1))) C' ?_;refine EvE.loc C' Has.self ⟨_,_,Jn.lst,⟨by (refine rwb take_zero ?_;rw [append_nil]),h1.ne.ne,h2.ne.ne,Has.self⟩,?_,?_⟩
   ·refine no_implicit_lambda% (G5 (h:=?_));refine (?_:A5 _) _ _ _ _ _;refine fun fm2 j d2 ρ2 H2 C2 hd2 zz=>I5 zz fun z0 g1 g2 g3=>?_;subst z0;replace hd2:=ts (List.getElem?_map) hd2;refine el12 (map_eq_some_iff.mp hd2) fun q hq z2=>?_;subst z2;have hqw:=(J6 hT hr (i + 1) q (List.mem_of_getElem? hq)).pr;refine Asg.tup C2 rfl<|Jg.cons<|Asg.name C2<|Jg.cons<|Asg.name C2<|Jg.nil ?_;refine Ss.cons<|S1.expr<|EvE.J4 (Lf.loc C2 g2.ne.ne) ⟨_,V0 X,Kp.jc8 (Yv X),EvL.loc C2 Has.self.ne<|EvL.loc C2 Has.self<|EvL.nil<|Fn0.op C2 hh ((Qr (n:=n) X .head hqw.1 hqw.2 (by (rewrite [length_map];refine rwb length_append (rwb length_take ?_));lia)).mono ?_) (by lia)⟩;rintro d H1 ⟨rfl,rfl⟩;refine Ss.nil ⟨?_,g1.ne.ne,g2.ne.ne,g3.ne.ne⟩;have:(Jy T r (i + 1)).take (j + 1) = (Jy T r (i + 1)).take j ++ [q]:=by (refine rwb take_add_one (rwb hq ?_));rfl
    refine rwb this ?_;rewrite [← append_assoc];refine rwb map_append (rwb map_append (rwb map_append ?_));rfl
   ·refine fun ρ2 H2 zz=>I5 zz fun z0 g1 g2 g3=>?_;subst z0;refine Ss.nil<|Ss.nil ⟨?_,g1,g2,g3⟩;rewrite [length_map];refine rwb take_length ?_;rw [← Yu]
 ·refine fun ρ1 H1 zz=>I5 zz fun z0 h1 h2 h3=>?_;subst z0;exact Ss.nil<|Ss.ret<|EvE.loc C h2 ⟨lt,rfl,rfl⟩
noncomputable def Yz (T:List Tie):Nat→List Nat→List (List Nat)→List (List Nat)
 | 0,_,S=>S
 | f + 1,w,S=>(Jz T (Jb w)).foldl (fun S a=>if S.any (fun v=>Jb v == a.1) then S else Yz T f (w ++ [a.1]) (S ++ [w ++ [a.1]])) S
noncomputable def nameOf (v:List Nat):Str:=if v.length = 1 then L (Jb v) else upS (L (Jb v))
noncomputable def Gg (v:List Nat):Str × Str:=(nameOf v,Jf v)
structure Ys (S:List (List Nat)):Prop where
 ne:∀ v ∈ S,v ≠ [] ∧ (∀ i ∈ v,i < 5) ∧ v.length ≤ S.length
 nd:(S.map Jb).Nodup
theorem Ys.len {S:List (List Nat)} (h:Ys S):S.length ≤ 5:=by
 have:=Nx 5 (S.map Jb) h.nd fun i hi=>by
  obtain ⟨v,hv,rfl⟩:=lM hi;have:=h.ne v hv;exact this.2.1 _ (V7 this.1)
 rwa [length_map] at this
theorem Ys.full {S:List (List Nat)} (h:Ys S) (h5:5 ≤ S.length) {k:Nat} (hk:k < 5):S.any (fun v=>Jb v == k) = true:=by
 by_cases hm:k ∈ S.map Jb
 ·refine el12 (lM hm) fun v hv e=>?_;exact List.any_eq_true.mpr ⟨v,hv,by simpa using e⟩
 ·exfalso
  have:=Nx 5 (k :: S.map Jb) (List.nodup_cons.mpr ⟨hm,h.nd⟩) fun i hi=>by
   rcases lC hi with rfl | hi
   ·exact hk
   ·refine el12 (lM hi) fun v hv z2=>?_;subst z2;have:=h.ne v hv;exact this.2.1 _ (V7 this.1)
  simp only [length_cons,length_map] at this;lia
theorem Yr (w:List Nat) (k:Nat):Jb (w ++ [k]) = k:=by unfold Jb;simp
theorem Ys.snoc {S:List (List Nat)} (h:Ys S) {w:List Nat} {k:Nat} (hw:w ∈ S) (hk:k < 5) (hn:S.any (fun v=>Jb v == k) = false):Ys (S ++ [w ++ [k]]) where
 ne:=fun v hv=>by
  refine rwb length_append ?_
  rcases lA hv with hv | hv
  ·have:=h.ne v hv;exact ⟨this.1,this.2.1,by lia⟩
  ·refine rwb (lS hv) ?_;have:=h.ne w hw;refine ⟨by simp,fun i hi=>?_,by simp only [length_append];simp;exact this.2.2⟩
   rcases lA hi with hi | hi
   ·exact this.2.1 i hi
   ·refine rwb (lS hi) ?_;exact hk
 nd:=by
  refine rwb map_append ?_;rw [nodup_append];refine ⟨h.nd,by simp,fun a ha b hb e=>?_⟩;(replace hb:=map_cons ▸ hb;replace hb:=map_nil ▸ hb;rw [mem_singleton,Yr] at hb);refine el12 (lM ha) fun v hv e2=>?_;have q:S.any (fun v=>Jb v == k) = true:=List.any_eq_true.mpr ⟨v,hv,by simp only [beq_iff_eq,e2,e,hb]⟩;replace q:=ts hn q;contradiction
noncomputable def Ext (w y:List Nat):Prop:=∃ x,x ≠ [] ∧ y = w ++ x
theorem Cq {T:List Tie} (hT:∀ t ∈ T,Yj t):∀ f w S,Ys S→w ∈ S→Ys (Yz T f w S) ∧ ∃ Y,Yz T f w S = S ++ Y ∧ ∀ y ∈ Y,Ext w y:=by
 intro zs
 induction zs with
 | zero=>
  intro w S h hw;exact ⟨h,[],(append_nil _).symm,by simp⟩
 | succ f IH=>
  intro w S h hw;have loop:∀ (l:List (Nat × Int)) (S':List (List Nat)),(∀ a ∈ l,a.1 < 5)→Ys S'→(∃ Y,S' = S ++ Y ∧ ∀ y ∈ Y,Ext w y) →
    Ys (l.foldl (fun S a=>if S.any (fun v=>Jb v == a.1) then S else Yz T f (w ++ [a.1]) (S ++ [w ++ [a.1]])) S') ∧ ∃ Y,l.foldl (fun S a=>if S.any (fun v=>Jb v == a.1) then S else Yz T f (w ++ [a.1]) (S ++ [w ++ [a.1]])) S' = S ++ Y ∧ ∀ y ∈ Y,Ext w y:=by
   intro l
   induction l with
   | nil=>intro S' Z h1 h2;exact ⟨h1,h2⟩
   | cons a l ih=>
    intro S' hl h1 h2;simp only [foldl_cons];have hl':∀ b ∈ l,b.1 < 5:=fun b hb=>hl b (.tail _ hb);cases hc:S'.any (fun v=>Jb v == a.1)
    ·refine rwb (if_neg (by decide)) ?_;refine el12 h2 fun Y e hY=>?_;have hwS:w ∈ S':=by refine rwb e ?_;exact mem_append_left _ hw
     obtain ⟨q1,Y2,e2,hY2⟩:=IH (w ++ [a.1]) (S' ++ [w ++ [a.1]]) (h1.snoc hwS (hl a (.head _)) hc) (mem_append_right _ (.head _));refine ih _ hl' q1 ⟨Y ++ [w ++ [a.1]] ++ Y2,by (refine rwb e2 (rwb e ?_));simp,fun y hy=>?_⟩
     rcases lA hy with hy | hy
     ·rcases lA hy with hy | hy
      ·exact hY y hy
      ·simp only [lS hy];exact ⟨[a.1],by simp,rfl⟩
     ·refine el12 (hY2 y hy) fun x hx z2=>?_;subst z2;exact ⟨a.1 :: x,by simp,by simp⟩
    ·refine rwb (if_pos rfl) ?_;exact ih S' hl' h1 h2
  refine loop _ S (fun a ha=>?_) h ⟨[],by simp,by simp⟩;refine el12 (List.mem_flatMap.mp ha) fun t ht ha=>?_;refine el12 (lM ha) fun q hq z2=>?_;subst z2;have:=hT t ht
  rcases Wo.mp (lF hq).1 with rfl | rfl
  ·exact this.2.1
  ·exact this.1
theorem Eg {T:List Tie} (hT:∀ t ∈ T,Yj t) {j:Nat}:∀ a ∈ Jz T j,a.1 < 5 ∧ -1000 ≤ a.2 ∧ a.2 ≤ 999:=fun a ha=>by
 refine el12 (List.mem_flatMap.mp ha) fun t ht ha=>?_;refine el12 (lM ha) fun q hq z2=>?_;subst z2;have:=hT t ht
 rcases Wo.mp (lF hq).1 with rfl | rfl
 ·exact ⟨this.2.1,this.2.2⟩
 ·exact ⟨this.1,this.2.2⟩
theorem Qy {T:List Tie} {m:Nat} (h:Yf T m) (j:Nat):((Jz T j).map (·.1)).Nodup:=by
 revert h;revert T m j;refine no_implicit_lambda% (G3 (h:=?_));refine (?_:A3 _) _ _ _;intro T m j h;have hlt:=h.lt;have hnd:=h.nd;clear h;unfold Jz
 induction T with
 | nil=>simp
 | cons t T ih=>
  (replace hnd:=map_cons ▸ hnd;rw [nodup_cons] at hnd);have ih:=ih (fun t ht=>hlt t (.tail _ ht)) hnd.2;refine rwb flatMap_cons (rwb map_append ?_);rw [nodup_append];have h1:=hlt t (.head _);refine ⟨?_,ih,fun a ha b hb e=>?_⟩
  ·unfold Mw Uz;simp only [filter_cons,filter_cons,filter_nil]
   by_cases e1:t.1 = j <;> by_cases e2:t.2.1 = j <;> simp [e1,e2]
   lia
  ·subst e;refine el12 (lM ha) fun x hx z2=>?_;subst z2;refine el12 (lM hx) fun q hq z2=>?_;subst z2;refine el12 (lM hb) fun y hy e=>?_;refine el12 (List.mem_flatMap.mp hy) fun t2 ht2 hy=>?_;refine el12 (lM hy) fun q2 hq2 z2=>?_;subst z2;have h2:=hlt t2 (.tail _ ht2);refine Yd (lF hq) fun hq hqj=>?_;refine Yd (lF hq2) fun hq2 hq2j=>?_;have e:q2.2 = q.2:=e;simp only [beq_iff_eq] at hqj hq2j;apply hnd.1;refine List.mem_map.mpr ⟨t2,ht2,?_⟩
   rcases Wo.mp hq with rfl | rfl <;> rcases Wo.mp hq2 with rfl | rfl <;> simp only at hqj hq2j e <;> first | (exfalso;lia) | (exact Prod.ext (by simp only;lia) (by simp only;lia))
theorem B0 {S:List (List Nat)} (h:Ys S) {k:Nat} (hk:k < 5):Ta (S.map Gg) (upS (L k)) = (S.find? fun v=>Jb v == k).map Jf:=by
 revert h hk;revert S k;refine no_implicit_lambda% (G2 (h:=?_));refine (?_:A2 _) _ _;intro S k h hk;unfold Ta;refine rwb (List.find?_map) ?_;rw [Option.map_map];have e:S.find? ((fun p:Str × Str=>Yi p.1 (upS (L k))) ∘ Gg) = S.find? fun v=>Jb v == k:=by
  have:∀ l:List (List Nat),(∀ v ∈ l,v ∈ S)→l.find? ((fun p:Str × Str=>Yi p.1 (upS (L k))) ∘ Gg) = l.find? fun v=>Jb v == k:=by
   intro l
   induction l with
   | nil=>intro Z;rfl
   | cons v l ih=>
    intro hl;refine rwb (List.find?_cons) (rwb (List.find?_cons) (rwb (ih fun x hx=>hl x (.tail _ hx)) ?_));have hv:=h.ne v (hl v (.head _));have hlt:=hv.2.1 _ (V7 hv.1);have:((fun p:Str × Str=>Yi p.1 (upS (L k))) ∘ Gg) v = (Jb v == k):=by
     show Yi (nameOf v) (upS (L k)) = _;unfold Yi nameOf;refine rwb (show Wq (upS (L k)) = L k from Z1 (w:=[k]) (by simpa using hk)) ?_;split
     ·refine rwb (show Wq (L (Jb v)) = L (Jb v) from Ut (w:=[Jb v]) (by simpa using hlt)) ?_;rw [Rl]
     ·refine rwb (show Wq (upS (L (Jb v))) = L (Jb v) from Z1 (w:=[Jb v]) (by simpa using hlt)) ?_;rw [Rl]
    exact rwb this rfl
  exact this S fun v hv=>hv
 refine rwb e ?_;rfl
theorem Ys.pr {S:List (List Nat)} (h:Ys S):PrV (S.map Gg):=fun p hp=>by
 refine el12 (lM hp) fun v hv z2=>?_;subst z2;have hv:=h.ne v hv;have hlt:=hv.2.1 _ (V7 hv.1);have:=h.len;refine ⟨?_,Yt hv.2.1 (by lia)⟩;show Pr (nameOf v);unfold nameOf;split
 ·exact Wt hlt
 ·exact (Wt hlt).up
theorem I3 (X:XB B) {l:Addr}:Ji B H (.hdr l) "setdefault" (.ref 270):=Ji.hdr X.k (by rfl) (by rfl) (by rfl) (by decide)
theorem D7 (X:XB B) {l:Addr}:Ji B H (.hdr l) "values" (.ref 237):=Ji.hdr X.k (by rfl) (by rfl) (by rfl) (by decide)
theorem O1 (X:XB B):Jm B 332 (bodyOf 33) (Jh 33) ["net", "seen", "way"] []:=Jm.of X (by rfl) rfl rfl rfl rfl rfl (by rfl) (Sr fun a b c=>rfl)
noncomputable def M0 (T:List Tie) (f:Nat) (w:List Nat) (S:List (List Nat)) (a:Nat × Int):List (List Nat):=if S.any (fun v=>Jb v == a.1) then S else Yz T f (w ++ [a.1]) (S ++ [w ++ [a.1]])
theorem Sm (T:List Tie) (f:Nat) (w:List Nat) (S:List (List Nat)):Yz T (f + 1) w S = (Jz T (Jb w)).foldl (M0 T f w) S:=rfl
theorem Ln {α β:Type} (g:β→α→β) (b:β) {l:List α} {i:Nat} {a:α} (h:l[i]? = some a):(l.take (i + 1)).foldl g b = g ((l.take i).foldl g b) a:=by
 (refine rwb take_add_one (rwb h (rwb foldl_append ?_)));rfl
noncomputable def Sv (B:Base) (T:List Tie) (l ls:Addr) (H0:Led) (n f:Nat):Prop:=∀ (w:List Nat) (S:List (List Nat)),Ys S→w ∈ S→(∀ v ∈ S,¬ Ext w v)→5 ≤ S.length + f →
  Fn B (n + f + 5) (.ref 332) [.hdr l,.hdr ls,.str (Jf w)] ((ls,tab (S.map Gg)) :: H0) (Is (.lst ((Yz T (f + 1) w S).map fun v=>.str (Jf v))) ((ls,tab ((Yz T (f + 1) w S).map Gg)) :: H0))
theorem Rc (X:XB B) {T:List Tie} {m:Nat} (hk:Yf T m) (hz:T.length ≤ 6) {l ls:Addr} {H0:Led} (hl:(l,tab (Vc T)) ∈ H0) {f:Nat} (rec:∀ f',f = f' + 1→Sv B T l ls H0 n f'):Sv B T l ls H0 n f:=by
 revert X hk hz hl rec;revert B n T m l ls H0 f;refine no_implicit_lambda% (G8 (h:=?_));refine (?_:A8 _) _ _ _ _ _ _ _ _;intro B n T m l ls H0 f X hk hz hl rec;have hT:=hk.in
 refine no_implicit_lambda% (G2 (h:=?_));refine (?_:A2 _) _ _;intro w S hS hw hno hf;have hw':=hS.ne w hw;have hS5:=hS.len;have hlast:=hw'.2.1 _ (V7 hw'.1);have hnd:=Qy hk (Jb w);have hlt:=Eg hT (j:=Jb w);refine (O1 X).fn (n:=n + f + 4) (by rfl) (by rfl) (by rfl) rfl (no_implicit_lambda% (G2 (h:=?_)));refine (?_:A2 _) _ _;intro A' fm C
 refine Ss.cons<|S1.for (fun ds i ρ1 H1=>∃ S',S' = ((Jz T (Jb w)).take i).foldl (M0 T f w) S ∧ Ys S' ∧ w ∈ S' ∧ S.length ≤ S'.length ∧ (∀ v ∈ S',Ext w v→∃ a ∈ (Jz T (Jb w)).take i,∃ x,v = w ++ a.1 :: x) ∧
  H1 = (ls,tab (S'.map Gg)) :: H0 ∧ Has ρ1 "net" (.hdr l) ∧ Has ρ1 "seen" (.hdr ls) ∧ Has ρ1 "way" (.str (Jf w))) C ?_
 refine EvE.J4 (Lf.loc C (by rfl)) ⟨_,Xa X,Kp.xl (Gy X),EvL.cons<|EvE.ij<|EvE.l9 (Lf.loc C (by rfl))<|EvE.un<|EvE.int<|Op1.neg<|Op2.Pl (by rfl) hw'.1 (by lia) ⟨_,Y4,Kp.builtin,EvL.nil<|Cl.xg (Wt hlast)<|EvL.nil<|Fn.is C (Ud (n:=n + f) X (.tail _ hl) (Wt hlast).up (fun q hq=>(Uy hT q hq).1) (by rw [Wr];lia)) (by lia) ⟨_,_,Jn.lst,⟨S,by rfl,hS,hw,le_refl _,fun v hv e=>absurd e (hno v hv),rfl,by rfl,by rfl,by rfl⟩,?_,?_⟩⟩⟩
 ·refine no_implicit_lambda% (G5 (h:=?_));refine (?_:A5 _) _ _ _ _ _;rintro fm' i d' ρ1 H1 C' hd' ⟨S',eS,hS',hwS,hle,hex,rfl,h1,h2,h3⟩;rw [L3 hT hlast,map_map,List.getElem?_map] at hd';obtain ⟨a,ha,rfl⟩:=map_eq_some_iff.mp hd';have ham:=List.mem_of_getElem? ha;have hak:=hlt a ham;have hS5':=hS'.len;have hold:∀ b ∈ (Jz T (Jb w)).take i,b.1 ≠ a.1:=fun b hb e=>by
   obtain ⟨j,hj⟩:=List.getElem?_of_mem hb;have hji:j < i:=by
    have:=(lG hj).1;rw [length_take] at this;lia
   rw [List.getElem?_take_of_lt hji] at hj;have g1:((Jz T (Jb w)).map (·.1))[j]? = some b.1:=by rw [List.getElem?_map,hj];rfl
   have g2:((Jz T (Jb w)).map (·.1))[i]? = some a.1:=by rw [List.getElem?_map,ha];rfl
   rw [e] at g1;obtain ⟨r1,r2⟩:=lG g1;obtain ⟨r3,r4⟩:=lG g2;exact List.pairwise_iff_getElem.mp hnd j i r1 r3 hji (r2.trans r4.symm)
  have hpk:(L a.1).length = 1:=rfl;refine Asg.name C' ?_;have hlw:(Jf w).length + (L a.1).length ≤ sizeLine:=by rw [Zu,sizeLine_eq];lia
  have hcat:Jf w ++ (⟨#[97 + a.1]⟩:Str) = Jf (w ++ [a.1]):=by rw [show (⟨#[97 + a.1]⟩:Str) = Jf [a.1] from rfl,Uj]
  have hpr:Pr (Jf (w ++ [a.1])):=Yt (fun i hi=>by
   rcases lA hi with hi | hi
   ·exact hw'.2.1 i hi
   ·rw [lS hi];exact hak.1) (by rw [length_append];simp;lia)
  refine Ss.xh<|EvB.cmp<|EvE.J4 (Lf.loc C' h2.ne) ⟨_,I3 X,Kp.xl (Xu X),EvL.cons<|EvE.ij<|EvE.J7 (Lf.loc C' Has.self) Lf.int<|Op2.X7 (c:=97 + a.1) (by rfl) (by decide) (by decide) (Vq a) ⟨_,Y4,Kp.builtin,EvL.nil<|Cl.xg (Wt hak.1)<|EvL.cons<|EvE.Wf (Lf.loc C' h3.ne)<|EvE.J7 (Lf.loc C' Has.self) Lf.int<|Op2.X7 (c:=97 + a.1) (by rfl) (by decide) (by decide) (Vq a)<|Op2.Ob hlw ?_⟩⟩;rw [hcat];have hstep:((Jz T (Jb w)).take (i + 1)).foldl (M0 T f w) S = M0 T f w S' a:=by rw [Ln _ _ ha,← eS]
  refine EvL.nil<|Fn.op C' ((Mn (n:=n + f) X (hs:=S'.map Gg) (H1:=(ls,tab (S'.map Gg ++ [(upS (L a.1),Jf (w ++ [a.1]))])) :: H0) .head (Wt hak.1).up hpr (fun p hp=>(hS'.pr p hp).1) (by rw [length_map];lia)).mono ?_) (by lia);intro d H' hd;rw [B0 hS' hak.1] at hd;refine EvE.Wf (Lf.loc C' h3.ne)<|EvE.J7 (Lf.loc C' Has.self) Lf.int<|Op2.X7 (c:=97 + a.1) (by rfl) (by decide) (by decide) (Vq a)<|Op2.Ob hlw ?_;rw [hcat];cases hf2:S'.find? (fun v=>Jb v == a.1) with
  | some v=>
   rw [hf2] at hd;obtain ⟨rfl,rfl⟩:=hd;have hv:=List.mem_of_find?_eq_some hf2;have hvl:=List.find?_some hf2;have hany:S'.any (fun v=>Jb v == a.1) = true:=List.any_eq_true.mpr ⟨v,hv,hvl⟩;refine Op2.jay ⟨_,rfl,?_⟩;have hne:(Jf v == Jf (w ++ [a.1])) = false:=by
    rw [beq_eq_false_iff_ne];intro e;have e:=Y6 e;obtain ⟨b,hb,x,e2⟩:=hex v hv ⟨[a.1],by simp,e⟩;rw [e] at e2;have:=append_cancel_left e2;injection this with e3 _
    exact hold b hb e3.symm
   rw [hne,if_neg (by decide)];refine Ss.nil<|Ss.nil ⟨S',?_,hS',hwS,hle,fun v hv e=>?_,rfl,h1.ne,h2.ne,h3.ne⟩
   ·rw [hstep];unfold M0;rw [hany,if_pos rfl]
   ·obtain ⟨b,hb,x,e2⟩:=hex v hv e;exact ⟨b,mem_of_mem_take (i:=i) (by rw [take_take,Nat.min_eq_left (le_succ i)];exact hb),x,e2⟩
  | none=>
   rw [hf2] at hd;obtain ⟨rfl,rfl⟩:=hd;have hany:S'.any (fun v=>Jb v == a.1) = false:=by
    rw [Bool.eq_false_iff];intro q;obtain ⟨v,hv,e⟩:=List.any_eq_true.mp q;exact absurd e (by have:=List.find?_eq_none.mp hf2 v hv;simpa using this)
   refine Op2.jay ⟨_,rfl,?_⟩;rw [beq_self_eq_true,if_pos rfl];obtain ⟨f',rfl⟩:∃ f',f = f' + 1:=by
    cases f with
    | zero=>exact absurd (hS'.full (by lia) hak.1) (by rw [hany];decide)
    | succ f=>exact ⟨f,rfl⟩
   have hS2:=hS'.snoc hwS hak.1 hany;have hw2:w ++ [a.1] ∈ S' ++ [w ++ [a.1]]:=mem_append_right _ (.head _)
   have hr:=rec f' rfl (w ++ [a.1]) (S' ++ [w ++ [a.1]]) hS2 hw2 (fun v hv=>by
    rintro ⟨x,hx,e⟩
    rcases lA hv with hv | hv
    ·obtain ⟨b,hb,x2,e2⟩:=hex v hv ⟨a.1 :: x,by simp,by rw [e];simp⟩;rw [e,append_assoc] at e2;have:=append_cancel_left e2;injection this with e3 _
     exact hold b hb e3.symm
    ·rw [lS hv] at e;have:=congrArg List.length e;rw [length_append (bs:=x)] at this;have:=List.length_pos_iff.mpr hx
     lia) (by rw [length_append];simp;lia)
   obtain ⟨q1,Y,e2,hY⟩:=Cq hT (f' + 1) (w ++ [a.1]) (S' ++ [w ++ [a.1]]) hS2 hw2;have hname:(upS (L a.1),Jf (w ++ [a.1])) = Gg (w ++ [a.1]):=by
    unfold Gg nameOf;have:0 < w.length:=List.length_pos_iff.mpr hw'.1;rw [if_neg (by rw [length_append,length_singleton];lia),Yr]
   rw [hname,show S'.map Gg ++ [Gg (w ++ [a.1])] = (S' ++ [w ++ [a.1]]).map Gg by rw [map_append];rfl];refine Ss.cons<|S1.expr<|EvE.jq C' X (O1 X)<|EvL.loc C' h1.ne<|EvL.loc C' h2.ne<|EvL.cons<|EvE.Wf (Lf.loc C' h3.ne)<|EvE.J7 (Lf.loc C' Has.self) Lf.int<|Op2.X7 (c:=97 + a.1) (by rfl) (by decide) (by decide) (Vq a)<|Op2.Ob hlw ?_;rw [hcat];refine EvL.nil<|Fn.op C' (hr.mono ?_) (by lia);rintro d H' ⟨rfl,rfl⟩;refine Ss.nil<|Ss.nil ⟨_,?_,q1,?_,?_,fun v hv e=>?_,rfl,h1.ne,h2.ne,h3.ne⟩
   ·rw [hstep];unfold M0;rw [hany,if_neg (by decide)]
   ·rw [e2];exact mem_append_left _ (mem_append_left _ hwS)
   ·rw [e2];simp only [length_append];lia
   ·have hai:a ∈ (Jz T (Jb w)).take (i + 1):=by rw [take_add_one,ha];exact mem_append_right _ (.head _)
    rw [e2] at hv
    rcases lA hv with hv | hv
    ·rcases lA hv with hv | hv
     ·obtain ⟨b,hb,x,e2⟩:=hex v hv e;exact ⟨b,mem_of_mem_take (i:=i) (by rw [take_take,Nat.min_eq_left (le_succ i)];exact hb),x,e2⟩
     ·exact ⟨a,hai,[],lS hv⟩
    ·obtain ⟨x,hx,rfl⟩:=hY v hv;exact ⟨a,hai,x,by simp⟩
 ·refine no_implicit_lambda% (G2 (h:=?_));refine (?_:A2 _) _ _;rintro ρ1 H1 ⟨S',eS,hS',hwS,hle,hex,rfl,h1,h2,h3⟩;rw [L3 hT hlast,length_map,length_map,take_length] at eS;rw [Sm,← eS];have:=hS'.len;refine Ss.nil<|Ss.ret<|EvE.J4 (Lf.loc C h2) ⟨_,D7 X,Kp.xl (Oy X),EvL.nil<|Fn.is C (An (n:=n) X (.head _) (by rw [length_map];lia)) (by lia) ⟨?_,rfl⟩⟩;rw [map_map];rfl
theorem E2 (X:XB B) {T:List Tie} {m:Nat} (hk:Yf T m) (hz:T.length ≤ 6) {l ls:Addr} {H0:Led} (hl:(l,tab (Vc T)) ∈ H0):∀ f,Sv B T l ls H0 n f
 | 0=>Rc X hk hz hl fun f' e=>by contradiction
 | f + 1=>Rc X hk hz hl fun f' e=>by cases e;exact E2 X hk hz hl f
noncomputable abbrev Lnk:=Str × Str × Int
noncomputable abbrev Prg:=List Str × Int
noncomputable def addL (l:Lnk) (fs:List Prg):List Prg:=(fs.filter fun e=>!e.1.contains l.1 && !e.1.contains l.2.1).map fun e=>(e.1 ++ [l.1,l.2.1],e.2 * l.2.2)
noncomputable def Yh (ls:List Lnk):List Prg:=ls.foldl (fun fs l=>fs ++ addL l fs) [([],1)]
noncomputable def pairF (ls:List Lnk):List Int:=(List.range (ls.length + 1)).map fun k=>(((Yh ls).filter fun e=>e.1.length == 2 * k).map (·.2)).sum
noncomputable def I4 (l:Lnk):D:=.tup [.str l.1,.str l.2.1,.int l.2.2]
theorem Fh:∀ a b:Lnk,I4 a = I4 b→a = b:=fun ⟨i,j,w⟩ ⟨i',j',w'⟩ h=>by
 unfold I4 at h;injection h with h
 injection h with h1 h
 injection h with h2 h
 injection h with h3 _
 injection h1 with h1
 injection h2 with h2
 injection h3 with h3
 exact Prod.ext h1 (Prod.ext h2 h3)
noncomputable def R5 (e:Prg):D:=.tup [.tup (e.1.map .str),.int e.2]
theorem Lj:∀ a b:List Str,a.map D.str = b.map D.str→a = b
 | [],[],_=>rfl
 | [],_ :: _,h=>by simp at h
 | _ :: _,[],h=>by simp at h
 | x :: a,y :: b,h=>by
  simp only [map_cons,List.cons.injEq,D.str.injEq] at h;rw [h.1,Lj a b h.2]
theorem Du:∀ a b:Prg,R5 a = R5 b→a = b:=fun ⟨x,w⟩ ⟨y,v⟩ h=>by
 unfold R5 at h;injection h with h
 injection h with h1 h
 injection h with h2 _
 injection h1 with h1
 injection h2 with h2
 exact Prod.ext (Lj _ _ h1) h2
theorem Yy (ls:List Lnk) (l:Lnk):Yh (ls ++ [l]) = Yh ls ++ addL l (Yh ls):=by
 unfold Yh;rw [foldl_append];rfl
theorem rev_ind {α:Type} {p:List α→Prop} (h0:p []) (h1:∀ l a,p l→p (l ++ [a])):∀ l,p l:=fun l=>by
 have:∀ l:List α,p l.reverse:=by
  intro l
  induction l with
  | nil=>exact h0
  | cons a l ih=>refine rwb reverse_cons ?_;exact h1 _ _ ih
 have:=this l.reverse
 rwa [reverse_reverse] at this
theorem Cy (l:Lnk) (fs:List Prg):(addL l fs).length ≤ fs.length:=by
 unfold addL;rw [length_map];exact length_filter_le _ _
theorem Uc (ls:List Lnk):(Yh ls).length ≤ 2 ^ ls.length:=by
 induction ls using rev_ind with
 | h0=>exact le_refl _
 | h1 ls l ih=>
  rewrite [Yy];refine rwb length_append (rwb length_append (rwb length_singleton ?_));rw [Nat.pow_succ];have:=Cy l (Yh ls);lia
noncomputable def Qt (l:Lnk):Prop:=PyData.strOk l.1 = true ∧ PyData.strOk l.2.1 = true ∧ -1000 ≤ l.2.2 ∧ l.2.2 ≤ 999
theorem M8 {ls:List Lnk} (h:∀ l ∈ ls,Qt l):∀ e ∈ Yh ls,(∀ x ∈ e.1,PyData.strOk x = true) ∧ e.1.length ≤ 2 * ls.length:=by
 induction ls using rev_ind with
 | h0=>intro e he;refine rwb (lS he) ?_;exact ⟨by simp,le_refl _⟩
 | h1 ls l ih=>
  intro e he;have ih:=ih fun l' hl=>h l' (mem_append_left _ hl);have hl:=h l (mem_append_right _ (.head _));rw [Yy] at he;refine rwb length_append (rwb length_singleton ?_)
  rcases lA he with he | he
  ·have:=ih e he;exact ⟨this.1,by lia⟩
  ·refine el12 (lM he) fun e0 he0 z2=>?_;subst z2;have:=ih e0 (lF he0).1;refine ⟨fun x hx=>?_,by refine rwb length_append ?_;simp only [length_cons,List.length_nil];lia⟩
   rcases lA hx with hx | hx
   ·exact this.1 x hx
   ·simp only [mem_cons,not_mem_nil,or_false] at hx
    rcases hx with rfl | rfl
    ·exact hl.1
    ·exact hl.2.1
theorem R2 (a:Int) (k:Nat):Builtin.Range.rangeSize a (a + k) 1 = (k:Int):=by
 unfold Builtin.Range.rangeSize;simp only [show (1:Int) > 0 by decide,if_true,Int.ediv_one];split <;> lia
theorem Dp {a:Int} {k:Nat} (h0:0 ≤ a) (h1:a < 2 ^ 60) (h2:k < 2 ^ 60):Builtin.Range.small a (a + k) 1 = true:=by
 unfold Builtin.Range.small;rw [R2];simp only [Builtin.Range.rangeFitsLong,Bool.and_eq_true,Bool.or_eq_true,decide_eq_true_eq,beq_iff_eq,show (1:Int) > 0 by decide,if_true];omega
theorem Gf {w:Int} (h:-1000 ≤ w) (h':w ≤ 999):intBits w ≤ 64:=le_trans (bits_le (k:=10) (by omega)) (by decide)
theorem Wx (X:XB B):Jm B 344 (bodyOf 35) (Jh 35) ["links"] []:=Jm.of X (by rfl) rfl rfl rfl rfl rfl (by rfl) (all1 fun a=>rfl)
theorem Jbi:∀ a b:Nat,D.int (a:Int) = D.int (b:Int)→a = b:=fun a b h=>by injection h with h;lia
theorem Iq (X:XB B) {ls:List Lnk} (hls:∀ l ∈ ls,Qt l) (hz:ls.length ≤ 16):Fn0 B (n + 1) (.ref 344) [.lst (ls.map I4)] H (Is (.lst ((pairF ls).map .int)) H):=by
 revert X hls hz;revert B H n ls;refine no_implicit_lambda% (G4 (h:=?_));refine (?_:A4 _) _ _ _ _;intro B H n ls X hls hz;refine (Wx X).Pm (by rfl) (by rfl) (by rfl) rfl (no_implicit_lambda% (G2 (h:=?_)));refine (?_:A2 _) _ _;intro A' fm hh C;have hra:B.mg "range" = none:=mgN X (by rfl);have hle:B.mg "len" = none:=mgN X (by rfl);have hsu:B.mg "sum" = none:=mgN X (by rfl);refine Ss.assign C<|EvE.lst<|EvL.cons<|EvE.tup<|EvL.cons<|EvE.tup<|EvL.nil<|OpN.tuple<|EvL.int<|EvL.nil<|OpN.tuple<|EvL.nil<|OpN.list ?_;refine Ss.cons<|S1.for (fun ds i ρ1 H1=>H1 = H ∧ Has ρ1 "links" (.lst (ls.map I4)) ∧ Has ρ1 "found" (.lst ((Yh (ls.take i)).map R5))) C ?_;refine EvE.loc C (by rfl) ⟨_,_,Jn.lst,⟨rfl,by rfl,by rfl⟩,?_,?_⟩
 ·refine no_implicit_lambda% (G5 (h:=?_));refine (?_:A5 _) _ _ _ _ _;refine fun fm' i d' ρ1 H1 C' hd' zz=>V5 zz fun z0 h1 h2=>?_;subst z0;replace hd':=ts (List.getElem?_map) hd';refine el12 (map_eq_some_iff.mp hd') fun l hl z2=>?_;subst z2;have hlm:=hls l (List.mem_of_getElem? hl);have hlen:=Uc (ls.take i);have h2i:2 ^ (ls.take i).length ≤ 2 ^ 16:=pow_le_pow_right (by decide) (by refine rwb length_take ?_;lia);have h16:(2:Nat) ^ 16 = 65536:=by decide
  have hok:=M8 (ls:=ls.take i) fun l' hl'=>hls l' (mem_of_mem_take hl');refine Asg.tup C' rfl<|Jg.cons<|Asg.name C'<|Jg.cons<|Asg.name C'<|Jg.cons<|Asg.name C'<|Jg.nil ?_;refine Ss.assign C'<|EvE.Wf (Lf.Vl C' h2.ne.ne.ne)<|EvE.Ql (l:=Yh (ls.take i)) (t:=fun e=>!e.1.contains l.1 && !e.1.contains l.2.1) (g:=fun e=>R5 (e.1 ++ [l.1,l.2.1],e.2 * l.2.2)) C' Du (by rfl)<|EvE.Vl C' h2.ne.ne.ne ⟨[],_,Jn.lst,List.Perm.refl _,by lia,?_,?_⟩
  ·intro e he D' fm2 out C2;have hee:=hok e he;have hds:∀ d ∈ e.1.map D.str,D.fl 8 d = true:=fun d hd=>by
    refine el12 (lM hd) fun x hx z2=>?_;subst z2;exact hee.1 x hx
   have hin:∀ x:Str,D.str x ∈ e.1.map D.str ↔ x ∈ e.1:=fun x=>by simp
   refine Asg.tup C2 rfl<|Jg.cons<|Asg.name C2<|Jg.cons<|Asg.name C2<|Jg.nil ⟨rfl,kpp (kpp kp0),fun fm5 out5 C5=>⟨?_,fun Z=>?_⟩⟩
   ·refine EvB.and<|EvB.zq (Lf.Vl C5 (Has.ne (Has.ne (J2 Has.self.ne.ne (by rfl))))) (Lf.loc C5 Has.self.ne)<|Op2.jch C5 hlm.1 hds fun b hb=>⟨_,rfl,?_⟩;rw [hin] at hb;cases e1:e.1.contains l.1
    ·have:b = true:=hb.mpr fun q=>by replace e1:=ts (List.contains_iff_mem.mpr q) e1;contradiction
     subst this;refine rwb (if_pos rfl) ?_;refine EvB.and<|EvB.zq (Lf.Vl C5 (Has.ne (Has.ne (J2 Has.self.ne (by rfl))))) (Lf.loc C5 Has.self.ne)<|Op2.jch C5 hlm.2.1 hds fun b2 hb2=>⟨_,rfl,?_⟩;rw [hin] at hb2;cases e2:e.1.contains l.2.1
     ·have:b2 = true:=hb2.mpr fun q=>by replace e2:=ts (List.contains_iff_mem.mpr q) e2;contradiction
      subst this;refine rwb (if_pos rfl) ?_;exact EvB.jax ⟨rfl,rfl⟩
     ·have:b2 = false:=by
       cases b2
       ·rfl
       ·exact absurd (List.contains_iff_mem.mp e2) (hb2.mp rfl)
      subst this;refine rwb (if_neg (by decide)) ?_;exact ⟨rfl,rfl⟩
    ·have:b = false:=by
      cases b
      ·rfl
      ·exact absurd (List.contains_iff_mem.mp e1) (hb.mp rfl)
     subst this;refine rwb (if_neg (by decide)) ?_;exact ⟨rfl,rfl⟩
   ·refine EvE.tup<|EvL.cons<|EvE.Wf (Lf.loc C5 Has.self.ne)<|EvE.tup<|EvL.lf (Lf.Vl C5 (Has.ne (Has.ne (J2 Has.self.ne.ne (by rfl)))))<|EvL.lf (Lf.Vl C5 (Has.ne (Has.ne (J2 Has.self.ne (by rfl)))))<|EvL.nil<|OpN.tuple<|Op2.jfp (by (rewrite [length_map];refine rwb sizeLine_eq ?_);have:=hee.2;replace this:=length_take ▸ this;show _ + 2 ≤ _;lia) ?_;refine EvL.cons<|EvE.jo (Lf.loc C5 Has.self) (Lf.Vl C5 (Has.ne (Has.ne (J2 Has.self (by rfl)))))<|Op2.mul (IntMulOk.of_right (Gf hlm.2.2.1 hlm.2.2.2))<|EvL.nil<|OpN.tuple ⟨?_,rfl⟩;unfold R5;refine rwb map_append ?_;rfl
  ·have hal:=Cy l (Yh (ls.take i));have e3:(((Yh (ls.take i)).filter fun e=>!e.1.contains l.1 && !e.1.contains l.2.1).map fun e=>R5 (e.1 ++ [l.1,l.2.1],e.2 * l.2.2)) = (addL l (Yh (ls.take i))).map R5:=by unfold addL;refine rwb map_map ?_;rfl
   refine rwb e3 ?_;refine Op2.addL (by (rewrite [length_map,length_map];refine rwb sizeLine_eq ?_);lia) ?_;refine Ss.nil ⟨rfl,h1.ne.ne.ne.ne,?_⟩;have:ls.take (i + 1) = ls.take i ++ [l]:=by (refine rwb take_add_one (rwb hl ?_));rfl
   refine rwb this ?_;rewrite [Yy];refine rwb map_append ?_;exact Has.self
 ·refine no_implicit_lambda% (G2 (h:=?_));refine (?_:A2 _) _ _;refine fun ρ1 H1 zz=>V5 zz fun z0 h1 h2=>?_;subst z0;rewrite [length_map] at h2;replace h2:=take_length ▸ h2;have hlen:=Uc ls;have h2i:2 ^ ls.length ≤ 2 ^ 16:=pow_le_pow_right (by decide) hz;have h16:(2:Nat) ^ 16 = 65536:=by decide
  have hok:=M8 hls;refine Ss.nil<|Ss.ret<|EvE.Md (l:=List.range (ls.length + 1)) (f:=fun k:Nat=>D.int (k:Int)) (g:=fun k=>D.int (((Yh ls).filter fun e=>e.1.length == 2 * k).map (·.2)).sum) C Jbi (by rfl) ?_;refine EvE.call<|EvE.gu C (by rfl) hra PyProof.Rows.Boot.«range» (by decide) ⟨_,Kp.type,EvL.cons<|EvE.bin<|EvE.call<|EvE.gu C (by rfl) hle (by rfl) (by decide) ⟨_,Kp.builtin,EvL.loc C h1<|EvL.nil<|Cl.sx (by rw [length_map];lia)<|EvE.int<|Op2.add<|EvL.nil<|Cl.ma fun ra ta ua va=>?_⟩⟩;rw [length_map];have ei:((ls.length:Int) + 1) = 0 + ((ls.length + 1:Nat):Int):=by lia
  refine rwb ei ?_;refine ⟨[],H1,?_,List.Perm.refl _,by refine rwb length_range ?_;lia,?_,⟨by unfold pairF;refine rwb map_map ?_;rfl,rfl⟩⟩
  ·have:=Jn.jdi (B:=B) (A:=A') (fm:=fm) (ρ:=ρ1) (H:=H1) (r:=ra) (a:=0) (b:=0 + ((ls.length + 1:Nat):Int)) (c:=1) (t:=ta) (u:=ua) (v:=va) hh (Dp (by decide) (by decide) (by lia)) (R2 _ _);have e:(List.range (ls.length + 1)).map (fun (i:Nat)=>D.int (0 + (i:Int) * 1)) = (List.range (ls.length + 1)).map (fun k:Nat=>D.int (k:Int)):=map_congr_left fun i Z=>by rw [Int.zero_add,Int.mul_one]
   replace this:=e ▸ this;exact this
  ·intro k hk D' fm2 out C2;have hk:=List.mem_range.mp hk;refine Asg.name C2 ⟨rfl,kpp kp0,fun fm5 out5 C5=>?_⟩;refine EvE.call<|EvE.gu C5 (by rfl) hsu (by rfl) (by decide) ⟨_,Kp.builtin,EvL.cons<|EvE.Ql (l:=Yh ls) (f:=R5) (t:=fun e=>e.1.length == 2 * k) (g:=fun e=>D.int e.2) C5 Du (by rfl)<|EvE.Vl C5 (Has.ne (J2 h2 (by rfl))) ⟨[],_,Jn.lst,List.Perm.refl _,by lia,?_,?_⟩⟩
   ·intro e he D2 fm3 out3 C3;have hee:=hok e he;refine Asg.tup C3 rfl<|Jg.cons<|Asg.name C3<|Jg.cons<|Asg.name C3<|Jg.nil ⟨rfl,kpp (kpp kp0),fun fm6 out6 C6=>⟨?_,fun Z=>?_⟩⟩
    ·refine EvB.cmp<|EvE.call<|EvE.gu C6 (by rfl) hle (by rfl) (by decide) ⟨_,Kp.builtin,EvL.loc C6 Has.self.ne<|EvL.nil<|Cl.jfe (by rw [length_map];lia)<|EvE.jo Lf.int (Lf.Vl C6 (Has.ne (Has.ne (J2 Has.self (by rfl)))))<|Op2.mul (IntMulOk.of_left (by decide))<|Op2.jaz ⟨_,rfl,rfl,?_⟩⟩;rw [length_map]
     by_cases h:e.1.length = 2 * k
     ·(refine rwb h (rwb (show ((2 * k:Nat):Int) = 2 * (k:Int) by lia) ?_));simp
     ·refine rwb (beq_eq_false_iff_ne.mpr h) ?_;exact rwb (beq_eq_false_iff_ne.mpr (by lia)) rfl
    ·exact EvE.loc C6 Has.self ⟨rfl,rfl⟩
   ·have e:(((Yh ls).filter fun e=>e.1.length == 2 * k).map fun e=>D.int e.2) = (((Yh ls).filter fun e=>e.1.length == 2 * k).map (·.2)).map .int:=by refine rwb map_map ?_;rfl
    refine rwb e ?_;exact EvL.nil<|Cl.sum hh ⟨rfl,rfl⟩
theorem Eh {M:Nat}:∀ l:List Int,(∀ x ∈ l,x.natAbs ≤ M)→l.sum.natAbs ≤ l.length * M
 | [],_=>by simp
 | x :: l,h=>by
  refine rwb sum_cons (rwb length_cons ?_);rw [Nat.succ_mul];have h1:=h x (.head _);have h2:=Eh l fun y hy=>h y (.tail _ hy);have:=Int.natAbs_add_le x l.sum;lia
theorem N8 {ls:List Lnk} (h:∀ l ∈ ls,Qt l):∀ e ∈ Yh ls,e.2.natAbs ≤ 1000 ^ ls.length:=by
 induction ls using rev_ind with
 | h0=>intro e he;refine rwb (lS he) ?_;decide
 | h1 ls l ih=>
  intro e he;have ih:=ih fun l' hl=>h l' (mem_append_left _ hl);have hl:=h l (mem_append_right _ (.head _));rw [Yy] at he;refine rwb length_append (rwb length_singleton ?_);rw [Nat.pow_succ]
  rcases lA he with he | he
  ·have:=ih e he;lia
  ·refine el12 (lM he) fun e0 he0 z2=>?_;subst z2;have:=ih e0 (lF he0).1;show (e0.2 * l.2.2).natAbs ≤ _;rw [Int.natAbs_mul];exact Nat.mul_le_mul this (by have:=hl.2.2;omega)
theorem Zp (ls:List Lnk):(pairF ls).length = ls.length + 1:=by unfold pairF;simp
theorem Ae {ls:List Lnk} (h:∀ l ∈ ls,Qt l):∀ x ∈ pairF ls,x.natAbs ≤ 2 ^ ls.length * 1000 ^ ls.length:=fun x hx=>by
 refine el12 (lM hx) fun k Z z2=>?_;subst z2;refine le_trans (Eh (M:=1000 ^ ls.length) _ fun y hy=>?_) (Nat.mul_le_mul_right _ ?_)
 ·refine el12 (lM hy) fun e he z2=>?_;subst z2;exact N8 h e (lF he).1
 ·rw [length_map];exact le_trans (length_filter_le _ _) (Uc ls)
theorem Gj {ls:List Lnk} (h:∀ l ∈ ls,Qt l) (hz:ls.length ≤ 16):∀ x ∈ pairF ls,intBits x ≤ 200:=fun x hx=>by
 refine bits_le ?_;have h1:=Ae h x hx;have h2:2 ^ ls.length * 1000 ^ ls.length ≤ 2 ^ 16 * 1000 ^ 16:=Nat.mul_le_mul (pow_le_pow_right (by decide) hz) (pow_le_pow_right (by decide) hz);have h3:2 ^ 16 * 1000 ^ 16 < 2 ^ 200:=by decide
 lia
theorem Ge (X:XB B):Jm B 351 (bodyOf 36) (Jh 36) ["links", "width"] []:=Jm.of X (by rfl) rfl rfl rfl rfl rfl (by rfl) (all2 fun a b=>rfl)
theorem Qi (X:XB B) {ls:List Lnk} {m:Nat} (hls:∀ l ∈ ls,Qt l) (hz:ls.length ≤ 16) (hm0:0 < m) (hm:m ≤ 2 ^ 14):Fn0 B (n + 20) (.ref 351) [.lst (ls.map I4),.int m] H (Is (.int (valOf m (pairF ls))) H):=by
 refine (Ge X).Pm (by rfl) (by rfl) (by rfl) rfl fun A' fm hh C=>?_;refine Ss.ret<|EvE.jq C X (Qc X)<|EvL.cons<|EvE.jq C X (Wx X)<|EvL.loc C (by rfl)<|EvL.nil<|Fn0.is C hh (Iq (n:=n) X hls hz) (by lia) ?_;refine EvL.loc C (by rfl)<|EvL.nil<|Fn.is C (Lr X hm0 hm (k:=200) (by decide) (Gj hls hz) (by rw [Zp];lia) (by rw [Zp];exact le_trans (Nat.mul_le_mul hm (show _ ≤ 17 by lia)) (by decide))) (by lia) ⟨rfl,rfl⟩
noncomputable def Vt (T:List Tie) (j:Nat):List Tie:=T.filter fun t=>t.1 != j && t.2.1 != j
noncomputable def hd1 (x:Str):Str:=⟨#[x.cps.getD 0 0]⟩
noncomputable def Di (j:Nat) (p:Str × Str):Bool:=decide ((Wq p.1).cps.toList < (hd1 p.2).cps.toList) && (hd1 p.2 != L j)
noncomputable def P2 (p:Str × Str):D:=.tup [.str (Wq p.1),.str (hd1 p.2),.int ((PySem.intText? (Xy p.2 (some 1) none)).getD 0)]
theorem Cc (a:Nat × Int):hd1 (Vm a) = L a.1:=by
 unfold hd1;have:=Kn a;(refine rwb (Array.getD_eq_getD_getElem?) (rwb this ?_));rfl
theorem Jex {i j:Nat}:((L i).cps.toList < (L j).cps.toList) ↔ i < j:=by
 show [97 + i] < [97 + j] ↔ _;rw [List.cons_lt_cons_iff];simp
theorem By {i j:Nat} {w m:Int} (h:i < 5) (h1:-1000 ≤ w) (h2:w ≤ 999):P2 (Xz i w m,L j ++ num w) = .tup [.str (L i),.str (L j),.int w]:=by
 unfold P2;have e1:=Cc (j,w);have e2:=Km (j,w);unfold Vm at e1 e2;(refine rwb (Lh h) (rwb e1 (rwb e2 (rwb (num_reads (by lia) (by lia)) ?_))));rfl
theorem Uq {i k j:Nat} {w m:Int} (h:i < 5):Di j (Xz i w m,L k ++ num w) = (decide (i < k) && k != j):=by
 unfold Di;have e1:=Cc (k,w);unfold Vm at e1;refine rwb (Lh h) (rwb e1 ?_)
 congr 1
 ·exact decide_eq_decide.mpr Jex
 ·show (!(L k == L j)) = !(k == j);rw [Rl]
theorem P1 {T:List Tie} (hT:∀ t ∈ T,Yj t ∧ t.1 < t.2.1) {j:Nat} (hj:j < 5):((Ly (Vc T) (upS (L j))).filter (Di j)).map P2 = (Vt T j).map Zg:=by
 revert hT hj;revert T j;refine no_implicit_lambda% (G2 (h:=?_));refine (?_:A2 _) _ _;intro T j hT hj;unfold Ly Vc Vt
 induction T with
 | nil=>rfl
 | cons t T ih=>
  have ih:=ih fun t ht=>hT t (.tail _ ht);refine Yd (hT t (.head _)) fun hin hlt=>?_;refine rwb flatMap_cons ?_;rewrite [filter_append,filter_append];refine rwb map_append (rwb ih ?_);have e:(((Aq t).filter fun p=>!Yi p.1 (upS (L j))).filter (Di j)).map P2 = if (t.1 != j && t.2.1 != j) = true then [Zg t] else []:=by
   unfold Aq;refine rwb filter_cons (rwb filter_cons (rwb filter_nil (rwb (Og hin.1 hj) (rwb (Og hin.2.1 hj) ?_))))
   by_cases e1:t.1 = j <;> by_cases e2:t.2.1 = j
   ·simp [e1,e2]
   ·simp [e1,e2,Uq hin.2.1]
   ·simp [e1,e2,Uq hin.1]
   ·have a1:(t.1 == j) = false:=beq_eq_false_iff_ne.mpr e1;have a2:(t.2.1 == j) = false:=beq_eq_false_iff_ne.mpr e2;have b1:Di j (Xz t.1 t.2.2 2,L t.2.1 ++ num t.2.2) = true:=by (refine rwb (Uq hin.1) (rwb (decide_eq_true hlt) ?_));simp [e2]
    have b2:Di j (Xz t.2.1 t.2.2 3,L t.1 ++ num t.2.2) = false:=by (refine rwb (Uq hin.2.1) (rwb (decide_eq_false (by lia)) ?_));rfl
    refine rwb a1 (rwb a2 ?_);simp only [Bool.not_false,if_true];refine rwb filter_cons (rwb filter_cons (rwb filter_nil (rwb b1 (rwb b2 ?_))));simp only [if_true];refine rwb (if_neg (by decide)) (rwb map_cons (rwb map_nil (rwb (By hin.1 hin.2.2.1 hin.2.2.2) (rwb (if_pos (by simp [e1,e2])) ?_))));rfl
  refine rwb e (rwb filter_cons ?_);split <;> rfl
theorem Jbr {T:List Tie} (hT:∀ t ∈ T,Yj t):∀ p ∈ Vc T,∃ a:Nat × Int,p.2 = Vm a ∧ a.1 < 5 ∧ -1000 ≤ a.2 ∧ a.2 ≤ 999:=fun p hp=>by
 refine el12 (List.mem_flatMap.mp hp) fun t ht hp=>?_;have h:=hT t ht;simp only [Aq,mem_cons,not_mem_nil,or_false] at hp
 rcases hp with rfl | rfl
 ·exact ⟨(t.2.1,t.2.2),rfl,h.2.1,h.2.2⟩
 ·exact ⟨(t.1,t.2.2),rfl,h.1,h.2.2⟩
noncomputable def Jbs (p:Str × Str):D:=.tup [.str p.1,.str p.2]
theorem Hn:∀ a b:Str × Str,Jbs a = Jbs b→a = b:=fun ⟨x,y⟩ ⟨x',y'⟩ h=>by
 unfold Jbs at h;injection h with h
 injection h with h1 h
 injection h with h2 _
 injection h1 with h1
 injection h2 with h2
 exact Prod.ext h1 h2
theorem Jl.drop {F':Fz} {H' H'':Led} {s s':Shared} (c:Jl B F H s F' H' s') (h:H''.Sublist H'):Jl B F H s F' H'' s':=
 ⟨c.le,c.gs.drop h,c.kept,c.live,c.newF,fun p hp=>c.newH p (h.subset hp)⟩
theorem Fn.drop {f:Value} {ds:List D} {m:Nat} (k:Fn B m f ds H (fun d H'=>∃ H'',H''.Sublist H' ∧ P d H'')):Fn B m f ds H P:=fun A F s stk vs r rv=>
 wpAny_mono (k A F s stk vs r rv) (fun v s' y=>y.elim fun F' d H' zqq q c=>el12 zqq fun H'' h1 h2=>⟨F',d,H'',h2,q,c.drop h1⟩) fun Z Z x=>x
theorem Fn0.drop {f:Value} {ds:List D} {m:Nat} (k:Fn0 B m f ds H (fun d H'=>∃ H'',H''.Sublist H' ∧ P d H'')):Fn0 B m f ds H P:=fun A F s stk vs hh r rv=>
 wpAny_mono (k A F s stk vs hh r rv) (fun v s' y=>y.elim fun F' d H' zqq q c=>el12 zqq fun H'' h1 h2=>⟨F',d,H'',h2,q,c.drop h1⟩) fun Z Z x=>x
theorem W9 (X:XB B) {l:Addr}:Ji B H (.hdr l) "items" (.ref 244):=Ji.hdr X.k (by rfl) (by rfl) (by rfl) (by decide)
theorem Oz (X:XB B):Jm B 356 (bodyOf 37) (Jh 37) ["net", "letter"] []:=Jm.of X (by rfl) rfl rfl rfl rfl rfl (by rfl) (all2 fun a b=>rfl)
theorem Ao (X:XB B) {T:List Tie} (hT:∀ t ∈ T,Yj t ∧ t.1 < t.2.1) (hz:T.length ≤ 6) {j:Nat} (hj:j < 5) {l:Addr} (hl:(l,tab (Vc T)) ∈ H):Fn B (n + 5) (.ref 356) [.hdr l,.str (L j)] H (Is (.lst ((Vt T j).map Zg)) H):=by
 revert X hT hz hj hl;revert B H n T j l;refine no_implicit_lambda% (G6 (h:=?_));refine (?_:A6 _) _ _ _ _ _ _;intro B H n T j l X hT hz hj hl;have hT1:∀ t ∈ T,Yj t:=fun t ht=>(hT t ht).1;have hpv:=Uy hT1;have hel:=Wr T;have hint:B.mg "int" = none:=mgN X (by rfl);refine Fn.drop ?_;refine (Oz X).fn (n:=n + 4) (by rfl) (by rfl) (by rfl) rfl (no_implicit_lambda% (G2 (h:=?_)));refine (?_:A2 _) _ _;intro A' fm C;refine Ss.assign C<|EvE.call<|EvE.tq C (mgX X (by rfl)) ⟨_,Gm X,EvL.cons<|EvE.J4 (Lf.loc C (by rfl)) ⟨_,W9 X,Kp.xl (Wm X),EvL.nil<|Fn.op C ((Uw (n:=n) X hl (by lia)).mono ?_) (by lia)⟩⟩;refine fun d H1 zz=>el12 zz fun b z1 z2=>?_;subst z1;subst z2;refine EvL.nil<|Fn.is C (Wa (n:=n) X (.head _) hpv) (by lia) ?_;refine Ss.cons<|S1.expr<|EvE.jq C X (Xw X)<|EvL.loc C (by rfl)<|EvL.cons<|EvE.J4 (Lf.Vl C (by rfl)) ⟨_,Y4,Kp.builtin,EvL.nil<|Cl.xg (Wt hj)<|EvL.nil<|Fn.op C ((Lq (n:=n) X (hs:=Vc T) .head (Wt hj).up (fun p hp=>(hpv p hp).1) (by lia)).mono ?_) (by lia)⟩;rintro d H1 ⟨rfl,rfl⟩;have hcl:(Ly (Vc T) (upS (L j))).length ≤ 12:=le_trans (length_filter_le _ _) (by lia);refine Ss.ret<|EvE.Ql (l:=Ly (Vc T) (upS (L j))) (f:=Jbs) (t:=Di j) (g:=P2) C Hn (by rfl)<|EvE.J4 (Lf.loc C (by rfl)) ⟨_,W9 X,Kp.xl (Wm X),EvL.nil<|Fn.op C ((Uw (n:=n) X (.head _) (by lia)).mono ?_) (by lia)⟩;refine fun d H1 zz=>el12 zz fun b2 z1 z2=>?_;subst z1;subst z2
 refine ⟨_,_,Jn.own (List.Perm.refl _),List.Perm.refl _,by lia,?_,⟨H,.cons _ (.cons _ (List.Sublist.refl _)),by exact rwb (P1 hT hj) rfl,rfl⟩⟩;intro p hp D' fm2 out C2;have hpe:=(lF hp).1;have hpp:=hpv p hpe;refine el14 (Jbr hT1 p hpe) fun a ha ha5 ha1 ha2=>?_;have hc:((seqIndex? 0 p.2.length).bind fun j=>p.2.cps[j]?) = some (p.2.cps.getD 0 0):=by
  (refine rwb ha ?_;rewrite [Vq];refine rwb (Array.getD_eq_getD_getElem?) ?_;rw [Kn]);rfl
 refine Asg.tup C2 rfl<|Jg.cons<|Asg.name C2<|Jg.cons<|Asg.name C2<|Jg.nil ⟨rfl,kpp (kpp kp0),fun fm5 out5 C5=>⟨?_,fun Z=>?_⟩⟩
 ·refine EvB.and<|EvB.cmp<|EvE.J4 (Lf.loc C5 Has.self.ne) ⟨_,Zl,Kp.builtin,EvL.nil<|Cl.X6 hpp.1<|EvE.J7 (Lf.loc C5 Has.self) Lf.int<|Op2.X7 (by rfl) (by decide) (by decide) hc<|Op2.ltS ⟨_,rfl,?_⟩⟩;unfold Di;cases e1:decide ((Wq p.1).cps.toList < (hd1 p.2).cps.toList)
  ·(refine rwb (show decide ((Wq p.1).cps.toList < (⟨#[p.2.cps.getD 0 0]⟩:Str).cps.toList) = false from e1) (rwb (if_neg (by decide)) ?_));exact ⟨rfl,rfl⟩
  ·refine rwb (show decide ((Wq p.1).cps.toList < (⟨#[p.2.cps.getD 0 0]⟩:Str).cps.toList) = true from e1) (rwb (if_pos rfl) ?_);refine EvB.and<|EvB.cmp<|EvE.J7 (Lf.loc C5 Has.self) Lf.int<|Op2.X7 (by rfl) (by decide) (by decide) hc<|EvE.Vl C5 (Has.ne (Has.ne (J2 (by rfl) (by rfl))))<|Op2.neS ⟨_,rfl,?_⟩;cases e2:(hd1 p.2 != L j)
   ·(refine rwb (show ((⟨#[p.2.cps.getD 0 0]⟩:Str) != L j) = false from e2) (rwb (if_neg (by decide)) ?_));exact ⟨rfl,rfl⟩
   ·(refine rwb (show ((⟨#[p.2.cps.getD 0 0]⟩:Str) != L j) = true from e2) (rwb (if_pos rfl) ?_));exact EvB.jax ⟨rfl,rfl⟩
 ·have et:Xy p.2 (some 1) none = num a.2:=by refine rwb ha ?_;exact Km a
  have hnp:=W6 (w:=a.2) (by lia) (by lia);refine EvE.tup<|EvL.cons<|EvE.J4 (Lf.loc C5 Has.self.ne) ⟨_,Zl,Kp.builtin,EvL.nil<|Cl.X6 hpp.1<|EvL.cons<|EvE.J7 (Lf.loc C5 Has.self) Lf.int<|Op2.X7 (by rfl) (by decide) (by decide) hc ?_⟩;refine EvL.cons<|EvE.call<|EvE.gu C5 (by rfl) hint PyProof.Rows.Boot.«int» (by decide) ⟨_,Kp.type,EvL.cons<|EvE.bg<|EvE.loc C5 Has.self<|EvP.some<|EvE.int ⟨1,rfl,EvP.none<|EvP.none<|Zx.str (by (refine rwb et (rwb sizeLine_eq ?_));lia)<|EvL.nil<|Cl.jde (i:=a.2) (by refine rwb et ?_;exact num_reads (by lia) (by lia)) (by refine rwb et ?_;lia)<|EvL.nil<|OpN.tuple ⟨?_,rfl⟩⟩⟩;unfold P2;(refine rwb et (rwb (num_reads (by lia) (by lia)) ?_));rfl
noncomputable def above (W:List Way) (i:Nat):Nat:=(W.map (·.1)).idxOf ((W.getD i ([],0)).1.dropLast)
noncomputable def Vu (W:List Way) (m:Nat) (s:List Int × List Int) (i:Nat):List Int × List Int:=
 (s.1.set (above W i) (s.1.getD (above W i) 0 * (s.1.getD i 0 + s.2.getD i 0)),
  s.2.set (above W i) (s.2.getD (above W i) 0 * (s.1.getD i 0 + s.2.getD i 0) + s.1.getD (above W i) 0 * (s.1.getD i 0 * (W.getD i ([],0)).2 * 2 ^ m)))
noncomputable def downs (n:Nat):List Nat:=(List.range (n - 1)).map fun j=>n - 1 - j
noncomputable def Zo (W:List Way) (m k:Nat):List Int × List Int:=((downs W.length).take k).foldl (Vu W m) (List.replicate W.length 1,List.replicate W.length 0)
noncomputable def Jbb (W:List Way) (m:Nat):Int:=(Zo W m (W.length - 1)).1.getD 0 0 + (Zo W m (W.length - 1)).2.getD 0 0
structure We (W:List Way):Prop where
 ne:0 < W.length
 len:W.length ≤ 15
 nd:(W.map (·.1)).Nodup
 inn:∀ p ∈ W,(∀ i ∈ p.1,i < 5) ∧ p.1.length ≤ 5 ∧ -1000 ≤ p.2 ∧ p.2 ≤ 999
 up:∀ i,0 < i→i < W.length→∃ q ∈ W.map (·.1),q = (W.getD i ([],0)).1.dropLast
theorem O5 (W:List Way) (m k:Nat):(Zo W m k).1.length = W.length ∧ (Zo W m k).2.length = W.length:=by
 unfold Zo;have:∀ (l:List Nat) (s:List Int × List Int),s.1.length = W.length ∧ s.2.length = W.length→(l.foldl (Vu W m) s).1.length = W.length ∧ (l.foldl (Vu W m) s).2.length = W.length:=by
  intro l
  induction l with
  | nil=>exact fun s h=>h
  | cons i l ih=>exact fun s h=>ih _ ⟨by unfold Vu;refine rwb length_set ?_;exact h.1,by unfold Vu;refine rwb length_set ?_;exact h.2⟩
 exact this _ _ ⟨length_replicate,length_replicate⟩
theorem Rb {n j:Nat} (h:j < n - 1):(downs n)[j]? = some (n - 1 - j):=by
 unfold downs;simp only [List.getElem?_map,List.getElem?_range h];rfl
theorem Kt {W:List Way} {m k:Nat} (h:k < W.length - 1):Zo W m (k + 1) = Vu W m (Zo W m k) (W.length - 1 - k):=by
 unfold Zo;simp only [take_add_one,Rb h,foldl_append];rfl
theorem Ab (W:List Way) {m:Nat} (hw:∀ p ∈ W,-1000 ≤ p.2 ∧ p.2 ≤ 999):∀ k,k ≤ W.length - 1→∀ x,(x ∈ (Zo W m k).1 ∨ x ∈ (Zo W m k).2)→x.natAbs < 2 ^ (2 ^ k * (m + 14) - (m + 13)):=by
 revert hw;revert W m;refine no_implicit_lambda% (G2 (h:=?_));refine (?_:A2 _) _ _;intro W m hw;intro zs
 induction zs with
 | zero=>
  intro Z x hx;have hx:x = 1 ∨ x = 0:=by
   refine Or.elim hx (fun hx=>?_) fun hx=>?_
   ·exact .inl (eq_of_mem_replicate hx)
   ·exact .inr (eq_of_mem_replicate hx)
  have:2 ^ 0 * (m + 14) - (m + 13) = 1:=by simp only [Nat.pow_zero,Nat.one_mul];lia
  refine rwb this ?_
  rcases hx with rfl | rfl <;> decide
 | succ k IH=>
  intro hk x hx;have ih:=IH (by lia);refine el11 (⟨_,rfl⟩:∃ B,B = 2 ^ k * (m + 14) - (m + 13)) fun B hB=>?_;replace ih:=Eq.symm hB ▸ ih;have hp:=Nat.two_pow_pos k;have hmul:m + 14 ≤ 2 ^ k * (m + 14):=Nat.le_mul_of_pos_left _ hp;have hB2:2 ^ (k + 1) * (m + 14) - (m + 13) = 2 * B + m + 13:=by
   (simp only [Nat.pow_succ];rw [Nat.mul_assoc,Nat.mul_comm 2,← Nat.mul_assoc]);omega
  refine rwb hB2 ?_;have get:∀ (l:List Int),(∀ y ∈ l,y.natAbs < 2 ^ B)→∀ i,(l.getD i 0).natAbs < 2 ^ B:=fun l hl i=>by
   refine rwb (List.getD_eq_getElem?_getD) ?_;cases e:l[i]? with
   | none=>exact Nat.two_pow_pos _
   | some y=>exact hl y (List.mem_of_getElem? e)
  have g1:=get _ fun y hy=>ih y (.inl hy);have g2:=get _ fun y hy=>ih y (.inr hy);have hw1:∀ i,(W.getD i ([],0)).2.natAbs ≤ 2 ^ 10:=fun i=>by
   refine rwb (List.getD_eq_getElem?_getD) ?_;cases e:W[i]? with
   | none=>decide
   | some y=>have:=hw y (List.mem_of_getElem? e);show y.2.natAbs ≤ _;omega
  rw [Kt (by lia)] at hx;obtain ⟨i,hi⟩:∃ i,i = W.length - 1 - k:=⟨_,rfl⟩;rw [← hi] at hx;have mono:2 ^ B ≤ 2 ^ (2 * B + m + 13):=pow_le_pow_right (by decide) (by lia);have whole:((Zo W m k).1.getD i 0 + (Zo W m k).2.getD i 0).natAbs < 2 ^ (B + 1):=by
   have:=g1 i;have:=g2 i;simp only [Nat.pow_succ];omega
  have f1:∀ a,((Zo W m k).1.getD a 0 * ((Zo W m k).1.getD i 0 + (Zo W m k).2.getD i 0)).natAbs < 2 ^ (2 * B + 1):=fun a=>by
   simp only [Int.natAbs_mul,show 2 * B + 1 = B + (B + 1) by omega,Nat.pow_add];exact Nat.mul_lt_mul'' (g1 a) whole
  have f2:∀ a,((Zo W m k).2.getD a 0 * ((Zo W m k).1.getD i 0 + (Zo W m k).2.getD i 0)).natAbs < 2 ^ (2 * B + 1):=fun a=>by
   simp only [Int.natAbs_mul,show 2 * B + 1 = B + (B + 1) by omega,Nat.pow_add];exact Nat.mul_lt_mul'' (g2 a) whole
  have f3:∀ a,((Zo W m k).1.getD a 0 * ((Zo W m k).1.getD i 0 * (W.getD i ([],0)).2 * 2 ^ m)).natAbs < 2 ^ (2 * B + m + 10):=fun a=>by
   simp only [Int.natAbs_mul,Int.natAbs_mul,Int.natAbs_mul,show 2 * B + m + 10 = B + (B + 10 + m) by lia,Nat.pow_add,Nat.pow_add,Nat.pow_add];refine Nat.mul_lt_mul'' (g1 a) ?_;have h2m:((2:Int) ^ m).natAbs = 2 ^ m:=by rw [Int.natAbs_pow];rfl
   simp only [h2m];exact Nat.mul_lt_mul_of_pos_right (Nat.lt_of_le_of_lt (Nat.mul_le_mul_left _ (hw1 i)) (Nat.mul_lt_mul_of_pos_right (g1 i) (by decide))) (Nat.two_pow_pos m)
  rcases hx with hx | hx
  ·unfold Vu at hx
   rcases mem_or_eq_of_mem_set hx with hx | rfl
   ·exact Nat.lt_of_lt_of_le (ih x (.inl hx)) mono
   ·exact Nat.lt_of_lt_of_le (f1 _) (pow_le_pow_right (by decide) (by lia))
  ·unfold Vu at hx
   rcases mem_or_eq_of_mem_set hx with hx | rfl
   ·exact Nat.lt_of_lt_of_le (ih x (.inr hx)) mono
   ·have h2:=f2 (above W i);have h3:=f3 (above W i);have a1:2 ^ (2 * B + 1) ≤ 2 ^ (2 * B + m + 12):=pow_le_pow_right (by decide) (by lia);have a2:2 ^ (2 * B + m + 10) ≤ 2 ^ (2 * B + m + 12):=pow_le_pow_right (by decide) (by lia);refine rwb (show 2 * B + m + 13 = 2 * B + m + 12 + 1 by lia) ?_;rw [Nat.pow_succ];have:=Int.natAbs_add_le ((Zo W m k).2.getD (above W i) 0 * ((Zo W m k).1.getD i 0 + (Zo W m k).2.getD i 0)) ((Zo W m k).1.getD (above W i) 0 * ((Zo W m k).1.getD i 0 * (W.getD i ([],0)).2 * 2 ^ m));omega
theorem L4 {W:List Way} (h:We W) {i:Nat} (h0:0 < i) (h1:i < W.length):above W i < W.length ∧ (W.map fun p=>Jf p.1)[above W i]? = some (Jf (W.getD i ([],0)).1.dropLast) ∧ ∀ j,j < above W i→(W.map fun p=>Jf p.1)[j]? ≠ some (Jf (W.getD i ([],0)).1.dropLast):=by
 revert h h0 h1;revert W i;refine no_implicit_lambda% (G2 (h:=?_));refine (?_:A2 _) _ _;intro W i h h0 h1;refine el12 (h.up i h0 h1) fun q hq e=>?_;replace hq:=e ▸ hq;have hlt:above W i < (W.map (·.1)).length:=List.idxOf_lt_length_of_mem hq;have hg:(W.map (·.1))[above W i]? = some (W.getD i ([],0)).1.dropLast:=by
  refine rwb (List.getElem?_eq_getElem hlt) ?_;exact congrArg some (List.getElem_idxOf hlt)
 have hl:above W i < W.length:=by rwa [length_map] at hlt
 have em:(W.map fun p=>Jf p.1) = (W.map (·.1)).map Jf:=by refine rwb map_map ?_;rfl
 refine ⟨hl,by (refine rwb em (rwb (List.getElem?_map) (rwb hg ?_)));rfl,fun j hj q=>?_⟩;(replace q:=em ▸ q;replace q:=ts (List.getElem?_map) q);refine el12 (map_eq_some_iff.mp q) fun v hv e2=>?_;replace hv:=(Y6 e2) ▸ hv;refine el11 (lG hv) fun r1 r2=>?_;refine el11 (lG hg) fun r3 r4=>?_;exact List.pairwise_iff_getElem.mp h.nd j _ r1 r3 hj (r2.trans r4.symm)
theorem Tu {W:List Way} (h:We W) {p:Way} (hp:p ∈ W):Ta (W.map Zz) (upS (Jf p.1)) = some (num p.2):=by
 revert h hp;revert W p;refine no_implicit_lambda% (G2 (h:=?_));refine (?_:A2 _) _ _;intro W p h hp;have hpi:=h.inn p hp;unfold Ta;refine rwb (List.find?_map) ?_;rw [Option.map_map];have e:W.find? ((fun q:Str × Str=>Yi q.1 (upS (Jf p.1))) ∘ Zz) = some p:=by
  have nd:=h.nd;have inn:=h.inn;clear h
  induction W with
  | nil=>contradiction
  | cons a W ih=>
   (replace nd:=map_cons ▸ nd;rw [nodup_cons] at nd);have ha:=inn a (.head _);have hc:((fun q:Str × Str=>Yi q.1 (upS (Jf p.1))) ∘ Zz) a = (Jf a.1 == Jf p.1):=by
    show Yi (Jf a.1) (upS (Jf p.1)) = _;unfold Yi;refine rwb (Ut ha.1) ?_;exact rwb (Z1 hpi.1) rfl
   refine rwb (List.find?_cons) (rwb hc ?_)
   rcases lC hp with rfl | hp
   ·rw [beq_self_eq_true]
   ·have:(Jf a.1 == Jf p.1) = false:=by
     rw [beq_eq_false_iff_ne];intro e;exact nd.1 (Y6 e ▸ mem_map_of_mem hp)
    refine rwb this ?_;exact ih hp nd.2 fun q hq=>inn q (.tail _ hq)
 refine rwb e ?_;rfl
theorem We.je9 {W:List Way} (h:We W):PrV (W.map Zz):=fun q hq=>by
 refine el12 (lM hq) fun p hp z2=>?_;subst z2;have:=h.inn p hp;exact ⟨Yt this.1 (by lia),(W6 (by lia) (by lia)).1⟩
theorem M7 (X:XB B) {l:Addr}:Ji B H (.hdr l) "keys" (.ref 232):=Ji.hdr X.k (by rfl) (by rfl) (by rfl) (by decide)
theorem Ej (X:XB B):Jm B 339 (bodyOf 34) (Jh 34) ["tree", "width"] []:=Jm.of X (by rfl) rfl rfl rfl rfl rfl (by rfl) (all2 fun a b=>rfl)
theorem Qh {l:List Int} {i:Nat} (h:i < l.length):(l.map D.int)[i]? = some (.int (l.getD i 0)):=by
 (refine rwb (List.getElem?_map) (rwb (List.getD_eq_getElem?_getD) (rwb (List.getElem?_eq_getElem h) ?_)));rfl
theorem Jcw (X:XB B) {W:List Way} (hW:We W) {m:Nat} (hm:m ≤ 3000) {l:Addr} (hl:(l,tab (W.map Zz)) ∈ H):Fn0 B (n + 5) (.ref 339) [.hdr l,.int m] H (Is (.int (Jbb W m)) H):=by
 revert X hW hm hl;revert B H n W m l;refine no_implicit_lambda% (G6 (h:=?_));refine (?_:A6 _) _ _ _ _ _ _;intro B H n W m l X hW hm hl;have hlen:=hW.len;have hne:=hW.ne;have hle:B.mg "len" = none:=mgN X (by rfl);have hra:B.mg "range" = none:=mgN X (by rfl);have hint:B.mg "int" = none:=mgN X (by rfl);have hprv:=hW.je9;refine Fn0.drop ?_;refine (Ej X).Pm (n:=n + 4) (by rfl) (by rfl) (by rfl) rfl (no_implicit_lambda% (G2 (h:=?_)));refine (?_:A2 _) _ _;intro A' fm hh C;refine Ss.assign C<|EvE.J4 (Lf.loc C (by rfl)) ⟨_,M7 X,Kp.xl (O0 X),EvL.nil<|Fn.is C (E1 (n:=n) X hl (by rw [length_map];lia)) (by lia) ?_⟩;have enm:((W.map Zz).map fun p=>D.str p.1) = W.map fun p=>D.str (Jf p.1):=by refine rwb map_map ?_;rfl
 refine rwb enm ?_;refine Ss.cons<|S1.iy C ?_;refine EvE.bin<|EvE.lst<|EvL.int<|EvL.nil<|OpN.list<|EvE.call<|EvE.gu C (by rfl) hle (by rfl) (by decide) ⟨_,Kp.builtin,EvL.loc C Has.self<|EvL.nil<|Cl.sx (by rw [length_map];lia)<|Op2.jb2 (by lia) (by rw [length_map];lia) fun bf hbf=>?_⟩;refine EvE.bin<|EvE.lst<|EvL.int<|EvL.nil<|OpN.list<|EvE.call<|EvE.gu C (by rfl) hle (by rfl) (by decide) ⟨_,Kp.builtin,EvL.loc C Has.self<|EvL.nil<|Cl.sx (by rw [length_map];lia)<|Op2.jb2 (by lia) (by rw [length_map];lia) fun bh hbh=>?_⟩;rw [length_map,toNat_natCast];refine Ss.cons<|S1.for (fun ds k ρ1 H1=>H1 = (bh,(Zo W m k).2.map D.int) :: (bf,(Zo W m k).1.map D.int) :: H ∧ Has ρ1 "names" (.lst (W.map fun p=>D.str (Jf p.1))) ∧ Has ρ1 "free" (.ref bf) ∧ Has ρ1 "held" (.ref bh) ∧ Has ρ1 "tree" (.hdr l) ∧ Has ρ1 "width" (.int m)) C ?_;refine EvE.call<|EvE.gu C (by rfl) hra PyProof.Rows.Boot.«range» (by decide) ⟨_,Kp.type,EvL.cons<|EvE.bin<|EvE.call<|EvE.gu C (by rfl) hle (by rfl) (by decide) ⟨_,Kp.builtin,EvL.loc C (by rfl)<|EvL.nil<|Cl.sx (by rw [length_map];lia)<|EvE.int<|Op2.sub<|EvL.int<|EvL.cons<|EvE.un<|EvE.int<|Op1.neg<|EvL.nil<|Cl.jda (by decide) (Ku (by decide)) fun ra ta ua va=>?_⟩⟩;rw [length_map];refine ⟨_,_,Jn.jdi (k:=W.length - 1) hh (small_down (by lia) (by lia) (by decide) (by decide)) (by rw [rangeSize_downNat];lia),⟨?_,by rfl,by rfl,by rfl,by rfl,by rfl⟩,?_,?_⟩
 ·unfold Zo;rw [take_zero,List.foldl_nil,map_replicate,map_replicate]
 ·refine fun fm' k d' ρ1 H1 C' hd' zz=>Jdr zz fun z0 h1 h2 h3 h4 h5=>?_;subst z0;have hk:k < W.length - 1:=by
   have:=(lG hd').1;rw [length_map,length_range] at this;exact this
  rw [List.getElem?_map,List.getElem?_range hk] at hd';refine el11 (⟨_,rfl⟩:∃ i,i = W.length - 1 - k) fun i hi=>?_;have ed:d' = .int (i:Int):=by
   have:some (D.int ((W.length:Int) - 1 + (k:Int) * -1)) = some d':=hd';injection this with this
   refine rwf this ?_;congr 1;lia
  subst ed;have hi0:0 < i:=by lia
  have hi1:i < W.length:=by lia
  refine V5 (L4 hW hi0 hi1) fun a1 a2 a3=>?_;have rl:=O5 W m k;have rb:=Ab W (m:=m) (fun p hp=>(hW.inn p hp).2.2) k (by lia);have hpk:2 ^ k * (m + 14) ≤ 2 ^ 13 * 3014:=Nat.mul_le_mul (pow_le_pow_right (by decide) (by lia)) (by lia);refine el11 (⟨_,rfl⟩:∃ Bd,Bd = 2 ^ k * (m + 14) - (m + 13)) fun Bd hBd=>?_;replace rb:=Eq.symm hBd ▸ rb;have hBK:Bd ≤ 24690688:=by
   have:2 ^ 13 * 3014 = 24690688:=by decide
   lia
  rw [Kt hk,← hi];unfold Vu;generalize (Zo W m k).1 = fr at rl rb ⊢;generalize (Zo W m k).2 = he at rl rb ⊢;generalize above W i = a at a1 a2 a3 ⊢;have b1:∀ j,(fr.getD j 0).natAbs < 2 ^ Bd:=fun j=>by
   refine rwb (List.getD_eq_getElem?_getD) ?_;cases e:fr[j]? with
   | none=>exact Nat.two_pow_pos _
   | some y=>exact rb y (.inl (List.mem_of_getElem? e))
  have b2:∀ j,(he.getD j 0).natAbs < 2 ^ Bd:=fun j=>by
   refine rwb (List.getD_eq_getElem?_getD) ?_;cases e:he[j]? with
   | none=>exact Nat.two_pow_pos _
   | some y=>exact rb y (.inr (List.mem_of_getElem? e))
  refine el11 (⟨_,List.getElem?_eq_getElem hi1⟩:∃ p,W[i]? = some p) fun p hp=>?_;have hpg:W.getD i ([],0) = p:=by rw [List.getD_eq_getElem?_getD,hp];rfl
  rw [hpg] at a2 a3 ⊢;have hpm:=List.mem_of_getElem? hp;have hpi:=hW.inn p hpm;have hnm:(W.map fun p=>D.str (Jf p.1))[((i:Int)).toNat]? = some (.str (Jf p.1)):=by rw [toNat_natCast,List.getElem?_map,hp];rfl
  have gfi:=Qh (l:=fr) (i:=i) (by lia);have gfa:=Qh (l:=fr) (i:=a) (by lia);have ghi:=Qh (l:=he) (i:=i) (by lia);have gha:=Qh (l:=he) (i:=a) (by lia);have wb:(fr.getD i 0 + he.getD i 0).natAbs < 2 ^ (Bd + 1):=by
   have:=b1 i;have:=b2 i;have:=Int.natAbs_add_le (fr.getD i 0) (he.getD i 0);rw [Nat.pow_succ];lia
  have lb0:(fr.getD i 0 * p.2).natAbs < 2 ^ (Bd + 10):=by
   rw [Int.natAbs_mul,Nat.pow_add];exact Nat.lt_of_le_of_lt (Nat.mul_le_mul_left _ (show p.2.natAbs ≤ 2 ^ 10 by lia)) (Nat.mul_lt_mul_of_pos_right (b1 i) (by decide))
  have lb1:(fr.getD i 0 * p.2 * 2 ^ m).natAbs < 2 ^ (Bd + 10 + m):=by
   rw [Int.natAbs_mul,Nat.pow_add,show ((2:Int) ^ m).natAbs = 2 ^ m by rw [Int.natAbs_pow];rfl];exact Nat.mul_lt_mul_of_pos_right lb0 (Nat.two_pow_pos m)
  refine Asg.name C' ?_;refine Ss.assign C'<|EvE.jq C' X (Wn X)<|EvL.loc C' h1.ne<|EvL.cons<|EvE.bg<|EvE.J7 (Lf.loc C' h1.ne) (Lf.loc C' Has.self)<|Op2.X8 rfl (by lia) (by lia) hnm<|EvP.none<|EvP.some<|EvE.un<|EvE.int<|Op1.neg ⟨-1,rfl,EvP.none<|Zx.str ?_ ?_⟩
  ·rw [Vv,Zu,sizeLine_eq,length_dropLast];lia
  rw [Vv];refine EvL.nil<|Fn0.is C' hh (Ci (n:=n) (ys:=W.map fun p=>Jf p.1) X (.inr (by refine rwb map_map ?_;rfl)) a2 a3) (by lia) ?_;refine Ss.assign C'<|EvE.jq C' X (W0 X)<|EvL.cons<|EvE.J7 (Lf.loc C' h2.ne.ne) (Lf.loc C' Has.self.ne)<|Op2.iz rfl (.tail _ (.head _)) (by lia) (by lia) (by rw [toNat_natCast];exact gfi) ?_;refine EvL.cons<|EvE.J7 (Lf.loc C' h3.ne.ne) (Lf.loc C' Has.self.ne)<|Op2.iz rfl (.head _) (by lia) (by lia) (by rw [toNat_natCast];exact ghi)<|EvL.nil<|Fn.is C' (K0 (n:=n) X) (by lia) ?_;refine Ss.assign C'<|EvE.jq C' X (Wz X)<|EvL.cons<|EvE.jq C' X (Wy X)<|EvL.cons<|EvE.J7 (Lf.loc C' h2.ne.ne.ne) (Lf.loc C' Has.self.ne.ne)<|Op2.iz rfl (.tail _ (.head _)) (by lia) (by lia) (by rw [toNat_natCast];exact gfi) ?_;refine EvL.cons<|EvE.call<|EvE.gu C' (by rfl) hint PyProof.Rows.Boot.«int» (by decide) ⟨_,Kp.type,EvL.cons<|EvE.J4 (Lf.loc C' h4.ne.ne.ne) ⟨_,Li X,Kp.xl (Oe X),EvL.cons<|EvE.ij<|EvE.J7 (Lf.loc C' h1.ne.ne.ne) (Lf.loc C' Has.self.ne.ne)<|Op2.X8 rfl (by lia) (by lia) hnm ⟨_,Y4,Kp.builtin,EvL.nil<|Cl.xg (Yt hpi.1 (by lia)) ?_⟩⟩⟩;refine EvL.nil<|Fn.is C' (fn_get (n:=n) X (.tail _ (.tail _ hl)) (Yt hpi.1 (by lia)).up fun q hq=>(hprv q hq).1) (by lia) ?_;refine rwb (Tu hW hpm) ?_;refine EvL.nil<|Cl.jde (i:=p.2) (num_reads (by lia) (by lia)) (by have:=(W6 (w:=p.2) (by lia) (by lia)).2.1;lia)<|EvL.nil<|Fn.is C' (Ky (n:=n) X (IntMulOk.of_right (Gf hpi.2.2.1 hpi.2.2.2))) (by lia) ?_
  refine EvL.loc C' h5.ne.ne.ne<|EvL.nil<|Fn.is C' (Kz (n:=n) X (by lia) (by have:=bits_le lb0;lia)) (by lia) ?_;rw [toNat_natCast];refine Ss.cons<|S1.expr<|EvE.jq C' X (Xt X)<|EvL.loc C' h3.ne.ne.ne.ne<|EvL.loc C' Has.self.ne.ne<|EvL.cons<|EvE.jq C' X (W0 X)<|EvL.cons<|EvE.jq C' X (Wy X)<|EvL.cons<|EvE.J7 (Lf.loc C' h3.ne.ne.ne.ne) (Lf.loc C' Has.self.ne.ne)<|Op2.iz rfl (.head _) (by lia) (by lia) (by rw [toNat_natCast];exact gha) ?_;refine EvL.loc C' Has.self.ne<|EvL.nil<|Fn.is C' (Ky (n:=n) X (IntMulOk.of_le (bits_le (b2 a)) (bits_le wb) (by lia))) (by lia) ?_;refine EvL.cons<|EvE.jq C' X (Wy X)<|EvL.cons<|EvE.jq C' X (Il X)<|EvL.loc C' h2.ne.ne.ne.ne<|EvL.loc C' Has.self.ne.ne<|EvL.nil<|Fn.is C' (Sb (n:=n) X (.tail _ (.head _)) (by lia) (by lia) (by rw [toNat_natCast];exact gfa)) (by lia) ?_;refine EvL.loc C' Has.self<|EvL.nil<|Fn.is C' (Ky (n:=n) X (IntMulOk.of_le (bits_le (b1 a)) (bits_le lb1) (by lia))) (by lia)<|EvL.nil<|Fn.is C' (K0 (n:=n) X) (by lia) ?_;refine EvL.nil<|Fn.op C' ((Lo (n:=n) X (k:=(a:Int)) .head (by lia) (by rw [length_map];lia) (by rw [length_map];lia)).mono ?_) (by lia);rintro d H1 ⟨rfl,rfl⟩;refine Ss.cons<|S1.expr<|EvE.jq C' X (Xt X)<|EvL.loc C' h2.ne.ne.ne.ne<|EvL.loc C' Has.self.ne.ne<|EvL.cons<|EvE.jq C' X (Wy X)<|EvL.cons<|EvE.J7 (Lf.loc C' h2.ne.ne.ne.ne) (Lf.loc C' Has.self.ne.ne)<|Op2.iz rfl (.tail _ (.head _)) (by lia) (by lia) (by rw [toNat_natCast];exact gfa) ?_
  refine EvL.loc C' Has.self.ne<|EvL.nil<|Fn.is C' (Ky (n:=n) X (IntMulOk.of_le (bits_le (b1 a)) (bits_le wb) (by lia))) (by lia) ?_;refine EvL.nil<|Fn.op C' ((Lo (n:=n) X (k:=(a:Int)) (.tail .head) (by lia) (by rw [length_map];lia) (by rw [length_map];lia)).mono ?_) (by lia);rintro d H1 ⟨rfl,rfl⟩;refine Ss.nil ⟨?_,h1.ne.ne.ne.ne,h2.ne.ne.ne.ne,h3.ne.ne.ne.ne,h4.ne.ne.ne.ne,h5.ne.ne.ne.ne⟩;rw [toNat_natCast,map_set,map_set]
 ·refine fun ρ1 H1 zz=>Jdr zz fun z0 h1 h2 h3 h4 h5=>?_;subst z0;rw [length_map,length_range] at *;have rl:=O5 W m (W.length - 1);refine Ss.nil<|Ss.ret<|EvE.jq C X (W0 X)<|EvL.cons<|EvE.J7 (Lf.loc C h2) Lf.int<|Op2.iz rfl (.tail _ (.head _)) (by decide) (by decide) (Qh (by lia)) ?_;refine EvL.cons<|EvE.J7 (Lf.loc C h3) Lf.int<|Op2.iz rfl (.head _) (by decide) (by decide) (Qh (by lia))<|EvL.nil<|Fn.is C (K0 (n:=n) X) (by lia) ⟨H,.cons _ (.cons _ (List.Sublist.refl _)),rfl,rfl⟩
noncomputable def D9 (t:Tie):Lnk:=(L t.1,L t.2.1,t.2.2)
theorem Oc (T:List Tie):T.map Zg = (T.map D9).map I4:=by refine rwb map_map ?_;rfl
noncomputable def Gk (m:Nat) (T:List Tie):Int:=valOf m (pairF (T.map D9))
theorem Qe {T:List Tie} (h:∀ t ∈ T,Yj t):∀ l ∈ T.map D9,Qt l:=fun l hl=>by
 refine el12 (lM hl) fun t ht z2=>?_;subst z2;have:=h t ht;exact ⟨(Wt this.1).strOk,(Wt this.2.1).strOk,this.2.2⟩
noncomputable def Zh (T:List Tie) (w:List Nat):List Tie:=T.filter fun t=>!w.contains t.1 && !w.contains t.2.1
noncomputable def Mg (W:List Way) (v:List Nat):Int:=(W.find? fun p=>p.1 == v).elim 0 (·.2)
noncomputable def Z0 (W:List Way) (T:List Tie) (m:Nat) (w:List Nat) (k:Nat):Int:=((List.range k).map (2 + ·)).foldl (fun s j=>s * -(Mg W (w.take j)) * 2 ^ m) (Gk m (Zh T w) ^ 2)
noncomputable def Wu (W:List Way) (T:List Tie) (m:Nat) (V:List (List Nat)):Int:=V.foldl (fun s w=>s + Z0 W T m w (w.length - 1)) 0
theorem Uh {W:List Way} (h:(W.map (·.1)).Nodup) {p:Way} (hp:p ∈ W):Mg W p.1 = p.2:=by
 unfold Mg;have e:W.find? (fun q=>q.1 == p.1) = some p:=by
  induction W with
  | nil=>contradiction
  | cons a W ih=>
   (replace h:=map_cons ▸ h;rw [nodup_cons] at h);refine rwb (List.find?_cons) ?_
   rcases lC hp with rfl | hp
   ·rw [beq_self_eq_true]
   ·have:(a.1 == p.1) = false:=by
     rw [beq_eq_false_iff_ne];intro e;exact h.1 (e ▸ mem_map_of_mem hp)
    refine rwb this ?_;exact ih h.2 hp
 refine rwb e ?_;rfl
theorem Xx (W:List Way) (T:List Tie) (m:Nat) (w:List Nat) (k:Nat):Z0 W T m w (k + 1) = Z0 W T m w k * -(Mg W (w.take (2 + k))) * 2 ^ m:=by
 unfold Z0;(refine rwb range_succ (rwb map_append (rwb foldl_append ?_)));rfl
theorem D5 {T:List Tie} (h:∀ t ∈ T,Yj t) (hz:T.length ≤ 6) {m:Nat} (hm0:0 < m) (hm:m ≤ 3000):intBits (Gk m T) ≤ 22000:=by
 have h1:=Gb (n:=m) hm0 (Gj (Qe h) (by rw [length_map];lia));rw [Zp,length_map] at h1;have:m * (T.length + 1) ≤ 3000 * 7:=Nat.mul_le_mul hm (by lia);exact le_trans h1 (by lia)
theorem bits_mul_le {a b:Int} {m n:Nat} (ha:intBits a ≤ m) (hb:intBits b ≤ n):intBits (a * b) ≤ m + n:=by
 refine bits_le ?_;rw [Int.natAbs_mul,Nat.pow_add];have h1:=Ze (a:=a);have h2:=Ze (a:=b);have h3:2 ^ intBits a ≤ 2 ^ m:=pow_le_pow_right (by decide) ha;have h4:2 ^ intBits b ≤ 2 ^ n:=pow_le_pow_right (by decide) hb;exact Nat.mul_lt_mul'' (by lia) (by lia)
theorem Rk (m:Nat):intBits ((2:Int) ^ m) ≤ m + 1:=by
 refine bits_le ?_;rw [show ((2:Int) ^ m).natAbs = 2 ^ m by rw [Int.natAbs_pow];rfl];exact Nat.pow_lt_pow_right (by decide) (by lia)
theorem R3 {T:List Tie} (h:∀ t ∈ T,Yj t) (w:List Nat):∀ t ∈ Zh T w,Yj t:=fun t ht=>h t (lF ht).1
theorem O6 (T:List Tie) (w:List Nat):(Zh T w).length ≤ T.length:=length_filter_le _ _
structure Jac (W:List Way) (w:List Nat):Prop where
 ne:w ≠ []
 lt:∀ i ∈ w,i < 5
 len:w.length ≤ 5
 pre:∀ k,2 ≤ k→k ≤ w.length→∃ p ∈ W,p.1 = w.take k
theorem Nq {W:List Way} (hW:We W) {T:List Tie} (h:∀ t ∈ T,Yj t) (hz:T.length ≤ 6) {m:Nat} (hm0:0 < m) (hm:m ≤ 3000) {w:List Nat} (hw:Jac W w):∀ k,k ≤ w.length - 1→intBits (Z0 W T m w k) ≤ 44000 + k * 4000:=by
 intro zs
 induction zs with
 | zero=>
  intro Z;have h1:=D5 (R3 h w) (le_trans (O6 T w) hz) hm0 hm;show intBits (Gk m (Zh T w) ^ 2) ≤ _;rw [show Gk m (Zh T w) ^ 2 = Gk m (Zh T w) * Gk m (Zh T w) by rw [Int.pow_succ,Int.pow_succ,Int.pow_zero,Int.one_mul]];exact le_trans (bits_mul_le h1 h1) (by lia)
 | succ k IH=>
  intro hk;rw [Xx];refine el12 (hw.pre (2 + k) (by lia) (by lia)) fun p hp e=>?_;refine rwf e ?_;rw [Uh hW.nd hp];have hpi:=hW.inn p hp;have h1:=IH (by lia);have h2:intBits (-p.2) ≤ 64:=by rw [bits_neg];exact Gf hpi.2.2.1 hpi.2.2.2
  have h3:=bits_mul_le (bits_mul_le h1 h2) (Rk m);lia
theorem M1 (X:XB B):Jm B 361 (bodyOf 38) (Jh 38) ["tree", "ties", "ways", "width"] []:=Jm.of X (by rfl) rfl rfl rfl rfl rfl (by rfl) (Jdt fun a b c d=>rfl)
theorem Hg (X:XB B) {W:List Way} (hW:We W) {T:List Tie} (hT:∀ t ∈ T,Yj t) (hz:T.length ≤ 6) {m:Nat} (hm0:0 < m) (hm:m ≤ 3000) {V:List (List Nat)} (hV:∀ w ∈ V,Jac W w) {l:Addr} (hl:(l,tab (W.map Zz)) ∈ H) :
  Fn0 B (n + 22) (.ref 361) [.hdr l,.lst (T.map Zg),.lst (V.map fun w=>.str (Jf w)),.int m] H (Is (.int (Wu W T m V)) H):=by
 revert X hW hT hz hm0 hm hV hl;revert B H n W T m V l;refine no_implicit_lambda% (G8 (h:=?_));refine (?_:A8 _) _ _ _ _ _ _ _ _;intro B H n W T m V l X hW hT hz hm0 hm hV hl;have hle:B.mg "len" = none:=mgN X (by rfl);have hra:B.mg "range" = none:=mgN X (by rfl);have hint:B.mg "int" = none:=mgN X (by rfl);have hprv:=hW.je9;refine (M1 X).Pm (n:=n + 21) (by rfl) (by rfl) (by rfl) rfl (no_implicit_lambda% (G2 (h:=?_)));refine (?_:A2 _) _ _;intro A' fm hh C;refine Ss.assign C<|EvE.int ?_;refine Ss.cons<|S1.for (fun ds k ρ1 H1=>H1 = H ∧ Has ρ1 "tree" (.hdr l) ∧ Has ρ1 "ties" (.lst (T.map Zg)) ∧ Has ρ1 "width" (.int m) ∧ Has ρ1 "total" (.int (Wu W T m (V.take k)))) C ?_;refine EvE.loc C (by rfl) ⟨_,_,Jn.lst,⟨rfl,by rfl,by rfl,by rfl,by rfl⟩,?_,?_⟩
 ·refine no_implicit_lambda% (G5 (h:=?_));refine (?_:A5 _) _ _ _ _ _;refine fun fm' k d' ρ1 H1 C' hd' zz=>Jcy zz fun z0 h1 h2 h3 h4=>?_;subst z0;replace hd':=ts (List.getElem?_map) hd';refine el12 (map_eq_some_iff.mp hd') fun w hw z2=>?_;subst z2;have hwt:=hV w (List.mem_of_getElem? hw);have hlw:=List.length_pos_iff.mpr hwt.ne;have hwl:=hwt.len;have hsb:=Nq hW hT hz hm0 hm hwt;refine Asg.name C' ?_;refine Ss.assign C'<|EvE.bin<|EvE.jq C' X (Ge X)<|EvL.cons<|EvE.Ql (l:=T) (f:=Zg) (t:=fun t=>!w.contains t.1 && !w.contains t.2.1) (g:=Zg) C' Wj (by rfl)<|EvE.loc C' h2.ne ⟨[],_,Jn.lst,List.Perm.refl _,by lia,?_,?_⟩
  ·intro t ht D' fm2 out C2;refine Asg.name C2 ⟨rfl,kpp kp0,fun fm5 out5 C5=>⟨?_,fun Z=>EvE.loc C5 Has.self ⟨rfl,rfl⟩⟩⟩;refine EvB.and<|EvB.cmp<|EvE.J7 (Lf.loc C5 Has.self) Lf.int<|Op2.Qv (j:=0) rfl (by decide) (by decide) (by rfl) (by rfl)<|EvE.Vl C5 (Has.ne (J2 Has.self (by rfl)))<|Op2.jaq ⟨_,rfl,?_⟩;rw [Vh];cases e1:w.contains t.1
   ·refine rwb Bool.not_false (rwb (if_pos rfl) ?_);refine EvB.and<|EvB.cmp<|EvE.J7 (Lf.loc C5 Has.self) Lf.int<|Op2.Qv (j:=1) rfl (by decide) (by decide) (by rfl) (by rfl)<|EvE.Vl C5 (Has.ne (J2 Has.self (by rfl)))<|Op2.jaq ⟨_,rfl,?_⟩;rw [Vh];cases e2:w.contains t.2.1
    ·(refine rwb Bool.not_false (rwb (if_pos rfl) ?_));exact EvB.jax ⟨rfl,rfl⟩
    ·(refine rwb Bool.not_true (rwb (if_neg (by decide)) ?_));exact ⟨rfl,rfl⟩
   ·(refine rwb Bool.not_true (rwb (if_neg (by decide)) ?_));exact ⟨rfl,rfl⟩
  ·refine rwb (show T.filter (fun t=>!w.contains t.1 && !w.contains t.2.1) = Zh T w from rfl) ?_;rw [Oc];have hrl:=O6 T w;have hri:=R3 hT w;have hnb:=D5 hri (le_trans hrl hz) hm0 hm;refine EvL.loc C' h3.ne<|EvL.nil<|Fn0.is C' hh (Qi (n:=n) X (Qe hri) (by rw [length_map];lia) hm0 (by lia)) (by lia)<|EvE.int<|Op2.pow (by decide) (by refine rwb (show valOf m (pairF ((Zh T w).map D9)) = Gk m (Zh T w) from rfl) ?_;lia) ?_;have e0:valOf m (pairF ((Zh T w).map D9)) ^ (2:Int).toNat = Z0 W T m w 0:=rfl;refine rwb e0 ?_;refine Ss.cons<|S1.for (fun ds j ρ2 H2=>H2 = H1 ∧ Has ρ2 "tree" (.hdr l) ∧ Has ρ2 "ties" (.lst (T.map Zg)) ∧ Has ρ2 "width" (.int m) ∧ Has ρ2 "total" (.int (Wu W T m (V.take k))) ∧ Has ρ2 "way" (.str (Jf w)) ∧ Has ρ2 "share" (.int (Z0 W T m w j))) C' ?_;refine EvE.call<|EvE.gu C' (by rfl) hra PyProof.Rows.Boot.«range» (by decide) ⟨_,Kp.type,EvL.int<|EvL.cons<|EvE.bin<|EvE.call<|EvE.gu C' (by rfl) hle (by rfl) (by decide) ⟨_,Kp.builtin,EvL.lf (Lf.Vl C' Has.self.ne)<|EvL.nil<|Cl.jff (by rw [Zu];lia)<|EvE.int<|Op2.add<|EvL.nil<|Cl.jan fun ra ta ua va=>?_⟩⟩;rw [Zu];have ei:((w.length:Int) + 1) = 2 + ((w.length - 1:Nat):Int):=by lia
   refine rwb ei ?_;refine ⟨_,_,Jn.jdi (k:=w.length - 1) hh (Dp (by decide) (by decide) (by lia)) (R2 _ _),⟨rfl,h1.ne.ne,h2.ne.ne,h3.ne.ne,h4.ne.ne,Has.self.ne,Has.self⟩,?_,?_⟩
   ·refine fun fm2 j d2 ρ2 H2 C2 hd2 zz=>Jdq zz fun z0 g1 g2 g3 g4 g5 g6=>?_;subst z0;have hj:j < w.length - 1:=by
     have:=(lG hd2).1;(rewrite [length_map] at this;replace this:=length_range ▸ this);exact this
    (replace hd2:=ts (List.getElem?_map) hd2;replace hd2:=(List.getElem?_range hj) ▸ hd2);have ed:d2 = .int ((2 + j:Nat):Int):=by
     have:some (D.int (2 + (j:Int) * 1)) = some d2:=hd2;injection this with this
     refine rwf this ?_;congr 1;lia
    subst ed;refine el12 (hwt.pre (2 + j) (by lia) (by lia)) fun p hp ep=>?_;have hpi:=hW.inn p hp;have hsbj:=hsb j (by lia);refine Asg.name C2 ?_;refine Ss.assign C2<|EvE.jq C2 X (Wz X)<|EvL.cons<|EvE.jq C2 X (Wy X)<|EvL.loc C2 g6.ne<|EvL.cons<|EvE.jq C2 X (R0 X)<|?_;refine EvL.cons<|EvE.call<|EvE.gu C2 (by rfl) hint PyProof.Rows.Boot.«int» (by decide) ⟨_,Kp.type,EvL.cons<|EvE.J4 (Lf.loc C2 g1.ne) ⟨_,Li X,Kp.xl (Oe X),EvL.cons<|EvE.ij<|EvE.bg<|EvE.Vl C2 g5.ne<|EvP.none<|EvP.some<|EvE.loc C2 Has.self ⟨_,rfl,EvP.none<|Zx.str ?_ ?_⟩⟩⟩
    ·(rewrite [Tv,Zu];refine rwb sizeLine_eq (rwb length_take ?_));lia
    rewrite [Tv];refine rwf ep ?_;refine ⟨_,Y4,Kp.builtin,EvL.nil<|Cl.xg (Yt hpi.1 (by lia))<|EvL.nil<|Fn.is C2 (fn_get (n:=n) X hl (Yt hpi.1 (by lia)).up fun q hq=>(hprv q hq).1) (by lia) ?_⟩;refine rwb (Tu hW hp) ?_;refine EvL.nil<|Cl.jde (i:=p.2) (num_reads (by lia) (by lia)) (by have:=(W6 (w:=p.2) (by lia) (by lia)).2.1;lia)<|EvL.nil<|Fn.is C2 (Hh (n:=n) X) (by lia) ?_;have hb2:intBits (-p.2) ≤ 64:=by rw [bits_neg];exact Gf hpi.2.2.1 hpi.2.2.2
    refine EvL.nil<|Fn.is C2 (Ky (n:=n) X (IntMulOk.of_right hb2)) (by lia) ?_;refine EvL.loc C2 g3.ne<|EvL.nil<|Fn.is C2 (Kz (n:=n) X (by lia) (by have:=bits_mul_le hsbj hb2;lia)) (by lia) ?_;refine Ss.nil ⟨rfl,g1.ne.ne,g2.ne.ne,g3.ne.ne,g4.ne.ne,g5.ne.ne,?_⟩;rewrite [Xx];refine rwf ep (rwb (Uh hW.nd hp) ?_);exact Has.self
   ·refine fun ρ2 H2 zz=>Jdq zz fun z0 g1 g2 g3 g4 g5 g6=>?_;subst z0;rewrite [length_map] at g6;replace g6:=length_range ▸ g6;refine Ss.nil<|Ss.assign C'<|EvE.jq C' X (W0 X)<|EvL.loc C' g4<|EvL.loc C' g6<|EvL.nil<|Fn.is C' (K0 (n:=n) X) (by lia) ?_;refine Ss.nil ⟨rfl,g1.ne,g2.ne,g3.ne,?_⟩;have:Wu W T m (V.take (k + 1)) = Wu W T m (V.take k) + Z0 W T m w (w.length - 1):=Ln (fun s w=>s + Z0 W T m w (w.length - 1)) 0 hw;refine rwb this ?_;exact Has.self
 ·refine no_implicit_lambda% (G2 (h:=?_));refine (?_:A2 _) _ _;refine fun ρ1 H1 zz=>Jcy zz fun z0 h1 h2 h3 h4=>?_;subst z0;rewrite [length_map] at h4;replace h4:=take_length ▸ h4;exact Ss.nil<|Ss.ret<|EvE.loc C h4 ⟨rfl,rfl⟩
end
end Mine.Tactic
end
section
namespace Mine.Tactic
theorem Bs (t:Tie) (j:Nat):Mw j t = nb1 j t:=by
 unfold Mw nb1 Uz
 by_cases h1:t.1 = j <;> by_cases h2:t.2.1 = j <;> simp [h1,h2]
theorem Ef (T:List Tie) (j:Nat):Jz T j = nb T j:=by
 unfold Jz nb
 congr 1
 funext t
 exact Bs t j
noncomputable def sc (X:Int) (t:Tie):Tie:=(t.1,t.2.1,t.2.2 * X)
theorem Fd (X:Int) (j:Nat):∀ T:List Tie,nb (T.map (sc X)) j = (nb T j).map fun c=>(c.1,c.2 * X):=by
 intro zs
 induction zs with
 | nil=>
  exact rfl
 | cons t T IH=>
  refine rwb map_cons ?_;rewrite [Us,Us];refine rwb IH (rwb map_append ?_)
  congr 1
  unfold nb1 sc
  by_cases h1:t.1 = j <;> by_cases h2:t.2.1 = j <;> simp [h1,h2]
theorem Qa {w:List Nat} (h:w ≠ []):w = w.dropLast ++ [Jb w]:=by
 unfold Jb;rw [List.getLastD_eq_getLast?,List.getLast?_eq_some_getLast h];exact (List.dropLast_concat_getLast h).symm
noncomputable def kids (E:List Tie) (w:List Nat):List (Nat × Int):=(nb E (Jb w)).filter fun c=>!w.contains c.1
noncomputable def tvw (E:List Tie):Nat→List Nat→Int × Int
 | 0,_=>(1,0)
 | f + 1,w=>Yo ((kids E w).map fun c=>br (tvw E f (w ++ [c.1])) c.2)
noncomputable def wh (E:List Tie) (f:Nat) (w:List Nat):Int:=(tvw E f w).1 + (tvw E f w).2
theorem Eb (E:List Tie) (f:Nat) (w:List Nat):(tvw E (f + 1) w).1 = Yx ((kids E w).map fun c=>wh E f (w ++ [c.1])):=by
 show (Yo _).1 = _;rw [Ar,map_map];rfl
theorem Kx {E:List Tie} (hE:∀ e ∈ E,e.1 ≠ e.2.1) {w:List Nat} (hw:w ≠ []) (hn:w.Nodup):kids E w = nb (keep (fun x=>!w.dropLast.contains x) E) (Jb w):=by
 have hs:=Qa hw;have hl:Jb w ∉ w.dropLast:=fun h=>by
  (replace hn:=hs ▸ hn;rw [nodup_append] at hn);exact hn.2.2 _ h _ (.head _) rfl
 rw [Oh (by simpa using hl)];unfold kids;refine filter_congr fun c hc=>?_;refine el12 (Nz hc) fun e he q=>?_;have hne:c.1 ≠ Jb w:=by
  have:=hE e he
  rcases q with ⟨q1,rfl⟩ | ⟨q1,rfl⟩
  ·exact fun z=>this (q1.trans z.symm)
  ·exact fun z=>this (z.trans q1.symm)
 have:w.contains c.1 = w.dropLast.contains c.1:=by
  rw [Bool.eq_iff_iff,contains_iff_mem,contains_iff_mem]
  constructor
  ·intro h;replace h:=hs ▸ h
   rcases lA h with h | h
   ·exact h
   ·exact absurd (lS h) hne
  ·exact fun h=>(dropLast_sublist w).subset h
 exact rwb this rfl
theorem Fw {E:List Tie} {w:List Nat} (hn:w.Nodup) {c:Nat × Int} (hc:c ∈ kids E w):(w ++ [c.1]).Nodup:=by
 have:=(lF hc).2;simp only [Bool.not_eq_true',contains_eq_mem,decide_eq_false_iff_not] at this;rw [nodup_append];refine ⟨hn,by simp,fun a ha b hb e=>?_⟩;rw [lS hb] at e;exact this (e ▸ ha)
theorem Bo {E:List Tie} (hE:∀ e ∈ E,e.1 ≠ e.2.1):∀ (f:Nat) (w:List Nat),w ≠ []→w.Nodup→tvw E f w = tv E f (fun x=>!w.dropLast.contains x) (Jb w):=by
 intro zs
 induction zs with
 | zero=>
  intro Z Z Z;exact rfl
 | succ f IH=>
  intro w hw hn;show Yo _ = Yo _;refine rwb (Kx hE hw hn) ?_
  congr 1
  refine map_congr_left fun c hc=>?_;have hc':c ∈ kids E w:=by refine rwb (Kx hE hw hn) ?_;exact hc
  refine rwb (IH (w ++ [c.1]) (by simp) (Fw hn hc')) ?_;rewrite [Yr];refine rwb dropLast_concat ?_
  congr 1
  refine Ov (fun x=>?_) f c.1;have hs:=Qa hw;unfold off;rw [Bool.eq_iff_iff];simp only [Bool.not_eq_true',contains_eq_mem,decide_eq_false_iff_not,Bool.and_eq_true,bne_iff_ne,ne_eq]
  constructor
  ·intro h;exact ⟨fun q=>h (by refine rwb hs ?_;exact mem_append_right _ (by refine rwb q ?_;exact .head _)),fun q=>h ((dropLast_sublist w).subset q)⟩
  ·rintro ⟨h1,h2⟩ q;replace q:=hs ▸ q
   rcases lA q with q | q
   ·exact h2 q
   ·exact h1 (lS q)
theorem Jcc {α:Type} [DecidableEq α]:∀ (n:Nat) (E:List (Ed α)),E.length ≤ n→(∀ e ∈ E,e.2.2 % 2 = 0)→M E % 2 = 1
 | _,[],_,_=>rfl
 | 0,_ :: _,h,_=>by simp at h
 | n + 1,l :: E,h,he=>by
  rw [Zn];have h1:=Jcc n E (by simpa using h) fun e hm=>he e (.tail _ hm);have h2:=he l (.head _);refine el11 (⟨l.2.2 / 2,by lia⟩:∃ k,l.2.2 = 2 * k) fun k hk=>?_;refine rwb hk (rwb (show M (keep (Zc l) E) * (2 * k) = 2 * (M (keep (Zc l) E) * k) by ac_rfl) ?_);lia
theorem Jc3 {α:Type} [DecidableEq α] {E:List (Ed α)} (h:∀ e ∈ E,e.2.2 % 2 = 0):M E ≠ 0:=fun q=>by
 have:=Jcc E.length E (le_refl _) h;rw [q] at this;cases this
noncomputable def unS (S:List (List Nat)):Nat→Bool:=fun x=>!(S.map Jb).contains x
noncomputable def NS (E:List Tie) (S:List (List Nat)):Int:=M (keep (unS S) E)
noncomputable def Lz (E:List Tie) (K:List Nat→Bool):Nat→List Nat→Int
 | 0,_=>1
 | f + 1,w=>Yx ((kids E w).map fun c=>if K (w ++ [c.1]) then Lz E K f (w ++ [c.1]) else wh E f (w ++ [c.1]))
noncomputable def Seen (S:List (List Nat)) (x:Nat):Prop:=x ∈ S.map Jb
noncomputable def Tj (E:List Tie) (S:List (List Nat)) (w:List Nat):Prop:=∀ x,Seen S x→x ∉ w→∀ c ∈ nb E x,Seen S c.1
structure Dv (E:List Tie) (S:List (List Nat)) (w:List Nat):Prop where
 ok:Ys S
 on:w ∈ S
 cl:Tj E S w
 all:∀ i ∈ w,Seen S i
 nd:w.Nodup
theorem Dr {S:List (List Nat)} {k:Nat}:S.any (fun v=>Jb v == k) = true ↔ Seen S k:=by
 unfold Seen;rw [List.any_eq_true,mem_map]
 constructor
 ·rintro ⟨v,hv,e⟩;exact ⟨v,hv,beq_iff_eq.mp e⟩
 ·rintro ⟨v,hv,e⟩;exact ⟨v,hv,beq_iff_eq.mpr e⟩
theorem Z7 {S Y:List (List Nat)} {k:Nat} (h:Seen S k):Seen (S ++ Y) k:=by
 unfold Seen at *;rw [map_append];exact mem_append_left _ h
noncomputable def Xi (T:List Tie) (f:Nat) (w:List Nat) (S:List (List Nat)) (a:Nat × Int):List (List Nat):=if S.any (fun v=>Jb v == a.1) then S else Yz T f (w ++ [a.1]) (S ++ [w ++ [a.1]])
theorem Sn (T:List Tie) (f:Nat) (w:List Nat) (S:List (List Nat)):Yz T (f + 1) w S = (Jz T (Jb w)).foldl (Xi T f w) S:=rfl
section
variable {T E:List Tie} (hT:∀ t ∈ T,Yj t) (hE:∀ e ∈ E,e.1 ≠ e.2.1) (hev:∀ e ∈ E,e.2.2 % 2 = 0) (hTE:∀ j,(nb E j).map (·.1) = (Jz T j).map (·.1)) (hnd:∀ j,((Jz T j).map (·.1)).Nodup)
structure Pj (E:List Tie) (S S2:List (List Nat)) (w:List Nat) (Y:List (List Nat)):Prop where
 eq:S2 = S ++ Y
 ext:∀ y ∈ Y,Ext w y
 ok:Ys S2
 cl:Tj E S2 w
 nbs:∀ c ∈ nb E (Jb w),Seen S2 c.1
noncomputable def Jby (E:List Tie) (S S2:List (List Nat)) (w:List Nat) (Y:List (List Nat)) (ft:Nat):Prop:=
 ∀ K:List Nat→Bool,(∀ x,Ext w x→(K x = true ↔ x ∈ Y))→Yx ((kids E w).map fun c=>wh E ft (w ++ [c.1])) * NS E S2 = NS E S * Lz E K (ft + 1) w
theorem Bn (S:List (List Nat)) (w:List Nat) (k:Nat):unS (S ++ [w ++ [k]]) = fun x=>off k x && unS S x:=by
 funext x
 unfold unS off;rw [Bool.eq_iff_iff];simp only [map_append,map_cons,map_nil,Yr,Bool.not_eq_true',contains_eq_mem,decide_eq_false_iff_not,Bool.and_eq_true,bne_iff_ne,ne_eq,mem_append,mem_singleton,not_or];exact ⟨fun h=>⟨h.2,h.1⟩,fun h=>⟨h.2,h.1⟩⟩
include hE in
theorem N5 {S:List (List Nat)} {w:List Nat} {k:Nat} (hw:w ≠ []) (hcl:Tj E S w) (hall:∀ i ∈ w,Seen S i) (hnw:w.Nodup) (hk:¬ Seen S k) {f:Nat} (hf:E.length ≤ f) :
  wh E f (w ++ [k]) * NS E (S ++ [w ++ [k]]) = (tvw E f (w ++ [k])).1 * NS E S:=by
 have hkw:k ∉ w:=fun h=>hk (hall k h);have hnd2:(w ++ [k]).Nodup:=by
  rw [nodup_append];exact ⟨hnw,by simp,fun a ha b hb e=>by replace e:=(lS hb) ▸ e;exact hkw (e ▸ ha)⟩
 have hu:unS S k = true:=by unfold unS;simpa [Seen] using hk
 have e1:tvw E f (w ++ [k]) = tv E f (unS S) k:=by
  refine rwb (Bo hE f _ (by simp) hnd2) ?_;rewrite [Yr];refine rwb dropLast_concat ?_;rw [Jdk hE (U:=unS S) f (fun x=>!w.contains x) k (by simpa using hkw) hu]
  ·refine Ov (fun x=>?_) f k;unfold unS;rw [Bool.eq_iff_iff];simp only [Bool.not_eq_true',contains_eq_mem,decide_eq_false_iff_not,Bool.and_eq_true];exact ⟨fun h=>h.1,fun h=>⟨h,fun q=>h (hall x q)⟩⟩
  ·intro e he h1 h2;simp only [Bool.not_eq_true',contains_eq_mem,decide_eq_false_iff_not] at h1 h2;unfold unS;rw [Bool.eq_iff_iff];simp only [Bool.not_eq_true',contains_eq_mem,decide_eq_false_iff_not];have m1:(e.2.1,e.2.2) ∈ nb E e.1:=List.mem_flatMap.mpr ⟨e,he,by unfold nb1;simp⟩;have m2:(e.1,e.2.2) ∈ nb E e.2.1:=List.mem_flatMap.mpr ⟨e,he,by unfold nb1;simp⟩;exact ⟨fun h q=>h (hcl _ q h2 _ m2),fun h q=>h (hcl _ q h1 _ m1)⟩
 have g:=Hb hE f (unS S) k hu (le_trans (Uu _ _) hf);unfold wh NS;refine rwb e1 ?_;rw [Bn];exact g
theorem Kr {S:List (List Nat)} {w:List Nat} {k x:Nat}:Seen (S ++ [w ++ [k]]) x ↔ Seen S x ∨ x = k:=by
 unfold Seen;simp only [map_append,mem_append,map_cons,map_nil,mem_singleton,Yr]
noncomputable def kl (w:List Nat) (l:List (Nat × Int)):List Nat:=(l.map (·.1)).filter fun k=>!w.contains k
noncomputable def wxt (w:List Nat) (l:List (Nat × Int)) (x:List Nat):Prop:=∃ a ∈ l,∃ z,x = w ++ a.1 :: z
include hT hE hev hTE hnd
theorem As {fd:Nat} {w:List Nat} (hw0:w ≠ []) (hwn:w.Nodup) (hw5:w.length ≤ 5)
  (rec:∀ fd',fd = fd' + 1→∀ (c:List Nat) (S:List (List Nat)),Dv E S c→(∀ v ∈ S,¬ Ext c v)→5 ≤ S.length + fd'→∃ Y,Pj E S (Yz T fd c S) c Y ∧ ∀ ft,E.length + 6 ≤ ft + c.length→Jby E S (Yz T fd c S) c Y ft) :
  ∀ (l:List (Nat × Int)) (S:List (List Nat)),(l.map (·.1)).Nodup→(∀ a ∈ l,a.1 < 5)→Dv E S w→(∀ x,wxt w l x→x ∉ S)→5 ≤ S.length + fd →
   ∃ Y,l.foldl (Xi T fd w) S = S ++ Y ∧ (∀ y ∈ Y,wxt w l y) ∧ Ys (S ++ Y) ∧ Tj E (S ++ Y) w ∧ (∀ a ∈ l,Seen (S ++ Y) a.1) ∧
    ∀ ft,E.length + 6 ≤ ft + w.length→∀ K:List Nat→Bool,(∀ x,wxt w l x→(K x = true ↔ x ∈ Y)) →
     Yx ((kl w l).map fun k=>wh E ft (w ++ [k])) * NS E (S ++ Y) = NS E S * Yx ((kl w l).map fun k=>if K (w ++ [k]) then Lz E K ft (w ++ [k]) else wh E ft (w ++ [k])):=by
 revert hT hE hev hTE hnd hw0 hwn hw5 rec;revert T E fd w;refine no_implicit_lambda% (G4 (h:=?_));refine (?_:A4 _) _ _ _ _;intro T E fd w hT hE hev hTE hnd hw0 hwn hw5 rec;refine no_implicit_lambda% (G1 (h:=?_));refine (?_:A1 _) _;intro zs
 induction zs with
 | nil=>
  intro S Z Z hS Z Z;exact ⟨[],by simp,by simp,by simpa using hS.ok,by simpa using hS.cl,by simp,fun ft Z K Z=>by simp [kl,Yx]⟩
 | cons a l IH=>
  intro S hn hlt hS hno h5;rw [map_cons,nodup_cons] at hn;have hlt':∀ b ∈ l,b.1 < 5:=fun b hb=>hlt b (.tail _ hb);have hak:=hlt a (.head _);have hwl:∀ x,wxt w l x→wxt w (a :: l) x:=fun x ⟨b,hb,z,e⟩=>⟨b,.tail _ hb,z,e⟩;have hne:∀ x,wxt w l x→∀ z,x ≠ w ++ a.1 :: z:=fun x ⟨b,hb,z,e⟩ z' e'=>by
   rw [e] at e';have:=append_cancel_left e';injection this with e3 _
   exact hn.1 (e3 ▸ mem_map_of_mem hb)
  simp only [foldl_cons];cases hc:S.any (fun v=>Jb v == a.1)
  ·
   have hst:Xi T fd w S a = Yz T fd (w ++ [a.1]) (S ++ [w ++ [a.1]]):=by unfold Xi;rw [hc,if_neg (by decide)]
   have hns:¬ Seen S a.1:=fun q=>by rw [Dr.mpr q] at hc;cases hc
   have haw:a.1 ∉ w:=fun h=>hns (hS.all _ h);obtain ⟨fd',rfl⟩:∃ fd',fd = fd' + 1:=by
    cases fd with
    | zero=>exact absurd (hS.ok.full (by omega) hak) (by rw [hc];decide)
    | succ f=>exact ⟨f,rfl⟩
   have hwc:(w ++ [a.1]).Nodup:=by
    rw [nodup_append];exact ⟨hwn,by simp,fun x hx b hb e=>by rw [lS hb] at e;exact haw (e ▸ hx)⟩
   have D1:Dv E (S ++ [w ++ [a.1]]) (w ++ [a.1]):={
    ok:=hS.ok.snoc hS.on hak hc
    on:=mem_append_right _ (.head _)
    cl:=fun x hx hxc c hcm=>by
     rcases Kr.mp hx with hx | rfl
     ·exact Z7 (hS.cl x hx (fun q=>hxc (mem_append_left _ q)) c hcm)
     ·exact absurd (mem_append_right _ (.head _)) hxc
    all:=fun i hi=>by
     rcases lA hi with hi | hi
     ·exact Z7 (hS.all i hi)
     ·simp only [lS hi];exact Kr.mpr (.inr rfl)
    nd:=hwc }
   have hno1:∀ v ∈ S ++ [w ++ [a.1]],¬ Ext (w ++ [a.1]) v:=by
    rintro v hv ⟨x,hx,e⟩
    rcases lA hv with hv | hv
    ·exact hno v ⟨a,.head _,x,by rw [e];simp⟩ hv
    ·rw [lS hv] at e;have e2:=congrArg List.length e;rw [length_append (bs:=x)] at e2;have:=List.length_pos_iff.mpr hx;lia
   obtain ⟨Yc,Dc,Lc⟩:=rec fd' rfl (w ++ [a.1]) (S ++ [w ++ [a.1]]) D1 hno1 (by simp only [length_append,length_singleton];lia);simp only [hst];generalize hS2:Yz T (fd' + 1) (w ++ [a.1]) (S ++ [w ++ [a.1]]) = S2 at *;have e2:=Dc.eq
   have D2:Dv E S2 w:={
    ok:=Dc.ok
    on:=by rw [e2];exact mem_append_left _ (mem_append_left _ hS.on)
    cl:=fun x hx hxw c hcm=>by
     by_cases hxa:x = a.1
     ·subst hxa;have:=Dc.nbs c (by rw [Yr];exact hcm);exact this
     ·exact Dc.cl x hx (fun q=>by
       rcases lA q with q | q
       ·exact hxw q
       ·exact hxa (lS q)) c hcm
    all:=fun i hi=>by rw [e2];exact Z7 (Z7 (hS.all i hi))
    nd:=hS.nd }
   have hno2:∀ x,wxt w l x→x ∉ S2:=fun x hx hm=>by
    rw [e2] at hm
    rcases lA hm with hm | hm
    ·rcases lA hm with hm | hm
     ·exact hno x (hwl x hx) hm
     ·exact hne x hx [] (lS hm)
    ·obtain ⟨z,hz,e⟩:=Dc.ext x hm;exact hne x hx z (by rw [e];simp)
   obtain ⟨Y3,f1,f2,f3,f4,f5,f6⟩:=IH S2 hn.2 hlt' D2 hno2 (by rw [e2];simp only [length_append];lia);have eS:S2 ++ Y3 = S ++ ([w ++ [a.1]] ++ Yc ++ Y3):=by rw [e2];simp
   refine ⟨[w ++ [a.1]] ++ Yc ++ Y3,by simp only [f1,eS],fun y hy=>?_,by simp only [← eS];exact f3,by rw [← eS];exact f4,fun b hb=>?_,fun ft hft K hK=>?_⟩
   ·rcases lA hy with hy | hy
    ·rcases lA hy with hy | hy
     ·exact ⟨a,.head _,[],lS hy⟩
     ·obtain ⟨z,hz,e⟩:=Dc.ext y hy;exact ⟨a,.head _,z,by rw [e];simp⟩
    ·exact hwl y (f2 y hy)
   ·rcases lC hb with rfl | hb
    ·simp only [← eS,e2];exact Z7 (Z7 (Kr.mpr (.inr rfl)))
    ·rw [← eS];exact f5 b hb
   ·have hKc:K (w ++ [a.1]) = true:=(hK _ ⟨a,.head _,[],rfl⟩).mpr (by simp);have hKe:∀ x,Ext (w ++ [a.1]) x→(K x = true ↔ x ∈ Yc):=fun x u=>el12 u fun z hz e=>by
     rw [hK x ⟨a,.head _,z,by rw [e];simp⟩]
     constructor
     ·intro hx
      rcases lA hx with hx | hx
      ·rcases lA hx with hx | hx
       ·exfalso
        rw [lS hx] at e;have e3:=congrArg List.length e;rw [length_append (bs:=z)] at e3;have:=List.length_pos_iff.mpr hz;lia
       ·exact hx
      ·exact absurd (show x = w ++ a.1 :: z by rw [e];simp) (hne x (f2 x hx) z)
     ·intro hx;exact mem_append_left _ (mem_append_right _ hx)
    have hKl:∀ x,wxt w l x→(K x = true ↔ x ∈ Y3):=fun x hx=>by
     rw [hK x (hwl x hx)]
     constructor
     ·intro hm
      rcases lA hm with hm | hm
      ·exfalso
       rcases lA hm with hm | hm
       ·exact hne x hx [] (lS hm)
       ·obtain ⟨z,hz,e⟩:=Dc.ext x hm;exact hne x hx z (by rw [e];simp)
      ·exact hm
     ·exact fun hm=>mem_append_right _ hm
    obtain ⟨ft',rfl⟩:∃ ft',ft = ft' + 1:=⟨ft - 1,by lia⟩;have l1:=Lc ft' (by simp only [length_append,length_singleton];lia) K hKe;have g:=N5 (S:=S) (k:=a.1) hE hw0 hS.cl hS.all hS.nd hns (f:=ft' + 1) (by lia);rw [Eb] at g;have l3:=f6 (ft' + 1) hft K hKl;have hN1:NS E (S ++ [w ++ [a.1]]) ≠ 0:=Jc3 fun e he=>hev e (lF he).1;have hkl:kl w (a :: l) = a.1 :: kl w l:=by
     unfold kl;rw [map_cons,filter_cons,if_pos (by simpa using haw)]
    simp only [hkl,map_cons,map_cons,Zj,Zj,hKc,if_pos rfl,← eS];have key:wh E (ft' + 1) (w ++ [a.1]) * NS E S2 = NS E S * Lz E K (ft' + 1) (w ++ [a.1]):=by
     refine Int.eq_of_mul_eq_mul_left hN1 ?_
     calc NS E (S ++ [w ++ [a.1]]) * (wh E (ft' + 1) (w ++ [a.1]) * NS E S2) = (wh E (ft' + 1) (w ++ [a.1]) * NS E (S ++ [w ++ [a.1]])) * NS E S2:=by ac_rfl
      _ = NS E S * (Yx ((kids E (w ++ [a.1])).map fun c=>wh E ft' (w ++ [a.1] ++ [c.1])) * NS E S2):=by simp only [g];ac_rfl
      _ = NS E (S ++ [w ++ [a.1]]) * (NS E S * Lz E K (ft' + 1) (w ++ [a.1])):=by rw [l1];ac_rfl
    generalize Yx ((kl w l).map fun k=>wh E (ft' + 1) (w ++ [k])) = p1 at *;generalize Yx ((kl w l).map fun k=>if K (w ++ [k]) then Lz E K (ft' + 1) (w ++ [k]) else wh E (ft' + 1) (w ++ [k])) = p2 at *
    calc wh E (ft' + 1) (w ++ [a.1]) * p1 * NS E (S2 ++ Y3) = wh E (ft' + 1) (w ++ [a.1]) * (p1 * NS E (S2 ++ Y3)):=by ac_rfl
     _ = (wh E (ft' + 1) (w ++ [a.1]) * NS E S2) * p2:=by simp only [l3];ac_rfl
     _ = NS E S * (Lz E K (ft' + 1) (w ++ [a.1]) * p2):=by simp only [key];ac_rfl
  ·
   have hst:Xi T fd w S a = S:=by unfold Xi;rw [hc,if_pos rfl]
   rw [hst];obtain ⟨Y,f1,f2,f3,f4,f5,f6⟩:=IH S hn.2 hlt' hS (fun x hx=>hno x (hwl x hx)) h5;refine ⟨Y,f1,fun y hy=>hwl y (f2 y hy),f3,f4,fun b hb=>?_,fun ft hft K hK=>?_⟩
   ·rcases lC hb with rfl | hb
    ·exact Z7 (Dr.mp hc)
    ·exact f5 b hb
   ·have l3:=f6 ft hft K fun x hx=>hK x (hwl x hx)
    by_cases haw:a.1 ∈ w
    ·have hkl:kl w (a :: l) = kl w l:=by
      unfold kl;rw [map_cons,filter_cons,if_neg (by simpa using haw)]
     rw [hkl];exact l3
    ·have hkl:kl w (a :: l) = a.1 :: kl w l:=by
      unfold kl;rw [map_cons,filter_cons,if_pos (by simpa using haw)]
     have hKc:¬ K (w ++ [a.1]) = true:=fun q=>by
      have:=(hK _ ⟨a,.head _,[],rfl⟩).mp q;exact hne _ (f2 _ this) [] rfl
     simp only [hkl,map_cons,map_cons,Zj,Zj,if_neg hKc,Int.mul_assoc,l3]
     ac_rfl
theorem Jbg (w:List Nat):kl w (Jz T (Jb w)) = (kids E w).map (·.1):=by
 unfold kl kids;simp only [← hTE,filter_map];rfl
theorem Cp (fd:Nat) (w:List Nat) (S:List (List Nat)) (hS:Dv E S w) (hno:∀ v ∈ S,¬ Ext w v) (h5:5 ≤ S.length + fd)
  (rec:∀ fd',fd = fd' + 1→∀ (c:List Nat) (S:List (List Nat)),Dv E S c→(∀ v ∈ S,¬ Ext c v)→5 ≤ S.length + fd'→∃ Y,Pj E S (Yz T fd c S) c Y ∧ ∀ ft,E.length + 6 ≤ ft + c.length→Jby E S (Yz T fd c S) c Y ft) :
   ∃ Y,Pj E S (Yz T (fd + 1) w S) w Y ∧ ∀ ft,E.length + 6 ≤ ft + w.length→Jby E S (Yz T (fd + 1) w S) w Y ft:=by
 revert hT hE hev hTE hnd hS hno h5 rec;revert T E fd w S;refine no_implicit_lambda% (G5 (h:=?_));refine (?_:A5 _) _ _ _ _ _;intro T E fd w S hT hE hev hTE hnd hS hno h5 rec;have hw:=hS.ok.ne w hS.on;have:=hS.ok.len;obtain ⟨Y,f1,f2,f3,f4,f5,f6⟩:=As (fd:=fd) hT hE hev hTE hnd hw.1 hS.nd (by lia) rec (Jz T (Jb w)) S (hnd _) (fun a ha=>(Eg hT a ha).1) hS (fun x ⟨a,ha,z,e⟩ hm=>hno x hm ⟨a.1 :: z,by simp,e⟩) h5;rw [Sn,f1];refine ⟨Y,⟨rfl,fun y hy=>?_,f3,f4,fun c hc=>?_⟩,fun ft hft K hK=>?_⟩
 ·obtain ⟨a,_,z,e⟩:=f2 y hy;exact ⟨a.1 :: z,by simp,e⟩
 ·have:c.1 ∈ (Jz T (Jb w)).map (·.1):=by rw [← hTE];exact mem_map_of_mem hc
  obtain ⟨a,ha,e⟩:=lM this;simp only [← e];exact f5 a ha
 ·have:=f6 ft hft K fun x ⟨a,_,z,e⟩=>hK x ⟨a.1 :: z,by simp,e⟩;simp only [Jbg hT hE hev hTE hnd w,map_map,map_map] at this;exact this
theorem Hp:∀ (fd:Nat) (w:List Nat) (S:List (List Nat)),Dv E S w→(∀ v ∈ S,¬ Ext w v)→5 ≤ S.length + fd→∃ Y,Pj E S (Yz T (fd + 1) w S) w Y ∧ ∀ ft,E.length + 6 ≤ ft + w.length→Jby E S (Yz T (fd + 1) w S) w Y ft:=by
 intro zs
 induction zs with
 | zero=>
  intro w S a b c;exact Cp hT hE hev hTE hnd 0 w S a b c fun fd' e=>by cases e
 | succ fd IH=>
  intro w S a b c;exact Cp hT hE hev hTE hnd (fd + 1) w S a b c fun fd' e=>by cases e;exact IH
end
noncomputable abbrev WEd:=Ed (List Nat)
theorem Ur {α:Type} [DecidableEq α] {v x:α} (h:x ≠ v):off v x = true:=by unfold off;exact bne_iff_ne.mpr h
theorem B8 {α:Type} [DecidableEq α] (v:α):off v v = false:=by unfold off;simp
theorem Le {α:Type} [DecidableEq α] (e:Ed α) (x:α):Zc e x = (off e.1 x && off e.2.1 x):=rfl
noncomputable def sub (E:List Tie):Nat→List Nat→List WEd
 | 0,_=>[]
 | f + 1,w=>(kids E w).flatMap fun c=>(w,w ++ [c.1],c.2) :: sub E f (w ++ [c.1])
noncomputable def Qn (E:List Tie) (f:Nat) (w:List Nat) (ns:List (Nat × Int)):List WEd:=ns.flatMap fun c=>(w,w ++ [c.1],c.2) :: sub E f (w ++ [c.1])
theorem Kq (E:List Tie) (f:Nat) (w:List Nat) (c:Nat × Int) (ns:List (Nat × Int)):Qn E f w (c :: ns) = (w,w ++ [c.1],c.2) :: (sub E f (w ++ [c.1]) ++ Qn E f w ns):=by
 unfold Qn;simp only [flatMap_cons];rfl
theorem Xr (E:List Tie):∀ (f:Nat) (w:List Nat),∀ e ∈ sub E f w,(∃ x,e.1 = w ++ x) ∧ ∃ x,x ≠ [] ∧ e.2.1 = w ++ x:=by
 intro zs
 induction zs with
 | zero=>
  intro Z e he;contradiction
 | succ f IH=>
  intro w e he;refine el12 (List.mem_flatMap.mp he) fun c hc he=>?_
  rcases lC he with rfl | he
  ·exact ⟨⟨[],by simp⟩,[c.1],by simp,rfl⟩
  ·obtain ⟨⟨x,hx⟩,y,hy,hy2⟩:=IH _ e he;exact ⟨⟨c.1 :: x,by refine rwb hx ?_;simp⟩,c.1 :: y,by simp,by refine rwb hy2 ?_;simp⟩
theorem Mz {E:List Tie} {f:Nat} {w:List Nat} {ns:List (Nat × Int)}:∀ e ∈ Qn E f w ns,(e.1 = w ∨ ∃ c ∈ ns,∃ x,e.1 = w ++ c.1 :: x) ∧ ∃ c ∈ ns,∃ x,e.2.1 = w ++ c.1 :: x:=fun e he=>by
 refine el12 (List.mem_flatMap.mp he) fun c hc he=>?_
 rcases lC he with rfl | he
 ·exact ⟨.inl rfl,c,hc,[],rfl⟩
 ·obtain ⟨⟨x,hx⟩,y,hy,hy2⟩:=Xr E f _ e he;exact ⟨.inr ⟨c,hc,x,by refine rwb hx ?_;simp⟩,c,hc,y,by refine rwb hy2 ?_;simp⟩
theorem Sg {w:List Nat} {k:Nat} {x:List Nat}:w ++ k :: x ≠ w:=fun e=>by
 have:=congrArg List.length e;simp only [length_append,length_cons] at this;lia
theorem Qj {w:List Nat} {k j:Nat} (h:k ≠ j) {x y:List Nat}:w ++ k :: x ≠ w ++ j :: y:=fun e=>by
 have:=append_cancel_left e;injection this with e1 _
 exact h e1
theorem My {E:List Tie} {f f':Nat} {w:List Nat} {k:Nat} {ns:List (Nat × Int)} (h:k ∉ ns.map (·.1)):∀ e ∈ sub E f (w ++ [k]),∀ g ∈ Qn E f' w ns,g.1 ≠ e.1 ∧ g.1 ≠ e.2.1 ∧ g.2.1 ≠ e.1 ∧ g.2.1 ≠ e.2.1:=fun e he g hg=>by
 obtain ⟨⟨x,hx⟩,y,hy,hy2⟩:=Xr E f _ e he;obtain ⟨h1,c,hc,z,hz⟩:=Mz g hg;have hne:∀ c ∈ ns,c.1 ≠ k:=fun c hc e=>h (e ▸ mem_map_of_mem hc);have e1:e.1 = w ++ k :: x:=by refine rwb hx ?_;simp
 have e2:e.2.1 = w ++ k :: y:=by refine rwb hy2 ?_;simp
 simp only [e1,e2,hz];refine ⟨?_,?_,Qj (hne c hc),Qj (hne c hc)⟩
 ·rcases h1 with h1 | ⟨c',hc',z',h1⟩
  ·refine rwb h1 ?_;exact Ne.symm Sg
  ·refine rwb h1 ?_;exact Qj (hne c' hc')
 ·rcases h1 with h1 | ⟨c',hc',z',h1⟩
  ·refine rwb h1 ?_;exact Ne.symm Sg
  ·refine rwb h1 ?_;exact Qj (hne c' hc')
section
variable {E:List Tie} (hnd:∀ j,((nb E j).map (·.1)).Nodup)
include hnd
theorem Et (w:List Nat):((kids E w).map (·.1)).Nodup:=(hnd (Jb w)).sublist ((filter_sublist).map _)
theorem Jdx:∀ (f:Nat) (w:List Nat),M (sub E f w) = wh E f w ∧ M (keep (off w) (sub E f w)) = (tvw E f w).1:=by
 intro zs
 induction zs with
 | zero=>
  intro w;exact ⟨rfl,rfl⟩
 | succ f IH=>
  intro w;have loop:∀ ns:List (Nat × Int),(ns.map (·.1)).Nodup →
    M (Qn E f w ns) = (Yo (ns.map fun c=>br (tvw E f (w ++ [c.1])) c.2)).1 + (Yo (ns.map fun c=>br (tvw E f (w ++ [c.1])) c.2)).2 ∧
    M (keep (off w) (Qn E f w ns)) = (Yo (ns.map fun c=>br (tvw E f (w ++ [c.1])) c.2)).1:=by
   intro ns
   induction ns with
   | nil=>intro Z;exact ⟨rfl,rfl⟩
   | cons c ns ih=>
    intro hn;(replace hn:=map_cons ▸ hn;rw [nodup_cons] at hn);refine Yd (ih hn.2) fun i1 i2=>?_;refine Yd (IH (w ++ [c.1])) fun s1 s2=>?_;have ap:=My (E:=E) (f:=f) (f':=f) (w:=w) hn.1;have kw:keep (off w) (sub E f (w ++ [c.1])) = sub E f (w ++ [c.1]):=Z9 fun e he=>by
     obtain ⟨⟨x,hx⟩,y,hy,hy2⟩:=Xr E f _ e he;exact ⟨Ur (by refine rwb hx ?_;simp),Ur (by refine rwb hy2 ?_;simp)⟩
    have kc:keep (off (w ++ [c.1])) (Qn E f w ns) = Qn E f w ns:=Z9 fun e he=>by
     obtain ⟨h1,c',hc',z,hz⟩:=Mz e he;have hne:∀ c' ∈ ns,c'.1 ≠ c.1:=fun c' hc e=>hn.1 (e ▸ mem_map_of_mem hc);refine ⟨Ur ?_,Ur (by refine rwb hz ?_;exact Qj (hne c' hc'))⟩
     rcases h1 with h1 | ⟨c2,hc2,z2,h1⟩
     ·refine rwb h1 ?_;exact Ne.symm Sg
     ·simp only [h1];exact Qj (hne c2 hc2)
    have ek:keep (Zc (w,w ++ [c.1],c.2)) (sub E f (w ++ [c.1]) ++ Qn E f w ns) = keep (off (w ++ [c.1])) (sub E f (w ++ [c.1])) ++ keep (off w) (Qn E f w ns):=by
     have eo:∀ F:List WEd,keep (Zc (w,w ++ [c.1],c.2)) F = keep (off (w ++ [c.1])) (keep (off w) F):=fun F=>by
      simp only [keep_keep];exact Vg fun x=>by simp only [Le,Bool.and_comm]
     simp only [eo,G0,G0,kw]
     congr 1
     rewrite [keep_keep];refine rwb (show (fun x=>off (w ++ [c.1]) x && off w x) = fun x=>off w x && off (w ++ [c.1]) x from funext fun x=>Bool.and_comm _ _) ?_;rewrite [← keep_keep];exact rwb kc rfl
    have ap2:∀ e ∈ sub E f (w ++ [c.1]),∀ g ∈ keep (off w) (Qn E f w ns),g.1 ≠ e.1 ∧ g.1 ≠ e.2.1 ∧ g.2.1 ≠ e.1 ∧ g.2.1 ≠ e.2.1:=fun e he g hg=>ap e he g (lF hg).1;refine rwb map_cons ?_;rw [Ye];generalize Yo (ns.map fun c=>br (tvw E f (w ++ [c.1])) c.2) = z at *;have hd:∀ r:Int × Int,dm (br r c.2) z = ((r.1 + r.2) * z.1,c.2 * r.1 * z.1 + (r.1 + r.2) * z.2):=fun r=>rfl;rw [hd];refine ⟨?_,?_⟩
    ·simp only [Kq,Zn,Ie ap,ek,C1 ap2,s1,s2,i1,i2];show wh E f (w ++ [c.1]) * (z.1 + z.2) + _ * z.1 * c.2 = wh E f (w ++ [c.1]) * z.1 + (c.2 * _ * z.1 + wh E f (w ++ [c.1]) * z.2);rw [Int.mul_add];have:(tvw E f (w ++ [c.1])).1 * z.1 * c.2 = c.2 * (tvw E f (w ++ [c.1])).1 * z.1:=by ac_rfl
     lia
    ·have:keep (off w) (Qn E f w (c :: ns)) = sub E f (w ++ [c.1]) ++ keep (off w) (Qn E f w ns):=by
      rewrite [Kq,Ju];refine rwb (if_neg (by rw [B8,Bool.false_and];decide)) ?_;rewrite [G0];exact rwb kw rfl
     simp only [this,Ie ap2,s1,i2];rfl
  exact loop (kids E w) (Et hnd w)
theorem Jdy {K:List Nat→Bool} (hK:∀ w x,K (w ++ x) = true→K w = true):∀ (f:Nat) (w:List Nat),M ((sub E f w).filter fun e=>!K e.1) = if K w then Lz E K f w else wh E f w:=by
 intro zs
 induction zs with
 | zero=>
  intro w;show (1:Int) = _;split <;> rfl
 | succ f IH=>
  intro w
  by_cases hw:K w = true
  ·refine rwb (if_pos hw) ?_;have loop:∀ ns:List (Nat × Int),(ns.map (·.1)).Nodup →
     M ((Qn E f w ns).filter fun e=>!K e.1) = Yx (ns.map fun c=>if K (w ++ [c.1]) then Lz E K f (w ++ [c.1]) else wh E f (w ++ [c.1])):=by
    intro ns
    induction ns with
    | nil=>intro Z;rfl
    | cons c ns ih=>
     intro hn;(replace hn:=map_cons ▸ hn;rw [nodup_cons] at hn);have ap:=My (E:=E) (f:=f) (f':=f) (w:=w) hn.1;have ap2:∀ e ∈ (sub E f (w ++ [c.1])).filter (fun e=>!K e.1),∀ g ∈ (Qn E f w ns).filter (fun e=>!K e.1),g.1 ≠ e.1 ∧ g.1 ≠ e.2.1 ∧ g.2.1 ≠ e.1 ∧ g.2.1 ≠ e.2.1:=fun e he g hg=>ap e (lF he).1 g (lF hg).1;rewrite [Kq];refine rwb filter_cons (rwb (if_neg (by simp [hw])) ?_);rewrite [filter_append];refine rwb (Ie ap2) (rwb (IH (w ++ [c.1])) (rwb (ih hn.2) (rwb map_cons ?_)));rw [Zj]
   exact loop (kids E w) (Et hnd w)
  ·refine rwb (if_neg hw) ?_;have:(sub E (f + 1) w).filter (fun e=>!K e.1) = sub E (f + 1) w:=by
    rw [filter_eq_self];intro e he;refine Yd (Xr E (f + 1) w e he) fun z0 Z=>?_;obtain ⟨x,hx⟩:=z0;simp only [Bool.not_eq_true'];cases q:K e.1
    ·rfl
    ·exact absurd (hK w x (hx ▸ q)) hw
   refine rwb this ?_;exact (Jdx hnd (f + 1) w).1
end
noncomputable def steps (T:List Tie) (w:List Nat):List Way:=T.flatMap (stepT w)
theorem Wl (T:List Tie) (w:List Nat):steps T w = ((Jz T (Jb w)).filter fun a=>!w.contains a.1).map fun a=>(w ++ [a.1],a.2):=(Mv T w).symm
noncomputable def Ww (T:List Tie):Nat→List Nat→List Way
 | 0,_=>[]
 | f + 1,w=>(steps T w).flatMap fun p=>p :: Ww T f p.1
noncomputable def bfs (T:List Tie):Nat→List Way→List Way
 | 0,_=>[]
 | f + 1,l=>(l.flatMap fun p=>steps T p.1) ++ bfs T f (l.flatMap fun p=>steps T p.1)
theorem Pc (T:List Tie):∀ f,bfs T f [] = []
 | 0=>rfl
 | f + 1=>by show [] ++ bfs T f [] = [];rw [Pc T f];rfl
theorem X2 {α:Type} (g:α→List α):∀ l:List α,(l.flatMap fun q=>q :: g q).Perm (l ++ l.flatMap g)
 | []=>.refl _
 | a :: l=>by
  simp only [flatMap_cons,flatMap_cons,cons_append,cons_append];refine .cons _ ?_;refine (List.Perm.append_left _ (X2 g l)).trans ?_;rw [← append_assoc,← append_assoc];exact List.Perm.append_right _ List.perm_append_comm
theorem Kb (T:List Tie):∀ (f:Nat) (l:List Way),(bfs T f l).Perm (l.flatMap fun p=>Ww T f p.1):=by
 intro zs
 induction zs with
 | zero=>
  intro l;have:(l.flatMap fun p=>Ww T 0 p.1) = []:=by rw [List.flatMap_eq_nil_iff];intro Z Z;rfl
  simp only [this];exact .refl _
 | succ f IH=>
  intro l;have e:(l.flatMap fun p=>Ww T (f + 1) p.1) = (l.flatMap fun p=>steps T p.1).flatMap fun q=>q :: Ww T f q.1:=by
   simp only [List.flatMap_assoc];rfl
  simp only [e];exact (List.Perm.append_left _ (IH _)).trans (X2 (fun q=>Ww T f q.1) _).symm
theorem Ua (T:List Tie) (r k:Nat):(Jy T r k).flatMap (fun p=>steps T p.1) = Jy T r (k + 1):=rfl
theorem Fl {T:List Tie} (hT:∀ t ∈ T,Yj t) {r:Nat} (hr:r < 5):Jy T r 5 = []:=by
 cases e:Jy T r 5 with
 | nil=>rfl
 | cons p l=>exact absurd (J6 hT hr 5 p (by rw [e];exact .head _)).le (by decide)
theorem Xn {T:List Tie} (hT:∀ t ∈ T,Yj t) {r:Nat} (hr:r < 5):Ja T r = ([r],1) :: bfs T 12 [([r],1)]:=by
 have e0:([([r],1)]:List Way) = Jy T r 0:=rfl;have b:∀ f k,bfs T (f + 1) (Jy T r k) = Jy T r (k + 1) ++ bfs T f (Jy T r (k + 1)):=fun f k=>rfl;simp only [e0,b,b,b,b,b,Fl hT hr,Pc];show Qx T r 4 = _;simp only [Yu,Yu,Yu,Yu,Kl];simp
noncomputable def lw (X:Int) (p:Way):WEd:=(p.1.dropLast,p.1,p.2 * X)
theorem R8 (X:Int) (T:List Tie) (w:List Nat):kids (T.map (sc X)) w = ((Jz T (Jb w)).filter fun a=>!w.contains a.1).map fun c=>(c.1,c.2 * X):=by
 unfold kids;simp only [Fd,Ef,filter_map];rfl
theorem Dg (X:Int) (T:List Tie):∀ (f:Nat) (w:List Nat),sub (T.map (sc X)) f w = (Ww T f w).map (lw X):=by
 intro zs
 induction zs with
 | zero=>
  intro Z;exact rfl
 | succ f IH=>
  intro w;show (kids _ w).flatMap _ = ((steps T w).flatMap fun p=>p :: Ww T f p.1).map (lw X);simp only [R8,Wl,flatMap_map,flatMap_map,map_flatMap]
  congr 1
  funext a
  simp only [map_cons,← IH]
  congr 1
  unfold lw;simp
theorem Pz (X:Int) {T:List Tie} (hT:∀ t ∈ T,Yj t) {r:Nat} (hr:r < 5):((Ja T r).tail.map (lw X)).Perm (sub (T.map (sc X)) 12 [r]):=by
 simp only [Xn hT hr,tail_cons,Dg];refine List.Perm.map _ ?_;have:=Kb T 12 [([r],1)]
 rwa [flatMap_cons,flatMap_nil,append_nil] at this
noncomputable def Su (S:List (List Nat)):Prop:=∀ v ∈ S,2 ≤ v.length→v.dropLast ∈ S
theorem Su.snoc {S:List (List Nat)} (h:Su S) {w:List Nat} (hw:w ∈ S) (k:Nat):Su (S ++ [w ++ [k]]):=fun v hv h2=>by
 rcases lA hv with hv | hv
 ·exact mem_append_left _ (h v hv h2)
 ·simp only [lS hv,dropLast_concat];exact mem_append_left _ hw
theorem Au {T:List Tie}:∀ f w S,Su S→w ∈ S→Su (Yz T f w S) ∧ ∀ v ∈ S,v ∈ Yz T f w S:=by
 intro zs
 induction zs with
 | zero=>
  intro w S h hw;exact ⟨h,fun v hv=>hv⟩
 | succ f IH=>
  intro w S h hw;have loop:∀ (l:List (Nat × Int)) (S':List (List Nat)),Su S'→w ∈ S'→Su (l.foldl (Xi T f w) S') ∧ ∀ v ∈ S',v ∈ l.foldl (Xi T f w) S':=by
   intro l
   induction l with
   | nil=>exact fun S' h1 Z=>⟨h1,fun v hv=>hv⟩
   | cons a l ih=>
    intro S' h1 h2;simp only [foldl_cons]
    by_cases hc:S'.any (fun v=>Jb v == a.1) = true
    ·have:Xi T f w S' a = S':=by unfold Xi;exact rwb (if_pos hc) rfl
     refine rwb this ?_;exact ih S' h1 h2
    ·have:Xi T f w S' a = Yz T f (w ++ [a.1]) (S' ++ [w ++ [a.1]]):=by unfold Xi;exact rwb (if_neg hc) rfl
     refine rwb this ?_;obtain ⟨q1,q2⟩:=IH (w ++ [a.1]) (S' ++ [w ++ [a.1]]) (h1.snoc h2 a.1) (mem_append_right _ (.head _));refine Yd (ih _ q1 (q2 _ (mem_append_left _ h2))) fun q3 q4=>?_;exact ⟨q3,fun v hv=>q4 v (q2 v (mem_append_left _ hv))⟩
  exact loop _ S h hw
noncomputable def Gp (T:List Tie) (r:Nat):List (List Nat):=Yz T 5 [r] [[r]]
noncomputable def Gn (T:List Tie) (r:Nat) (x:List Nat):Bool:=(Gp T r).contains x || x.isEmpty
theorem Fx (T:List Tie) (r:Nat):∀ w x,Gn T r (w ++ x) = true→Gn T r w = true:=by
 have hp:=(Au (T:=T) 5 [r] [[r]] (fun v hv h2=>by rw [lS hv] at h2;simp at h2) (.head _)).1;have one:∀ w k,Gn T r (w ++ [k]) = true→Gn T r w = true:=fun w k h=>by
  unfold Gn at h ⊢;simp only [Bool.or_eq_true] at h ⊢
  rcases h with h | h
  ·cases w with
   | nil=>exact .inr rfl
   | cons a w=>
    left
    have:=hp _ (List.contains_iff_mem.mp h) (by simp);simp only [dropLast_concat] at this;exact List.contains_iff_mem.mpr this
  ·simp at h
 intro w x
 induction x using rev_ind with
 | h0=>intro h;rwa [append_nil] at h
 | h1 x a ih=>intro h;rw [← append_assoc] at h;exact ih (one _ _ h)
section
variable {T:List Tie} {m:Nat} (hk:Yf T m) {r:Nat} (hr:r < 5) {X:Int} (hX:X % 2 = 0)
include hk hr
theorem Jaa {S:List (List Nat)} (hs:Seen S r) (hc:∀ x,Seen S x→∀ c ∈ nb T x,Seen S c.1):∀ i,i < 5→Seen S i:=by
 revert hk hr hs hc;revert T m r S;refine no_implicit_lambda% (G4 (h:=?_));refine (?_:A4 _) _ _ _ _;intro T m r S hk hr hs hc;obtain ⟨p1,p2,p3,w0,w1,w2,w3,Y,rfl,h1,h2,h3,_⟩:=hk.tree;have up:∀ t ∈ (0,1,w0) :: (p1,2,w1) :: (p2,3,w2) :: (p3,4,w3) :: Y,Seen S t.1→Seen S t.2.1:=fun t ht h=>hc t.1 h (t.2.1,t.2.2) (List.mem_flatMap.mpr ⟨t,ht,by unfold nb1;simp⟩);have dn:∀ t ∈ (0,1,w0) :: (p1,2,w1) :: (p2,3,w2) :: (p3,4,w3) :: Y,Seen S t.2.1→Seen S t.1:=fun t ht h=>hc t.2.1 h (t.1,t.2.2) (List.mem_flatMap.mpr ⟨t,ht,by unfold nb1;simp⟩);have d1:Seen S 1→Seen S 0:=dn (0,1,w0) (by simp);have d2:Seen S 2→Seen S p1:=dn (p1,2,w1) (by simp);have d3:Seen S 3→Seen S p2:=dn (p2,3,w2) (by simp);have d4:Seen S 4→Seen S p3:=dn (p3,4,w3) (by simp);have u1:Seen S 0→Seen S 1:=up (0,1,w0) (by simp);have u2:Seen S p1→Seen S 2:=up (p1,2,w1) (by simp);have u3:Seen S p2→Seen S 3:=up (p2,3,w2) (by simp);have u4:Seen S p3→Seen S 4:=up (p3,4,w3) (by simp);have z1:Seen S 1→Seen S 0:=d1;have z2:Seen S 2→Seen S 0:=fun h=>by
  have h:=d2 h;have:p1 = 0 ∨ p1 = 1:=by lia
  rcases this with e | e <;> simp only [e] at h
  ·exact h
  ·exact z1 h
 have z3:Seen S 3→Seen S 0:=fun h=>by
  have h:=d3 h;have:p2 = 0 ∨ p2 = 1 ∨ p2 = 2:=by lia
  rcases this with e | e | e <;> rw [e] at h
  ·exact h
  ·exact z1 h
  ·exact z2 h
 have z4:Seen S 4→Seen S 0:=fun h=>by
  have h:=d4 h;have:p3 = 0 ∨ p3 = 1 ∨ p3 = 2 ∨ p3 = 3:=by lia
  rcases this with e | e | e | e <;> rw [e] at h
  ·exact h
  ·exact z1 h
  ·exact z2 h
  ·exact z3 h
 have s0:Seen S 0:=by
  have:r = 0 ∨ r = 1 ∨ r = 2 ∨ r = 3 ∨ r = 4:=by lia
  rcases this with e | e | e | e | e <;> rw [e] at hs
  ·exact hs
  ·exact z1 hs
  ·exact z2 hs
  ·exact z3 hs
  ·exact z4 hs
 have s1:=u1 s0
 have s2:Seen S 2:=u2 (by
  have:p1 = 0 ∨ p1 = 1:=by lia
  rcases this with e | e <;> simp only [e] <;> assumption)
 have s3:Seen S 3:=u3 (by
  have:p2 = 0 ∨ p2 = 1 ∨ p2 = 2:=by lia
  rcases this with e | e | e <;> simp only [e] <;> assumption)
 have s4:Seen S 4:=u4 (by
  have:p3 = 0 ∨ p3 = 1 ∨ p3 = 2 ∨ p3 = 3:=by lia
  rcases this with e | e | e | e <;> simp only [e] <;> assumption)
 intro i hi;have:i = 0 ∨ i = 1 ∨ i = 2 ∨ i = 3 ∨ i = 4:=by lia
 rcases this with rfl | rfl | rfl | rfl | rfl <;> assumption
include hX
theorem Bp (hz:T.length ≤ 6):wh (T.map (sc X)) 12 [r] = M (T.map (sc X)) * M (((Ja T r).tail.filter fun p=>!(Gp T r).contains p.1.dropLast).map (lw X)):=by
 revert hk hr hX hz;revert T m r X;refine no_implicit_lambda% (G4 (h:=?_));refine (?_:A4 _) _ _ _ _;intro T m r X hk hr hX hz;have hT:=hk.in
 have hE:∀ e ∈ T.map (sc X),e.1 ≠ e.2.1:=fun e he=>by
  refine el12 (lM he) fun t ht z2=>?_;refine rwf z2 ?_;have:=(hk.lt t ht).1;show t.1 ≠ t.2.1;lia
 have hev:∀ e ∈ T.map (sc X),e.2.2 % 2 = 0:=fun e he=>by
  refine el12 (lM he) fun t ht z2=>?_;subst z2;show t.2.2 * X % 2 = 0;refine el11 (⟨X / 2,by lia⟩:∃ k,X = 2 * k) fun k hk=>?_;simp only [hk,show t.2.2 * (2 * k) = 2 * (t.2.2 * k) by ac_rfl];lia
 have hTE:∀ j,(nb (T.map (sc X)) j).map (·.1) = (Jz T j).map (·.1):=fun j=>by simp only [Fd,Ef,map_map];rfl
 have hnd:∀ j,((Jz T j).map (·.1)).Nodup:=Qy hk;have hnd2:∀ j,((nb (T.map (sc X)) j).map (·.1)).Nodup:=fun j=>by simp only [hTE];exact hnd j
 have D0:Dv (T.map (sc X)) [[r]] [r]:={
  ok:=⟨fun v hv=>by refine rwb (lS hv) ?_;exact ⟨by simp,by simpa using hr,le_refl _⟩,by simp⟩
  on:=.head _
  cl:=fun x hx hxw=>by
   have:x = r:=by simpa [Seen,Jb] using hx
   exact absurd (by simp only [this];exact .head _) hxw
  all:=fun i hi=>by simp only [lS hi];simp [Seen,Jb]
  nd:=by simp }
 refine el12 (Hp hT hE hev hTE hnd 4 [r] [[r]] D0 (by
  refine fun v hv zz=>el12 zz fun x hx e=>?_;rw [lS hv] at e;have:=congrArg List.length e;simp only [length_append] at this;have:=List.length_pos_iff.mpr hx
  lia) (by simp)) fun Y Dd L=>?_
 have hkY:Gp T r = [[r]] ++ Y:=Dd.eq;have L:=L 11 (by rw [length_map];simp;omega) (Gn T r) fun x y=>el12 y fun z hz e=>by
  unfold Gn;rewrite [Bool.or_eq_true,contains_iff_mem];refine rwb hkY ?_
  constructor
  ·rintro (h | h)
   ·rcases lA h with h | h
    ·exfalso
     replace e:=ts (lS h) e;have:=congrArg List.length e;simp only [length_append] at this;have:=List.length_pos_iff.mpr hz;lia
    ·exact h
   ·rw [e] at h;contradiction
  ·exact fun h=>.inl (mem_append_right _ h)
 have seen:∀ i,i < 5→Seen (Gp T r) i:=Jaa hk hr (by refine rwb hkY ?_;exact Z7 (by simp [Seen,Jb])) fun x hx c hc=>by
  have hc2:(c.1,c.2 * X) ∈ nb (T.map (sc X)) x:=by rw [Fd];exact List.mem_map.mpr ⟨c,hc,rfl⟩
  refine Decidable.byCases (p:=x = r) (fun hxr=>?_) fun hxr=>?_
  ·subst hxr;exact Dd.nbs (c.1,c.2 * X) hc2
  ·exact Dd.cl x hx (fun q=>hxr (lS q)) (c.1,c.2 * X) hc2
 have hN:NS (T.map (sc X)) (Gp T r) = 1:=by
  unfold NS;have:keep (unS (Gp T r)) (T.map (sc X)) = []:=by
   unfold keep;rw [filter_eq_nil_iff];intro e he q;refine el12 (lM he) fun t ht z2=>?_;subst z2;have h5:=hk.lt t ht;simp only [Bool.and_eq_true] at q;have hs:=seen t.1 (by lia);have q1:=q.1;unfold unS at q1;(simp only [Bool.not_eq_true'] at q1;rw [Bool.eq_false_iff] at q1);exact q1 (List.contains_iff_mem.mpr hs)
  refine rwb this ?_;rfl
 have g:=Hb hE 12 (fun Z=>true) r rfl (le_trans (Uu _ _) (by rw [length_map];lia));have et:tvw (T.map (sc X)) 12 [r] = tv (T.map (sc X)) 12 (fun Z=>true) r:=by
  refine rwb (Bo hE 12 [r] (by simp) (by simp)) ?_;exact Ov (fun x=>rfl) 12 r
 rw [← et] at g;have e1:keep (fun x=>off r x && true) (T.map (sc X)) = keep (unS [[r]]) (T.map (sc X)):=Ub fun e Z=>by
  have:∀ x,(off r x && true) = unS [[r]] x:=fun x=>by
   unfold off unS;(simp only [Bool.and_true];rw [Bool.eq_iff_iff]);simp [Jb]
  try dsimp only
  simp only [this,this]
 have e2:keep (fun Z=>true) (T.map (sc X)) = T.map (sc X):=Z9 fun Z Z=>⟨rfl,rfl⟩;simp only [e1,e2] at g;have g':wh (T.map (sc X)) 12 [r] * NS (T.map (sc X)) [[r]] = Yx ((kids (T.map (sc X)) [r]).map fun c=>wh (T.map (sc X)) 11 ([r] ++ [c.1])) * M (T.map (sc X)):=by
  rw [← Eb];exact g
 have L':Yx ((kids (T.map (sc X)) [r]).map fun c=>wh (T.map (sc X)) 11 ([r] ++ [c.1])) * NS (T.map (sc X)) (Gp T r) = NS (T.map (sc X)) [[r]] * Lz (T.map (sc X)) (Gn T r) 12 [r]:=L;simp only [hN,Int.mul_one] at L';simp only [L'] at g';have hN1:NS (T.map (sc X)) [[r]] ≠ 0:=Jc3 fun e he=>hev e (lF he).1;have hcut:=Jdy hnd2 (K:=Gn T r) (Fx T r) 12 [r];have hr1:Gn T r [r] = true:=by
  unfold Gn;refine rwb hkY ?_;simp
 rw [if_pos hr1] at hcut;have hl:M (((Ja T r).tail.filter fun p=>!(Gp T r).contains p.1.dropLast).map (lw X)) = Lz (T.map (sc X)) (Gn T r) 12 [r]:=by
  simp only [← hcut];have hp:=(Pz X hT hr).filter (fun e=>!Gn T r e.1);simp only [filter_map] at hp;simp only [← Pf hp]
  congr 2
  refine filter_congr (no_implicit_lambda% (G1 (h:=?_)));refine (?_:A1 _) _;intro p hp;show _ = !Gn T r p.1.dropLast;unfold Gn;have:p.1.dropLast ≠ []:=by
   have hpw:p ∈ Ja T r:=mem_of_mem_tail hp;simp only [Xn hT hr,tail_cons] at hp;have hp2:=(Kb T 12 [([r],1)]).mem_iff.mp hp;simp only [flatMap_cons,flatMap_nil,append_nil] at hp2;have hp3:lw X p ∈ sub (T.map (sc X)) 12 [r]:=by rw [Dg];exact mem_map_of_mem hp2
   obtain ⟨⟨x,hx⟩,_⟩:=Xr _ 12 [r] _ hp3;intro e;have:p.1.dropLast = [r] ++ x:=hx;replace this:=ts e this;contradiction
  have h2:p.1.dropLast.isEmpty = false:=by
   cases h:p.1.dropLast with
   | nil=>exact absurd h this
   | cons=>rfl
  simp only [h2,Bool.or_false]
 simp only [hl];refine Int.eq_of_mul_eq_mul_right hN1 ?_;simp only [g']
 ac_rfl
end
noncomputable def Jk (E:List Tie) (w:List Nat):List Tie:=keep (fun x=>!w.contains x) E
noncomputable def hl (E:List Tie) (g:Nat):Nat→List Nat→Int
 | 0,_=>0
 | f + 1,w=>((kids E w).map fun c=>-c.2 * ((if c.1 = g then M (Jk E (w ++ [c.1])) * M (Jk E (w ++ [c.1])) else 0) + hl E g f (w ++ [c.1]))).sum
theorem T9 {α:Type} {f:α→Int}:∀ l:List α,(∀ a ∈ l,f a = 0)→(l.map f).sum = 0
 | [],_=>rfl
 | a :: l,h=>by simp only [map_cons,sum_cons,h a (.head _),T9 l fun b hb=>h b (.tail _ hb)];rfl
theorem Jbh {E:List Tie} {w:List Nat} {c:Nat × Int} (hc:c ∈ kids E w):c.1 ∉ w:=by
 have:=(lF hc).2
 simpa using this
theorem Ex {E:List Tie} {g:Nat}:∀ (f:Nat) (w:List Nat),g ∈ w→hl E g f w = 0
 | 0,_,_=>rfl
 | f + 1,w,hg=>T9 _ fun c hc=>by
  rw [Ex f _ (mem_append_left _ hg),if_neg fun q=>Jbh hc (by simp only [q];exact hg)];lia
theorem Xb (E:List Tie) (w:List Nat) (k:Nat):Jk E (w ++ [k]) = keep (fun x=>off k x && !w.contains x) E:=Ub fun e Z=>by
 have:∀ x,(!(w ++ [k]).contains x) = (off k x && !w.contains x):=fun x=>by
  rw [Bool.eq_iff_iff];unfold off;simp only [Bool.not_eq_true',contains_eq_mem,decide_eq_false_iff_not,Bool.and_eq_true,bne_iff_ne,ne_eq,mem_append,mem_singleton,not_or];exact ⟨fun h=>⟨h.2,h.1⟩,fun h=>⟨h.2,h.1⟩⟩
 try dsimp only
 simp only [this,this]
theorem Jes (a b c d:Bool):(c && (a && (b && d))) = ((b && c) && (a && d)):=by revert a b c d;decide
theorem Mm {E:List Tie} (hE:∀ e ∈ E,e.1 ≠ e.2.1) {g:Nat}:∀ (f:Nat) (w:List Nat),w ≠ []→w.Nodup→g ∉ w→(Jk E w.dropLast).length ≤ f →
  M (Jk E w) * M (Jk E (w.dropLast ++ [g])) - M (Jk E w.dropLast) * M (Jk E (w ++ [g])) = hl E g f w:=by
 revert hE;revert E g;refine no_implicit_lambda% (G2 (h:=?_));refine (?_:A2 _) _ _;intro E g hE;intro zs
 induction zs with
 | zero=>
  intro w hw hn hg hf;have h0:Jk E w.dropLast = []:=List.length_eq_zero_iff.mp (by lia);have sm:∀ v,(∀ x ∈ w.dropLast,x ∈ v)→Jk E v = []:=fun v hv=>by
   unfold Jk keep at h0 ⊢;rw [filter_eq_nil_iff] at h0 ⊢;intro e he q;apply h0 e he;simp only [Bool.and_eq_true,Bool.not_eq_true',contains_eq_mem,decide_eq_false_iff_not] at q ⊢;exact ⟨fun z=>q.1 (hv _ z),fun z=>q.2 (hv _ z)⟩
  simp only [h0,sm w fun x hx=>(dropLast_sublist w).subset hx,sm (w.dropLast ++ [g]) fun x hx=>mem_append_left _ hx,sm (w ++ [g]) fun x hx=>mem_append_left _ ((dropLast_sublist w).subset hx)];rfl
 | succ f IH=>
  intro w hw hn hg hf;have hs:=Qa hw;have hu:Jb w ∉ w.dropLast:=fun h=>by
   rw [hs,nodup_append] at hn;exact hn.2.2 _ h _ (.head _) rfl
  have hug:Jb w ≠ g:=fun e=>hg (by refine rwb hs ?_;exact mem_append_right _ (by refine rwb e ?_;exact .head _));have hgd:g ∉ w.dropLast:=fun h=>hg ((dropLast_sublist w).subset h);have hkk:=Kx hE hw hn;have eW:∀ q:Nat→Bool,keep (fun x=>q x && (off (Jb w) x && !w.dropLast.contains x)) E = keep (fun x=>q x && !w.contains x) E:=fun q=>Ub fun e Z=>by
   have:∀ x,(off (Jb w) x && !w.dropLast.contains x) = !w.contains x:=fun x=>by
    rw [Bool.eq_iff_iff];unfold off;simp only [Bool.not_eq_true',contains_eq_mem,decide_eq_false_iff_not,Bool.and_eq_true,bne_iff_ne,ne_eq]
    constructor
    ·rintro ⟨h1,h2⟩ h3;rw [hs] at h3
     rcases lA h3 with h3 | h3
     ·exact h2 h3
     ·exact h1 (lS h3)
    ·intro h;exact ⟨fun e=>h (by (refine rwb hs ?_;simp only [e]);exact mem_append_right _ (.head _)),fun z=>h ((dropLast_sublist w).subset z)⟩
   try dsimp only
   simp only [this,this]
  have v1:=L6 (Jb w) E hE (fun x=>!w.dropLast.contains x) (by simpa using hu);have v2:=L6 (Jb w) E hE (fun x=>off g x && !w.dropLast.contains x) (by simp [off,hug,hu]);have t1:keep (fun x=>off (Jb w) x && !w.dropLast.contains x) E = Jk E w:=by
   have:=eW fun Z=>true
   simpa [Jk] using this
  have t2:∀ c,keep (fun x=>off c x && (off (Jb w) x && !w.dropLast.contains x)) E = Jk E (w ++ [c]):=fun c=>by simp only [eW,Xb]
  have t3:keep (fun x=>off (Jb w) x && (off g x && !w.dropLast.contains x)) E = Jk E (w ++ [g]):=by
   simp only [Xb,← eW];exact Vg fun x=>Bool.and_left_comm ..
  have t4:∀ c,keep (fun x=>off c x && (off (Jb w) x && (off g x && !w.dropLast.contains x))) E = Jk E (w ++ [c] ++ [g]):=fun c=>by
   simp only [Xb];have:∀ x,(!(w ++ [c]).contains x) = (off c x && !w.contains x):=fun x=>by
    rw [Bool.eq_iff_iff];unfold off;simp only [Bool.not_eq_true',contains_eq_mem,decide_eq_false_iff_not,Bool.and_eq_true,bne_iff_ne,ne_eq,mem_append,mem_singleton,not_or];exact ⟨fun h=>⟨h.2,h.1⟩,fun h=>⟨h.2,h.1⟩⟩
   have e2:keep (fun x=>off g x && !(w ++ [c]).contains x) E = keep (fun x=>(off g x && off c x) && !w.contains x) E:=Vg fun x=>by simp only [this,Bool.and_assoc]
   simp only [e2,← eW];exact Vg fun x=>Jes ..
  have n2:nb (keep (fun x=>off g x && !w.dropLast.contains x) E) (Jb w) = (kids E w).filter fun c=>off g c.1:=by
   (simp only [hkk];rw [← keep_keep,Oh (by simp [off,hug])])
  simp only [t1,← hkk] at v1;rw [t3,n2,Ga (g':=fun c=>M (Jk E (w ++ [c] ++ [g]))) fun c Z=>by rw [t4]] at v2;rw [Ga (g':=fun c=>M (Jk E (w ++ [c]))) fun c Z=>by rw [t2]] at v1;have d1:Jk E w.dropLast = keep (fun x=>!w.dropLast.contains x) E:=rfl;have d2:Jk E (w.dropLast ++ [g]) = keep (fun x=>off g x && !w.dropLast.contains x) E:=Xb _ _ _;simp only [d1,d2,v1,v2];have ih:∀ c ∈ kids E w,c.1 ≠ g→M (Jk E (w ++ [c.1])) * M (Jk E (w ++ [g])) - M (Jk E w) * M (Jk E (w ++ [c.1] ++ [g])) = hl E g f (w ++ [c.1]):=fun c hc hcg=>by
   have hc':=hc;rw [hkk] at hc';have hlt:=(Gz hE hc').2.2;rw [t1] at hlt
   have:=IH (w ++ [c.1]) (by simp) (Fw hn hc) (by
    intro q
    rcases lA q with q | q
    ·exact hg q
    ·exact hcg (lS q).symm) (by
    refine rwb dropLast_concat ?_;have:(keep (fun x=>!w.dropLast.contains x) E).length ≤ f + 1:=hf
    lia)
   rwa [dropLast_concat] at this
  generalize hA:M (Jk E w) = A at *;generalize hAg:M (Jk E (w ++ [g])) = Ag at *;have key:∀ ns:List (Nat × Int),(∀ c ∈ ns,c ∈ kids E w) →
    A * Wi (fun c=>M (Jk E (w ++ [c] ++ [g]))) (ns.filter fun c=>off g c.1) - Wi (fun c=>M (Jk E (w ++ [c]))) ns * Ag =
     (ns.map fun c=>-c.2 * ((if c.1 = g then M (Jk E (w ++ [c.1])) * M (Jk E (w ++ [c.1])) else 0) + hl E g f (w ++ [c.1]))).sum:=by
   intro ns
   induction ns with
   | nil=>intro Z;simp [Wh]
   | cons c ns ihn=>
    intro hns;have ihn:=ihn fun d hd=>hns d (.tail _ hd);have hc:=hns c (.head _);simp only [map_cons,sum_cons,← ihn,filter_cons,Z6];refine Decidable.byCases (p:=c.1 = g) (fun hcg=>?_) fun hcg=>?_
    ·rewrite [if_neg (by simp [off,hcg])];refine rwb (if_pos hcg) (rwb (Ex f _ (by refine rwb hcg ?_;exact mem_append_right _ (.head _))) (rwb hcg (rwb hAg ?_)));simp only [Int.add_mul,Int.add_zero,Int.neg_mul,Int.mul_assoc];lia
    ·rewrite [if_pos (by simp [off,hcg])];refine rwb (if_neg hcg) ?_;rewrite [Z6];refine rwf (ih c hc hcg) ?_;simp only [Int.mul_add,Int.add_mul,Int.zero_add,Int.neg_mul,Int.mul_sub];have e1:c.2 * (M (Jk E (w ++ [c.1])) * Ag) = c.2 * M (Jk E (w ++ [c.1])) * Ag:=by ac_rfl
     have e2:c.2 * (A * M (Jk E (w ++ [c.1] ++ [g]))) = A * (c.2 * M (Jk E (w ++ [c.1] ++ [g]))):=by ac_rfl
     simp only [e1,e2];lia
  have:=key (kids E w) fun c hc=>hc;show _ = ((kids E w).map fun c=>-c.2 * ((if c.1 = g then M (Jk E (w ++ [c.1])) * M (Jk E (w ++ [c.1])) else 0) + hl E g f (w ++ [c.1]))).sum;(simp only [← this];rw [Int.mul_add,Int.add_mul]);lia
end Mine.Tactic
end
section
open PySem PySem.W PyProof.Rows PySem.Calls
namespace Mine.Tactic
noncomputable def rnE {α β:Type} (f:α→β) (e:Ed α):Ed β:=(f e.1,f e.2.1,e.2.2)
theorem Fy {α β:Type} [DecidableEq α] [DecidableEq β] {f:α→β} {p:α→Bool} {q:β→Bool} (h:∀ x,q (f x) = p x):∀ E:List (Ed α),keep q (E.map (rnE f)) = (keep p E).map (rnE f):=by
 intro zs
 induction zs with
 | nil=>
  exact rfl
 | cons e E IH=>
  simp only [map_cons,Ju,Ju,IH];show (if q (f e.1) && q (f e.2.1) then _ else _) = _;simp only [h,h];split <;> rfl
theorem Pg {α β:Type} [DecidableEq α] [DecidableEq β] {f:α→β} (hf:∀ a b,f a = f b→a = b):∀ (n:Nat) (E:List (Ed α)),E.length ≤ n→M (E.map (rnE f)) = M E
 | _,[],_=>rfl
 | 0,_ :: _,h=>by simp at h
 | n + 1,l :: E,h=>by
  have hl:E.length ≤ n:=by simpa using h
  have ho:∀ x,Zc (rnE f l) (f x) = Zc l x:=fun x=>by
   simp only [Le,Le];have one:∀ a,off (f a) (f x) = off a x:=fun a=>by
    unfold off;rw [Bool.eq_iff_iff,bne_iff_ne,bne_iff_ne];exact ⟨fun h e=>h (e ▸ rfl),fun h e=>h (hf _ _ e)⟩
   show (off (f l.1) (f x) && off (f l.2.1) (f x)) = _;simp only [one,one]
  simp only [map_cons,Zn,Zn,Fy ho,Pg hf n E hl,Pg hf n _ (le_trans (Uu _ _) hl)];rfl
noncomputable def scE {α:Type} (X:Int) (e:Ed α):Ed α:=(e.1,e.2.1,e.2.2 * X)
theorem Jbv {α:Type} [DecidableEq α] (X:Int):∀ E:List (Ed α),mt (E.map (scE X)) = (mt E).map fun e=>(e.1,e.2 * X ^ (e.1.length / 2)):=by
 intro zs
 induction zs with
 | nil=>
  simp [Jcp]
 | cons l E IH=>
  have ih:=IH;refine rwb map_cons ?_;simp only [Oi];simp only [ih,map_append,filter_map,map_map,map_map]
  congr 1
  have e1:(mt E).filter ((fun e:List α × Int=>!e.1.contains (scE X l).1 && !e.1.contains (scE X l).2.1) ∘ fun e=>(e.1,e.2 * X ^ (e.1.length / 2))) = (mt E).filter fun e=>!e.1.contains l.1 && !e.1.contains l.2.1:=filter_congr fun e Z=>rfl;simp only [e1];refine map_congr_left fun e Z=>?_;show (e.1 ++ [l.1,l.2.1],e.2 * X ^ (e.1.length / 2) * (l.2.2 * X)) = (e.1 ++ [l.1,l.2.1],e.2 * l.2.2 * X ^ ((e.1 ++ [l.1,l.2.1]).length / 2));have:(e.1 ++ [l.1,l.2.1]).length / 2 = e.1.length / 2 + 1:=by refine rwb length_append ?_;show (e.1.length + 2) / 2 = _;lia
  simp only [this,Int.pow_succ]
  congr 1
  ac_rfl
theorem Hd (ls:List Lnk):Yh ls = mt ls.reverse:=by
 induction ls using rev_ind with
 | h0=>rfl
 | h1 ls l ih=>
  simp only [Yy,List.reverse_append,List.reverse_singleton,ih];show _ = mt (l :: ls.reverse);simp only [Oi];rfl
theorem N7 (ls:List Lnk):∀ e ∈ Yh ls,e.1.length % 2 = 0:=by
 induction ls using rev_ind with
 | h0=>intro e he;refine rwb (lS he) ?_;rfl
 | h1 ls l ih=>
  intro e he;rw [Yy] at he
  rcases lA he with he | he
  ·exact ih e he
  ·refine el12 (lM he) fun e0 he0 z2=>?_;subst z2;have:=ih e0 (lF he0).1;show (e0.1 ++ [l.1,l.2.1]).length % 2 = 0;refine rwb length_append ?_;show (e0.1.length + 2) % 2 = 0;lia
theorem Cf (ls:List Lnk):∀ e ∈ Yh ls,e.1.length ≤ 2 * ls.length:=by
 induction ls using rev_ind with
 | h0=>intro e he;refine rwb (lS he) ?_;exact le_refl _
 | h1 ls l ih=>
  intro e he;rw [Yy] at he;simp only [length_append,length_singleton]
  rcases lA he with he | he
  ·have:=ih e he;lia
  ·refine el12 (lM he) fun e0 he0 z2=>?_;subst z2;have:=ih e0 (lF he0).1;show (e0.1 ++ [l.1,l.2.1]).length ≤ _;refine rwb length_append ?_;show e0.1.length + 2 ≤ _;lia
theorem Mt (n:Nat) (a b:Nat→Int):∀ l:List Nat,valOf n (l.map fun k=>a k + b k) = valOf n (l.map a) + valOf n (l.map b)
 | []=>rfl
 | k :: l=>by
  have:=Mt n a b l;simp only [map_cons,J5,Jv] at this ⊢;simp only [this,Int.add_mul];lia
theorem Oq (n:Nat):∀ l:List Nat,valOf n (l.map fun Z=>0) = 0
 | []=>rfl
 | k :: l=>by
  have:=Oq n l;simp only [map_cons,J5,Jv] at this ⊢;rw [this];lia
theorem Pw (n:Nat) (v:Int) (j:Nat):∀ k,valOf n ((List.range k).map fun i=>if j = i then v else 0) = if j < k then v * (2 ^ n) ^ j else 0:=by
 intro zs
 induction zs with
 | zero=>
  exact rfl
 | succ k IH=>
  simp only [range_succ,map_append,Uk,IH,length_map,length_range,map_cons,map_nil];have e1:∀ x:Int,valOf n [x] = x:=fun x=>by simp [J5,Jv]
  rw [e1]
  by_cases h:j < k
  ·(refine rwb (if_pos h) (rwb (if_neg (by lia)) (rwb (if_pos (by lia)) ?_)));lia
  ·by_cases h2:j = k
   ·(refine rwb (if_neg h) (rwb (if_pos h2) (rwb (if_pos (by lia)) (rwb h2 (rwf Int.pow_mul ?_)))));lia
   ·(refine rwb (if_neg h) (rwb (if_neg h2) (rwb (if_neg (by lia)) ?_)));lia
theorem Tz (n N:Nat):∀ es:List Prg,(∀ e ∈ es,e.1.length % 2 = 0 ∧ e.1.length ≤ 2 * N)→valOf n ((List.range (N + 1)).map fun k=>((es.filter fun e=>e.1.length == 2 * k).map (·.2)).sum) = (es.map fun e=>e.2 * (2 ^ n) ^ (e.1.length / 2)).sum:=by
 intro zs
 induction zs with
 | nil=>
  intro Z;exact Oq n _
 | cons e es IH=>
  intro h;have ih:=IH fun e he=>h e (.tail _ he);have he:=h e (.head _);have e1:((List.range (N + 1)).map fun k=>(((e :: es).filter fun e=>e.1.length == 2 * k).map (·.2)).sum) = (List.range (N + 1)).map fun k=>(if e.1.length / 2 = k then e.2 else 0) + ((es.filter fun e=>e.1.length == 2 * k).map (·.2)).sum:=by
   refine map_congr_left fun k Z=>?_;refine rwb filter_cons ?_
   by_cases h2:e.1.length = 2 * k
   ·refine rwb (if_pos (by simpa using h2)) (rwb (if_pos (by lia)) (rwb map_cons ?_));exact rwb sum_cons rfl
   ·(refine rwb (if_neg (by simpa using h2)) (rwb (if_neg (by lia)) ?_));lia
  refine rwb e1 ?_;rewrite [Mt];refine rwb ih ?_;rewrite [Pw];refine rwb (if_pos (by lia)) (rwb map_cons ?_);exact rwb sum_cons rfl
theorem Dy (n:Nat) (ls:List Lnk):valOf n (pairF ls) = M (ls.map (scE (2 ^ n))):=by
 have h1:valOf n (pairF ls) = ((Yh ls).map fun e=>e.2 * (2 ^ n) ^ (e.1.length / 2)).sum:=Tz n ls.length (Yh ls) fun e he=>⟨N7 ls e he,Cf ls e he⟩;simp only [h1,Hd];have h2:M (ls.map (scE (2 ^ n))) = M (ls.reverse.map (scE (2 ^ n))):=Pf ((reverse_perm ls).symm.map _);simp only [h2];unfold M;simp only [Jbv,map_map];rfl
theorem Er (n:Nat) (T:List Tie):Gk n T = M (T.map (sc (2 ^ n))):=by
 unfold Gk;simp only [Dy,map_map];have:(scE (2 ^ n) ∘ D9) = rnE L ∘ sc (2 ^ n):=rfl;rw [this,← map_map];exact Pg (f:=L) (fun a b=>Iw) _ _ (le_refl _)
noncomputable def Es (T:List Tie) (r:Nat):List Way:=(Ja T r).tail.filter fun p=>!(Gp T r).contains p.1.dropLast
noncomputable def Yn (T:List Tie) (r:Nat):List Lnk:=(Es T r).map fun p=>(Jf p.1.dropLast,Jf p.1,p.2)
theorem Jcr (n:Nat) (T:List Tie) (r:Nat):valOf n (pairF (Yn T r)) = M ((Es T r).map (lw (2 ^ n))):=by
 rw [Dy];unfold Yn;refine rwb map_map ?_;have:((scE (2 ^ n)) ∘ fun p:Way=>((Jf p.1.dropLast,Jf p.1,p.2):Lnk)) = rnE Jf ∘ lw (2 ^ n):=rfl;refine rwb this (rwf map_map ?_);exact Pg (f:=Jf) (fun a b=>Y6) _ _ (le_refl _)
end Mine.Tactic
end
section
namespace Mine.Tactic
noncomputable def RW (x y:Way):Prop:=x.1 ≠ y.1 ∧ x.1.length ≤ y.1.length
section
variable {T:List Tie} {m:Nat} (hk:Yf T m) {r:Nat} (hr:r < 5)
include hk
theorem Dj (w:List Nat):(steps T w).Pairwise RW:=by
 rw [Wl,pairwise_map];have h:((Jz T (Jb w)).map (·.1)).Pairwise (· ≠ ·):=Qy hk (Jb w);rw [pairwise_map] at h;refine (h.sublist filter_sublist).imp fun {a b} hab=>⟨fun e=>hab ?_,by simp⟩;have:=append_cancel_left e;injection this
theorem Vr {w:List Nat} {p:Way} (h:p ∈ steps T w):p.1.dropLast = w ∧ p.1.length = w.length + 1:=by
 rw [Wl] at h;obtain ⟨a,_,rfl⟩:=lM h;exact ⟨dropLast_concat,by simp⟩
include hr
theorem Fj:∀ k,(Jy T r k).Pairwise RW:=by
 intro zs
 induction zs with
 | zero=>
  exact List.pairwise_singleton _ _
 | succ k IH=>
  rw [← Ua,List.pairwise_flatMap];refine ⟨fun p Z=>Dj hk p.1,(IH).imp_of_mem fun {p q} hp hq hpq x hx y hy=>?_⟩;refine Yd (Vr hk hx) fun x1 x2=>?_;refine Yd (Vr hk hy) fun y1 y2=>?_;have:=(J6 hk.in hr k p hp).len;have:=(J6 hk.in hr k q hq).len;exact ⟨fun e=>hpq.1 (by (refine rwf x1 (rwf y1 ?_);exact rwb e rfl)),by lia⟩
theorem Rq:(Ja T r).Pairwise RW:=by
 show ((List.range 5).flatMap (Jy T r)).Pairwise RW;rw [List.pairwise_flatMap];refine ⟨fun k Z=>Fj hk hr k,List.pairwise_lt_range.imp fun {j k} hjk x hx y hy=>?_⟩;have:=(J6 hk.in hr j x hx).len;have:=(J6 hk.in hr k y hy).len;exact ⟨fun e=>by have:=congrArg List.length e;lia,by lia⟩
theorem Rr:((Ja T r).map (·.1)).Nodup:=by
 unfold List.Nodup;rw [pairwise_map];exact (Rq hk hr).imp fun h=>h.1
theorem Zf {p:Way} (hp:p ∈ Ja T r):∃ k,k ≤ 4 ∧ p ∈ Jy T r k:=Ul.mp hp
theorem Xm {p:Way} (hp:p ∈ Ja T r) (h2:2 ≤ p.1.length):∃ q ∈ Ja T r,p ∈ steps T q.1:=by
 refine el12 (Zf hk hr hp) fun k hk4 hpk=>?_;have hl:=(J6 hk.in hr k p hpk).len;refine el11 (⟨k - 1,by lia⟩:∃ j,k = j + 1) fun j z1=>?_;subst z1;rw [← Ua] at hpk;refine el12 (List.mem_flatMap.mp hpk) fun q hq hpq=>?_;exact ⟨q,Ul.mpr ⟨j,by lia,hq⟩,hpq⟩
theorem Qw {q p:Way} (hq:q ∈ Ja T r) (hp:p ∈ steps T q.1):p ∈ Ja T r:=by
 refine el12 (Zf hk hr hq) fun k hk4 hqk=>?_;have hpk:p ∈ Jy T r (k + 1):=by rw [← Ua];exact List.mem_flatMap.mpr ⟨q,hqk,hp⟩
 by_cases h:k + 1 ≤ 4
 ·exact Ul.mpr ⟨k + 1,h,hpk⟩
 ·have:k + 1 = 5:=by lia
  (replace hpk:=this ▸ hpk;replace hpk:=(Fl hk.in hr) ▸ hpk);contradiction
theorem Kj:∃ t,Ja T r = ([r],1) :: t:=⟨_,Xn hk.in hr⟩
theorem Ms {i:Nat} (h0:0 < i) (h1:i < (Ja T r).length):2 ≤ ((Ja T r).getD i ([],0)).1.length:=by
 have pw:=List.pairwise_iff_getElem.mp (Rq hk hr) 0 i (by lia) h1 h0;refine el11 (Kj hk hr) fun t ht=>?_;have e0:(Ja T r)[0]'(by lia) = ([r],1):=by simp [ht]
 replace pw:=e0 ▸ pw;have em:(Ja T r).getD i ([],0) = (Ja T r)[i]:=by (refine rwb (List.getD_eq_getElem?_getD) (rwb (List.getElem?_eq_getElem h1) ?_));rfl
 refine rwb em ?_;have hm:(Ja T r)[i] ∈ Ja T r:=getElem_mem h1;refine el12 (Zf hk hr hm) fun k Z hpk=>?_;have hl:=(J6 hk.in hr k _ hpk).len
 rcases Nat.lt_or_ge k 1 with h | h
 ·exfalso
  have:k = 0:=by lia
  subst this;have:(Ja T r)[i] = ([r],1):=lS hpk;replace pw:=this ▸ pw;exact pw.1 rfl
 ·lia
theorem Ja1 {i:Nat} (h0:0 < i) (h1:i < (Ja T r).length):∃ q ∈ (Ja T r).map (·.1),q = ((Ja T r).getD i ([],0)).1.dropLast:=by
 have em:(Ja T r).getD i ([],0) = (Ja T r)[i]:=by (refine rwb (List.getD_eq_getElem?_getD) (rwb (List.getElem?_eq_getElem h1) ?_));rfl
 refine el12 (Xm hk hr (p:=(Ja T r).getD i ([],0)) (by rw [em];exact getElem_mem h1) (Ms hk hr h0 h1)) fun q hq hs=>?_;exact ⟨q.1,mem_map_of_mem hq,(Vr hk hs).1.symm⟩
theorem Ui (hc:(Ja T r).length ≤ 15):We (Ja T r) where
 ne:=by refine el11 (Kj hk hr) fun t ht=>?_;refine rwb ht ?_;simp
 len:=hc
 nd:=Rr hk hr
 inn:=fun p hp=>by
  refine el12 (Zf hk hr hp) fun k Z hpk=>?_;have:=J6 hk.in hr k p hpk;exact ⟨this.lt,by refine rwb this.len ?_;have:=this.le;lia,this.wt⟩
 up:=fun i h0 h1=>Ja1 hk hr h0 h1
end
theorem Qo {α:Type} [DecidableEq α]:∀ {a b:List α},a.Nodup→b.Nodup→(∀ x,x ∈ a ↔ x ∈ b)→a.Perm b
 | [],b,_,_,h=>by
  cases b with
  | nil=>exact .refl _
  | cons y b=>exact absurd ((h y).mpr (.head _)) (by simp)
 | x :: a,b,ha,hb,h=>by
  have hx:x ∈ b:=(h x).mp (.head _);refine (List.Perm.cons x ?_).trans (List.perm_cons_erase hx).symm;rw [nodup_cons] at ha;refine Qo ha.2 (hb.erase x) fun y=>?_;rw [List.Nodup.mem_erase_iff hb,← h y,mem_cons]
  constructor
  ·exact fun hy=>⟨fun e=>ha.1 (e ▸ hy),.inr hy⟩
  ·rintro ⟨h1,h2 | h2⟩
   ·exact absurd h2 h1
   ·exact h2
section
variable {T:List Tie} {m:Nat} (hk:Yf T m) {r:Nat} (hr:r < 5) (hc:(Ja T r).length ≤ 15) (n:Nat)
noncomputable def Pu (T:List Tie) (n:Nat) (w:List Nat):Int × Int:=tvw (T.map (sc (2 ^ n))) (13 - w.length) w
noncomputable def brW (T:List Tie) (n:Nat) (p:Way):Int × Int:=br (Pu T n p.1) (p.2 * 2 ^ n)
theorem Nk {w:List Nat} (hw:w.length ≤ 12):Pu T n w = Yo ((steps T w).map (brW T n)):=by
 unfold Pu;refine el11 (⟨12 - w.length,by lia⟩:∃ f,13 - w.length = f + 1) fun f hf=>?_;refine rwb hf ?_;show Yo _ = _;simp only [R8,Wl,map_map,map_map]
 congr 1
 refine map_congr_left fun a Z=>?_;show br (tvw _ f (w ++ [a.1])) (a.2 * 2 ^ n) = br (Pu T n (w ++ [a.1])) (a.2 * 2 ^ n);unfold Pu
 congr 2
 simp only [length_append,length_singleton];lia
noncomputable def ent (W:List Way) (n k a:Nat):Int × Int:=((Zo W n k).1.getD a 0,(Zo W n k).2.getD a 0)
noncomputable def Ws (W:List Way) (k a:Nat):List Nat:=((downs W.length).take k).filter fun c=>above W c == a
theorem Lu {N k:Nat} (h:k ≤ N - 1):(downs N).take k = (List.range k).map fun j=>N - 1 - j:=by
 unfold downs;rw [← map_take,List.take_range,Nat.min_eq_left h]
theorem Ip {l:List Int} {i j:Nat} {v:Int} (h:i ≠ j):(l.set i v).getD j 0 = l.getD j 0:=by
 simp only [List.getD_eq_getElem?_getD,List.getD_eq_getElem?_getD,List.getElem?_set_ne h]
theorem Qq {l:List Int} {i:Nat} {v:Int} (h:i < l.length):(l.set i v).getD i 0 = v:=by
 rw [List.getD_eq_getElem?_getD,List.getElem?_set_self h];rfl
include hk hr hc
theorem Ux (k:Nat) (hk':k ≤ (Ja T r).length - 1) (h1:∀ a,a < (Ja T r).length→ent (Ja T r) n k a = Yo ((Ws (Ja T r) k a).map fun c=>brW T n ((Ja T r).getD c ([],0)))) :
  ent (Ja T r) n k ((Ja T r).length - 1 - k) = Pu T n ((Ja T r).getD ((Ja T r).length - 1 - k) ([],0)).1:=by
  revert hk hr hc hk' h1;revert T m r n k;refine no_implicit_lambda% (G5 (h:=?_));refine (?_:A5 _) _ _ _ _ _;intro T m r n k hk hr hc hk' h1;have hW:=Ui hk hr hc;have hne:=hW.ne;obtain ⟨i,hi⟩:∃ i,i = (Ja T r).length - 1 - k:=⟨_,rfl⟩;refine rwf hi ?_;have hil:i < (Ja T r).length:=by omega
  have egl:∀ c,c < (Ja T r).length→(Ja T r)[c]? = some ((Ja T r).getD c ([],0)):=fun c hc=>by
   (refine rwb (List.getD_eq_getElem?_getD) (rwb (List.getElem?_eq_getElem hc) ?_));rfl
  have hq:=List.mem_of_getElem? (egl i hil);generalize hqq:(Ja T r).getD i ([],0) = q at *;have hq5:=(hW.inn q hq).2.1;(simp only [h1 i hil];refine rwb (Nk n (by lia)) ?_);have:(Ws (Ja T r) k i).map (fun c=>brW T n ((Ja T r).getD c ([],0))) = ((Ws (Ja T r) k i).map fun c=>(Ja T r).getD c ([],0)).map (brW T n):=by simp only [map_map];rfl
  simp only [this];refine Si (List.Perm.map _ ?_);have hmem:∀ c,c ∈ Ws (Ja T r) k i ↔ (i < c ∧ c < (Ja T r).length) ∧ above (Ja T r) c = i:=fun c=>by
   unfold Ws;refine rwb (Lu hk') ?_;rw [List.mem_filter,mem_map,beq_iff_eq]
   constructor
   ·rintro ⟨⟨j,hj,rfl⟩,h⟩;have:=List.mem_range.mp hj;exact ⟨by lia,h⟩
   ·rintro ⟨h,h2⟩;exact ⟨⟨(Ja T r).length - 1 - c,List.mem_range.mpr (by omega),by omega⟩,h2⟩
  have pw:=List.pairwise_iff_getElem.mp (Rq hk hr);have hinj:∀ c d,c < (Ja T r).length→d < (Ja T r).length→((Ja T r).getD c ([],0)).1 = ((Ja T r).getD d ([],0)).1→c = d:=fun c d hc hd e=>by
   rcases Nat.lt_trichotomy c d with h | h | h
   ·exfalso
    have:=(pw c d hc hd h).1;apply this;simp only [List.getD_eq_getElem?_getD,List.getD_eq_getElem?_getD,List.getElem?_eq_getElem hc,List.getElem?_eq_getElem hd] at e;exact e
   ·exact h
   ·exfalso
    have:=(pw d c hd hc h).1;apply this;simp only [List.getD_eq_getElem?_getD,List.getD_eq_getElem?_getD,List.getElem?_eq_getElem hc,List.getElem?_eq_getElem hd] at e;exact e.symm
  have hab:∀ c,0 < c→c < (Ja T r).length→above (Ja T r) c < (Ja T r).length ∧ ((Ja T r).getD (above (Ja T r) c) ([],0)).1 = ((Ja T r).getD c ([],0)).1.dropLast:=fun c h0 h1=>by
   refine V5 (L4 hW h0 h1) fun a1 a2 Z=>?_;refine ⟨a1,?_⟩;rw [List.getElem?_map,egl _ a1] at a2;have:Jf ((Ja T r).getD (above (Ja T r) c) ([],0)).1 = Jf ((Ja T r).getD c ([],0)).1.dropLast:=by injection a2
   exact Y6 this
  refine Qo ?_ ((Dj hk q.1).imp fun h e=>h.1 (congrArg _ e)) fun p=>?_
  ·unfold List.Nodup;rw [pairwise_map];have hdn:(Ws (Ja T r) k i).Nodup:=by
    unfold Ws;simp only [Lu hk'];refine List.Nodup.sublist filter_sublist ?_;unfold List.Nodup;rw [pairwise_map];refine List.nodup_range.imp_of_mem fun {a b} ha hb hab e=>hab ?_;have:=List.mem_range.mp ha;have:=List.mem_range.mp hb;lia
   refine hdn.imp_of_mem fun {a b} ha hb hne' e=>hne' ?_;have h1:=(hmem a).mp ha;have h2:=(hmem b).mp hb;exact hinj a b (by lia) (by lia) (congrArg _ e)
  ·rw [mem_map]
   constructor
   ·refine fun zz=>el12 zz fun c hcm z2=>?_;subst z2;obtain ⟨⟨c1,c2⟩,c3⟩:=(hmem c).mp hcm;obtain ⟨a1,a2⟩:=hab c (by lia) c2;rw [c3,hqq] at a2;refine el12 (Xm hk hr (p:=(Ja T r).getD c ([],0)) (List.mem_of_getElem? (egl c c2)) (Ms hk hr (by lia) c2)) fun q' hq' hs=>?_;have:=(Vr hk hs).1;simp only [a2,this];exact hs
   ·intro hp;have hpw:=Qw hk hr hq hp;refine el11 (List.getElem?_of_mem hpw) fun c hcg=>?_;have hcl:=(lG hcg).1;have ecg:(Ja T r).getD c ([],0) = p:=by (refine rwb (List.getD_eq_getElem?_getD) (rwb hcg ?_));rfl
    refine Yd (Vr hk hp) fun p1 p2=>?_;have hci:i < c:=by
     rcases Nat.lt_trichotomy i c with h | h | h
     ·exact h
     ·exfalso
      rw [← h,hqq] at ecg;rw [ecg] at p2;lia
     ·exfalso
      have:=(pw c i hcl hil h).2;have e1:(Ja T r)[c] = p:=(lG hcg).2;have e2:(Ja T r)[i] = q:=by
       have:=egl i hil;rw [hqq,List.getElem?_eq_getElem hil] at this;injection this
      rw [e1,e2] at this;lia
    refine ⟨c,(hmem c).mpr ⟨⟨hci,hcl⟩,?_⟩,ecg⟩;refine Yd (hab c (by lia) hcl) fun a1 a2=>?_;refine hinj _ _ a1 hil ?_;simp only [a2,ecg,p1,hqq]
theorem Cn:∀ k,k ≤ (Ja T r).length - 1→∀ a,a < (Ja T r).length→ent (Ja T r) n k a = Yo ((Ws (Ja T r) k a).map fun c=>brW T n ((Ja T r).getD c ([],0))):=by
 revert hk hr hc;revert T m r n;refine no_implicit_lambda% (G4 (h:=?_));refine (?_:A4 _) _ _ _ _;intro T m r n hk hr hc;intro zs
 induction zs with
 | zero=>
  intro Z a ha;have e1:Ws (Ja T r) 0 a = []:=by unfold Ws;simp only [take_zero];rfl
  refine rwb e1 ?_;show ((List.replicate _ 1).getD a 0,(List.replicate _ 0).getD a 0) = (1,0);simp only [List.getD_eq_getElem?_getD,List.getD_eq_getElem?_getD,List.getElem?_replicate,List.getElem?_replicate,if_pos ha,if_pos ha];rfl
 | succ k IH=>
  intro hk' a ha;have hW:=Ui hk hr hc;have ih:=IH (by lia);have sec:=Ux hk hr hc n k (by lia) ih;have rl:=O5 (Ja T r) n k;refine el11 (⟨_,rfl⟩:∃ i,i = (Ja T r).length - 1 - k) fun i hi=>?_;replace sec:=Eq.symm hi ▸ sec;have hi0:0 < i:=by lia
  have hi1:i < (Ja T r).length:=by lia
  refine V5 (L4 hW hi0 hi1) fun a1 Z Z=>?_;have ed:Ws (Ja T r) (k + 1) a = Ws (Ja T r) k a ++ (if above (Ja T r) i = a then [i] else []):=by
   unfold Ws;refine rwb take_add_one (rwb (Rb (by lia)) (rwf hi ?_));rw [filter_append]
   congr 1
   by_cases h:above (Ja T r) i = a
   ·refine rwb (if_pos h) ?_;simp [h]
   ·refine rwb (if_neg h) ?_;simp [h]
  simp only [ed,map_append,Tc,← ih a ha];unfold ent;refine rwb (Kt (by lia)) (rwf hi ?_);unfold Vu
  by_cases h:above (Ja T r) i = a
  ·refine rwb (if_pos h) (rwb h ?_);replace a1:=h ▸ a1;show ((List.set _ a _).getD a 0,(List.set _ a _).getD a 0) = _;refine rwb (Qq (by lia)) (rwb (Qq (by lia)) ?_);simp only [map_cons,map_nil,Ye,Qk,Sj];unfold brW br dm;refine rwf sec ?_;unfold ent;refine Prod.ext rfl ?_;show _ + _ = _ + _
   congr 1
   show _ * _ = _ * (_ * _)
   congr 1
   dsimp only
   ac_rfl
  ·refine rwb (if_neg h) (rwb map_nil (rwb Qk ?_));rw [Sj];show ((List.set _ (above (Ja T r) i) _).getD a 0,(List.set _ (above (Ja T r) i) _).getD a 0) = _;refine rwb (Ip h) ?_;exact rwb (Ip h) rfl
theorem B1:Jbb (Ja T r) n = wh (T.map (sc (2 ^ n))) 12 [r]:=by
 have hne:=(Ui hk hr hc).ne;have h:=Ux hk hr hc n ((Ja T r).length - 1) (le_refl _) (Cn hk hr hc n _ (le_refl _));rw [Nat.sub_self] at h;obtain ⟨t,ht⟩:=Kj hk hr;have e0:((Ja T r).getD 0 ([],0)).1 = [r]:=by rw [ht];rfl
 rw [e0] at h;have h':((Zo (Ja T r) n ((Ja T r).length - 1)).1.getD 0 0,(Zo (Ja T r) n ((Ja T r).length - 1)).2.getD 0 0) = tvw (T.map (sc (2 ^ n))) 12 [r]:=h;unfold Jbb wh;simp only [← h']
end
noncomputable def freeB (k x:Nat):Bool:=Nat.beq (Nat.land (Nat.shiftRight k x) 1) 0
noncomputable def O8 (k x:Nat):Nat:=Nat.lor k (Nat.shiftLeft 1 x)
noncomputable def De (k:Nat) (g:Nat→Nat) (l:List Nat):Nat:=List.rec (motive:=fun Z=>Nat) 0 (fun u Z acc=>bif freeB k u then Nat.add (Nat.succ (g u)) acc else acc) l
noncomputable def nbs (P:List (Nat × Nat)) (v:Nat):List Nat:=List.rec (motive:=fun Z=>List Nat) []
 (fun q Z acc=>bif Nat.beq q.1 v then q.2 :: (bif Nat.beq q.2 v then q.1 :: acc else acc) else bif Nat.beq q.2 v then q.1 :: acc else acc) P
noncomputable def cnt (P:List (Nat × Nat)) (f:Nat):Nat→Nat→Nat:=Nat.rec (fun Z Z=>0) (fun Z ih k v=>De k (fun u=>ih (O8 k u) u) (nbs P v)) f
theorem Ht (P:List (Nat × Nat)) (f k v:Nat):cnt P (f + 1) k v = De k (fun u=>cnt P f (O8 k u) u) (nbs P v):=rfl
theorem P0 (k:Nat) (g:Nat→Nat) (q:Nat × Nat) (P:List (Nat × Nat)) (v:Nat):De k g (nbs (q :: P) v) =
  (bif Nat.beq q.1 v && freeB k q.2 then Nat.succ (g q.2) else 0) + ((bif Nat.beq q.2 v && freeB k q.1 then Nat.succ (g q.1) else 0) + De k g (nbs P v)):=by
 have e1:nbs (q :: P) v = bif Nat.beq q.1 v then q.2 :: (bif Nat.beq q.2 v then q.1 :: nbs P v else nbs P v) else bif Nat.beq q.2 v then q.1 :: nbs P v else nbs P v:=rfl;have e2:∀ u l,De k g (u :: l) = bif freeB k u then Nat.succ (g u) + De k g l else De k g l:=fun Z Z=>rfl;refine rwb e1 ?_;generalize nbs P v = l;cases Nat.beq q.1 v <;> cases Nat.beq q.2 v <;> simp only [cond_true,cond_false,Bool.true_and,Bool.false_and,e2,Nat.zero_add]
 all_goals (cases freeB k q.1 <;> cases freeB k q.2 <;> simp only [cond_true,cond_false,Nat.zero_add])
noncomputable def Ke:List (Nat × Nat):=[(0,1),(0,2),(0,3),(0,4),(1,2),(1,3),(1,4),(2,3),(2,4),(3,4)]
noncomputable def En (P:List (Nat × Nat)):Bool:=[0,1,2,3,4].all fun r=>Nat.ble (cnt P 4 (O8 0 r) r) 14
noncomputable def shapes:Bool:=[0,1].all fun p1=>[0,1,2].all fun p2=>[0,1,2,3].all fun p3=>
 let t:=[(0,1),(p1,2),(p2,3),(p3,4)]
 En t && Ke.all fun x=>t.contains x || (En (t ++ [x]) && Ke.all fun y=>t.contains y || x == y || En (t ++ [x,y]))
theorem P9:shapes = true:=by decide +kernel
theorem Ka:∀ k,k < 32→∀ y,y < 5→O8 k y < 32 ∧ ∀ x,x < 5→(freeB (O8 k y) x = true ↔ freeB k x = true ∧ x ≠ y):=by decide +kernel
theorem beq_iff (a b:Nat):(Nat.beq a b = true) ↔ a = b:=⟨Nat.eq_of_beq_eq_true,fun h=>by subst h;exact Nat.beq_refl a⟩
noncomputable def prT (t:Tie):Nat × Nat:=(t.1,t.2.1)
theorem Bx {T:List Tie} (hT:∀ t ∈ T,Yj t):∀ (f:Nat) (w:List Nat) (k:Nat),k < 32→(∀ x,x < 5→(freeB k x = true ↔ x ∉ w))→(Ww T f w).length = cnt (T.map prT) f k (Jb w):=by
 intro zs
 induction zs with
 | zero=>
  intro Z Z Z Z;exact rfl
 | succ f IH=>
  intro w k hk hf;rw [Ht];show ((T.flatMap (stepT w)).flatMap fun p=>p :: Ww T f p.1).length = _;have one:∀ (y:Nat) (wt:Int),y < 5→y ∉ w→(Ww T f (w ++ [y])).length = cnt (T.map prT) f (O8 k y) y:=fun y wt hy hyw=>by
   have:=IH (w ++ [y]) (O8 k y) (Ka k hk y hy).1 fun x hx=>by
    rw [(Ka k hk y hy).2 x hx,hf x hx,mem_append,mem_singleton,not_or]
   rw [Yr] at this;exact this
  have part:∀ (a b:Nat) (wt:Int),b < 5→((([(a,b)]:List (Nat × Nat)).filter fun q=>q.1 == Jb w && !w.contains q.2).map fun q=>((w ++ [q.2],wt):Way)).flatMap (fun p=>p :: Ww T f p.1) = if a = Jb w ∧ b ∉ w then (w ++ [b],wt) :: Ww T f (w ++ [b]) else []:=fun a b wt hb=>by
   by_cases h1:a = Jb w <;> by_cases h2:b ∈ w <;> simp [h1,h2]
  have cond:∀ (a b:Nat) (wt:Int),b < 5→(if a = Jb w ∧ b ∉ w then ((w ++ [b],wt) :: Ww T f (w ++ [b]):List Way) else []).length = (bif Nat.beq a (Jb w) && freeB k b then Nat.succ (cnt (T.map prT) f (O8 k b) b) else 0):=fun a b wt hb=>by
   by_cases h:a = Jb w ∧ b ∉ w
   ·have:(Nat.beq a (Jb w) && freeB k b) = true:=by rw [Bool.and_eq_true,beq_iff,hf b hb];exact h
    (refine rwb (if_pos h) (rwb this (rwb length_cons (rwb (one b wt hb h.2) ?_))));rfl
   ·have:(Nat.beq a (Jb w) && freeB k b) = false:=by
     rw [Bool.eq_false_iff,ne_eq,Bool.and_eq_true,beq_iff,hf b hb];exact h
    (refine rwb (if_neg h) (rwb this ?_));rfl
  have loop:∀ T':List Tie,(∀ t ∈ T',Yj t)→((T'.flatMap (stepT w)).flatMap fun p=>p :: Ww T f p.1).length = De k (fun u=>cnt (T.map prT) f (O8 k u) u) (nbs (T'.map prT) (Jb w)):=by
   intro T'
   induction T' with
   | nil=>intro Z;rfl
   | cons t T' ih=>
    intro h;have ht:=h t (.head _);refine rwb flatMap_cons (rwb flatMap_append (rwb length_append (rwb (ih fun t ht=>h t (.tail _ ht)) (rwb map_cons ?_))));rw [P0];have e:stepT w t = ((([(t.1,t.2.1)]:List (Nat × Nat)).filter fun q=>q.1 == Jb w && !w.contains q.2).map fun q=>((w ++ [q.2],t.2.2):Way)) ++ ((([(t.2.1,t.1)]:List (Nat × Nat)).filter fun q=>q.1 == Jb w && !w.contains q.2).map fun q=>((w ++ [q.2],t.2.2):Way)):=by
     unfold stepT Uz;(refine rwf map_append ?_;rw [← filter_append]);rfl
    refine rwb e (rwb flatMap_append (rwb length_append (rwb (part _ _ _ ht.2.1) (rwb (part _ _ _ ht.1) (rwb (cond _ _ _ ht.2.1) (rwb (cond _ _ _ ht.1) ?_))))));show _ + _ + _ = _ + (_ + _);rw [Nat.add_assoc];rfl
  exact loop T hT
theorem Pt (T:List Tie) (r:Nat):Ja T r = ([r],1) :: bfs T 4 [([r],1)]:=by
 have e0:([([r],1)]:List Way) = Jy T r 0:=rfl;have b:∀ f k,bfs T (f + 1) (Jy T r k) = Jy T r (k + 1) ++ bfs T f (Jy T r (k + 1)):=fun f k=>rfl;rw [e0,b,b,b,b];show Qx T r 4 = _;rw [Yu,Yu,Yu,Yu,Kl];simp [bfs]
theorem Ny {α:Type} {t:List α} {x:α} {y:List α} (h:(t ++ x :: y).Nodup):x ∉ t:=fun hx=>(List.nodup_append.mp h).2.2 x hx x (.head _) rfl
theorem Oo {T:List Tie} (hk:Yf T 2) {r:Nat} (hr:r < 5):(Ja T r).length ≤ 15:=by
 have hT:=hk.in
 rewrite [Pt];refine rwb length_cons (rwb ((Kb T 4 _).length_eq) (rwb flatMap_cons (rwb flatMap_nil ?_)));rw [append_nil];have hfree:∀ x,x < 5→(freeB (O8 0 r) x = true ↔ x ∉ [r]):=fun x hx=>by
  rw [(Ka 0 (by decide) r hr).2 x hx];have:freeB 0 x = true:=by
   have h:∀ x,x < 5→freeB 0 x = true:=by decide
   exact h x hx
  simp [this]
 have hc:=Bx hT 4 [r] (O8 0 r) (Ka 0 (by decide) r hr).1 hfree;replace hc:=(show Jb [r] = r from rfl) ▸ hc;refine rwb hc ?_;clear hc hfree
 suffices h:En (T.map prT) = true from
  Nat.succ_le_succ (Nat.le_of_ble_eq_true (List.all_eq_true.mp h r ((by decide:∀ r,r < 5→r ∈ [0,1,2,3,4]) r hr)))
 obtain ⟨p1,p2,p3,w0,w1,w2,w3,Y,rfl,h1,h2,h3,h4⟩:=hk.tree;have s:=List.all_eq_true.mp (List.all_eq_true.mp (List.all_eq_true.mp P9 p1 ((by decide:∀ p,p < 2→p ∈ [0,1]) p1 (Nat.lt_succ_of_le h1))) p2 ((by decide:∀ p,p < 3→p ∈ [0,1,2]) p2 (Nat.lt_succ_of_le h2))) p3 ((by decide:∀ p,p < 4→p ∈ [0,1,2,3]) p3 (Nat.lt_succ_of_le h3));rw [Bool.and_eq_true] at s;have pairs:∀ b,b < 5→∀ a,a < b→(a,b) ∈ Ke:=by decide
 have hlt:∀ t ∈ Y,prT t ∈ Ke:=fun t ht=>pairs _ (hk.lt t (.tail _ (.tail _ (.tail _ (.tail _ ht))))).2 _ (hk.lt t (.tail _ (.tail _ (.tail _ (.tail _ ht))))).1;have hnd:([(0,1),(p1,2),(p2,3),(p3,4)] ++ Y.map prT).Nodup:=hk.nd;clear hk hT
 rcases Y with _ | ⟨x,_ | ⟨y,_ | ⟨z,Y⟩⟩⟩
 ·exact s.1
 ·rcases Bool.or_eq_true_iff.mp (List.all_eq_true.mp s.2 (prT x) (hlt x (.head _))) with q | q
  ·exact absurd (List.contains_iff_mem.mp q) (Ny hnd)
  ·exact (Bool.and_eq_true_iff.mp q).1
 ·rcases Bool.or_eq_true_iff.mp (List.all_eq_true.mp s.2 (prT x) (hlt x (.head _))) with q | q
  ·exact absurd (List.contains_iff_mem.mp q) (Ny hnd)
  ·have ny:=Ny (t:=[(0,1),(p1,2),(p2,3),(p3,4),prT x]) (x:=prT y) (y:=[]) hnd
   rcases Bool.or_eq_true_iff.mp (List.all_eq_true.mp (Bool.and_eq_true_iff.mp q).2 (prT y) (hlt y (.tail _ (.head _)))) with q | q
   ·rcases Bool.or_eq_true_iff.mp q with q | q
    ·exact absurd (mem_append_left [prT x] (List.contains_iff_mem.mp q)) ny
    ·exact absurd (eq_of_beq q ▸ .tail _ (.tail _ (.tail _ (.tail _ (.head _))))) ny
   ·exact q
 ·exact absurd h4 (Nat.not_le_of_lt (Nat.succ_lt_succ (Nat.succ_lt_succ (Nat.zero_lt_succ _))))
theorem Nr (X:Int) (T:List Tie) (w:List Nat):(Zh T w).map (sc X) = Jk (T.map (sc X)) w:=by
 unfold Zh Jk keep;simp only [filter_map];rfl
theorem Ik (T:List Tie) (j:Nat):Vt T j = Zh T [j]:=filter_congr fun t Z=>by
 have:∀ x,(!([j]:List Nat).contains x) = (x != j):=fun x=>by
  rw [Bool.eq_iff_iff];simp
 simp only [this,this]
theorem El (n:Nat) (T:List Tie) (w:List Nat):Gk n (Zh T w) = M (Jk (T.map (sc (2 ^ n))) w):=by simp only [Er,Nr]
noncomputable def piW (W:List Way) (n:Nat) (w:List Nat):Int:=Yx ((List.range (w.length - 1)).map fun j=>-(Mg W (w.take (2 + j))) * 2 ^ n)
theorem O9 (l:List Int) (x:Int):Yx (l ++ [x]) = Yx l * x:=by
 rw [R4];show Yx l * (x * 1) = _;rw [Int.mul_one]
theorem Bz (W:List Way) (T:List Tie) (n:Nat) (w:List Nat):∀ k,Z0 W T n w k = Gk n (Zh T w) ^ 2 * Yx ((List.range k).map fun j=>-(Mg W (w.take (2 + j))) * 2 ^ n):=by
 intro zs
 induction zs with
 | zero=>
  show Gk n (Zh T w) ^ 2 = _ * 1;simp only [Int.mul_one]
 | succ k IH=>
  simp only [Xx,IH,range_succ,map_append,map_cons,map_nil,O9]
  ac_rfl
theorem Bw {a b:List Int} (h:a.Perm b):a.sum = b.sum:=by
 induction h with
 | nil=>rfl
 | cons x _ ih=>simp only [sum_cons,sum_cons,ih]
 | swap x y l=>simp only [sum_cons,sum_cons,sum_cons,sum_cons];lia
 | trans _ _ h1 h2=>simp only [h1,h2]
theorem Mu (W:List Way) (T:List Tie) (n:Nat):∀ (V:List (List Nat)) (s:Int),V.foldl (fun s w=>s + Z0 W T n w (w.length - 1)) s = s + (V.map fun w=>Z0 W T n w (w.length - 1)).sum
 | [],s=>by simp
 | w :: V,s=>by simp only [foldl_cons,Mu W T n V,map_cons,sum_cons];lia
section
variable {T:List Tie} {m:Nat} (hk:Yf T m) {r:Nat} (hr:r < 5) {g:Nat} (n:Nat)
include hk hr
theorem P8:∀ (f:Nat) (q:Way),q ∈ Ja T r→(((Ww T f q.1).filter fun p=>Jb p.1 == g).map fun p=>Z0 (Ja T r) T n p.1 (p.1.length - 1)).sum = piW (Ja T r) n q.1 * hl (T.map (sc (2 ^ n))) g f q.1:=by
 revert hk hr;revert T m r g n;refine no_implicit_lambda% (G5 (h:=?_));refine (?_:A5 _) _ _ _ _ _;intro T m r g n hk hr;intro zs
 induction zs with
 | zero=>
  intro q Z;show (0:Int) = _ * 0;lia
 | succ f IH=>
  intro q hq;have nd:=Rr hk hr;have hq0:1 ≤ q.1.length:=by
   refine el12 (Zf hk hr hq) fun k Z hqk=>?_;have:=(J6 hk.in hr k q hqk).len;lia
  have pi:∀ p ∈ steps T q.1,piW (Ja T r) n p.1 = piW (Ja T r) n q.1 * (-p.2 * 2 ^ n):=fun p hp=>by
   refine Yd (Vr hk hp) fun h1 h2=>?_;have hpw:=Qw hk hr hq hp;have hp1:p.1 = q.1 ++ [Jb p.1]:=by
    have:=Qa (w:=p.1) (by intro e;replace h2:=e ▸ h2;simp at h2)
    rwa [h1] at this
   unfold piW;simp only [h2,show q.1.length + 1 - 1 = (q.1.length - 1) + 1 by lia,range_succ,map_append,map_cons,map_nil,O9];have e1:p.1.take (2 + (q.1.length - 1)) = p.1:=take_of_length_le (by lia);simp only [e1,Uh nd hpw]
   congr 2
   refine map_congr_left fun j hj=>?_;have hj:=List.mem_range.mp hj;have:p.1.take (2 + j) = q.1.take (2 + j):=by (refine rwb hp1 ?_;exact rwb (List.take_append_of_le_length (by lia)) rfl)
   exact rwb this rfl
  show (((steps T q.1).flatMap fun p=>p :: Ww T f p.1).filter _ |>.map _).sum = _ * ((kids _ q.1).map _).sum;have hmem:∀ a ∈ (Jz T (Jb q.1)).filter (fun a=>!q.1.contains a.1),((q.1 ++ [a.1],a.2):Way) ∈ steps T q.1:=fun a ha=>by
   rw [Wl];exact mem_map_of_mem ha
  simp only [R8,map_map];have est:steps T q.1 = ((Jz T (Jb q.1)).filter fun a=>!q.1.contains a.1).map fun a=>((q.1 ++ [a.1],a.2):Way):=Wl T q.1;refine rwb est ?_;generalize (Jz T (Jb q.1)).filter (fun a=>!q.1.contains a.1) = ks at hmem ⊢
  induction ks with
  | nil=>show (0:Int) = _ * 0;lia
  | cons a ks ih=>
   have ih:=ih fun b hb=>hmem b (.tail _ hb);have ha:=hmem a (.head _);have hs:=IH (q.1 ++ [a.1],a.2) (Qw hk hr hq ha);have hpi:=pi _ ha;refine rwb map_cons (rwb flatMap_cons ?_);rewrite [filter_append];refine rwb map_append ?_;rewrite [sum_append];refine rwb ih (rwb map_cons (rwb sum_cons ?_));rw [Int.mul_add]
   congr 1
   refine rwb filter_cons ?_;have hsh:Z0 (Ja T r) T n (q.1 ++ [a.1]) ((q.1 ++ [a.1]).length - 1) = M (Jk (T.map (sc (2 ^ n))) (q.1 ++ [a.1])) * M (Jk (T.map (sc (2 ^ n))) (q.1 ++ [a.1])) * (piW (Ja T r) n q.1 * (-a.2 * 2 ^ n)):=by
    simp only [Bz,El,show ∀ x:Int,x ^ 2 = x * x from fun x=>by simp only [Int.pow_succ,Int.pow_succ,Int.pow_zero,Int.one_mul]];have:Yx ((List.range ((q.1 ++ [a.1]).length - 1)).map fun j=>-(Mg (Ja T r) ((q.1 ++ [a.1]).take (2 + j))) * 2 ^ n) = piW (Ja T r) n (q.1 ++ [a.1]):=rfl;simp only [this,hpi]
   show _ = piW (Ja T r) n q.1 * (-(a.2 * 2 ^ n) * ((if a.1 = g then _ else 0) + hl _ g f (q.1 ++ [a.1])));have hs':(((Ww T f (q.1 ++ [a.1])).filter fun p=>Jb p.1 == g).map fun p=>Z0 (Ja T r) T n p.1 (p.1.length - 1)).sum = piW (Ja T r) n q.1 * (-a.2 * 2 ^ n) * hl (T.map (sc (2 ^ n))) g f (q.1 ++ [a.1]):=by refine rwf hpi ?_;exact hs
   by_cases hag:a.1 = g
   ·refine rwb (if_pos (by rw [Yr];simpa using hag)) (rwb (if_pos hag) (rwb map_cons (rwb sum_cons (rwb hs' (rwb hsh ?_)))));rw [Int.mul_add,Int.mul_add,Int.neg_mul]
    congr 1 <;> ac_rfl
   ·refine rwb (if_neg (by rw [Yr];simpa using hag)) (rwb (if_neg hag) (rwb hs' ?_));rw [Int.zero_add,Int.neg_mul]
    ac_rfl
theorem Bq (hg:g ≠ r):Wu (Ja T r) T n (((Ja T r).filter fun p=>Jb p.1 == g).map (·.1)) = hl (T.map (sc (2 ^ n))) g 12 [r]:=by
 revert hk hr hg;revert T m r g n;refine no_implicit_lambda% (G5 (h:=?_));refine (?_:A5 _) _ _ _ _ _;intro T m r g n hk hr hg;unfold Wu;simp only [Mu,Int.zero_add,map_map];have hw:=Xn hk.in hr;have hroot:(([r],1):Way) ∈ Ja T r:=by rw [hw];exact .head _
 have h:=P8 hk hr n (g:=g) 12 ([r],1) hroot;have hp1:piW (Ja T r) n [r] = 1:=rfl;simp only [hp1,Int.one_mul] at h;simp only [← h];have hperm:(Ja T r).Perm (([r],1) :: Ww T 12 [r]):=by
  rw [hw];refine .cons _ ?_;have:=Kb T 12 [([r],1)]
  rwa [flatMap_cons,flatMap_nil,append_nil] at this
 have hp2:=(hperm.filter fun p=>Jb p.1 == g);rw [filter_cons,if_neg (by show ¬ (r == g) = true;simpa using Ne.symm hg)] at hp2;exact Bw (hp2.map _)
theorem Jbd (hz:T.length ≤ 6) (hg:g ≠ r):Gk n (Vt T r) * Gk n (Vt T g) - Wu (Ja T r) T n (((Ja T r).filter fun p=>Jb p.1 == g).map (·.1)) = Gk n T * Gk n (Zh T [r,g]):=by
 have hE:∀ e ∈ T.map (sc (2 ^ n)),e.1 ≠ e.2.1:=fun e he=>by
  refine el12 (lM he) fun t ht z2=>?_;subst z2;have:=(hk.lt t ht).1;show t.1 ≠ t.2.1;lia
 have h:=Mm hE (g:=g) 12 [r] (by simp) (by simp) (by simpa using hg) (le_trans (Uu _ _) (by rw [length_map];lia));refine rwb (Bq hk hr n hg) ?_;rewrite [Ik,Ik,El,El,El,Er];refine rwf h ?_;have e1:Jk (T.map (sc (2 ^ n))) ([r]:List Nat).dropLast = T.map (sc (2 ^ n)):=Z9 fun Z Z=>⟨rfl,rfl⟩;simp only [e1];show _ - (_ * M (Jk _ [g]) - _ * M (Jk _ [r,g])) = _;lia
end
end Mine.Tactic
end
section
open PySem PySem.W PyProof.Rows PySem.Calls
namespace Mine.Tactic
theorem So (m:Nat):∀ ds:List Int,(∀ d ∈ ds,0 ≤ d ∧ d < 2 ^ m)→Vi m ds.length (valOf m ds) = ds:=by
 intro zs
 induction zs with
 | nil=>
  intro Z;exact rfl
 | cons d ds IH=>
  intro h;have hd:=h d (.head _);have ih:=IH fun e he=>h e (.tail _ he);simp only [length_cons,Y8,Yw,J5,Jv];have hp:=Jr m;have e1:(d + valOf m ds * 2 ^ m) % 2 ^ m = d:=by
   rw [Int.add_mul_emod_self_right];exact Int.emod_eq_of_lt hd.1 hd.2
  have e2:(d + valOf m ds * 2 ^ m) / 2 ^ m = valOf m ds:=by
   refine rwb (Int.add_mul_ediv_right _ _ (by lia)) (rwb (Int.ediv_eq_zero_of_lt hd.1 hd.2) ?_);rw [Int.zero_add]
  simp only [e1,e2,ih]
theorem Kk (m:Nat):∀ ds:List Int,(∀ d ∈ ds,0 < d ∧ d < 2 ^ m)→ds ≠ []→2 ^ (m * (ds.length - 1)) ≤ valOf m ds ∧ valOf m ds < 2 ^ (m * ds.length)
 | [],_,h=>absurd rfl h
 | [d],h,_=>by
  have hd:=h d (.head _);show (2:Int) ^ (m * 0) ≤ d + 0 * 2 ^ m ∧ d + 0 * 2 ^ m < 2 ^ (m * 1);simp only [Nat.mul_zero,Int.pow_zero,Nat.mul_one];lia
 | d :: e :: ds,h,_=>by
  have hd:=h d (.head _);have ih:=Kk m (e :: ds) (fun x hx=>h x (.tail _ hx)) (by simp);have hp:=Jr m;rw [Jv];have e1:(d :: e :: ds).length - 1 = ((e :: ds).length - 1) + 1:=by simp
  have e2:(d :: e :: ds).length = (e :: ds).length + 1:=rfl;refine rwb e1 (rwb e2 ?_);rw [Nat.mul_succ,Nat.mul_succ,Int.pow_add,Int.pow_add];generalize valOf m (e :: ds) = v at *;generalize (2:Int) ^ (m * ((e :: ds).length - 1)) = lo at *;generalize (2:Int) ^ (m * (e :: ds).length) = hi at *;have h1:=Int.mul_le_mul_of_nonneg_right ih.1 (Int.le_of_lt hp);have h2:(v + 1) * 2 ^ m ≤ hi * 2 ^ m:=Int.mul_le_mul_of_nonneg_right (by lia) (Int.le_of_lt hp);simp only [Int.add_mul,Int.one_mul] at h2;lia
theorem Sl {m:Nat} (hm:0 < m) {ds:List Int} (h:∀ d ∈ ds,0 < d ∧ d < 2 ^ m) (hne:ds ≠ []):dlen m (valOf m ds) = ds.length:=by
 refine Yd (Kk m ds h hne) fun h1 h2=>?_;have hl:=List.length_pos_iff.mpr hne;have hp:=Jr (m * (ds.length - 1));have hne0:valOf m ds ≠ 0:=by lia
 have b1:intBits (valOf m ds) ≤ m * ds.length:=bits_le (by have:=Js (m * ds.length);lia);have b2:m * (ds.length - 1) < intBits (valOf m ds):=by
  rcases Nat.lt_or_ge (m * (ds.length - 1)) (intBits (valOf m ds)) with q | q
  ·exact q
  ·exfalso
   have h3:=Ze (a:=valOf m ds);have h4:2 ^ intBits (valOf m ds) ≤ 2 ^ (m * (ds.length - 1)):=pow_le_pow_right (by decide) q;have:=Js (m * (ds.length - 1));lia
 unfold dlen;have e:m * ds.length = m * (ds.length - 1) + m:=by
  have:=Nat.mul_succ m (ds.length - 1)
  rwa [show Nat.succ (ds.length - 1) = ds.length by lia] at this
 generalize intBits (valOf m ds) = b at *;have:ds.length * m ≤ b + m - 1:=by rw [Nat.mul_comm];lia
 have lo:=(Nat.le_div_iff_mul_le hm).mpr this;have hi:=(Nat.div_lt_iff_lt_mul hm).mpr (show b + m - 1 < (ds.length + 1) * m by simp only [Nat.succ_mul,Nat.mul_comm];lia);lia
theorem Ot (m:Nat) (c:Int):∀ xs:List Int,valOf m xs + valOf m (List.replicate xs.length c) = valOf m (xs.map (· + c))
 | []=>rfl
 | x :: xs=>by
  have:=Ot m c xs;simp only [length_cons,replicate_succ,J5,Jv,J5,Jv,map_cons,J5,Jv,← this,Int.add_mul];lia
noncomputable def Rw (ls:List Lnk):Nat:=ls.foldl (fun s l=>s * (1 + l.2.2.natAbs)) 1
theorem Al (ls:List Lnk):((Yh ls).map fun e=>e.2.natAbs).sum ≤ Rw ls:=by
 induction ls using rev_ind with
 | h0=>exact le_refl _
 | h1 ls l ih=>
  simp only [Yy,map_append,List.sum_append_nat];have e:Rw (ls ++ [l]) = Rw ls * (1 + l.2.2.natAbs):=by unfold Rw;refine rwb foldl_append ?_;rfl
  simp only [e,Nat.mul_add,Nat.mul_one];refine Nat.add_le_add ih ?_;refine le_trans ?_ (Nat.mul_le_mul_right _ ih);unfold addL;have:∀ (fs:List Prg) (t:Prg→Bool),(((fs.filter t).map fun e=>((e.1 ++ [l.1,l.2.1],e.2 * l.2.2):Prg)).map fun e=>e.2.natAbs).sum ≤ (fs.map fun e=>e.2.natAbs).sum * l.2.2.natAbs:=by
   intro fs t
   induction fs with
   | nil=>exact Nat.zero_le _
   | cons e fs ih=>
    simp only [map_cons,sum_cons,Nat.add_mul,filter_cons];split
    ·rewrite [map_cons];refine rwb map_cons (rwb sum_cons ?_);have:(e.2 * l.2.2).natAbs = e.2.natAbs * l.2.2.natAbs:=Int.natAbs_mul _ _;dsimp only;lia
    ·lia
  exact this _ _
theorem B7 (ls:List Lnk):∀ x ∈ pairF ls,x.natAbs ≤ Rw ls:=fun x hx=>by
 refine el12 (lM hx) fun k Z z2=>?_;subst z2;refine le_trans ?_ (Al ls);have:∀ (fs:List Prg) (t:Prg→Bool),(((fs.filter t).map (fun e:Prg=>e.2)).sum:Int).natAbs ≤ (fs.map fun e=>e.2.natAbs).sum:=by
  intro fs t
  induction fs with
  | nil=>exact le_refl _
  | cons e fs ih=>
   simp only [map_cons,sum_cons,filter_cons];split
   ·simp only [map_cons,sum_cons];have:=Int.natAbs_add_le e.2 (((fs.filter t).map (fun e:Prg=>e.2)).sum:Int);lia
   ·lia
 exact this _ _
noncomputable def bitsW (ls:List Lnk):Nat:=(ls.map fun l=>intBits ((l.2.2.natAbs:Int) + 1)).sum
theorem Br (ls:List Lnk):Rw ls ≤ 2 ^ bitsW ls:=by
 induction ls using rev_ind with
 | h0=>exact le_refl _
 | h1 ls l ih=>
  have e:Rw (ls ++ [l]) = Rw ls * (1 + l.2.2.natAbs):=by unfold Rw;refine rwb foldl_append ?_;rfl
  have e2:bitsW (ls ++ [l]) = bitsW ls + intBits ((l.2.2.natAbs:Int) + 1):=by unfold bitsW;simp only [map_append,List.sum_append_nat];simp
  simp only [e,e2,Nat.pow_add];refine Nat.mul_le_mul ih ?_;have:=Ze (a:=(l.2.2.natAbs:Int) + 1);lia
theorem Hw {ls:List Lnk} (h:∀ l ∈ ls,Qt l):bitsW ls ≤ 10 * ls.length:=by
 unfold bitsW
 induction ls with
 | nil=>exact le_refl _
 | cons l ls ih=>
  have hl:=h l (.head _);have:=ih fun l' hl=>h l' (.tail _ hl);simp only [map_cons,sum_cons,length_cons];have hb:intBits ((l.2.2.natAbs:Int) + 1) ≤ 10:=bits_le (by have:=hl.2.2;omega);lia
theorem Jbq {ls:List Lnk} {m:Nat} (hm:2 + bitsW ls ≤ m):Vi m (dlen m (valOf m (pairF ls) + valOf m (List.replicate (pairF ls).length (2 ^ (m - 1))))) (valOf m (pairF ls) + valOf m (List.replicate (pairF ls).length (2 ^ (m - 1)))) = (pairF ls).map (· + 2 ^ (m - 1)) ∧
  dlen m (valOf m (pairF ls) + valOf m (List.replicate (pairF ls).length (2 ^ (m - 1)))) = (pairF ls).length ∧ 0 ≤ valOf m (pairF ls) + valOf m (List.replicate (pairF ls).length (2 ^ (m - 1))):=by
 rw [Ot];have hb:∀ d ∈ (pairF ls).map (· + 2 ^ (m - 1)),0 < d ∧ d < 2 ^ m:=fun d hd=>by
  refine el12 (lM hd) fun x hx z2=>?_;subst z2;have h1:=le_trans (B7 ls x hx) (Br ls);have h2:2 ^ bitsW ls < 2 ^ (m - 1):=Nat.pow_lt_pow_right (by decide) (by lia);have h3:=Js (m - 1);have h4:(2:Int) ^ m = 2 ^ (m - 1) * 2:=by rw [← Int.pow_succ];congr 1;lia
  omega
 have hne:(pairF ls).map (· + 2 ^ (m - 1)) ≠ []:=by
  intro e;have:=congrArg List.length e;rw [length_map,Zp] at this;contradiction
 have hd:=Sl (by lia) hb hne;refine ⟨?_,by simp only [hd,length_map],?_⟩
 ·refine rwb hd ?_;exact So m _ fun d hd=>⟨Int.le_of_lt (hb d hd).1,(hb d hd).2⟩
 ·have:=(Kk m _ hb hne).1;have hp:=Jr (m * (((pairF ls).map (· + 2 ^ (m - 1))).length - 1));lia
section
variable {B:Base} {A:Around} {fm:Fm} {sc:Scope} {cn:List Str} {ρ:Loc} {E:Value→Shared→Prop} {F:Fz} {H:Led} {n:Nat} {P:D→Led→Prop} {N:Loc→Led→Prop} {R:D→Led→Prop}
noncomputable abbrev cnL:List Str:=((Jh 39).names.filter fun p=>p.2 == .cell).map (·.1)
theorem bits_add_le {a b:Int} {k:Nat} (ha:intBits a ≤ k) (hb:intBits b ≤ k):intBits (a + b) ≤ k + 1:=by
 refine bits_le ?_;have h1:=Ze (a:=a);have h2:=Ze (a:=b);have h3:2 ^ intBits a ≤ 2 ^ k:=pow_le_pow_right (by decide) ha;have h4:2 ^ intBits b ≤ 2 ^ k:=pow_le_pow_right (by decide) hb;have:=Int.natAbs_add_le a b;rw [Nat.pow_succ];lia
theorem Kv {T:List Tie} (h:∀ t ∈ T,Yj t) (hz:T.length ≤ 6) {m:Nat} (hm0:0 < m) (hm:m ≤ 2300):intBits (Gk m T) ≤ 16300:=by
 have h1:=Gb (n:=m) hm0 (Gj (Qe h) (by rw [length_map];lia));rw [Zp,length_map] at h1;have:m * (T.length + 1) ≤ 2300 * 7:=Nat.mul_le_mul hm (by lia);exact le_trans h1 (by lia)
theorem Jcn {T:List Tie} {m:Nat} (hm:0 < m):Gk m T ≠ 0:=by
 rw [Er];refine Jc3 fun e he=>?_;refine el12 (lM he) fun t Z z2=>?_;subst z2;show t.2.2 * 2 ^ m % 2 = 0;refine el11 (⟨m - 1,by lia⟩:∃ k,m = k + 1) fun k z1=>?_;subst z1;rw [Int.pow_succ,← Int.mul_assoc];lia
theorem Jdn (hs:List (Str × Str)) (h:PrV hs):D.fl 9 (.lst (tab hs)) = true:=by
 simp only [Z4,Zr,Z2,Z3,all_eq_true];intro d hd;refine el12 (lM hd) fun p hp z2=>?_;subst z2;have:=h p hp;simp [Z4,Zr,Z2,Z3,this.1.strOk,this.2.strOk]
theorem Eu (xs:List Int):D.fl 9 (.lst (xs.map .int)) = true:=by
 simp only [Z4,Zr,Z2,Z3,all_eq_true];intro d hd;refine el12 (lM hd) fun x Z z2=>?_;subst z2;rfl
theorem Bk {T:List Tie} (hk:Yf T 2) {r:Nat} (hr:r < 5):∀ (d:Nat) (p:Way),p ∈ Ja T r→∀ k,1 ≤ k→k + d = p.1.length→∃ q ∈ Ja T r,q.1 = p.1.take k:=by
 intro zs
 induction zs with
 | zero=>
  intro p hp k Z hd;exact ⟨p,hp,(take_of_length_le (by lia)).symm⟩
 | succ d IH=>
  intro p hp k h1 hd;refine el12 (Xm hk hr hp (by lia)) fun q hq hs=>?_;refine Yd (Vr hk hs) fun e1 e2=>?_;refine el12 (IH q hq k h1 (by lia)) fun q' hq' e=>?_;refine ⟨q',hq',?_⟩;refine rwb e (rwf e1 (rwb List.dropLast_eq_take (rwb take_take ?_)));exact rwb (Nat.min_eq_left (by lia)) rfl
theorem Jbf (X:XB B) {T:List Tie} {l lt:Addr} (hh:A.handled = none) (sk:Sk fm) (C:Cx A fm (Jh 39) cnL (n + 30)) (hk:Yf T 2) {r g:Nat} (hr5:r < 5) (hg5:g < 5) (hgr:g ≠ r) {m:Nat} (hm2:2 + bitsW (Yn T r) ≤ m) (hm3:m ≤ 2300)
  (hl:(l,tab (Vc T)) ∈ H) (hlt:(lt,tab ((Ja T r).map Zz)) ∈ H) (hli:∀ x ∈ Yn T r,Qt x) (hll:(Yn T r).length ≤ 14) (hW:We (Ja T r)) (s2:Has ρ "ties" (.lst (T.map Zg))) (s3:Has ρ "root" (.str (L r))) (s4:Has ρ "goal" (.str (L g))) (s5:Has ρ "net" (.hdr l)) (s6:Has ρ "ways" (.lst ((Ja T r).map Gv))) (s7:Has ρ "tree" (.hdr lt)) (s8:Has ρ "left" (.lst ((Yn T r).map I4))) (s9:Has ρ "width" (.int m)) :
  ExS B A fm ρ H ((bodyOf 39).drop 13) (fun Z Z=>False) (fun d Z=>d = .bool true) NoE:=by
 revert X hh sk C hk hr5 hg5 hgr hm2 hm3 hl hlt hli hll hW s2 s3 s4 s5 s6 s7 s8 s9;revert B A fm ρ H n T l lt r g m;refine no_implicit_lambda% (G12 (h:=?_));refine (?_:A12 _) _ _ _ _ _ _ _ _ _ _ _ _;intro B A fm ρ H n T l lt r g m X hh sk C hk hr5 hg5 hgr hm2 hm3 hl hlt hli hll hW s2 s3 s4 s5 s6 s7 s8 s9;have hT:=hk.in
 have hz6:T.length ≤ 6:=hk.len;have hm0:0 < m:=by lia
 have hway:∀ p ∈ Ja T r,(∀ i ∈ p.1,i < 5) ∧ p.1.length ≤ 5 ∧ -1000 ≤ p.2 ∧ p.2 ≤ 999:=hW.inn;have hstr:B.mg "str" = none:=mgN X (by rfl);have hlen:B.mg "len" = none:=mgN X (by rfl);have hze:B.mg "ZeroDivisionError" = none:=mgN X (by rfl);have hcount:=hW.len;refine el11 (⟨_,rfl⟩:∃ x,x = Gk m T) (no_implicit_lambda% (G1 (h:=?_)));refine (?_:A1 _) _;intro part hpart;refine el11 (⟨_,rfl⟩:∃ x,x = valOf m (pairF (Yn T r))) (no_implicit_lambda% (G1 (h:=?_)));refine (?_:A1 _) _;intro q hq;have hX:(2:Int) ^ m % 2 = 0:=by
  refine el11 (⟨m - 1,by lia⟩:∃ k,m = k + 1) fun k z1=>?_;subst z1;rw [Int.pow_succ];lia
 have hwhole:Jbb (Ja T r) m = part * q:=by
  (refine rwb (B1 hk hr5 hcount m) ?_;refine rwb (Bp hk hr5 hX hz6) ?_;refine rwb hpart ?_;refine rwb hq ?_;rw [Er,Jcr]);rfl
 have hpne:part ≠ 0:=by refine rwb hpart ?_;exact Jcn hm0
 have hpb:intBits part ≤ 16300:=by refine rwb hpart ?_;exact Kv hT hz6 hm0 hm3
 have hqb:intBits q ≤ 34700:=by
  have h1:=Gb (n:=m) hm0 (Gj hli (by lia));rw [Zp] at h1;have:m * ((Yn T r).length + 1) ≤ 2300 * 15:=Nat.mul_le_mul hm3 (by lia);refine rwb hq ?_;exact le_trans h1 (by lia)
 have hwb:intBits (part * q) ≤ 51000:=le_trans (bits_mul_le hpb hqb) (by decide);have h14:(2:Nat) ^ 14 = 16384:=by decide
 have h16:(2:Nat) ^ 16 = 65536:=by decide
 refine Ss.cons<|S1.iy C<|EvE.jq C X (Ej X)<|EvL.lf (Lf.Vl C s7)<|EvL.loc C s9<|EvL.nil<|Fn0.is C hh (Jcw (n:=n) X hW (by lia) hlt) (by lia) ?_;refine rwb hwhole ?_;refine EvE.jq C X (Ge X)<|EvL.loc C s2<|EvL.loc C s9<|EvL.nil ?_;rw [Oc];refine Fn0.is C hh (Qi (n:=n) X (Qe hT) (by rw [length_map];lia) hm0 (by lia)) (by lia) ?_;refine rwb (show valOf m (pairF (T.map D9)) = part from hpart.symm) ?_;have hb1:intBits 1 ≤ 1:=by decide
 obtain ⟨t0,ht0⟩:∃ t0,T[T.length - 1]? = some t0:=by
  have:T.length ≠ 0:=fun e=>by obtain ⟨p1,p2,p3,w0,w1,w2,w3,Y,h,_⟩:=hk.tree;replace e:=h ▸ e;contradiction
  exact ⟨_,List.getElem?_eq_getElem (by lia)⟩
 have htl:T.length ≠ 0:=fun e=>by replace ht0:=(List.length_eq_zero_iff.mp e) ▸ ht0;contradiction
 have hin0:=hT t0 (List.mem_of_getElem? ht0);refine Ss.cons<|S1.unpack (by rfl) (Ym (by rfl)) C<|EvE.tup<|EvL.cons<|EvE.jq C X (Wx X)<|EvL.loc C s8.ne.ne<|EvL.nil<|Fn0.is C hh (Iq (n:=n) X hli (by lia)) (by lia) ?_;refine EvL.cons<|EvE.sub<|EvE.l9 (Lf.loc C s2.ne.ne)<|EvE.un<|EvE.int<|Op1.neg<|Op2.jdd rfl (by decide) (by rw [length_map];lia) (by rw [length_map];lia) (d:=Zg t0) ?_ ?_
 ·(rewrite [length_map];refine rwb (D8 T.length) ?_;refine rwb (List.getElem?_map) ?_;refine rwb ht0 ?_);rfl
 refine EvE.int<|Op2.Qv (j:=2) rfl (by decide) (by decide) (by rfl) (by rfl) ?_;refine EvL.cons<|EvE.jq C X (Wz X)<|EvL.int<|EvL.cons<|EvE.jo (Lf.loc C s9.ne.ne) Lf.int<|Op2.sub<|EvL.nil<|Fn.is C (Kz (n:=n) (a:=1) (b:=(m:Int) - 1) X (by lia) (by lia)) (by lia) ?_;refine rwb (Nn m) ?_;rw [Int.one_mul];refine EvL.nil<|OpN.tuple<|Asg.tup C rfl<|Jg.cons<|Asg.name C<|Jg.cons<|Asg.name C<|Jg.cons<|Asg.name C<|Jg.nil ?_;refine Ss.assign C<|EvE.jq C X (Yq X)<|EvL.loc C Has.self.ne.ne.ne<|EvL.loc C Has.self.ne.ne.ne.ne<|EvL.nil<|Fn0.is C hh (Ue X hpne (by lia) (by lia)) (by lia) ?_;refine rwb (Int.mul_fdiv_cancel_left q hpne) ?_;rw [Int.mul_fmod_right];have d2i:∀ {ρ:Loc} {H:Led} {P:D→Led→Prop} {p1 p2 p3 p4:Pos},Has ρ "sums" (.lst ((pairF (Yn T r)).map .int))→Has ρ "width" (.int m)→P (.int q) H→EvE B A fm ρ H (.Call (.Name "_digits2int" p1) [.Name "sums" p2,.Name "width" p3] [] p4) P NoE:=fun {ρ H P p1 p2 p3 p4} a1 a2 h=>
  EvE.jq C X (Qc X)<|EvL.loc C a1<|EvL.loc C a2<|EvL.nil<|Fn.is C (Lr X hm0 (by lia) (k:=200) (by decide) (Gj hli (by lia)) (by rw [Zp];lia) (by rw [Zp];exact le_trans (Nat.mul_le_mul hm3 (show _ ≤ 15 by lia)) (by decide))) (by lia) (by refine rwf hq ?_;exact h)
 refine Ss.xh<|EvB.or<|EvB.jav (Lf.loc C Has.self)<|EvE.tup<|EvL.cons<|d2i Has.self.ne.ne.ne s9.ne.ne.ne.ne.ne.ne<|EvL.int<|EvL.nil<|OpN.tuple<|Op2.neF C ⟨by rfl,.inl rfl⟩ ⟨by rfl,.inl rfl⟩ fun b hb=>⟨b,rfl,?_⟩;have nof:∀ {b:Bool} {x:D},(b = true ↔ x ≠ x)→b = false:=fun {b x} h=>by
  cases b
  ·rfl
  ·exact absurd rfl (h.mp rfl)
 refine rwb (nof hb) ?_;refine rwb (if_neg (by decide)) ?_;have hsb:intBits t0.2.2 ≤ 64:=Gf hin0.2.2.1 hin0.2.2.2;have hnp:-part ≠ 0:=by lia
 have hwsb:intBits (part * q + t0.2.2) ≤ 51001:=bits_add_le hwb (by lia);refine EvB.or<|EvB.cmp<|EvE.jq C X (Yq X)<|EvL.cons<|EvE.jq C X (W0 X)<|EvL.loc C Has.self.ne.ne.ne.ne<|EvL.loc C Has.self.ne.ne<|EvL.nil<|Fn.is C (K0 (n:=n) X) (by lia) ?_;refine EvL.cons<|EvE.jq C X (R0 X)<|EvL.loc C Has.self.ne.ne.ne.ne.ne<|EvL.nil<|Fn.is C (Hh (n:=n) X) (by lia)<|EvL.nil<|Fn0.is C hh (Ue X hnp (by rw [bits_neg];lia) (by lia)) (by lia) ?_;refine EvE.tup<|EvL.cons<|EvE.bin<|EvE.Wf (Lf.loc C Has.self.ne.ne)<|EvE.un<|EvE.loc C Has.self.ne.ne.ne.ne.ne<|Op1.neg<|Op2.fdiv hnp (Jb9 (by lia) hnp)<|EvE.J7 (Lf.loc C Has.self) Lf.int<|Op2.Qv (j:=0) rfl (by decide) (by decide) (by rfl) (by rfl)<|Op2.sub ?_;refine EvL.cons<|EvE.Wf (Lf.loc C Has.self.ne.ne)<|EvE.un<|EvE.loc C Has.self.ne.ne.ne.ne.ne<|Op1.neg<|Op2.fmod hnp<|EvL.nil<|OpN.tuple ?_;have efd:(part * q + t0.2.2).fdiv (-part) = t0.2.2.fdiv (-part) - q ∧ (part * q + t0.2.2).fmod (-part) = t0.2.2.fmod (-part):=by
  have e:part * q + t0.2.2 = t0.2.2 + -part * -q:=by rw [Int.neg_mul_neg];lia
  refine rwb e ?_;exact ⟨by refine rwb (Int.add_mul_fdiv_left _ _ hnp) ?_;lia,by rw [Int.add_mul_fmod_self_left]⟩
 refine rwb efd.1 ?_;refine rwb efd.2 ?_;refine Op2.neF C ⟨by rfl,.inl rfl⟩ ⟨by rfl,.inl rfl⟩ fun b hb=>⟨b,rfl,?_⟩;refine rwb (nof hb) ?_;refine rwb (if_neg (by decide)) ?_;refine EvB.jeo ?_;refine rwb (if_neg (by decide)) ?_;refine Ss.nil ?_;refine V5 (Jbq hm2) fun fg1 fg2 fg3=>?_;have hpl:=Zp (Yn T r);have hhb:intBits ((2:Int) ^ (m - 1)) ≤ 2300:=le_trans (Rk _) (by lia);have hrep:∀ x ∈ List.replicate (pairF (Yn T r)).length ((2:Int) ^ (m - 1)),intBits x ≤ 2300:=fun x hx=>by refine rwb (eq_of_mem_replicate hx) ?_;exact hhb
 have hrl:(List.replicate (pairF (Yn T r)).length ((2:Int) ^ (m - 1))).length ≤ 15:=by refine rwb length_replicate ?_;lia
 have hml:m * (List.replicate (pairF (Yn T r)).length ((2:Int) ^ (m - 1))).length ≤ 2300 * 15:=Nat.mul_le_mul hm3 hrl;have hrb:=Gb (n:=m) hm0 hrep;refine Ss.assign C<|EvE.jq C X (Od X)<|EvL.cons<|EvE.jq C X (W0 X)<|EvL.cons<|EvE.J7 (Lf.loc C Has.self) Lf.int<|Op2.Qv (j:=0) rfl (by decide) (by decide) (by rfl) (by rfl)<|EvL.cons<|EvE.jq C X (Qc X)<|?_;refine EvL.cons<|EvE.bin<|EvE.lst<|EvL.lf (Lf.Vl C Has.self.ne)<|EvL.nil<|OpN.list<|EvE.call<|EvE.gu C (by rfl) hlen (by rfl) (by decide) ⟨_,Kp.builtin,EvL.loc C Has.self.ne.ne.ne<|EvL.nil<|Cl.sx (by rw [length_map];lia)<|Op2.je8 (by lia) (by rw [length_map];lia) ?_⟩;rewrite [length_map,toNat_natCast];refine rwf map_replicate ?_;refine EvL.loc C s9.ne.ne.ne.ne.ne.ne<|EvL.nil<|Fn.is C (Lr X hm0 (by lia) (k:=2300) (by decide) hrep (by lia) (le_trans hml (by decide))) (by lia)<|EvL.nil<|Fn.is C (K0 (n:=n) X) (by lia) ?_;refine rwb hq ?_
 refine EvL.loc C s9.ne.ne.ne.ne.ne.ne<|EvL.nil<|Fn.is C (Sa X hm0 (by lia) fg3 (by
  have:=bits_add_le (k:=36900) (show intBits (valOf m (pairF (Yn T r))) ≤ 36900 by refine rwf hq ?_;lia) (show intBits (valOf m (List.replicate (pairF (Yn T r)).length ((2:Int) ^ (m - 1)))) ≤ 36900 by lia)
  lia) (by refine rwb fg2 ?_;lia)) (by lia) ?_
 refine rwb fg1 ?_;have hTl:∀ t ∈ T,Yj t ∧ t.1 < t.2.1:=fun t ht=>⟨hT t ht,(hk.lt t ht).1⟩;have num1:∀ {ρ:Loc} {P:D→Led→Prop} {j:Nat} {nm:Str} {p1 p2 p3 p4 p5 p6 p7:Pos},j < 5→EvE B A fm ρ H (.Name nm p4) (Is (.str (L j)) H) NoE→Has ρ "net" (.hdr l)→Has ρ "width" (.int m)→P (.int (Gk m (Vt T j))) H→EvE B A fm ρ H (.Call (.Name "_law_number" p1) [.Call (.Name "_law_struck" p2) [.Name "net" p3,.Name nm p4] [] p5,.Name "width" p6] [] p7) P NoE:=fun {ρ P j nm p1 p2 p3 p4 p5 p6 p7} hj a1 a2 a3 h=>by
  refine EvE.jq C X (Ge X)<|EvL.cons<|EvE.jq C X (Oz X)<|EvL.loc C a2<|EvL.cons<|a1.mono ?_;rintro d H1 ⟨rfl,rfl⟩;have hsi:∀ t ∈ Vt T j,Yj t:=fun t ht=>hT t (lF ht).1;have hsl:(Vt T j).length ≤ T.length:=length_filter_le _ _;refine EvL.nil<|Fn.is C (Ao (n:=n) X hTl hz6 hj hl) (by lia) ?_;rw [Oc];exact EvL.loc C a3<|EvL.nil<|Fn0.is C hh (Qi (n:=n) X (Qe hsi) (by rw [length_map];lia) hm0 (by lia)) (by lia) h
 have sb:∀ j,intBits (Gk m (Vt T j)) ≤ 16300:=fun j=>Kv (fun t ht=>hT t (lF ht).1) (le_trans (length_filter_le _ _) hz6) hm0 hm3;refine Ss.assign C<|EvE.jq C X (Wy X)<|?_;refine EvL.cons<|num1 hr5 (by exact EvE.Vl C s3.ne.ne.ne.ne.ne.ne.ne ⟨rfl,rfl⟩) (by exact s5.ne.ne.ne.ne.ne.ne.ne) (by exact s9.ne.ne.ne.ne.ne.ne.ne)<|EvL.cons<|num1 hg5 (by exact EvE.Vl C s4.ne.ne.ne.ne.ne.ne.ne ⟨rfl,rfl⟩) (by exact s5.ne.ne.ne.ne.ne.ne.ne) (by exact s9.ne.ne.ne.ne.ne.ne.ne)<|EvL.nil<|Fn.is C (Ky (n:=n) X (IntMulOk.of_le (sb r) (sb g) (by decide))) (by lia) ?_;have hdi:∀ t ∈ Zh T [r,g],Yj t:=R3 hT _;have hdl:=O6 T [r,g];refine Ss.assign C<|EvE.jq C X (Ge X)<|EvL.cons<|EvE.Ql (l:=T) (f:=Zg) (t:=fun t=>!([r,g]:List Nat).contains t.1 && !([r,g]:List Nat).contains t.2.1) (g:=Zg) C Wj (by rfl)<|EvE.loc C s2.ne.ne.ne.ne.ne.ne.ne.ne ⟨[],_,Jn.lst,List.Perm.refl _,by lia,?_,?_⟩
 ·intro t ht D' fm2 out C2;refine Asg.name C2 ⟨rfl,kpp kp0,fun fm5 out5 C5=>⟨?_,fun Z=>EvE.loc C5 Has.self ⟨rfl,rfl⟩⟩⟩;have hcat:L r ++ L g = Jf [r,g]:=Uj [r] [g];refine EvB.and<|EvB.cmp<|EvE.J7 (Lf.loc C5 Has.self) Lf.int<|Op2.Qv (j:=0) rfl (by decide) (by decide) (by rfl) (by rfl)<|EvE.jo (Lf.Vl C5 (Has.ne (J2 s3.ne.ne.ne.ne.ne.ne.ne.ne (by rfl)))) (Lf.Vl C5 (Has.ne (J2 s4.ne.ne.ne.ne.ne.ne.ne.ne (by rfl))))<|Op2.Ob (by show 1 + 1 ≤ sizeLine;decide)<|Op2.jaq ⟨_,rfl,?_⟩;refine rwb hcat ?_;rw [Vh];cases e1:([r,g]:List Nat).contains t.1
  ·refine rwb Bool.not_false ?_;refine rwb (if_pos rfl) ?_;refine EvB.and<|EvB.cmp<|EvE.J7 (Lf.loc C5 Has.self) Lf.int<|Op2.Qv (j:=1) rfl (by decide) (by decide) (by rfl) (by rfl)<|EvE.jo (Lf.Vl C5 (Has.ne (J2 s3.ne.ne.ne.ne.ne.ne.ne.ne (by rfl)))) (Lf.Vl C5 (Has.ne (J2 s4.ne.ne.ne.ne.ne.ne.ne.ne (by rfl))))<|Op2.Ob (by show 1 + 1 ≤ sizeLine;decide)<|Op2.jaq ⟨_,rfl,?_⟩;refine rwb hcat ?_;rw [Vh];cases e2:([r,g]:List Nat).contains t.2.1
   ·(refine rwb Bool.not_false ?_;refine rwb (if_pos rfl) ?_);exact EvB.jax ⟨rfl,rfl⟩
   ·(refine rwb Bool.not_true ?_;refine rwb (if_neg (by decide)) ?_);exact ⟨rfl,rfl⟩
  ·(refine rwb Bool.not_true ?_;refine rwb (if_neg (by decide)) ?_);exact ⟨rfl,rfl⟩
 refine rwb (show T.filter (fun t=>!([r,g]:List Nat).contains t.1 && !([r,g]:List Nat).contains t.2.1) = Zh T [r,g] from rfl) ?_;rw [Oc];refine EvL.loc C s9.ne.ne.ne.ne.ne.ne.ne.ne<|EvL.nil<|Fn0.is C hh (Qi (n:=n) X (Qe hdi) (by rw [length_map];lia) hm0 (by lia)) (by lia) ?_;refine rwb (show valOf m (pairF ((Zh T [r,g]).map D9)) = Gk m (Zh T [r,g]) from rfl) ?_;have hlaw:=Jbd hk hr5 m hz6 hgr;refine el11 (⟨_,rfl⟩:∃ x,x = Wu (Ja T r) T m (((Ja T r).filter fun p=>Jb p.1 == g).map (·.1))) fun tot htot=>?_;replace hlaw:=Eq.symm htot ▸ hlaw;refine Ss.assign C<|EvE.jq C X (M1 X)<|EvL.lf (Lf.Vl C s7.ne.ne.ne.ne.ne.ne.ne.ne.ne)<|EvL.loc C s2.ne.ne.ne.ne.ne.ne.ne.ne.ne<|EvL.cons<|EvE.Ql (l:=Ja T r) (f:=Gv) (t:=fun p=>Jb p.1 == g) (g:=fun p=>D.str (Jf p.1)) C Wg (by rfl)<|EvE.loc C s6.ne.ne.ne.ne.ne.ne.ne.ne.ne ⟨[],_,Jn.lst,List.Perm.refl _,by lia,?_,?_⟩
 ·intro p hp D' fm2 out C2;have hpi:=hway p hp;refine el12 (Zf hk hr5 hp) fun k Z hpk=>?_;have hpl:=(J6 hT hr5 k p hpk).len;refine Asg.tup C2 rfl<|Jg.cons<|Asg.name C2<|Jg.cons<|Asg.name C2<|Jg.nil ⟨rfl,kpp (kpp kp0),fun fm5 out5 C5=>⟨?_,fun Z=>EvE.loc C5 Has.self.ne ⟨rfl,rfl⟩⟩⟩;refine EvB.cmp<|EvE.l9 (Lf.loc C5 Has.self.ne)<|EvE.un<|EvE.int<|Op1.neg<|Op2.Pl (by rfl) (by intro e;replace hpl:=e ▸ hpl;contradiction) (by lia)<|EvE.Vl C5 (Has.ne (Has.ne (J2 s4.ne.ne.ne.ne.ne.ne.ne.ne.ne (by rfl))))<|Op2.jay ⟨_,rfl,rfl,Rl _ _⟩
 have eV:(((Ja T r).filter fun p=>Jb p.1 == g).map fun p=>D.str (Jf p.1)) = (((Ja T r).filter fun p=>Jb p.1 == g).map (·.1)).map fun w=>D.str (Jf w):=by refine rwb map_map ?_;rfl
 refine rwb eV ?_;have hV:∀ w ∈ ((Ja T r).filter fun p=>Jb p.1 == g).map (·.1),Jac (Ja T r) w:=fun w hw=>by
  refine el12 (lM hw) fun p hp z2=>?_;subst z2;have hp:=(lF hp).1;have hpi:=hway p hp;refine el12 (Zf hk hr5 hp) fun k Z hpk=>?_;have hpl:=(J6 hT hr5 k p hpk).len;exact ⟨(by intro e;replace hpl:=e ▸ hpl;contradiction),hpi.1,hpi.2.1,fun k h2 hk'=>Bk hk hr5 (p.1.length - k) p hp k (by lia) (by lia)⟩
 refine EvL.loc C s9.ne.ne.ne.ne.ne.ne.ne.ne.ne<|EvL.nil<|Fn0.is C hh (Hg (n:=n) X hW hT hz6 hm0 (by lia) hV hlt) (by lia) ?_;refine rwf htot ?_;refine Ss.xh<|EvB.or<|EvB.jav (Lf.loc C Has.self.ne.ne.ne)<|EvE.Md (l:=pairF (Yn T r)) (f:=D.int) (g:=fun x=>D.int (x + 2 ^ (m - 1))) C (fun a b h=>by injection h) (by rfl)<|EvE.loc C Has.self.ne.ne.ne.ne.ne.ne.ne ⟨[],_,Jn.lst,List.Perm.refl _,by lia,?_,?_⟩
 ·intro x hx D' fm2 out C2;refine Asg.name C2 ⟨rfl,kpp kp0,fun fm5 out5 C5=>?_⟩;exact EvE.jo (Lf.loc C5 Has.self) (Lf.Vl C5 (Has.ne (J2 Has.self.ne.ne.ne.ne.ne (by rfl))))<|Op2.add ⟨rfl,rfl⟩
 have efg:((pairF (Yn T r)).map fun x=>D.int (x + 2 ^ (m - 1))) = ((pairF (Yn T r)).map (· + 2 ^ (m - 1))).map .int:=by rw [map_map];rfl
 refine rwb efg ?_;refine Op2.neF C ⟨Eu _,.inl rfl⟩ ⟨Eu _,.inl rfl⟩ fun b hb=>⟨b,rfl,?_⟩;refine rwb (nof hb) ?_;refine rwb (if_neg (by decide)) ?_;have hdb:intBits (Gk m (Zh T [r,g])) ≤ 16300:=Kv hdi (le_trans hdl hz6) hm0 hm3;replace hlaw:=Eq.symm hpart ▸ hlaw;refine EvB.or<|EvB.cmp<|EvE.jq C X (Yq X)<|EvL.cons<|EvE.jq C X (Ei X)<|EvL.loc C Has.self.ne.ne<|EvL.loc C Has.self<|EvL.nil<|Fn.is C (Jcv (n:=n) X) (by lia) ?_;refine rwb hlaw ?_;have hab:=bits_mul_le hpb hdb;refine EvL.loc C Has.self.ne.ne.ne.ne.ne.ne.ne.ne.ne<|EvL.nil<|Fn0.is C hh (Ue X hpne (by lia) (by lia)) (by lia) ?_;refine rwb (Int.mul_fdiv_cancel_left _ hpne) ?_;rw [Int.mul_fmod_right];refine EvE.tup<|EvL.loc C Has.self.ne<|EvL.int<|EvL.nil<|OpN.tuple<|Op2.neF C ⟨by rfl,.inl rfl⟩ ⟨by rfl,.inl rfl⟩ fun b hb=>⟨b,rfl,?_⟩;refine rwb (nof hb) ?_;refine rwb (if_neg (by decide)) ?_;refine EvB.jeo ?_;refine rwb (if_neg (by decide)) ?_;refine Ss.nil ?_;refine Ss.cons<|S1.jai (X:="ZeroDivisionError") (T:="ZeroDivisionError") (ws:=[]) (J:=fun ρ1 H1=>H1 = H ∧ Has ρ1 "net" (.hdr l) ∧ Has ρ1 "ties" (.lst (T.map Zg)) ∧ Has ρ1 "width" (.int m)) C (by rfl) (by rfl) hze PyProof.Rows.Boot.«ZeroDivisionError» (by decide) (by rfl) (by rfl) (by rfl) (fun fm' C'=>?_) (fun fm' e o ρ' H' C' ex hJ=>?_) sk
 ·exact Ss.cons<|S1.expr<|EvE.jq C' X (Yq X)<|EvL.loc C' Has.self.ne.ne.ne.ne.ne.ne.ne.ne<|EvL.int<|EvL.nil<|FnX.jep C' hh (N9 X) (by lia) ⟨rfl,s5.ne.ne.ne.ne.ne.ne.ne.ne.ne.ne,s2.ne.ne.ne.ne.ne.ne.ne.ne.ne.ne,s9.ne.ne.ne.ne.ne.ne.ne.ne.ne.ne⟩
 ·refine I5 hJ fun z0 j1 j2 j3=>?_;subst z0;have hef:=Jdn (Vc T) (Uy hT);refine Ss.ret<|EvE.jen<|EvE.cmp<|EvE.call<|EvE.gu C' (by rfl) hstr PyProof.Rows.Boot.«str» (by decide) ⟨_,Kp.type,EvL.loc C' Has.self<|EvL.nil<|Cl.jd8 C' ex PySem.F.excStr_ZeroDivisionError<|EvE.str<|Op2.jay ⟨true,by rfl,?_⟩⟩;refine rwb (if_pos rfl) ?_;refine EvE.jen<|EvE.cmp<|EvE.J4 (Lf.loc C' j1.ne) ⟨_,W9 X,Kp.xl (Wm X),EvL.nil<|Fn.op C' ((Uw (n:=n) X hl (by rw [Wr];lia)).mono ?_) (by lia)⟩;refine fun d H1 zz=>el12 zz fun b z1 z2=>?_;subst z1;subst z2;refine EvE.jq C' X (Xv X)<|EvL.loc C' j2.ne<|EvL.nil<|Fn.is C' (Lp (n:=n) X hT (by lia)) (by lia)<|Op2.eqF C' ⟨hef,.inr ⟨b,_,rfl,.head _,rfl⟩⟩ ⟨hef,.inl rfl⟩ fun c hc=>⟨c,rfl,?_⟩;refine rwb (hc.mpr rfl) ?_;refine rwb (if_pos rfl) ?_;refine EvE.jfo<|EvE.cmp<|EvE.jq C' X (Od X)<|EvL.cons<|EvE.jq C' X (Qc X)<|EvL.cons<|EvE.lst<|EvL.nil<|OpN.list<|EvL.loc C' j3.ne<|EvL.nil<|Fn.is C' (Lr (xs:=[]) (k:=0) X hm0 (by lia) (by decide) (by simp) (by decide) (by simp)) (by lia) ?_;refine EvL.loc C' j3.ne<|EvL.nil<|Fn.is C' (Sa (a:=valOf m []) X hm0 (by lia) (Int.le_refl 0) (by show intBits 0 ≤ _;decide) (by refine rwb (show dlen m (valOf m []) = 0 from Ib hm0) ?_;decide)) (by lia) ?_;refine rwb (show dlen m (valOf m []) = 0 from Ib hm0) ?_;exact EvE.lst<|EvL.nil<|OpN.list<|Op2.eqF C' ⟨by rfl,.inl rfl⟩ ⟨by rfl,.inl rfl⟩ fun c hc=>by (refine rwb (hc.mpr rfl) ?_;with_reducible rfl)
noncomputable def rootN (cs:List Int):Nat:=(cs.getD 6 0 % 5).toNat
noncomputable def goalN (cs:List Int):Nat:=((cs.getD 6 0 + 1 + cs.getD 6 0 / 5 % 4) % 5).toNat
theorem wid (b:Nat) {x y:Int} (hx:0 ≤ x) (hy:0 ≤ y):2 + (b:Int) + x + y * 2050 = ((2 + b + x.toNat + y.toNat * 2050:Nat):Int):=by lia
theorem Jeq {b l:Nat} {x y:Int} (hb:b ≤ 10 * l) (hl:l ≤ 14) (hx:x < 8) (hy:y ≤ 1):2 + b + x.toNat + y.toNat * 2050 ≤ 2300:=by lia
noncomputable def Rp (cs:List Int) (ls:List Lnk):Nat:=2 + bitsW ls + (cs.getD 7 0 / 8 % 8).toNat + (cs.getD 7 0 / 64 % 16 / 15).toNat * 2050
theorem Hy (ls:List Lnk):(ls.map fun l=>(intBits ((l.2.2.natAbs:Int) + 1):Int)).sum = (bitsW ls:Int):=by
 unfold bitsW
 induction ls with
 | nil=>rfl
 | cons l ls ih=>(refine rwb map_cons (rwb sum_cons (rwb map_cons (rwb sum_cons (rwb ih ?_)))));lia
theorem Fs (X:XB B) {cs:List Int} {T:List Tie} {l lt:Addr} (hh:A.handled = none) (sk:Sk fm) (C:Cx A fm (Jh 39) cnL (n + 30)) (hcl:cs.length = 8) (hcb:∀ c ∈ cs,0 ≤ c ∧ c < 10 ^ 9) (hk:Yf T 2) {r g:Nat} (hr5:r < 5) (hg5:g < 5) (hgr:g ≠ r)
  (hl:(l,tab (Vc T)) ∈ H) (hlt:(lt,tab ((Ja T r).map Zz)) ∈ H) (s1:Has ρ "cells" (.lst (cs.map .int))) (s2:Has ρ "ties" (.lst (T.map Zg))) (s3:Has ρ "root" (.str (L r))) (s4:Has ρ "goal" (.str (L g))) (s5:Has ρ "net" (.hdr l)) (s6:Has ρ "ways" (.lst ((Ja T r).map Gv))) (s7:Has ρ "tree" (.hdr lt)) :
  ExS B A fm ρ H ((bodyOf 39).drop 10) (fun Z Z=>False) (fun d Z=>d = .bool true) NoE:=by
 revert X hh sk C hcl hcb hk hr5 hg5 hgr hl hlt s1 s2 s3 s4 s5 s6 s7;revert B A fm ρ H n cs T l lt r g;refine no_implicit_lambda% (G12 (h:=?_));refine (?_:A12 _) _ _ _ _ _ _ _ _ _ _ _ _;intro B A fm ρ H n cs T l lt r g X hh sk C hcl hcb hk hr5 hg5 hgr hl hlt s1 s2 s3 s4 s5 s6 s7;have hT:=hk.in
 have hz6:T.length ≤ 6:=hk.len;have hcount:=Oo hk hr5;have hW:=Ui hk hr5 hcount;have hway:∀ p ∈ Ja T r,(∀ i ∈ p.1,i < 5) ∧ p.1.length ≤ 5 ∧ -1000 ≤ p.2 ∧ p.2 ≤ 999:=hW.inn;have hstr:B.mg "str" = none:=mgN X (by rfl);have hsum:B.mg "sum" = none:=mgN X (by rfl);have habs:B.mg "abs" = none:=mgN X (by rfl);have hlen:B.mg "len" = none:=mgN X (by rfl);have hze:B.mg "ZeroDivisionError" = none:=mgN X (by rfl);have hget:∀ k:Nat,k < 8→(cs.map D.int)[k]? = some (.int (cs.getD k 0)) ∧ 0 ≤ cs.getD k 0 ∧ cs.getD k 0 < 10 ^ 9:=fun k hk=>by
  have hk':k < cs.length:=by refine rwb hcl ?_;exact hk
  refine rwb (List.getElem?_map) ?_;refine rwb (List.getElem?_eq_getElem hk') ?_;refine rwb (List.getD_eq_getElem?_getD) ?_;refine rwb (List.getElem?_eq_getElem hk') ?_;exact ⟨rfl,hcb _ (getElem_mem hk')⟩
 refine V5 (hget 7 (by decide)) fun h7 h70 h71=>?_;have seven:∀ {ρ:Loc} {H:Led} {P:D→Led→Prop} {p1 p2 p3:Pos},Has ρ "cells" (.lst (cs.map .int))→P (.int (cs.getD 7 0)) H→EvE B A fm ρ H (.Subscript (.Name "cells" p1) (.Constant (.int 7) 0 p2) p3) P NoE:=fun {ρ H P p1 p2 p3} a b=>EvE.J7 (Lf.loc C a) Lf.int<|Op2.X8 rfl (by decide) (by decide) h7 b;have etl:pick ((Ja T r).map Gv) (some (1:Int)) none none = (Ja T r).tail.map Gv:=by
  have:=pick_from ((Ja T r).map Gv) 1;(refine rwb List.map_tail ?_;refine rwf drop_one ?_);exact this
 have tlm:∀ p ∈ (Ja T r).tail,p ∈ Ja T r:=fun p hp=>mem_of_mem_tail hp;have tll:(Ja T r).tail.length ≤ 14:=by refine rwb List.length_tail ?_;lia
 refine Ss.assign C<|EvE.jq C X (O1 X)<|EvL.loc C s5<|EvL.cons<|EvE.call<|EvE.tq C (mgX X (by rfl)) ⟨_,Gm X,?_⟩;refine EvL.cons<|EvE.lst<|EvL.cons<|EvE.tup<|EvL.lf (Lf.Vl C s3)<|EvL.lf (Lf.Vl C s3)<|EvL.nil<|OpN.tuple<|EvL.nil<|OpN.jar (no_implicit_lambda% (G1 (h:=?_)));refine (?_:A1 _) _;intro ls;refine EvL.nil<|Fn.is C (Wa (n:=n) X (hs:=[(L r,L r)]) (.head _) (fun p hp=>by refine rwb (lS hp) ?_;exact ⟨Wt hr5,Wt hr5⟩)) (by lia) ?_;have hS0:Ys [[r]]:=⟨fun v hv=>by refine rwb (lS hv) ?_;exact ⟨by simp,by simpa using hr5,le_refl _⟩,by simp⟩
 refine EvL.lf (Lf.Vl C s3)<|EvL.nil<|Fn.op C ((E2 (n:=n) X hk hz6 hl 4 [r] [[r]] hS0 (.head _) (by
  refine fun v hv zz=>el12 zz fun x hx e=>?_;replace e:=ts (lS hv) e;have:=congrArg List.length e;replace this:=length_append ▸ this;have:=List.length_pos_iff.mpr hx
  lia) (by simp)).mono ?_) (by lia)
 rintro d H1 ⟨rfl,rfl⟩;have ekept:Yz T (4 + 1) [r] [[r]] = Gp T r:=rfl;refine rwb ekept ?_;have hkok:Ys (Gp T r):=(Cq hT 5 [r] [[r]] hS0 (.head _)).1;refine Ss.cons<|S1.Ea (l:=(Ja T r).tail) (f:=Gv) (t:=fun p=>!(Gp T r).contains p.1.dropLast) (g:=fun p=>I4 (Jf p.1.dropLast,Jf p.1,p.2)) C Wg (by rfl) (by rfl) (by rfl)<|EvE.bg<|EvE.loc C s6.ne<|EvP.some<|EvE.int ⟨1,rfl,EvP.none<|EvP.none<|Zx.lst (by decide) (by (rewrite [length_map];refine rwb sizeLine_eq ?_);lia) ⟨[],_,by refine rwb etl ?_;exact Jn.lst,List.Perm.refl _,by lia,?_,?_⟩⟩
 ·refine no_implicit_lambda% (G1 (h:=?_));refine (?_:A1 _) _;intro p hp D' fm2 out C2;have hpi:=hway p (tlm p hp);have hdl:Pr (Jf p.1.dropLast):=Yt (fun i hi=>hpi.1 i ((dropLast_sublist _).subset hi)) (by refine rwb length_dropLast ?_;lia);have hlw:(Xy (Jf p.1) none (some (-1))).length ≤ sizeLine:=by (rewrite [Vv,Zu];refine rwb length_dropLast ?_;refine rwb sizeLine_eq ?_);lia
  refine Asg.tup C2 rfl<|Jg.cons<|Asg.name C2<|Jg.cons<|Asg.name C2<|Jg.nil ⟨rfl,kpp (kpp kp0),fun fm5 out5 C5=>⟨?_,fun Z=>?_⟩⟩
  ·refine EvB.cmp<|EvE.bg<|EvE.loc C5 Has.self.ne<|EvP.none<|EvP.some<|EvE.un<|EvE.int<|Op1.neg ⟨-1,rfl,EvP.none<|Zx.str hlw<|EvE.Vl C5 (Has.ne (Has.ne (J2 Has.self (by rfl)))) ?_⟩;rw [Vv];refine Op2.jed C5 hdl.strOk ⟨?_,.inl rfl⟩ fun b hb=>⟨b,rfl,rfl,?_⟩
   ·simp only [Z4,Zr,Z2,Z3,all_eq_true];intro d hd;refine el12 (lM hd) fun v hv z2=>?_;subst z2;have hv:=hkok.ne v hv;have:=hkok.len;exact (Yt hv.2.1 (by lia)).strOk
   ·have hm:(D.str (Jf p.1.dropLast) ∈ (Gp T r).map fun v=>D.str (Jf v)) ↔ p.1.dropLast ∈ Gp T r:=by
     rw [mem_map]
     constructor
     ·refine fun zz=>el12 zz fun v hv e=>?_;injection e with e
      exact Y6 e ▸ hv
     ·exact fun h=>⟨_,h,rfl⟩
    rw [hm] at hb;rw [Bool.eq_iff_iff,hb,Bool.not_eq_true',Bool.eq_false_iff,ne_eq,contains_iff_mem]
  ·refine EvE.tup<|EvL.cons<|EvE.bg<|EvE.loc C5 Has.self.ne<|EvP.none<|EvP.some<|EvE.un<|EvE.int<|Op1.neg ⟨-1,rfl,EvP.none<|Zx.str hlw<|EvL.loc C5 Has.self.ne<|EvL.loc C5 Has.self<|EvL.nil<|OpN.tuple ⟨by rw [Vv];rfl,rfl⟩⟩
 have eleft:(((Ja T r).tail.filter fun p=>!(Gp T r).contains p.1.dropLast).map fun p=>I4 (Jf p.1.dropLast,Jf p.1,p.2)) = (Yn T r).map I4:=by unfold Yn Es;refine rwb map_map ?_;rfl
 refine rwb eleft ?_;have hll:(Yn T r).length ≤ 14:=by
  unfold Yn Es;rw [length_map];exact le_trans (length_filter_le _ _) tll
 have hli:∀ x ∈ Yn T r,Qt x:=fun x hx=>by
  refine el12 (lM hx) fun p hp z2=>?_;subst z2;have hpi:=hway p (tlm p (lF hp).1);exact ⟨(Yt (fun i hi=>hpi.1 i ((dropLast_sublist _).subset hi)) (by refine rwb length_dropLast ?_;lia)).strOk,(Yt hpi.1 (by lia)).strOk,hpi.2.2⟩
 have hbl:=Hw hli;refine el11 (⟨_,rfl⟩:∃ m,m = Rp cs (Yn T r)) fun m hm=>?_;have hm2:2 + bitsW (Yn T r) ≤ m:=by refine rwb hm ?_;unfold Rp;lia
 have hm3:m ≤ 2300:=by
  refine rwb hm ?_;unfold Rp;refine Jeq hbl hll (emod_lt_of_pos _ (by decide)) ?_;have a2:∀ z:Int,z < 16→z / 15 ≤ 1:=fun z h=>by lia
  exact a2 _ (emod_lt_of_pos _ (by decide))
 refine Ss.assign C<|EvE.bin<|EvE.bin<|EvE.Wf Lf.int<|EvE.call<|EvE.gu C (by rfl) hsum (by rfl) (by decide) ⟨_,Kp.builtin,EvL.cons<|EvE.Md (l:=Yn T r) (f:=I4) (g:=fun x=>D.int (intBits ((x.2.2.natAbs:Int) + 1))) C Fh (by rfl)<|EvE.loc C Has.self ⟨[],_,Jn.lst,List.Perm.refl _,by lia,?_,?_⟩⟩
 ·refine no_implicit_lambda% (G1 (h:=?_));refine (?_:A1 _) _;intro x hx D' fm2 out C2;refine Asg.tup C2 rfl<|Jg.cons<|Asg.name C2<|Jg.cons<|Asg.name C2<|Jg.cons<|Asg.name C2<|Jg.nil ⟨rfl,kpp (kpp (kpp kp0)),fun fm5 out5 C5=>?_⟩;refine EvE.ij<|EvE.bin<|EvE.call<|EvE.gu C5 (by rfl) habs (by rfl) (by decide) ⟨_,Kp.builtin,EvL.loc C5 Has.self<|EvL.nil<|Cl.abs<|EvE.int<|Op2.add ⟨_,Ji.int PySem.F.slot_int_bit_length PySem.F.plainAttrs_int PySem.F.type_int_bit_length,Kp.builtin,EvL.nil<|Cl.Ts ⟨?_,rfl⟩⟩⟩;have:(if x.2.2 < 0 then -x.2.2 else x.2.2) = (x.2.2.natAbs:Int):=by split <;> lia
  refine rwb this ?_;with_reducible rfl
 have esum:((Yn T r).map fun x=>D.int (intBits ((x.2.2.natAbs:Int) + 1))) = ((Yn T r).map fun x=>(intBits ((x.2.2.natAbs:Int) + 1):Int)).map .int:=by rw [map_map];rfl
 refine rwb esum ?_;refine EvL.nil<|Cl.sum hh ?_;rw [Hy];refine Op2.add<|EvE.bin<|EvE.bin<|seven s1.ne.ne<|EvE.int<|Op2.fdiv (by decide) (Ku (by decide))<|EvE.int<|Op2.fmod (by decide)<|Op2.add<|EvE.bin<|EvE.bin<|EvE.bin<|EvE.bin<|seven s1.ne.ne<|EvE.int<|Op2.fdiv (by decide) (Ku (by decide))<|EvE.int<|Op2.fmod (by decide)<|EvE.int<|Op2.fdiv (by decide) (Ku (by decide))<|EvE.int<|Op2.mul (IntMulOk.of_right (by decide))<|Op2.add ?_;have ew:(2 + (bitsW (Yn T r):Int) + ((cs.getD 7 0).fdiv 8).fmod 8 + (((cs.getD 7 0).fdiv 64).fmod 16).fdiv 15 * 2050) = (m:Int):=by
  refine rwb (J0 (by decide)) ?_;refine rwb (J3 (by decide)) ?_;refine rwb (J0 (by decide)) ?_;refine rwb (J3 (by decide)) ?_;refine rwb (J0 (by decide)) ?_;refine rwb hm ?_;unfold Rp;exact wid _ (emod_nonneg _ (by decide)) (Int.ediv_nonneg (emod_nonneg _ (by decide)) (by decide))
 refine rwb ew ?_;exact Jbf X hh sk C hk hr5 hg5 hgr hm2 hm3 (.tail _ hl) (.tail _ hlt) hli hll hW s2.ne.ne.ne s3.ne.ne.ne s4.ne.ne.ne s5.ne.ne.ne s6.ne.ne.ne s7.ne.ne.ne Has.self.ne Has.self
theorem Dh {T:List Tie} {m:Nat} (hk:Yf T m) {r:Nat} (hr:r < 5):(tab (Ly ((Ja T r).map Zz).reverse (upS (L r)))).reverse = (Ja T r).tail.map I1:=by
 revert hk hr;revert T m r;refine no_implicit_lambda% (G3 (h:=?_));refine (?_:A3 _) _ _ _;intro T m r hk hr;unfold Ly;refine rwb List.filter_reverse ?_;unfold tab;refine rwb map_reverse ?_;rw [reverse_reverse];have hw:=Xn hk.in hr;have nd:=Rr hk hr;rw [hw] at nd ⊢;have hall:∀ p ∈ bfs T 12 [([r],1)],∀ i ∈ p.1,i < 5:=fun p hp i hi=>by
  have:p ∈ Ja T r:=by refine rwb hw ?_;exact .tail _ hp
  refine el12 (Zf hk hr this) fun k Z hpk=>?_;exact (J6 hk.in hr k p hpk).lt i hi
 generalize bfs T 12 [([r],1)] = t at nd hall ⊢;(replace nd:=map_cons ▸ nd;rw [nodup_cons] at nd);refine rwb tail_cons (rwb map_cons (rwb filter_cons ?_));have e1:∀ w:List Nat,(∀ i ∈ w,i < 5)→Yi (Jf w) (upS (L r)) = (Jf w == Jf [r]):=fun w hw=>by
  unfold Yi;refine rwb (Ut hw) ?_;exact rwb (show Wq (upS (L r)) = Jf [r] from Z1 (w:=[r]) (by simpa using hr)) rfl
 have h0:Yi (Zz ([r],1)).1 (upS (L r)) = true:=by
  show Yi (Jf [r]) (upS (L r)) = true;refine rwb (e1 [r] (by simpa using hr)) ?_;simp
 refine rwb h0 (rwb (if_neg (by decide)) ?_);have e2:(t.map Zz).filter (fun p=>!Yi p.1 (upS (L r))) = t.map Zz:=by
  rw [filter_eq_self];intro q hq;refine el12 (lM hq) fun p hp z2=>?_;subst z2;show (!Yi (Jf p.1) (upS (L r))) = true;refine rwb (e1 p.1 (hall p hp)) ?_;rw [Bool.not_eq_true',beq_eq_false_iff_ne];intro e;exact nd.1 (List.mem_map.mpr ⟨p,hp,Y6 e⟩)
 (refine rwb e2 (rwb map_map ?_));rfl
theorem Bl {W:List Way} (h:We W) {p:Way} (hp:p ∈ W):A0 (W.map Zz) (upS (Jf p.1)) = [num p.2]:=by
 revert h hp;revert W p;refine no_implicit_lambda% (G2 (h:=?_));refine (?_:A2 _) _ _;intro W p h hp;have hpi:=h.inn p hp;unfold A0;have nd:=h.nd;have inn:=h.inn;clear h
 induction W with
 | nil=>contradiction
 | cons a W ih=>
  (replace nd:=map_cons ▸ nd;rw [nodup_cons] at nd);have ha:=inn a (.head _);have eq:∀ q:Way,(∀ i ∈ q.1,i < 5)→Yi (Zz q).1 (upS (Jf p.1)) = (Jf q.1 == Jf p.1):=fun q hq=>by
   show Yi (Jf q.1) (upS (Jf p.1)) = _;unfold Yi;refine rwb (Ut hq) ?_;exact rwb (Z1 hpi.1) rfl
  refine rwb map_cons (rwb filter_cons (rwb (eq a ha.1) ?_))
  rcases lC hp with rfl | hp
  ·rewrite [beq_self_eq_true];refine rwb (if_pos rfl) ?_;have:(W.map Zz).filter (fun q=>Yi q.1 (upS (Jf p.1))) = []:=by
    rw [filter_eq_nil_iff];intro q hq;refine el12 (lM hq) fun b hb z2=>?_;subst z2;refine rwb (eq b (inn b (.tail _ hb)).1) ?_;intro e;exact nd.1 (Y6 (beq_iff_eq.mp e) ▸ mem_map_of_mem hb)
   refine rwb this ?_;rfl
  ·have:(Jf a.1 == Jf p.1) = false:=by
    rw [beq_eq_false_iff_ne];intro e;exact nd.1 (Y6 e ▸ mem_map_of_mem hp)
   refine rwb this (rwb (if_neg (by decide)) ?_);exact ih hp nd.2 fun q hq=>inn q (.tail _ hq)
theorem Fp (X:XB B) {ns:List Int} (hz:ns.length ≤ 63) (hh:A.handled = none) (sk:Sk fm) (C:Cx A fm (Jh 39) cnL (n + 30)) (hs:Has ρ "script" (.lst (ns.map .int))):ExS B A fm ρ H (bodyOf 39) (fun Z Z=>False) (fun d Z=>d = .bool true) NoE:=by
 revert X hz hh sk C hs;revert B A fm ρ H n ns;refine no_implicit_lambda% (G7 (h:=?_));refine (?_:A7 _) _ _ _ _ _ _ _;intro B A fm ρ H n ns X hz hh sk C hs;refine Ss.assign C<|EvE.jq C X (M4 X)<|EvL.loc C hs<|EvL.nil<|Fn0.op C hh ((Hj (n:=n) X hz).mono ?_) (by lia);rintro d H1 ⟨rfl,cs,rfl,hcl,hcb⟩;have hget:∀ k:Nat,k < 8→(cs.map D.int)[k]? = some (.int (cs.getD k 0)) ∧ 0 ≤ cs.getD k 0 ∧ cs.getD k 0 < 10 ^ 9:=fun k hk=>by
  have hk':k < cs.length:=by rw [hcl];exact hk
  rw [List.getElem?_map,List.getElem?_eq_getElem hk',List.getD_eq_getElem?_getD,List.getElem?_eq_getElem hk'];exact ⟨rfl,hcb _ (getElem_mem hk')⟩
 refine Ss.assign C<|EvE.jq C X (Dl X)<|EvL.loc C Has.self<|EvL.nil<|Fn0.op C hh ((fn_ties (n:=n) X hcl hcb).mono ?_) (by lia);rintro d H2 ⟨rfl,T,rfl,hk⟩;have hT:=hk.in
 have hz6:T.length ≤ 6:=hk.len;obtain ⟨h6,h60,h61⟩:=hget 6 (by decide);obtain ⟨h7,h70,h71⟩:=hget 7 (by decide);have m5:=Jdm (cs.getD 6 0);have hr5:rootN cs < 5:=Qb m5.2.2.1;have hg5:goalN cs < 5:=Qb m5.2.2.2.2;have er:(rootN cs:Int) = cs.getD 6 0 % 5:=Int.toNat_of_nonneg m5.2.1;have eg:(goalN cs:Int) = (cs.getD 6 0 + 1 + cs.getD 6 0 / 5 % 4) % 5:=Int.toNat_of_nonneg m5.2.2.2.1;have hgr:goalN cs ≠ rootN cs:=fun e=>m5.1 (er.symm.trans ((congrArg Nat.cast e.symm).trans eg));clear m5;generalize hr:rootN cs = r at *;generalize hg:goalN cs = g at *;have six:∀ {ρ:Loc} {H:Led} {P:D→Led→Prop} {p1 p2 p3:Pos},Has ρ "cells" (.lst (cs.map .int))→P (.int (cs.getD 6 0)) H→EvE B A fm ρ H (.Subscript (.Name "cells" p1) (.Constant (.int 6) 0 p2) p3) P NoE:=fun {ρ H P p1 p2 p3} a b=>EvE.J7 (Lf.loc C a) Lf.int<|Op2.X8 rfl (by decide) (by decide) h6 b;have seven:∀ {ρ:Loc} {H:Led} {P:D→Led→Prop} {p1 p2 p3:Pos},Has ρ "cells" (.lst (cs.map .int))→P (.int (cs.getD 7 0)) H→EvE B A fm ρ H (.Subscript (.Name "cells" p1) (.Constant (.int 7) 0 p2) p3) P NoE:=fun {ρ H P p1 p2 p3} a b=>EvE.J7 (Lf.loc C a) Lf.int<|Op2.X8 rfl (by decide) (by decide) h7 b;refine Ss.cons<|S1.unpack (by rfl) (Ym (by rfl)) C<|EvE.tup<|EvL.cons<|EvE.l9 Lf.str<|EvE.bin<|six Has.self.ne<|EvE.int<|Op2.fmod (by decide) ?_;rw [J3 (by decide),← er];refine Op2.Ol rfl (Int.natCast_nonneg _) (Int.ofNat_lt.mpr hr5) ?_;refine EvL.cons<|EvE.l9 Lf.str<|EvE.bin<|EvE.bin<|EvE.bin<|six Has.self.ne<|EvE.int<|Op2.add<|EvE.bin<|EvE.bin<|six Has.self.ne<|EvE.int<|Op2.fdiv (by decide) (Ku (by decide))<|EvE.int<|Op2.fmod (by decide)<|Op2.add<|EvE.int<|Op2.fmod (by decide) ?_
 rw [J0 (by decide),J3 (by decide),J3 (by decide),← eg];refine Op2.Ol rfl (Int.natCast_nonneg _) (Int.ofNat_lt.mpr hg5) ?_;rw [toNat_natCast,toNat_natCast];refine EvL.nil<|OpN.tuple<|Asg.tup C rfl<|Jg.cons<|Asg.name C<|Jg.cons<|Asg.name C<|Jg.nil ?_;refine Ss.cons<|S1.iy C<|EvE.jq C X (Ek X)<|EvL.loc C Has.self.ne.ne<|EvL.cons<|seven Has.self.ne.ne.ne<|EvL.nil<|Fn0.op C hh ((Jcx (n:=n) X hT (by lia) h70).mono ?_) (by lia);rintro d H3 ⟨l,rfl,rfl⟩;refine EvE.jq C X (Dk X)<|EvL.loc C Has.self.ne.ne<|EvL.lf (Lf.Vl C Has.self.ne)<|EvL.nil<|Fn0.is C hh (Jbl (n:=n) X hT hz6 hr5) (by lia) ?_;have hcount:=Oo hk hr5;have hW:=Ui hk hr5 hcount;refine Ss.assign C<|EvE.jq C X (Dm X)<|EvL.loc C Has.self<|EvL.lf (Lf.Vl C Has.self.ne.ne.ne)<|EvL.nil<|Fn0.op C hh ((Jbm (n:=n) X hT hz6 hr5 (.head _)).mono ?_) (by lia);rintro d H4 ⟨lt,rfl,rfl⟩;refine Ss.assign C<|EvE.J4 (Lf.Vl C Has.self) ⟨_,W9 X,Kp.xl (Wm X),EvL.nil<|Fn.op C ((Uw (n:=n) X (.head _) (by rw [length_map];lia)).mono ?_) (by lia)⟩;rintro d H5 ⟨bt,rfl,rfl⟩;refine Ss.cons<|S1.expr<|EvE.J4 (Lf.loc C Has.self) ⟨_,Ji.list (.head _) PySem.F.slot_list_reverse PySem.F.type_list_reverse,Kp.builtin,EvL.nil<|Cl.reverse .head (by rw [length_map,length_map,sizeLine_eq];lia) ?_⟩;have erev:(tab ((Ja T r).map Zz)).reverse = tab ((Ja T r).map Zz).reverse:=by unfold tab;rw [map_reverse]
 rw [erev];have hprv:=hW.je9;have hprr:PrV ((Ja T r).map Zz).reverse:=fun p hp=>hprv p (List.mem_reverse.mp hp);refine Ss.cons<|S1.expr<|EvE.jq C X (Xw X)<|EvL.cons<|EvE.call<|EvE.tq C (mgX X (by rfl)) ⟨_,Gm X,EvL.loc C Has.self<|EvL.nil<|Fn.is C (Wa (n:=n) X (.head _) hprr) (by lia) ?_⟩;refine EvL.cons<|EvE.J4 (Lf.Vl C Has.self.ne.ne.ne.ne.ne) ⟨_,Y4,Kp.builtin,EvL.nil<|Cl.xg (Wt hr5)<|EvL.nil<|Fn.op C ((Lq (n:=n) X (hs:=((Ja T r).map Zz).reverse) .head (Wt hr5).up (fun p hp=>(hprr p hp).1) (by rw [length_reverse,length_map];lia)).mono ?_) (by lia)⟩;rintro d H6 ⟨rfl,rfl⟩;have htree:∀ {ext:Led},(lt,tab ((Ja T r).map Zz)) ∈ ext ++ (lt,tab ((Ja T r).map Zz)) :: (l,tab (Vc T)) :: H2:=fun {ext}=>mem_append_right _ (.head _);have hway:∀ p ∈ Ja T r,(∀ i ∈ p.1,i < 5) ∧ p.1.length ≤ 5 ∧ -1000 ≤ p.2 ∧ p.2 ≤ 999:=hW.inn;have ekeys:((Ja T r).map Zz).map (fun p=>D.str p.1) = ((Ja T r).map (·.1)).map fun w=>D.str (Jf w):=by rw [map_map,map_map];rfl
 have hstr:B.mg "str" = none:=mgN X (by rfl);have wayStr_inj:∀ a b:List Nat,D.str (Jf a) = D.str (Jf b)→a = b:=fun a b h=>by injection h with h;exact Y6 h
 refine Ss.cons<|S1.Bf (l:=(Ja T r).map (·.1)) (f:=fun w=>D.str (Jf w)) (g:=fun w=>.tup [.str (Jf w),.lst [.str (num (Mg (Ja T r) w))]]) C wayStr_inj (by rfl) (by rfl) (by rfl)<|EvE.J4 (Lf.Vl C Has.self.ne) ⟨_,M7 X,Kp.xl (O0 X),EvL.nil<|Fn.is C (E1 (n:=n) X (.tail _ (.head _)) (by rw [length_map];lia)) (by lia) ⟨[],_,by rw [ekeys];exact Jn.lst,List.Perm.refl _,by rw [length_map];lia,?_,?_⟩⟩
 ·intro w hw D' fm2 out C2;obtain ⟨p,hp,rfl⟩:=lM hw;have hpi:=hway p hp;refine Asg.name C2 ⟨rfl,kpp kp0,fun fm5 out5 C5=>?_⟩;refine EvE.tup<|EvL.loc C5 Has.self<|EvL.cons<|EvE.J4 (Lf.Vl C5 (Has.ne (J2 Has.self.ne (by rfl)))) ⟨_,Xa X,Kp.xl (Gy X),EvL.cons<|EvE.J4 (Lf.loc C5 Has.self) ⟨_,Y4,Kp.builtin,EvL.nil<|Cl.xg (Yt hpi.1 (by lia))<|EvL.nil<|Fn.is C5 (Ud (n:=n) X (.tail _ (.tail _ (.head _))) (Yt hpi.1 (by lia)).up (fun q hq=>(hprv q hq).1) (by rw [length_map];lia)) (by lia)<|EvL.nil<|OpN.tuple ⟨?_,rfl⟩⟩⟩;rw [Bl hW hp,Uh hW.nd hp];rfl
 have hfl:∀ p ∈ Ja T r,PyData.strOk (Jf p.1) = true ∧ PyData.strOk (num p.2) = true:=fun p hp=>by
  have hpi:=hway p hp;exact ⟨(Yt hpi.1 (by lia)).strOk,(W6 (by lia) (by lia)).1.strOk⟩
 have etl:pick ((Ja T r).map Gv) (some (1:Int)) none none = (Ja T r).tail.map Gv:=by
  have:=pick_from ((Ja T r).map Gv) 1;rw [List.map_tail,← drop_one];exact this
 have tlm:∀ p ∈ (Ja T r).tail,p ∈ Ja T r:=fun p hp=>mem_of_mem_tail hp;have tll:(Ja T r).tail.length ≤ 14:=by rw [List.length_tail];lia
 refine Ss.xh<|EvB.or<|EvB.cmp<|EvE.bg<|EvE.loc C Has.self.ne<|EvP.none<|EvP.none<|EvP.some<|EvE.un<|EvE.int<|Op1.neg ⟨-1,rfl,Zx.own (.head _) (by decide) (by rw [length_map,sizeLine_eq];have:=length_filter_le (fun p:Str × Str=>!Yi p.1 (upS (L r))) ((Ja T r).map Zz).reverse;rw [length_reverse,length_map] at this;unfold Ly;lia) ?_⟩;rw [B4,Dh hk hr5];refine EvE.Md (l:=(Ja T r).tail) (f:=Gv) (g:=I1) C Wg (by rfl)<|EvE.bg<|EvE.loc C Has.self.ne.ne.ne.ne<|EvP.some<|EvE.int ⟨1,rfl,EvP.none<|EvP.none<|Zx.lst (by decide) (by rw [length_map,sizeLine_eq];lia) ⟨[],_,by rw [etl];exact Jn.lst,List.Perm.refl _,by lia,?_,?_⟩⟩
 ·intro p hp D' fm2 out C2;have hpi:=hway p (tlm p hp);refine Asg.tup C2 rfl<|Jg.cons<|Asg.name C2<|Jg.cons<|Asg.name C2<|Jg.nil ⟨rfl,kpp (kpp kp0),fun fm5 out5 C5=>?_⟩;exact EvE.tup<|EvL.loc C5 Has.self.ne<|EvL.cons<|EvE.call<|EvE.gu C5 (by rfl) hstr PyProof.Rows.Boot.«str» (by decide) ⟨_,Kp.type,EvL.loc C5 Has.self<|EvL.nil<|Cl.num (by lia) (by lia)<|EvL.nil<|OpN.tuple ⟨rfl,rfl⟩⟩
 have f1:D.fl 9 (.lst ((Ja T r).tail.map I1)) = true:=by
  simp only [Z4,Zr,Z2,Z3,all_eq_true];intro d hd;obtain ⟨p,hp,rfl⟩:=lM hd;have:=hfl p (tlm p hp);simp [I1,Z4,Zr,Z2,Z3,this.1,this.2]
 refine Op2.neF C ⟨f1,.inl rfl⟩ ⟨f1,.inl rfl⟩ fun b hb=>⟨b,rfl,?_⟩;have hb0:b = false:=by
  cases b
  ·rfl
  ·exact absurd rfl (hb.mp rfl)
 subst hb0;rw [if_neg (by decide)];have ek:((Ja T r).map (·.1)).map (fun w=>D.tup [.str (Jf w),.lst [.str (num (Mg (Ja T r) w))]]) = (Ja T r).map fun p=>D.tup [.str (Jf p.1),.lst [.str (num p.2)]]:=by
  rw [map_map];exact map_congr_left fun p hp=>by show D.tup [.str (Jf p.1),.lst [.str (num (Mg (Ja T r) p.1))]] = _;rw [Uh hW.nd hp]
 rw [ek];refine EvB.or<|EvB.jav (Lf.loc C Has.self)<|EvE.Md (l:=Ja T r) (f:=Gv) (g:=fun p=>D.tup [.str (Jf p.1),.lst [.str (num p.2)]]) C Wg (by rfl)<|EvE.loc C Has.self.ne.ne.ne.ne ⟨[],_,Jn.lst,List.Perm.refl _,by lia,?_,?_⟩
 ·intro p hp D' fm2 out C2;have hpi:=hway p hp;refine Asg.tup C2 rfl<|Jg.cons<|Asg.name C2<|Jg.cons<|Asg.name C2<|Jg.nil ⟨rfl,kpp (kpp kp0),fun fm5 out5 C5=>?_⟩;exact EvE.tup<|EvL.loc C5 Has.self.ne<|EvL.cons<|EvE.lst<|EvL.cons<|EvE.call<|EvE.gu C5 (by rfl) hstr PyProof.Rows.Boot.«str» (by decide) ⟨_,Kp.type,EvL.loc C5 Has.self<|EvL.nil<|Cl.num (by lia) (by lia)<|EvL.nil<|OpN.list<|EvL.nil<|OpN.tuple ⟨rfl,rfl⟩⟩
 have f2:D.fl 9 (.lst ((Ja T r).map fun p=>D.tup [.str (Jf p.1),.lst [.str (num p.2)]])) = true:=by
  simp only [Z4,Zr,Z2,Z3,all_eq_true];intro d hd;obtain ⟨p,hp,rfl⟩:=lM hd;have:=hfl p hp;simp [Z4,Zr,Z2,Z3,this.1,this.2]
 refine Op2.neF C ⟨f2,.inl rfl⟩ ⟨f2,.inl rfl⟩ fun b hb=>⟨b,rfl,?_⟩;have hb0:b = false:=by
  cases b
  ·rfl
  ·exact absurd rfl (hb.mp rfl)
 subst hb0;rw [if_neg (by decide)];refine EvB.jeo ?_;rw [if_neg (by decide)];refine Ss.nil ?_;exact Fs X hh sk C hcl hcb hk hr5 hg5 hgr (.tail _ (.tail _ (.head _))) (.tail _ (.head _)) Has.self.ne.ne.ne.ne.ne.ne.ne.ne Has.self.ne.ne.ne.ne.ne.ne.ne Has.self.ne.ne.ne.ne.ne.ne Has.self.ne.ne.ne.ne.ne Has.self.ne.ne.ne Has.self.ne.ne.ne.ne Has.self.ne.ne
theorem Ja7 {B:Base} (X:XB B):Jm B 366 (bodyOf 39) (Jh 39) ["script"] []:=Jm.of X (by rfl) rfl rfl rfl rfl rfl (by rfl) (all1 fun a=>rfl)
theorem Fq {B:Base} {A:Around} {F:Fz} {v:Value} {s:Shared} (X:XB B) {ns:List Int} (hz:ns.length ≤ 63) (g:GS B F [] { s with toks:=s.toks + 1 }) (hh:A.handled = none) (hdep:A.depth + 31 ≤ 900) (hun:A.units + 60 * 31 ≤ 9000) (hfr:A.frames = some [])
  (rv:Jd F v (.lst (ns.map .int))):codeAny B.M A (.call (.ref 366) ⟨[v],[]⟩) (fun r s'=>r = .ok (.ret (.bool true)) ∧ ∃ F' H',GS B F' H' s') s:=
 codeAny_mono ((Ja7 X).jdf (n:=30) (P:=fun d Z=>d = .bool true) g hh hdep hun hfr (by rfl) (by rfl) (by rfl) rv fun A' fm h1 sk C=>Fp (n:=0) X hz h1 sk C Has.self) fun r s' y=>el44 y fun v' d' F' H' e p r' g'=>by
  subst e;subst p;cases r';exact ⟨rfl,F',H',g'⟩
theorem law_good {p:Program} {loose:List Str} {mean:ExcName→Option Value} {mg mb:Str→Option Value} {w:World} {s:Shared} (T:Top p loose mean mg mb s.heap) (X:(Gq w.params).In s.heap)
  (h8:∀ P ∈ [293,54,47],s.heap.get? P = some (tabObj #[])) (hg:s.gens = #[]) {fa lst:Addr} (hf:mg "law" = some (.ref fa)) {ns:List Int} (hz:ns.length ≤ 63)
  (hw:Well w.params s.heap (.ref lst) (ofPy (.list (ns.map .int)))) {cl:Str→Option Addr} {mean':ExcName→Option Value} {args:List WData} :
  wpAny (model PySem.Challenge.rw_wc0026_01.row.prog w) callerA (PySem.call (.ref fa) [.ref lst]) (fun v s'=>GoodWG PySem.Challenge.rw_wc0026_01.row.claim cl mean' args s (.ok (.ret v)) s')
   (fun e s'=>GoodWG PySem.Challenge.rw_wc0026_01.row.claim cl mean' args s (.error e) s') s:=by
 have hT:=Ja4 X h8;have hfa:fa = 366:=by
  have:=mg_of X T.g (show nsIn (Gq w.params) mainGlobals "law" = some (some (.ref 366)) by rfl);rw [hf] at this;cases this;rfl
 subst hfa;obtain ⟨vs,e1,wr⟩:∃ vs,s.heap.get? lst = some (listOf vs.toArray 0) ∧ WellAll w.params s.heap vs (ofPys (ns.map PyData.int)):=by
  cases hw with
  | list a b=>exact ⟨_,a,b⟩
 have XB':XB (baseOf w s mg mb):=⟨Ay T hT X,ghost_K hT X (by rfl)⟩;have hlt:lst ∉ Yb:=fun hm=>by
  have hm':lst ∈ [293,54,47]:=by
   simp only [Yb,mem_cons,not_mem_nil,or_false] at hm
   rcases hm with rfl | rfl | rfl <;> decide
  have:=h8 lst hm';rw [e1] at this;cases this
 refine enter_call (kn_post hT (fun Z Z=>rfl) ?_)
 have G:GS (baseOf w s mg mb) ⟨fun b=>if b = lst then some (listOf vs.toArray 0) else none,fun Z=>none⟩ [] { s with toks:=s.toks + 1 }:={
  tp:=Nat.succ_ne_zero _
  tg:=fun Z Z q=>nomatch q
  same:=⟨_,_,rfl⟩
  base:=fun b o e=>of_hideAll _ e
  froz:=fun b o e=>by
   dsimp only at e;split at e
   ·rename_i q;subst q;cases e;exact e1
   ·cases e
  own:=fun Z h=>nomatch h
  nod:=List.nodup_nil
  apart:=fun Z h=>nomatch h
  tab:=fun q hq=>.inl (h8 _ (by
   simp only [Vn,mem_cons,not_mem_nil,or_false] at hq
   rcases hq with rfl | rfl | rfl <;> decide))
  bk:=XB'.ok
  tabF:=fun a ha=>⟨if_neg fun (q:a = lst)=>hlt (q ▸ ha),hideAll_none _ (by
   simp only [Yb,mem_cons,not_mem_nil,or_false] at ha
   rcases ha with rfl | rfl | rfl <;> decide)⟩ }
 refine codeAny_mono (Fq (A:=callerA) XB' hz G rfl (by decide) (by decide) rfl (.lst (if_pos rfl) (Tt wr))) fun r s' ⟨e,F',H',g'⟩=>?_;subst e;obtain ⟨h',tk',e'⟩:=g'.same;refine ⟨⟨.inl ⟨_,.bool true,[],rfl,fun Z=>rfl,.bool _,postW_of (by wrow_shape) (by wtm_val) (by w_fin),fun Z=>⟨List.nodup_nil,fun Z h=>nomatch h⟩⟩,g'.base,by rw [e'];rfl,by rw [e'];exact hg⟩,?_⟩;have gr:∀ q ∈ Vn,GrownAt q.P s'.heap:=fun q hq=>by
  rcases g'.tab q hq with e | ⟨_,_,_,_,e,_⟩
  ·exact ⟨_,e⟩
  ·exact ⟨_,e⟩
 exact ⟨gr _ (.head _),gr _ (.tail _ (.head _)),gr _ (.tail _ (.tail _ (.head _))),trivial⟩
end
end Mine.Tactic
set_option maxHeartbeats 8000000 in
theorem PySem.Challenge.cw_wc0026_01_holds : PySem.Challenge.rw_wc0026_01.Holds := by
 refine holds_law Mine.Tactic.said fun sd=>?_;refine holds_open (q:=Mine.Tactic.qv) (loose:=Mine.Tactic.looseV) (XP:=XL Mine.Tactic.qv []) (YP:=Hook.says Mine.Tactic.hookV) Mine.Tactic.left (Hook.of Mine.Tactic.hookV) (Hook.keeps Mine.Tactic.hookV) (fun s e=>xl_of s (Bool.and_eq_true_iff.mp e).1) XL.keeps (by rfl) (by rfl) (by rfl) (fun s e=>recFacts_of (Bool.and_eq_true_iff.mp e).2) rfl sd (by decide +kernel) ⟨rfl,rfl,rfl,rfl,rfl,by decide +kernel⟩ ?hw ?hc
 case hw=>w_witness2
 intro w s₀ s₁ mg mb G Y fa o pm cd doc dV kV ho hd hcd hD hmg hg args vals as hpre hlay hrd hwl hlo;have KX:=km_in_of Y;have hT8:=km_tabs_of Y;refine Ground.open G ?_;intro T B D TE TW;clear G B D TE TW ho hd hcd hD Y
 wrow_args hpre hlay hrd hwl hlo
 rename Well _ _ _ _=>w1
 rename ¬ (63:Int) < _=>h63
 exact Mine.Tactic.law_good T KX hT8 hg hmg (by omega) w1
end
