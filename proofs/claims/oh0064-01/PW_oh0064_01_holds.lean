import PyProof.Rows.All
import Wide.All
import OpenK.AllK
import Wide.FinOn
import PyProof.SliceMore
import PyProof.Rows.SortWalk
import Lean
import PySem.Challenge.RW_oh0064_01
open PySem PySem.W PySem.W.X PyProof.Rows PySem.W.SL
set_option genSizeOf false
set_option genInjectivity false
set_option Elab.async false
set_option maxRecDepth 100000
set_option linter.unusedVariables false
namespace Mine
noncomputable section
noncomputable abbrev lz1:Str:=⟨⟨[47,99,108,97,105,109,47,99,117,116,46,112,121]⟩⟩
noncomputable abbrev lz2:Str:=⟨⟨[123]⟩⟩
noncomputable abbrev lz3:Str:=⟨⟨[123,42,125]⟩⟩
noncomputable abbrev l4:Str:=⟨⟨[99,112,121,51,49,51,46,103,114,97,112,104,108,105,98]⟩⟩
noncomputable abbrev l5:Str:=⟨⟨[123,125,42]⟩⟩
noncomputable abbrev l6:Str:=⟨⟨[108,97,119,95,111,104,48,48,54,52,95,48,49]⟩⟩
noncomputable abbrev l7:Str:=⟨⟨[123,42,125,42]⟩⟩
noncomputable abbrev l8:Str:=⟨⟨[125,42]⟩⟩
noncomputable abbrev l9:Str:=⟨⟨[95,95,100,111,99,95,95]⟩⟩
noncomputable abbrev l10:Str:=⟨⟨[95,95,105,110,105,116,95,95]⟩⟩
noncomputable abbrev l11:Str:=⟨⟨[95,95,119,101,97,107,114,101,102,95,95]⟩⟩
noncomputable abbrev l12:Str:=⟨⟨[95,83,101,108,101,99,116,111,114,67,111,110,116,101,120,116]⟩⟩
noncomputable abbrev l13:Str:=⟨⟨[95,78,111,100,101,73,110,102,111]⟩⟩
noncomputable abbrev l14:Str:=⟨⟨[67,121,99,108,101,69,114,114,111,114]⟩⟩
noncomputable abbrev l15:Str:=⟨⟨[84,111,112,111,108,111,103,105,99,97,108,83,111,114,116,101,114]⟩⟩
noncomputable abbrev l16:Str:=⟨⟨[95,115,105,102,116,100,111,119,110]⟩⟩
noncomputable abbrev l17:Str:=⟨⟨[95,115,105,102,116,117,112]⟩⟩
noncomputable abbrev l18:Str:=⟨⟨[95,108,97,119,95,114,111,97,100,115]⟩⟩
noncomputable abbrev l19:Str:=⟨⟨[95,108,97,119,95,112,105,99,107,101,100]⟩⟩
noncomputable abbrev l20:Str:=⟨⟨[95,108,97,119,95,105,110,116,111]⟩⟩
noncomputable abbrev l21:Str:=⟨⟨[95,108,97,119,95,104,101,105,103,104,116,115]⟩⟩
noncomputable abbrev l22:Str:=⟨⟨[95,108,97,119,95,111,117,116]⟩⟩
noncomputable abbrev l23:Str:=⟨⟨[95,108,97,119,95,103,111,110,101]⟩⟩
noncomputable abbrev l24:Str:=⟨⟨[95,108,97,119,95,108,101,97,115,116]⟩⟩
noncomputable abbrev l25:Str:=⟨⟨[108,97,119]⟩⟩
noncomputable abbrev l26:Str:=⟨⟨[125]⟩⟩
noncomputable abbrev l27:Str:=⟨⟨[95,119,97,108,108]⟩⟩
noncomputable abbrev l28:Str:=⟨⟨[95,112,114,101,112,97,114,101,95,116,97,103]⟩⟩
noncomputable abbrev l29:Str:=⟨⟨[104,101,97,112,112,117,115,104]⟩⟩
noncomputable abbrev l30:Str:=⟨⟨[104,101,97,112,112,111,112]⟩⟩
noncomputable abbrev l31:Str:=⟨⟨[95,108,97,119,95,116,104,105,110,103]⟩⟩
noncomputable abbrev l32:Str:=⟨⟨[95,95,109,111,100,117,108,101,95,95]⟩⟩
noncomputable abbrev l33:Str:=⟨⟨[95,95,102,105,114,115,116,108,105,110,101,110,111,95,95]⟩⟩
noncomputable abbrev l34:Str:=⟨⟨[95,95,115,116,97,116,105,99,95,97,116,116,114,105,98,117,116,101,115,95,95]⟩⟩
noncomputable abbrev l35:Str:=⟨⟨[95,95,100,105,99,116,95,95]⟩⟩
noncomputable abbrev l36:Str:=⟨⟨[110,111,100,101]⟩⟩
noncomputable abbrev l37:Str:=⟨⟨[99,112,121,51,49,51,46,104,101,97,112,113]⟩⟩
noncomputable abbrev l38:Str:=⟨⟨[99,112,121,51,49,51,46,120,109,108,46,101,116,114,101,101,46,69,108,101,109,101,110,116,80,97,116,104]⟩⟩
noncomputable abbrev l39:Str:=⟨⟨[110,112,114,101,100,101,99,101,115,115,111,114,115]⟩⟩
noncomputable abbrev l40:Str:=⟨⟨[115,117,99,99,101,115,115,111,114,115]⟩⟩
noncomputable abbrev l41:Str:=⟨⟨[84,111,112,111,108,111,103,105,99,97,108,83,111,114,116,101,114,46,97,100,100]⟩⟩
noncomputable abbrev l42:Str:=⟨⟨[84,111,112,111,108,111,103,105,99,97,108,83,111,114,116,101,114,46,112,114,101,112,97,114,101]⟩⟩
noncomputable abbrev l43:Str:=⟨⟨[84,111,112,111,108,111,103,105,99,97,108,83,111,114,116,101,114,46,103,101,116,95,114,101,97,100,121]⟩⟩
noncomputable abbrev l44:Str:=⟨⟨[84,111,112,111,108,111,103,105,99,97,108,83,111,114,116,101,114,46,100,111,110,101]⟩⟩
noncomputable abbrev l45:Str:=⟨⟨[84,111,112,111,108,111,103,105,99,97,108,83,111,114,116,101,114,46,95,102,105,110,100,95,99,121,99,108,101]⟩⟩
noncomputable abbrev l46:Str:=⟨⟨[95,95,110,97,109,101,95,95]⟩⟩
noncomputable abbrev l47:Str:=⟨⟨[98,117,105,108,116,105,110,115]⟩⟩
noncomputable abbrev l48:Str:=⟨⟨[95,95,112,97,99,107,97,103,101,95,95]⟩⟩
noncomputable abbrev l49:Str:=⟨⟨[95,95,108,111,97,100,101,114,95,95]⟩⟩
noncomputable abbrev l50:Str:=⟨⟨[95,95,115,112,101,99,95,95]⟩⟩
noncomputable abbrev l51:Str:=⟨⟨[95,95,109,97,105,110,95,95]⟩⟩
noncomputable abbrev l52:Str:=⟨⟨[95,83,101,108,101,99,116,111,114,67,111,110,116,101,120,116,46,95,95,105,110,105,116,95,95]⟩⟩
noncomputable abbrev l53:Str:=⟨⟨[95,78,111,100,101,73,110,102,111,46,95,95,105,110,105,116,95,95]⟩⟩
noncomputable abbrev l54:Str:=⟨⟨[84,111,112,111,108,111,103,105,99,97,108,83,111,114,116,101,114,46,95,95,105,110,105,116,95,95]⟩⟩
noncomputable abbrev l55:Str:=⟨⟨[95,103,101,116,95,110,111,100,101,105,110,102,111]⟩⟩
noncomputable abbrev l56:Str:=⟨⟨[84,111,112,111,108,111,103,105,99,97,108,83,111,114,116,101,114,46,95,103,101,116,95,110,111,100,101,105,110,102,111]⟩⟩
noncomputable abbrev l57:Str:=⟨⟨[112,114,101,112,97,114,101]⟩⟩
noncomputable abbrev l58:Str:=⟨⟨[103,101,116,95,114,101,97,100,121]⟩⟩
noncomputable abbrev l59:Str:=⟨⟨[105,115,95,97,99,116,105,118,101]⟩⟩
noncomputable abbrev l60:Str:=⟨⟨[84,111,112,111,108,111,103,105,99,97,108,83,111,114,116,101,114,46,105,115,95,97,99,116,105,118,101]⟩⟩
noncomputable abbrev l61:Str:=⟨⟨[95,95,98,111,111,108,95,95]⟩⟩
noncomputable abbrev l62:Str:=⟨⟨[84,111,112,111,108,111,103,105,99,97,108,83,111,114,116,101,114,46,95,95,98,111,111,108,95,95]⟩⟩
noncomputable abbrev l63:Str:=⟨⟨[95,102,105,110,100,95,99,121,99,108,101]⟩⟩
noncomputable abbrev l64:Str:=⟨⟨[115,116,97,116,105,99,95,111,114,100,101,114]⟩⟩
noncomputable abbrev l65:Str:=⟨⟨[84,111,112,111,108,111,103,105,99,97,108,83,111,114,116,101,114,46,115,116,97,116,105,99,95,111,114,100,101,114]⟩⟩
noncomputable abbrev l66:Str:=⟨⟨[104,101,105,103,104,116,115]⟩⟩
noncomputable abbrev l67:Str:=⟨⟨[46,60,108,111,99,97,108,115,62,46]⟩⟩
inductive Ey2 {α β:Type} (P:α→β→Prop):Prop | mk (a b):P a b→Ey2 P
inductive Ey3 {α β γ:Type} (P:α→β→γ→Prop):Prop | mk (a b c):P a b c→Ey3 P
inductive Ey4 {α β γ δ:Type} (P:α→β→γ→δ→Prop):Prop | mk (a b c d):P a b c d→Ey4 P
inductive Ey5 {α β γ δ ε:Type} (P:α→β→γ→δ→ε→Prop):Prop | mk (a b c d e):P a b c d e→Ey5 P
inductive Ey6 {α β γ δ ε ζ:Type} (P:α→β→γ→δ→ε→ζ→Prop):Prop | mk (a b c d e f):P a b c d e f→Ey6 P
inductive Ey7 {α β γ δ ε ζ η:Type} (P:α→β→γ→δ→ε→ζ→η→Prop):Prop | mk (a b c d e f g):P a b c d e f g→Ey7 P
inductive Ey8 {α β γ δ ε ζ η θ:Type} (P:α→β→γ→δ→ε→ζ→η→θ→Prop):Prop | mk (a b c d e f g h):P a b c d e f g h→Ey8 P
inductive f1h {α β γ δ ε ζ η θ ι κ:Type} (P:α→β→γ→δ→ε→ζ→η→θ→ι→κ→Prop):Prop | mk (a b c d e f g h i j):P a b c d e f g h i j→f1h P
inductive An3 (a b c:Prop):Prop | mk:a→b→c→An3 a b c
inductive An4 (a b c d:Prop):Prop | mk:a→b→c→d→An4 a b c d
inductive An5 (a b c d e:Prop):Prop | mk:a→b→c→d→e→An5 a b c d e
inductive An6 (a b c d e f:Prop):Prop | mk:a→b→c→d→e→f→An6 a b c d e f
inductive An7 (a b c d e f g:Prop):Prop | mk:a→b→c→d→e→f→g→An7 a b c d e f g
inductive An8 (a b c d e f g h:Prop):Prop | mk:a→b→c→d→e→f→g→h→An8 a b c d e f g h
@[elab_as_elim] theorem bcs {motive:Bool→Prop} (b:Bool) (h0:motive false) (h1:motive true):motive b:=match b with
 | false=>h0
 | true=>h1
@[elab_as_elim] theorem sbo {α:Type} {a b:α} {motive:α→Prop} (e:b=a) (h:motive a):motive b:=e▸h
theorem lb0 {a b c:Nat} (h:a≤b) (e:Nat.ble b c=true):a≤c:=Nat.le_trans h (Nat.le_of_ble_eq_true e)
theorem lbk {a b k c:Nat} (h:a≤b) (e:Nat.ble (b + k) c=true):a + k≤c:=Nat.le_trans (Nat.add_le_add_right h k) (Nat.le_of_ble_eq_true e)
theorem ubk {a b k c:Nat} (h:a < b) (e:Nat.ble (b + k) c=true):a + k < c:=Nat.lt_of_lt_of_le (Nat.add_lt_add_right h k) (Nat.le_of_ble_eq_true e)
theorem lt5:∀{x:Nat},x < 5→x=0∨x=1∨x=2∨x=3∨x=4
 | 0,_=>.inl rfl
 | 1,_=>.inr (.inl rfl)
 | 2,_=>.inr (.inr (.inl rfl))
 | 3,_=>.inr (.inr (.inr (.inl rfl)))
 | 4,_=>.inr (.inr (.inr (.inr rfl)))
 | _ + 5,h=>absurd h (Nat.not_lt.mpr (Nat.le_add_left _ _))
theorem f1c {x:Nat} (h:x=4∨x=3∨x=2∨x=1∨x=0):x < 5:=by
 rcases h with rfl | rfl | rfl | rfl | rfl <;> decide
theorem sk0 {k m:Nat} (h:0 + k=m):m≤k:=by rw [←h,Nat.zero_add];exact Nat.le_refl _
theorem sk1 {n k m:Nat} (h:n + 1 + k=m):n + (k + 1)=m:=by rw [←h,Nat.add_assoc,Nat.add_comm 1 k]
theorem a9q {n k m:Nat} (h:n + 1 + k=m):k < m:=by rw [←h,Nat.add_right_comm];exact Nat.lt_succ_of_le (Nat.le_add_left _ _)
theorem c0q {a b c:Nat} (h:a + b=c):a≤c:=h▸Nat.le_add_right a b
theorem a5s {a b c:Nat} (h:a + b=c):b≤c:=h▸Nat.le_add_left b a
theorem a7w {i:Nat} (h:0 < i):(i - 1) / 2 < i:=Nat.lt_of_le_of_lt (Nat.div_le_self _ _) (Nat.sub_lt h Nat.one_pos)
theorem d3w {n k m:Nat} (h:n + k=m) (hk:¬k=m):k < m:=Nat.lt_of_le_of_ne (a5s h) hk
theorem c8p {n k m:Nat} (h:n + k=m) (hk:¬k=m):0 < n:=Nat.pos_of_ne_zero fun e=>hk (by rw [←h,e,Nat.zero_add])
theorem d0z {n k m:Nat} (h:n + k=m) (hk:¬k=m):n - 1 + (k + 1)=m:=by rw [Nat.add_comm k 1,←Nat.add_assoc,Nat.sub_add_cancel (c8p h hk),h]
theorem c3u {n k m:Nat} (h:n + k=m) (hk:¬k=m):n - 1 < n:=Nat.sub_lt (c8p h hk) Nat.one_pos
noncomputable abbrev prog:Program:=PySem.Challenge.pw_oh0064_01
noncomputable def den:Code→Sem PySem.Fin:=PySem.W.Fast.tw11892475500146522536 PySem.W.Fast.tw14364793385576792824
theorem a8s:denote table=den:=by
 rw [table_eq_tree]
 unfold den
 rw [PySem.W.Fast.te11892475500146522536,PySem.W.Fast.te14364793385576792824]
noncomputable def b9p:Code→Bool:=PySem.W.ZFast.zw17772548960776305114
theorem b3u:Code.quiet=b9p:=PySem.W.ZFast.ze17772548960776305114
noncomputable def b4k (self:Addr) (fd:FuncData) (args:Args):Sem Env:=do
 let compiled ←match fd.code with
  | .none=>pure fd.qualname
  | c=>do match ←field c 1 with
   | .str q _=>pure q
   | _=>pure fd.qualname
 newFunctionEnv fd.scope fd.globals fd.closure (←bindArgs fd args) (compiled++".<locals>.") (some self) fd.code none fd.builtins
theorem b3p {α β:Type} {c:Value} {J1:Str→Sem α} {J:Str→Sem β} {K:α→Sem β} {qn:Str} (key:∀q,J q=J1 q >>=K):
  (match c with | .none=>J qn | c=>field c 1 >>=fun v=>match v with | .str q _=>J q | _=>J qn)=(match c with | .none=>J1 qn | c=>field c 1 >>=fun v=>match v with | .str q _=>J1 q | _=>J1 qn) >>=K:=by
 have h:∀v:Value,(match v with | .str q _=>J q | _=>J qn)=(match v with | .str q _=>J1 q | _=>J1 qn) >>=K:=fun v=>by
  cases v <;> exact key _
 have key2:∀c,(field c 1 >>=fun v=>match v with | .str q _=>J q | _=>J qn)=(field c 1 >>=fun v=>match v with | .str q _=>J1 q | _=>J1 qn) >>=K:=fun c=>by
  rw [bind_assoc];exact congrArg (fun X=>field c 1 >>=X) (funext h)
 cases c with
 | none=>exact key _
 | _=>exact key2 _
set_option smartUnfolding false in
theorem a9h (self:Addr) (fd:FuncData) (args:Args) (b:List Stmt) (hb:fd.body= .stmts b) (hg:fd.scope.isGenerator=false) (hc:fd.scope.isCoroutine=false):
  callFunction self fd args=b4k self fd args >>=fun env=>enterFrame >>=fun _=>again (.func b env):=by
 unfold callFunction b4k
 simp only [hb,hg,hc]
 exact b3p (J:=fun q=>pure q >>=fun q=>bindArgs fd args >>=fun vs=>newFunctionEnv fd.scope fd.globals fd.closure vs (q++Str.ofString ".<locals>.") (some self) fd.code none fd.builtins >>=fun env=>enterFrame >>=fun _=>again (.func b env))
  (J1:=fun q=>pure q >>=fun q=>bindArgs fd args >>=fun vs=>newFunctionEnv fd.scope fd.globals fd.closure vs (q++Str.ofString ".<locals>.") (some self) fd.code none fd.builtins) fun q=>by
   rw [pure_bind,pure_bind,bind_assoc]
noncomputable abbrev Led:=List (Addr×Obj)
structure Fr where
 c:Code
 hd:Option Value
 k:Result→Sem PySem.Fin
structure Out where
 hs:List Nat
 c:Code
 fs:List Fr
 t:Sem PySem.Fin
 L:Led
 j:Nat
 i:Nat
 es:List (Addr×Addr)
 ob:List Prop
 ok:Bool
structure d6h where
 r:Result
 L:Led
 nj:Nat
 hs:List Nat
 es:List (Addr×Addr)
 ob:List Prop
noncomputable abbrev PFn:=List Nat→Args→Led→Tok→(Nat→Addr)→Option d6h
structure XP where
 P:Params
 KK:Addr→Option Obj
 hnd:Option Value
 prim:Bool→Nat→Option PFn
 fr:Nat→Addr
 tk:Nat→Tok
noncomputable def b8k (c:Code):Option Nat:=match c with
 | .builtin id _=>match Nat.beq (S.codeS id) (S.codeS "type.__call__") with
  | true=>some 2
  | false=>none
 | _=>some 1
noncomputable def dep:Code→List Fr→Option Nat
 | c,[]=>b8k c
 | c,f::fs=>match b8k c with
  | some a=>match dep f.c fs with
   | some b=>some (a + b)
   | none=>none
  | none=>none
noncomputable def c1n (c:Code) (fs:List Fr):Bool:=match dep c fs with
 | some d=>Nat.ble d 300
 | none=>false
structure b6a (α:Type) where
 a:α
 hs:List Nat
 L:Led
 j:Nat
 i:Nat
 es:List (Addr×Addr)
noncomputable def OB {α β:Type} (x:Option α) (f:α→β) (g:β):β:=match x with
 | some o=>f o
 | none=>g
noncomputable def BB {β:Type} (x:Bool) (g f:β):β:=match x with
 | true=>g
 | false=>f
noncomputable def LB {β:Type} (hs:List Nat) (f g:β):β:=match hs with
 | []=>f
 | _::_=>g
noncomputable def a3g (V:XP) {α:Type}:Nat→List Nat→Sem α→Led→Nat→Nat→List (Addr×Addr)→Option (b6a α)
 | 0,_,_,_,_,_,_=>none
 | n + 1,hs,t,L,j,i,es=>match t with
  | .pure a=>some ⟨a,hs,L,j,i,es⟩
  | .rule _ k=>a3g V n hs (k ()) L j i es
  | .at _ k=>a3g V n hs (k ()) L j i es
  | .point _ k=>a3g V n hs (k ()) L j i es
  | .ask k=>a3g V n hs (k ⟨prog,V.P⟩) L j i es
  | .fresh k=>a3g V n hs (k (Nat.succ (V.tk i))) L j (i + 1) es
  | .alloc o k=>BB o.isFreed none (a3g V n hs (k (V.fr j)) (L++[(V.fr j,o)]) (j + 1) i es)
  | .load a _ k=>match hs with
   | []=>none
   | h::hs=>match h with
    | 0=>OB (V.KK a) (fun o=>a3g V n hs (k o) L j i es) none
    | h + 1=>OB L[h]? (fun q=>a3g V n hs (k q.2) L j i ((a,q.1)::es)) none
  | .update a _ f k=>match hs with
   | []=>none
   | h::hs=>OB L[h]? (fun q=>BB (f q.2).isFreed none (a3g V n hs (k ()) (L.set h (q.1,f q.2)) j i ((a,q.1)::es))) none
  | _=>none
noncomputable abbrev XTy:=List Nat→Code→List Fr→Sem PySem.Fin→Led→Nat→Nat→List (Addr×Addr)→List Prop→Out
noncomputable def out (b:Bool):XTy:=fun hs c fs t L j i es ob=>⟨hs,c,fs,t,L,j,i,es,ob,b⟩
noncomputable def b0e (V:XP) (ih:XTy) (a:Addr) (args:Args) (hs:List Nat) (dc:Code) (dfs:List Fr) (fs:List Fr) (L:Led) (j i:Nat) (es:List (Addr×Addr)) (ob:List Prop) (fail:Out):Out:=
 match V.KK a with
 | none=>fail
 | some o=>match o.data with
  | .func fd=>match fd.body with
   | .stmts b=>match fd.scope.isGenerator with
    | true=>fail
    | false=>match fd.scope.isCoroutine with
     | true=>fail
     | false=>match c1n dc dfs with
      | false=>fail
      | true=>match a3g V 1000 hs (b4k a fd args) L j i es with
       | none=>fail
       | some q=>ih q.hs (.func b q.a) fs (den (.func b q.a)) q.L q.j q.i q.es ob
   | _=>fail
  | _=>fail
noncomputable def b0x (V:XP) (ih:XTy) (x:Option PFn) (c':Code) (args:Args) (k:Result→Sem PySem.Fin):XTy:=fun hs c fs t L j i es ob=>
 OB x (fun p=>LB hs (out true hs c fs t L j i es ob) (OB (p hs args L (Nat.succ (V.tk i)) fun x=>V.fr (j + x)) (fun q=>ih q.hs c fs (k q.r) q.L (j + q.nj) (i + 1) (q.es++es) (q.ob++ob)) (ih hs c' (⟨c,none,k⟩::fs) (den c') L j i es ob))) (ih hs c' (⟨c,none,k⟩::fs) (den c') L j i es ob)
noncomputable def b7z (V:XP) (ih:XTy):XTy:=fun hs c fs t L j i es ob=>match t with
 | .pure fin=>match fin with
  | .done fl=>match fs with
   | []=>out true hs c fs t L j i es ob
   | f::fs=>ih hs f.c fs (f.k (.ok fl)) L j i es ob
  | .again c'=>match c' with
   | .call g args=>match g with
    | .ref a=>match hs with
     | 0::hs'=>b0e V ih a args hs' c' fs fs L j i es ob (out false hs c fs t L j i es ob)
     | 1::hs'=>ih hs' c' fs (den c') L j i es ob
     | _=>out true hs c fs t L j i es ob
    | _=>ih hs c' fs (den c') L j i es ob
   | .builtin ..=>BB (b9p c') (ih hs c' fs (den c') L j i es ob) (out false hs c fs t L j i es ob)
   | .func ..=>ih hs c' fs (den c') L j i es ob
   | .block ..=>ih hs c' fs (den c') L j i es ob
   | _=>match hs with
    | 0::hs'=>ih hs' c' fs (den c') L j i es ob
    | _=>out true hs c fs t L j i es ob
 | .raise e=>match fs with
  | []=>out true hs c fs t L j i es ob
  | f::fs=>ih hs f.c fs (f.k (.error e)) L j i es ob
 | .rule _ k=>ih hs c fs (k ()) L j i es ob
 | .at _ k=>ih hs c fs (k ()) L j i es ob
 | .point _ k=>ih hs c fs (k ()) L j i es ob
 | .ask k=>ih hs c fs (k ⟨prog,V.P⟩) L j i es ob
 | .fresh k=>ih hs c fs (k (Nat.succ (V.tk i))) L j (i + 1) es ob
 | .handled own k=>match own with
  | false=>ih hs c fs (k V.hnd) L j i es ob
  | true=>out false hs c fs t L j i es ob
 | .load a _ k=>match hs with
  | []=>out true hs c fs t L j i es ob
  | h::hs'=>match h with
   | 0=>OB (V.KK a) (fun o=>ih hs' c fs (k o) L j i es ob) (out false hs c fs t L j i es ob)
   | h + 1=>OB L[h]? (fun q=>ih hs' c fs (k q.2) L j i ((a,q.1)::es) ob) (out false hs c fs t L j i es ob)
 | .loadIfAlive a k=>match hs with
  | []=>out true hs c fs t L j i es ob
  | h::hs'=>match h with
   | 0=>OB (V.KK a) (fun o=>ih hs' c fs (k (some o)) L j i es ob) (out false hs c fs t L j i es ob)
   | h + 1=>OB L[h]? (fun q=>ih hs' c fs (k (some q.2)) L j i ((a,q.1)::es) ob) (out false hs c fs t L j i es ob)
 | .update a _ f k=>match hs with
  | []=>out true hs c fs t L j i es ob
  | h::hs'=>OB L[h]? (fun q=>BB (f q.2).isFreed (out false hs c fs t L j i es ob) (ih hs' c fs (k ()) (L.set h (q.1,f q.2)) j i ((a,q.1)::es) ob)) (out false hs c fs t L j i es ob)
 | .alloc o k=>BB o.isFreed (out false hs c fs t L j i es ob) (ih hs c fs (k (V.fr j)) (L++[(V.fr j,o)]) (j + 1) i es ob)
 | .call c' hd _ _ k=>match hd with
  | some _=>out true hs c fs t L j i es ob
  | none=>match c' with
   | .call g args=>match g with
    | .builtin id=>b0x V ih (V.prim false (S.codeS id)) c' args k hs c fs t L j i es ob
    | .ref a=>match hs with
     | 0::hs'=>b0e V ih a args hs' c fs (⟨c,none,k⟩::fs) L j i es ob (out false hs c fs t L j i es ob)
     | 1::hs'=>ih hs' c' (⟨c,none,k⟩::fs) (den c') L j i es ob
     | _=>out true hs c fs t L j i es ob
    | _=>ih hs c' (⟨c,none,k⟩::fs) (den c') L j i es ob
   | .builtin id args=>b0x V ih (V.prim true (S.codeS id)) c' args k hs c fs t L j i es ob
   | _=>match hs with
    | 0::hs'=>ih hs' c' (⟨c,none,k⟩::fs) (den c') L j i es ob
    | _=>out true hs c fs t L j i es ob
 | _=>out true hs c fs t L j i es ob
noncomputable def exec (V:XP):Nat→XTy
 | 0=>out false
 | n + 1=>b7z V (exec V n)
noncomputable def b3d (es:List (Addr×Addr)):Prop:=∀p∈es,p.1=p.2
structure Sat (KK:Addr→Option Obj) (L:Led) (s:Shared):Prop where
 led:∀q∈L,s.heap.get? q.1=some q.2
 nd:(L.map (·.1)).Nodup
 kk:∀a o,KK a=some o→s.heap.get? a=some o
 nk:∀q∈L,KK q.1=none
 tok:1≤s.toks
structure Ext (L:Led) (s s':Shared):Prop where
 keep:∀b o,s.heap.get? b=some o→b∉L.map (·.1)→s'.heap.get? b=some o
 size:s.heap.objs.size≤s'.heap.objs.size
 toks:s.toks≤s'.toks
 gens:s'.gens=s.gens
 os:s'.os=s.os
noncomputable def a0j (L L':Led) (s:Shared):Prop:=∀a∈L'.map (·.1),a∈L.map (·.1)∨s.heap.objs.size≤a
theorem a0j.refl (L:Led) (s:Shared):a0j L L s:=fun _ h=>.inl h
theorem Ext.refl (L:Led) (s:Shared):Ext L s s:=⟨fun _ _ h _=>h,Nat.le_refl _,Nat.le_refl _,rfl,rfl⟩
theorem Ext.trans {L L₁:Led} {s s₁ s₂:Shared} (a:Ext L s s₁) (g:a0j L L₁ s) (b:Ext L₁ s₁ s₂):Ext L s s₂:=
 ⟨fun x o h n=>b.keep x o (a.keep x o h n) fun m=>(g x m).elim n fun q=>absurd (Heap.lt_size h) (Nat.not_lt.mpr q),Nat.le_trans a.size b.size,Nat.le_trans a.toks b.toks,b.gens.trans a.gens,b.os.trans a.os⟩
theorem a0j.trans {L L₁ L₂:Led} {s s₁:Shared} (a:a0j L L₁ s) (h:Ext L s s₁) (b:a0j L₁ L₂ s₁):a0j L L₂ s:=
 fun x m=>(b x m).elim (a x) fun q=>.inr (Nat.le_trans h.size q)
section
variable {KK:Addr→Option Obj} {L:Led} {s:Shared}
theorem Sat.at (S:Sat KK L s) {h:Nat} {q:Addr×Obj} (e:L[h]?=some q):s.heap.get? q.1=some q.2:=S.led q (List.mem_of_getElem? e)
theorem Sat.fresh (S:Sat KK L s) (t:Nat) (ht:s.toks≤t):Sat KK L { s with toks:=t }:=⟨S.led,S.nd,S.kk,S.nk,Nat.le_trans S.tok ht⟩
theorem Ext.fresh (t:Nat) (ht:s.toks≤t):Ext L s { s with toks:=t }:=⟨fun _ _ h _=>h,Nat.le_refl _,ht,rfl,rfl⟩
theorem Sat.alloc (S:Sat KK L s) {o:Obj} (hf:o.isFreed=false):Sat KK (L++[(s.heap.objs.size,o)]) { s with heap:=s.heap.push o }:=by
 refine ⟨fun q hq=>?_,?_,fun a o' h=>Heap.get?_push_of_some _ (S.kk a o' h),fun q hq=>?_,S.tok⟩
 ·rcases List.mem_append.mp hq with h | h
  ·exact Heap.get?_push_of_some _ (S.led q h)
  ·rw [List.mem_singleton] at h;subst h;exact Heap.get?_push_size _ hf
 ·rw [List.map_append,List.nodup_append]
  refine ⟨S.nd,List.nodup_cons.mpr ⟨List.not_mem_nil,List.nodup_nil⟩,fun a ha b hb=>?_⟩
  rw [List.map_singleton,List.mem_singleton] at hb
  subst hb
  obtain ⟨q,hq,rfl⟩:=List.mem_map.mp ha
  exact Nat.ne_of_lt (Heap.lt_size (S.led q hq))
 ·rcases List.mem_append.mp hq with h | h
  ·exact S.nk q h
  ·rw [List.mem_singleton] at h;subst h
   cases e:KK s.heap.objs.size with
   | none=>rfl
   | some o'=>exact absurd (Heap.lt_size (S.kk _ _ e)) (Nat.lt_irrefl _)
theorem Ext.alloc (o:Obj):Ext L s { s with heap:=s.heap.push o }:=
 ⟨fun b o' h _=>Heap.get?_push_of_some _ h,by show _≤(s.heap.push o).objs.size;rw [Heap.size_push];exact Nat.le_succ _,Nat.le_refl _,rfl,rfl⟩
theorem a0j.alloc (o:Obj):a0j L (L++[(s.heap.objs.size,o)]) s:=fun a h=>by
 rw [List.map_append] at h
 rcases List.mem_append.mp h with h | h
 ·exact .inl h
 ·rw [List.map_singleton,List.mem_singleton] at h;exact .inr (Nat.le_of_eq h.symm)
theorem a6g (L:Led) (h:Nat) (q:Addr×Obj) (e:L[h]?=some q) (o:Obj):(L.set h (q.1,o)).map (·.1)=L.map (·.1):=by
 rw [List.map_set]
 exact set_same (by rw [List.getElem?_map,e];rfl)
theorem Sat.update (S:Sat KK L s) {h:Nat} {q:Addr×Obj} (e:L[h]?=some q) {f:Obj→Obj} (hf:(f q.2).isFreed=false):Sat KK (L.set h (q.1,f q.2)) { s with heap:=s.heap.update q.1 f }:=by
 have ho:=S.at e
 have hs:Heap.SameBut q.1 s.heap (s.heap.update q.1 f):=Heap.SameBut.update ..
 have ge:(s.heap.update q.1 f).get? q.1=some (f q.2):=Heap.get?_update_self f ho hf
 obtain ⟨hl,hq⟩:=List.getElem?_eq_some_iff.mp e
 refine ⟨fun p hp=>?_,by rw [a6g L h q e];exact S.nd,fun a o' h'=>?_,fun p hp=>?_,S.tok⟩
 ·by_cases hpa:p.1=q.1
  ·have hx:(q.1,f q.2)∈L.set h (q.1,f q.2):=List.mem_set hl _
   have:p=(q.1,f q.2):=key_unique (by rw [a6g L h q e];exact S.nd) hp hx hpa
   subst this;exact ge
  ·rcases List.mem_or_eq_of_mem_set hp with hp | rfl
   ·exact (hs.2 _ hpa).trans (S.led p hp)
   ·exact absurd rfl hpa
 ·have ne:a≠q.1:=fun z=>by have:=S.nk q (List.mem_of_getElem? e);rw [←z,h'] at this;cases this
  exact (hs.2 a ne).trans (S.kk a o' h')
 ·rcases List.mem_or_eq_of_mem_set hp with hp | rfl
  ·exact S.nk p hp
  ·exact S.nk q (List.mem_of_getElem? e)
theorem Ext.update {h:Nat} {q:Addr×Obj} (e:L[h]?=some q) (f:Obj→Obj):Ext L s { s with heap:=s.heap.update q.1 f }:=by
 have hs:Heap.SameBut q.1 s.heap (s.heap.update q.1 f):=Heap.SameBut.update ..
 refine ⟨fun b o hb n=>(hs.2 b fun z=>n (z▸List.mem_map_of_mem (List.mem_of_getElem? e))).trans hb,?_,Nat.le_refl _,rfl,rfl⟩
 exact Nat.le_of_eq (by first | exact (Heap.size_update ..).symm | (show s.heap.objs.size=(s.heap.update q.1 f).objs.size;cases s.heap;simp [Heap.update]))
theorem a0j.set {h:Nat} {q:Addr×Obj} (e:L[h]?=some q) (o:Obj):a0j L (L.set h (q.1,o)) s:=fun a m=>by rw [a6g L h q e] at m;exact .inl m
end
noncomputable def a2b {α:Type} (f g:Nat→α) (n:Nat):Prop:=∀x,x < n→f x=g x
noncomputable def b4c {α:Type} (f:Nat→α) (n:Nat) (a:α):Nat→α:=fun x=>if x=n then a else f x
theorem a3h {α:Type} {f g:Nat→α} {n:Nat} {a:α} (h:a2b f (b4c g n a) (n + 1)):a2b f g n∧f n=a:=
 ⟨fun x hx=>by have:=h x (Nat.lt_succ_of_lt hx);rw [this];unfold b4c;rw [if_neg (Nat.ne_of_lt hx)],by have:=h n (Nat.lt_succ_self n);rw [this];unfold b4c;rw [if_pos rfl]⟩
theorem a2b.refl {α:Type} (f:Nat→α) (n:Nat):a2b f f n:=fun _ _=>rfl
theorem Sat.tokS {KK L s} (S:Sat KK L s):Nat.succ (s.toks - 1)=s.toks:=by have:=S.tok;exact Nat.sub_add_cancel (by assumption)
section
variable {w:World} {KK:Addr→Option Obj} {hnd:Option Value} {prim:Bool→Nat→Option PFn}
noncomputable abbrev vx (w:World) (KK:Addr→Option Obj) (hnd:Option Value) (prim:Bool→Nat→Option PFn) (fr:Nat→Addr) (tk:Nat→Tok):XP:=⟨w.params,KK,hnd,prim,fr,tk⟩
noncomputable def Mo {α:Type} (es:List (Addr×Addr)) (x:Option (b6a α)):Prop:=∀o,x=some o→∀p∈es,p∈o.es
section
variable {α:Type} {es:List (Addr×Addr)}
theorem Mo.none:Mo (α:=α) es none:=fun _ h=>by cases h
theorem Mo.cons {y} {x:Option (b6a α)} (h:Mo (y::es) x):Mo es x:=fun o e p hp=>h o e p (.tail _ hp)
theorem Mo.ob {β:Type} {x:Option β} {f:β→Option (b6a α)} (h:∀o,Mo es (f o)):Mo es (OB x f .none):=by
 cases x with
 | none=>exact .none
 | some o=>exact h o
theorem Mo.bb {x:Bool} {f:Option (b6a α)} (h:Mo es f):Mo es (BB x .none f):=by
 cases x with
 | true=>exact .none
 | false=>exact h
theorem b0d {V:XP} {α:Type}:∀n {hs} {t:Sem α} {L j i es},Mo es (a3g V n hs t L j i es):=by
 intro n
 induction n with
 | zero=>intros;exact .none
 | succ n ih=>
  intro hs t L j i es
  cases t with
  | pure a=>exact fun o h p hp=>by cases h;exact hp
  | rule _ k=>exact ih
  | «at» _ k=>exact ih
  | point _ k=>exact ih
  | ask k=>exact ih
  | fresh k=>exact ih
  | alloc o k=>exact .bb ih
  | load a _ k=>
   match hs with
   | []=>exact .none
   | 0::hs=>exact .ob fun _=>ih
   | (h + 1)::hs=>exact .ob fun _=>ih.cons
  | update a _ f k=>
   match hs with
   | []=>exact .none
   | h::hs=>exact .ob fun _=>.bb ih.cons
  | _=>exact .none
end
section
variable {α:Type} {A:Around} {E:Value→Shared→Prop} {Z:(Nat→Addr)→(Nat→Tok)→b6a α→Prop} {L L₁:Led} {s s₁:Shared} {fr₀:Nat→Addr} {tk₀:Nat→Tok} {j i:Nat}
noncomputable abbrev XS (α:Type):Type:=(Nat→Addr)→(Nat→Tok)→Option (b6a α)
noncomputable def H0 (Z:(Nat→Addr)→(Nat→Tok)→b6a α→Prop) (fr₀:Nat→Addr) (tk₀:Nat→Tok) (j i:Nat) (f:XS α):Prop:=∀fr tk,a2b fr fr₀ j→a2b tk tk₀ i→∃o,An3 (f fr tk=some o) (b3d o.es) (Z fr tk o)
noncomputable def P0 (KK:Addr→Option Obj) (Z:(Nat→Addr)→(Nat→Tok)→b6a α→Prop) (L:Led) (s:Shared) (a:α) (s':Shared):Prop:=Ey3 fun fr₁ tk₁ o=>An5 (o.a=a) ((∀fr tk,a2b fr fr₁ o.j→a2b tk tk₁ o.i→Z fr tk o)) (Sat KK o.L s') (Ext L s s') (a0j L o.L s)
theorem P0.step {a s'} (e:Ext L s s₁) (g:a0j L L₁ s) (h:P0 KK Z L₁ s₁ a s'):P0 KK Z L s a s':=by
 obtain ⟨fr₁,tk₁,o,h1,h2,h3,h4,h5⟩:=h
 exact ⟨fr₁,tk₁,o,h1,h2,h3,e.trans g h4,g.trans e h5⟩
theorem H0.bad (h:H0 Z fr₀ tk₀ j i fun _ _=>none):False:=by
 obtain ⟨o,e,_⟩:=h fr₀ tk₀ (a2b.refl _ _) (a2b.refl _ _)
 cases e
theorem H0.ob {β:Type} {x:Option β} {f:β→XS α} (h:H0 Z fr₀ tk₀ j i fun fr tk=>OB x (fun o=>f o fr tk) none):∃o,x=some o∧H0 Z fr₀ tk₀ j i (f o):=by
 cases x with
 | none=>exact (H0.bad h).elim
 | some o=>exact ⟨o,rfl,h⟩
theorem H0.bb {x:Bool} {f:XS α} (h:H0 Z fr₀ tk₀ j i fun fr tk=>BB x none (f fr tk)):x=false∧H0 Z fr₀ tk₀ j i f:=by
 cases x with
 | true=>exact (H0.bad h).elim
 | false=>exact ⟨rfl,h⟩
theorem H0.at {n hs} {t:Sem α} {L es a q} (h:H0 Z fr₀ tk₀ j i fun fr tk=>a3g (vx w KK hnd prim fr tk) n hs t L j i ((a,q)::es)):a=q:=by
 obtain ⟨o,e,h,_⟩:=h fr₀ tk₀ (a2b.refl _ _) (a2b.refl _ _)
 exact h _ (b0d n o e (a,q) (.head _))
theorem a9f (Z:(Nat→Addr)→(Nat→Tok)→b6a α→Prop):∀n {fr₀ tk₀ hs} {t:Sem α} {L j i es s},
  H0 Z fr₀ tk₀ j i (fun fr tk=>a3g (vx w KK hnd prim fr tk) n hs t L j i es)→Sat KK L s→wpAny (model prog w) A t (P0 KK Z L s) E s:=by
 intro n
 induction n with
 | zero=>exact fun H=>H.bad.elim
 | succ n ih=>
  intro fr₀ tk₀ hs t L j i es s H S
  have go:∀{L₁ s₁ fr tk hs} {t:Sem α} {j i es},Ext L s s₁→a0j L L₁ s→Sat KK L₁ s₁→(H0 Z fr tk j i fun fr tk=>a3g (vx w KK hnd prim fr tk) n hs t L₁ j i es)→wpAny (model prog w) A t (P0 KK Z L s) E s₁:=
   fun e g S H=>wpAny_mono (ih H S) (fun _ _ h=>h.step e g) fun _ _ h=>h
  cases t with
  | pure a=>
   refine x_pure ⟨fr₀,tk₀,⟨a,hs,L,j,i,es⟩,rfl,fun fr tk h1 h2=>?_,S,Ext.refl ..,a0j.refl _ _⟩
   obtain ⟨o,e,_,z⟩:=H fr tk h1 h2
   cases e;exact z
  | rule tag k=>exact x_rule (ih H S)
  | «at» q k=>exact x_at (ih H S)
  | point l k=>exact x_point (ih H S)
  | ask k=>exact x_ask (ih H S)
  | fresh k=>
   refine x_fresh (go (fr:=fr₀) (tk:=b4c tk₀ i (s.toks - 1)) (hs:=hs) (j:=j) (i:=i + 1) (es:=es) (Ext.fresh _ (Nat.le_succ _)) (a0j.refl _ _) (S.fresh _ (Nat.le_succ _)) fun fr tk h1 h2=>?_)
   obtain ⟨h2,h3⟩:=a3h h2
   have:∃o,An3 (a3g (vx w KK hnd prim fr tk) n hs (k (Nat.succ (tk i))) L j (i + 1) es=some o) (b3d o.es) (Z fr tk o):=H fr tk h1 h2
   rwa [h3,S.tokS] at this
  | alloc o k=>
   obtain ⟨hf,H⟩:=H0.bb (x:=o.isFreed) (f:=fun fr tk=>a3g (vx w KK hnd prim fr tk) n hs (k (fr j)) (L++[(fr j,o)]) (j + 1) i es) H
   refine wpAny_bind (m:=alloc o) (f:=k) (wpAny_alloc (go (fr:=b4c fr₀ j s.heap.objs.size) (tk:=tk₀) (hs:=hs) (j:=j + 1) (i:=i) (es:=es) (Ext.alloc o) (a0j.alloc o) (S.alloc hf) fun fr tk h1 h2=>?_))
   obtain ⟨h1,h3⟩:=a3h h1
   have:∃o',An3 (a3g (vx w KK hnd prim fr tk) n hs (k (fr j)) (L++[(fr j,o)]) (j + 1) i es=some o') (b3d o'.es) (Z fr tk o'):=H fr tk h1 h2
   rwa [h3] at this
  | load a q k=>
   match hs,H with
   | [],H=>exact (H0.bad H).elim
   | 0::hs,H=>
    obtain ⟨o,hk,H⟩:=H0.ob (x:=KK a) (f:=fun o fr tk=>a3g (vx w KK hnd prim fr tk) n hs (k o) L j i es) H
    exact x_load (S.kk a o hk) (ih H S)
   | (h + 1)::hs,H=>
    obtain ⟨p,hk,H⟩:=H0.ob (x:=L[h]?) (f:=fun p fr tk=>a3g (vx w KK hnd prim fr tk) n hs (k p.2) L j i ((a,p.1)::es)) H
    exact x_load (H0.at H▸S.at hk) (ih H S)
  | update a q f k=>
   match hs,H with
   | [],H=>exact (H0.bad H).elim
   | h::hs,H=>
    obtain ⟨p,hk,H⟩:=H0.ob (x:=L[h]?) (f:=fun p fr tk=>BB (f p.2).isFreed none (a3g (vx w KK hnd prim fr tk) n hs (k ()) (L.set h (p.1,f p.2)) j i ((a,p.1)::es))) H
    obtain ⟨hf,H⟩:=H0.bb H
    have:=H0.at H
    subst this
    exact wpAny_bind (m:=updatePart p.1 q f) (f:=k) (wpAny_updatePart (S.at hk) (go (Ext.update hk f) (a0j.set hk _) (S.update hk hf) H))
  | _=>exact (H0.bad H).elim
end
end
structure Sub (es:List (Addr×Addr)) (ob:List Prop) (fs:List Fr) (o:Out):Prop where
 e:∀p∈es,p∈o.es
 b:∀p∈ob,p∈o.ob
 h:(∀f∈fs,f.hd=none)→∀f∈o.fs,f.hd=none
theorem Sub.refl {b hs c fs t L j i es ob}:Sub es ob fs (out b hs c fs t L j i es ob):=⟨fun _ h=>h,fun _ h=>h,fun h=>h⟩
theorem Sub.cons {x es ob fs o} (h:Sub (x::es) ob fs o):Sub es ob fs o:=⟨fun p hp=>h.1 p (.tail _ hp),h.2,h.3⟩
theorem Sub.app {x es y ob fs o} (h:Sub (x++es) (y++ob) fs o):Sub es ob fs o:=⟨fun p hp=>h.1 p (List.mem_append_right _ hp),fun p hp=>h.2 p (List.mem_append_right _ hp),h.3⟩
theorem Sub.pop {f es ob fs o} (h:Sub es ob fs o):Sub es ob (f::fs) o:=⟨h.1,h.2,fun H=>h.3 fun g hg=>H g (.tail _ hg)⟩
theorem a6a {c k} {fs:List Fr} (h:∀f∈fs,f.hd=none):∀f∈(⟨c,none,k⟩::fs:List Fr),f.hd=none:=fun f hf=>by
 cases hf with
 | head=>rfl
 | tail _ h'=>exact h f h'
theorem Sub.push {c k es ob fs o} (h:Sub es ob (⟨c,none,k⟩::fs) o):Sub es ob fs o:=⟨h.1,h.2,fun H=>h.3 (a6a H)⟩
noncomputable def IHS (ih:XTy):Prop:=∀{hs c fs t L j i es ob},Sub es ob fs (ih hs c fs t L j i es ob)
theorem b0g {V : XP} {ih : XTy} (IH : IHS ih) {a args hs dc dfs fs L j i es ob fail} (hf : Sub es ob fs fail) : Sub es ob fs (b0e V ih a args hs dc dfs fs L j i es ob fail) := by
  unfold b0e
  repeat' split
  all_goals first
    | exact hf
    | (rename_i q hq
       exact ⟨fun p hp => IH.1 p (b0d _ _ hq p hp), IH.2, IH.3⟩)
theorem Sub.ob {α:Type} {x:Option α} {f g es ob fs} (hf:∀o,Sub es ob fs (f o)) (hg:Sub es ob fs g):Sub es ob fs (OB x f g):=by
 cases x with
 | none=>exact hg
 | some o=>exact hf o
theorem Sub.bb {x:Bool} {f g es ob fs} (hg:Sub es ob fs g) (hf:Sub es ob fs f):Sub es ob fs (BB x g f):=by
 cases x with
 | true=>exact hg
 | false=>exact hf
theorem Sub.lb {hs:List Nat} {f g es ob fs} (hf:Sub es ob fs f) (hg:Sub es ob fs g):Sub es ob fs (LB hs f g):=by
 cases hs with
 | nil=>exact hf
 | cons _ _=>exact hg
theorem a7u {V:XP} {ih:XTy} (IH:IHS ih) {x c' args k hs c fs t L j i es ob}:Sub es ob fs (b0x V ih x c' args k hs c fs t L j i es ob):=
 .ob (fun p=>.lb .refl (.ob (fun q=>IH.app) IH.push)) IH.push
theorem c7f {V:XP} {ih:XTy} (IH:IHS ih):IHS (b7z V ih):=by
 intro hs c fs t L j i es ob
 cases t with
 | pure fin=>
  cases fin with
  | done fl=>
   cases fs with
   | nil=>exact .refl
   | cons f fs=>exact Sub.pop IH
  | again c'=>
   cases c' with
   | call g args=>
    cases g with
    | ref a=>
     match hs with
     | [] | (_ + 2)::_=>exact .refl
     | 0::hs'=>exact b0g @IH .refl
     | 1::hs'=>exact IH
    | _=>exact IH
   | builtin id args=>
    exact .bb IH .refl
   | func _ _=>exact IH
   | block _ _=>exact IH
   | _=>
    match hs with
    | [] | (_ + 1)::_=>exact .refl
    | 0::hs'=>exact IH
 | raise e=>
  cases fs with
  | nil=>exact .refl
  | cons f fs=>exact Sub.pop IH
 | rule _ k=>exact IH
 | «at» _ k=>exact IH
 | point _ k=>exact IH
 | ask k=>exact IH
 | fresh k=>exact IH
 | handled own k=>
  cases own with
  | true=>exact .refl
  | false=>exact IH
 | load a _ k=>
  match hs with
  | []=>exact .refl
  | 0::hs'=>exact .ob (fun o=>IH) .refl
  | (h + 1)::hs'=>exact .ob (fun q=>IH.cons) .refl
 | loadIfAlive a k=>
  match hs with
  | []=>exact .refl
  | 0::hs'=>exact .ob (fun o=>IH) .refl
  | (h + 1)::hs'=>exact .ob (fun q=>IH.cons) .refl
 | update a _ f k=>
  match hs with
  | []=>exact .refl
  | h::hs'=>exact .ob (fun q=>.bb .refl IH.cons) .refl
 | alloc o k=>
  exact .bb .refl IH
 | call c' hd _ _ k=>
  cases hd with
  | some _=>exact .refl
  | none=>
   cases c' with
   | call g args=>
    cases g with
    | builtin id=>
     exact a7u @IH
    | ref a=>
     match hs with
     | [] | (_ + 2)::_=>exact .refl
     | 0::hs'=>exact (b0g @IH (.pop .refl)).push
     | 1::hs'=>exact IH.push
    | _=>exact IH.push
   | builtin id args=>
    exact a7u @IH
   | _=>
    match hs with
    | [] | (_ + 1)::_=>exact .refl
    | 0::hs'=>exact IH.push
 | _=>exact .refl
theorem a5k (V:XP):∀n,IHS (exec V n)
 | 0=>.refl
 | n + 1=>c7f (a5k V n)
theorem c2l (V:XP) (n hs c fs t L j i es ob) (h:∀f∈fs,f.hd=none):∀f∈(exec V n hs c fs t L j i es ob).fs,f.hd=none:=(a5k V n).h h
noncomputable def aro (A:Around):List Fr→Around
 | []=>A
 | f::fs=>((aro A fs).under f.c).mark f.hd
noncomputable def Rof (w:World) (A:Around) (bot:Result→Shared→Prop):List Fr→Result→Shared→Prop
 | []=>bot
 | f::fs=>fun r s=>wpAny (model prog w) ((aro A fs).under f.c) (f.k r) (postC prog w (aro A fs) (Rof w A bot fs)) (postE (Rof w A bot fs)) s
noncomputable def a2p (w:World) (A:Around) (bot:Result→Shared→Prop) (c:Code) (fs:List Fr) (t:Sem PySem.Fin) (s:Shared):Prop:=
 wpAny (model prog w) ((aro A fs).under c) t (postC prog w (aro A fs) (Rof w A bot fs)) (postE (Rof w A bot fs)) s
section
variable {w:World} {A:Around} {bot:Result→Shared→Prop}
theorem a2p.code {c:Code} {s:Shared} (h:a2p w A bot c [] (den c) s):codeAny (model prog w) A c bot s:=
 x_code (by rw [a8s];exact h)
theorem a2p.codeF {c:Code} {fs:List Fr} {s:Shared} (h:a2p w A bot c fs (den c) s):codeAny (model prog w) (aro A fs) c (Rof w A bot fs) s:=
 x_code (by rw [a8s];exact h)
theorem a4v (A:Around):A.mark none=A:=by cases A;rfl
theorem a2p.call {c c':Code} {fs:List Fr} {g l k s} (h:codeAny (model prog w) ((aro A fs).under c) c' (Rof w A bot (⟨c,none,k⟩::fs)) s):a2p w A bot c fs (.call c' none g l k) s:=
 x_call (by rw [a4v];exact h) (by intro e;cases e)
theorem a2p.enter {c c':Code} {fs:List Fr} {g l k s} (h:a2p w A bot c' (⟨c,none,k⟩::fs) (den c') s):a2p w A bot c fs (.call c' none g l k) s:=
 a2p.call (by have:=a2p.codeF h;simp only [aro,a4v] at this;exact this)
theorem a2p.again {c c':Code} {fs:List Fr} {s} (hq:c'.quiet=true) (h:a2p w A bot c' fs (den c') s):a2p w A bot c fs (.pure (.again c')) s:=
 x_pure ⟨hq,a2p.codeF h⟩
theorem a2p.done {c:Code} {f:Fr} {fs:List Fr} {fl s} (h:a2p w A bot f.c fs (f.k (.ok fl)) s):a2p w A bot c (f::fs) (.pure (.done fl)) s:=x_pure h
theorem a2p.raise {c:Code} {f:Fr} {fs:List Fr} {e s} (h:a2p w A bot f.c fs (f.k (.error e)) s):a2p w A bot c (f::fs) (.raise e) s:=x_raise h
theorem a4d (A:Around) (c:Code):(A.under c).handled=A.handled:=rfl
theorem a6c:∀{fs:List Fr},(∀f∈fs,f.hd=none)→(aro A fs).handled=A.handled
 | [],_=>rfl
 | f::fs,h=>by
  have:f.hd=none:=h f (.head _)
  simp only [aro,this,a4v,a4d]
  exact a6c fun g hg=>h g (.tail _ hg)
theorem a3l {c:Code} {d:Nat} (h:b8k c=some d):c.weight≤d:=by
 cases c with
 | builtin id args=>
  have key:∀x,Nat.beq (S.codeS id) (S.codeS "type.__call__")=x→(match x with | true=>some 2 | false=>none)=some d→(Code.builtin id args).weight≤d:=fun x e h=>by
   cases x with
   | false=>cases h
   | true=>
    cases h
    have:id="type.__call__":=PySem.code_inj _ _ (by rw [S.code_S,S.code_S];exact Nat.eq_of_beq_eq_true e)
    subst this
    unfold Code.weight
    rw [show (Code.builtin "type.__call__" args).frames=0 from rfl,show (Code.builtin "type.__call__" args).isGuard=false by show guardIds.contains "type.__call__"=false;decide +kernel,show (Code.builtin "type.__call__" args).isCaller=false from rfl]
    split <;> decide
  exact key _ rfl h
 | _=>cases h;first | exact Nat.le_refl 1 | exact Nat.zero_le 1 | (show (if _ then _ else _)≤_;split <;> decide) | (unfold Code.weight;simp only [Code.isCreation,Code.isGuard,Code.isCaller];unfold Code.frames;simp;try (split <;> simp))
theorem a8q:∀{c:Code} {fs:List Fr} {d:Nat},dep c fs=some d→((aro A fs).under c).depth≤A.depth + d
 | c,[],d,h=>by
  have:b8k c=some d:=h
  have:=a3l this
  show A.depth + c.weight≤_
  omega
 | c,f::fs,d,h=>by
  unfold dep at h
  split at h
  ·rename_i a ha
   split at h
   ·rename_i b hb
    cases h
    have h1:=a8q (c:=f.c) (fs:=fs) hb
    have h2:=a3l ha
    show (((aro A fs).under f.c).mark f.hd).depth + c.weight≤_
    have:(((aro A fs).under f.c).mark f.hd).depth=((aro A fs).under f.c).depth:=rfl
    omega
   ·cases h
  ·cases h
end
section
variable {w:World} {KK:Addr→Option Obj} {hnd:Option Value} {prim:Bool→Nat→Option PFn} {A:Around} {bot:Result→Shared→Prop}
noncomputable def d0e (w:World) (KK:Addr→Option Obj) (prim:Bool→Nat→Option PFn):Prop:=∀b id p,prim b (S.codeS id)=some p→∀hs args L s A tok₀ f₀ q₀,A.handled=none→p hs args L tok₀ f₀=some q₀→b3d q₀.es→(∀x∈q₀.ob,x)→Sat KK L s→
 codeAny (model prog w) A (match b with | true=>.builtin id args | false=>.call (.builtin id) args) (fun r s'=>∃tok f q,1≤tok∧(∀f',a2b f' f q.nj→p hs args L tok f'=some q)∧r=q.r∧Sat KK q.L s'∧Ext L s s'∧a0j L q.L s) s
noncomputable def f1a (w:World) (KK:Addr→Option Obj) (A:Around) (bot:Result→Shared→Prop) (s:Shared) (L:Led) (o:Out):Prop:=
 o.ok=true∧b3d o.es∧(∀p∈o.ob,p)∧∀s',Sat KK o.L s'→Ext L s s'→a0j L o.L s→a2p w A bot o.c o.fs o.t s'
theorem b8q {a:Addr} {o:Obj} {fd:FuncData} {args:Args} {B:Around} {Q:PySem.Fin→Shared→Prop} {E:Value→Shared→Prop} {s:Shared} (ho:s.heap.get? a=some o) (hd:o.data= .func fd)
  (h:wpAny (model prog w) B (callFunction a fd args) Q E s):wpAny (model prog w) B (denote table (.call (.ref a) args)) Q E s:=by
 show wpAny _ _ (callAny (.ref a) args) _ _ _
 unfold callAny
 refine wpAny_bind (wpAny_load ho ?_)
 rw [hd]
 exact h
end
noncomputable def e9b (hnd:Option Value) (c:Code) (fs:List Fr) (B:Around):Prop:=B.handled=hnd∧∀d,dep c fs=some d→d≤302→B.depth < 1000
structure a4i (w:World) (hnd:Option Value) (Mn:Code→List Fr→Sem PySem.Fin→Shared→Prop):Prop where
 done:∀{c f fs fl s},Mn f.c fs (f.k (.ok fl)) s→Mn c (f::fs) (.pure (.done fl)) s
 raise:∀{c f fs e s},Mn f.c fs (f.k (.error e)) s→Mn c (f::fs) (.raise e) s
 again:∀{c c' fs s},c'.quiet=true→Mn c' fs (den c') s→Mn c fs (.pure (.again c')) s
 enter:∀{c c' fs g l k s},Mn c' (⟨c,none,k⟩::fs) (den c') s→Mn c fs (.call c' none g l k) s
 cmd:∀{α:Type} {c fs s} {m:Sem α} {K:α→Sem PySem.Fin},(∀f∈fs,f.hd=none)→(∀B,e9b hnd c fs B→wpAny (model prog w) B m (fun a s'=>Mn c fs (K a) s') (fun x s'=>Mn c fs (.raise x) s') s)→Mn c fs (m.wrap K .raise id id) s
noncomputable def cdB (b:Bool) (id:String) (args:Args):Code:=match b with
 | true=>.builtin id args
 | false=>.call (.builtin id) args
noncomputable def c4r (KK:Addr→Option Obj) (p:PFn) (hs:List Nat) (args:Args) (L:Led) (s:Shared):Result→Shared→Prop:=
 fun r s'=>∃tok f q,1≤tok∧(∀f',a2b f' f q.nj→p hs args L tok f'=some q)∧r=q.r∧Sat KK q.L s'∧Ext L s s'∧a0j L q.L s
noncomputable def e3o (w:World) (KK:Addr→Option Obj) (hnd:Option Value) (b:Bool) (id:String) (p:PFn):Prop:=∀hs args L s A tok₀ f₀ q₀,A.handled=hnd→p hs args L tok₀ f₀=some q₀→b3d q₀.es→(∀x∈q₀.ob,x)→Sat KK L s→
 codeAny (model prog w) A (cdB b id args) (c4r KK p hs args L s) s
noncomputable def a5q (w:World) (KK:Addr→Option Obj) (hnd:Option Value) (prim:Bool→Nat→Option PFn):Prop:=∀b id p,prim b (S.codeS id)=some p→e3o w KK hnd b id p
section
variable {w:World} {KK:Addr→Option Obj} {hnd:Option Value} {prim:Bool→Nat→Option PFn} {Mn:Code→List Fr→Sem PySem.Fin→Shared→Prop}
noncomputable def a1n (Mn:Code→List Fr→Sem PySem.Fin→Shared→Prop) (KK:Addr→Option Obj) (s:Shared) (L:Led) (o:Out):Prop:=
 o.ok=true∧b3d o.es∧(∀p∈o.ob,p)∧∀s',Sat KK o.L s'→Ext L s s'→a0j L o.L s→Mn o.c o.fs o.t s'
theorem a1n.step {s s₁:Shared} {L L₁:Led} {o:Out} (e:Ext L s s₁) (g:a0j L L₁ s) (h:a1n Mn KK s L o):a1n Mn KK s₁ L₁ o:=
 ⟨h.1,h.2.1,h.2.2.1,fun s' a b c=>h.2.2.2 s' a (e.trans g b) (g.trans e c)⟩
theorem a1n.stop {s:Shared} {L:Led} {b hs c fs t j i es ob} (h:a1n Mn KK s L (out b hs c fs t L j i es ob)) (S:Sat KK L s):Mn c fs t s:=
 h.2.2.2 s S (Ext.refl _ _) (a0j.refl _ _)
theorem a1n.bad {s:Shared} {L L':Led} {hs c fs t j i es ob} (h:a1n Mn KK s L (out false hs c fs t L' j i es ob)):False:=by cases h.1
noncomputable abbrev XO:Type:=(Nat→Addr)→(Nat→Tok)→Out
noncomputable def HY (Mn:Code→List Fr→Sem PySem.Fin→Shared→Prop) (KK:Addr→Option Obj) (fr₀:Nat→Addr) (tk₀:Nat→Tok) (j i:Nat) (s:Shared) (L:Led) (f:XO):Prop:=∀fr tk,a2b fr fr₀ j→a2b tk tk₀ i→a1n Mn KK s L (f fr tk)
section
variable {fr₀:Nat→Addr} {tk₀:Nat→Tok} {j i:Nat} {s:Shared} {L:Led} {f g:XO}
theorem HY.now (h:HY Mn KK fr₀ tk₀ j i s L f):a1n Mn KK s L (f fr₀ tk₀):=h _ _ (a2b.refl _ _) (a2b.refl _ _)
end
noncomputable def c4c (w:World) (Mn:Code→List Fr→Sem PySem.Fin→Shared→Prop) (KK:Addr→Option Obj) (hnd:Option Value) (prim:Bool→Nat→Option PFn) (n:Nat):Prop:=
 ∀{fr₀ tk₀ hs c fs t L j i es ob s},(∀f∈fs,f.hd=none)→HY Mn KK fr₀ tk₀ j i s L (fun fr tk=>exec (vx w KK hnd prim fr tk) n hs c fs t L j i es ob)→Sat KK L s→Mn c fs t s
theorem b2p (R:a4i w hnd Mn) (hK:∀h:Heap,(∀a o,KK a=some o→h.get? a=some o)→h.NoLimit) {n:Nat} (IH:c4c w Mn KK hnd prim n)
  {fr₀ tk₀ a args hs dc dfs fs L j i es ob s} {fail:XP→Out} (hfs:∀f∈fs,f.hd=none) (hfail:∀V,¬a1n Mn KK s L (fail V)) (hdep:c1n dc dfs=true→∃d,dep (.call (.ref a) args) fs=some d∧d≤302)
  (H:∀fr tk,a2b fr fr₀ j→a2b tk tk₀ i→a1n Mn KK s L (b0e (vx w KK hnd prim fr tk) (exec (vx w KK hnd prim fr tk) n) a args hs dc dfs fs L j i es ob (fail (vx w KK hnd prim fr tk)))) (S:Sat KK L s):
  Mn (.call (.ref a) args) fs (den (.call (.ref a) args)) s:=by
 have H0:=H fr₀ tk₀ (a2b.refl _ _) (a2b.refl _ _)
 unfold b0e at H H0
 cases hk:KK a with
 | none=>simp only [hk] at H0;exact (hfail _ H0).elim
 | some o=>
  simp only [hk] at H H0
  cases hd:o.data with
  | func fd=>
   simp only [hd] at H H0
   cases hb:fd.body with
   | expr e=>simp only [hb] at H0;exact (hfail _ H0).elim
   | stmts b=>
    simp only [hb] at H H0
    cases hg:fd.scope.isGenerator with
    | true=>simp only [hg] at H0;exact (hfail _ H0).elim
    | false=>
     simp only [hg] at H H0
     cases hc:fd.scope.isCoroutine with
     | true=>simp only [hc] at H0;exact (hfail _ H0).elim
     | false=>
      simp only [hc] at H H0
      cases hdo:c1n dc dfs with
      | false=>simp only [hdo] at H0;exact (hfail _ H0).elim
      | true=>
       simp only [hdo] at H H0
       obtain ⟨d,hd1,hd2⟩:=hdep hdo
       rw [←a8s]
       show Mn _ fs (callAny (.ref a) args) s
       unfold callAny
       show Mn _ fs (load a >>=_) s
       rw [Sem.bind_eq_wrap']
       refine R.cmd hfs fun B hB=>wpAny_load (S.kk a o hk) ?_
       rw [hd]
       show Mn _ fs (callFunction a fd args) s
       rw [a9h a fd args b hb hg hc,Sem.bind_eq_wrap']
       refine R.cmd hfs fun B hB=>(wpAny_mono (a9f (hnd:=hnd) (prim:=prim) (fun fr tk (q:b6a Env)=>a1n Mn KK s L (exec (vx w KK hnd prim fr tk) n q.hs (.func b q.a) fs (den (.func b q.a)) q.L q.j q.i q.es ob)) 1000 (fr₀:=fr₀) (tk₀:=tk₀) (hs:=hs) (j:=j) (i:=i) (es:=es) (fun fr tk h1 h2=>?_) S) ?_ fun e s' h=>h)
       ·have:=H fr tk h1 h2
        cases hq:a3g (vx w KK hnd prim fr tk) 1000 hs (b4k a fd args) L j i es with
        | none=>simp only [hq] at this;exact (hfail _ this).elim
        | some q=>
         simp only [hq] at this
         have sb:= @a5k (vx w KK hnd prim fr tk) n q.hs (.func b q.a) fs (den (.func b q.a)) q.L q.j q.i q.es ob
         exact ⟨q,hq,fun p hp=>this.2.1 p (sb.1 p hp),this⟩
       ·rintro env s' ⟨fr₁,tk₁,q,rfl,hz,S',E',G'⟩
        show Mn _ fs (enterFrame >>=fun _=>again (.func b q.a)) s'
        rw [Sem.bind_eq_wrap']
        refine R.cmd hfs fun B hB=>wpAny_enterFrame (hK _ S'.kk) (hB.2 d hd1 hd2) ?_
        exact R.again rfl (IH hfs (fun fr tk h1 h2=>(hz fr tk h1 h2).step E' G') S')
  | _=>simp only [hd] at H0;exact (hfail _ H0).elim
section
variable {fr₀:Nat→Addr} {tk₀:Nat→Tok} {j i:Nat} {s:Shared} {L:Led} {g:Out}
theorem HY.bad (h:HY Mn KK fr₀ tk₀ j i s L fun _ _=>g) (hg:g.ok=false):False:=by
 have:=h.now.1
 rw [hg] at this;cases this
theorem HY.optB {β:Type} {x:Option β} {f:β→XO} (h:HY Mn KK fr₀ tk₀ j i s L fun fr tk=>OB x (fun o=>f o fr tk) g) (hg:g.ok=false):∃o,x=some o∧HY Mn KK fr₀ tk₀ j i s L (f o):=by
 cases x with
 | none=>exact (HY.bad h hg).elim
 | some o=>exact ⟨o,rfl,h⟩
theorem HY.free {x:Bool} {f:XO} (h:HY Mn KK fr₀ tk₀ j i s L fun fr tk=>BB x g (f fr tk)) (hg:g.ok=false):x=false∧HY Mn KK fr₀ tk₀ j i s L f:=by
 cases x with
 | true=>exact (HY.bad h hg).elim
 | false=>exact ⟨rfl,h⟩
end
theorem HY.at {n fr₀ tk₀ hs c fs t L j i es ob s a q} (H:HY Mn KK fr₀ tk₀ j i s L fun fr tk=>exec (vx w KK hnd prim fr tk) n hs c fs t L j i ((a,q)::es) ob):a=q:=H.now.2.1 _ ((a5k _ n).1 (a,q) (.head _))
section
variable {n:Nat} {fr₀:Nat→Addr} {tk₀:Nat→Tok} {hs:List Nat} {c:Code} {fs:List Fr} {L:Led} {j i:Nat} {es:List (Addr×Addr)} {ob:List Prop} {s:Shared} {b:Bool} {id:String} {args:Args} {g:Bool} {l:List Value} {k:Result→Sem PySem.Fin}
theorem b0k {c:Code} (h:c1n c fs=true):∃d,dep c fs=some d∧d≤300:=by
 unfold c1n at h
 cases e:dep c fs with
 | none=>rw [e] at h;cases h
 | some d=>rw [e] at h;exact ⟨d,rfl,Nat.le_of_ble_eq_true h⟩
theorem c4w {f f':Nat→Addr} {m:Nat} (h:a2b f' (fun x=>if x < j then fr₀ x else f (x - j)) (j + m)):a2b f' fr₀ j∧a2b (fun x=>f' (j + x)) f m:=
 ⟨fun x hx=>(h x (Nat.lt_of_lt_of_le hx (Nat.le_add_right j m))).trans (if_pos hx),
  fun x hx=>(h (j + x) (Nat.add_lt_add_left hx j)).trans ((if_neg (Nat.not_lt.mpr (Nat.le_add_right j x))).trans (congrArg f (Nat.add_sub_cancel_left j x)))⟩
noncomputable def GoB (w:World) (KK:Addr→Option Obj) (hnd:Option Value) (prim:Bool→Nat→Option PFn) (n:Nat) (b:Bool) (id:String) (args:Args) (hs:List Nat) (c:Code) (fs:List Fr) (k:Result→Sem PySem.Fin) (L:Led) (j i:Nat) (es:List (Addr×Addr)) (ob:List Prop):XO:=
 fun fr tk=>exec (vx w KK hnd prim fr tk) n hs (cdB b id args) (⟨c,none,k⟩::fs) (den (cdB b id args)) L j i es ob
noncomputable def GoQ (w:World) (KK:Addr→Option Obj) (hnd:Option Value) (prim:Bool→Nat→Option PFn) (n:Nat) (q:d6h) (c:Code) (fs:List Fr) (k:Result→Sem PySem.Fin) (j i:Nat) (es:List (Addr×Addr)) (ob:List Prop):XO:=
 fun fr tk=>exec (vx w KK hnd prim fr tk) n q.hs c fs (k q.r) q.L (j + q.nj) (i + 1) (q.es++es) (q.ob++ob)
theorem b6f {p:PFn} (R:a4i w hnd Mn) (hP:a5q w KK hnd prim) (ih:c4c w Mn KK hnd prim n) (hp:prim b (S.codeS id)=some p) (hfs:∀f∈fs,f.hd=none)
  (H:HY Mn KK fr₀ tk₀ j i s L fun fr tk=>OB (p hs args L (Nat.succ (tk i)) (fun x=>fr (j + x))) (fun q=>GoQ w KK hnd prim n q c fs k j i es ob fr tk) (GoB w KK hnd prim n b id args hs c fs k L j i es ob fr tk)) (S:Sat KK L s):Mn c fs (.call (cdB b id args) none g l k) s:=by
 by_cases hsome:∃fr tk,a2b fr fr₀ j∧a2b tk tk₀ i∧∃q,p hs args L (Nat.succ (tk i)) (fun x=>fr (j + x))=some q
 ·obtain ⟨fr₂,tk₂,a1,a2,q₀,hq⟩:=hsome
  have H2:a1n Mn KK s L (OB _ _ _):=H fr₂ tk₂ a1 a2
  rw [hq] at H2
  have sb:= @a5k (vx w KK hnd prim fr₂ tk₂) n q₀.hs c fs (k q₀.r) q₀.L (j + q₀.nj) (i + 1) (q₀.es++es) (q₀.ob++ob)
  have hcall:=fun B (hB:e9b hnd c fs B)=>hP b id p hp hs args L s B _ _ q₀ hB.1 hq (fun x hx=>H2.2.1 x (sb.1 x (List.mem_append_left _ hx))) (fun x hx=>H2.2.2.1 x (sb.2 x (List.mem_append_left _ hx))) S
  refine R.cmd hfs (m:=Sem.call (cdB b id args) none g l Sem.pure) (K:=k) (fun B hB=>x_call (codeAny_mono (by rw [a4v];exact hcall B hB) ?_) (fun e=>by cases e))
  rintro r s' ⟨tok,f,q,h1,hq',rfl,S',E',G'⟩
  refine x_pure (ih (fr₀:=fun x=>if x < j then fr₀ x else f (x - j)) (tk₀:=b4c tk₀ i (tok - 1)) (hs:=q.hs) (j:=j + q.nj) (i:=i + 1) (es:=q.es++es) (ob:=q.ob++ob) hfs (fun fr tk h2 h3=>?_) S')
  obtain ⟨h3,h4⟩:=a3h h3
  obtain ⟨h2a,h2b⟩:=c4w h2
  have:a1n Mn KK s L (OB _ _ _):=H fr tk h2a h3
  rw [show Nat.succ (tk i)=tok by rw [h4];exact Nat.sub_add_cancel h1,hq' _ h2b] at this
  exact a1n.step E' G' this
 ·refine R.enter (ih (a6a hfs) (show HY Mn KK fr₀ tk₀ j i s L (GoB w KK hnd prim n b id args hs c fs k L j i es ob) from fun fr tk h1 h2=>?_) S)
  have:a1n Mn KK s L (OB _ _ _):=H fr tk h1 h2
  cases e:p hs args L (Nat.succ (tk i)) (fun x=>fr (j + x)) with
  | none=>rw [e] at this;exact this
  | some q=>exact absurd ⟨fr,tk,h1,h2,q,e⟩ hsome
theorem a7s (x:Option PFn) (R:a4i w hnd Mn) (hP:a5q w KK hnd prim) (ih:c4c w Mn KK hnd prim n) (hp:prim b (S.codeS id)=x) (hfs:∀f∈fs,f.hd=none)
  (H:HY Mn KK fr₀ tk₀ j i s L fun fr tk=>OB x (fun p=>LB hs (out true hs c fs (.call (cdB b id args) none g l k) L j i es ob) (OB (p hs args L (Nat.succ (tk i)) (fun x=>fr (j + x))) (fun q=>GoQ w KK hnd prim n q c fs k j i es ob fr tk) (GoB w KK hnd prim n b id args hs c fs k L j i es ob fr tk))) (GoB w KK hnd prim n b id args hs c fs k L j i es ob fr tk)) (S:Sat KK L s):Mn c fs (.call (cdB b id args) none g l k) s:=by
 cases x with
 | none=>exact R.enter (ih (a6a hfs) H S)
 | some p=>
  cases hs with
  | nil=>exact a1n.stop H.now S
  | cons h hs=>exact b6f R hP ih hp hfs H S
end
theorem b5a (R:a4i w hnd Mn) (hK:∀h:Heap,(∀a o,KK a=some o→h.get? a=some o)→h.NoLimit) (hP:a5q w KK hnd prim):∀n,c4c w Mn KK hnd prim n:=by
 intro n
 induction n with
 | zero=>exact fun _ H _=>H.now.bad.elim
 | succ n ih=>
  intro fr₀ tk₀ hs c fs t L j i es ob s hfs H S
  cases t with
  | pure fin=>
   cases fin with
   | done fl=>
    cases fs with
    | nil=>exact a1n.stop H.now S
    | cons f fs=>exact R.done (ih (fun g hg=>hfs g (.tail _ hg)) H S)
   | again c'=>
    cases c' with
    | call g args=>
     cases g with
     | ref a=>
      match hs,H with
      | [],H=>exact a1n.stop H.now S
      | 0::hs,H=>exact R.again rfl (b2p R hK ih hfs (fail:=fun _=>_) (fun _ h=>h.bad) (fun hd=>by
        obtain ⟨d,hd,hd2⟩:=b0k hd
        exact ⟨d,hd,Nat.le_trans hd2 (by decide)⟩) H S)
      | 1::hs,H=>exact R.again rfl (ih hfs H S)
      | (h + 2)::hs,H=>exact a1n.stop H.now S
     | _=>exact R.again rfl (ih hfs H S)
    | builtin id args=>
     have key:∀x,b9p (.builtin id args)=x→(HY Mn KK fr₀ tk₀ j i s L fun fr tk=>BB x (exec (vx w KK hnd prim fr tk) n hs (.builtin id args) fs (den (.builtin id args)) L j i es ob) (out false hs c fs (.pure (.again (.builtin id args))) L j i es ob))→Mn c fs (.pure (.again (.builtin id args))) s:=fun x hq H=>by
      cases x with
      | false=>exact (HY.bad H rfl).elim
      | true=>exact R.again (by rw [b3u];exact hq) (ih hfs H S)
     exact key _ rfl H
    | func b env=>exact R.again rfl (ih hfs H S)
    | block b env=>exact R.again rfl (ih hfs H S)
    | _=>
     match hs,H with
     | [],H=>exact a1n.stop H.now S
     | 0::hs,H=>exact R.again rfl (ih hfs H S)
     | (h + 1)::hs,H=>exact a1n.stop H.now S
  | raise e=>
   cases fs with
   | nil=>exact a1n.stop H.now S
   | cons f fs=>exact R.raise (ih (fun g hg=>hfs g (.tail _ hg)) H S)
  | rule tag k=>exact R.cmd hfs (m:=Sem.rule tag Sem.pure) (K:=k) (fun B hB=>x_rule (x_pure (ih hfs H S)))
  | «at» q k=>exact R.cmd hfs (m:=Sem.at q Sem.pure) (K:=k) (fun B hB=>x_at (x_pure (ih hfs H S)))
  | point l k=>exact R.cmd hfs (m:=Sem.point l Sem.pure) (K:=k) (fun B hB=>x_point (x_pure (ih hfs H S)))
  | ask k=>exact R.cmd hfs (m:=Sem.ask Sem.pure) (K:=k) (fun B hB=>x_ask (x_pure (ih hfs H S)))
  | fresh k=>
   refine R.cmd hfs (m:=Sem.fresh Sem.pure) (K:=k) (fun B hB=>x_fresh (x_pure (ih (fr₀:=fr₀) (tk₀:=b4c tk₀ i (s.toks - 1)) (hs:=hs) (j:=j) (i:=i + 1) (es:=es) (ob:=ob) hfs (fun fr tk h1 h2=>?_) (S.fresh _ (Nat.le_succ _)))))
   obtain ⟨h2,h3⟩:=a3h h2
   have h:a1n Mn KK s L (exec (vx w KK hnd prim fr tk) n hs c fs (k (Nat.succ (tk i))) L j (i + 1) es ob):=H fr tk h1 h2
   rw [h3,S.tokS] at h
   exact h.step (Ext.fresh _ (Nat.le_succ _)) (a0j.refl _ _)
  | handled own k=>
   cases own with
   | true=>exact H.now.bad.elim
   | false=>
    refine R.cmd hfs (m:=Sem.handled false Sem.pure) (K:=k) (fun B hB=>x_handled (x_pure ?_))
    rw [hB.1]
    exact ih hfs H S
  | load a q k=>
   match hs,H with
   | [],H=>exact a1n.stop H.now S
   | 0::hs,H=>
    obtain ⟨o,hk,H⟩:=HY.optB (g:=out false (0::hs) c fs (.load a q k) L j i es ob) (x:=KK a) (f:=fun o fr tk=>exec (vx w KK hnd prim fr tk) n hs c fs (k o) L j i es ob) H rfl
    exact R.cmd hfs (m:=Sem.load a q Sem.pure) (K:=k) (fun B hB=>x_load (S.kk a o hk) (x_pure (ih hfs H S)))
   | (h + 1)::hs,H=>
    obtain ⟨p,hk,H⟩:=HY.optB (g:=out false ((h + 1)::hs) c fs (.load a q k) L j i es ob) (x:=L[h]?) (f:=fun p fr tk=>exec (vx w KK hnd prim fr tk) n hs c fs (k p.2) L j i ((a,p.1)::es) ob) H rfl
    exact R.cmd hfs (m:=Sem.load a q Sem.pure) (K:=k) (fun B hB=>x_load (H.at▸S.at hk) (x_pure (ih hfs H S)))
  | loadIfAlive a k=>
   have go:∀o,s.heap.get? a=some o→Mn c fs (k (some o)) s→Mn c fs (.loadIfAlive a k) s:=fun o e h=>by
    refine R.cmd hfs (m:=Sem.loadIfAlive a Sem.pure) (K:=k) (fun B hB Γ p hΓ=>?_)
    show Mn c fs (k (s.heap.get? a)) s
    rw [e];exact h
   match hs,H with
   | [],H=>exact a1n.stop H.now S
   | 0::hs,H=>
    obtain ⟨o,hk,H⟩:=HY.optB (g:=out false (0::hs) c fs (.loadIfAlive a k) L j i es ob) (x:=KK a) (f:=fun o fr tk=>exec (vx w KK hnd prim fr tk) n hs c fs (k (some o)) L j i es ob) H rfl
    exact go o (S.kk a o hk) (ih hfs H S)
   | (h + 1)::hs,H=>
    obtain ⟨p,hk,H⟩:=HY.optB (g:=out false ((h + 1)::hs) c fs (.loadIfAlive a k) L j i es ob) (x:=L[h]?) (f:=fun p fr tk=>exec (vx w KK hnd prim fr tk) n hs c fs (k (some p.2)) L j i ((a,p.1)::es) ob) H rfl
    exact go p.2 (H.at▸S.at hk) (ih hfs H S)
  | update a q f k=>
   match hs,H with
   | [],H=>exact a1n.stop H.now S
   | h::hs,H=>
    obtain ⟨p,hk,H⟩:=HY.optB (g:=out false (h::hs) c fs (.update a q f k) L j i es ob) (x:=L[h]?) (f:=fun p fr tk=>BB (f p.2).isFreed (out false (h::hs) c fs (.update a q f k) L j i es ob) (exec (vx w KK hnd prim fr tk) n hs c fs (k ()) (L.set h (p.1,f p.2)) j i ((a,p.1)::es) ob)) H rfl
    obtain ⟨hf,H⟩:=H.free rfl
    have:a=p.1:=H.now.2.1 _ ((a5k _ n).1 (a,p.1) (.head _))
    subst this
    exact R.cmd hfs (m:=updatePart p.1 q f) (K:=k) (fun B hB=>wpAny_updatePart (S.at hk) (ih hfs (fun fr tk h1 h2=>(H fr tk h1 h2).step (Ext.update hk f) (a0j.set hk _)) (S.update hk hf)))
  | alloc o k=>
   obtain ⟨hf,H⟩:=HY.free (x:=o.isFreed) (f:=fun fr tk=>exec (vx w KK hnd prim fr tk) n hs c fs (k (fr j)) (L++[(fr j,o)]) (j + 1) i es ob) H rfl
   refine R.cmd hfs (m:=alloc o) (K:=k) (fun B hB=>wpAny_alloc (ih (fr₀:=b4c fr₀ j s.heap.objs.size) (tk₀:=tk₀) (hs:=hs) (j:=j + 1) (i:=i) (es:=es) (ob:=ob) hfs (fun fr tk h1 h2=>?_) (S.alloc hf)))
   obtain ⟨h1,h3⟩:=a3h h1
   have:a1n Mn KK s L (exec (vx w KK hnd prim fr tk) n hs c fs (k (fr j)) (L++[(fr j,o)]) (j + 1) i es ob):=H fr tk h1 h2
   rw [h3] at this
   exact a1n.step (Ext.alloc o) (a0j.alloc o) this
  | call c' hd g l k=>
   cases hd with
   | some v=>exact a1n.stop H.now S
   | none=>
    cases c' with
    | call g' args=>
     cases g' with
     | builtin id=>exact a7s (b:=false) (hs:=hs) (j:=j) (i:=i) (es:=es) (ob:=ob) (fr₀:=fr₀) (tk₀:=tk₀) _ R hP ih rfl hfs H S
     | ref a=>
      match hs,H with
      | [],H=>exact a1n.stop H.now S
      | 0::hs,H=>exact R.enter (b2p R hK ih (a6a hfs) (fail:=fun _=>_) (fun _ h=>h.bad) (fun hd=>by
        obtain ⟨d,hd,hd2⟩:=b0k hd
        exact ⟨1 + d,by simp only [dep,b8k,hd],by omega⟩) H S)
      | 1::hs,H=>exact R.enter (ih (a6a hfs) H S)
      | (h + 2)::hs,H=>exact a1n.stop H.now S
     | _=>exact R.enter (ih (a6a hfs) H S)
    | builtin id args=>exact a7s (b:=true) (hs:=hs) (j:=j) (i:=i) (es:=es) (ob:=ob) (fr₀:=fr₀) (tk₀:=tk₀) _ R hP ih rfl hfs H S
    | _=>
     match hs,H with
     | [],H=>exact a1n.stop H.now S
     | 0::hs,H=>exact R.enter (ih (a6a hfs) H S)
     | (h + 1)::hs,H=>exact a1n.stop H.now S
  | _=>exact a1n.stop H.now S
theorem a6b (R:a4i w hnd Mn) (hK:∀h:Heap,(∀a o,KK a=some o→h.get? a=some o)→h.NoLimit) (hP:a5q w KK hnd prim) (n:Nat) (hs c fs t L s) (hfs:∀f∈fs,f.hd=none)
  (H:∀fr tk,a1n Mn KK s L (exec (vx w KK hnd prim fr tk) n hs c fs t L 0 0 [] [])) (S:Sat KK L s):Mn c fs t s:=b5a R hK hP n (fr₀:=fun _=>0) (tk₀:=fun _=>0) hfs (fun fr tk _ _=>H fr tk) S
end
theorem a2a {w:World} {A:Around} {bot:Result→Shared→Prop} {hnd:Option Value} (hh:A.handled=hnd) (hd:A.depth≤690):a4i w hnd (a2p w A bot) where
 done:=a2p.done
 raise:=a2p.raise
 again:=a2p.again
 enter:=a2p.enter
 cmd:=fun {α c fs s m K} hfs h=>by
  unfold a2p
  rw [←Sem.bind_eq_wrap']
  have hf:e9b hnd c fs ((aro A fs).under c):=⟨by rw [a4d,a6c hfs,hh],fun d hd1 hd2=>by
   have:=a8q (A:=A) hd1
   omega⟩
  intro Γ p hΓ
  rw [Sem.wp_bind']
  exact Sem.wp_mono _ Γ m (fun a p' s' q=>q Γ p' hΓ) (fun e p' s' q=>q Γ p' hΓ) p s (h _ hf Γ p hΓ)
end
end Mine
set_option maxHeartbeats 0
namespace Mine
noncomputable section
noncomputable abbrev e9c:Program:=PySem.Challenge.pw_oh0064_01
noncomputable def a3i:List Stmt→Nat→Stmt
 | [],_=>.Pass default
 | s::_,0=>s
 | _::l,n + 1=>a3i l n
noncomputable def a1e:Stmt→List Stmt
 | .FunctionDef _ _ body ..=>body
 | .ClassDef _ _ _ body ..=>body
 | .For _ _ body _ _=>body
 | .While _ body _ _=>body
 | .If _ body _ _=>body
 | _=>[]
noncomputable def top (i:Nat):Stmt:=a3i e9c.main.body i
noncomputable def a9n (i k:Nat):Stmt:=a3i (a1e (top i)) k
noncomputable def a7g (s:Stmt) (q:Str) (dflt mod code:Value):FuncData:=match s with
 | .FunctionDef name args body _ _ _ scope _ _ _=>{ name,qualname:=q,params:=args,body:=.stmts body,scope,globals:=3,closure:=[],defaults:=dflt,kwdefaults:=.none,pyModule:=mod,code }
 | _=>default
noncomputable def e4c (name:Str) (bases mro:List Value) (ns:Addr) (q:Str) (hd:Bool) (sl:List Str):ClassData:={ name,bases,mro,ns,qualname:=q,hasDict:=hd,slotNames:=sl }
noncomputable def ent (P:Params) (x:Str) (t:Tok) (v:Value):DictEntry:=⟨PyData.keyHash P x,.str x t,v⟩
noncomputable def k0 (P:Params):Obj:=⟨(.type s14018661285674007319x4),none,(.dict ⟨[ent P l46 1 (.str l47 160),ent P l9 2 (.builtin "builtins.__doc__:str#opaque"),ent P l48 3 (.builtin "builtins.__package__:str#opaque"),ent P l49 4 (.builtin "builtins.__loader__:shared#opaque"),ent P l50 5 (.builtin s11665532747177232413x24),ent P ⟨⟨[95,95,98,117,105,108,100,95,99,108,97,115,115,95,95]⟩⟩ 6 (.builtin s15183661809925369436x15),ent P ⟨⟨[95,95,105,109,112,111,114,116,95,95]⟩⟩ 7 (.builtin s13915890719876406383x10),ent P ⟨⟨[97,98,115]⟩⟩ 8 (.builtin s13459172003223722735x3),ent P ⟨⟨[97,108,108]⟩⟩ 9 (.builtin s10557405761357834076x3),ent P ⟨⟨[97,110,121]⟩⟩ 10 (.builtin s4233737765568776869x3),ent P ⟨⟨[97,115,99,105,105]⟩⟩ 11 (.builtin s2508922471967985374x5),ent P ⟨⟨[98,105,110]⟩⟩ 12 (.builtin s15574269061696679450x3),ent P ⟨⟨[98,114,101,97,107,112,111,105,110,116]⟩⟩ 13 (.builtin s6016482663378992977x10),ent P ⟨⟨[99,97,108,108,97,98,108,101]⟩⟩ 14 (.builtin s5596568736180474577x8),ent P ⟨⟨[99,104,114]⟩⟩ 15 (.builtin s2839554839881490554x3),ent P ⟨⟨[99,111,109,112,105,108,101]⟩⟩ 16 (.builtin s725004073602090463x7),ent P ⟨⟨[100,101,108,97,116,116,114]⟩⟩ 17 (.builtin s9436932552931045734x7),ent P ⟨⟨[100,105,114]⟩⟩ 18 (.builtin s2754603736356183583x3),ent P ⟨⟨[100,105,118,109,111,100]⟩⟩ 19 (.builtin s15185746759980889043x6),ent P ⟨⟨[101,118,97,108]⟩⟩ 20 (.builtin s8192189862530294059x4),ent P ⟨⟨[101,120,101,99]⟩⟩ 21 (.builtin s7038307821325472102x4),ent P ⟨⟨[102,111,114,109,97,116]⟩⟩ 22 (.builtin s5662562618415449548x6),ent P ⟨⟨[103,101,116,97,116,116,114]⟩⟩ 23 (.builtin s15281542589158584767x7),ent P ⟨⟨[103,108,111,98,97,108,115]⟩⟩ 24 (.builtin s17651547275483570877x7),ent P ⟨⟨[104,97,115,97,116,116,114]⟩⟩ 25 (.builtin s4036449017235975746x7),ent P ⟨⟨[104,97,115,104]⟩⟩ 26 (.builtin s8879979712987360175x4),ent P ⟨⟨[104,101,120]⟩⟩ 27 (.builtin s1801250619170735830x3),ent P ⟨⟨[105,100]⟩⟩ 28 (.builtin s17659931425627118568x2),ent P ⟨⟨[105,110,112,117,116]⟩⟩ 29 (.builtin s6063217899685152688x5),ent P ⟨⟨[105,115,105,110,115,116,97,110,99,101]⟩⟩ 30 (.builtin s8008927332132565319x10),ent P ⟨⟨[105,115,115,117,98,99,108,97,115,115]⟩⟩ 31 (.builtin s3544116645089599534x10),ent P ⟨⟨[105,116,101,114]⟩⟩ 32 (.builtin s13761710972054866084x4),ent P ⟨⟨[97,105,116,101,114]⟩⟩ 33 (.builtin s12896375587409280029x5),ent P ⟨⟨[108,101,110]⟩⟩ 34 (.builtin s13014049009108672802x3),ent P ⟨⟨[108,111,99,97,108,115]⟩⟩ 35 (.builtin s13935586738268321596x6),ent P ⟨⟨[109,97,120]⟩⟩ 36 (.builtin s8200498257699607233x3),ent P ⟨⟨[109,105,110]⟩⟩ 37 (.builtin s14114244577727609259x3),ent P ⟨⟨[110,101,120,116]⟩⟩ 38 (.builtin s1499430450269397089x4),ent P ⟨⟨[97,110,101,120,116]⟩⟩ 39 (.builtin s8755793994789770505x5),ent P ⟨⟨[111,99,116]⟩⟩ 40 (.builtin s15725212667919936108x3),ent P ⟨⟨[111,114,100]⟩⟩ 41 (.builtin s15791221867095933363x3),ent P ⟨⟨[112,111,119]⟩⟩ 42 (.builtin s81309575031448614x3),ent P ⟨⟨[112,114,105,110,116]⟩⟩ 43 (.builtin s8069831620301644142x5),ent P ⟨⟨[114,101,112,114]⟩⟩ 44 (.builtin s10061844253413749634x4),ent P ⟨⟨[114,111,117,110,100]⟩⟩ 45 (.builtin s9496514870978017513x5),ent P ⟨⟨[115,101,116,97,116,116,114]⟩⟩ 46 (.builtin s8899691144933366716x7),ent P ⟨⟨[115,111,114,116,101,100]⟩⟩ 47 (.builtin s15201008993051130160x6),ent P ⟨⟨[115,117,109]⟩⟩ 48 (.builtin s741896355592496720x3),ent P ⟨⟨[118,97,114,115]⟩⟩ 49 (.builtin s17925004256654032244x4),ent P ⟨⟨[78,111,110,101]⟩⟩ 50 .none,ent P ⟨⟨[69,108,108,105,112,115,105,115]⟩⟩ 51 .ellipsis,ent P ⟨⟨[78,111,116,73,109,112,108,101,109,101,110,116,101,100]⟩⟩ 52 .notImplemented,ent P ⟨⟨[70,97,108,115,101]⟩⟩ 53 (.bool false),ent P ⟨⟨[84,114,117,101]⟩⟩ 54 (.bool true),ent P ⟨⟨[98,111,111,108]⟩⟩ 55 (.type s11695548795398191787x4),ent P ⟨⟨[109,101,109,111,114,121,118,105,101,119]⟩⟩ 56 (.type s4156966113859768872x10),ent P ⟨⟨[98,121,116,101,97,114,114,97,121]⟩⟩ 57 (.type s9501651726347032510x9),ent P ⟨⟨[98,121,116,101,115]⟩⟩ 58 (.type s15722918466584999320x5),ent P ⟨⟨[99,108,97,115,115,109,101,116,104,111,100]⟩⟩ 59 (.type s591115383303110208x11),ent P ⟨⟨[99,111,109,112,108,101,120]⟩⟩ 60 (.type s15721156781594690315x7),ent P ⟨⟨[100,105,99,116]⟩⟩ 61 (.type s14018661285674007319x4),ent P ⟨⟨[101,110,117,109,101,114,97,116,101]⟩⟩ 62 (.type s14340494229221121180x9),ent P ⟨⟨[102,105,108,116,101,114]⟩⟩ 63 (.type s13429844117177748173x6),ent P ⟨⟨[102,108,111,97,116]⟩⟩ 64 (.type s16463266125957815391x5),ent P ⟨⟨[102,114,111,122,101,110,115,101,116]⟩⟩ 65 (.type s4922535414793169389x9),ent P ⟨⟨[112,114,111,112,101,114,116,121]⟩⟩ 66 (.type s8101838861749082086x8),ent P ⟨⟨[105,110,116]⟩⟩ 67 (.type s7066276694103001551x3),ent P ⟨⟨[108,105,115,116]⟩⟩ 68 (.type s9222952809800978799x4),ent P ⟨⟨[109,97,112]⟩⟩ 69 (.type s462964344163437139x3),ent P ⟨⟨[111,98,106,101,99,116]⟩⟩ 70 (.type s2742458400755230247x6),ent P ⟨⟨[114,97,110,103,101]⟩⟩ 71 (.type s1438033511350832697x5),ent P ⟨⟨[114,101,118,101,114,115,101,100]⟩⟩ 72 (.type s14365286008749172514x8),ent P ⟨⟨[115,101,116]⟩⟩ 73 (.type s3642769012341782148x3),ent P ⟨⟨[115,108,105,99,101]⟩⟩ 74 (.type s4674234679698826739x5),ent P ⟨⟨[115,116,97,116,105,99,109,101,116,104,111,100]⟩⟩ 75 (.type s16656946322747308186x12),ent P ⟨⟨[115,116,114]⟩⟩ 76 (.type s10796804682411823810x3),ent P ⟨⟨[115,117,112,101,114]⟩⟩ 77 (.type s4290257624100764138x5),ent P ⟨⟨[116,117,112,108,101]⟩⟩ 78 (.type s2766695959194262286x5),ent P ⟨⟨[116,121,112,101]⟩⟩ 79 (.type s17162191345867700912x4),ent P ⟨⟨[122,105,112]⟩⟩ 80 (.type s14339709457334898076x3),ent P ⟨⟨[95,95,100,101,98,117,103,95,95]⟩⟩ 81 (.bool true),ent P ⟨⟨[66,97,115,101,69,120,99,101,112,116,105,111,110]⟩⟩ 82 (.type s4278001404047624695x13),ent P ⟨⟨[66,97,115,101,69,120,99,101,112,116,105,111,110,71,114,111,117,112]⟩⟩ 83 (.type s6585700554429387442x18),ent P ⟨⟨[69,120,99,101,112,116,105,111,110]⟩⟩ 84 (.type s5946037652744460706x9),ent P ⟨⟨[71,101,110,101,114,97,116,111,114,69,120,105,116]⟩⟩ 85 (.type s7410770068591931388x13),ent P ⟨⟨[75,101,121,98,111,97,114,100,73,110,116,101,114,114,117,112,116]⟩⟩ 86 (.type s11817881795495490833x17),ent P ⟨⟨[83,121,115,116,101,109,69,120,105,116]⟩⟩ 87 (.type s15679963881808890155x10),ent P ⟨⟨[65,114,105,116,104,109,101,116,105,99,69,114,114,111,114]⟩⟩ 88 (.type s3871700062485845797x15),ent P ⟨⟨[65,115,115,101,114,116,105,111,110,69,114,114,111,114]⟩⟩ 89 (.type s7689518266570723881x14),ent P ⟨⟨[65,116,116,114,105,98,117,116,101,69,114,114,111,114]⟩⟩ 90 (.type s9001593270443806431x14),ent P ⟨⟨[66,117,102,102,101,114,69,114,114,111,114]⟩⟩ 91 (.type s6882542574934516792x11),ent P ⟨⟨[69,79,70,69,114,114,111,114]⟩⟩ 92 (.type s14403400214490484960x8),ent P ⟨⟨[73,109,112,111,114,116,69,114,114,111,114]⟩⟩ 93 (.type s14457978657717015782x11),ent P ⟨⟨[76,111,111,107,117,112,69,114,114,111,114]⟩⟩ 94 (.type s1753610191782819921x11),ent P ⟨⟨[77,101,109,111,114,121,69,114,114,111,114]⟩⟩ 95 (.type s14119380538032626715x11),ent P ⟨⟨[78,97,109,101,69,114,114,111,114]⟩⟩ 96 (.type s11437920000406562045x9),ent P ⟨⟨[79,83,69,114,114,111,114]⟩⟩ 97 (.type s10852414792293593619x7),ent P ⟨⟨[82,101,102,101,114,101,110,99,101,69,114,114,111,114]⟩⟩ 98 (.type s14816307405966870543x14),ent P ⟨⟨[82,117,110,116,105,109,101,69,114,114,111,114]⟩⟩ 99 (.type s8682627914449686677x12),ent P ⟨⟨[83,116,111,112,65,115,121,110,99,73,116,101,114,97,116,105,111,110]⟩⟩ 100 (.type s4428170145600203450x18),ent P ⟨⟨[83,116,111,112,73,116,101,114,97,116,105,111,110]⟩⟩ 101 (.type s5991306692159431302x13),ent P ⟨⟨[83,121,110,116,97,120,69,114,114,111,114]⟩⟩ 102 (.type s16067994140765818257x11),ent P ⟨⟨[83,121,115,116,101,109,69,114,114,111,114]⟩⟩ 103 (.type s2327743974964600596x11),ent P ⟨⟨[84,121,112,101,69,114,114,111,114]⟩⟩ 104 (.type s2804747833354056582x9),ent P ⟨⟨[86,97,108,117,101,69,114,114,111,114]⟩⟩ 105 (.type s6070975301684473832x10),ent P ⟨⟨[87,97,114,110,105,110,103]⟩⟩ 106 (.type s14270485950484850486x7),ent P ⟨⟨[70,108,111,97,116,105,110,103,80,111,105,110,116,69,114,114,111,114]⟩⟩ 107 (.type s12041534306414923332x18),ent P ⟨⟨[79,118,101,114,102,108,111,119,69,114,114,111,114]⟩⟩ 108 (.type s2531307568338490285x13),ent P ⟨⟨[90,101,114,111,68,105,118,105,115,105,111,110,69,114,114,111,114]⟩⟩ 109 (.type s631175304937289666x17),ent P ⟨⟨[66,121,116,101,115,87,97,114,110,105,110,103]⟩⟩ 110 (.type s5144983644357021410x12),ent P ⟨⟨[68,101,112,114,101,99,97,116,105,111,110,87,97,114,110,105,110,103]⟩⟩ 111 (.type s18039099521571816885x18),ent P ⟨⟨[69,110,99,111,100,105,110,103,87,97,114,110,105,110,103]⟩⟩ 112 (.type s6011586214260557989x15),ent P ⟨⟨[70,117,116,117,114,101,87,97,114,110,105,110,103]⟩⟩ 113 (.type s5430567037509283100x13),ent P ⟨⟨[73,109,112,111,114,116,87,97,114,110,105,110,103]⟩⟩ 114 (.type s8117915138073963741x13),ent P ⟨⟨[80,101,110,100,105,110,103,68,101,112,114,101,99,97,116,105,111,110,87,97,114,110,105,110,103]⟩⟩ 115 (.type s3423317712779056401x25),ent P ⟨⟨[82,101,115,111,117,114,99,101,87,97,114,110,105,110,103]⟩⟩ 116 (.type s2007317383269046180x15),ent P ⟨⟨[82,117,110,116,105,109,101,87,97,114,110,105,110,103]⟩⟩ 117 (.type s17481586968713580700x14),ent P ⟨⟨[83,121,110,116,97,120,87,97,114,110,105,110,103]⟩⟩ 118 (.type s2450899226349176912x13),ent P ⟨⟨[85,110,105,99,111,100,101,87,97,114,110,105,110,103]⟩⟩ 119 (.type s16626165730633575011x14),ent P ⟨⟨[85,115,101,114,87,97,114,110,105,110,103]⟩⟩ 120 (.type s14288496050688921416x11),ent P ⟨⟨[66,108,111,99,107,105,110,103,73,79,69,114,114,111,114]⟩⟩ 121 (.type s5735081916595925998x15),ent P ⟨⟨[67,104,105,108,100,80,114,111,99,101,115,115,69,114,114,111,114]⟩⟩ 122 (.type s3865607918536308442x17),ent P ⟨⟨[67,111,110,110,101,99,116,105,111,110,69,114,114,111,114]⟩⟩ 123 (.type s13337502604062700212x15),ent P ⟨⟨[70,105,108,101,69,120,105,115,116,115,69,114,114,111,114]⟩⟩ 124 (.type s13114017843053701147x15),ent P ⟨⟨[70,105,108,101,78,111,116,70,111,117,110,100,69,114,114,111,114]⟩⟩ 125 (.type s17467278006356818441x17),ent P ⟨⟨[73,110,116,101,114,114,117,112,116,101,100,69,114,114,111,114]⟩⟩ 126 (.type s17722149559621369488x16),ent P ⟨⟨[73,115,65,68,105,114,101,99,116,111,114,121,69,114,114,111,114]⟩⟩ 127 (.type s7855274175708717672x17),ent P ⟨⟨[78,111,116,65,68,105,114,101,99,116,111,114,121,69,114,114,111,114]⟩⟩ 128 (.type s13351283678309829046x18),ent P ⟨⟨[80,101,114,109,105,115,115,105,111,110,69,114,114,111,114]⟩⟩ 129 (.type s6668348653404991179x15),ent P ⟨⟨[80,114,111,99,101,115,115,76,111,111,107,117,112,69,114,114,111,114]⟩⟩ 130 (.type s12913350958174193794x18),ent P ⟨⟨[84,105,109,101,111,117,116,69,114,114,111,114]⟩⟩ 131 (.type s16115879512475548326x12),ent P ⟨⟨[73,110,100,101,110,116,97,116,105,111,110,69,114,114,111,114]⟩⟩ 132 (.type s15920661018069861047x16),ent P ⟨⟨[95,73,110,99,111,109,112,108,101,116,101,73,110,112,117,116,69,114,114,111,114]⟩⟩ 133 (.type s10779130036587390575x21),ent P ⟨⟨[73,110,100,101,120,69,114,114,111,114]⟩⟩ 134 (.type s7801419657504700863x10),ent P ⟨⟨[75,101,121,69,114,114,111,114]⟩⟩ 135 (.type s1688129525768580628x8),ent P ⟨⟨[77,111,100,117,108,101,78,111,116,70,111,117,110,100,69,114,114,111,114]⟩⟩ 136 (.type s1031832959479892071x19),ent P ⟨⟨[78,111,116,73,109,112,108,101,109,101,110,116,101,100,69,114,114,111,114]⟩⟩ 137 (.type s8991790508128307865x19),ent P ⟨⟨[80,121,116,104,111,110,70,105,110,97,108,105,122,97,116,105,111,110,69,114,114,111,114]⟩⟩ 138 (.type s14539662485746970245x23),ent P ⟨⟨[82,101,99,117,114,115,105,111,110,69,114,114,111,114]⟩⟩ 139 (.type s11643622729373238714x14),ent P ⟨⟨[85,110,98,111,117,110,100,76,111,99,97,108,69,114,114,111,114]⟩⟩ 140 (.type s3386828779285465597x17),ent P ⟨⟨[85,110,105,99,111,100,101,69,114,114,111,114]⟩⟩ 141 (.type s13042696260734638735x12),ent P ⟨⟨[66,114,111,107,101,110,80,105,112,101,69,114,114,111,114]⟩⟩ 142 (.type s18239426817015966623x15),ent P ⟨⟨[67,111,110,110,101,99,116,105,111,110,65,98,111,114,116,101,100,69,114,114,111,114]⟩⟩ 143 (.type s1270395311379034370x22),ent P ⟨⟨[67,111,110,110,101,99,116,105,111,110,82,101,102,117,115,101,100,69,114,114,111,114]⟩⟩ 144 (.type s10696252587037064777x22),ent P ⟨⟨[67,111,110,110,101,99,116,105,111,110,82,101,115,101,116,69,114,114,111,114]⟩⟩ 145 (.type s7852717498200857586x20),ent P ⟨⟨[84,97,98,69,114,114,111,114]⟩⟩ 146 (.type s6377248116197321094x8),ent P ⟨⟨[85,110,105,99,111,100,101,68,101,99,111,100,101,69,114,114,111,114]⟩⟩ 147 (.type s3834378056692298002x18),ent P ⟨⟨[85,110,105,99,111,100,101,69,110,99,111,100,101,69,114,114,111,114]⟩⟩ 148 (.type s17586630440231065808x18),ent P ⟨⟨[85,110,105,99,111,100,101,84,114,97,110,115,108,97,116,101,69,114,114,111,114]⟩⟩ 149 (.type s15234114252648025395x21),ent P ⟨⟨[69,120,99,101,112,116,105,111,110,71,114,111,117,112]⟩⟩ 150 (.type s8496462677383758984x14),ent P ⟨⟨[69,110,118,105,114,111,110,109,101,110,116,69,114,114,111,114]⟩⟩ 151 (.type s10852414792293593619x7),ent P ⟨⟨[73,79,69,114,114,111,114]⟩⟩ 152 (.type s10852414792293593619x7),ent P ⟨⟨[111,112,101,110]⟩⟩ 153 (.builtin s16789243406116112673x4),ent P ⟨⟨[113,117,105,116]⟩⟩ 154 (.builtin s14400166428656793546x20),ent P ⟨⟨[101,120,105,116]⟩⟩ 155 (.builtin s5857708277339239366x20),ent P ⟨⟨[99,111,112,121,114,105,103,104,116]⟩⟩ 156 (.builtin "builtins.copyright#opaque"),ent P ⟨⟨[99,114,101,100,105,116,115]⟩⟩ 157 (.builtin "builtins.credits#opaque"),ent P ⟨⟨[108,105,99,101,110,115,101]⟩⟩ 158 (.builtin "builtins.license#opaque"),ent P ⟨⟨[104,101,108,112]⟩⟩ 159 (.builtin s7804999707787243718x20)]⟩ 159),⟨[]⟩⟩
noncomputable def k1 (P:Params):Obj:=⟨(.type s14018661285674007319x4),none,(.dict ⟨[ent P l47 162 (.ref 4),ent P l51 163 (.ref 5)]⟩ 2),⟨[]⟩⟩
noncomputable def k2 (P:Params):Obj:=⟨.none,none,(.dict ⟨[]⟩ 0),⟨[]⟩⟩
noncomputable def k3 (P:Params):Obj:=⟨(.type s14018661285674007319x4),none,(.dict ⟨[ent P l46 165 (.str l6 467),ent P l9 166 .none,ent P l48 167 .none,ent P l49 168 (.builtin s7097527257260152453x26),ent P l50 169 .none,ent P ⟨⟨[95,95,97,110,110,111,116,97,116,105,111,110,115,95,95]⟩⟩ 170 (.ref 6),ent P ⟨⟨[95,95,98,117,105,108,116,105,110,115,95,95]⟩⟩ 171 (.ref 4),ent P ⟨⟨[95,95,102,105,108,101,95,95]⟩⟩ 173 (.str lz1 172),ent P ⟨⟨[95,95,99,97,99,104,101,100,95,95]⟩⟩ 174 .none,ent P l27 193 (.ref 21),ent P l28 210 (.ref 28),ent P l12 240 (.ref 45),ent P ⟨⟨[95,78,79,68,69,95,79,85,84]⟩⟩ 245 (.int (-1) 244),ent P ⟨⟨[95,78,79,68,69,95,68,79,78,69]⟩⟩ 248 (.int (-2) 247),ent P l13 285 (.ref 68),ent P l14 303 (.ref 83),ent P l15 422 (.ref 165),ent P l29 432 (.ref 176),ent P l30 441 (.ref 183),ent P l16 453 (.ref 190),ent P l17 466 (.ref 197),ent P l18 480 (.ref 204),ent P l31 489 (.ref 211),ent P l19 495 (.ref 216),ent P l20 507 (.ref 223),ent P l21 513 (.ref 228),ent P l22 519 (.ref 233),ent P l23 535 (.ref 240),ent P l24 550 (.ref 247),ent P l25 556 (.ref 252)]⟩ 30),⟨[]⟩⟩
noncomputable def k4 (P:Params):Obj:=⟨(.type s6658869562736209489x6),(some 0),.plain,⟨[]⟩⟩
noncomputable def k5 (P:Params):Obj:=⟨(.type s6658869562736209489x6),(some 3),.plain,⟨[]⟩⟩
noncomputable def k20 (P:Params):Obj:=⟨(.type s5856160107412720595x4),none,(.fields ⟨[(.str l27 187),(.str l27 188),(.str lz1 189),(.int 1 0),(.int 1 0),(.int 0 0),(.int 0 0),(.int 3 0),(.ref 15),(.bool true),(.int 181 0),(.ref 16),.none,(.ref 17),(.ref 18),(.ref 19),(.int 191 0),(.int 1 0),(.str lz1 192)]⟩),⟨[]⟩⟩
noncomputable def k21 (P:Params):Obj:=⟨(.type s7174869446012820540x8),none,(.func (a7g (top 0) l27 .none (.str l51 164) (.ref 20))),⟨[]⟩⟩
noncomputable def k27 (P:Params):Obj:=⟨(.type s5856160107412720595x4),none,(.fields ⟨[(.str l28 196),(.str l28 197),(.str lz1 198),(.int 5 0),(.int 1 0),(.int 0 0),(.int 0 0),(.int 3 0),(.ref 22),(.bool true),(.int 181 0),(.ref 23),.none,(.ref 24),(.ref 25),(.ref 26),(.int 208 0),(.int 5 0),(.str lz1 209)]⟩),⟨[]⟩⟩
noncomputable def k28 (P:Params):Obj:=⟨(.type s7174869446012820540x8),none,(.func (a7g (top 2) l28 .none (.str l38 194) (.ref 27))),⟨[]⟩⟩
noncomputable def k41 (P:Params):Obj:=⟨(.type s5856160107412720595x4),none,(.fields ⟨[(.str l10 224),(.str l52 225),(.str lz1 226),(.int 45 0),(.int 2 0),(.int 0 0),(.int 0 0),(.int 3 0),(.ref 36),(.bool true),(.int 181 0),(.ref 37),.none,(.ref 38),(.ref 39),(.ref 40),(.int 229 0),(.int 45 0),(.str lz1 230)]⟩),⟨[]⟩⟩
noncomputable def k42 (P:Params):Obj:=⟨(.type s7174869446012820540x8),none,(.func (a7g (a9n 3 1) l52 .none (.str l38 194) (.ref 41))),⟨[]⟩⟩
noncomputable def k44 (P:Params):Obj:=⟨(.type s14018661285674007319x4),none,(.dict ⟨[ent P l32 218 (.str l38 194),ent P l33 222 (.int 42 221),ent P ⟨⟨[112,97,114,101,110,116,95,109,97,112]⟩⟩ 223 .none,ent P l10 231 (.ref 42),ent P l34 233 (.ref 43),ent P l35 235 (.ref 46),ent P l11 237 (.ref 47),ent P l9 238 .none]⟩ 4),⟨[]⟩⟩
noncomputable def k45 (P:Params):Obj:=⟨(.type s17162191345867700912x4),none,(.cls (e4c l12 [(.type s2742458400755230247x6)] [(.ref 45),(.type s2742458400755230247x6)] 44 l12 true [])),⟨[none,none,(some (.str l12 211)),(some (.str l12 219)),(some (.builtin s11443829558043349243x14)),(some (.bool true))]⟩⟩
noncomputable def k46 (P:Params):Obj:=⟨(.type s14755015743595814543x17),none,(.fields ⟨[(.str l35 234),(.ref 45),(.builtin s6511155373996960695x17),(.builtin s12411053484034534018x21)]⟩),⟨[]⟩⟩
noncomputable def k47 (P:Params):Obj:=⟨(.type s14755015743595814543x17),none,(.fields ⟨[(.str l11 236),(.ref 45),(.builtin s10220274742760427390x26),.none]⟩),⟨[]⟩⟩
noncomputable def k63 (P:Params):Obj:=⟨(.type s5856160107412720595x4),none,(.fields ⟨[(.str l10 265),(.str l53 266),(.str lz1 267),(.int 53 0),(.int 2 0),(.int 0 0),(.int 0 0),(.int 3 0),(.ref 58),(.bool true),(.int 181 0),(.ref 59),.none,(.ref 60),(.ref 61),(.ref 62),(.int 270 0),(.int 53 0),(.str lz1 271)]⟩),⟨[]⟩⟩
noncomputable def k64 (P:Params):Obj:=⟨(.type s7174869446012820540x8),none,(.func (a7g (a9n 7 1) l53 .none (.str l4 241) (.ref 63))),⟨[]⟩⟩
noncomputable def k67 (P:Params):Obj:=⟨(.type s14018661285674007319x4),none,(.dict ⟨[ent P l32 256 (.str l4 241),ent P l33 260 (.int 50 259),ent P ⟨⟨[95,95,115,108,111,116,115,95,95]⟩⟩ 264 (.ref 57),ent P l10 272 (.ref 64),ent P l34 276 (.ref 65),ent P l36 278 (.ref 69),ent P l39 280 (.ref 70),ent P l40 282 (.ref 71),ent P l9 283 .none]⟩ 5),⟨[]⟩⟩
noncomputable def k68 (P:Params):Obj:=⟨(.type s17162191345867700912x4),none,(.cls (e4c l13 [(.type s2742458400755230247x6)] [(.ref 68),(.type s2742458400755230247x6)] 67 l13 false [l36,l39,l40])),⟨[none,none,(some (.str l13 249)),(some (.str l13 257)),(some (.builtin s11443829558043349243x14)),(some (.bool false))]⟩⟩
noncomputable def k69 (P:Params):Obj:=⟨(.type s5699418376593618685x17),none,(.fields ⟨[(.str l36 277),(.ref 68),(.builtin s6779124196712981104x10),(.builtin s2924395122027826103x14),(.int 2 0)]⟩),⟨[]⟩⟩
noncomputable def k70 (P:Params):Obj:=⟨(.type s5699418376593618685x17),none,(.fields ⟨[(.str l39 279),(.ref 68),(.builtin s6779124196712981104x10),(.builtin s2924395122027826103x14),(.int 1 0)]⟩),⟨[]⟩⟩
noncomputable def k71 (P:Params):Obj:=⟨(.type s5699418376593618685x17),none,(.fields ⟨[(.str l40 281),(.ref 68),(.builtin s6779124196712981104x10),(.builtin s2924395122027826103x14),(.int 0 0)]⟩),⟨[]⟩⟩
noncomputable def k82 (P:Params):Obj:=⟨(.type s14018661285674007319x4),none,(.dict ⟨[ent P l32 293 (.str l4 241),ent P l33 297 (.int 57 296),ent P l34 298 (.ref 81),ent P l11 300 (.ref 84),ent P l9 301 .none]⟩ 3),⟨[]⟩⟩
noncomputable def k83 (P:Params):Obj:=⟨(.type s17162191345867700912x4),none,(.cls (e4c l14 [(.type s6070975301684473832x10)] [(.ref 83),(.type s6070975301684473832x10),(.type s5946037652744460706x9),(.type s4278001404047624695x13),(.type s2742458400755230247x6)] 82 l14 true [])),⟨[(some (.ref 74)),none,(some (.str l14 286)),(some (.str l14 294)),(some (.builtin s4209523147560561109x18)),(some (.bool true))]⟩⟩
noncomputable def k84 (P:Params):Obj:=⟨(.type s14755015743595814543x17),none,(.fields ⟨[(.str l11 299),(.ref 83),(.builtin s10220274742760427390x26),.none]⟩),⟨[]⟩⟩
noncomputable def k94 (P:Params):Obj:=⟨(.type s2766695959194262286x5),none,(.seq ⟨[.none]⟩ 0),⟨[]⟩⟩
noncomputable def f3q (P:Params):Obj:=⟨(.type s5856160107412720595x4),none,(.fields ⟨[(.str l10 316),(.str l54 317),(.str lz1 318),(.int 61 0),(.int 2 0),(.int 0 0),(.int 0 0),(.int 3 0),(.ref 95),(.bool true),(.int 181 0),(.ref 96),.none,(.ref 97),(.ref 98),(.ref 99),(.int 323 0),(.int 61 0),(.str lz1 324)]⟩),⟨[]⟩⟩
noncomputable def f4k (P:Params):Obj:=⟨(.type s7174869446012820540x8),none,(.func (a7g (a9n 9 0) l54 (.ref 94) (.str l4 241) (.ref 100))),⟨[]⟩⟩
noncomputable def f4b (P:Params):Obj:=⟨(.type s5856160107412720595x4),none,(.fields ⟨[(.str l55 326),(.str l56 327),(.str lz1 328),(.int 70 0),(.int 2 0),(.int 0 0),(.int 0 0),(.int 3 0),(.ref 102),(.bool true),(.int 181 0),(.ref 103),.none,(.ref 104),(.ref 105),(.ref 106),(.int 332 0),(.int 70 0),(.str lz1 333)]⟩),⟨[]⟩⟩
noncomputable def f5w (P:Params):Obj:=⟨(.type s7174869446012820540x8),none,(.func (a7g (a9n 9 1) l56 .none (.str l4 241) (.ref 107))),⟨[]⟩⟩
noncomputable def f5j (P:Params):Obj:=⟨(.type s5856160107412720595x4),none,(.fields ⟨[(.str ⟨⟨[97,100,100]⟩⟩ 335),(.str l41 336),(.str lz1 337),(.int 75 0),(.int 2 0),(.int 0 0),(.int 0 0),(.int 7 0),(.ref 109),(.bool true),(.int 181 0),(.ref 110),.none,(.ref 111),(.ref 112),(.ref 113),(.int 344 0),(.int 75 0),(.str lz1 345)]⟩),⟨[]⟩⟩
noncomputable def f6h (P:Params):Obj:=⟨(.type s7174869446012820540x8),none,(.func (a7g (a9n 9 2) l41 .none (.str l4 241) (.ref 114))),⟨[]⟩⟩
noncomputable def f2j (P:Params):Obj:=⟨(.type s5856160107412720595x4),none,(.fields ⟨[(.str l57 347),(.str l42 348),(.str lz1 349),(.int 84 0),(.int 1 0),(.int 0 0),(.int 0 0),(.int 3 0),(.ref 116),(.bool true),(.int 181 0),(.ref 117),.none,.none,.none,(.ref 118),(.int 350 0),(.int 84 0),(.str lz1 351)]⟩),⟨[]⟩⟩
noncomputable def f1z (P:Params):Obj:=⟨(.type s7174869446012820540x8),none,(.func (a7g (a9n 9 3) l42 .none (.str l4 241) (.ref 119))),⟨[]⟩⟩
noncomputable def f4f (P:Params):Obj:=⟨(.type s5856160107412720595x4),none,(.fields ⟨[(.str l58 353),(.str l43 354),(.str lz1 355),(.int 92 0),(.int 1 0),(.int 0 0),(.int 0 0),(.int 3 0),(.ref 121),(.bool true),(.int 181 0),(.ref 122),.none,(.ref 123),(.ref 124),(.ref 125),(.int 360 0),(.int 92 0),(.str lz1 361)]⟩),⟨[]⟩⟩
noncomputable def f2q (P:Params):Obj:=⟨(.type s7174869446012820540x8),none,(.func (a7g (a9n 9 4) l43 .none (.str l4 241) (.ref 126))),⟨[]⟩⟩
noncomputable def f2d (P:Params):Obj:=⟨(.type s5856160107412720595x4),none,(.fields ⟨[(.str l59 363),(.str l60 364),(.str lz1 365),(.int 103 0),(.int 1 0),(.int 0 0),(.int 0 0),(.int 3 0),(.ref 128),(.bool true),(.int 181 0),(.ref 129),.none,(.ref 130),(.ref 131),(.ref 132),(.int 367 0),(.int 103 0),(.str lz1 368)]⟩),⟨[]⟩⟩
noncomputable def f2r (P:Params):Obj:=⟨(.type s7174869446012820540x8),none,(.func (a7g (a9n 9 5) l60 .none (.str l4 241) (.ref 133))),⟨[]⟩⟩
noncomputable def f6e (P:Params):Obj:=⟨(.type s5856160107412720595x4),none,(.fields ⟨[(.str l61 370),(.str l62 371),(.str lz1 372),(.int 108 0),(.int 1 0),(.int 0 0),(.int 0 0),(.int 3 0),(.ref 135),(.bool true),(.int 181 0),(.ref 136),.none,(.ref 137),(.ref 138),(.ref 139),(.int 374 0),(.int 108 0),(.str lz1 375)]⟩),⟨[]⟩⟩
noncomputable def f5c (P:Params):Obj:=⟨(.type s7174869446012820540x8),none,(.func (a7g (a9n 9 6) l62 .none (.str l4 241) (.ref 140))),⟨[]⟩⟩
noncomputable def f3e (P:Params):Obj:=⟨(.type s5856160107412720595x4),none,(.fields ⟨[(.str ⟨⟨[100,111,110,101]⟩⟩ 377),(.str l44 378),(.str lz1 379),(.int 111 0),(.int 1 0),(.int 0 0),(.int 0 0),(.int 7 0),(.ref 142),(.bool true),(.int 181 0),(.ref 143),.none,(.ref 144),(.ref 145),(.ref 146),(.int 388 0),(.int 111 0),(.str lz1 389)]⟩),⟨[]⟩⟩
noncomputable def f4z (P:Params):Obj:=⟨(.type s7174869446012820540x8),none,(.func (a7g (a9n 9 7) l44 .none (.str l4 241) (.ref 147))),⟨[]⟩⟩
noncomputable def f3z (P:Params):Obj:=⟨(.type s5856160107412720595x4),none,(.fields ⟨[(.str l63 391),(.str l45 392),(.str lz1 393),(.int 134 0),(.int 1 0),(.int 0 0),(.int 0 0),(.int 3 0),(.ref 149),(.bool true),(.int 181 0),(.ref 150),.none,(.ref 151),(.ref 152),(.ref 153),(.int 401 0),(.int 134 0),(.str lz1 402)]⟩),⟨[]⟩⟩
noncomputable def f6d (P:Params):Obj:=⟨(.type s7174869446012820540x8),none,(.func (a7g (a9n 9 8) l45 .none (.str l4 241) (.ref 154))),⟨[]⟩⟩
noncomputable def f5f (P:Params):Obj:=⟨(.type s5856160107412720595x4),none,(.fields ⟨[(.str l64 404),(.str l65 405),(.str lz1 406),(.int 163 0),(.int 1 0),(.int 0 0),(.int 0 0),(.int 3 0),(.ref 156),(.bool true),(.int 181 0),(.ref 157),.none,(.ref 158),(.ref 159),(.ref 160),(.int 408 0),(.int 163 0),(.str lz1 409)]⟩),⟨[]⟩⟩
noncomputable def f3l (P:Params):Obj:=⟨(.type s7174869446012820540x8),none,(.func (a7g (a9n 9 9) l65 .none (.str l4 241) (.ref 161))),⟨[]⟩⟩
noncomputable def f2s (P:Params):Obj:=⟨(.type s14018661285674007319x4),none,(.dict ⟨[ent P l32 311 (.str l4 241),ent P l33 315 (.int 59 314),ent P l10 325 (.ref 101),ent P l55 334 (.ref 108),ent P ⟨⟨[97,100,100]⟩⟩ 346 (.ref 115),ent P l57 352 (.ref 120),ent P l58 362 (.ref 127),ent P l59 369 (.ref 134),ent P l61 376 (.ref 141),ent P ⟨⟨[100,111,110,101]⟩⟩ 390 (.ref 148),ent P l63 403 (.ref 155),ent P l64 410 (.ref 162),ent P l34 415 (.ref 163),ent P l35 417 (.ref 166),ent P l11 419 (.ref 167),ent P l9 420 .none]⟩ 4),⟨[]⟩⟩
noncomputable def f3c (P:Params):Obj:=⟨(.type s17162191345867700912x4),none,(.cls (e4c l15 [(.type s2742458400755230247x6)] [(.ref 165),(.type s2742458400755230247x6)] 164 l15 true [])),⟨[none,none,(some (.str l15 304)),(some (.str l15 312)),(some (.builtin s11443829558043349243x14)),(some (.bool true))]⟩⟩
noncomputable def f3w (P:Params):Obj:=⟨(.type s14755015743595814543x17),none,(.fields ⟨[(.str l35 416),(.ref 165),(.builtin s6511155373996960695x17),(.builtin s12411053484034534018x21)]⟩),⟨[]⟩⟩
noncomputable def f6a (P:Params):Obj:=⟨(.type s14755015743595814543x17),none,(.fields ⟨[(.str l11 418),(.ref 165),(.builtin s10220274742760427390x26),.none]⟩),⟨[]⟩⟩
noncomputable def f4c (P:Params):Obj:=⟨(.type s5856160107412720595x4),none,(.fields ⟨[(.str l29 425),(.str l29 426),(.str lz1 427),(.int 166 0),(.int 2 0),(.int 0 0),(.int 0 0),(.int 3 0),(.ref 170),(.bool true),(.int 181 0),(.ref 171),.none,(.ref 172),(.ref 173),(.ref 174),(.int 430 0),(.int 166 0),(.str lz1 431)]⟩),⟨[]⟩⟩
noncomputable def f5a (P:Params):Obj:=⟨(.type s7174869446012820540x8),none,(.func (a7g (top 11) l29 .none (.str l37 423) (.ref 175))),⟨[]⟩⟩
noncomputable def f4y (P:Params):Obj:=⟨(.type s5856160107412720595x4),none,(.fields ⟨[(.str l30 433),(.str l30 434),(.str lz1 435),(.int 169 0),(.int 1 0),(.int 0 0),(.int 0 0),(.int 3 0),(.ref 177),(.bool true),(.int 181 0),(.ref 178),.none,(.ref 179),(.ref 180),(.ref 181),(.int 439 0),(.int 169 0),(.str lz1 440)]⟩),⟨[]⟩⟩
noncomputable def f6g (P:Params):Obj:=⟨(.type s7174869446012820540x8),none,(.func (a7g (top 12) l30 .none (.str l37 423) (.ref 182))),⟨[]⟩⟩
noncomputable def f5t (P:Params):Obj:=⟨(.type s5856160107412720595x4),none,(.fields ⟨[(.str l16 442),(.str l16 443),(.str lz1 444),(.int 177 0),(.int 3 0),(.int 0 0),(.int 0 0),(.int 3 0),(.ref 184),(.bool true),(.int 181 0),(.ref 185),.none,(.ref 186),(.ref 187),(.ref 188),(.int 451 0),(.int 177 0),(.str lz1 452)]⟩),⟨[]⟩⟩
noncomputable def f6c (P:Params):Obj:=⟨(.type s7174869446012820540x8),none,(.func (a7g (top 13) l16 .none (.str l37 423) (.ref 189))),⟨[]⟩⟩
noncomputable def f4d (P:Params):Obj:=⟨(.type s5856160107412720595x4),none,(.fields ⟨[(.str l17 454),(.str l17 455),(.str lz1 456),(.int 188 0),(.int 2 0),(.int 0 0),(.int 0 0),(.int 3 0),(.ref 191),(.bool true),(.int 181 0),(.ref 192),.none,(.ref 193),(.ref 194),(.ref 195),(.int 464 0),(.int 188 0),(.str lz1 465)]⟩),⟨[]⟩⟩
noncomputable def f5k (P:Params):Obj:=⟨(.type s7174869446012820540x8),none,(.func (a7g (top 14) l17 .none (.str l37 423) (.ref 196))),⟨[]⟩⟩
noncomputable def f5e (P:Params):Obj:=⟨(.type s5856160107412720595x4),none,(.fields ⟨[(.str l18 469),(.str l18 470),(.str lz1 471),(.int 203 0),(.int 2 0),(.int 0 0),(.int 0 0),(.int 3 0),(.ref 198),(.bool true),(.int 181 0),(.ref 199),.none,(.ref 200),(.ref 201),(.ref 202),(.int 478 0),(.int 203 0),(.str lz1 479)]⟩),⟨[]⟩⟩
noncomputable def f2f (P:Params):Obj:=⟨(.type s7174869446012820540x8),none,(.func (a7g (top 16) l18 .none (.str l6 467) (.ref 203))),⟨[]⟩⟩
noncomputable def f5q (P:Params):Obj:=⟨(.type s5856160107412720595x4),none,(.fields ⟨[(.str l31 481),(.str l31 482),(.str lz1 483),(.int 210 0),(.int 2 0),(.int 0 0),(.int 0 0),(.int 3 0),(.ref 205),(.bool true),(.int 181 0),(.ref 206),.none,(.ref 207),(.ref 208),(.ref 209),(.int 487 0),(.int 210 0),(.str lz1 488)]⟩),⟨[]⟩⟩
noncomputable def f3o (P:Params):Obj:=⟨(.type s7174869446012820540x8),none,(.func (a7g (top 17) l31 .none (.str l6 467) (.ref 210))),⟨[]⟩⟩
noncomputable def f4l (P:Params):Obj:=⟨(.type s5856160107412720595x4),none,(.fields ⟨[(.str l19 490),(.str l19 491),(.str lz1 492),(.int 214 0),(.int 2 0),(.int 0 0),(.int 0 0),(.int 3 0),(.ref 212),(.bool true),(.int 181 0),(.ref 213),.none,.none,.none,(.ref 214),(.int 493 0),(.int 214 0),(.str lz1 494)]⟩),⟨[]⟩⟩
noncomputable def f5r (P:Params):Obj:=⟨(.type s7174869446012820540x8),none,(.func (a7g (top 18) l19 .none (.str l6 467) (.ref 215))),⟨[]⟩⟩
noncomputable def f3f (P:Params):Obj:=⟨(.type s5856160107412720595x4),none,(.fields ⟨[(.str l20 496),(.str l20 497),(.str lz1 498),(.int 216 0),(.int 1 0),(.int 0 0),(.int 0 0),(.int 3 0),(.ref 217),(.bool true),(.int 181 0),(.ref 218),.none,(.ref 219),(.ref 220),(.ref 221),(.int 505 0),(.int 216 0),(.str lz1 506)]⟩),⟨[]⟩⟩
noncomputable def f2k (P:Params):Obj:=⟨(.type s7174869446012820540x8),none,(.func (a7g (top 19) l20 .none (.str l6 467) (.ref 222))),⟨[]⟩⟩
noncomputable def f4o (P:Params):Obj:=⟨(.type s5856160107412720595x4),none,(.fields ⟨[(.str l21 508),(.str l21 509),(.str lz1 510),(.int 225 0),(.int 1 0),(.int 0 0),(.int 0 0),(.int 3 0),(.ref 224),(.bool true),(.int 181 0),(.ref 225),.none,.none,.none,(.ref 226),(.int 511 0),(.int 225 0),(.str lz1 512)]⟩),⟨[]⟩⟩
noncomputable def f4v (P:Params):Obj:=⟨(.type s7174869446012820540x8),none,(.func (a7g (top 20) l21 .none (.str l6 467) (.ref 227))),⟨[]⟩⟩
noncomputable def f3u (P:Params):Obj:=⟨(.type s5856160107412720595x4),none,(.fields ⟨[(.str l22 514),(.str l22 515),(.str lz1 516),(.int 237 0),(.int 2 0),(.int 0 0),(.int 0 0),(.int 3 0),(.ref 229),(.bool true),(.int 181 0),(.ref 230),.none,.none,.none,(.ref 231),(.int 517 0),(.int 237 0),(.str lz1 518)]⟩),⟨[]⟩⟩
noncomputable def f3b (P:Params):Obj:=⟨(.type s7174869446012820540x8),none,(.func (a7g (top 21) l22 .none (.str l6 467) (.ref 232))),⟨[]⟩⟩
noncomputable def f3m (P:Params):Obj:=⟨(.type s5856160107412720595x4),none,(.fields ⟨[(.str l23 520),(.str l23 521),(.str lz1 522),(.int 243 0),(.int 3 0),(.int 0 0),(.int 0 0),(.int 3 0),(.ref 234),(.bool true),(.int 181 0),(.ref 235),.none,(.ref 236),(.ref 237),(.ref 238),(.int 533 0),(.int 243 0),(.str lz1 534)]⟩),⟨[]⟩⟩
noncomputable def f2g (P:Params):Obj:=⟨(.type s7174869446012820540x8),none,(.func (a7g (top 22) l23 .none (.str l6 467) (.ref 239))),⟨[]⟩⟩
noncomputable def f5l (P:Params):Obj:=⟨(.type s5856160107412720595x4),none,(.fields ⟨[(.str l24 536),(.str l24 537),(.str lz1 538),(.int 254 0),(.int 2 0),(.int 0 0),(.int 0 0),(.int 3 0),(.ref 241),(.bool true),(.int 181 0),(.ref 242),.none,(.ref 243),(.ref 244),(.ref 245),(.int 548 0),(.int 254 0),(.str lz1 549)]⟩),⟨[]⟩⟩
noncomputable def f1x (P:Params):Obj:=⟨(.type s7174869446012820540x8),none,(.func (a7g (top 23) l24 .none (.str l6 467) (.ref 246))),⟨[]⟩⟩
noncomputable def f2y (P:Params):Obj:=⟨(.type s5856160107412720595x4),none,(.fields ⟨[(.str l25 551),(.str l25 552),(.str lz1 553),(.int 265 0),(.int 1 0),(.int 0 0),(.int 0 0),(.int 3 0),(.ref 248),(.bool true),(.int 181 0),(.ref 249),.none,.none,.none,(.ref 250),(.int 554 0),(.int 265 0),(.str lz1 555)]⟩),⟨[]⟩⟩
noncomputable def f5d (P:Params):Obj:=⟨(.type s7174869446012820540x8),none,(.func (a7g (top 24) l25 .none (.str l6 467) (.ref 251))),⟨[]⟩⟩
noncomputable def KL (P:Params):List (Nat×Obj):=[(0,k0 P),(1,k1 P),(2,k2 P),(3,k3 P),(4,k4 P),(5,k5 P),(20,k20 P),(21,k21 P),(27,k27 P),(28,k28 P),(41,k41 P),(42,k42 P),(44,k44 P),(45,k45 P),(46,k46 P),(47,k47 P),(63,k63 P),(64,k64 P),(67,k67 P),(68,k68 P),(69,k69 P),(70,k70 P),(71,k71 P),(82,k82 P),(83,k83 P),(84,k84 P),(94,k94 P),(100,f3q P),(101,f4k P),(107,f4b P),(108,f5w P),(114,f5j P),(115,f6h P),(119,f2j P),(120,f1z P),(126,f4f P),(127,f2q P),(133,f2d P),(134,f2r P),(140,f6e P),(141,f5c P),(147,f3e P),(148,f4z P),(154,f3z P),(155,f6d P),(161,f5f P),(162,f3l P),(164,f2s P),(165,f3c P),(166,f3w P),(167,f6a P),(175,f4c P),(176,f5a P),(182,f4y P),(183,f6g P),(189,f5t P),(190,f6c P),(196,f4d P),(197,f5k P),(203,f5e P),(204,f2f P),(210,f5q P),(211,f3o P),(215,f4l P),(216,f5r P),(222,f3f P),(223,f2k P),(227,f4o P),(228,f4v P),(232,f3u P),(233,f3b P),(239,f3m P),(240,f2g P),(246,f5l P),(247,f1x P),(251,f2y P),(252,f5d P)]
noncomputable def klook:List (Nat×Obj)→Nat→Option Obj
 | [],_=>none
 | q::l,a=>match Nat.beq q.1 a with
  | true=>some q.2
  | false=>klook l a
noncomputable def KK (P:Params) (a:Addr):Option Obj:=klook (KL P) a
noncomputable abbrev a8a (w:World) (hnd:Option Value) (b:Bool) (id:String) (p:PFn):Prop:=e3o w (KK w.params) hnd b id p
noncomputable abbrev a0i (w:World) (id:String) (p:PFn):Prop:=a8a w none false id p
noncomputable abbrev b2f (w:World) (id:String) (p:PFn):Prop:=a8a w none true id p
noncomputable def a3q:Value→Addr | .ref a=>a | _=>0
noncomputable def a2m:Value→Int | .int i _=>i | _=>0
noncomputable def a7e:Value→Tok | .int _ t=>t | .str _ t=>t | _=>0
noncomputable def a4e:Value→Str | .str s _=>s | _=>⟨⟨[]⟩⟩
noncomputable def b7q:Value→Option (Int×Tok) | .int i t=>some (i,t) | _=>none
noncomputable def isK (k:Nat) (v:Value):Bool:=match k with
 | 0=>true
 | 1=>match v with | .ref _=>true | _=>false
 | 2=>match v with | .int _ _=>true | _=>false
 | 3=>match v with | .str _ _=>true | _=>false
 | 4=>match v with | .int _ _=>true | .none=>true | _=>false
 | 5=>match v with | .int _ t=>Nat.beq t 0 | _=>false
 | _=>match v with | .none=>true | _=>false
noncomputable def nmV (k:Nat) (v:Value):Value:=match k with
 | 0=>v
 | 1=>.ref (a3q v)
 | 2=>.int (a2m v) (a7e v)
 | 3=>.str (a4e v) (a7e v)
 | 4=>partValue (b7q v)
 | 5=>.int (a2m v) 0
 | _=>.none
theorem e0i {k:Nat} {v:Value} (h:isK k v=true):v=nmV k v:=by
 match k with
 | 0=>rfl
 | 1 | 2 | 3 | 4=>cases v <;> first | rfl | cases h
 | 5=>cases v <;> first | (cases h;done) | (rename_i i t;rw [show t=0 from Nat.eq_of_beq_eq_true h];rfl)
 | _ + 6=>cases v <;> first | rfl | cases h
noncomputable def vsh:List Nat→List Value→Bool
 | [],vs=>match vs with | []=>true | _::_=>false
 | k::ks,vs=>match vs with | []=>false | v::vs=>isK k v && vsh ks vs
noncomputable def vmk:List Nat→List Value→List Value
 | [],_=>[]
 | k::ks,vs=>nmV k (vs.headD .none)::vmk ks vs.tail
theorem a2o {a b:Bool} (h:(a && b)=true):a=true∧b=true:=by cases a <;> first | exact ⟨rfl,h⟩ | cases h
theorem c3j:∀{ks:List Nat} {vs:List Value},vsh ks vs=true→vs=vmk ks vs
 | [],[],_=>rfl
 | [],_::_,h=>by cases h
 | _::_,[],h=>by cases h
 | k::ks,v::vs,h=>by
  obtain ⟨h1,h2⟩:=a2o h
  show v::vs=nmV k v::vmk ks vs
  rw [←e0i h1,←c3j h2]
noncomputable def ash (ks:List Nat) (args:Args):Bool:=vsh ks args.pos && args.kw.isEmpty
noncomputable def lg:List Value→Nat→Value
 | l,0=>l.headD .none
 | l,n + 1=>lg l.tail n
noncomputable def av (args:Args) (n:Nat):Value:=lg args.pos n
theorem a3o {ks:List Nat} {args:Args} (h:ash ks args=true):args=⟨vmk ks args.pos,[]⟩:=by
 obtain ⟨h1,h2⟩:=a2o h
 cases args with
 | mk p k=>rw [show k=[] from List.isEmpty_iff.mp h2,←c3j h1]
noncomputable def e7v (id:String):Value→Bool | .type T=>Nat.beq (PySem.W.S.codeS T) (PySem.W.S.codeS id) | _=>false
noncomputable def isD (k:Nat) (d:Data):Bool:=match k with
 | 0=>match d with | .seq _ _=>true | _=>false
 | 1=>match d with | .dict _ _=>true | _=>false
 | _=>match d with | .fields _=>true | _=>false
noncomputable def sqD:Data→Array Value | .seq xs _=>xs | _=> #[]
noncomputable def epD:Data→Nat | .seq _ n=>n | .dict _ n=>n | _=>0
noncomputable def deD:Data→Array DictEntry | .dict es _=>es | _=> #[]
noncomputable def fdD:Data→List Value | .fields vs=>vs.toList | _=>[]
noncomputable def nmD (k:Nat) (d:Data):Data:=match k with
 | 0=>.seq (sqD d) (epD d)
 | 1=>.dict (deD d) (epD d)
 | _=>.fields ⟨fdD d⟩
noncomputable def isO (id:String) (k:Nat) (o:Obj):Bool:=(e7v id o.cls && isD k o.data) && (o.dict.isNone && o.slots.toList.isEmpty)
theorem b2g {T id:String} {n:Nat} (h:Nat.beq (PySem.W.S.codeS T) n=true) (e:PySem.code id=n):T=id:=
 PySem.code_inj _ _ (by rw [PySem.W.S.code_S,e];exact Nat.eq_of_beq_eq_true h)
theorem d7a {k:Nat} {d:Data} (h:isD k d=true):d=nmD k d:=by
 match k with
 | 0 | 1=>cases d <;> first | rfl | cases h
 | _ + 2=>cases d <;> first | rfl | cases h
theorem a6j {id:String} {k:Nat} {o:Obj} (h:isO id k o=true):o=⟨.type id,none,nmD k o.data,⟨[]⟩⟩:=by
 obtain ⟨h1,h2⟩:=a2o h
 obtain ⟨h3,h4⟩:=a2o h1
 obtain ⟨h5,h6⟩:=a2o h2
 obtain ⟨c,d,dt,⟨sl⟩⟩:=o
 cases c <;> first
  | (cases h3;done)
  | (cases d with
    | some _=>cases h5
    | none=>
     rw [show sl=[] from List.isEmpty_iff.mp h6,b2g h3 (PySem.W.S.code_S _)]
     exact congrArg (fun x:Data=>(⟨.type id,none,x,⟨[]⟩⟩:Obj)) (d7a h4))
noncomputable def isF (id:String) (ks:List Nat) (o:Obj):Bool:=isO id 2 o && vsh ks (fdD o.data)
theorem c3a {id:String} {ks:List Nat} {o:Obj} (h:isF id ks o=true):o=⟨.type id,none,.fields ⟨vmk ks (fdD o.data)⟩,⟨[]⟩⟩:=by
 obtain ⟨h1,h2⟩:=a2o h
 rw [←c3j h2];exact a6j h1
noncomputable def c5g (kd:Nat) (v:Value):Value×List Prop:=match kd with
 | 0=>(v,[])
 | 1=>(.ref (a3q v),[v= .ref (a3q v)])
 | 2=>(.int (a2m v) (a7e v),[v= .int (a2m v) (a7e v)])
 | _=>(.str (a4e v) (a7e v),[v= .str (a4e v) (a7e v)])
noncomputable def c0d (q:Option (Addr×Obj)) (v:Value):Value×List Prop:=match q with
 | some q=>(.ref q.1,[v= .ref q.1])
 | none=>(v,[])
noncomputable def b3e (L:Led) (kd:Nat) (v:Value):Value×List Prop:=match kd with
 | 0=>c5g 0 v
 | 1=>c5g 1 v
 | 2=>c5g 2 v
 | 3=>c5g 3 v
 | m + 4=>c0d L[m]? v
theorem c3n {L:Led} {kd:Nat} {v:Value} (h:∀p∈(b3e L kd v).2,p):(b3e L kd v).1=v:=by
 match kd with
 | 0=>rfl
 | 1=>exact (h (v= .ref (a3q v)) (.head _)).symm
 | 2=>exact (h (v= .int (a2m v) (a7e v)) (.head _)).symm
 | 3=>exact (h (v= .str (a4e v) (a7e v)) (.head _)).symm
 | m + 4=>
  have key:∀q:Option (Addr×Obj),(∀p∈(c0d q v).2,p)→(c0d q v).1=v:=fun q h=>by
   cases q with
   | none=>rfl
   | some q=>exact (h (v= .ref q.1) (.head _)).symm
  exact key _ h
noncomputable def nth (xs:Array Value) (k:Int):Value:=xs.toList.getD k.toNat .none
theorem c3c {xs:Array Value} {k:Int} (h0:0≤k) (h1:k < xs.size):xs[k.toNat]?=some (nth xs k):=by
 unfold nth
 rw [List.getD_eq_getElem?_getD,Array.getElem?_toList,Array.getElem?_eq_getElem (by omega)]
 rfl
noncomputable abbrev a0a (xs:Array Value) (n:Nat):Obj:={ cls:=.type "list",dict:=none,data:=.seq xs n,slots:= #[] }
noncomputable abbrev b2q (xs:Array Value) (n:Nat):Obj:={ cls:=.type "tuple",dict:=none,data:=.seq xs n,slots:= #[] }
noncomputable abbrev a0z (v:Value) (i:Int) (t:Tok):Obj:={ cls:=.type "list_iterator",dict:=none,data:=.fields #[v,.int i t],slots:= #[] }
noncomputable abbrev c6t (v:Value) (i:Int) (t:Tok):Obj:={ cls:=.type "tuple_iterator",dict:=none,data:=.fields #[v,.int i t],slots:= #[] }
noncomputable abbrev a8d (es:Array DictEntry) (n:Nat):Obj:={ cls:=.type "dict",dict:=none,data:=.dict es n,slots:= #[] }
noncomputable abbrev b6d (a:Addr) (i:Int) (sz ep:Int):Obj:=⟨.type "dict_keyiterator",none,.fields ⟨[.ref a,.int i 0,.int sz 0,.int ep 0]⟩,⟨[]⟩⟩
noncomputable abbrev f4h (a:Addr):Obj:=⟨.type "dict_values",none,.fields ⟨[.ref a]⟩,⟨[]⟩⟩
noncomputable abbrev f1l (a:Addr) (i:Int) (sz ep:Int):Obj:=⟨.type "dict_valueiterator",none,.fields ⟨[.ref a,.int i 0,.int sz 0,.int ep 0]⟩,⟨[]⟩⟩
noncomputable abbrev slo (l u s:Value):Obj:={ cls:=.type "slice",dict:=none,data:=.fields ⟨[l,u,s]⟩,slots:= #[] }
noncomputable def a7t (o:Obj) (vs:List Value):Obj:=⟨o.cls,o.dict,.fields ⟨vs⟩,o.slots⟩
noncomputable def a9u:Obj:={ cls:=.type "tuple",data:=.seq ⟨[]⟩ }
noncomputable def a5r (t:Addr):Obj:={ cls:=.type "StopIteration",data:=.fields ⟨[.ref t,.none,.none,.none,.bool false,.none]⟩ }
inductive PA where
 | val (v:Value)
 | tok (v:Tok→Value)
 | new (o:Obj)
 | stop
structure PK where
 g:Bool
 k:PA
 o:Obj
 hs:List Nat
 ob:List Prop
noncomputable abbrev a4y:=List Nat→Args→Led→Obj→Obj→PK
noncomputable def PA.res (k:PA) (L:Led) (hs:List Nat) (es:List (Addr×Addr)) (ob:List Prop) (t:Tok) (f:Nat→Addr):d6h:=match k with
 | .val v=>⟨.ok (.ret v),L,0,hs,es,ob⟩
 | .tok v=>⟨.ok (.ret (v t)),L,0,hs,es,ob⟩
 | .new o=>⟨.ok (.ret (.ref (f 0))),L++[(f 0,o)],1,hs,es,ob⟩
 | .stop=>⟨.error (.ref (f 1)),L++[(f 0,a9u)]++[(f 1,a5r (f 0))],2,hs,es,ob⟩
noncomputable def PK.out (z:PK) (L:Led) (es:List (Addr×Addr)) (t:Tok) (f:Nat→Addr):Option d6h:=match z.g with
 | true=>some (z.k.res L z.hs es z.ob t f)
 | false=>none
noncomputable def p0 (c:List Nat→Args→PK):PFn:=fun hs args L t f=>(c hs args).out L [] t f
noncomputable def p1 (ix:Nat) (c:a4y):PFn:=fun hs args L t f=>match hs with
 | []=>none
 | h::hs=>match L[h]? with
  | none=>none
  | some q=>(c hs args L q.2 q.2).out (L.set h (q.1,(c hs args L q.2 q.2).o)) [(a3q (av args ix),q.1)] t f
noncomputable def p2 (ad:Args→Obj→Addr) (c:a4y):PFn:=fun hs args L t f=>match hs with
 | []=>none
 | h::hs=>match hs with
  | []=>none
  | h2::hs=>match L[h]? with
   | none=>none
   | some q=>match L[h2]? with
    | none=>none
    | some q2=>(c hs args L q.2 q2.2).out (L.set h (q.1,(c hs args L q.2 q2.2).o)) [(a3q (av args 0),q.1),(ad args q.2,q2.1)] t f
noncomputable def pOr (g:Args→Bool) (p q:PFn):PFn:=fun hs args L t f=>match g args with
 | true=>p hs args L t f
 | false=>q hs args L t f
theorem d4h {w hnd b id g p q} (hp:a8a w hnd b id p) (hq:a8a w hnd b id q):a8a w hnd b id (pOr g p q):=by
 intro hs args L s A t f q₀ hA h
 unfold c4r
 unfold pOr at *
 cases e:g args with
 | true=>rw [e] at h;exact hp hs args L s A t f q₀ hA h
 | false=>rw [e] at h;exact hq hs args L s A t f q₀ hA h
noncomputable def PA.rv (k:PA) (t:Tok) (v:Value):Prop:=match k with
 | .val u=>v=u
 | .tok u=>v=u t
 | _=>False
structure f0r (k:PA) (o o':Obj) (s:Shared) (a:Addr) (R:Result→Shared→Prop):Prop where
 keep:∀(v:Value) (t n:Nat),1≤t→k.rv t v→o'=o→R (.ok (.ret v)) { s with toks:=s.toks + n }
 upd:∀(v:Value) (t n:Nat) (g:Obj→Obj),1≤t→k.rv t v→g o=o'→o'.isFreed=false→R (.ok (.ret v)) { s with heap:=s.heap.update a g,toks:=s.toks + n }
 new:∀x,k= .new x→o'=o→x.isFreed=false→R (.ok (.ret (.ref s.heap.objs.size))) { s with heap:=s.heap.push x }
 made:∀x y g,k= .new x→o'=o→y.isFreed=false→x.isFreed=false→g y=x→R (.ok (.ret (.ref s.heap.objs.size))) { s with heap:=(s.heap.push y).update s.heap.objs.size g }
 stop:∀g,k= .stop→g o=o'→o'.isFreed=false→R (.error (.ref (s.heap.objs.size + 1))) { s with heap:=((s.heap.update a g).push a9u).push (a5r s.heap.objs.size) }
section
variable {w:World} {hnd:Option Value} {b:Bool} {id:String} {L L':Led} {s:Shared} {q:Addr×Obj}
theorem b4w {KK:Addr→Option Obj} (S:Sat KK L s) {h:Nat} (e:L[h]?=some q) {f:Obj→Obj} {o':Obj} (ho:f q.2=o') (hf:o'.isFreed=false):
  Sat KK (L.set h (q.1,o')) { s with heap:=s.heap.update q.1 f }:=by
 subst ho;exact S.update e hf
structure Nx (K:Addr→Option Obj) (L L':Led) (s s':Shared):Prop where
 S:Sat K L' s'
 E:Ext L s s'
 G:a0j L L' s
theorem Nx.trans {K:Addr→Option Obj} {L₁ L₂:Led} {s₁ s₂:Shared} (a:Nx K L L₁ s s₁) (b:Nx K L₁ L₂ s₁ s₂):Nx K L L₂ s s₂:=⟨b.S,a.E.trans a.G b.E,a.G.trans a.E b.G⟩
theorem Nx.alloc {K:Addr→Option Obj} (S:Sat K L s) {o:Obj} (hf:o.isFreed=false):Nx K L (L++[(s.heap.objs.size,o)]) s { s with heap:=s.heap.push o }:=⟨S.alloc hf,Ext.alloc o,a0j.alloc o⟩
theorem Nx.upd {K:Addr→Option Obj} (S:Sat K L s) {h:Nat} (e:L[h]?=some q) {f:Obj→Obj} {o':Obj} (ho:f q.2=o') (hf:o'.isFreed=false):Nx K L (L.set h (q.1,o')) s { s with heap:=s.heap.update q.1 f }:=⟨b4w S e ho hf,Ext.update e f,a0j.set e o'⟩
theorem Nx.fresh {K:Addr→Option Obj} (S:Sat K L s) (n:Nat):Nx K L L s { s with toks:=s.toks + n }:=⟨S.fresh _ (Nat.le_add_right _ _),Ext.fresh _ (Nat.le_add_right _ _),a0j.refl _ _⟩
theorem a9l {L:Led} {h:Nat} {q:Addr×Obj} (e:L[h]?=some q):L.set h (q.1,q.2)=L:=by
 apply List.ext_getElem?
 intro i
 rw [List.getElem?_set]
 split
 ·rename_i hi;subst hi;rw [e];split
  ·rfl
  ·rename_i hl;exact absurd (List.getElem?_eq_some_iff.mp e).1 hl
 ·rfl
theorem pp {p:PFn} {hs args es ob} {k:PA} {hs':List Nat} {t:Nat} {f:Nat→Addr} {r:Result} {s':Shared} (re:∀t f,p hs args L t f=some (k.res L' hs' es ob t f)) (ht:1≤t) (ha:∀f',a2b f' f (k.res L' hs' es ob t f).nj→k.res L' hs' es ob t f'=k.res L' hs' es ob t f)
  (hr:r=(k.res L' hs' es ob t f).r) (N:Nx (KK w.params) L (k.res L' hs' es ob t f).L s s'):c4r (KK w.params) p hs args L s r s':=
 Exists.intro t ⟨f,_,ht,fun f' h=>by rw [re,ha f' h],hr,N.S,N.E,N.G⟩
theorem c9l {p:PFn} {hs args es ob} {k:PA} {hs':List Nat} {h:Nat} {o':Obj} (S:Sat (KK w.params) L s) (hp:L[h]?=some q) (re:∀t f,p hs args L t f=some (k.res (L.set h (q.1,o')) hs' es ob t f)):f0r k q.2 o' s q.1 (c4r (KK w.params) p hs args L s) where
 keep v t n ht hk e:=by
  rw [e,a9l hp] at re
  cases k with
  | val u=>cases hk;exact pp (f:=fun _=>0) re ht (fun _ _=>rfl) rfl (.fresh S n)
  | tok u=>cases hk;exact pp (f:=fun _=>0) re ht (fun _ _=>rfl) rfl (.fresh S n)
  | new _=>cases hk
  | stop=>cases hk
 upd v t n g ht hk e hf:=by
  have N:=Nx.upd S hp e hf
  have N2:=N.trans (.fresh N.S n)
  cases k with
  | val u=>cases hk;exact pp (f:=fun _=>0) re ht (fun _ _=>rfl) rfl N2
  | tok u=>cases hk;exact pp (f:=fun _=>0) re ht (fun _ _=>rfl) rfl N2
  | new _=>cases hk
  | stop=>cases hk
 new x hk e hf:=by
  subst hk
  rw [e,a9l hp] at re
  exact pp (f:=fun _=>s.heap.objs.size) re (Nat.le_refl 1) (fun f' h=>by have:f' 0=_:=h 0 Nat.one_pos;simp only [PA.res,this]) rfl (.alloc S hf)
 made x y g hk e hy hx hg:=by
  subst hk
  rw [e,a9l hp] at re
  have N:=Nx.alloc S hy
  have hrow:(L++[(s.heap.objs.size,y)])[L.length]?=some (s.heap.objs.size,y):=by simp
  have N2:=N.trans (.upd N.S hrow hg hx)
  have hset:(L++[(s.heap.objs.size,y)]).set L.length (s.heap.objs.size,x)=L++[(s.heap.objs.size,x)]:=by simp
  rw [hset] at N2
  exact pp (f:=fun _=>s.heap.objs.size) re (Nat.le_refl 1) (fun f' h=>by have:f' 0=_:=h 0 Nat.one_pos;simp only [PA.res,this]) rfl N2
 stop g hk e hf:=by
  subst hk
  have N1:=Nx.upd S hp e hf
  have N2:=N1.trans (.alloc N1.S (o:=a9u) rfl)
  have N3:=N2.trans (.alloc N2.S (o:=a5r s.heap.objs.size) rfl)
  have sz:(s.heap.update q.1 g).objs.size=s.heap.objs.size:=by cases s.heap;simp [Heap.update]
  have sz2:((s.heap.update q.1 g).push a9u).objs.size=s.heap.objs.size + 1:=by rw [Heap.size_push,sz]
  simp only [sz,sz2] at N3
  exact pp (f:=fun x=>s.heap.objs.size + x) re (Nat.le_refl 1) (fun f' h=>by
   have h0:f' 0=_:=h 0 (Nat.lt_succ_of_lt Nat.one_pos)
   have h1:f' 1=_:=h 1 (Nat.lt_succ_self 1)
   simp only [PA.res,h0,h1]) rfl N3
noncomputable def OkC (w:World) (hnd:Option Value) (b:Bool) (id:String) (ix:Nat) (ad:Args→Obj→Addr) (c:a4y):Prop:=
 ∀hs args L o o2 s A R,A.handled=hnd→(c hs args L o o2).g=true→(∀x∈(c hs args L o o2).ob,x)→s.heap.get? (a3q (av args ix))=some o→s.heap.get? (ad args o)=some o2→a3q (av args ix)≠1→1≤s.toks→
  f0r (c hs args L o o2).k o (c hs args L o o2).o s (a3q (av args ix)) R→codeAny (model prog w) A (cdB b id args) R s
noncomputable def cIf (A B:a4y):a4y:=fun hs args L o o2=>match hs.headD 0 with
 | 0=>A hs args L o o2
 | _ + 1=>B hs args L o o2
theorem b0q {ix ad} {c d:a4y} (hc:OkC w hnd b id ix ad c) (hd:OkC w hnd b id ix ad d):OkC w hnd b id ix ad (cIf c d):=fun hs args L o o2 s A R h1 h2 h3 h4 h5 h6 h7 h8=>by
 have e:cIf c d hs args L o o2=c hs args L o o2∨cIf c d hs args L o o2=d hs args L o o2:=by
  unfold cIf
  cases hs.headD 0 with
  | zero=>exact .inl rfl
  | succ n=>exact .inr rfl
 rcases e with e | e <;> rw [e] at h2 h3 h8
 ·exact hc hs args L o o2 s A R h1 h2 h3 h4 h5 h6 h7 h8
 ·exact hd hs args L o o2 s A R h1 h2 h3 h4 h5 h6 h7 h8
noncomputable abbrev adN (ix:Nat):Args→Obj→Addr:=fun a _=>a3q (av a ix)
theorem PK.out_some {z:PK} {L:Led} {es t f q₀} (h:z.out L es t f=some q₀):z.g=true∧q₀=z.k.res L z.hs es z.ob t f:=by
 unfold PK.out at h
 cases e:z.g with
 | true=>rw [e] at h;exact ⟨rfl,(Option.some.inj h).symm⟩
 | false=>rw [e] at h;cases h
theorem PA.ob (k:PA) {L hs es ob t f}:(k.res L hs es ob t f).ob=ob:=by cases k <;> rfl
theorem PA.es (k:PA) {L hs es ob t f}:(k.res L hs es ob t f).es=es:=by cases k <;> rfl
theorem c9j {K L s} (S:Sat K L s) (hK:∃o,K 1=some o) {h:Nat} (hp:L[h]?=some q):q.1≠1:=fun e=>by
 have:=S.nk q (List.mem_of_getElem? hp)
 obtain ⟨o,ho⟩:=hK
 rw [e,ho] at this;cases this
theorem a5t {ix c} (H:OkC w hnd b id ix (adN ix) c):a8a w hnd b id (p1 ix c):=by
 intro hs args L s A t f q₀ hA hq hes hob S
 cases hs with
 | nil=>cases hq
 | cons h hs=>
  cases hp:L[h]? with
  | none=>simp only [p1,hp] at hq;cases hq
  | some q=>
   simp only [p1,hp] at hq
   obtain ⟨hg,rfl⟩:=PK.out_some hq
   rw [PA.es] at hes
   rw [PA.ob] at hob
   have ea:a3q (av args ix)=q.1:=hes _ (.head _)
   have ho:=S.at hp
   rw [←ea] at ho
   refine H hs args L q.2 q.2 s A _ hA hg hob ho ho (by rw [ea];exact c9j S ⟨_,rfl⟩ hp) S.tok ?_
   rw [ea]
   exact c9l S hp fun t f=>by simp only [p1,hp,PK.out,hg];rw [←ea]
theorem b5s {ad c} (H:OkC w hnd b id 0 ad c):a8a w hnd b id (p2 ad c):=by
 intro hs args L s A t f q₀ hA hq hes hob S
 match hs with
 | []=>cases hq
 | [_]=>cases hq
 | h::h2::hs=>
  cases hp:L[h]? with
  | none=>simp only [p2,hp] at hq;cases hq
  | some q=>
   cases hp2:L[h2]? with
   | none=>simp only [p2,hp,hp2] at hq;cases hq
   | some q2=>
    simp only [p2,hp,hp2] at hq
    obtain ⟨hg,rfl⟩:=PK.out_some hq
    rw [PA.es] at hes
    rw [PA.ob] at hob
    have ea:a3q (av args 0)=q.1:=hes _ (.head _)
    have eb:ad args q.2=q2.1:=hes _ (.tail _ (.head _))
    have ho:=S.at hp
    have ho2:=S.at hp2
    rw [←ea] at ho
    rw [←eb] at ho2
    refine H hs args L q.2 q2.2 s A _ hA hg hob ho ho2 (by rw [ea];exact c9j S ⟨_,rfl⟩ hp) S.tok ?_
    rw [ea]
    exact c9l S hp fun t f=>by simp only [p2,hp,hp2,PK.out,hg];rw [←ea]
noncomputable def Ok0 (w:World) (hnd:Option Value) (b:Bool) (id:String) (c:List Nat→Args→PK):Prop:=
 ∀hs args s A R,A.handled=hnd→(c hs args).g=true→(∀x∈(c hs args).ob,x)→1≤s.toks→(∀v t n,1≤t→(c hs args).k.rv t v→R (.ok (.ret v)) { s with toks:=s.toks + n })→codeAny (model prog w) A (cdB b id args) R s
theorem b8j {c} (H:Ok0 w hnd b id c):a8a w hnd b id (p0 c):=by
 intro hs args L s A t f q₀ hA hq hes hob S
 obtain ⟨hg,rfl⟩:=PK.out_some hq
 rw [PA.ob] at hob
 refine H hs args s A _ hA hg hob S.tok fun v t n ht hk=>?_
 have re:∀t f,p0 c hs args L t f=some ((c hs args).k.res L (c hs args).hs [] (c hs args).ob t f):=fun t f=>by simp only [p0,PK.out,hg]
 revert hk re
 generalize (c hs args).k=k
 intro hk re
 cases k with
 | val u=>cases hk;exact pp (f:=fun _=>0) re ht (fun _ _=>rfl) rfl (.fresh S n)
 | tok u=>cases hk;exact pp (f:=fun _=>0) re ht (fun _ _=>rfl) rfl (.fresh S n)
 | new _=>cases hk
 | stop=>cases hk
noncomputable abbrev BW (w:World) (A:Around) (t:Sem PySem.Fin) (R:Result→Shared→Prop) (s:Shared):Prop:=
 wpAny (model prog w) A.in1 t (fun fin s'=>match fin with | .done f=>R (.ok f) s' | .again c'=>c'.quiet=true∧codeAny (model prog w) A c' R s') (fun e s'=>R (.error e) s') s
theorem a1c {A:Around} {R:Result→Shared→Prop} {T:String} {name:Str} {B:Builtin} {self:Value} {rest:List Value}
  (slot:Slot T name id) (entry:entryFor table id=some B) (hT:s.TypeIs self T) (args:argsOk id ⟨self::rest,[]⟩) (h:BW w A (B ⟨self::rest,[]⟩) R s):codeAny (model prog w) A (cdB false id ⟨self::rest,[]⟩) R s:=
 codeAny_call_builtin slot.plain entry (slot.check _ _ _ _ _ _ _ _ hT args h)
theorem b3b {A:Around} {R:Result→Shared→Prop} {B:Builtin} {args:Args} (hp:plainId id=true) (entry:entryFor table id=some B) (h:BW w A (B args) R s):codeAny (model prog w) A (cdB true id args) R s:=
 codeAny_builtin entry (by rw [Around.under_plainId hp args];exact h)
end
section
variable {w:World} {hnd:Option Value} {b:Bool}
theorem a7d {o:Obj} (h:isO "list" 0 o=true):∃xs n,o=a0a xs n:=⟨_,_,a6j h⟩
theorem e4o {args:Args} (h:ash [1] args=true):∃a,args=⟨[.ref a],[]⟩:=⟨_,a3o h⟩
theorem gRI {args:Args} (h:ash [1,2] args=true):∃a i t,args=⟨[.ref a,.int i t],[]⟩:=⟨_,_,_,a3o h⟩
theorem gII {args:Args} (h:ash [2,2] args=true):∃a t i u,args=⟨[.int a t,.int i u],[]⟩:=⟨_,_,_,_,a3o h⟩
theorem gSS {args:Args} (h:ash [3,3] args=true):∃a t i u,args=⟨[.str a t,.str i u],[]⟩:=⟨_,_,_,_,a3o h⟩
noncomputable def b8d (g:Bool) (P:Prop) (hs:List Nat):PK:=match hs.headD 0 with
 | 0=>⟨g,.val (.bool false),a5r 0,hs.tail,[¬P]⟩
 | _ + 1=>⟨g,.val (.bool true),a5r 0,hs.tail,[P]⟩
theorem b7c {g:Bool} {P:Prop} {hs:List Nat} (hob:∀x∈(b8d g P hs).ob,x) {c:Bool} (hc:c=true↔P):(b8d g P hs).k= .val (.bool c)∧(b8d g P hs).g=g:=by
 unfold b8d at hob ⊢
 cases e:hs.headD 0 with
 | zero=>
  rw [e] at hob
  have:¬P:=hob _ (.head _)
  cases c with
  | true=>exact absurd (hc.mp rfl) this
  | false=>exact ⟨rfl,rfl⟩
 | succ n=>
  rw [e] at hob
  have:P:=hob _ (.head _)
  rw [hc.mpr this];exact ⟨rfl,rfl⟩
noncomputable def c7l (P:Int→Int→Prop):PFn:=p0 fun hs args=>b8d (ash [2,2] args) (P (a2m (av args 0)) (a2m (av args 1))) hs
theorem b1t {P:Int→Int→Prop} {c:Int→Int→Bool} {name:Str} {id:String} {B:Builtin} (slot:Slot "int" name id) (entry:entryFor table id=some B)
  (ha:∀a c,argsOk id ⟨[a,c],[]⟩) (g:∀a t e u,Gives (B ⟨[.int a t,.int e u],[]⟩) (.val (Value.bool (c a e)))) (hc:∀x y,c x y=true↔P x y):a0i w id (c7l P):=
 b8j fun hs args s A R _ hg hob ht H=>by
  obtain ⟨h1,h2⟩:=b7c hob (hc _ _)
  rw [h2] at hg
  rw [h1] at H
  obtain ⟨x,t,y,u,rfl⟩:=gII hg
  exact a1c slot entry (typeIs_int s x t) (ha _ _) ((g x t y u).meets prog w A R s (H _ 1 0 (Nat.le_refl _) rfl))
theorem e5d:a0i w "int.__lt__" (c7l (fun x y=>x < y)):=b1t slot_int_lt entry_int_lt (fun _ _=>args_int_lt _ _) AutoIntG1.int___lt___int_int_0 (fun x y=>by simp)
theorem e8i:a0i w "int.__gt__" (c7l (fun x y=>x > y)):=b1t F.slot_int_gt F.entry_int_gt (fun _ _=>F.args_int_gt_2 _ _) AutoIntG4.int___gt___int_int_0 (fun x y=>by simp)
theorem e7i:a0i w "int.__eq__" (c7l (fun x y=>x=y)):=b1t F.slot_int_eq F.entry_int_eq (fun _ _=>F.args_int_eq_2 _ _) AutoIntG7.int___eq___int_int_0 (fun x y=>by simp)
theorem e6q:a0i w "int.__ne__" (c7l (fun x y=>x≠y)):=b1t F.slot_int_ne F.entry_int_ne (fun _ _=>F.args_int_ne_2 _ _) AutoIntG6.int___ne___int_int_0 (fun x y=>by simp)
noncomputable def c0m (P:Str→Str→Prop):PFn:=p0 fun hs args=>b8d (ash [3,3] args) (P (a4e (av args 0)) (a4e (av args 1))) hs
theorem b7v {P:Str→Str→Prop} {c:Str→Str→Bool} {name:Str} {id:String} {B:Builtin} (slot:Slot "str" name id) (entry:entryFor table id=some B)
  (ha:∀a c,argsOk id ⟨[a,c],[]⟩) (g:∀a t e u,Gives (B ⟨[.str a t,.str e u],[]⟩) (.val (Value.bool (c a e)))) (hc:∀x y,c x y=true↔P x y):a0i w id (c0m P):=
 b8j fun hs args s A R _ hg hob ht H=>by
  obtain ⟨h1,h2⟩:=b7c hob (hc _ _)
  rw [h2] at hg
  rw [h1] at H
  obtain ⟨x,t,y,u,rfl⟩:=gSS hg
  exact a1c slot entry (typeIs_str s x t) (ha _ _) ((g x t y u).meets prog w A R s (H _ 1 0 (Nat.le_refl _) rfl))
theorem b9i {x y:Str}:(x.cps.toList == y.cps.toList)=true↔x=y:=by
 constructor
 ·intro h
  have:=eq_of_beq h
  cases x;cases y
  simp only [Str.mk.injEq]
  exact Array.toList_inj.mp this
 ·rintro rfl;simp
theorem e2r:a0i w "str.__eq__" (c0m fun x y=>x=y):=b7v (c:=fun x y=>x.cps.toList == y.cps.toList) F.slot_str_eq F.entry_str_eq (fun _ _=>F.args_str_eq_2 _ _) (fun a t c u=>gives_str_eq a c t u) (fun x y=>b9i)
theorem d9w:a0i w "str.__ne__" (c0m fun x y=>x≠y):=b7v (c:=fun x y=>x.cps.toList != y.cps.toList) F.slot_str_ne F.entry_str_ne (fun _ _=>F.args_str_ne_2 _ _) (fun a t c u=>gives_str_ne a c t u) (fun x y=>by
 rw [bne_iff_ne,ne_eq,ne_eq,←b9i,beq_iff_eq])
noncomputable def f0p:PFn:=p0 fun hs args=>⟨ash [2,2] args && Nat.beq (Int.toNat (a2m (av args 1))) 1,.tok fun t=>.int (a2m (av args 0) / 2) t,a5r 0,hs,[0≤a2m (av args 0),a2m (av args 1)=1]⟩
theorem d7c:a0i w "int.__rshift__" f0p:=
 b8j fun hs args s A R _ hg hob ht H=>by
  obtain ⟨x,t,y,u,rfl⟩:=gII (a2o hg).1
  have h0:0≤x:=hob _ (.head _)
  have h1:y=1:=hob _ (.tail _ (.head _))
  subst h1
  have fin:∀v,v=x / 2→R (.ok (.ret (.int v s.toks))) { s with toks:=s.toks + 1 }:=fun v e=>H _ s.toks 1 ht (by rw [e];rfl)
  refine a1c PySem.slot_int_rshift PySem.entry_int_rshift (typeIs_int s x t) (PySem.args_int_rshift _ _) ?_
  show wpAny _ _ (if (1:Int)≥(Builtin.Int.intBits x:Int) then _ else _) _ _ s
  by_cases hb:(1:Int)≥(Builtin.Int.intBits x:Int)
  ·rw [if_pos hb]
   exact wpAny_bind (wpAny_rule (wpAny_bind (wpAny_mkInt (wpAny_pure (fin _ (by rw [if_neg (Int.not_lt.mpr h0),half_of_few_bits h0 hb]))))))
  ·rw [if_neg hb]
   exact wpAny_bind (wpAny_mkInt (wpAny_pure (fin _ (fdiv_two x))))
noncomputable def c8j (g:Bool) (L:Led) (hs:List Nat) (o:Obj) (v:Value) (ob:List Prop):PK:=⟨g,.val (b3e L (hs.headD 0) v).1,o,hs.tail,ob++(b3e L (hs.headD 0) v).2⟩
theorem a9g {g L hs o v} {ob:List Prop} (h:∀x∈(c8j g L hs o v ob).ob,x):(b3e L (hs.headD 0) v).1=v:=c3n fun p hp=>h p (List.mem_append_right _ hp)
theorem b4s (l:Addr) (items:Array Value) (n:Nat) (x:Int) (u:Tok) (y:Value) (h0:0≤x) (hfit:x < 2 ^ 63) (hx:items[x.toNat]?=some y):
  Meets (Builtin.«list.__getitem__» ⟨[.ref l,.int x u],[]⟩) (fun _ R s=>s.heap.get? l=some (a0a items n)∧R (.ok (.ret y)) s):=
 .of_wp fun prog w A R s h=>by
  obtain ⟨ho,h⟩:=h
  show wpAny _ _ (Builtin.List.listSubscript? (.int x u) >>=_) _ _ s
  refine wpAny_bind (wpAny_listSubscript_int (fitsIndex_of h0 hfit) ?_)
  clear hfit
  obtain ⟨j,rfl⟩:=Int.eq_ofNat_of_zero_le h0
  have hx':items[j]?=some y:=hx
  show wpAny _ _ ((seqItemAt l j >>=fun r=>pure (r.map (j,·))) >>=_) _ _ s
  refine wpAny_bind (wpAny_bind (wpAny_seqItemAt ho rfl (wpAny_pure ?_)))
  rw [hx']
  first
   | exact wpAny_bind (wpAny_pure (wpAny_pure ⟨y,rfl,h⟩))
   | exact wpAny_pure ⟨y,rfl,h⟩
noncomputable def f0o:a4y:=fun hs args L o _=>c8j (isO "list" 0 o && ash [1,2] args) L hs o (nth (sqD o.data) (a2m (av args 1))) [0≤a2m (av args 1),a2m (av args 1) < (sqD o.data).size,(sqD o.data).size≤1000000]
noncomputable def e4f:PFn:=p1 0 f0o
theorem e7c:OkC w none false "list.__getitem__" 0 (adN 0) f0o:=by
 intro hs args L o o2 s A R _ hg hob ho _ _ _ H
 obtain ⟨h1,h2⟩:=a2o hg
 obtain ⟨xs,n,rfl⟩:=a7d h1
 obtain ⟨a,i,t,rfl⟩:=gRI h2
 have h0:0≤i:=hob _ (.head _)
 have h1:i < xs.size:=hob _ (.tail _ (.head _))
 have h2:xs.size≤1000000:=hob _ (.tail _ (.tail _ (.head _)))
 exact a1c slot_list_getitem entry_list_getitem ⟨_,ho,rfl⟩ (args_list_getitem _ _) (b4s a xs n i t _ h0 (by omega) (by rw [c3c h0 h1];exact congrArg some (a9g hob).symm) prog w A R s ⟨ho,H.keep _ 1 0 (Nat.le_refl _) rfl rfl⟩)
theorem c0w:a0i w "list.__getitem__" e4f:=a5t e7c
theorem b6c (l:Addr) (items:Array Value) (n:Nat) (x:Int) (u:Tok) (v:Value) (h0:0≤x) (hfit:x < 2 ^ 63) (hx:x < items.size):
  Meets (Builtin.«list.__setitem__» ⟨[.ref l,.int x u,v],[]⟩) (fun _ R s=>s.heap.get? l=some (a0a items n)∧R (.ok (.ret .none)) { s with heap:=s.heap.update l (Obj.mapSeq (·.setIfInBounds x.toNat v)) }):=
 .of_wp fun prog w A R s h=>by
  obtain ⟨ho,h⟩:=h
  show wpAny _ _ (Builtin.List.listSubscript? (.int x u) >>=_) _ _ s
  refine wpAny_bind (wpAny_listSubscript_int (fitsIndex_of h0 hfit) ?_)
  clear hfit
  obtain ⟨j,rfl⟩:=Int.eq_ofNat_of_zero_le h0
  have hj:j < items.size:=by omega
  have hx':items[j]?=some items[j]:=Array.getElem?_eq_getElem hj
  show wpAny _ _ ((seqItemAt l j >>=fun r=>pure (r.map (j,·))) >>=_) _ _ s
  refine wpAny_bind (wpAny_bind (wpAny_seqItemAt ho rfl (wpAny_pure ?_)))
  rw [hx']
  show wpAny _ _ (setSeqItemAt l j v >>=_) _ _ s
  refine wpAny_bind (wpAny_setSeqItemAt ho rfl ?_)
  first
   | exact wpAny_bind (wpAny_pure (wpAny_pure ⟨.none,rfl,h⟩))
   | exact wpAny_pure ⟨.none,rfl,h⟩
theorem b5t {xs:Array Value} {n:Nat} {f:Array Value→Array Value} (h:(f xs).size=xs.size):Obj.mapSeq f (a0a xs n)=a0a (f xs) n:=by
 simp [Obj.mapSeq,h]
theorem a5c {xs:Array Value} {n:Nat} {f:Array Value→Array Value} (h:(f xs).size≠xs.size):Obj.mapSeq f (a0a xs n)=a0a (f xs) (n + 1):=by
 simp [Obj.mapSeq,h]
noncomputable def c1c (o:Obj) (xs:Array Value) (n:Nat):Obj:=⟨o.cls,o.dict,.seq xs n,o.slots⟩
noncomputable def f4g:a4y:=fun hs args L o _=>⟨isO "list" 0 o && ash [1,2,0] args,.val .none,c1c o ((sqD o.data).setIfInBounds (a2m (av args 1)).toNat (av args 2)) (epD o.data),hs,[0≤a2m (av args 1),a2m (av args 1) < (sqD o.data).size,(sqD o.data).size≤1000000]⟩
noncomputable def f0w:PFn:=p1 0 f4g
theorem e0v:a0i w "list.__setitem__" f0w:=a5t fun hs args L o o2 s A R _ hg hob ho _ _ _ H=>by
 obtain ⟨h1,h2⟩:=a2o hg
 obtain ⟨xs,n,rfl⟩:=a7d h1
 obtain ⟨a,i,t,v,rfl⟩:∃a i t v,args=⟨[.ref a,.int i t,v],[]⟩:=⟨_,_,_,_,a3o h2⟩
 have h0:0≤i:=hob _ (.head _)
 have h1:i < xs.size:=hob _ (.tail _ (.head _))
 have h2:xs.size≤1000000:=hob _ (.tail _ (.tail _ (.head _)))
 exact a1c slot_list_setitem entry_list_setitem ⟨_,ho,rfl⟩ (args_list_setitem _ _ _) (b6c a xs n i t v h0 (by omega) h1 prog w A R s ⟨ho,H.upd _ 1 0 _ (Nat.le_refl _) rfl (b5t (by simp)) rfl⟩)
noncomputable def f4n:a4y:=fun hs args L o _=>⟨isO "list" 0 o && ash [1,0] args,.val .none,c1c o ((sqD o.data).push (av args 1)) (epD o.data + 1),hs,[(sqD o.data).size≤1000000]⟩
noncomputable def f0t:PFn:=p1 0 f4n
theorem d7j:a0i w "list.append" f0t:=a5t fun hs args L o o2 s A R _ hg hob ho _ _ _ H=>by
 obtain ⟨h1,h2⟩:=a2o hg
 obtain ⟨xs,n,rfl⟩:=a7d h1
 obtain ⟨a,v,rfl⟩:∃a v,args=⟨[.ref a,v],[]⟩:=⟨_,_,a3o h2⟩
 have h2:xs.size≤1000000:=hob _ (.head _)
 exact a1c slot_list_append entry_list_append ⟨_,ho,rfl⟩ (args_list_append _ _) (AutoListH.list_append_list_val_0 a xs n v (by rw [sizeLine_eq];exact Nat.le_trans h2 (by decide)) prog w A R s ⟨ho,H.upd _ 1 0 _ (Nat.le_refl _) rfl (a5c (by simp)) rfl⟩)
theorem b8r {α:Type} (xs:Array α) (h:0 < xs.size):xs.eraseIdxIfInBounds (xs.size - 1)=xs.pop:=by
 unfold Array.eraseIdxIfInBounds
 rw [dif_pos (by omega)]
 apply Array.ext
 ·rw [Array.size_eraseIdx,Array.size_pop]
 ·intro i h1 h2
  rw [Array.getElem_pop]
  rw [Array.size_pop] at h2
  rw [Array.getElem_eraseIdx,dif_pos (by omega)]
theorem c0x {xs:Array Value} (h0:0 < xs.size):xs[xs.size - 1]?=some (nth xs (xs.size - 1)):=by
 have e:((xs.size:Int) - 1).toNat=xs.size - 1:=by omega
 rw [←c3c (by omega) (by simp +arith),e]
noncomputable def f2e:a4y:=fun hs args L o _=>c8j (isO "list" 0 o && ash [1] args) L hs (c1c o (sqD o.data).pop (epD o.data + 1)) (nth (sqD o.data) ((sqD o.data).size - 1)) [0 < (sqD o.data).size,(sqD o.data).size≤1000000]
noncomputable def e3z:PFn:=p1 0 f2e
theorem c0b:a8a w hnd false "list.pop" e3z:=a5t fun hs args L o o2 s A R _ hg hob ho _ _ _ H=>by
 obtain ⟨h1,h2⟩:=a2o hg
 obtain ⟨xs,n,rfl⟩:=a7d h1
 obtain ⟨a,rfl⟩:=e4o h2
 have h0:0 < xs.size:=hob _ (.head _)
 have h1:xs.size≤1000000:=hob _ (.tail _ (.head _))
 have e:=b8r xs h0
 exact a1c F.slot_list_pop F.entry_list_pop ⟨_,ho,rfl⟩ (F.args_list_pop_1 _) (MeetsSeq.list_pop_last a xs n _ (by rw [c0x h0];exact congrArg some (a9g hob).symm) (by rw [sizeLine_eq];exact Nat.le_trans h1 (by decide)) prog w A R s ⟨ho,H.upd _ 1 0 _ (Nat.le_refl _) rfl (by rw [a5c (by rw [e];simp;omega),e];rfl) rfl⟩)
noncomputable def f5n:a4y:=fun hs args L o _=>⟨isO "list" 0 o && ash [1] args,.tok fun t=>.int (sqD o.data).size t,o,hs,[(sqD o.data).size≤1000000]⟩
noncomputable def f1q:PFn:=p1 0 f5n
theorem d5m:a0i w "list.__len__" f1q:=a5t fun hs args L o o2 s A R _ hg hob ho _ _ ht H=>by
 obtain ⟨h1,h2⟩:=a2o hg
 obtain ⟨xs,n,rfl⟩:=a7d h1
 obtain ⟨a,rfl⟩:=e4o h2
 exact a1c slot_list_len F.entry_list_len ⟨_,ho,rfl⟩ (F.args_list_len_1 _) (AutoListH.list___len___list_0 a xs n prog w A R s ⟨ho,H.keep _ s.toks 1 ht rfl rfl⟩)
noncomputable def isS (o:Obj):Bool:=isO "list" 0 o || isO "tuple" 0 o
theorem c9e {o:Obj} (h:isS o=true):∃xs n,o=a0a xs n∨o=b2q xs n:=by
 unfold isS at h
 cases e:isO "list" 0 o with
 | true=>exact ⟨_,_,.inl (a6j e)⟩
 | false=>rw [e] at h;exact ⟨_,_,.inr (a6j h)⟩
theorem c5l {A:Around} {E:Value→Shared→Prop} {s:Shared} {id:String} {args:Args} {Q:Unit→Shared→Prop} (hk:builtinKind id=none) (ha:argsOk id args) (h:Q () s):wpAny (model prog w) A (checkBuiltinCall id args) Q E s:=by
 simp only [checkBuiltinCall,hk]
 cases hsig:Manifest.signature? id with
 | none=>exact wpAny_pure h
 | some sig=>
  simp only [argsOk,hsig] at ha
  have h2:Bind.checkArgs id sig args=pure ():=ha
  show wpAny _ A (Bind.checkArgs id sig args) _ _ s
  rw [h2];exact wpAny_pure h
noncomputable def d6q (b:Nat) (n:Nat) (t:Tok):Value:=match b with
 | 0=>.int 0 t
 | 1=>.int (Int.ofNat (Nat.succ (n - 1))) t
 | _=>.int n t
noncomputable def e1g (b:Nat) (n:Nat):List Prop:=match b with
 | 0=>[n=0]
 | 1=>[0 < n]
 | _=>[]
theorem c5h {b n t} (h:∀p∈e1g b n,p):d6q b n t= .int n t:=by
 match b with
 | 0=>rw [show n=0 from h _ (.head _)];rfl
 | 1=>
  have:0 < n:=h _ (.head _)
  show Value.int ((n - 1 + 1:Nat):Int) t=_
  rw [Nat.sub_add_cancel this]
 | _ + 2=>rfl
theorem c4z {A:Around} {E:Value→Shared→Prop} {s:Shared} {n:Nat} {Q:Value→Shared→Prop} (hfit:n≤1000000) (h:Q (.int n (s.toks + 1)) { s with toks:=s.toks + 1 + 1 }):
  wpAny (model prog w) A ((do
   let n ←holding [Value.int n s.toks] (asIndex (Value.int n s.toks))
   letGo [Value.int n s.toks]
   if n < 0 then rule "len.negative";raiseError "ValueError" "__len__() should return >= 0"
   if n≥2 ^ 63 then
    if let .ref _:=Value.int n s.toks then unsupported "len:the-overflow's-words-name-the-type-of-what-__len__-gave"
    rule "len.overflow";raiseError "OverflowError" "cannot fit 'int' into an index-sized integer"
   retInt n:Sem PySem.Fin)) (fun fin s'=>∃r,fin= .done (.ret r)∧Q r s') E { s with toks:=s.toks + 1 }:=by
 refine wpAny_bind (wpAny_holding (wpAny_pure ?_))
 refine wpAny_bind (wpAny_letGo ?_)
 show wpAny _ _ (if ((n:Nat):Int) < 0 then _ else _) _ _ _
 rw [if_neg (by simp +arith)]
 show wpAny _ _ (if ((n:Nat):Int)≥2 ^ 63 then _ else _) _ _ _
 rw [if_neg (by omega)]
 exact wpAny_bind (wpAny_mkInt (wpAny_pure ⟨_,rfl,h⟩))
noncomputable def e1q:a4y:=fun hs args L o _=>⟨isS o && ash [1] args,.tok fun t=>d6q (hs.headD 0) (sqD o.data).size t,o,hs.tail,((sqD o.data).size≤1000000)::e1g (hs.headD 0) (sqD o.data).size⟩
noncomputable def d4r:PFn:=p1 0 e1q
theorem e5g:OkC w none b "len" 0 (adN 0) e1q:=fun hs args L o o2 s A R _ hg hob ho _ _ ht H=>by
 obtain ⟨h1,h2⟩:=a2o hg
 obtain ⟨a,rfl⟩:=e4o h2
 have key:BW w A (Builtin.«len» ⟨[.ref a],[]⟩) R s:=by
  refine wpAny_mono (Q:=fun fin s'=>∃r,fin= .done (.ret r)∧R (.ok (.ret r)) s') ?_ (fun fin s' h'=>by obtain ⟨r,rfl,hq⟩:=h';exact hq) fun _ _ e=>e
  obtain ⟨xs,n,h⟩:=c9e h1
  have hs:(sqD o.data)=xs:=by rcases h with rfl | rfl <;> rfl
  have hz:(sqD o.data).size≤1000000:=hob _ (.head _)
  have fin:=c4z (w:=w) (A:=A.in1) (E:=fun e s'=>R (.error e) s') (s:=s) (n:=xs.size) (Q:=fun r s'=>R (.ok (.ret r)) s') (by rw [←hs];exact hz) (H.keep _ (s.toks + 1) 2 (Nat.le_add_left _ _) (by rw [←hs];exact (c5h fun p hp=>hob p (.tail _ hp)).symm) rfl)
  unfold Builtin.«len»
  refine wpAny_bind (m:=oneArg "len" _) (wpAny_pure ?_)
  rcases h with rfl | rfl
  ·exact wpAny_bind (m:=callSpecial? (.ref a) (Str.ofString "__len__")) (wpAny_callSpecial?_slot (name:=Str.ofString "__len__") ⟨_,ho,rfl⟩ slot_list_len (call_meets slot_list_len ⟨_,ho,rfl⟩ F.entry_list_len (F.args_list_len_1 _) (AutoListH.list___len___list_0 a xs n) ⟨ho,fin⟩))
  ·exact wpAny_bind (m:=callSpecial? (.ref a) (Str.ofString "__len__")) (wpAny_callSpecial?_slot (name:=Str.ofString "__len__") ⟨_,ho,rfl⟩ F.slot_tuple_len (call_meets F.slot_tuple_len ⟨_,ho,rfl⟩ F.entry_tuple_len (F.args_tuple_len_1 _) (AutoSeq1.tuple___len___tuple_0 a xs n) ⟨ho,fin⟩))
 cases b with
 | true=>exact codeAny_builtin entry_len (by rw [Around.under_plainId plain_len _];exact key)
 | false=>
  refine codeAny_call_builtin_code (by rw [b3u];kernel_rfl) (c5l kind_len (args_len1 _) ?_)
  exact codeAny_builtin entry_len (by rw [Around.under_plainId plain_len _];exact key)
theorem c9d:a8a w none b "len" d4r:=a5t e5g
end
noncomputable def b2d (es:Array DictEntry) (k:Str):Option Nat:=es.findIdx? fun e=>Value.isStrOf k e.key
noncomputable def dWf (P:Params) (es:Array DictEntry):Prop:=(∀e∈es,∃k,Value.isStrOf k e.key=true∧e.hash=PyData.keyHash P k)∧es.size≤1000000
noncomputable def a3m (es:Array DictEntry) (k:Str):Prop:=(b2d es k).isSome=true
noncomputable def a5x (es:Array DictEntry) (k:Str):Value:=match b2d es k with
 | some i=>(es[i]?.map (·.val)).getD .none
 | none=>.none
noncomputable def c6g (P:Params) (es:Array DictEntry) (k:Str) (t:Tok) (v:Value):Array DictEntry:=es.push ⟨PyData.keyHash P k,.str k t,v⟩
noncomputable def d6d (es:Array DictEntry) (k:Str) (v:Value):Array DictEntry:=match b2d es k with
 | some i=>es.modify i fun e=>{ e with val:=v }
 | none=>es
noncomputable def d6f (es:Array DictEntry) (k:Str):Array DictEntry:=match b2d es k with
 | some i=>es.eraseIdxIfInBounds i
 | none=>es
section
variable {w:World} {A:Around} {E:Value→Shared→Prop} {s:Shared} {d:Addr} {es:Array DictEntry} {n:Nat} {k:Str} {t:Tok}
theorem dWf.keys (h:dWf w.params es):KeysOf (strKind prog w) es:=fun e he=>h.1 e he
theorem a2v (k:Str) (t:Tok):(strKind prog w).is k (.str k t)=true:=by show (k == k)=true;exact beq_self_eq_true k
theorem a5a {Q:Option Nat→Shared→Prop} (ho:s.heap.get? d=some (a8d es n)) (hk:dWf w.params es) (h:Q (b2d es k) s):wpAny (model prog w) A (dictFind d (.str k t) (hashStr w k)) Q E s:=
 wpAny_dictFind_of (knd:=strKind prog w) (a2v k t) ho rfl hk.keys h
theorem b6m {Q:Option Value→Shared→Prop} (ho:s.heap.get? d=some (a8d es n)) (hk:dWf w.params es) (h:Q (match b2d es k with | some i=>es[i]?.map (·.val) | none=>none) { s with toks:=s.toks + 1 }):wpAny (model prog w) A (dictGet d (.str k t)) Q E s:=by
 unfold dictGet
 try with_reducible refine wpAny_holding ?_
 refine wpAny_bind ((strKind prog w).pyHash (a2v k t) (wpAny_bind (a5a (s:={ s with toks:=s.toks + 1 }) ho hk ?_)))
 cases hi:b2d es k with
 | none=>rw [hi] at h;exact wpAny_pure h
 | some i=>rw [hi] at h;exact wpAny_bind (wpAny_dictEntries (s:={ s with toks:=s.toks + 1 }) ho rfl (wpAny_pure h))
theorem b5g {i:Nat} (h:b2d es k=some i):∃e,es[i]?=some e:=by
 unfold b2d at h
 obtain ⟨hl,_⟩:=Array.findIdx?_eq_some_iff_getElem.mp h
 exact ⟨_,Array.getElem?_eq_getElem hl⟩
theorem a4z {Q:Option Value→Shared→Prop} (ho:s.heap.get? d=some (a8d es n)) (hk:dWf w.params es) (hh:a3m es k) (h:Q (some (a5x es k)) { s with toks:=s.toks + 1 }):wpAny (model prog w) A (dictGet d (.str k t)) Q E s:=by
 refine b6m ho hk ?_
 unfold a3m at hh
 unfold a5x at h
 cases hi:b2d es k with
 | none=>rw [hi] at hh;cases hh
 | some i=>
  rw [hi] at h
  obtain ⟨e,he⟩:=b5g hi
  simp only [he,Option.map_some,Option.getD_some] at h ⊢
  exact h
theorem a6p {Q:Option Value→Shared→Prop} (ho:s.heap.get? d=some (a8d es n)) (hk:dWf w.params es) (hh:¬a3m es k) (h:Q none { s with toks:=s.toks + 1 }):wpAny (model prog w) A (dictGet d (.str k t)) Q E s:=by
 refine b6m ho hk ?_
 unfold a3m at hh
 cases hi:b2d es k with
 | none=>exact h
 | some i=>rw [hi] at hh;exact absurd rfl hh
theorem a7y {v:Value} {Q:Unit→Shared→Prop} (ho:s.heap.get? d=some (a8d es n)) (hk:dWf w.params es) (hh:¬a3m es k)
  (h:Q () { s with heap:=s.heap.update d (Obj.mapDictKeys fun es=>es.push ⟨PyData.keyHash w.params k,.str k t,v⟩),toks:=s.toks + 1 }):wpAny (model prog w) A (dictSet d (.str k t) v) Q E s:=by
 unfold dictSet
 try with_reducible refine wpAny_holding ?_
 refine wpAny_bind ((strKind prog w).pyHash (a2v k t) ?_)
 unfold dictSetHashed
 try with_reducible refine wpAny_holding ?_
 refine wpAny_bind (a5a (s:={ s with toks:=s.toks + 1 }) ho hk ?_)
 unfold a3m at hh
 cases hi:b2d es k with
 | none=>exact wpAny_bind (wpAny_rule (wpAny_updateDictKeys (s:={ s with toks:=s.toks + 1 }) (hz:=by rw [sizeLine_eq];have:=hk.2;exact Nat.le_trans this (by decide)) ho rfl h))
 | some i=>rw [hi] at hh;exact absurd rfl hh
theorem b3h {v:Value} {i:Nat} {Q:Unit→Shared→Prop} (ho:s.heap.get? d=some (a8d es n)) (hk:dWf w.params es) (hi:b2d es k=some i)
  (h:Q () { s with heap:=s.heap.update d (Obj.mapDict fun es=>es.modify i fun e=>{ e with val:=v }),toks:=s.toks + 1 }):wpAny (model prog w) A (dictSet d (.str k t) v) Q E s:=by
 unfold dictSet
 try with_reducible refine wpAny_holding ?_
 refine wpAny_bind ((strKind prog w).pyHash (a2v k t) ?_)
 unfold dictSetHashed
 try with_reducible refine wpAny_holding ?_
 refine wpAny_bind (a5a (s:={ s with toks:=s.toks + 1 }) ho hk ?_)
 rw [hi]
 exact wpAny_bind (wpAny_rule (wpAny_bind (wpAny_updateDict (s:={ s with toks:=s.toks + 1 }) ho rfl (wpAny_point h))))
theorem c6r {i:Nat} {Q:Option DictEntry→Shared→Prop} (ho:s.heap.get? d=some (a8d es n)) (hk:dWf w.params es) (hi:b2d es k=some i)
  (h:∀e,Q (some e) { s with heap:=s.heap.update d (Obj.mapDictKeys fun es=>es.eraseIdxIfInBounds i),toks:=s.toks + 1 }):wpAny (model prog w) A (Builtin.Dict.takeOut d (.str k t)) Q E s:=by
 unfold Builtin.Dict.takeOut
 try with_reducible refine wpAny_holding ?_
 refine wpAny_bind ((strKind prog w).pyHash (a2v k t) ?_)
 refine wpAny_bind (a5a (s:={ s with toks:=s.toks + 1 }) ho hk ?_)
 rw [hi]
 refine wpAny_bind (wpAny_dictEntries (s:={ s with toks:=s.toks + 1 }) ho rfl ?_)
 obtain ⟨e,he⟩:=b5g hi
 rw [he]
 exact wpAny_bind (wpAny_updateDictKeys (hz:=by rw [sizeLine_eq];have:=hk.2;omega) (s:={ s with toks:=s.toks + 1 }) ho rfl (wpAny_pure (h e)))
end
section
variable {w:World} {hnd:Option Value} {b:Bool}
noncomputable def a7j (o:Obj) (es:Array DictEntry) (n:Nat):Obj:=⟨o.cls,o.dict,.dict es n,o.slots⟩
noncomputable def d9c (o:Obj) (args:Args):Bool:=isO "dict" 1 o && ash [1,3] args
theorem gD {o:Obj} {args:Args} (h:d9c o args=true):∃es n,o=a8d es n∧∃d k t,args=⟨[.ref d,.str k t],[]⟩:=by
 obtain ⟨h1,h2⟩:=a2o h
 exact ⟨_,_,a6j h1,_,_,_,a3o h2⟩
theorem ne1 {d:Addr} (h:d≠1):(d == sysModules)=false:=by simpa [sysModules] using h
noncomputable def d9y (P:Params):a4y:=fun hs args L o _=>c8j (d9c o args) L hs o (a5x (deD o.data) (a4e (av args 1))) [dWf P (deD o.data),a3m (deD o.data) (a4e (av args 1))]
noncomputable def d2w (P:Params):PFn:=p1 0 (d9y P)
theorem c0e:a0i w "dict.__getitem__" (d2w w.params):=a5t fun hs args L o o2 s A R _ hg hob ho _ hne ht H=>by
 obtain ⟨es,n,rfl,d,k,t,rfl⟩:=gD hg
 refine a1c F.slot_dict_getitem F.entry_dict_getitem ⟨_,ho,rfl⟩ (F.args_dict_getitem_2 _ _) ?_
 show wpAny _ _ (dictGet d (.str k t) >>=_) _ _ s
 refine wpAny_bind (a4z ho (hob _ (.head _)) (hob _ (.tail _ (.head _))) (wpAny_pure ?_))
 have:=H.keep _ 1 1 (Nat.le_refl _) rfl rfl
 rwa [a9g hob] at this
noncomputable def cNo (P:Params) (v:Value):a4y:=fun hs args L o _=>⟨d9c o args,.val v,o,hs.tail,[dWf P (deD o.data),¬a3m (deD o.data) (a4e (av args 1))]⟩
noncomputable def f4p (P:Params):a4y:=fun hs args L o _=>⟨d9c o args,.val (.bool true),o,hs.tail,[dWf P (deD o.data),a3m (deD o.data) (a4e (av args 1))]⟩
noncomputable def e1p (P:Params):PFn:=p1 0 (cIf (cNo P (.bool false)) (f4p P))
theorem d5i:a0i w "dict.__contains__" (e1p w.params):=a5t (b0q (fun hs args L o o2 s A R _ hg hob ho _ hne ht H=>by
  obtain ⟨es,n,rfl,d,k,t,rfl⟩:=gD hg
  refine a1c F.slot_dict_contains F.entry_dict_contains ⟨_,ho,rfl⟩ (F.args_dict_contains_2 _ _) ?_
  show wpAny _ _ (dictGet d (.str k t) >>=_) _ _ s
  refine wpAny_bind (a6p ho (hob _ (.head _)) (hob _ (.tail _ (.head _))) ?_)
  show wpAny _ _ (Builtin.Dict.pendingKey? d _ >>=_) _ _ _
  exact wpAny_bind (wpAny_pendingKey_other (ne1 hne) (wpAny_pure (H.keep _ 1 1 (Nat.le_refl _) rfl rfl))))
 fun hs args L o o2 s A R _ hg hob ho _ hne ht H=>by
  obtain ⟨es,n,rfl,d,k,t,rfl⟩:=gD hg
  refine a1c F.slot_dict_contains F.entry_dict_contains ⟨_,ho,rfl⟩ (F.args_dict_contains_2 _ _) ?_
  show wpAny _ _ (dictGet d (.str k t) >>=_) _ _ s
  exact wpAny_bind (a4z ho (hob _ (.head _)) (hob _ (.tail _ (.head _))) (wpAny_pure (H.keep _ 1 1 (Nat.le_refl _) rfl rfl))))
noncomputable def f0k (P:Params):a4y:=cIf (cNo P .none) fun hs args L o o2=>d9y P ((hs.headD 0 - 1)::hs.tail) args L o o2
noncomputable def e8a (P:Params):PFn:=p1 0 (f0k P)
theorem c7y:a0i w "dict.get" (e8a w.params):=a5t (b0q (fun hs args L o o2 s A R _ hg hob ho _ hne ht H=>by
  obtain ⟨es,n,rfl,d,k,t,rfl⟩:=gD hg
  refine a1c F.slot_dict_get F.entry_dict_get ⟨_,ho,rfl⟩ (F.args_dict_get_2 _ _) ?_
  show wpAny _ _ (dictGet d (.str k t) >>=_) _ _ s
  refine wpAny_bind (a6p ho (hob _ (.head _)) (hob _ (.tail _ (.head _))) ?_)
  show wpAny _ _ (Builtin.Dict.missed d _ >>=_) _ _ _
  exact wpAny_bind (wpAny_missed_other (ne1 hne) (wpAny_pure (H.keep _ 1 1 (Nat.le_refl _) rfl rfl))))
 fun hs args L o o2 s A R _ hg hob ho _ hne ht H=>by
  obtain ⟨es,n,rfl,d,k,t,rfl⟩:=gD hg
  refine a1c F.slot_dict_get F.entry_dict_get ⟨_,ho,rfl⟩ (F.args_dict_get_2 _ _) ?_
  show wpAny _ _ (dictGet d (.str k t) >>=_) _ _ s
  refine wpAny_bind (a4z ho (hob _ (.head _)) (hob _ (.tail _ (.head _))) (wpAny_pure ?_))
  have:=H.keep _ 1 1 (Nat.le_refl _) rfl rfl
  rwa [a9g hob] at this)
noncomputable def f3d (P:Params):a4y:=fun hs args L o _=>⟨isO "dict" 1 o && ash [1,3,0] args,.val .none,a7j o (d6d (deD o.data) (a4e (av args 1)) (av args 2)) (epD o.data),hs.tail,[dWf P (deD o.data),a3m (deD o.data) (a4e (av args 1))]⟩
noncomputable def f4w (P:Params):a4y:=fun hs args L o _=>⟨isO "dict" 1 o && ash [1,3,0] args,.val .none,a7j o (c6g P (deD o.data) (a4e (av args 1)) (a7e (av args 1)) (av args 2)) (epD o.data + 1),hs.tail,[dWf P (deD o.data),¬a3m (deD o.data) (a4e (av args 1))]⟩
noncomputable def d6k (P:Params):PFn:=p1 0 (cIf (f3d P) (f4w P))
theorem gDV {o:Obj} {args:Args} (h:(isO "dict" 1 o && ash [1,3,0] args)=true):∃es n,o=a8d es n∧∃d k t v,args=⟨[.ref d,.str k t,v],[]⟩:=by
 obtain ⟨h1,h2⟩:=a2o h
 exact ⟨_,_,a6j h1,_,_,_,_,a3o h2⟩
theorem d0j:a0i w "dict.__setitem__" (d6k w.params):=a5t (b0q (fun hs args L o o2 s A R _ hg hob ho _ hne ht H=>by
  obtain ⟨es,n,rfl,d,k,t,v,rfl⟩:=gDV hg
  refine a1c F.slot_dict_setitem F.entry_dict_setitem ⟨_,ho,rfl⟩ (F.args_dict_setitem_3 _ _ _) ?_
  have hh:a3m es k:=hob _ (.tail _ (.head _))
  show wpAny _ _ (Builtin.Dict.notOrdered "__setitem__" _ >>=_) _ _ s
  refine wpAny_bind (wpAny_notOrdered_dict ⟨_,ho,rfl⟩ ?_)
  show wpAny _ _ (dictSet d (.str k t) _ >>=_) _ _ s
  unfold a3m at hh
  cases hi:b2d es k with
  | none=>rw [hi] at hh;cases hh
  | some i=>
   refine wpAny_bind (b3h ho (hob _ (.head _)) hi (wpAny_pure (H.upd _ 1 1 _ (Nat.le_refl _) rfl ?_ rfl)))
   show Obj.mapDict _ (a8d es n)=a7j (a8d es n) (d6d es k _) n
   unfold d6d
   rw [hi];rfl)
 fun hs args L o o2 s A R _ hg hob ho _ hne ht H=>by
  obtain ⟨es,n,rfl,d,k,t,v,rfl⟩:=gDV hg
  refine a1c F.slot_dict_setitem F.entry_dict_setitem ⟨_,ho,rfl⟩ (F.args_dict_setitem_3 _ _ _) ?_
  show wpAny _ _ (Builtin.Dict.notOrdered "__setitem__" _ >>=_) _ _ s
  refine wpAny_bind (wpAny_notOrdered_dict ⟨_,ho,rfl⟩ ?_)
  show wpAny _ _ (dictSet d (.str k t) _ >>=_) _ _ s
  exact wpAny_bind (a7y ho (hob _ (.head _)) (hob _ (.tail _ (.head _))) (wpAny_pure (H.upd _ 1 1 _ (Nat.le_refl _) rfl rfl rfl))))
noncomputable def e8d (P:Params):a4y:=fun hs args L o _=>⟨d9c o args,.val .none,a7j o (d6f (deD o.data) (a4e (av args 1))) (epD o.data + 1),hs,[dWf P (deD o.data),a3m (deD o.data) (a4e (av args 1))]⟩
noncomputable def d4e (P:Params):PFn:=p1 0 (e8d P)
theorem c1o:a8a w hnd false "dict.__delitem__" (d4e w.params):=a5t fun hs args L o o2 s A R _ hg hob ho _ hne ht H=>by
 obtain ⟨es,n,rfl,d,k,t,rfl⟩:=gD hg
 refine a1c F.slot_dict_delitem F.entry_dict_delitem ⟨_,ho,rfl⟩ (F.args_dict_delitem_2 _ _) ?_
 have hh:a3m es k:=hob _ (.tail _ (.head _))
 unfold Builtin.«dict.__delitem__»
 refine wpAny_bind ?_
 unfold Builtin.Dict.dictSlotArgs
 refine wpAny_bind (wpAny_notOrdered_dict ⟨_,ho,rfl⟩ ?_)
 show wpAny _ _ (pure (Value.ref d,Value.str k t)) _ _ s
 refine wpAny_pure ?_
 show wpAny _ _ (Builtin.Dict.takeOut d (.str k t) >>=_) _ _ s
 unfold a3m at hh
 cases hi:b2d es k with
 | none=>rw [hi] at hh;cases hh
 | some i=>
  refine wpAny_bind (c6r ho (hob _ (.head _)) hi fun e=>?_)
  refine wpAny_bind (wpAny_letGo (wpAny_pure (H.upd _ 1 1 _ (Nat.le_refl _) rfl ?_ rfl)))
  show Obj.mapDictKeys _ (a8d es n)=a7j (a8d es n) (d6f es k) (n + 1)
  unfold d6f
  rw [hi];rfl
end
section
variable {w:World} {hnd:Option Value} {b:Bool}
theorem b3o {A:Around} {R:Result→Shared→Prop} {Q:PySem.Fin→Shared→Prop} {p:Program} {s:Shared} {n:Nat} (hn:s.heap.objs.size=n) (hh:A.handled=none) (h:R (.error (.ref (n + 1))) { s with heap:=(s.heap.push a9u).push (a5r n) }):
  wpAny (model p w) A (newExc (.type "StopIteration") [] >>=fun e=>raiseNew e) Q (fun e s'=>R (.error e) s') s:=by
 subst hn
 refine wpAny_bind ?_
 simp only [newExc,newTuple]
 refine wpAny_bind (wpAny_newObj_type ?_ (by size_fits))
 refine wpAny_bind (m:=firstArgMember _ _) (wpAny_of_eq (a:=Value.none) (by first | rfl | (simp only [firstArgMember];rfl)) ?_)
 refine wpAny_newObj_type ?_ (by size_fits)
 simp only [raiseNew]
 refine wpAny_bind (wpAny_handled ?_)
 rw [hh]
 refine wpAny_bind (wpAny_pure (wpAny_throw ?_))
 simp only [Heap.size_push]
 exact h
theorem b7w {h:Heap} {a:Addr} {f:Obj→Obj}:(h.update a f).objs.size=h.objs.size:=by cases h;simp [Heap.update]
noncomputable def nxB (b:Bool):Builtin:=match b with
 | true=>Builtin.«tuple_iterator.__next__»
 | false=>Builtin.«list_iterator.__next__»
theorem d4o {tu:Bool} {T T':String} {it l:Addr} {i:Int} {t:Tok} {xs:Array Value} {n:Nat} {x:Value} (hx:xs[i.toNat]?=some x):
  Meets (nxB tu ⟨[.ref it],[]⟩) (fun _ R s=>s.heap.get? it=some ⟨.type T,none,.fields ⟨[.ref l,.int i t]⟩,⟨[]⟩⟩∧s.heap.get? l=some ⟨.type T',none,.seq xs n,⟨[]⟩⟩∧R (.ok (.ret x)) { s with heap:=s.heap.update it (Obj.mapFields (·.setIfInBounds 1 (rawInt (i + 1)))) }):=
 .of_wp fun prog w A R s h=>by
  obtain ⟨ho,hl,h⟩:=h
  cases tu <;>
  (show wpAny _ _ (field (.ref it) 0 >>=_) _ _ s
   refine wpAny_bind (wpAny_field ho rfl (x:=.ref l) rfl ?_)
   show wpAny _ _ (if (Value.ref l == Value.none)=true then _ else _) _ _ s
   rw [if_neg (show ¬((Value.ref l == Value.none)=true) from Bool.false_ne_true)]
   show wpAny _ _ (field (.ref it) 1 >>=_) _ _ s
   refine wpAny_bind (wpAny_field ho rfl (x:=.int i t) rfl ?_)
   show wpAny _ _ (seqItems? (.ref l) >>=_) _ _ s
   refine wpAny_bind (wpAny_seqItems hl rfl ?_)
   simp only [hx]
   exact wpAny_bind (wpAny_setField ho rfl (by simp) (wpAny_pure ⟨x,rfl,h⟩)))
theorem e1b {tu:Bool} {T T':String} {it l:Addr} {i:Int} {t:Tok} {xs:Array Value} {n:Nat} (hx:xs[i.toNat]?=none):
  Meets (nxB tu ⟨[.ref it],[]⟩) (fun A R s=>A.handled=none∧s.heap.get? it=some ⟨.type T,none,.fields ⟨[.ref l,.int i t]⟩,⟨[]⟩⟩∧s.heap.get? l=some ⟨.type T',none,.seq xs n,⟨[]⟩⟩∧
   R (.error (.ref (s.heap.objs.size + 1))) { s with heap:=((s.heap.update it (Obj.mapFields (·.setIfInBounds 0 .none))).push a9u).push (a5r s.heap.objs.size) }):=
 .of_wp fun prog w A R s h=>by
  obtain ⟨hh,ho,hl,h⟩:=h
  cases tu <;>
  (show wpAny _ _ (field (.ref it) 0 >>=_) _ _ s
   refine wpAny_bind (wpAny_field ho rfl (x:=.ref l) rfl ?_)
   show wpAny _ _ (if (Value.ref l == Value.none)=true then _ else _) _ _ s
   rw [if_neg (show ¬((Value.ref l == Value.none)=true) from Bool.false_ne_true)]
   show wpAny _ _ (field (.ref it) 1 >>=_) _ _ s
   refine wpAny_bind (wpAny_field ho rfl (x:=.int i t) rfl ?_)
   show wpAny _ _ (seqItems? (.ref l) >>=_) _ _ s
   refine wpAny_bind (wpAny_seqItems hl rfl ?_)
   simp only [hx]
   refine wpAny_bind (wpAny_rule (wpAny_bind (wpAny_setField ho rfl (by simp) ?_)))
   exact b3o b7w hh h)
noncomputable def fv (o:Obj) (n:Nat):Value:=lg (fdD o.data) n
noncomputable def d0y (T T':String) (args:Args) (o o2:Obj):Bool:=(isF T [1,2] o && isO T' 0 o2) && ash [1] args
noncomputable def f2a (T T':String):a4y:=fun hs args L o o2=>⟨d0y T T' args o o2,.stop,a7t o [.none,.int (a2m (fv o 1)) (a7e (fv o 1))],hs.tail.tail,[0≤a2m (fv o 1),((sqD o2.data).size:Int)≤a2m (fv o 1)]⟩
noncomputable def e7o (T T':String):a4y:=fun hs args L o o2=>c8j (d0y T T' args o o2) L hs.tail (a7t o [.ref (a3q (fv o 0)),.int (a2m (fv o 1) + 1) 0]) (nth (sqD o2.data) (a2m (fv o 1))) [0≤a2m (fv o 1),a2m (fv o 1) < (sqD o2.data).size]
noncomputable def c4v (T T':String):a4y:=cIf (f2a T T') (e7o T T')
noncomputable abbrev adF:Args→Obj→Addr:=fun _ o=>a3q (fv o 0)
noncomputable def c6b:PFn:=p2 adF (c4v "list_iterator" "list")
noncomputable def b9l:PFn:=p2 adF (c4v "tuple_iterator" "tuple")
theorem gNx {T T':String} {o o2:Obj} {args:Args} (h:d0y T T' args o o2=true):∃l i t xs n a,o=⟨.type T,none,.fields ⟨[.ref l,.int i t]⟩,⟨[]⟩⟩∧o2=⟨.type T',none,.seq xs n,⟨[]⟩⟩∧args=⟨[.ref a],[]⟩:=by
 obtain ⟨h1,h2⟩:=a2o h
 obtain ⟨h3,h4⟩:=a2o h1
 exact ⟨_,_,_,_,_,_,c3a h3,a6j h4,a3o h2⟩
theorem e7g {tu:Bool} {T T' id:String} (hc:∀{A R s a},s.TypeIs (.ref a) T→BW w A (nxB tu ⟨[.ref a],[]⟩) R s→codeAny (model prog w) A (cdB b id ⟨[.ref a],[]⟩) R s):OkC w none b id 0 adF (c4v T T'):=b0q (fun hs args L o o2 s A R hA hg hob ho ho2 _ _ H=>by
  obtain ⟨l,i,t,xs,n,a,rfl,rfl,rfl⟩:=gNx hg
  have h0:0≤i:=hob _ (.head _)
  have h1:(xs.size:Int)≤i:=hob _ (.tail _ (.head _))
  exact hc ⟨_,ho,rfl⟩ (e1b (Array.getElem?_eq_none (by omega)) prog w A R s ⟨hA,ho,ho2,H.stop _ rfl rfl rfl⟩))
 fun hs args L o o2 s A R hA hg hob ho ho2 _ _ H=>by
  obtain ⟨l,i,t,xs,n,a,rfl,rfl,rfl⟩:=gNx hg
  have h0:0≤i:=hob _ (.head _)
  have h1:i < xs.size:=hob _ (.tail _ (.head _))
  exact hc ⟨_,ho,rfl⟩ (d4o (by rw [c3c h0 h1];exact congrArg some (a9g hob).symm) prog w A R s ⟨ho,ho2,H.upd _ 1 0 _ (Nat.le_refl _) rfl rfl rfl⟩)
theorem b9h:a0i w "list_iterator.__next__" c6b:=b5s (e7g (tu:=false) fun hT h=>a1c slot_listiter_next entry_listiter_next hT (args_listiter_next _) h)
theorem b7b:b2f w "list_iterator.__next__" c6b:=b5s (e7g (tu:=false) fun _ h=>b3b slot_listiter_next.plain entry_listiter_next h)
theorem b6q:a0i w "tuple_iterator.__next__" b9l:=b5s (e7g (tu:=true) fun hT h=>a1c F.slot_tuple_iterator_next F.entry_tuple_iterator_next hT (F.args_tuple_iterator_next_1 _) h)
noncomputable def a9d (es:Array DictEntry) (i:Int):Value:=match es.toList[i.toNat]? with
 | some e=>e.key
 | none=>.none
noncomputable def e4t (es:Array DictEntry) (i:Int):Value:=match es.toList[i.toNat]? with
 | some e=>e.val
 | none=>.none
noncomputable def vnB (b:Bool):Builtin:=match b with
 | true=>Builtin.«dict_valueiterator.__next__»
 | false=>Builtin.«dict_keyiterator.__next__»
noncomputable def vnN (b:Bool):String:=match b with
 | true=>"dict_valueiterator"
 | false=>"dict_keyiterator"
noncomputable def vnV (b:Bool) (e:DictEntry):Value:=match b with
 | true=>e.val
 | false=>e.key
noncomputable def f1k (b:Bool) (es:Array DictEntry) (i:Int):Value:=match b with
 | true=>e4t es i
 | false=>a9d es i
noncomputable abbrev vnO (b:Bool) (a:Addr) (i sz ep:Int):Obj:=⟨.type (vnN b),none,.fields ⟨[.ref a,.int i 0,.int sz 0,.int ep 0]⟩,⟨[]⟩⟩
theorem d0r {v : Bool} {it d : Addr} {i : Nat} {es : Array DictEntry} {n : Nat} (hlt : i < es.size) :
    Meets (vnB v ⟨[.ref it], []⟩) (fun _ R s => s.heap.get? it = some (vnO v d i es.size n) ∧ s.heap.get? d = some (a8d es n) ∧ R (.ok (.ret (vnV v es[i]))) { s with heap := s.heap.update it (Obj.mapFields (·.setIfInBounds 1 (rawInt ((i : Int) + 1)))) }) :=
  .of_wp fun prog w A R s h => by
    obtain ⟨ho, hod, h⟩ := h
    have hg := Heap.get?_update_self (Obj.mapFields (·.setIfInBounds 1 (rawInt ((i : Int) + 1)))) ho rfl
    cases v <;>
    (refine wpAny_bind (wpAny_pure ?_)
     refine wpAny_bind ?_
     refine wpAny_bind ?_
     first | refine wpAny_bind (wpAny_typeNameOfWhole_keyiter ⟨_, ho, rfl⟩ (wpAny_pure ?_)) | refine wpAny_bind (wpAny_typeNameOfWhole_valiter ⟨_, ho, rfl⟩ (wpAny_pure ?_)) | refine wpAny_bind (wpAny_typeNameOf_valiter ⟨_, ho, rfl⟩ (wpAny_pure ?_))
     refine wpAny_bind (wpAny_fieldsOf ho rfl ?_)
     simp only [show Builtin.Dict_items.ownsTuple "dict_keyiterator" = false by decide, show Builtin.Dict_items.ownsTuple "dict_valueiterator" = false by decide, Bool.false_eq_true, if_false]
     show wpAny _ _ (if (Value.ref d == Value.none) = true then _ else _) _ _ s
     rw [if_neg (show ¬ ((Value.ref d == Value.none) = true) from Bool.false_ne_true)]
     refine wpAny_bind (wpAny_pure ?_)
     refine wpAny_bind (wpAny_dictEntries hod rfl ?_)
     rw [if_neg (by simp)]
     refine wpAny_bind (wpAny_pure ?_)
     refine wpAny_bind (wpAny_dictEpoch hod rfl ?_)
     rw [if_neg (by simp)]
     refine wpAny_pure ?_
     simp only [show ¬ ((i : Int) < 0) from by omega, if_false, Int.toNat_natCast, Array.getElem?_eq_getElem hlt]
     refine wpAny_bind ?_
     first | refine wpAny_bind (wpAny_typeNameOfWhole_keyiter ⟨_, ho, rfl⟩ (wpAny_pure ?_)) | refine wpAny_bind (wpAny_typeNameOfWhole_valiter ⟨_, ho, rfl⟩ (wpAny_pure ?_)) | refine wpAny_bind (wpAny_typeNameOf_valiter ⟨_, ho, rfl⟩ (wpAny_pure ?_))
     first | refine wpAny_bind (wpAny_isOneOf_keyiter ⟨_, ho, rfl⟩ ?_) | refine wpAny_bind (wpAny_isOneOf_valiter ⟨_, ho, rfl⟩ ?_)
     show wpAny _ _ (setField (.ref it) 1 (rawInt ((i : Int) + 1)) >>= _) _ _ s
     refine wpAny_bind (wpAny_setField ho rfl (by simp) ?_)
     refine wpAny_bind (wpAny_holding ?_)
     first
       | (refine wpAny_bind (wpAny_isOneOf_keyiter ⟨_, hg, rfl⟩ ?_)
          exact wpAny_pure (wpAny_pure ⟨_, rfl, h⟩))
       | (refine wpAny_bind (wpAny_isOneOf_valiter ⟨_, hg, rfl⟩ ?_)
          refine wpAny_bind (wpAny_isOneOf_valiter ⟨_, hg, rfl⟩ ?_)
          exact wpAny_pure (wpAny_pure ⟨_, rfl, h⟩)))
theorem d6v {v:Bool} {it d:Addr} {i:Nat} {es:Array DictEntry} {n:Nat} (hle:es.size≤i):
  Meets (vnB v ⟨[.ref it],[]⟩) (fun A R s=>A.handled=none∧s.heap.get? it=some (vnO v d i es.size n)∧s.heap.get? d=some (a8d es n)∧
   R (.error (.ref (s.heap.objs.size + 1))) { s with heap:=((s.heap.update it (Obj.mapFields (·.setIfInBounds 0 .none))).push a9u).push (a5r s.heap.objs.size) }):=
 .of_wp fun prog w A R s h=>by
  obtain ⟨hh,ho,hod,h⟩:=h
  cases v <;>
  (refine wpAny_bind (wpAny_pure ?_)
   refine wpAny_bind ?_
   refine wpAny_bind ?_
   first | refine wpAny_bind (wpAny_typeNameOfWhole_keyiter ⟨_,ho,rfl⟩ (wpAny_pure ?_)) | refine wpAny_bind (wpAny_typeNameOfWhole_valiter ⟨_,ho,rfl⟩ (wpAny_pure ?_)) | refine wpAny_bind (wpAny_typeNameOf_valiter ⟨_,ho,rfl⟩ (wpAny_pure ?_))
   refine wpAny_bind (wpAny_fieldsOf ho rfl ?_)
   simp only [show Builtin.Dict_items.ownsTuple "dict_keyiterator"=false by decide,show Builtin.Dict_items.ownsTuple "dict_valueiterator"=false by decide,Bool.false_eq_true,if_false]
   show wpAny _ _ (if (Value.ref d == Value.none)=true then _ else _) _ _ s
   rw [if_neg (show ¬((Value.ref d == Value.none)=true) from Bool.false_ne_true)]
   refine wpAny_bind (wpAny_pure ?_)
   refine wpAny_bind (wpAny_dictEntries hod rfl ?_)
   rw [if_neg (by simp)]
   refine wpAny_bind (wpAny_pure ?_)
   refine wpAny_bind (wpAny_dictEpoch hod rfl ?_)
   rw [if_neg (by simp)]
   refine wpAny_pure ?_
   simp only [show ¬((i:Int) < 0) from by omega,if_false,Int.toNat_natCast,Array.getElem?_eq_none hle]
   refine wpAny_bind ?_
   first | refine wpAny_bind (wpAny_typeNameOfWhole_keyiter ⟨_,ho,rfl⟩ (wpAny_pure ?_)) | refine wpAny_bind (wpAny_typeNameOfWhole_valiter ⟨_,ho,rfl⟩ (wpAny_pure ?_)) | refine wpAny_bind (wpAny_typeNameOf_valiter ⟨_,ho,rfl⟩ (wpAny_pure ?_))
   show wpAny _ _ (setField (.ref it) 0 .none >>=_) _ _ s
   refine wpAny_bind (wpAny_setField ho rfl (by simp) ?_)
   exact b3o b7w hh h)
noncomputable def gVn (v:Bool) (args:Args) (o o2:Obj):Bool:=(isF (vnN v) [1,5,5,5] o && isO "dict" 1 o2) && ash [1] args
noncomputable def cVE (v:Bool):a4y:=fun hs args L o o2=>⟨gVn v args o o2,.stop,a7t o [.none,.int (a2m (fv o 1)) 0,.int (a2m (fv o 2)) 0,.int (a2m (fv o 3)) 0],hs.tail.tail,[0≤a2m (fv o 1),((deD o2.data).size:Int)≤a2m (fv o 1),a2m (fv o 2)=((deD o2.data).size:Int),a2m (fv o 3)=(epD o2.data:Int)]⟩
noncomputable def cVI (v:Bool):a4y:=fun hs args L o o2=>c8j (gVn v args o o2) L hs.tail (a7t o [.ref (a3q (fv o 0)),.int (a2m (fv o 1) + 1) 0,.int (a2m (fv o 2)) 0,.int (a2m (fv o 3)) 0]) (f1k v (deD o2.data) (a2m (fv o 1))) [0≤a2m (fv o 1),a2m (fv o 1) < (deD o2.data).size,a2m (fv o 2)=((deD o2.data).size:Int),a2m (fv o 3)=(epD o2.data:Int)]
noncomputable def cVN (v:Bool):a4y:=cIf (cVE v) (cVI v)
noncomputable def pVN (v:Bool):PFn:=p2 adF (cVN v)
theorem gVN {v:Bool} {o o2:Obj} {args:Args} (h:gVn v args o o2=true):∃d i sz ep es n a,o=vnO v d i sz ep∧o2=a8d es n∧args=⟨[.ref a],[]⟩:=by
 obtain ⟨h1,h2⟩:=a2o h
 obtain ⟨h3,h4⟩:=a2o h1
 exact ⟨_,_,_,_,_,_,_,c3a h3,a6j h4,a3o h2⟩
theorem d0f {v:Bool} {es:Array DictEntry} {j:Nat} (hj:j < es.size):f1k v es (j:Int)=vnV v es[j]:=by
 cases v <;> (show (match es.toList[((j:Nat):Int).toNat]? with | some e=>_ | none=>_)=_;rw [Int.toNat_natCast,Array.getElem?_toList,Array.getElem?_eq_getElem hj];rfl)
theorem f1o {v:Bool} {id:String} (hc:∀{A R s a},s.TypeIs (.ref a) (vnN v)→BW w A (vnB v ⟨[.ref a],[]⟩) R s→codeAny (model prog w) A (cdB b id ⟨[.ref a],[]⟩) R s):OkC w none b id 0 adF (cVN v):=b0q (fun hs args L o o2 s A R hA hg hob ho ho2 _ _ H=>by
  obtain ⟨d,i,sz,ep,es,n,a,rfl,rfl,rfl⟩:=gVN hg
  have h0:0≤i:=hob _ (.head _)
  have h1:(es.size:Int)≤i:=hob _ (.tail _ (.head _))
  have h2:sz=(es.size:Int):=hob _ (.tail _ (.tail _ (.head _)))
  have h3:ep=(n:Int):=hob _ (.tail _ (.tail _ (.tail _ (.head _))))
  subst h2 h3
  obtain ⟨j,rfl⟩:=Int.eq_ofNat_of_zero_le h0
  exact hc ⟨_,ho,rfl⟩ (d6v (Int.ofNat_le.mp h1) prog w A R s ⟨hA,ho,ho2,H.stop _ rfl rfl rfl⟩))
 fun hs args L o o2 s A R hA hg hob ho ho2 _ _ H=>by
  obtain ⟨d,i,sz,ep,es,n,a,rfl,rfl,rfl⟩:=gVN hg
  have h0:0≤i:=hob _ (.head _)
  have h1:i < (es.size:Int):=hob _ (.tail _ (.head _))
  have h2:sz=(es.size:Int):=hob _ (.tail _ (.tail _ (.head _)))
  have h3:ep=(n:Int):=hob _ (.tail _ (.tail _ (.tail _ (.head _))))
  subst h2 h3
  obtain ⟨j,rfl⟩:=Int.eq_ofNat_of_zero_le h0
  have hj:j < es.size:=Int.ofNat_lt.mp h1
  exact hc ⟨_,ho,rfl⟩ (d0r hj prog w A R s ⟨ho,ho2,H.upd _ 1 0 _ (Nat.le_refl _) ((d0f hj).symm.trans (a9g hob).symm) rfl rfl⟩)
theorem b6k:a0i w "dict_keyiterator.__next__" (pVN false):=b5s (f1o fun hT h=>a1c F.slot_dict_keyiterator_next F.entry_dict_keyiterator_next hT (F.args_dict_keyiterator_next_1 _) h)
theorem b7y:a0i w "dict_valueiterator.__next__" (pVN true):=b5s (f1o fun hT h=>a1c F.slot_dict_valueiterator_next F.entry_dict_valueiterator_next hT (F.args_dict_valueiterator_next_1 _) h)
theorem gDR {o:Obj} {args:Args} (h:(isO "dict" 1 o && ash [1] args)=true):∃es n a,o=a8d es n∧args=⟨[.ref a],[]⟩:=by
 obtain ⟨h1,h2⟩:=a2o h
 exact ⟨_,_,_,a6j h1,a3o h2⟩
noncomputable def d7p:a4y:=fun hs args L o _=>⟨isO "dict" 1 o && ash [1] args,.new (b6d (a3q (av args 0)) 0 (deD o.data).size (epD o.data)),o,hs,[]⟩
theorem b3w {A:Around} {E:Value→Shared→Prop} {s:Shared} {d:Addr} {Q:Unit→Shared→Prop} (hne:d≠1) (h:Q () s):wpAny (model prog w) A (Builtin.Dict.showsAll d) Q E s:=by
 unfold Builtin.Dict.showsAll
 rw [if_neg (by rw [ne1 hne];exact Bool.false_ne_true)]
 exact wpAny_pure h
noncomputable def c8b:PFn:=p1 0 d7p
theorem c6w:a0i w "dict.__iter__" c8b:=a5t fun hs args L o o2 s A R _ hg hob ho _ hne ht H=>by
 obtain ⟨es,n,a,rfl,rfl⟩:=gDR hg
 have hT:s.TypeIs (.ref a) "dict":=⟨_,ho,rfl⟩
 refine a1c F.slot_dict_iter F.entry_dict_iter hT (F.args_dict_iter_1 _) ?_
 unfold Builtin.«dict.__iter__»
 refine wpAny_bind ?_
 unfold Builtin.Dict.dictSlotNone
 refine wpAny_bind (wpAny_notOrdered_dict hT ?_)
 refine wpAny_pure (wpAny_bind (wpAny_pure (wpAny_bind (b3w hne ?_))))
 refine wpAny_bind (wpAny_dictEntries ho rfl (wpAny_bind (wpAny_dictEpoch ho rfl ?_)))
 simp only [newFields]
 exact wpAny_bind (wpAny_newObj_type (wpAny_pure (H.new _ rfl rfl rfl)) (by size_fits))
noncomputable def d8c:a4y:=fun hs args L o _=>⟨isO "dict" 1 o && ash [1] args,.new (f4h (a3q (av args 0))),o,hs,[]⟩
noncomputable def c8t:PFn:=p1 0 d8c
theorem c7e:a0i w "dict.values" c8t:=a5t fun hs args L o o2 s A R _ hg hob ho _ hne ht H=>by
 obtain ⟨es,n,a,rfl,rfl⟩:=gDR hg
 have hT:s.TypeIs (.ref a) "dict":=⟨_,ho,rfl⟩
 refine a1c F.slot_dict_values F.entry_dict_values hT (F.args_dict_values_1 _) ?_
 unfold Builtin.«dict.values»
 refine wpAny_bind ?_
 unfold Builtin.Dict.noArgs
 refine wpAny_bind (wpAny_notOrdered_dict hT ?_)
 refine wpAny_pure (wpAny_bind (b3w hne ?_))
 simp only [newFields]
 exact wpAny_bind (wpAny_newObj_type (wpAny_pure (H.new _ rfl rfl rfl)) (by size_fits))
end
section
variable {w:World} {hnd:Option Value} {b:Bool}
noncomputable def a1l (x:Str) (l u:Option Int):Str:=⟨((Builtin.Str.strSliceIndices l u 1 x.length).filterMap (x.cps[·]?)).toArray⟩
noncomputable def a2n (x:Str) (l u:Option Int):Bool:=Nat.beq (Builtin.Str.strSliceIndices l u 1 x.length).length x.length
theorem f4q (a b:Nat):(a == b)=Nat.beq a b:=by
 rw [Bool.eq_iff_iff]
 simp [Nat.beq_eq]
noncomputable def lim (v:Value):Option Int:=(b7q v).map (·.1)
noncomputable def d2y (o:Obj):Bool:=isF "slice" [4,4,6] o
noncomputable abbrev slP (l u:Option (Int×Tok)):Obj:=slo (partValue l) (partValue u) .none
theorem b4p {o:Obj} (h:d2y o=true):o=slP (b7q (fv o 0)) (b7q (fv o 1)):=c3a h
noncomputable def f1i:a4y:=fun hs args L o _=>⟨d2y o && ash [3,1] args,.tok fun t=>.str (a1l (a4e (av args 0)) (lim (fv o 0)) (lim (fv o 1))) t,o,hs.tail,[a2n (a4e (av args 0)) (lim (fv o 0)) (lim (fv o 1))=false,(a1l (a4e (av args 0)) (lim (fv o 0)) (lim (fv o 1))).length≤1000000]⟩
noncomputable def f0n:a4y:=fun hs args L o _=>⟨d2y o && ash [3,1] args,.val (.str (a4e (av args 0)) (a7e (av args 0))),o,hs.tail,[a2n (a4e (av args 0)) (lim (fv o 0)) (lim (fv o 1))=true]⟩
theorem c8m {o:Obj} {s:Shared} {A:Around} {R:Result→Shared→Prop} {x:Str} {t:Tok} {a:Addr} (ho:s.heap.get? a=some o) (hsl:d2y o=true)
  (h:(a2n x (lim (fv o 0)) (lim (fv o 1))=false∧(a1l x (lim (fv o 0)) (lim (fv o 1))).length≤1000000∧R (.ok (.ret (.str (a1l x (lim (fv o 0)) (lim (fv o 1))) s.toks))) { s with toks:=s.toks + 1 })∨(a2n x (lim (fv o 0)) (lim (fv o 1))=true∧R (.ok (.ret (.str x t))) s)):
  codeAny (model prog w) A (cdB false "str.__getitem__" ⟨[.str x t,.ref a],[]⟩) R s:=by
 have hsl:s.heap.IsSlice a (b7q (fv o 0)) (b7q (fv o 1)) none:=⟨o,ho,congrArg Obj.cls (b4p hsl),congrArg Obj.data (b4p hsl)⟩
 refine a1c F.slot_str_getitem F.entry_str_getitem (typeIs_str s x t) (F.args_str_getitem_2 _ _) (meets_str_getitem_slice x t a _ _ none rfl prog w A R s ⟨hsl,?_⟩)
 unfold sliceMade
 have e:∀c,a2n x (lim (fv o 0)) (lim (fv o 1))=c→(((none:Option (Int×Tok)).map (·.1)).getD 1 == 1 && (slicePicked x (b7q (fv o 0)) (b7q (fv o 1)) none).length == x.length)=c:=fun c h=>by
  rw [f4q (slicePicked x _ _ none).length];exact h
 rcases h with ⟨h0,h1,h⟩ | ⟨h0,h⟩
 ·rw [e _ h0];exact ⟨by rw [sizeLine_eq];exact Nat.le_trans h1 (by decide),h⟩
 ·rw [e _ h0];exact h
theorem gSl {o:Obj} {args:Args} (h:(d2y o && ash [3,1] args)=true):d2y o=true∧∃x t a,args=⟨[.str x t,.ref a],[]⟩:=by
 obtain ⟨h1,h2⟩:=a2o h
 exact ⟨h1,_,_,_,a3o h2⟩
theorem e6c:OkC w none false "str.__getitem__" 1 (adN 1) (cIf f1i f0n):=b0q (fun hs args L o o2 s A R _ hg hob ho _ hne ht H=>by
  obtain ⟨h1,x,t,a,rfl⟩:=gSl hg
  exact c8m ho h1 (.inl ⟨hob _ (.head _),hob _ (.tail _ (.head _)),H.keep _ s.toks 1 ht rfl rfl⟩))
 fun hs args L o o2 s A R _ hg hob ho _ hne ht H=>by
  obtain ⟨h1,x,t,a,rfl⟩:=gSl hg
  exact c8m ho h1 (.inr ⟨hob _ (.head _),H.keep _ 1 0 (Nat.le_refl _) rfl rfl⟩)
noncomputable def e1a:PFn:=pOr (ash [3,1]) (p1 1 (cIf f1i f0n)) (p0 fun hs args=>⟨ash [3,2] args,.tok fun t=>.str ⟨⟨[(a4e (av args 0)).cps.toList.getD (a2m (av args 1)).toNat 0]⟩⟩ t,a5r 0,hs.tail.tail,[0≤a2m (av args 1),a2m (av args 1) < (a4e (av args 0)).length,(a4e (av args 0)).length≤1000000]⟩)
theorem d2o:a0i w "str.__getitem__" e1a:=d4h (a5t e6c) (b8j fun hs args s A R _ hg hob ht H=>by
 obtain ⟨x,t,i,u,rfl⟩:∃x t i u,args=⟨[.str x t,.int i u],[]⟩:=⟨_,_,_,_,a3o hg⟩
 have h0:0≤i:=hob _ (.head _)
 have h1:i < x.length:=hob _ (.tail _ (.head _))
 have h2:x.length≤1000000:=hob _ (.tail _ (.tail _ (.head _)))
 have hg:(seqIndex? i x.length).bind (x.cps[·]?)=some (x.cps.toList.getD i.toNat 0):=by
  have e1:seqIndex? i x.length=some i.toNat:=by
   unfold seqIndex?
   simp only [if_neg (Int.not_lt.mpr h0)]
   simp only [show (decide (0≤i) && decide (i < (x.length:Int)))=true by simp [h0,h1],if_true]
  rw [e1,Option.bind_some,List.getD_eq_getElem?_getD,Array.getElem?_toList]
  have:i.toNat < x.cps.size:=by
   have:x.length=x.cps.size:=rfl
   omega
  rw [Array.getElem?_eq_getElem this]
  rfl
 exact a1c F.slot_str_getitem F.entry_str_getitem (typeIs_str s x t) (F.args_str_getitem_2 _ _) ((gives_str_getitem x i t u _ (by simp;omega) hg).meets prog w A R s ⟨by rw [sizeLine_eq];show 1≤_;decide,H _ s.toks 1 ht rfl⟩))
noncomputable def d9n:PFn:=p0 fun hs args=>⟨ash [3,3] args,.tok fun t=>.str (a4e (av args 0)++a4e (av args 1)) t,a5r 0,hs.tail,[(a4e (av args 0)).length≠0,(a4e (av args 1)).length≠0,(a4e (av args 0)++a4e (av args 1)).length≤1000000]⟩
theorem d5e:a0i w "str.__add__" d9n:=b8j fun hs args s A R _ hg hob ht H=>by
 obtain ⟨x,t,y,u,rfl⟩:=gSS hg
 have h0:x.length≠0:=hob _ (.head _)
 have h1:y.length≠0:=hob _ (.tail _ (.head _))
 have h2:(x++y).length≤1000000:=hob _ (.tail _ (.tail _ (.head _)))
 refine a1c F.slot_str_add F.entry_str_add (typeIs_str s x t) (F.args_str_add_2 _ _) ((gives_str_add x y t u).meets prog w A R s ?_)
 have e0:(x.length == 0)=false:=by simpa using h0
 have e1:(y.length == 0)=false:=by simpa using h1
 rw [e0,e1]
 exact ⟨by rw [sizeLine_eq];exact Nat.le_trans h2 (by decide),H _ s.toks 1 ht rfl⟩
noncomputable def b9r (x y:Str):Int:=match Builtin.Str.occurrences x y 0 x.length 1 with
 | i::_=>(i:Int)
 | []=> -1
noncomputable def c8f:PFn:=p0 fun hs args=>⟨ash [3,3] args,.tok fun t=>.int (b9r (a4e (av args 0)) (a4e (av args 1))) t,a5r 0,hs.tail,[]⟩
theorem c4b:a0i w "str.find" c8f:=b8j fun hs args s A R _ hg hob ht H=>by
 obtain ⟨x,t,y,u,rfl⟩:=gSS hg
 exact a1c F.slot_str_find F.entry_str_find (typeIs_str s x t) (F.args_str_find_2 _ _) ((gives_str_find x y t u).meets prog w A R s (H _ s.toks 1 ht rfl))
noncomputable def cep (xs:Array Value):Nat:=match xs.size with
 | 0=>0
 | _ + 1=>1
theorem d2a (xs:Array Value):Obj.mapSeq (· ++xs) (a0a #[] 0)=a0a xs (cep xs):=by
 unfold cep
 cases h:xs.size with
 | zero=>
  have:xs= #[]:=Array.eq_empty_of_size_eq_zero h
  subst this
  rfl
 | succ n=>
  have h0:(#[]++xs).size≠(#[]:Array Value).size:=by simp [h]
  rw [a5c (f:=(· ++xs)) h0]
  simp
noncomputable def e5p:a4y:=fun hs args L o _=>⟨isS o && ash [1] args,.new (a0a (sqD o.data) (cep (sqD o.data))),o,hs,[(sqD o.data).size≤1000000]⟩
noncomputable def d1r:PFn:=p1 0 e5p
theorem c0n:b2f w "proto.collect" d1r:=a5t fun hs args L o o2 s A R _ hg hob ho _ hne ht H=>by
 obtain ⟨h1,h2⟩:=a2o hg
 obtain ⟨a,rfl⟩:=e4o h2
 obtain ⟨xs,n,h⟩:=c9e h1
 obtain ⟨T,hT,hc,hd⟩:∃T,(T="list"∨T="tuple")∧o.cls= .type T∧o.data= .seq xs n:=by rcases h with rfl | rfl;exact ⟨_,.inl rfl,rfl,rfl⟩;exact ⟨_,.inr rfl,rfl,rfl⟩
 have hxs:sqD o.data=xs:=by rw [hd];rfl
 have hsz:(sqD o.data).size≤1000000:=hob _ (.head _)
 rw [hxs] at hsz
 have key:R (.ok (.ret (.ref s.heap.objs.size))) { s with heap:=(s.heap.push (a0a #[] 0)).update s.heap.objs.size (Obj.mapSeq (· ++xs)) }:=H.made _ _ _ rfl rfl rfl rfl (by rw [d2a,←hxs])
 refine b3b F.plain_proto_collect F.entry_proto_collect ?_
 show wpAny _ A.in1 (newList [] >>=fun l=>again (.builtin "list.__iadd__" ⟨[l,.ref a],[]⟩)) _ _ s
 refine wpAny_bind (wpAny_newObj_type ?_)
 refine wpAny_pure ⟨plainId_quiet F.plain_list_iadd _,codeAny_builtin F.entry_list_iadd ?_⟩
 rw [Around.under_plainId F.plain_list_iadd _]
 show wpAny _ A.in1 (Builtin.List.listExtendWith (.ref s.heap.objs.size) (.ref a) (.ref s.heap.objs.size)) _ _ _
 have hS:(s.heap.push { cls:=.type "list",data:=.seq ([]:List Value).toArray }).get? s.heap.objs.size=some { cls:=.type "list",data:=.seq #[] 0 }:=Heap.get?_push_size _ rfl
 refine wpAny_mono (wpAny_extend_seq (items:=xs) (o:=o) (hsz:=by rw [sizeLine_eq];omega) (A:=A) (R:=fun r s'=>r= .ok (.ret (.ref s.heap.objs.size))∧s'={ s with heap:=(s.heap.push (a0a #[] 0)).update s.heap.objs.size (Obj.mapSeq (· ++xs)) })
  (s:={ s with heap:=s.heap.push (a0a #[] 0) }) _ a _ 0 hT hS (Heap.get?_push_of_some _ ho) hc hd ⟨rfl,rfl⟩) (fun fin s' h=>?_) (fun e s' h=>?_)
 ·cases fin with
  | done f=>
   obtain ⟨e,rfl⟩:=h
   have e':f= .ret (.ref s.heap.objs.size):=by injection e
   subst e'
   exact key
  | again c'=>exact ⟨h.1,codeAny_mono h.2 fun r s'' hr=>by obtain ⟨rfl,rfl⟩:=hr;exact key⟩
 ·exact absurd h.1 (by simp)
theorem b3y (l:Addr) (items:Array Value) (n:Nat) (k:Int) (u:Tok) (y:Value) (h0:k < 0) (h1: -(items.size:Int)≤k) (hfit: -(2 ^ 63)≤k) (hx:items[(k + items.size).toNat]?=some y):
  Meets (Builtin.«list.__getitem__» ⟨[.ref l,.int k u],[]⟩) (fun _ R s=>s.heap.get? l=some (a0a items n)∧R (.ok (.ret y)) s):=
 .of_wp fun prog w A R s h=>by
  obtain ⟨ho,h⟩:=h
  show wpAny _ _ (Builtin.List.listSubscript? (.int k u) >>=_) _ _ s
  refine wpAny_bind (wpAny_listSubscript_int (fitsIndex_neg h0 hfit) ?_)
  clear hfit
  have hidx:=PySem.seqIndex_neg h0 h1
  obtain ⟨j,rfl⟩:∃j:Nat,k=Int.negSucc j:=by
   cases k with
   | ofNat n=>exact absurd h0 (Int.not_lt.mpr (Int.natCast_nonneg n))
   | negSucc n=>exact ⟨n,rfl⟩
  show wpAny _ _ ((Builtin.List.listItems (.ref l) >>=fun xs=>pure ((seqIndex? (Int.negSucc j) xs.size).bind fun i=>xs[i]?.map (i,·))) >>=_) _ _ s
  refine wpAny_bind (wpAny_bind ?_)
  show wpAny _ _ (seqItems? (.ref l) >>=_) _ _ s
  refine wpAny_bind (wpAny_seqItems ho rfl (wpAny_pure (wpAny_pure ?_)))
  rw [hidx]
  simp only [Option.bind_some,hx,Option.map_some]
  first
   | exact wpAny_bind (wpAny_pure (wpAny_pure ⟨y,rfl,h⟩))
   | exact wpAny_pure ⟨y,rfl,h⟩
theorem b2j (l:Addr) (items:Array Value) (n:Nat) (u:Tok) (y:Value) (h0:0 < items.size) (hx:items[items.size - 1]?=some y):
  Meets (Builtin.«list.__getitem__» ⟨[.ref l,.int (Int.negSucc 0) u],[]⟩) (fun _ R s=>s.heap.get? l=some (a0a items n)∧R (.ok (.ret y)) s):=
 b3y l items n _ u y (by decide) (by have:Int.negSucc 0= -1:=rfl;omega) (by decide) (by
  have e:(Int.negSucc 0 + (items.size:Int)).toNat=items.size - 1:=by have:Int.negSucc 0= -1:=rfl;omega
  rw [e];exact hx)
noncomputable def e5y:Int→Bool
 | .negSucc n=>Nat.beq n 0
 | .ofNat _=>false
theorem d3n {i:Int} (h:e5y i=true):i=Int.negSucc 0:=by
 cases i with
 | ofNat _=>cases h
 | negSucc n=>rw [show n=0 from Nat.eq_of_beq_eq_true h]
noncomputable def e8q:a4y:=fun hs args L o _=>c8j (isO "list" 0 o && (ash [1,2] args && e5y (a2m (av args 1)))) L hs o (nth (sqD o.data) ((sqD o.data).size - 1)) [0 < (sqD o.data).size,(sqD o.data).size≤1000000]
noncomputable def d4v:PFn:=pOr (fun args=>e5y (a2m (av args 1))) (p1 0 e8q) e4f
theorem c2r:a0i w "list.__getitem__" d4v:=d4h (a5t fun hs args L o o2 s A R hA hg hob ho ho2 hne ht H=>by
 obtain ⟨h1,h2⟩:=a2o hg
 obtain ⟨h3,h4⟩:=a2o h2
 obtain ⟨xs,n,rfl⟩:=a7d h1
 obtain ⟨a,i,t,rfl⟩:=gRI h3
 have e:i=Int.negSucc 0:=d3n h4
 subst e
 have h0:0 < xs.size:=hob _ (.head _)
 exact a1c slot_list_getitem entry_list_getitem ⟨_,ho,rfl⟩ (args_list_getitem _ _) (b2j a xs n t _ h0 (by rw [c0x h0];exact congrArg some (a9g hob).symm) prog w A R s ⟨ho,H.keep _ 1 0 (Nat.le_refl _) rfl rfl⟩)) c0w
noncomputable def gRR:Args→Bool:=ash [1,1]
theorem c8c {args:Args} (h:gRR args=true):∃a b,args=⟨[.ref a,.ref b],[]⟩:=⟨_,_,a3o h⟩
theorem c7z {p:Option (Int×Tok)}:IsPart (partValue p) (p.map (·.1)):=match p with
 | none=>.none
 | some (i,t)=>.int i t
noncomputable def e5k:a4y:=fun hs args L o o2=>⟨isO "list" 0 o && (d2y o2 && gRR args),.new (a0a (slicePick (sqD o.data) (lim (fv o2 0)) (lim (fv o2 1)) none) 0),o,hs,[(sqD o.data).size≤2000000]⟩
noncomputable def c7q:PFn:=pOr gRR (p2 (adN 1) e5k) d4v
theorem c0v:a0i w "list.__getitem__" c7q:=d4h (b5s fun hs args L o o2 s A R hA hg hob ho hos hne ht H=>by
 obtain ⟨h1,h⟩:=a2o hg
 obtain ⟨h2,h3⟩:=a2o h
 obtain ⟨xs,n,rfl⟩:=a7d h1
 have es:=b4p h2
 obtain ⟨a,b,rfl⟩:=c8c h3
 have hsz:xs.size≤2000000:=hob _ (.head _)
 replace H:=H.new _ rfl rfl rfl
 revert es H
 show o2=slP (b7q (fv o2 0)) (b7q (fv o2 1))→R (.ok (.ret (.ref s.heap.objs.size))) { s with heap:=s.heap.push (a0a (slicePick xs ((b7q (fv o2 0)).map (·.1)) ((b7q (fv o2 1)).map (·.1)) none) 0) }→_
 generalize b7q (fv o2 0)=lo
 generalize b7q (fv o2 1)=hi
 intro es H
 subst es
 have hTs:s.TypeIs (.ref b) "slice":=⟨_,hos,rfl⟩
 refine a1c slot_list_getitem entry_list_getitem ⟨_,ho,rfl⟩ (args_list_getitem _ _) ?_
 show wpAny _ _ (Builtin.List.listSubscript? (.ref b) >>=_) _ _ s
 refine wpAny_bind ?_
 unfold Builtin.List.listSubscript?
 refine wpAny_bind (wpAny_specialOf hTs slice_no_index ?_)
 simp only [Option.isNone_none,if_true]
 refine wpAny_pure ?_
 show wpAny _ _ (typeOf (.ref b) >>=_) _ _ s
 refine wpAny_bind (wpAny_typeOf hTs ?_)
 rw [if_neg (by decide)]
 rw [listSliceParts_eq]
 refine wpAny_bind (wpAny_bind (wpAny_field hos rfl (x:=.none) rfl (wpAny_bind (wpAny_listPart (k:=none) .none ?_))))
 rw [if_neg (show ¬((rawPart none == rawInt 0)=true) from Bool.false_ne_true)]
 refine wpAny_bind (wpAny_field hos rfl (x:=partValue lo) rfl (wpAny_bind (wpAny_listPart c7z ?_)))
 refine wpAny_bind (wpAny_field hos rfl (x:=partValue hi) rfl (wpAny_bind (wpAny_listPart c7z (wpAny_pure ?_))))
 refine wpAny_bind (m:=Builtin.List.listItems (.ref a)) ?_
 unfold Builtin.List.listItems
 refine wpAny_bind (wpAny_seqItems ho rfl (wpAny_pure ?_))
 refine wpAny_bind (wpAny_of_eq (sliceIndices_raw _ _ none xs.size (by simp)) ?_)
 exact wpAny_bind (wpAny_newObj_type (wpAny_pure H) (Nat.le_trans (slicePick_size_le xs _ _ none) (by rw [sizeLine_eq];omega)))) c2r
noncomputable def e7a:a4y:=fun hs args L o o2=>⟨isO "list" 0 o && (isO "list" 0 o2 && gRR args),.new (a0a (sqD o.data++sqD o2.data) 0),o,hs,[(sqD o.data).size + (sqD o2.data).size≤1000000]⟩
noncomputable def d8x:PFn:=p2 (adN 1) e7a
theorem d5b:a0i w "list.__add__" d8x:=b5s fun hs args L o o2 s A R hA hg hob ho ho2 hne ht H=>by
 obtain ⟨h1,h⟩:=a2o hg
 obtain ⟨h2,h3⟩:=a2o h
 obtain ⟨xs,n,rfl⟩:=a7d h1
 obtain ⟨ys,m,rfl⟩:=a7d h2
 obtain ⟨a,b,rfl⟩:=c8c h3
 have hsz:xs.size + ys.size≤1000000:=hob _ (.head _)
 exact a1c F.slot_list_add F.entry_list_add ⟨_,ho,rfl⟩ (F.args_list_add_2 _ _) (AutoSeq1.list___add___list_list_0 a xs n b ys m (by rw [sizeLine_eq];omega) prog w A R s ⟨ho,ho2,H.new _ rfl rfl rfl⟩)
end
noncomputable def b3x:List (Nat×PFn)→Nat→Option PFn
 | [],_=>none
 | q::l,n=>match Nat.beq q.1 n with
  | true=>some q.2
  | false=>b3x l n
noncomputable def e4v (P:Params):List (Nat×PFn):=[
 (455126531311803185852266,c7l (fun x y=>x < y)),(455126529904428302298986,c7l (fun x y=>x > y)),(455126313168696235093866,c7l (fun x y=>x=y)),(455125451010842570354538,c7l (fun x y=>x≠y)),
 (128106587276438692081757506308484131437,e4f),(128106587276438692082622197436939266669,f0w),(122627580202994350266018413,f0t),(8174157772325415533,e3z),(29827143893661030152192420461,f1q),
 (36058839055461744822429329989390181918337346850548333,c6b),(PySem.W.S.codeS "int.__rshift__",f0p),(PySem.W.S.codeS "len",d4r),
 (PySem.W.S.codeS "dict.__getitem__",d2w P),(PySem.W.S.codeS "dict.__contains__",e1p P),(PySem.W.S.codeS "dict.get",e8a P),(PySem.W.S.codeS "dict.__setitem__",d6k P),(PySem.W.S.codeS "dict.__delitem__",d4e P),
 (PySem.W.S.codeS "str.__eq__",c0m fun x y=>x=y),(PySem.W.S.codeS "str.__ne__",c0m fun x y=>x≠y)]
noncomputable def d8z:List (Nat×PFn):=[(PySem.W.S.codeS "len",d4r)]
noncomputable def d4z (P:Params) (b:Bool) (n:Nat):Option PFn:=match b with
 | false=>b3x (e4v P) n
 | true=>b3x d8z n
theorem b8p {q:Nat×PFn} {l n p} (h:b3x (q::l) n=some p):(q.1=n∧q.2=p)∨b3x l n=some p:=by
 unfold b3x at h
 split at h
 ·rename_i e;cases h;exact .inl ⟨Nat.eq_of_beq_eq_true e,rfl⟩
 ·exact .inr h
theorem b9x {id id':String} {n:Nat} (h:n=PySem.W.S.codeS id) (e:PySem.code id'=n):id'=id:=PySem.code_inj _ _ (by rw [e,h,PySem.W.S.code_S])
theorem b6w (w:World):d0e w (KK w.params) (d4z w.params):=by
 intro b id p hp
 have go:∀{P:String→PFn→Prop} {q:Nat×PFn} {l:List (Nat×PFn)} (id':String),PySem.code id'=q.1→P id' q.2→(b3x l (PySem.W.S.codeS id)=some p→P id p)→b3x (q::l) (PySem.W.S.codeS id)=some p→P id p:=by
  intro P q l id' e ok rest h
  rcases b8p h with ⟨h1,h2⟩ | h
  ·have:=b9x h1 e
   subst this
   subst h2
   exact ok
  ·exact rest h
 cases b with
 | false=>
  refine go (P:=fun id p=>a0i w id p) "int.__lt__" (by decide +kernel) e5d (go (P:=fun id p=>a0i w id p) "int.__gt__" (by decide +kernel) e8i (go (P:=fun id p=>a0i w id p) "int.__eq__" (by decide +kernel) e7i (go (P:=fun id p=>a0i w id p) "int.__ne__" (by decide +kernel) e6q (go (P:=fun id p=>a0i w id p) "list.__getitem__" (by decide +kernel) c0w (go (P:=fun id p=>a0i w id p) "list.__setitem__" (by decide +kernel) e0v (go (P:=fun id p=>a0i w id p) "list.append" (by decide +kernel) d7j (go (P:=fun id p=>a0i w id p) "list.pop" (by decide +kernel) c0b (go (P:=fun id p=>a0i w id p) "list.__len__" (by decide +kernel) d5m (go (P:=fun id p=>a0i w id p) "list_iterator.__next__" (by decide +kernel) b9h (go (P:=fun id p=>a0i w id p) "int.__rshift__" (PySem.W.S.code_S _) d7c (go (P:=fun id p=>a0i w id p) "len" (PySem.W.S.code_S _) c9d (go (P:=fun id p=>a0i w id p) "dict.__getitem__" (PySem.W.S.code_S _) c0e (go (P:=fun id p=>a0i w id p) "dict.__contains__" (PySem.W.S.code_S _) d5i (go (P:=fun id p=>a0i w id p) "dict.get" (PySem.W.S.code_S _) c7y (go (P:=fun id p=>a0i w id p) "dict.__setitem__" (PySem.W.S.code_S _) d0j (go (P:=fun id p=>a0i w id p) "dict.__delitem__" (PySem.W.S.code_S _) c1o (go (P:=fun id p=>a0i w id p) "str.__eq__" (PySem.W.S.code_S _) e2r (go (P:=fun id p=>a0i w id p) "str.__ne__" (PySem.W.S.code_S _) d9w fun h=>by cases h)))))))))))))))))) hp
 | true=>
  refine go (P:=fun id p=>b2f w id p) "len" (PySem.W.S.code_S _) c9d (fun h=>by cases h) hp
theorem b7a (c:Code):c.cUnits≤10:=by
 have hf:c.frames≤3:=by
  unfold Code.frames
  repeat' split
  all_goals omega
 unfold Code.cUnits
 split <;> omega
theorem b4h {A:Around}:∀(fs:List Fr) (c:Code),((aro A fs).under c).units≤A.units + 10 * (fs.length + 1)
 | [],c=>by
  have:=b7a c
  show A.units + c.cUnits≤_
  simp;omega
 | f::fs,c=>by
  have h1:=b4h (A:=A) fs f.c
  have h2:=b7a c
  show ((aro A fs).under f.c).units + c.cUnits≤_
  rw [List.length_cons]
  omega
structure b1v (A:Around) (d u:Nat):Prop where
 depth:A.depth≤d
 units:A.units≤u
 handled:A.handled=none
theorem b6g {A:Around} {D U:Nat} (h:b1v A D U) {c:Code} {fs:List Fr} {d:Nat} (hd:dep c fs=some d) (hfs:∀f∈fs,f.hd=none):b1v ((aro A fs).under c) (D + d) (U + 10 * (fs.length + 1)):=
 ⟨by have:=a8q (A:=A) hd;have:=h.depth;omega,by have:=b4h (A:=A) fs c;have:=h.units;omega,by rw [a4d,a6c hfs,h.handled]⟩
theorem b1v.le {A:Around} {d u d' u':Nat} (h:b1v A d u) (h1:d≤d') (h2:u≤u'):b1v A d' u':=⟨Nat.le_trans h.depth h1,Nat.le_trans h.units h2,h.handled⟩
theorem a8u (P:Params):∀h:Heap,(∀a o,KK P a=some o→h.get? a=some o)→h.NoLimit:=by
 intro h H
 have h2:h.get? cStatics=some (k2 P):=H 2 (k2 P) rfl
 refine ⟨fun _=>none,?_,rfl⟩
 exact ⟨_, #[],0,h2,rfl,fun _ hm=>by simp at hm,fun n=>by simp [nsFind,findBy]⟩
noncomputable def f0b (f:String→Bool) (b1 b2:Bool):String→Bool:=fun r=>match Nat.beq (PySem.W.S.codeS r) 10139888712337904147300001983332972444938612 with
 | true=>b1
 | false=>match Nat.beq (PySem.W.S.codeS r) 2510650655181157320538776789020469319833841985448949215332 with
  | true=>b2
  | false=>f r
noncomputable def W (w:World) (b1 b2:Bool):World:={ w with params:={ w.params with followText:=f0b w.params.followText b1 b2 } }
theorem f3s (w:World):w=W w (w.params.followText "special-get-raises") (w.params.followText "comprehension-iter-twice"):=by
 have:f0b w.params.followText (w.params.followText "special-get-raises") (w.params.followText "comprehension-iter-twice")=w.params.followText:=by
  funext r
  unfold f0b
  split
  ·rename_i h
   rw [b2g (id:="special-get-raises") h (by decide +kernel)]
  ·split
   ·rename_i h
    rw [b2g (id:="comprehension-iter-twice") h (by decide +kernel)]
   ·rfl
 unfold W
 rw [this]
noncomputable abbrev vv (w:World) (fr:Nat→Addr) (tk:Nat→Tok):XP:=vx w (KK w.params) none (d4z w.params) fr tk
noncomputable abbrev a4s (w:World) (L:Led) (s:Shared):Prop:=Sat (KK w.params) L s
section
variable {w:World} {A:Around} {bot:Result→Shared→Prop}
theorem c0i {D U:Nat} (hA:b1v A D U) (hD:D≤600) {n hs c fs t L s} (hfs:∀f∈fs,f.hd=none)
  (H:∀fr tk,f1a w (KK w.params) A bot s L (exec (vv w fr tk) n hs c fs t L 0 0 [] [])) (S:a4s w L s):a2p w A bot c fs t s:=
 a6b (a2a hA.handled (by have:=hA.depth;exact Nat.le_trans this (Nat.le_trans hD (by decide)))) (a8u w.params) (b6w w) n hs c fs t L s hfs (fun fr tk=>H fr tk) S
noncomputable def d8k (o:Out):Option Result:=match o.fs with
 | []=>match o.t with
  | .pure fin=>match fin with
   | .done fl=>some (.ok fl)
   | .again _=>none
  | .raise e=>some (.error e)
  | _=>none
 | _::_=>none
theorem a3x {o:Out} {r:Result} {s:Shared} (h:d8k o=some r) (hb:bot r s):a2p w A bot o.c o.fs o.t s:=by
 unfold d8k at h
 split at h
 ·rename_i hfs
  rw [hfs]
  split at h
  ·rename_i ht
   rw [ht]
   split at h
   ·cases h;exact x_pure hb
   ·cases h
  ·rename_i ht
   rw [ht]
   cases h;exact x_raise hb
  ·cases h
 ·cases h
theorem a7b {es:List (Addr×Addr)} (h:es.map (·.1)=es.map (·.2)):b3d es:=by
 intro p hp
 induction es with
 | nil=>cases hp
 | cons x l ih=>
  rw [List.map_cons,List.map_cons] at h
  injection h with h1 h2
  rcases List.mem_cons.mp hp with rfl | hp
  ·exact h1
  ·exact ih h2 hp
noncomputable def vw (o:Out):Bool×Option Result×Led×List Prop×List Addr:=(o.ok,d8k o,o.L,o.ob,o.es.map (·.1))
noncomputable def wt (o:Out) (r:Result) (L:Led) (ob:List Prop):Bool×Option Result×Led×List Prop×List Addr:=(true,some r,L,ob,o.es.map (·.2))
theorem c0k {s:Shared} {L L':Led} {o:Out} {r:Result} {ob:List Prop} (e:vw o=wt o r L' ob) (hob:∀p∈ob,p) (hb:∀s',a4s w L' s'→Ext L s s'→a0j L L' s→bot r s'):f1a w (KK w.params) A bot s L o:=by
 unfold vw wt at e
 simp only [Prod.mk.injEq] at e
 obtain ⟨e1,e2,e3,e4,e5⟩:=e
 exact ⟨e1,a7b e5,by rw [e4];exact hob,fun s' S' E' G'=>a3x e2 (hb s' (e3▸S') E' (e3▸G'))⟩
noncomputable def a6z (t:Sem PySem.Fin):Option Code:=match t with
 | .call c hd _ _ _=>match hd with
  | none=>some c
  | some _=>none
 | _=>none
noncomputable def cont (t:Sem PySem.Fin) (r:Result):Sem PySem.Fin:=match t with
 | .call _ _ _ _ k=>k r
 | _=>.unsupported "cont"
noncomputable def vc (o:Out):Bool×Option Code×Option Nat×Nat×Led×List Prop×List Addr:=(o.ok,a6z o.t,dep o.c o.fs,o.fs.length,o.L,o.ob,o.es.map (·.1))
noncomputable def wc (o:Out) (c:Code) (d m:Nat) (L:Led) (ob:List Prop):Bool×Option Code×Option Nat×Nat×Led×List Prop×List Addr:=(true,some c,some d,m,L,ob,o.es.map (·.2))
theorem a6n {c c':Code} {fs:List Fr} {t:Sem PySem.Fin} {s:Shared} (h:a6z t=some c') (hc:codeAny (model prog w) ((aro A fs).under c) c' (fun r s'=>a2p w A bot c fs (cont t r) s') s):a2p w A bot c fs t s:=by
 unfold a6z at h
 split at h
 ·split at h
  ·cases h
   exact a2p.call hc
  ·cases h
 ·cases h
end
noncomputable def a2k:Code:=.block [] default
theorem b5o (A:Around):A.under a2k=A:=Around.under_of_weight rfl rfl
noncomputable abbrev a2q:=PySem.W.Fast.tw12563942051412417395
noncomputable abbrev a2r:=PySem.W.Fast.tw14044960220447912780
noncomputable abbrev a4f:=PySem.W.Fast.tw15418851999007992765
theorem a2l:execs=a2q:=PySem.W.Fast.te12563942051412417395
theorem a1i:eval=a2r:=PySem.W.Fast.te14044960220447912780
theorem a3k:PySem.isTrue=a4f:=PySem.W.Fast.te15418851999007992765
noncomputable def tr {α:Type} (enc:α→Flow) (x:Sem α):Sem PySem.Fin:=R.bindR x (fun a=>.pure (.done (enc a)))
theorem e8o {α:Type} (enc:α→Flow) (x:Sem α):tr enc x=x >>=fun a=>pure (.done (enc a)):=by
 unfold tr
 rw [←R.bindR_eq];rfl
noncomputable def e7q (f:Flow):Flow:=f
noncomputable def e5h (v:Value):Flow:=.ret v
noncomputable def f1r (b:Bool):Flow:=.ret (.bool b)
noncomputable def f0x (_:Unit):Flow:=.next
section
variable {w:World} {A:Around} {E:Value→Shared→Prop} {s:Shared}
noncomputable def d3t {α:Type} (enc:α→Flow) (Q:α→Shared→Prop) (E:Value→Shared→Prop):Result→Shared→Prop:=fun r s'=>match r with
 | .ok fl=>∃a,fl=enc a∧Q a s'
 | .error e=>E e s'
theorem b2e {α:Type} {enc:α→Flow} (inj:∀a b,enc a=enc b→a=b) {x y:Sem α} (e:x=y) {Q:α→Shared→Prop} (h:a2p w A (d3t enc Q E) a2k [] (tr enc y) s):wpAny (model prog w) A x Q E s:=by
 subst e
 unfold a2p at h
 rw [e8o] at h
 have h':wpAny (model prog w) A (x >>=fun a=>pure (.done (enc a))) (postC prog w A (d3t enc Q E)) (postE (d3t enc Q E)) s:=by
  have e:(aro A []).under a2k=A:=b5o A
  rw [e] at h
  exact h
 intro Γ p hΓ
 have:=h' Γ p hΓ
 rw [Sem.wp_bind'] at this
 refine Sem.wp_mono _ Γ x (fun a p' s' q=>?_) (fun e p' s' q=>q) p s this
 obtain ⟨b,eb,hq⟩:=(q:∃b,enc a=enc b∧Q b s')
 rw [inj a b eb];exact hq
theorem d4a {α:Type} {enc:α→Flow} (inj:∀a b,enc a=enc b→a=b) {x y:Sem α} (e:x=y) {D U:Nat} (hA:b1v A D U) (hD:D≤600) (n:Nat) (hs:List Nat) {L:Led} {Q:α→Shared→Prop}
  (a:(Nat→Addr)→(Nat→Tok)→α) (L':(Nat→Addr)→(Nat→Tok)→Led) (ob:(Nat→Addr)→(Nat→Tok)→List Prop)
  (ev:∀fr tk,vw (exec (vv w fr tk) n hs a2k [] (tr enc y) L 0 0 [] [])=wt (exec (vv w fr tk) n hs a2k [] (tr enc y) L 0 0 [] []) (.ok (enc (a fr tk))) (L' fr tk) (ob fr tk))
  (hob:∀fr tk,∀p∈ob fr tk,p) (S:a4s w L s) (hQ:∀fr tk s',a4s w (L' fr tk) s'→Ext L s s'→a0j L (L' fr tk) s→Q (a fr tk) s'):wpAny (model prog w) A x Q E s:=
 b2e inj e (c0i hA hD (fun _ h=>nomatch h) (fun fr tk=>c0k (ev fr tk) (hob fr tk) fun s' S' E' G'=>⟨_,rfl,hQ fr tk s' S' E' G'⟩) S)
theorem b8l:∀a b,e7q a=e7q b→a=b:=fun _ _ h=>h
theorem b3n:∀a b,e5h a=e5h b→a=b:=fun _ _ h=>by cases h;rfl
theorem c8z:∀a b,f1r a=f1r b→a=b:=fun _ _ h=>by cases h;rfl
theorem b1r {c:Code} {R:Result→Shared→Prop} (h:a2p w A R c [] (.pure (.again c)) s):codeAny (model prog w) A c R s:=by
 have:=h
 unfold a2p at this
 intro Γ p hc hΓ
 obtain ⟨hq,hh⟩:=(this Γ p (hc▸hΓ.in):_∧_)
 exact hh Γ p hc hΓ
end
noncomputable abbrev a3j:Str:=⟨⟨[104,101,97,112]⟩⟩
noncomputable abbrev e2q:Str:=⟨⟨[105,116,101,109]⟩⟩
noncomputable abbrev a2x:Str:=⟨⟨[108,97,115,116,101,108,116]⟩⟩
noncomputable abbrev a1t:Str:=⟨⟨[114,101,116,117,114,110,105,116,101,109]⟩⟩
noncomputable abbrev a5o:Str:=⟨⟨[115,116,97,114,116,112,111,115]⟩⟩
noncomputable abbrev c4m:Str:=⟨⟨[112,111,115]⟩⟩
noncomputable abbrev a6u:Str:=⟨⟨[110,101,119,105,116,101,109]⟩⟩
noncomputable abbrev b6j:Str:=⟨⟨[112,97,114,101,110,116,112,111,115]⟩⟩
noncomputable abbrev c4p:Str:=⟨⟨[112,97,114,101,110,116]⟩⟩
noncomputable abbrev b7n:Str:=⟨⟨[101,110,100,112,111,115]⟩⟩
noncomputable abbrev b0v:Str:=⟨⟨[99,104,105,108,100,112,111,115]⟩⟩
noncomputable abbrev b8m:Str:=⟨⟨[114,105,103,104,116,112,111,115]⟩⟩
noncomputable abbrev c0u:Str:=⟨⟨[110,117,109,98,101,114,115]⟩⟩
noncomputable abbrev c3g:Str:=⟨⟨[110,97,109,101,115]⟩⟩
noncomputable abbrev a7n:Str:=⟨⟨[114,111,97,100,115]⟩⟩
noncomputable abbrev s_x:Str:=⟨⟨[120]⟩⟩
noncomputable abbrev a3p:Str:=⟨⟨[111,110,101]⟩⟩
noncomputable abbrev d4y:Str:=⟨⟨[116,119,111]⟩⟩
noncomputable abbrev c6y:Str:=⟨⟨[116,97,103]⟩⟩
noncomputable abbrev b1n:Str:=⟨⟨[110,117,109,98,101,114]⟩⟩
noncomputable abbrev b1a:Str:=⟨⟨[116,104,105,110,103]⟩⟩
noncomputable abbrev d4q:Str:=⟨⟨[116,111,107,101,110]⟩⟩
noncomputable abbrev a8o:Str:=⟨⟨[116,104,105,110,103,115]⟩⟩
noncomputable abbrev c8o:Str:=⟨⟨[105,110,116,111]⟩⟩
noncomputable abbrev d2h:Str:=⟨⟨[112,108,97,99,101]⟩⟩
noncomputable abbrev c5z:Str:=⟨⟨[111,102,102,101,114,115]⟩⟩
noncomputable abbrev b6r:Str:=⟨⟨[111,114,105,103,105,110]⟩⟩
noncomputable abbrev b7p:Str:=⟨⟨[110,97,109,101]⟩⟩
noncomputable abbrev d5g:Str:=⟨⟨[103,114,111,117,112]⟩⟩
noncomputable abbrev c4s:Str:=⟨⟨[115,111,114,116,101,114]⟩⟩
noncomputable abbrev a4t:Str:=l66
noncomputable abbrev c9v:Str:=⟨⟨[111,117,116]⟩⟩
noncomputable abbrev c7p:Str:=⟨⟨[112,105,99,107,101,100]⟩⟩
noncomputable abbrev c0t:Str:=⟨⟨[114,111,97,100]⟩⟩
noncomputable abbrev b9j:Str:=⟨⟨[115,116,97,114,116]⟩⟩
noncomputable abbrev c9f:Str:=⟨⟨[116,111,112,115]⟩⟩
noncomputable abbrev c1g:Str:=⟨⟨[107,110,111,119,110]⟩⟩
noncomputable abbrev e9m:Str:=⟨⟨[102,97,114]⟩⟩
noncomputable abbrev a4h:Str:=⟨⟨[111,116,104,101,114]⟩⟩
noncomputable abbrev b1x:Str:=⟨⟨[108,101,110,103,116,104]⟩⟩
noncomputable abbrev d0n:Str:=⟨⟨[108,101,97,115,116]⟩⟩
noncomputable abbrev c9x:Str:=⟨⟨[103,111,105,110,103]⟩⟩
noncomputable abbrev d9o:Str:=⟨⟨[115,105,122,101]⟩⟩
noncomputable abbrev c5a:Str:=⟨⟨[115,99,114,105,112,116]⟩⟩
noncomputable abbrev e6k:Str:=⟨⟨[111,119,110]⟩⟩
noncomputable abbrev d6z:Str:=⟨⟨[114,111,119,115]⟩⟩
noncomputable abbrev b3g:Str:=⟨⟨[115,101,108,102]⟩⟩
noncomputable abbrev b7m:Str:=l36
noncomputable abbrev c8v:Str:=⟨⟨[114,111,111,116]⟩⟩
noncomputable abbrev a9x:Str:=⟨⟨[112,114,101,100,101,99,101,115,115,111,114,115]⟩⟩
noncomputable abbrev b6o:Str:=⟨⟨[114,101,115,117,108,116]⟩⟩
noncomputable abbrev b0p:Str:=⟨⟨[110,111,100,101,105,110,102,111]⟩⟩
noncomputable abbrev d8h:Str:=⟨⟨[112,114,101,100]⟩⟩
noncomputable abbrev b5l:Str:=⟨⟨[112,114,101,100,95,105,110,102,111]⟩⟩
noncomputable abbrev d3r:Str:=⟨⟨[110,50,105]⟩⟩
noncomputable abbrev d4u:Str:=⟨⟨[110,111,100,101,115]⟩⟩
noncomputable abbrev e0p:Str:=⟨⟨[115,116,97,116]⟩⟩
noncomputable abbrev b5q:Str:=⟨⟨[115,117,99,99,101,115,115,111,114]⟩⟩
noncomputable abbrev a8e:Str:=⟨⟨[115,117,99,99,101,115,115,111,114,95,105,110,102,111]⟩⟩
noncomputable abbrev d4i:Str:=⟨⟨[115,116,97,99,107]⟩⟩
noncomputable abbrev c3s:Str:=⟨⟨[105,116,115,116,97,99,107]⟩⟩
noncomputable abbrev e3n:Str:=⟨⟨[115,101,101,110]⟩⟩
noncomputable abbrev b1y:Str:=⟨⟨[110,111,100,101,50,115,116,97,99,107,105]⟩⟩
noncomputable abbrev c3q:Str:=⟨⟨[99,111,110,116,101,120,116]⟩⟩
noncomputable abbrev e0a:Str:=⟨⟨[101,108,101,109]⟩⟩
noncomputable abbrev c7i:Str:=⟨⟨[101,108,95,116,97,103]⟩⟩
noncomputable abbrev a5h:Str:=⟨⟨[95,105,115,105,110,115,116,97,110,99,101]⟩⟩
noncomputable abbrev d0i:Str:=⟨⟨[95,115,116,114]⟩⟩
noncomputable abbrev c6f:Str:=⟨⟨[115,117,102,102,105,120]⟩⟩
noncomputable abbrev c9r:Str:=⟨⟨[110,111,95,110,115]⟩⟩
noncomputable abbrev f2p:Str:=⟨⟨[110,115]⟩⟩
noncomputable abbrev c0z:Str:=⟨⟨[110,115,95,111,110,108,121]⟩⟩
noncomputable abbrev b5e:Str:=⟨⟨[95,110,111,100,101,50,105,110,102,111]⟩⟩
noncomputable abbrev b1g:Str:=⟨⟨[95,114,101,97,100,121,95,110,111,100,101,115]⟩⟩
noncomputable abbrev b2u:Str:=⟨⟨[95,110,112,97,115,115,101,100,111,117,116]⟩⟩
noncomputable abbrev b5d:Str:=⟨⟨[95,110,102,105,110,105,115,104,101,100]⟩⟩
noncomputable def a0k (P:Params):List (Str×Tok×Value)→List DictEntry
 | []=>[]
 | e::l=>ent P e.1 e.2.1 e.2.2::a0k P l
noncomputable def fob (P:Params) (es:List (Str×Tok×Value)) (n:Nat):Obj:=⟨.type "frame",none,.dict ⟨a0k P es⟩ n,⟨[]⟩⟩
noncomputable def b9t:Stmt→Scope
 | .FunctionDef _ _ _ _ _ _ scope _ _ _=>scope
 | _=>default
noncomputable def b6b (st:Stmt) (q:Str) (self code F:Addr) (cells:List (Str×Addr)):Env:={ scope:=b9t st,locals:=F,globals:=3,cells,qual:=q++l67,func:=some self,code:=.ref code,frame:=some F,builtins:=0 }
noncomputable def lpT (s:Stmt):Expr:=match s with
 | .While t _ _ _=>t
 | .If t _ _ _=>t
 | _=>.Constant .none 0 default
noncomputable def lpB (s:Stmt):List Stmt:=a1e s
structure a4j (L:Led) (s s':Shared):Prop where
 keep:∀b o,s.heap.get? b=some o→b∉L.map (·.1)→s'.heap.get? b=some o
 size:s.heap.objs.size≤s'.heap.objs.size
 toks:s.toks≤s'.toks
 gens:AllBare s.gens→AllBare s'.gens
 os:s'.os=s.os
theorem Ext.weak {L s s'} (h:Ext L s s'):a4j L s s':=⟨h.keep,h.size,h.toks,fun g=>by rw [h.gens];exact g,h.os⟩
theorem a4j.refl (L:Led) (s:Shared):a4j L s s:=(Ext.refl L s).weak
theorem a4j.trans {L L₁:Led} {s s₁ s₂:Shared} (a:a4j L s s₁) (g:a0j L L₁ s) (b:a4j L₁ s₁ s₂):a4j L s s₂:=
 ⟨fun x o h n=>b.keep x o (a.keep x o h n) fun m=>(g x m).elim n fun q=>absurd (Heap.lt_size h) (Nat.not_lt.mpr q),Nat.le_trans a.size b.size,Nat.le_trans a.toks b.toks,fun q=>b.gens (a.gens q),b.os.trans a.os⟩
theorem a0j.trans' {L L₁ L₂:Led} {s s₁:Shared} (a:a0j L L₁ s) (h:a4j L s s₁) (b:a0j L₁ L₂ s₁):a0j L L₂ s:=
 fun x m=>(b x m).elim (a x) fun q=>.inr (Nat.le_trans h.size q)
noncomputable def a2i (L M:Led):Prop:=∃F,M.Perm (L++F)
inductive PR {α:Type} (R:α→Led→Prop) (r:α) (L:Led):Prop | mk (M):a2i M L→R r M→PR R r L
theorem a2i.refl (L:Led):a2i L L:=⟨[],by rw [List.append_nil]⟩
theorem a2i.mem {L M:Led} (h:a2i L M) {q} (hq:q∈L):q∈M:=h.elim fun _ p=>p.mem_iff.mpr (List.mem_append_left _ hq)
theorem a2i.memA {L M:Led} (h:a2i L M) {a} (ha:a∈L.map (·.1)):a∈M.map (·.1):=by
 obtain ⟨q,hq,rfl⟩:=List.mem_map.mp ha
 exact List.mem_map_of_mem (h.mem hq)
theorem a2i.nodup {L M:Led} (h:a2i L M) (n:(M.map (·.1)).Nodup):(L.map (·.1)).Nodup:=by
 obtain ⟨F,p⟩:=h
 have:=(p.map (·.1)).nodup_iff.mp n
 rw [List.map_append] at this
 exact (List.nodup_append.mp this).1
theorem a2i.of_perm {L M:Led} (h:M.Perm L):a2i L M:=⟨[],by rw [List.append_nil];exact h⟩
theorem a2i.trans {L M N:Led} (a:a2i L M) (b:a2i M N):a2i L N:=by
 obtain ⟨F,p⟩:=a
 obtain ⟨G,q⟩:=b
 exact ⟨F++G,q.trans (by rw [←List.append_assoc];exact p.append_right G)⟩
theorem a2i.app (L F:Led):a2i L (L++F):=⟨F,.refl _⟩
theorem a2i.app' (L F:Led):a2i L (F++L):=⟨F,List.perm_append_comm⟩
theorem a2i.both {L M:Led} (h:a2i L M) (F:Led):a2i (L++F) (M++F):=by
 obtain ⟨G,p⟩:=h
 refine ⟨G,(p.append_right F).trans ?_⟩
 rw [List.append_assoc,List.append_assoc]
 exact List.Perm.append_left L List.perm_append_comm
theorem a2i.cons {L M:Led} (q) (h:a2i L M):a2i (q::L) (q::M):=by
 obtain ⟨F,p⟩:=h
 exact ⟨F,p.cons q⟩
theorem a2i.skip {L M:Led} (q) (h:a2i L M):a2i L (q::M):=by
 obtain ⟨F,p⟩:=h
 exact ⟨q::F,(p.cons q).trans (List.perm_middle.symm)⟩
theorem a2i.nil (M:Led):a2i [] M:=⟨M,.refl _⟩
theorem Sat.part {KK L M s} (S:Sat KK M s) (h:a2i L M):Sat KK L s:=⟨fun q hq=>S.led q (h.mem hq),h.nodup S.nd,S.kk,fun q hq=>S.nk q (h.mem hq),S.tok⟩
theorem a0j.part {L M M':Led} {s} (g:a0j L M s) (h:a2i M' M):a0j L M' s:=fun a ha=>g a (h.memA ha)
theorem a0j.pre {L L' M:Led} {s} (g:a0j L M s) (h:a2i L L'):a0j L' M s:=fun a ha=>(g a ha).imp_left h.memA
theorem a4j.pre {L L':Led} {s s'} (e:a4j L s s') (h:a2i L L'):a4j L' s s':=⟨fun b o hb n=>e.keep b o hb fun m=>n (h.memA m),e.size,e.toks,e.gens,e.os⟩
theorem Sat.frame {KK} {L L' F:Led} {s s':Shared} (S:Sat KK (L++F) s) (S':Sat KK L' s') (e:a4j L s s') (g:a0j L L' s):Sat KK (L'++F) s':=by
 have nd:=S.nd
 rw [List.map_append,List.nodup_append] at nd
 refine ⟨fun q hq=>?_,?_,S'.kk,fun q hq=>?_,S'.tok⟩
 ·rcases List.mem_append.mp hq with h | h
  ·exact S'.led q h
  ·exact e.keep q.1 q.2 (S.led q (List.mem_append_right _ h)) fun m=>nd.2.2 _ m _ (List.mem_map_of_mem h) rfl
 ·rw [List.map_append,List.nodup_append]
  refine ⟨S'.nd,nd.2.1,fun a ha b hb=>?_⟩
  rintro rfl
  rcases g a ha with h | h
  ·exact nd.2.2 a h a hb rfl
  ·obtain ⟨q,hq,rfl⟩:=List.mem_map.mp hb
   exact absurd (Heap.lt_size (S.led q (List.mem_append_right _ hq))) (Nat.not_lt.mpr h)
 ·rcases List.mem_append.mp hq with h | h
  ·exact S'.nk q h
  ·exact S.nk q (List.mem_append_right _ h)
noncomputable def Okl (L:Led):Prop:=(L.map (·.1)).Nodup
noncomputable abbrev a6i:=Result→Led→Prop
noncomputable def Res {α:Type} (w:World) (L:Led) (s:Shared) (R:α→Led→Prop):α→Shared→Prop:=fun r s'=>∃L',An4 (R r L') (a4s w L' s') (a4j L s s') (a0j L L' s)
noncomputable def a0y (w:World) (D U:Nat) (c:Code) (L:Led) (R:a6i):Prop:=∀A s,b1v A D U→a4s w L s→codeAny (model prog w) A c (Res w L s R) s
noncomputable def a0b (w:World) (D U:Nat) {α:Type} (x:Sem α) (L:Led) (Q:α→Led→Prop):Prop:=∀A s E,b1v A D U→a4s w L s→wpAny (model prog w) A x (Res w L s Q) E s
noncomputable def a0x (w:World) (D U:Nat) (c:Code) (fs:List Fr) (t:Sem PySem.Fin) (L:Led) (R:a6i):Prop:=∀A s,b1v A D U→a4s w L s→a2p w A (Res w L s R) c fs t s
section
variable {w:World} {D U:Nat}
theorem a1p {α:Type} {L M:Led} {s s':Shared} {R R':α→Led→Prop} {r:α} (hp:a2i L M) (h:Res w L s R r s') (hm:∀r L',True→R r L'→PR R' r L'):Res w M s R' r s':=by
 obtain ⟨L',hr,S',E',G'⟩:=h
 obtain ⟨L'',p,hr'⟩:=hm r L' trivial hr
 exact ⟨L'',hr',S'.part p,E'.pre hp,(G'.part p).pre hp⟩
theorem a2y {α:Type} {L L₁:Led} {s s₁ s':Shared} {R:α→Led→Prop} {r:α} (e:a4j L s s₁) (g:a0j L L₁ s) (h:Res w L₁ s₁ R r s'):Res w L s R r s':=by
 obtain ⟨L',hr,S',E',G'⟩:=h
 exact ⟨L',hr,S',e.trans g E',g.trans' e G'⟩
theorem a3z {α:Type} {L F:Led} {s s':Shared} {R:α→Led→Prop} {r:α} (S:a4s w (L++F) s) (h:Res w L s R r s'):Res w (L++F) s (fun r L'=>∃L₁,R r L₁∧L'=L₁++F) r s':=by
 obtain ⟨L',hr,S',E',G'⟩:=h
 refine ⟨L'++F,⟨L',hr,rfl⟩,S.frame S' E' G',E'.pre (.app _ _),fun a ha=>?_⟩
 rw [List.map_append] at ha ⊢
 rcases List.mem_append.mp ha with h | h
 ·exact (G' a h).imp_left (List.mem_append_left _)
 ·exact .inl (List.mem_append_right _ h)
theorem a0y.mono {c L M R R'} (h:a0y w D U c L R) (hp:a2i L M) (hm:∀r L',True→R r L'→PR R' r L'):a0y w D U c M R':=
 fun A s hA S=>codeAny_mono (h A s hA (S.part hp)) fun _ _ q=>a1p hp q hm
theorem a0y.frame {c L M F R} (h:a0y w D U c L R) (hp:M.Perm (L++F)):a0y w D U c M (fun r L'=>∃L₁,R r L₁∧L'=L₁++F):=
 fun A s hA S=>by
  have S':a4s w (L++F) s:=S.part (.of_perm hp)
  exact codeAny_mono (h A s hA (S'.part (.app _ _))) fun _ _ q=>a1p (.of_perm hp) (a3z S' q) fun r L' _ hr=>⟨L',.refl _,hr⟩
theorem a0y.use {c L M F R R'} (h:a0y w D U c L R) (hp:M.Perm (L++F)) (hm:∀r L₁,True→R r L₁→PR R' r (L₁++F)):a0y w D U c M R':=
 (h.frame hp).mono (.refl _) fun r L' ok hr=>by
  obtain ⟨L₁,h1,rfl⟩:=hr
  exact hm r L₁ ok h1
theorem a0b.mono {α:Type} {x:Sem α} {L M Q Q'} (h:a0b w D U x L Q) (hp:a2i L M) (hm:∀r L',True→Q r L'→PR Q' r L'):a0b w D U x M Q':=
 fun A s E hA S=>wpAny_mono (h A s E hA (S.part hp)) (fun _ _ q=>a1p hp q hm) fun _ _ q=>q
theorem a0b.frame {α:Type} {x:Sem α} {L M F Q} (h:a0b w D U x L Q) (hp:M.Perm (L++F)):a0b w D U x M (fun r L'=>∃L₁,Q r L₁∧L'=L₁++F):=
 fun A s E hA S=>by
  have S':a4s w (L++F) s:=S.part (.of_perm hp)
  exact wpAny_mono (h A s E hA (S'.part (.app _ _))) (fun _ _ q=>a1p (.of_perm hp) (a3z S' q) fun r L' _ hr=>⟨L',.refl _,hr⟩) fun _ _ q=>q
theorem a0b.use {α:Type} {x:Sem α} {L M F Q Q'} (h:a0b w D U x L Q) (hp:M.Perm (L++F)) (hm:∀r L₁,True→Q r L₁→PR Q' r (L₁++F)):a0b w D U x M Q':=
 (h.frame hp).mono (.refl _) fun r L' ok hr=>by
  obtain ⟨L₁,h1,rfl⟩:=hr
  exact hm r L₁ ok h1
theorem a0b.then {α β:Type} {x:Sem α} {L:Led} {Q:α→Led→Prop} {Z:β→Led→Prop} {y:α→Sem β} (h:a0b w D U x L Q) (hm:∀a L',True→Q a L'→a0b w D U (y a) L' Z):a0b w D U (x >>=y) L Z:=
 fun A s E hA S=>wpAny_bind (wpAny_mono (h A s E hA S) (fun a s₁ ⟨L',hq,S',E',G'⟩=>wpAny_mono (hm a L' trivial hq A s₁ E hA S') (fun _ _ q=>a2y E' G' q) fun _ _ q=>q) fun _ _ q=>q)
theorem a0b.pure {α:Type} {a:α} {L:Led} {Q:α→Led→Prop} (h:Q a L):a0b w D U (Pure.pure a) L Q:=fun A s E hA S=>wpAny_pure ⟨L,h,S,a4j.refl _ _,a0j.refl _ _⟩
theorem a0b.run {α:Type} {enc:α→Flow} (inj:∀a b,enc a=enc b→a=b) {x y:Sem α} (e:x=y) (hD:D≤600) (n:Nat) (hs:List Nat) {L:Led} {Q:α→Led→Prop}
  (a:(Nat→Addr)→(Nat→Tok)→α) (L':(Nat→Addr)→(Nat→Tok)→Led) (ob:(Nat→Addr)→(Nat→Tok)→List Prop)
  (ev:∀fr tk,vw (exec (vv w fr tk) n hs a2k [] (tr enc y) L 0 0 [] [])=wt (exec (vv w fr tk) n hs a2k [] (tr enc y) L 0 0 [] []) (.ok (enc (a fr tk))) (L' fr tk) (ob fr tk))
  (hob:∀fr tk,∀p∈ob fr tk,p) (hQ:∀fr tk,True→PR Q (a fr tk) (L' fr tk)):a0b w D U x L Q:=
 fun A s E hA S=>d4a inj e hA hD n hs a L' ob ev hob S fun fr tk s' S' E' G'=>by
  obtain ⟨L'',p,q⟩:=hQ fr tk trivial
  exact ⟨L'',q,S'.part p,E'.weak,G'.part p⟩
theorem b0c {A:Around} {R R':Result→Shared→Prop} (h:∀r s,R r s→R' r s):∀fin s,postC prog w A R fin s→postC prog w A R' fin s:=fun fin s q=>by
 cases fin with
 | done f=>exact h _ _ q
 | again c=>exact ⟨q.1,codeAny_mono q.2 h⟩
theorem a8h {A:Around} {b b':Result→Shared→Prop} (h:∀r s,b r s→b' r s):∀fs r s,Rof w A b fs r s→Rof w A b' fs r s
 | [],r,s,q=>h r s q
 | f::fs,r,s,q=>wpAny_mono q (b0c (a8h h fs)) fun e s' q'=>a8h h fs _ s' q'
theorem a2p.mono {A:Around} {b b':Result→Shared→Prop} {c fs t s} (q:a2p w A b c fs t s) (h:∀r s,b r s→b' r s):a2p w A b' c fs t s:=
 wpAny_mono q (b0c (a8h h fs)) fun e s' q'=>a8h h fs _ s' q'
theorem a0x.call {c fs t L R c' d} {R₁:a6i} (hfs:∀f∈fs,f.hd=none) (h:a6z t=some c') (hd:dep c fs=some d) (hc:a0y w (D + d) (U + 10 * (fs.length + 1)) c' L R₁)
  (hk:∀r L₁,True→R₁ r L₁→a0x w D U c fs (cont t r) L₁ R):a0x w D U c fs t L R:=
 fun A s hA S=>a6n h (codeAny_mono (hc _ s (b6g hA hd hfs) S) fun r s₁ ⟨L₁,hr,S₁,E₁,G₁⟩=>(hk r L₁ trivial hr A s₁ hA S₁).mono fun r s'' q=>a2y E₁ G₁ q)
noncomputable def c1e (t:Sem PySem.Fin):Option Code:=match t with
 | .pure fin=>match fin with
  | .again c=>some c
  | .done _=>none
 | _=>none
theorem a0x.again {c t L R c'} (h:c1e t=some c') (hq:c'.quiet=true) (hc:a0y w D U c' L R):a0x w D U c [] t L R:=by
 unfold c1e at h
 split at h
 ·split at h
  ·cases h
   exact fun A s hA S=>x_pure ⟨hq,hc A s hA S⟩
  ·cases h
 ·cases h
theorem a0y.code {c L R} (h:a0x w D U c [] (den c) L R):a0y w D U c L R:=fun A s hA S=>a2p.code (h A s hA S)
theorem a0y.start {c L R} (h:a0x w D U c [] (.pure (.again c)) L R):a0y w D U c L R:=fun A s hA S=>b1r (h A s hA S)
noncomputable abbrev d2k (I:Nat→Led→Prop) (R:a6i) (n:Nat) (f:Flow) (L₃:Led):Prop:=match f with
 | .next | .cont=>∃m,m < n∧I m L₃
 | .brk=>R (.ok .next) L₃
 | .ret v=>R (.ok (.ret v)) L₃
theorem a0y.while {test body orelse env} (I:Nat→Led→Prop) {R:a6i}
  (turn:∀n L,True→I n L→a0b w D U (PySem.isTrue test env (eval test env)) L (fun b L₂=>
   if b then a0b w D U (execs body env) L₂ (d2k I R n)
   else a0b w D U (execs orelse env) L₂ (fun f L₃=>R (.ok f) L₃))) (n:Nat) {L:Led} (h:I n L):a0y w D U (.whileLoop test body orelse env) L R:=by
 intro A s hA S
 refine codeAny_whileLoop (R:=Res w L s R) (fun n s'=>∃L',An4 (I n L') (a4s w L' s') (a4j L s s') (a0j L L' s)) (fun n s' ⟨L',hI,S',E',G'⟩=>?_) n ⟨L,h,S,a4j.refl _ _,a0j.refl _ _⟩
 refine wpAny_mono (turn n L' trivial hI A s' _ hA S') (fun b s₂ ⟨L₂,hb,S₂,E₂,G₂⟩=>?_) fun _ _ q=>q
 have E2:=E'.trans G' E₂
 have G2:=G'.trans' E' G₂
 cases b with
 | true=>
  simp only [if_true] at hb ⊢
  refine wpAny_mono (hb A s₂ _ hA S₂) (fun f s₃ ⟨L₃,hf,S₃,E₃,G₃⟩=>?_) fun _ _ q=>q
  have E3:=E2.trans G2 E₃
  have G3:=G2.trans' E2 G₃
  cases f with
  | next=>obtain ⟨m,hm,hi⟩:=hf;exact ⟨m,hm,L₃,hi,S₃,E3,G3⟩
  | cont=>obtain ⟨m,hm,hi⟩:=hf;exact ⟨m,hm,L₃,hi,S₃,E3,G3⟩
  | brk=>exact ⟨L₃,hf,S₃,E3,G3⟩
  | ret v=>exact ⟨L₃,hf,S₃,E3,G3⟩
 | false=>
  simp only [Bool.false_eq_true,if_false] at hb ⊢
  refine wpAny_mono (hb A s₂ _ hA S₂) (fun f s₃ ⟨L₃,hf,S₃,E₃,G₃⟩=>?_) fun _ _ q=>q
  exact ⟨L₃,hf,S₃,E2.trans G2 E₃,G2.trans' E2 G₃⟩
theorem b4d (env:Env):∀xs ys,execs (xs++ys) env=execs xs env >>=fun f=>match f with | .next=>execs ys env | f=>pure f
 | [],ys=>by simp only [List.nil_append,execs_nil,pure_bind]
 | x::xs,ys=>by
  rw [List.cons_append,execs_cons,execs_cons,bind_assoc]
  congr 1;funext f
  cases f <;> simp only [pure_bind]
  exact b4d env xs ys
noncomputable abbrev e8t (w:World) (D U:Nat) (b:List Stmt) (env:Env) (k:Nat) (Q:Flow→Led→Prop) (f:Flow) (L':Led):Prop:=match f with | .next=>a0b w D U (PySem.execs (b.drop k) env) L' Q | f=>Q f L'
theorem a0b.execs {b env L Q} (k:Nat) (h:a0b w D U (execs (b.take k) env) L (e8t w D U b env k Q)):a0b w D U (execs b env) L Q:=by
 have e:=b4d env (b.take k) (b.drop k)
 rw [List.take_append_drop] at e
 rw [e]
 refine h.then fun f L' _ hq=>?_
 cases f with
 | next=>exact hq
 | _=>exact a0b.pure hq
theorem a0b.if {t b o pos env L Q} (h:a0b w D U (PySem.isTrue t env (eval t env)) L (fun c L'=>if c then a0b w D U (PySem.execs b env) L' Q else a0b w D U (PySem.execs o env) L' Q)):a0b w D U (PySem.exec (.If t b o pos) env) L Q:=
 fun A s E hA S=>wpAny_If (wpAny_mono (h A s E hA S) (fun c s₁ ⟨L',hq,S',E',G'⟩=>by
  cases c with
  | true=>simp only [if_true] at hq ⊢;exact wpAny_mono (hq A s₁ E hA S') (fun _ _ q=>a2y E' G' q) fun _ _ q=>q
  | false=>simp only [Bool.false_eq_true,if_false] at hq ⊢;exact wpAny_mono (hq A s₁ E hA S') (fun _ _ q=>a2y E' G' q) fun _ _ q=>q) fun _ _ q=>q)
theorem a0b.single {st env L Q} (h:a0b w D U (PySem.exec st env) L Q):a0b w D U (PySem.execs [st] env) L Q:=by
 rw [execs_cons]
 refine h.then fun f L' _ hq=>?_
 cases f with
 | next=>rw [execs_nil];exact a0b.pure hq
 | _=>exact a0b.pure hq
theorem a0b.compare {l op r pos env whole L Q} (h:a0b w D U (eval l env) L (fun a L₁=>a0b w D U (eval r env) L₁ (fun b L₂=>a0b w D U (compareOp op a b) L₂ (fun c L₃=>∃v,c= .bool v∧Q v L₃))))
  (hm:behindInMarks op r=false):a0b w D U (PySem.isTrue (.Compare l [op] [r] pos) env whole) L Q:=
 fun A s E hA S=>wpAny_isTrue_Compare1 (wpAny_mono (h A s E hA S) (fun a s₁ ⟨L₁,h₁,S₁,E₁,G₁⟩=>wpAny_mono (h₁ A s₁ E hA S₁) (fun b s₂ ⟨L₂,h₂,S₂,E₂,G₂⟩=>wpAny_mono (h₂ A s₂ E hA S₂) (fun c s₃ ⟨L₃,⟨v,hv,h₃⟩,S₃,E₃,G₃⟩=>by
  subst hv
  exact wpAny_truthy_bool ⟨L₃,h₃,S₃,(E₁.trans G₁ E₂).trans (G₁.trans' E₁ G₂) E₃,(G₁.trans' E₁ G₂).trans' (E₁.trans G₁ E₂) G₃⟩) fun _ _ q=>q) fun _ _ q=>q) fun _ _ q=>q) hm
end
noncomputable abbrev tob (vs:List Value):Obj:={ cls:=.type "tuple",dict:=none,data:=.seq ⟨vs⟩ 0,slots:= #[] }
theorem a7c {s:Shared} {a:Addr} {o:Obj} {T:String} (h:s.heap.get? a=some o) (hc:o.cls= .type T):s.TypeIs (.ref a) T:=⟨o,h,hc⟩
section
variable {w:World} {A:Around} {s:Shared} {E:Value→Shared→Prop}
theorem b2i {a b:Addr} {x y:Int} {tx ty:Tok} {p q:Str} {tp tq:Tok} {P:PySem.Fin→Shared→Prop} (ha:s.heap.get? a=some (tob [.int x tx,.str p tp])) (hb:s.heap.get? b=some (tob [.int y ty,.str q tq]))
  (h:∀v,(v=true→x≤y)→(v=false→y≤x)→P (.done (.ret (.bool v))) s):wpAny (model prog w) A (Builtin.«tuple.__lt__» ⟨[.ref a,.ref b],[]⟩) P E s:=by
 have hTb:=a7c hb rfl
 show wpAny _ _ (isInstance (.ref b) (.type "tuple") >>=_) _ _ s
 refine wpAny_bind (wpAny_isInstance hTb isSubtype_tuple_tuple ?_)
 simp only [Bool.not_true,Bool.false_eq_true,if_false]
 refine wpAny_bind (wpAny_tupleItemsOf ha rfl ?_)
 refine wpAny_bind (wpAny_tupleItemsOf hb rfl ?_)
 refine wpAny_bind ?_
 simp only [List.zip_cons_cons,List.zip_nil_right,List.forIn_cons,List.forIn_nil]
 refine wpAny_bind (wpAny_bind (wpAny_eqBool_int ?_))
 by_cases e:x=y
 ·subst e
  simp only [beq_self_eq_true,Bool.not_true,Bool.false_eq_true,if_false]
  refine wpAny_pure (wpAny_bind (wpAny_bind (wpAny_eqBool_str ?_)))
  by_cases e':p=q
  ·simp only [e',decide_true,Bool.not_true,Bool.false_eq_true,if_false]
   exact wpAny_pure (wpAny_pure (wpAny_pure (h _ (fun _=>Int.le_refl _) (fun _=>Int.le_refl _))))
  ·simp only [e',decide_false,Bool.not_false,if_true]
   refine wpAny_bind (wpAny_rule (wpAny_bind (richCompare_gives (typeIs_str s p tp) (typeIs_str s q tq) F.slot_str_lt F.entry_str_lt (F.args_str_lt_2 _ _) (gives_str_lt p q tp tq) ?_ ?_)))
   ·intro h;cases h
   ·exact wpAny_bind (wpAny_pure (wpAny_pure (wpAny_pure (wpAny_pure (h _ (fun _=>Int.le_refl _) (fun _=>Int.le_refl _))))))
 ·have e':(x == y)=false:=by simpa using e
  simp only [e',Bool.not_false,if_true]
  refine wpAny_bind (wpAny_rule (wpAny_bind (richCompare_gives (typeIs_int s x tx) (typeIs_int s y ty) slot_int_lt entry_int_lt (args_int_lt _ _) (AutoIntG1.int___lt___int_int_0 x tx y ty) ?_ ?_)))
  ·intro h;cases h
  ·refine wpAny_bind (wpAny_pure (wpAny_pure (wpAny_pure (wpAny_pure (h _ (fun v=>?_) (fun v=>?_))))))
   ·simp at v;exact Int.le_of_lt v
   ·simp at v;omega
theorem a4k {D U:Nat} (hU:U < 9800) {a b:Addr} {x y:Int} {tx ty:Tok} {p q:Str} {tp tq:Tok}:
  a0b w D U (compareOp .Lt (.ref a) (.ref b)) [(a,tob [.int x tx,.str p tp]),(b,tob [.int y ty,.str q tq])] (fun v L=>∃c:Bool,An4 (v= .bool c) ((c=true→x≤y)) ((c=false→y≤x)) (L=[(a,tob [.int x tx,.str p tp]),(b,tob [.int y ty,.str q tq])])):=by
 intro A s E hA S
 have ha:=S.led _ (.head _)
 have hb:=S.led _ (.tail _ (.head _))
 show wpAny _ _ (richCompare .Lt _ _) _ _ _
 refine wpAny_richCompare_same_room (T:="tuple") (a7c ha rfl) (a7c hb rfl) F.slot_tuple_lt (wpAny_call_entry F.slot_tuple_lt (a7c ha rfl) F.entry_tuple_lt (b2i ha hb fun v h1 h2=>?_) (F.args_tuple_lt_2 _ _)) (by have:=hA.units;show _ < 9900;exact Nat.lt_of_le_of_lt this (Nat.lt_of_lt_of_le hU (by decide)))
 exact ⟨_,rfl,by simp,_,⟨v,rfl,h1,h2,rfl⟩,S,a4j.refl _ _,a0j.refl _ _⟩
end
noncomputable abbrev a5e:Stmt:=a3i (a1e (top 13)) 1
noncomputable abbrev a3c (F:Addr):Env:=b6b (top 13) l16 190 189 F []
structure It where
 a:Addr
 x:Int
 tx:Tok
 p:Str
 tp:Tok
noncomputable def It.ob (e:It):Addr×Obj:=(e.a,tob [.int e.x e.tx,.str e.p e.tp])
noncomputable def a0p (es:List It):Array Value:=⟨es.map fun e=>.ref e.a⟩
noncomputable abbrev e3y (P:Params) (t:Nat→Tok) (H I:Addr) (p:Int):Obj:=fob P [(a3j,t 0,.ref H),(a5o,t 1,.int 0 (t 2)),(c4m,t 3,.int p (t 4)),(a6u,t 5,.ref I)] 4
noncomputable abbrev b1f (P:Params) (t:Nat→Tok) (H I:Addr) (p pp:Int) (J:Addr):Obj:=fob P [(a3j,t 0,.ref H),(a5o,t 1,.int 0 (t 2)),(c4m,t 3,.int p (t 4)),(a6u,t 5,.ref I),(b6j,t 6,.int pp (t 7)),(c4p,t 8,.ref J)] 6
noncomputable def a0q (t:Nat→Tok) (k:Nat) (v:Tok):Nat→Tok:=fun n=>match Nat.beq n k with
 | true=>v
 | false=>t n
noncomputable def b6u (e:Expr):Expr:=match e with
 | .Compare l _ _ _=>l
 | _=>e
noncomputable def b3c (e:Expr):Expr:=match e with
 | .Compare _ _ r _=>match r with
  | [r]=>r
  | _=>e
 | _=>e
noncomputable def It0:It:=⟨0,0,0,⟨⟨[]⟩⟩,0⟩
noncomputable def key (g:List It) (i:Nat):Int:=(g.getD i It0).x
noncomputable def a4b (g:List It):Prop:=∀i,0 < i→i < g.length→key g ((i - 1) / 2)≤key g i
noncomputable def a5v (g:List It) (k:Nat):Prop:=(∀i,0 < i→i < g.length→i≠k→key g ((i - 1) / 2)≤key g i)∧(∀i,0 < i→i < g.length→(i - 1) / 2=k→0 < k→key g ((k - 1) / 2)≤key g i)
theorem b1j (g:List It) (k i:Nat) (e:It) (h:k < g.length):key (g.set k e) i=if i=k then e.x else key g i:=by
 unfold key
 rw [List.getD_eq_getElem?_getD,List.getD_eq_getElem?_getD,List.getElem?_set]
 by_cases hi:k=i
 ·subst hi;simp [h]
 ·simp [hi,Ne.symm hi]
theorem b0o {g:List It} {k:Nat} (h:a5v g k) (hk:0 < k→key g ((k - 1) / 2)≤key g k):a4b g:=fun i h0 h1=>by
 by_cases e:i=k
 ·subst e;exact hk h0
 ·exact h.1 i h0 h1 e
theorem b8n {g:List It} {k:Nat} {e p:It} (hk:0 < k) (hl:k < g.length) (he:key g k=e.x) (hp:key g ((k - 1) / 2)=p.x) (h:a5v g k) (hle:e.x≤p.x):a5v ((g.set k p).set ((k - 1) / 2) e) ((k - 1) / 2):=by
 have hl2:(k - 1) / 2 < (g.set k p).length:=by rw [List.length_set];exact Nat.lt_trans (a7w hk) hl
 have key':∀i,key ((g.set k p).set ((k - 1) / 2) e) i=if i=(k - 1) / 2 then e.x else if i=k then p.x else key g i:=fun i=>by rw [b1j _ _ _ _ hl2,b1j _ _ _ _ hl]
 refine ⟨fun i h0 h1 hne=>?_,fun i h0 h1 hc hpos=>?_⟩
 ·rw [List.length_set,List.length_set] at h1
  rw [key',key',if_neg hne]
  by_cases hik:i=k
  ·subst hik
   rw [if_pos rfl,if_pos rfl]
   exact hle
  ·rw [if_neg hik]
   by_cases hpar:(i - 1) / 2=(k - 1) / 2
   ·rw [if_pos hpar]
    have:=h.1 i h0 h1 hik
    rw [hpar,hp] at this
    exact Int.le_trans hle this
   ·rw [if_neg hpar]
    by_cases hpk:(i - 1) / 2=k
    ·rw [if_pos hpk]
     have:=h.2 i h0 h1 hpk hk
     rw [hp] at this
     exact this
    ·rw [if_neg hpk]
     exact h.1 i h0 h1 hik
 ·rw [List.length_set,List.length_set] at h1
  rw [key',key']
  have a1:((k - 1) / 2 - 1) / 2≠(k - 1) / 2:=Nat.ne_of_lt (a7w hpos)
  have a2:((k - 1) / 2 - 1) / 2≠k:=Nat.ne_of_lt (Nat.lt_trans (a7w hpos) (a7w hk))
  rw [if_neg a1,if_neg a2]
  have hpp:=h.1 ((k - 1) / 2) hpos (Nat.lt_trans (a7w hk) hl) (Nat.ne_of_lt (a7w hk))
  have a3:i≠(k - 1) / 2:=fun e=>by have:=a7w h0;rw [hc,e] at this;exact Nat.lt_irrefl _ this
  rw [if_neg a3]
  by_cases hik:i=k
  ·rw [if_pos hik,←hp];exact hpp
  ·rw [if_neg hik]
   have:=h.1 i h0 h1 hik
   rw [hc] at this
   exact Int.le_trans hpp this
theorem b3f {g:List It} {i j:Nat} {a b:It} (hi:g[i]?=some a) (hj:g[j]?=some b):((g.set i b).set j a).Perm g:=by
 obtain ⟨h1,rfl⟩:=List.getElem?_eq_some_iff.mp hi
 obtain ⟨h2,rfl⟩:=List.getElem?_eq_some_iff.mp hj
 exact List.set_set_perm h1 h2
theorem a3n {hs:List It} {k:Nat} {e:It} (h:hs[k]?=some e):nth (a0p hs) (k:Int)= .ref e.a:=by
 unfold nth a0p
 rw [List.getD_eq_getElem?_getD]
 show (hs.map _)[(k:Int).toNat]?.getD Value.none=_
 rw [Int.toNat_natCast,List.getElem?_map,h]
 rfl
theorem a6q (hs:List It) (k:Nat) (e:It):(a0p hs).setIfInBounds k (.ref e.a)=a0p (hs.set k e):=by
 unfold a0p
 rw [List.map_set]
 simp
theorem a0m (hs:List It):(a0p hs).size=hs.length:=by simp [a0p]
theorem b8c:∀(g:List It) (i:Nat) (h:i < g.length),g.Perm (g[i]::g.eraseIdx i)
 | x::g,0,_=>.refl _
 | x::g,i + 1,h=>by
  rw [List.eraseIdx_cons_succ,List.getElem_cons_succ]
  exact ((b8c g i (by simpa using h)).cons x).trans (List.Perm.swap ..)
theorem c9m {g:List It} {i j:Nat} {a b:It} (hi:g[i]?=some a) (hj:g[j]?=some b) (hne:i≠j):∃rest,g.Perm (a::b::rest):=by
 obtain ⟨h1,rfl⟩:=List.getElem?_eq_some_iff.mp hi
 have p1:g.Perm (g[i]::g.eraseIdx i):=b8c g i h1
 have:g[j]?=some b:=hj
 have hm:b∈g.eraseIdx i:=by
  rw [List.mem_eraseIdx_iff_getElem?]
  exact ⟨j,hne.symm,hj⟩
 obtain ⟨l1,l2,e⟩:=List.append_of_mem hm
 refine ⟨l1++l2,p1.trans (.cons _ ?_)⟩
 rw [e]
 exact List.perm_middle
theorem a0e:∀q∈([]:List Prop),q:=fun _ h=>nomatch h
theorem a0d {p:Prop} {l:List Prop} (h:p) (hs:∀q∈l,q):∀q∈p::l,q:=fun q hq=>by
 rcases List.mem_cons.mp hq with rfl | hq
 ·exact h
 ·exact hs q hq
noncomputable def c6n (s:Stmt):Pos:=match s with
 | .If _ _ _ p=>p
 | .While _ _ _ p=>p
 | _=>default
noncomputable def c3z (e:Expr):Pos:=match e with
 | .Compare _ _ _ p=>p
 | _=>default
section
variable {w:World} {b1 b2:Bool} {D U:Nat} {t:Nat→Tok} {F H I J:Addr} {p pp:Int}
noncomputable abbrev sdT:Expr:=lpT a5e
noncomputable abbrev d1w:Stmt:=a3i (lpB a5e) 2
theorem c2i (hD:D≤600) (fo:Obj) (hf:fo=e3y (W w b1 b2).params t H I p∨fo=b1f (W w b1 b2).params t H I p pp J):
  a0b (W w b1 b2) D U (PySem.isTrue sdT (a3c F) (eval sdT (a3c F))) [(F,fo)] (fun b L=>b=decide (0 < p)∧L=[(F,fo)]):=by
 by_cases h:0 < p
 ·refine a0b.run c8z (y:=a4f sdT (a3c F) (a2r sdT (a3c F))) (by rw [a3k,a1i]) hD 1000 [1,1,1] (fun _ _=>true) (fun _ _=>[(F,fo)]) (fun _ _=>[p > 0]) (fun fr tk=>?_) (fun _ _=>a0d h a0e) (fun _ _ _=>⟨_,.refl _,by simp [h],rfl⟩)
  rcases hf with rfl | rfl <;> exact bcs b1 (by kernel_rfl) (by kernel_rfl)
 ·refine a0b.run c8z (y:=a4f sdT (a3c F) (a2r sdT (a3c F))) (by rw [a3k,a1i]) hD 1000 [1,1,0] (fun _ _=>false) (fun _ _=>[(F,fo)]) (fun _ _=>[¬p > 0]) (fun fr tk=>?_) (fun _ _=>a0d h a0e) (fun _ _ _=>⟨_,.refl _,by simp [h],rfl⟩)
  rcases hf with rfl | rfl <;> exact bcs b1 (by kernel_rfl) (by kernel_rfl)
theorem c8s (hD:D≤600) {xs:Array Value} {ep:Nat} (fo:Obj) (hf:fo=e3y (W w b1 b2).params t H I p∨fo=b1f (W w b1 b2).params t H I p pp J)
  (h0:0 < p) (h1:p < xs.size) (hz:xs.size≤1000000) (hv:nth xs ((p - 1) / 2)= .ref (a3q (nth xs ((p - 1) / 2)))):
  a0b (W w b1 b2) D U (PySem.execs ((lpB a5e).take 2) (a3c F)) [(F,fo),(H,a0a xs ep)] (fun f L=>f= .next∧∃t',L=[(F,b1f (W w b1 b2).params t' H I p ((p - 1) / 2) (a3q (nth xs ((p - 1) / 2)))),(H,a0a xs ep)]):=by
 rcases hf with rfl | rfl
 ·refine a0b.run b8l (y:=a2q ((lpB a5e).take 2) (a3c F)) (by rw [a2l]) hD 1000 [1,1,0,1,1,2,2,2,1,1,1,0] (fun _ _=>.next) (fun fr tk=>[(F,b1f (W w b1 b2).params (a0q (a0q (a0q t 6 (Nat.succ (tk 4))) 7 (Nat.succ (tk 3))) 8 (Nat.succ (tk 6))) H I p ((p - 1) / 2) (a3q (nth xs ((p - 1) / 2)))),(H,a0a xs ep)])
   (fun _ _=>[0≤(p - 1) / 2,(p - 1) / 2 < xs.size,xs.size≤1000000,nth xs ((p - 1) / 2)= .ref (a3q (nth xs ((p - 1) / 2))),0≤p - 1,(1:Int)=1]) (fun fr tk=>?_) (fun _ _=>a0d (by omega) (a0d (by omega) (a0d hz (a0d hv (a0d (by omega) (a0d rfl a0e)))))) (fun _ _ _=>⟨_,.refl _,rfl,_,rfl⟩)
  kernel_rfl
 ·refine a0b.run b8l (y:=a2q ((lpB a5e).take 2) (a3c F)) (by rw [a2l]) hD 1000 [1,1,0,1,1,2,2,2,1,1,1,0] (fun _ _=>.next) (fun fr tk=>[(F,b1f (W w b1 b2).params (a0q t 7 (Nat.succ (tk 3))) H I p ((p - 1) / 2) (a3q (nth xs ((p - 1) / 2)))),(H,a0a xs ep)])
   (fun _ _=>[0≤(p - 1) / 2,(p - 1) / 2 < xs.size,xs.size≤1000000,nth xs ((p - 1) / 2)= .ref (a3q (nth xs ((p - 1) / 2))),0≤p - 1,(1:Int)=1]) (fun fr tk=>?_) (fun _ _=>a0d (by omega) (a0d (by omega) (a0d hz (a0d hv (a0d (by omega) (a0d rfl a0e)))))) (fun _ _ _=>⟨_,.refl _,rfl,_,rfl⟩)
  kernel_rfl
noncomputable abbrev sdN:Expr:=b6u (lpT d1w)
noncomputable abbrev sdP:Expr:=b3c (lpT d1w)
theorem d7w (hD:D≤600):a0b (W w b1 b2) D U (eval sdN (a3c F)) [(F,b1f (W w b1 b2).params t H I p pp J)] (fun v L=>v= .ref I∧L=[(F,b1f (W w b1 b2).params t H I p pp J)]):=
 a0b.run b3n (y:=a2r sdN (a3c F)) (by rw [a1i]) hD 100 [1] (fun _ _=>.ref I) (fun _ _=>[(F,b1f (W w b1 b2).params t H I p pp J)]) (fun _ _=>[]) (fun fr tk=>by kernel_rfl) (fun _ _=>a0e) (fun _ _ _=>⟨_,.refl _,rfl,rfl⟩)
theorem e0r (hD:D≤600):a0b (W w b1 b2) D U (eval sdP (a3c F)) [(F,b1f (W w b1 b2).params t H I p pp J)] (fun v L=>v= .ref J∧L=[(F,b1f (W w b1 b2).params t H I p pp J)]):=
 a0b.run b3n (y:=a2r sdP (a3c F)) (by rw [a1i]) hD 100 [1] (fun _ _=>.ref J) (fun _ _=>[(F,b1f (W w b1 b2).params t H I p pp J)]) (fun _ _=>[]) (fun fr tk=>by kernel_rfl) (fun _ _=>a0e) (fun _ _ _=>⟨_,.refl _,rfl,rfl⟩)
theorem d2d (hD:D≤600) {xs:Array Value} {ep:Nat} (h0:0≤p) (h1:p < xs.size) (hz:xs.size≤1000000):
  a0b (W w b1 b2) D U (PySem.execs (lpB d1w) (a3c F)) [(F,b1f (W w b1 b2).params t H I p pp J),(H,a0a xs ep)] (fun f L=>f= .cont∧∃t',L=[(F,b1f (W w b1 b2).params t' H I pp pp J),(H,a0a (xs.setIfInBounds p.toNat (.ref J)) ep)]):=by
 refine a0b.run b8l (y:=a2q (lpB d1w) (a3c F)) (by rw [a2l]) hD 1000 [1,1,1,2,2,1,1,1,0] (fun _ _=>.cont) (fun fr tk=>[(F,b1f (W w b1 b2).params (a0q t 4 (t 7)) H I pp pp J),(H,a0a (xs.setIfInBounds p.toNat (.ref J)) ep)])
   (fun _ _=>[0≤p,p < xs.size,xs.size≤1000000]) (fun fr tk=>?_) (fun _ _=>a0d h0 (a0d h1 (a0d hz a0e))) (fun _ _ _=>⟨_,.refl _,rfl,_,rfl⟩)
 kernel_rfl
theorem d8w (hD:D≤600):a0b (W w b1 b2) D U (PySem.execs ((lpB a5e).drop 3) (a3c F)) [] (fun f L=>f= .brk∧L=[]):=
 a0b.run b8l (y:=a2q ((lpB a5e).drop 3) (a3c F)) (by rw [a2l]) hD 100 [] (fun _ _=>.brk) (fun _ _=>[]) (fun _ _=>[]) (fun fr tk=>by kernel_rfl) (fun _ _=>a0e) (fun _ _ _=>⟨_,.refl _,rfl,rfl⟩)
end
structure e0u (P:Params) (H:Addr) (es0 hs:List It) (pos:Nat) (new:It) (fo:Obj):Prop where
 lt:pos < hs.length
 perm:(hs.set pos new).Perm es0
 fr:(∃t,fo=e3y P t H new.a pos)∨Ey3 fun t pp J=>fo=b1f P t H new.a pos pp J
section
variable {w:World} {b1 b2:Bool} {D U:Nat} {F H:Addr} {ep:Nat} {es0:List It}
theorem e0u.len {P hs pos new fo} (h:e0u P H es0 hs pos new fo):hs.length=es0.length:=by
 have:=h.perm.length_eq
 rw [List.length_set] at this
 exact this
noncomputable abbrev SdI (w:World) (b1 b2:Bool) (F H:Addr) (ep:Nat) (es0:List It) (n:Nat) (L:Led):Prop:=Ey3 fun hs new fo=>An3 (e0u (W w b1 b2).params H es0 hs n new fo) (a5v (hs.set n new) n) (L=[(F,fo),(H,a0a (a0p hs) ep)]++es0.map It.ob)
noncomputable abbrev SdR (w:World) (b1 b2:Bool) (F H:Addr) (ep:Nat) (es0:List It):a6i:=fun r L=>r= .ok .next∧Ey4 fun hs pos new fo=>An3 (e0u (W w b1 b2).params H es0 hs pos new fo) (a4b (hs.set pos new)) (L=[(F,fo),(H,a0a (a0p hs) ep)]++es0.map It.ob)
theorem d3c (hD:D≤600) (hU:U < 9800) (hz:es0.length≤1000000) (n:Nat) {L:Led}
  (hI:SdI w b1 b2 F H ep es0 n L):
  a0y (W w b1 b2) D U (.whileLoop sdT (lpB a5e) [] (a3c F)) L (SdR w b1 b2 F H ep es0):=by
 refine a0y.while (fun n L=>SdI w b1 b2 F H ep es0 n L) (fun n L okl hI=>?_) n hI
 obtain ⟨hs,new,fo,st,hx,rfl⟩:=hI
 have hlt:=st.lt
 have hlen:=st.len
 have hsz:(a0p hs).size≤1000000:=by rw [a0m];exact Nat.le_trans (Nat.le_of_eq hlen) hz
 have htest:a0b (W w b1 b2) D U (PySem.isTrue sdT (a3c F) (eval sdT (a3c F))) [(F,fo)] (fun b L=>b=decide (0 < (n:Int))∧L=[(F,fo)]):=by
  rcases st.fr with ⟨t,hf⟩ | ⟨t,pp,J,hf⟩
  ·exact c2i (pp:=0) (J:=0) hD fo (.inl hf)
  ·exact c2i hD fo (.inr hf)
 refine htest.use (F:=(H,a0a (a0p hs) ep)::es0.map It.ob) (.refl _) fun b L₁ ok₁ hb=>?_
 obtain ⟨rfl,rfl⟩:=hb
 refine ⟨_,.refl _,?_⟩
 by_cases hn:0 < n
 ·rw [if_pos (by simp;omega)]
  obtain ⟨par,hpar⟩:∃par,hs[(n - 1) / 2]?=some par:=⟨_,List.getElem?_eq_getElem (by omega)⟩
  have hnth:nth (a0p hs) (((n:Int) - 1) / 2)= .ref par.a:=by
   have:((n:Int) - 1) / 2=(((n - 1) / 2:Nat):Int):=by omega
   rw [this];exact a3n hpar
  refine a0b.execs 2 ?_
  have h2:a0b (W w b1 b2) D U (PySem.execs ((lpB a5e).take 2) (a3c F)) [(F,fo),(H,a0a (a0p hs) ep)] (fun f L=>f= .next∧∃t',L=[(F,b1f (W w b1 b2).params t' H new.a n (((n:Int) - 1) / 2) (a3q (nth (a0p hs) (((n:Int) - 1) / 2)))),(H,a0a (a0p hs) ep)]):=by
   rcases st.fr with ⟨t,hf⟩ | ⟨t,pp,J,hf⟩
   ·exact c8s (pp:=0) (J:=0) hD fo (.inl hf) (by exact Int.ofNat_lt.mpr (by assumption)) (by rw [a0m];exact Int.ofNat_lt.mpr (by assumption)) hsz (by rw [hnth];rfl)
   ·exact c8s hD fo (.inr hf) (by omega) (by rw [a0m];omega) hsz (by rw [hnth];rfl)
  refine h2.use (F:=es0.map It.ob) (.refl _) fun f L₁ ok₁ hf=>?_
  obtain ⟨rfl,t',rfl⟩:=hf
  rw [hnth]
  have hp2:((n:Int) - 1) / 2=(((n - 1) / 2:Nat):Int):=by omega
  rw [hp2]
  refine ⟨_,.refl _,?_⟩
  show a0b (W w b1 b2) D U (PySem.execs ((lpB a5e).drop 2) (a3c F)) _ _
  refine a0b.execs 1 ?_
  show a0b (W w b1 b2) D U (PySem.execs [PySem.Stmt.If (.Compare sdN [.Lt] [sdP] (c3z (lpT d1w))) (lpB d1w) [] (c6n d1w)] (a3c F)) _ _
  refine a0b.single (a0b.if (a0b.compare ?_ (by kernel_rfl)))
  refine (d7w hD).use (F:=(H,a0a (a0p hs) ep)::es0.map It.ob) (.refl _) fun v L₁ ok₁ hv=>?_
  obtain ⟨rfl,rfl⟩:=hv
  refine ⟨_,.refl _,(e0r hD).use (F:=(H,a0a (a0p hs) ep)::es0.map It.ob) (.refl _) fun v L₁ ok₁ hv=>?_⟩
  obtain ⟨rfl,rfl⟩:=hv
  refine ⟨_,.refl _,?_⟩
  have gn:(hs.set n new)[n]?=some new:=by rw [List.getElem?_set];simp [hlt]
  have gp:(hs.set n new)[(n - 1) / 2]?=some par:=by rw [List.getElem?_set,if_neg (by omega)];exact hpar
  obtain ⟨rest,hrest⟩:=c9m gn gp (by omega)
  have hperm:es0.Perm (new::par::rest):=st.perm.symm.trans hrest
  have hT:(es0.map It.ob).Perm (new.ob::par.ob::rest.map It.ob):=hperm.map _
  have hl:([(F,b1f (W w b1 b2).params t' H new.a n (((n - 1) / 2:Nat):Int) par.a)]++((H,a0a (a0p hs) ep)::es0.map It.ob)).Perm ([new.ob,par.ob]++([(F,b1f (W w b1 b2).params t' H new.a n (((n - 1) / 2:Nat):Int) par.a),(H,a0a (a0p hs) ep)]++rest.map It.ob)):=by
   refine ((hT.cons _).cons _).trans ?_
   exact (List.perm_append_comm_assoc [(F,b1f (W w b1 b2).params t' H new.a n (((n - 1) / 2:Nat):Int) par.a),(H,a0a (a0p hs) ep)] [new.ob,par.ob] (rest.map It.ob))
  refine (a4k (x:=new.x) (tx:=new.tx) (p:=new.p) (tp:=new.tp) (y:=par.x) (ty:=par.tx) (q:=par.p) (tq:=par.tp) hU).use hl fun v L₁ ok₁ hv=>?_
  obtain ⟨c,rfl,c1,c2,rfl⟩:=hv
  refine ⟨_,.of_perm hl.symm,c,rfl,?_⟩
  cases c with
  | true=>
   rw [if_pos rfl]
   refine (d2d hD (by exact Int.natCast_nonneg _) (by rw [a0m];omega) hsz).use (F:=es0.map It.ob) (.refl _) fun f L₁ ok₁ hf=>?_
   obtain ⟨rfl,t',rfl⟩:=hf
   refine ⟨_,.refl _,(n - 1) / 2,by exact a7w (by assumption),hs.set n par,new,_,⟨?_,?_,.inr ⟨t',(((n - 1) / 2:Nat):Int),par.a,rfl⟩⟩,?_,?_⟩
   ·rw [List.length_set];omega
   ·have:((hs.set n par).set ((n - 1) / 2) new)=((hs.set n new).set n par).set ((n - 1) / 2) new:=by rw [List.set_set]
    rw [this]
    exact (b3f gn gp).trans st.perm
   ·have:((hs.set n par).set ((n - 1) / 2) new)=((hs.set n new).set n par).set ((n - 1) / 2) new:=by rw [List.set_set]
    rw [this]
    refine b8n hn (by rw [List.length_set];omega) ?_ ?_ hx (c1 rfl)
    ·unfold key;rw [List.getD_eq_getElem?_getD,gn];rfl
    ·unfold key;rw [List.getD_eq_getElem?_getD,gp];rfl
   ·rw [Int.toNat_natCast,a6q]
  | false=>
   rw [if_neg Bool.false_ne_true]
   refine a0b.pure ?_
   refine (d8w hD).use (F:=_) (.refl _) fun f L₁ ok₁ hf=>?_
   obtain ⟨rfl,rfl⟩:=hf
   refine ⟨_,.refl _,rfl,hs,n,new,_,⟨st.lt,st.perm,.inr ⟨t',(((n - 1) / 2:Nat):Int),par.a,rfl⟩⟩,b0o hx fun _=>?_,rfl⟩
   have e1:key (hs.set n new) n=new.x:=by unfold key;rw [List.getD_eq_getElem?_getD,gn];rfl
   have e2:key (hs.set n new) ((n - 1) / 2)=par.x:=by unfold key;rw [List.getD_eq_getElem?_getD,gp];rfl
   rw [e1,e2];exact c2 rfl
 ·rw [if_neg (by simp;omega)]
  refine a0b.pure ⟨rfl,hs,n,new,fo,st,b0o hx fun h=>absurd h hn,rfl⟩
end
noncomputable def HL (H:Addr) (es:List It) (ep:Nat):Led:=(H,a0a (a0p es) ep)::es.map It.ob
theorem c1p {H es es' ep} (h:es'.Perm es):a2i ((H,a0a (a0p es') ep)::es'.map It.ob) ((H,a0a (a0p es') ep)::es.map It.ob):=.of_perm ((h.map _).symm.cons _)
theorem a0x.execF {w:World} {D U:Nat} {c fs t L F M R} (hp:M.Perm (L++F)) (hD:D≤600) (hfs:∀f∈fs,f.hd=none) (n:Nat) (hs:List Nat)
  (H:∀fr tk,(fun o:Out=>o.ok=true∧o.es.map (·.1)=o.es.map (·.2)∧(∀p∈o.ob,p)∧(Okl (o.L++F)→(∀f∈o.fs,f.hd=none)→a0x w D U o.c o.fs o.t (o.L++F) R)) (Mine.exec (vv w fr tk) n hs c fs t L 0 0 [] [])):a0x w D U c fs t M R:=
 fun A s hA S=>by
  have S1:a4s w (L++F) s:=S.part (.of_perm hp)
  refine c0i (L:=L) (n:=n) (hs:=hs) hA hD hfs (fun fr tk=>?_) (S1.part (.app _ _))
  obtain ⟨h1,h2,h3,h4⟩:=H fr tk
  refine ⟨h1,a7b h2,h3,fun s' S' E' G'=>?_⟩
  have S2:=S1.frame S' E'.weak G'
  have E2:a4j (L++F) s s':=E'.weak.pre (.app _ _)
  have G2:a0j (L++F) (_++F) s:=fun a ha=>by
   rw [List.map_append] at ha ⊢
   rcases List.mem_append.mp ha with h | h
   ·exact (G' a h).imp_left (List.mem_append_left _)
   ·exact .inl (List.mem_append_right _ h)
  exact (h4 S2.nd (c2l _ n hs c fs t L 0 0 [] [] hfs) A s' hA S2).mono fun r s'' q=>a1p (.of_perm hp) (a2y E2 G2 q) fun r L' _ hr=>⟨L',.refl _,hr⟩
theorem a0x.execCall {w:World} {D U:Nat} {c fs t L F M R} {d m:Nat} (R₁:(Nat→Addr)→(Nat→Tok)→a6i) (hp:M.Perm (L++F)) (hD:D≤600) (hfs:∀f∈fs,f.hd=none) (n:Nat) (hs:List Nat) (L':(Nat→Addr)→(Nat→Tok)→Led) (ob:(Nat→Addr)→(Nat→Tok)→List Prop)
  (cc:(Nat→Addr)→(Nat→Tok)→Code)
  (ev:∀fr tk,vc (Mine.exec (vv w fr tk) n hs c fs t L 0 0 [] [])=wc (Mine.exec (vv w fr tk) n hs c fs t L 0 0 [] []) (cc fr tk) d m (L' fr tk) (ob fr tk))
  (hob:∀fr tk,∀p∈ob fr tk,p)
  (hc:∀fr tk,True→a0y w (D + d) (U + 10 * (m + 1)) (cc fr tk) (L' fr tk++F) (R₁ fr tk))
  (hk:∀fr tk (o:Out),o=Mine.exec (vv w fr tk) n hs c fs t L 0 0 [] []→∀r L₁,True→R₁ fr tk r L₁→(∀f∈o.fs,f.hd=none)→a0x w D U o.c o.fs (cont o.t r) L₁ R):a0x w D U c fs t M R:=by
 refine a0x.execF hp hD hfs n hs fun fr tk=>?_
 have e:=ev fr tk
 have k:=hk fr tk _ rfl
 have hc':=hc fr tk
 have ho:=hob fr tk
 revert e k
 generalize Mine.exec (vv w fr tk) n hs c fs t L 0 0 [] []=o
 intro e k
 unfold vc wc at e
 simp only [Prod.mk.injEq] at e
 obtain ⟨e1,e2,e3,e4,e5,e6,e7⟩:=e
 refine ⟨e1,e7,by rw [e6];exact ho,fun ok hf=>?_⟩
 subst e4
 rw [e5] at ok ⊢
 exact a0x.call hf e2 e3 (hc' trivial) fun r L₁ ok₁ hr=>k r L₁ ok₁ hr hf
theorem a0x.execEnd {w:World} {D U:Nat} {c fs t L F M} {R:a6i} (hp:M.Perm (L++F)) (hD:D≤600) (hfs:∀f∈fs,f.hd=none) (n:Nat) (hs:List Nat) (r:(Nat→Addr)→(Nat→Tok)→Result) (L':(Nat→Addr)→(Nat→Tok)→Led) (ob:(Nat→Addr)→(Nat→Tok)→List Prop)
  (ev:∀fr tk,vw (Mine.exec (vv w fr tk) n hs c fs t L 0 0 [] [])=wt (Mine.exec (vv w fr tk) n hs c fs t L 0 0 [] []) (r fr tk) (L' fr tk) (ob fr tk))
  (hob:∀fr tk,∀p∈ob fr tk,p) (hQ:∀fr tk,True→PR R (r fr tk) (L' fr tk++F)):a0x w D U c fs t M R:=by
 refine a0x.execF hp hD hfs n hs fun fr tk=>?_
 have e:=ev fr tk
 have ho:=hob fr tk
 have hq:=hQ fr tk
 revert e
 generalize Mine.exec (vv w fr tk) n hs c fs t L 0 0 [] []=o
 intro e
 unfold vw wt at e
 simp only [Prod.mk.injEq] at e
 obtain ⟨e1,e2,e3,e4,e5⟩:=e
 refine ⟨e1,e5,by rw [e4];exact ho,fun ok hf=>?_⟩
 rw [e3] at ok ⊢
 obtain ⟨L'',p,q⟩:=hq trivial
 intro A s hA S
 refine a3x (o:=o) e2 ?_
 exact ⟨L'',q,S.part p,a4j.refl _ _,(a0j.refl _ _).part p⟩
noncomputable def va (o:Out):Bool×Option Code×List Nat×Led×List Prop×List Addr:=(o.ok,c1e o.t,o.fs.map fun _=>0,o.L,o.ob,o.es.map (·.1))
noncomputable def wa (o:Out) (c:Code) (L:Led) (ob:List Prop):Bool×Option Code×List Nat×Led×List Prop×List Addr:=(true,some c,[],L,ob,o.es.map (·.2))
theorem a3u:∀f∈([]:List Fr),f.hd=none:=fun _ h=>nomatch h
section
variable {w:World} {b1 b2:Bool} {D U:Nat} {H:Addr} {ep:Nat} {es:List It}
theorem a6o (hD:D≤590) (hU:U < 9700) (hz:es.length≤1000000) {n:Nat} {t0 t1:Tok} (hn:n < es.length) (hx:a5v es n):
  a0y (W w b1 b2) D U (.call (.ref 190) ⟨[.ref H,.int 0 t0,.int n t1],[]⟩) (HL H es ep) (fun r L=>r= .ok (.ret .none)∧∃es',An3 (es'.Perm es) (a4b es') (L=HL H es' ep)):=by
 obtain ⟨e,he⟩:∃e,es[n]?=some e:=⟨_,List.getElem?_eq_getElem hn⟩
 have hnth:nth (a0p es) (n:Int)= .ref e.a:=a3n he
 have hsz:(a0p es).size≤1000000:=by rw [a0m];exact hz
 have hset:es.set n e=es:=by
  obtain ⟨h1,rfl⟩:=List.getElem?_eq_some_iff.mp he
  exact List.set_getElem_self ..
 refine a0y.start ?_
 refine a0x.execCall (L:=[(H,a0a (a0p es) ep)]) (F:=es.map It.ob) (d:=1) (m:=0) (fun fr tk r L=>r= .ok .next∧Ey4 fun hs pos new fo=>An3 (e0u (W w b1 b2).params H es hs pos new fo) (a4b (hs.set pos new)) (L=[(fr 0,fo),(H,a0a (a0p hs) ep)]++es.map It.ob)) (.refl _) (by exact lb0 hD rfl) a3u 1000 [0,0,2,1,2,1,2,1,2,2,1,1,1,0,1,2,1]
  (fun fr tk=>[(H,a0a (a0p es) ep),(fr 0,e3y (W w b1 b2).params (fun i=>match i with | 0=>Nat.succ (tk 0) | 1=>Nat.succ (tk 1) | 2=>t0 | 3=>Nat.succ (tk 2) | 4=>t1 | _=>Nat.succ (tk 4)) H (a3q (nth (a0p es) n)) n)])
  (fun fr tk=>[0≤(n:Int),(n:Int) < (a0p es).size,(a0p es).size≤1000000,nth (a0p es) n= .ref (a3q (nth (a0p es) n))])
  (fun fr tk=>.whileLoop sdT (lpB a5e) [] (a3c (fr 0))) (fun fr tk=>by kernel_rfl)
  (fun fr tk=>a0d (by exact Int.natCast_nonneg _) (a0d (by rw [a0m];exact Int.ofNat_lt.mpr (by assumption)) (a0d hsz (a0d (by rw [hnth];rfl) a0e)))) (fun fr tk ok=>?_) (fun fr tk o ho r L₁ ok hr hf=>?_)
 ·rw [hnth]
  refine (d3c (by exact lbk hD rfl) (by exact ubk hU rfl) hz n ⟨es,e,_,⟨hn,by rw [hset],.inl ⟨_,rfl⟩⟩,by rw [hset];exact hx,rfl⟩).mono (.of_perm (.swap ..)) fun r L' _ h=>⟨L',.refl _,h⟩
 ·obtain ⟨rfl,hs,pos,new,fo,st,hh,rfl⟩:=hr
  have hl:=st.len
  have h1:=st.lt
  refine a0x.execEnd (L:=[(fr 0,fo),(H,a0a (a0p hs) ep)]) (F:=es.map It.ob) (.refl _) (by exact lb0 hD rfl) hf 1000 [1,1,1,2,2,1] (fun _ _=>.ok (.ret .none)) (fun _ _=>[(fr 0,fo),(H,a0a ((a0p hs).setIfInBounds pos (.ref new.a)) ep)]) (fun _ _=>[0≤(pos:Int),(pos:Int) < (a0p hs).size,(a0p hs).size≤1000000]) (fun fr' tk'=>?_) (fun _ _=>a0d (by exact Int.natCast_nonneg _) (a0d (by rw [a0m];exact Int.ofNat_lt.mpr (by assumption)) (a0d (by rw [a0m];exact Nat.le_trans (Nat.le_of_eq hl) hz) a0e))) (fun fr' tk' ok=>?_)
  ·rw [ho];rcases st.fr with ⟨t,hz⟩ | ⟨t,pp,J,hz⟩ <;> rw [hz] <;> kernel_rfl
  ·refine ⟨HL H (hs.set pos new) ep,?_,rfl,hs.set pos new,st.perm,hh,rfl⟩
   rw [a6q]
   exact a2i.skip _ (c1p st.perm)
end
noncomputable abbrev a4m:Stmt:=a3i (a1e (top 14)) 4
noncomputable abbrev a2e (F:Addr):Env:=b6b (top 14) l17 197 196 F []
noncomputable abbrev e4r (P:Params) (t:Nat→Tok) (H I:Addr) (p n c:Int):Obj:=fob P [(a3j,t 0,.ref H),(c4m,t 1,.int p (t 2)),(b7n,t 3,.int n (t 4)),(a5o,t 5,.int 0 (t 6)),(a6u,t 7,.ref I),(b0v,t 8,.int c (t 9))] 6
noncomputable abbrev a7x (P:Params) (t:Nat→Tok) (H I:Addr) (p n c r:Int):Obj:=fob P [(a3j,t 0,.ref H),(c4m,t 1,.int p (t 2)),(b7n,t 3,.int n (t 4)),(a5o,t 5,.int 0 (t 6)),(a6u,t 7,.ref I),(b0v,t 8,.int c (t 9)),(b8m,t 10,.int r (t 11))] 7
noncomputable abbrev suT:Expr:=lpT a4m
noncomputable abbrev d4m:Stmt:=a3i (lpB a4m) 1
noncomputable def f1t (e:Expr):List Expr:=match e with
 | .BoolOp _ vs _=>vs
 | _=>[]
noncomputable def f1g (l:List Expr) (k:Nat):Expr:=l.getD k (.Constant .none 0 default)
noncomputable def d1g (e:Expr):Expr:=match e with
 | .UnaryOp _ x _=>x
 | _=>e
noncomputable def f1s (e:Expr):Pos:=match e with
 | .UnaryOp _ _ p=>p
 | .BoolOp _ _ p=>p
 | _=>default
section
variable {w:World} {b1 b2:Bool} {D U:Nat} {t:Nat→Tok} {F H I:Addr} {p n c r:Int} {xs:Array Value} {ep:Nat}
theorem c1z (hD:D≤600) (fo:Obj) (hf:fo=e4r (W w b1 b2).params t H I p n c∨fo=a7x (W w b1 b2).params t H I p n c r):
  a0b (W w b1 b2) D U (PySem.isTrue suT (a2e F) (eval suT (a2e F))) [(F,fo)] (fun b L=>b=decide (c < n)∧L=[(F,fo)]):=by
 by_cases h:c < n
 ·refine a0b.run c8z (y:=a4f suT (a2e F) (a2r suT (a2e F))) (by rw [a3k,a1i]) hD 1000 [1,1,1] (fun _ _=>true) (fun _ _=>[(F,fo)]) (fun _ _=>[c < n]) (fun fr tk=>?_) (fun _ _=>a0d h a0e) (fun _ _ _=>⟨_,.refl _,by simp [h],rfl⟩)
  rcases hf with rfl | rfl <;> exact bcs b1 (by kernel_rfl) (by kernel_rfl)
 ·refine a0b.run c8z (y:=a4f suT (a2e F) (a2r suT (a2e F))) (by rw [a3k,a1i]) hD 1000 [1,1,0] (fun _ _=>false) (fun _ _=>[(F,fo)]) (fun _ _=>[¬c < n]) (fun fr tk=>?_) (fun _ _=>a0d h a0e) (fun _ _ _=>⟨_,.refl _,by simp [h],rfl⟩)
  rcases hf with rfl | rfl <;> exact bcs b1 (by kernel_rfl) (by kernel_rfl)
theorem c8u (hD:D≤600) (fo:Obj) (hf:fo=e4r (W w b1 b2).params t H I p n c∨fo=a7x (W w b1 b2).params t H I p n c r):
  a0b (W w b1 b2) D U (PySem.execs ((lpB a4m).take 1) (a2e F)) [(F,fo)] (fun f L=>f= .next∧∃t',L=[(F,a7x (W w b1 b2).params t' H I p n c (c + 1))]):=by
 rcases hf with rfl | rfl
 ·refine a0b.run b8l (y:=a2q ((lpB a4m).take 1) (a2e F)) (by rw [a2l]) hD 1000 [1,1,0] (fun _ _=>.next) (fun fr tk=>[(F,a7x (W w b1 b2).params (a0q (a0q t 10 (Nat.succ (tk 2))) 11 (Nat.succ (tk 1))) H I p n c (c + 1))]) (fun _ _=>[]) (fun fr tk=>by kernel_rfl) (fun _ _=>a0e) (fun _ _ _=>⟨_,.refl _,rfl,_,rfl⟩)
 ·refine a0b.run b8l (y:=a2q ((lpB a4m).take 1) (a2e F)) (by rw [a2l]) hD 1000 [1,1,0] (fun _ _=>.next) (fun fr tk=>[(F,a7x (W w b1 b2).params (a0q t 11 (Nat.succ (tk 1))) H I p n c (c + 1))]) (fun _ _=>[]) (fun fr tk=>by kernel_rfl) (fun _ _=>a0e) (fun _ _ _=>⟨_,.refl _,rfl,_,rfl⟩)
noncomputable abbrev suA:Expr:=f1g (f1t (lpT d4m)) 0
noncomputable abbrev suN:Expr:=f1g (f1t (lpT d4m)) 1
theorem e9i (hD:D≤600):a0b (W w b1 b2) D U (PySem.isTrue suA (a2e F) (eval suA (a2e F))) [(F,a7x (W w b1 b2).params t H I p n c r)] (fun b L=>b=decide (r < n)∧L=[(F,a7x (W w b1 b2).params t H I p n c r)]):=by
 by_cases h:r < n
 ·refine a0b.run c8z (y:=a4f suA (a2e F) (a2r suA (a2e F))) (by rw [a3k,a1i]) hD 1000 [1,1,1] (fun _ _=>true) (fun _ _=>[(F,a7x (W w b1 b2).params t H I p n c r)]) (fun _ _=>[r < n]) (fun fr tk=>?_) (fun _ _=>a0d h a0e) (fun _ _ _=>⟨_,.refl _,by simp [h],rfl⟩)
  exact bcs b1 (by kernel_rfl) (by kernel_rfl)
 ·refine a0b.run c8z (y:=a4f suA (a2e F) (a2r suA (a2e F))) (by rw [a3k,a1i]) hD 1000 [1,1,0] (fun _ _=>false) (fun _ _=>[(F,a7x (W w b1 b2).params t H I p n c r)]) (fun _ _=>[¬r < n]) (fun fr tk=>?_) (fun _ _=>a0d h a0e) (fun _ _ _=>⟨_,.refl _,by simp [h],rfl⟩)
  exact bcs b1 (by kernel_rfl) (by kernel_rfl)
theorem e9o (hD:D≤600) (h0:0≤c) (h1:c < xs.size) (hz:xs.size≤1000000) {J:Addr} (hv:nth xs c= .ref J):
  a0b (W w b1 b2) D U (eval (b6u (d1g suN)) (a2e F)) [(F,a7x (W w b1 b2).params t H I p n c r),(H,a0a xs ep)] (fun v L=>v= .ref J∧L=[(F,a7x (W w b1 b2).params t H I p n c r),(H,a0a xs ep)]):=by
 refine a0b.run b3n (y:=a2r (b6u (d1g suN)) (a2e F)) (by rw [a1i]) hD 1000 [1,1,2,2,2,1,1] (fun _ _=>.ref (a3q (nth xs c))) (fun _ _=>[(F,a7x (W w b1 b2).params t H I p n c r),(H,a0a xs ep)]) (fun _ _=>[0≤c,c < xs.size,xs.size≤1000000,nth xs c= .ref (a3q (nth xs c))]) (fun fr tk=>by kernel_rfl) (fun _ _=>a0d h0 (a0d h1 (a0d hz (a0d (by rw [hv];rfl) a0e)))) (fun _ _ _=>⟨_,.refl _,by rw [hv];rfl,rfl⟩)
theorem e7b (hD:D≤600) (h0:0≤r) (h1:r < xs.size) (hz:xs.size≤1000000) {J:Addr} (hv:nth xs r= .ref J):
  a0b (W w b1 b2) D U (eval (b3c (d1g suN)) (a2e F)) [(F,a7x (W w b1 b2).params t H I p n c r),(H,a0a xs ep)] (fun v L=>v= .ref J∧L=[(F,a7x (W w b1 b2).params t H I p n c r),(H,a0a xs ep)]):=by
 refine a0b.run b3n (y:=a2r (b3c (d1g suN)) (a2e F)) (by rw [a1i]) hD 1000 [1,1,2,2,2,1,1] (fun _ _=>.ref (a3q (nth xs r))) (fun _ _=>[(F,a7x (W w b1 b2).params t H I p n c r),(H,a0a xs ep)]) (fun _ _=>[0≤r,r < xs.size,xs.size≤1000000,nth xs r= .ref (a3q (nth xs r))]) (fun fr tk=>by kernel_rfl) (fun _ _=>a0d h0 (a0d h1 (a0d hz (a0d (by rw [hv];rfl) a0e)))) (fun _ _ _=>⟨_,.refl _,by rw [hv];rfl,rfl⟩)
theorem d2t (hD:D≤600):a0b (W w b1 b2) D U (PySem.execs (lpB d4m) (a2e F)) [(F,a7x (W w b1 b2).params t H I p n c r)] (fun f L=>f= .next∧∃t',L=[(F,a7x (W w b1 b2).params t' H I p n r r)]):=
 a0b.run b8l (y:=a2q (lpB d4m) (a2e F)) (by rw [a2l]) hD 1000 [1,1,0] (fun _ _=>.next) (fun fr tk=>[(F,a7x (W w b1 b2).params (a0q t 9 (t 11)) H I p n r r)]) (fun _ _=>[]) (fun fr tk=>by kernel_rfl) (fun _ _=>a0e) (fun _ _ _=>⟨_,.refl _,rfl,_,rfl⟩)
theorem d1t (hD:D≤600) (h0:0≤c) (h1:c < xs.size) (hp0:0≤p) (hp1:p < xs.size) (hz:xs.size≤1000000) {J:Addr} (hv:nth xs c= .ref J):
  a0b (W w b1 b2) D U (PySem.execs ((lpB a4m).drop 2) (a2e F)) [(F,a7x (W w b1 b2).params t H I p n c r),(H,a0a xs ep)] (fun f L=>f= .next∧∃t',L=[(F,a7x (W w b1 b2).params t' H I c n (2 * c + 1) r),(H,a0a (xs.setIfInBounds p.toNat (.ref J)) ep)]):=by
 refine a0b.run b8l (y:=a2q ((lpB a4m).drop 2) (a2e F)) (by rw [a2l]) hD 1000 [1,1,2,2,2,1,1,1,1,2,2,1,1,1,0,1,1,0] (fun _ _=>.next) (fun fr tk=>[(F,a7x (W w b1 b2).params (a0q (a0q t 2 (t 9)) 9 (Nat.succ (tk 6))) H I c n (2 * c + 1) r),(H,a0a (xs.setIfInBounds p.toNat (.ref (a3q (nth xs c)))) ep)])
  (fun _ _=>[0≤p,p < xs.size,xs.size≤1000000,0≤c,c < xs.size,xs.size≤1000000,nth xs c= .ref (a3q (nth xs c))]) (fun fr tk=>by kernel_rfl) (fun _ _=>a0d hp0 (a0d hp1 (a0d hz (a0d h0 (a0d h1 (a0d hz (a0d (by rw [hv];rfl) a0e))))))) (fun _ _ _=>⟨_,.refl _,rfl,_,by rw [hv];rfl⟩)
end
theorem a0b.andNot {w:World} {D U:Nat} {x y:Expr} {p q:Pos} {env:Env} {whole:Sem Value} {L:Led} {Q:Bool→Led→Prop} (h:a0b w D U (PySem.isTrue x env (eval x env)) L (fun b L₁=>if b then a0b w D U (PySem.isTrue y env (eval y env)) L₁ (fun b L₂=>Q (!b) L₂) else Q false L₁)):
  a0b w D U (PySem.isTrue (.BoolOp .And [x,.UnaryOp .Not y q] p) env whole) L Q:=fun A s E hA S=>by
 refine wpAny_isTrue_BoolOp (wpAny_allTrue_And_cons (wpAny_mono (h A s E hA S) (fun b s₁ ⟨L₁,h₁,S₁,E₁,G₁⟩=>?_) fun _ _ q=>q))
 cases b with
 | false=>simp only [Bool.false_eq_true,if_false] at h₁ ⊢;exact ⟨L₁,h₁,S₁,E₁,G₁⟩
 | true=>
  simp only [if_true] at h₁ ⊢
  refine wpAny_allTrue_And_cons (wpAny_isTrue_Not (wpAny_mono (h₁ A s₁ E hA S₁) (fun b s₂ ⟨L₂,h₂,S₂,E₂,G₂⟩=>?_) fun _ _ q=>q))
  have e:=E₁.trans G₁ E₂
  have g:=G₁.trans' E₁ G₂
  cases b with
  | true=>exact ⟨L₂,h₂,S₂,e,g⟩
  | false=>exact wpAny_allTrue_And_nil ⟨L₂,h₂,S₂,e,g⟩
noncomputable def a9e (g:List It) (k:Nat):Prop:=(∀i,0 < i→i < g.length→i≠k→(i - 1) / 2≠k→key g ((i - 1) / 2)≤key g i)∧(∀i,0 < i→i < g.length→(i - 1) / 2=k→0 < k→key g ((k - 1) / 2)≤key g i)
theorem b8s {g:List It} {k:Nat} (h:a9e g k) (he:g.length≤2 * k + 1):a5v g k:=
 ⟨fun i h0 h1 hn=>h.1 i h0 h1 hn (by omega),fun i h0 h1 hc=>absurd hc (by omega)⟩
theorem b6i {g:List It} {k c:Nat} {e d:It} (hk:k < c) (hl:c < g.length) (hc:(c - 1) / 2=k) (he:key g k=e.x) (hd:key g c=d.x) (h:a9e g k)
  (hmin:∀i,0 < i→i < g.length→(i - 1) / 2=k→key g c≤key g i):a9e ((g.set k d).set c e) c:=by
 have hl2:c < (g.set k d).length:=by rw [List.length_set];omega
 have key':∀i,key ((g.set k d).set c e) i=if i=c then e.x else if i=k then d.x else key g i:=fun i=>by rw [b1j _ _ _ _ hl2,b1j _ _ _ _ (by exact Nat.lt_of_lt_of_le hk (Nat.le_of_lt hl))]
 refine ⟨fun i h0 h1 hn hp=>?_,fun i h0 h1 hp hpos=>?_⟩
 ·rw [List.length_set,List.length_set] at h1
  rw [key',key',if_neg hn,if_neg hp]
  by_cases hik:i=k
  ·subst hik
   rw [if_pos rfl,if_neg (by omega),←hd]
   exact h.2 c (by exact Nat.lt_of_lt_of_le h0 (Nat.le_of_lt hk)) hl hc h0
  ·rw [if_neg hik]
   by_cases hpk:(i - 1) / 2=k
   ·rw [if_pos hpk,←hd]
    exact hmin i h0 h1 hpk
   ·rw [if_neg hpk]
    exact h.1 i h0 h1 hik hpk
 ·rw [List.length_set,List.length_set] at h1
  rw [key',key',hc,if_neg (by omega),if_pos rfl,if_neg (by omega),if_neg (by omega),←hd]
  have:=h.1 i h0 h1 (by omega) (by omega)
  rw [hp] at this
  exact this
structure c8h (P:Params) (H:Addr) (es0 hs:List It) (pos:Nat) (new:It) (fo:Obj):Prop where
 lt:pos < hs.length
 perm:(hs.set pos new).Perm es0
 fr:(∃t,fo=e4r P t H new.a pos es0.length (2 * pos + 1))∨Ey2 fun t r=>fo=a7x P t H new.a pos es0.length (2 * pos + 1) r
theorem b5j {g:List It} {k:Nat} {e:It} (h:g[k]?=some e):key g k=e.x:=by unfold key;rw [List.getD_eq_getElem?_getD,h];rfl
section
variable {w:World} {b1 b2:Bool} {D U:Nat} {F H:Addr} {ep:Nat} {es0:List It}
theorem c8h.len {P hs pos new fo} (h:c8h P H es0 hs pos new fo):hs.length=es0.length:=by
 have:=h.perm.length_eq
 rw [List.length_set] at this
 exact this
noncomputable abbrev SuI (w:World) (b1 b2:Bool) (F H:Addr) (ep:Nat) (es0:List It) (n:Nat) (L:Led):Prop:=Ey4 fun hs pos new fo=>An4 (c8h (W w b1 b2).params H es0 hs pos new fo) (n + pos=es0.length) (a9e (hs.set pos new) pos) (L=[(F,fo),(H,a0a (a0p hs) ep)]++es0.map It.ob)
noncomputable abbrev SuR (w:World) (b1 b2:Bool) (F H:Addr) (ep:Nat) (es0:List It):a6i:=fun r L=>r= .ok .next∧Ey4 fun hs pos new fo=>An3 (c8h (W w b1 b2).params H es0 hs pos new fo) (a5v (hs.set pos new) pos) (L=[(F,fo),(H,a0a (a0p hs) ep)]++es0.map It.ob)
theorem d3p (hD:D≤600) (hU:U < 9800) (hz:es0.length≤1000000) (n:Nat) {L:Led}
  (hI:SuI w b1 b2 F H ep es0 n L):
  a0y (W w b1 b2) D U (.whileLoop suT (lpB a4m) [] (a2e F)) L (SuR w b1 b2 F H ep es0):=by
 refine a0y.while (fun n L=>SuI w b1 b2 F H ep es0 n L) (fun n L okl hI=>?_) n hI
 obtain ⟨hs,pos,new,fo,st,hm,hx,rfl⟩:=hI
 have hlt:=st.lt
 have hlen:=st.len
 have hsz:(a0p hs).size≤1000000:=by rw [a0m];exact Nat.le_trans (Nat.le_of_eq hlen) hz
 have htest:a0b (W w b1 b2) D U (PySem.isTrue suT (a2e F) (eval suT (a2e F))) [(F,fo)] (fun b L=>b=decide ((2 * pos + 1:Int) < (es0.length:Int))∧L=[(F,fo)]):=by
  rcases st.fr with ⟨t,hf⟩ | ⟨t,r,hf⟩
  ·exact c1z (r:=0) hD fo (.inl hf)
  ·exact c1z hD fo (.inr hf)
 refine htest.use (F:=(H,a0a (a0p hs) ep)::es0.map It.ob) (.refl _) fun b L₁ ok₁ hb=>?_
 obtain ⟨rfl,rfl⟩:=hb
 refine ⟨_,.refl _,?_⟩
 by_cases hn:2 * pos + 1 < es0.length
 ·rw [if_pos (by simp;exact Int.ofNat_lt.mpr (by assumption))]
  have gnew:(hs.set pos new)[pos]?=some new:=by rw [List.getElem?_set];simp [hlt]
  have after:∀(c:Nat) (r:Int) (t:Nat→Tok),2 * pos + 1≤c→c < es0.length→(c - 1) / 2=pos→(∀i,0 < i→i < (hs.set pos new).length→(i - 1) / 2=pos→key (hs.set pos new) c≤key (hs.set pos new) i)→
    a0b (W w b1 b2) D U (PySem.execs ((lpB a4m).drop 2) (a2e F)) ([(F,a7x (W w b1 b2).params t H new.a pos es0.length c r),(H,a0a (a0p hs) ep)]++es0.map It.ob)
     (fun f L₃=>match f with
      | .next | .cont=>∃m,m < n∧Ey4 fun hs pos new fo=>An4 (c8h (W w b1 b2).params H es0 hs pos new fo) (m + pos=es0.length) (a9e (hs.set pos new) pos) (L₃=[(F,fo),(H,a0a (a0p hs) ep)]++es0.map It.ob)
      | .brk=>(Except.ok Flow.next:Result)= .ok .next∧Ey4 fun hs pos new fo=>An3 (c8h (W w b1 b2).params H es0 hs pos new fo) (a5v (hs.set pos new) pos) (L₃=[(F,fo),(H,a0a (a0p hs) ep)]++es0.map It.ob)
      | .ret v=>(Except.ok (Flow.ret v):Result)= .ok .next∧Ey4 fun hs pos new fo=>An3 (c8h (W w b1 b2).params H es0 hs pos new fo) (a5v (hs.set pos new) pos) (L₃=[(F,fo),(H,a0a (a0p hs) ep)]++es0.map It.ob)):=by
   intro c r t hc1 hc2 hc3 hmin
   obtain ⟨ch,hch⟩:∃ch,hs[c]?=some ch:=⟨_,List.getElem?_eq_getElem (by exact Nat.lt_of_lt_of_le hc2 (Nat.le_of_eq hlen.symm))⟩
   have gch:(hs.set pos new)[c]?=some ch:=by rw [List.getElem?_set,if_neg (by omega)];exact hch
   refine (d1t (r:=r) hD (by exact Int.natCast_nonneg _) (by rw [a0m];omega) (by exact Int.natCast_nonneg _) (by rw [a0m];exact Int.ofNat_lt.mpr (by assumption)) hsz (a3n hch)).use (F:=es0.map It.ob) (.refl _) fun f L₁ ok₁ hf=>?_
   obtain ⟨rfl,t',rfl⟩:=hf
   have hset:((hs.set pos ch).set c new)=((hs.set pos new).set pos ch).set c new:=by rw [List.set_set]
   refine ⟨_,.refl _,n - (c - pos),by omega,hs.set pos ch,c,new,_,⟨?_,?_,.inr ⟨t',r,rfl⟩⟩,by omega,?_,?_⟩
   ·rw [List.length_set];omega
   ·rw [hset];exact (b3f gnew gch).trans st.perm
   ·rw [hset]
    exact b6i (by omega) (by rw [List.length_set];omega) hc3 (b5j gnew) (b5j gch) hx hmin
   ·rw [Int.toNat_natCast,a6q]
  refine a0b.execs 1 ?_
  have h1:a0b (W w b1 b2) D U (PySem.execs ((lpB a4m).take 1) (a2e F)) [(F,fo)] (fun f L=>f= .next∧∃t',L=[(F,a7x (W w b1 b2).params t' H new.a pos es0.length (2 * pos + 1) (2 * pos + 1 + 1))]):=by
   rcases st.fr with ⟨t,hf⟩ | ⟨t,r,hf⟩
   ·exact c8u (r:=0) hD fo (.inl hf)
   ·exact c8u hD fo (.inr hf)
  refine h1.use (F:=(H,a0a (a0p hs) ep)::es0.map It.ob) (.refl _) fun f L₁ ok₁ hf=>?_
  obtain ⟨rfl,t',rfl⟩:=hf
  refine ⟨_,.refl _,?_⟩
  show a0b (W w b1 b2) D U (PySem.execs ((lpB a4m).drop 1) (a2e F)) _ _
  refine a0b.execs 1 ?_
  show a0b (W w b1 b2) D U (PySem.execs [PySem.Stmt.If (.BoolOp .And [suA,.UnaryOp .Not (.Compare (b6u (d1g suN)) [.Lt] [b3c (d1g suN)] (c3z (d1g suN))) (f1s suN)] (f1s (lpT d4m))) (lpB d4m) [] (c6n d4m)] (a2e F)) _ _
  refine a0b.single (a0b.if (a0b.andNot ?_))
  refine (e9i hD).use (F:=(H,a0a (a0p hs) ep)::es0.map It.ob) (.refl _) fun b L₁ ok₁ hb=>?_
  obtain ⟨rfl,rfl⟩:=hb
  refine ⟨_,.refl _,?_⟩
  obtain ⟨a,ha⟩:∃a,hs[2 * pos + 1]?=some a:=⟨_,List.getElem?_eq_getElem (by exact Nat.lt_of_lt_of_le hn (Nat.le_of_eq hlen.symm))⟩
  have ga:(hs.set pos new)[2 * pos + 1]?=some a:=by rw [List.getElem?_set,if_neg (by simp +arith)];exact ha
  have na:nth (a0p hs) (2 * (pos:Int) + 1)= .ref a.a:=by
   have:(2 * (pos:Int) + 1)=((2 * pos + 1:Nat):Int):=by simp +arith
   rw [this];exact a3n ha
  by_cases hr:2 * pos + 1 + 1 < es0.length
  ·rw [if_pos (by simp;exact Int.ofNat_lt.mpr (by assumption))]
   obtain ⟨b,hb⟩:∃b,hs[2 * pos + 1 + 1]?=some b:=⟨_,List.getElem?_eq_getElem (by exact Nat.lt_of_lt_of_le hr (Nat.le_of_eq hlen.symm))⟩
   have gb:(hs.set pos new)[2 * pos + 1 + 1]?=some b:=by rw [List.getElem?_set,if_neg (by simp +arith)];exact hb
   have nb:nth (a0p hs) (2 * (pos:Int) + 1 + 1)= .ref b.a:=by
    have:(2 * (pos:Int) + 1 + 1)=((2 * pos + 1 + 1:Nat):Int):=by simp +arith
    rw [this];exact a3n hb
   refine a0b.compare ?_ (by kernel_rfl)
   refine (e9o hD (by exact Int.natCast_nonneg _) (by rw [a0m];omega) hsz na).use (F:=es0.map It.ob) (.refl _) fun v L₁ ok₁ hv=>?_
   obtain ⟨rfl,rfl⟩:=hv
   refine ⟨_,.refl _,(e7b hD (by exact Int.natCast_nonneg _) (by rw [a0m];omega) hsz nb).use (F:=es0.map It.ob) (.refl _) fun v L₁ ok₁ hv=>?_⟩
   obtain ⟨rfl,rfl⟩:=hv
   refine ⟨_,.refl _,?_⟩
   obtain ⟨rest,hrest⟩:=c9m ga gb (by simp +arith)
   have hperm:es0.Perm (a::b::rest):=st.perm.symm.trans hrest
   have hT:(es0.map It.ob).Perm (a.ob::b.ob::rest.map It.ob):=hperm.map _
   have hl:([(F,a7x (W w b1 b2).params t' H new.a pos es0.length (2 * pos + 1) (2 * pos + 1 + 1)),(H,a0a (a0p hs) ep)]++es0.map It.ob).Perm ([a.ob,b.ob]++([(F,a7x (W w b1 b2).params t' H new.a pos es0.length (2 * pos + 1) (2 * pos + 1 + 1)),(H,a0a (a0p hs) ep)]++rest.map It.ob)):=by
    refine ((hT.cons _).cons _).trans ?_
    exact (List.perm_append_comm_assoc [_,_] [a.ob,b.ob] (rest.map It.ob))
   refine (a4k (x:=a.x) (tx:=a.tx) (p:=a.p) (tp:=a.tp) (y:=b.x) (ty:=b.tx) (q:=b.p) (tq:=b.tp) hU).use hl fun v L₁ ok₁ hv=>?_
   obtain ⟨c,rfl,c1,c2,rfl⟩:=hv
   refine ⟨_,.of_perm hl.symm,c,rfl,?_⟩
   cases c with
   | true=>
    rw [if_neg (by simp)]
    refine a0b.pure ?_
    refine after (2 * pos + 1) (2 * pos + 1 + 1) t' (Nat.le_refl _) hn (by simp +arith) fun i h0 h1 hi=>?_
    have:i=2 * pos + 1∨i=2 * pos + 1 + 1:=by omega
    rcases this with rfl | rfl
    ·exact Int.le_refl _
    ·rw [b5j ga,b5j gb];exact c1 rfl
   | false=>
    rw [if_pos (by simp)]
    refine (d2t hD).use (F:=(H,a0a (a0p hs) ep)::es0.map It.ob) (.refl _) fun f L₁ ok₁ hf=>?_
    obtain ⟨rfl,t'',rfl⟩:=hf
    refine ⟨_,.refl _,?_⟩
    refine after (2 * pos + 1 + 1) (2 * pos + 1 + 1) t'' (by exact Nat.le_add_right _ _) hr (by omega) fun i h0 h1 hi=>?_
    have:i=2 * pos + 1∨i=2 * pos + 1 + 1:=by omega
    rcases this with rfl | rfl
    ·rw [b5j ga,b5j gb];exact c2 rfl
    ·exact Int.le_refl _
  ·rw [if_neg (by simp;omega)]
   rw [if_neg (by simp)]
   refine a0b.pure ?_
   refine after (2 * pos + 1) (2 * pos + 1 + 1) t' (Nat.le_refl _) hn (by omega) fun i h0 h1 hi=>?_
   rw [List.length_set] at h1
   have:i=2 * pos + 1:=by omega
   subst this
   exact Int.le_refl _
 ·rw [if_neg (by simp;omega)]
  refine a0b.pure ⟨rfl,hs,pos,new,fo,st,b8s hx (by rw [List.length_set];exact Nat.le_trans (Nat.le_of_eq hlen) (Nat.le_of_not_lt hn)),rfl⟩
end
noncomputable def e3a (o:Obj) (k:Nat):Value:=match o with
 | ⟨_,_,.dict es _,_⟩=>match es.toList[k]? with
  | some e=>e.val
  | none=>.none
 | _=>.none
section
variable {w:World} {b1 b2:Bool} {D U:Nat} {H:Addr} {ep:Nat} {es:List It}
theorem b5i (hD:D≤580) (hU:U < 9600) (hz:es.length≤1000000) {t0:Tok} (hn:0 < es.length) (hx:a9e es 0):
  a0y (W w b1 b2) D U (.call (.ref 197) ⟨[.ref H,.int 0 t0],[]⟩) (HL H es ep) (fun r L=>r= .ok (.ret .none)∧∃es',An3 (es'.Perm es) (a4b es') (L=HL H es' ep)):=by
 obtain ⟨e,he⟩:∃e,es[0]?=some e:=⟨_,List.getElem?_eq_getElem hn⟩
 have hnth:nth (a0p es) 0= .ref e.a:=a3n he
 have hsz:(a0p es).size≤1000000:=by rw [a0m];exact hz
 have hset:es.set 0 e=es:=by
  obtain ⟨h1,rfl⟩:=List.getElem?_eq_some_iff.mp he
  exact List.set_getElem_self ..
 refine a0y.start ?_
 refine a0x.execCall (L:=[(H,a0a (a0p es) ep)]) (F:=es.map It.ob) (d:=1) (m:=0) (fun fr tk r L=>r= .ok .next∧Ey4 fun hs pos new fo=>An3 (c8h (W w b1 b2).params H es hs pos new fo) (a5v (hs.set pos new) pos) (L=[(fr 0,fo),(H,a0a (a0p hs) ep)]++es.map It.ob)) (.refl _) (by exact lb0 hD rfl) a3u 1000 [0,0,2,1,2,1,0,0,2,0,2,2,1,2,2,1,2,2,1,1,1,0,1,2,1,2,2,1]
  (fun fr tk=>[(H,a0a (a0p es) ep),(fr 0,e4r (W w b1 b2).params (fun i=>match i with | 0=>Nat.succ (tk 0) | 1=>Nat.succ (tk 1) | 2=>t0 | 3=>Nat.succ (tk 3) | 4=>Nat.succ (tk 2) | 5=>Nat.succ (tk 4) | 6=>t0 | 7=>Nat.succ (tk 6) | 8=>Nat.succ (tk 11) | _=>Nat.succ (tk 10)) H (a3q (nth (a0p es) 0)) 0 (a0p es).size (2 * 0 + 1))])
  (fun fr tk=>[0≤(0:Int),(0:Int) < (a0p es).size,(a0p es).size≤1000000,nth (a0p es) 0= .ref (a3q (nth (a0p es) 0)),(a0p es).size≤1000000])
  (fun fr tk=>.whileLoop suT (lpB a4m) [] (a2e (fr 0))) (fun fr tk=>by kernel_rfl)
  (fun fr tk=>a0d (by exact Int.natCast_nonneg _) (a0d (by rw [a0m];exact Int.ofNat_lt.mpr (by assumption)) (a0d hsz (a0d (by rw [hnth];rfl) (a0d hsz a0e))))) (fun fr tk ok=>?_) (fun fr tk o ho r L₁ ok hr hf=>?_)
 ·rw [hnth,a0m]
  refine (d3p (by exact lbk hD rfl) (by exact ubk hU rfl) hz es.length ⟨es,0,e,_,⟨hn,by rw [hset],.inl ⟨_,rfl⟩⟩,by simp +arith,by rw [hset];exact hx,rfl⟩).mono (.of_perm (.swap ..)) fun r L' _ h=>⟨L',.refl _,h⟩
 ·obtain ⟨rfl,hs,pos,new,fo,st,hh,rfl⟩:=hr
  have hl:=st.len
  have h1:=st.lt
  refine a0x.execCall (L:=[(fr 0,fo),(H,a0a (a0p hs) ep)]) (F:=es.map It.ob) (d:=1) (m:=0) (fun fr' tk' r L=>r= .ok (.ret .none)∧∃es',An3 (es'.Perm es) (a4b es') (L=HL H es' ep)) (.refl _) (by exact lb0 hD rfl) hf 1000 [1,1,1,2,2,1,0,1,1,1,0]
   (fun _ _=>[(fr 0,fo),(H,a0a ((a0p hs).setIfInBounds pos (.ref new.a)) ep)]) (fun _ _=>[0≤(pos:Int),(pos:Int) < (a0p hs).size,(a0p hs).size≤1000000])
   (fun _ _=>.call (.ref 190) ⟨[.ref H,.int 0 (a7e (e3a fo 3)),.int pos (a7e (e3a fo 1))],[]⟩) (fun fr' tk'=>?_)
   (fun _ _=>a0d (by exact Int.natCast_nonneg _) (a0d (by rw [a0m];exact Int.ofNat_lt.mpr (by assumption)) (a0d (by rw [a0m];exact Nat.le_trans (Nat.le_of_eq hl) hz) a0e))) (fun fr' tk' ok=>?_) (fun fr' tk' o' ho' r L₁ ok hr hf'=>?_)
  ·rw [ho];rcases st.fr with ⟨t,hz⟩ | ⟨t,r,hz⟩ <;> rw [hz] <;> kernel_rfl
  ·rw [a6q]
   have hl2:(hs.set pos new).length≤1000000:=by rw [List.length_set];omega
   refine (a6o (by exact lbk hD rfl) (by exact ubk hU rfl) hl2 (by rw [List.length_set];exact h1) hh).mono (a2i.skip _ (c1p st.perm)) fun r L' _ h=>⟨L',.refl _,?_⟩
   obtain ⟨rfl,es',p',h',rfl⟩:=h
   exact ⟨rfl,es',p'.trans st.perm,h',rfl⟩
  ·obtain ⟨rfl,es',p',h',rfl⟩:=hr
   refine a0x.execEnd (L:=[]) (F:=HL H es' ep) (.refl _) (by exact lb0 hD rfl) hf' 1000 [] (fun _ _=>.ok (.ret .none)) (fun _ _=>[]) (fun _ _=>[]) (fun fr'' tk''=>?_) (fun _ _=>a0e) (fun _ _ ok=>⟨_,.refl _,rfl,es',p',h',rfl⟩)
   rw [ho',ho];rcases st.fr with ⟨t,hz⟩ | ⟨t,r,hz⟩ <;> rw [hz] <;> kernel_rfl
end
theorem c1y {g:List It} (h:a4b g):∀i,i < g.length→key g 0≤key g i:=by
 intro i
 induction i using Nat.strongRecOn with
 | ind i ih=>
  intro hi
  by_cases h0:i=0
  ·subst h0;exact Int.le_refl _
  ·exact Int.le_trans (ih ((i - 1) / 2) (by omega) (by omega)) (h i (by omega) hi)
theorem d0k {g:List It} {e:It} (h:e∈g):∃i,i < g.length∧key g i=e.x:=by
 obtain ⟨i,hi,rfl⟩:=List.getElem_of_mem h
 exact ⟨i,hi,b5j (List.getElem?_eq_getElem hi)⟩
theorem b3r (es:List It) (e:It):(a0p es).push (.ref e.a)=a0p (es++[e]):=by simp [a0p]
theorem a8f (es:List It) (e:It):(a0p (es++[e])).pop=a0p es:=by simp [a0p]
theorem b2a {g:List It} {e:It} {i:Nat} (h:i < g.length):key (g++[e]) i=key g i:=by
 unfold key;rw [List.getD_eq_getElem?_getD,List.getD_eq_getElem?_getD,List.getElem?_append_left h]
section
variable {w:World} {b1 b2:Bool} {D U:Nat} {H:Addr} {ep:Nat} {es:List It}
theorem b2c (hD:D≤570) (hU:U < 9500) (hz:es.length < 1000000) (e:It) (hx:a4b es):
  a0y (W w b1 b2) D U (.call (.ref 176) ⟨[.ref H,.ref e.a],[]⟩) (HL H es ep++[e.ob]) (fun r L=>r= .ok (.ret .none)∧Ey2 fun es' ep'=>An3 (es'.Perm (es++[e])) (a4b es') (L=HL H es' ep')):=by
 have hsz:(a0p es).size≤1000000:=by rw [a0m];exact Nat.le_of_lt hz
 have hsz2:((a0p es).push (.ref e.a)).size=es.length + 1:=by rw [b3r,a0m];simp
 refine a0y.start ?_
 refine a0x.execCall (L:=[(H,a0a (a0p es) ep)]) (F:=es.map It.ob++[e.ob]) (d:=1) (m:=0) (fun fr tk r L=>r= .ok (.ret .none)∧∃es',An3 (es'.Perm (es++[e])) (a4b es') (L=HL H es' (ep + 1))) (.refl _) (by exact lb0 hD rfl) a3u 1000 [0,0,2,1,2,1,2,1,1,1,1,2,0,0,2,0,0,2,0,2,0]
  (fun fr tk=>[(H,a0a ((a0p es).push (.ref e.a)) (ep + 1)),(fr 0,fob (W w b1 b2).params [(a3j,Nat.succ (tk 0),.ref H),(e2q,Nat.succ (tk 1),.ref e.a)] 2)])
  (fun fr tk=>[((a0p es).push (.ref e.a)).size≤1000000,(a0p es).size≤1000000])
  (fun fr tk=>.call (.ref 190) ⟨[.ref H,.int 0 (Nat.succ (tk 3)),.int ((((a0p es).push (.ref e.a)).size:Int) - 1) (Nat.succ (tk 6))],[]⟩) (fun fr tk=>by kernel_rfl)
  (fun fr tk=>a0d (by rw [hsz2];exact Nat.lt_of_lt_of_le (by assumption) (by decide)) (a0d hsz a0e)) (fun fr tk ok=>?_) (fun fr tk o ho r L₁ ok hr hf=>?_)
 ·have e1:((((a0p es).push (.ref e.a)).size:Int) - 1)=((es.length:Nat):Int):=by rw [hsz2];simp +arith
  rw [e1,b3r]
  refine (a6o (es:=es++[e]) (ep:=ep + 1) (by exact lbk hD rfl) (by exact ubk hU rfl) (by simp;exact Nat.le_of_lt_succ (by assumption)) (by simp) ?_).mono ?_ fun r L' _ h=>⟨L',.refl _,h⟩
  ·refine ⟨fun i h0 h1 hn=>?_,fun i h0 h1 hc hpos=>?_⟩
   ·rw [List.length_append] at h1
    have h1':i < es.length:=by simp at h1;omega
    rw [b2a h1',b2a (by omega)]
    exact hx i h0 h1'
   ·rw [List.length_append] at h1
    simp at h1;omega
  ·unfold HL
   rw [List.map_append]
   exact a2i.cons _ (a2i.app' _ _)
 ·obtain ⟨rfl,es',p',h',rfl⟩:=hr
  refine a0x.execEnd (L:=[]) (F:=HL H es' (ep + 1)) (.refl _) (by exact lb0 hD rfl) hf 1000 [] (fun _ _=>.ok (.ret .none)) (fun _ _=>[]) (fun _ _=>[]) (fun fr'' tk''=>?_) (fun _ _=>a0e) (fun _ _ ok=>⟨_,.refl _,rfl,es',ep + 1,p',h',rfl⟩)
  exact sbo ho (by kernel_rfl)
theorem b2r (hD:D≤560) (hU:U < 9400) (hz:es.length≤1000000) (hx:a4b es) (hne:es≠[]):
  a0y (W w b1 b2) D U (.call (.ref 183) ⟨[.ref H],[]⟩) (HL H es ep) (fun r L=>Ey3 fun e es' ep'=>An5 (r= .ok (.ret (.ref e.a))) (es.Perm (e::es')) (a4b es') ((∀x∈es',e.x≤x.x)) (L=HL H es' ep'++[e.ob])):=by
 obtain ⟨init,last,rfl⟩:Ey2 fun init last=>es=init++[last]:=⟨es.dropLast,es.getLast hne,(List.dropLast_concat_getLast hne).symm⟩
 have hlen:(init++[last]).length=init.length + 1:=by simp
 have hsz:(a0p (init++[last])).size=init.length + 1:=by rw [a0m,hlen]
 have hnl:nth (a0p (init++[last])) ((a0p (init++[last])).size - 1)= .ref last.a:=by
  have:(((a0p (init++[last])).size:Int) - 1)=((init.length:Nat):Int):=by rw [hsz];omega
  rw [this];exact a3n (by simp)
 have hpz:(a0p (init++[last])).pop.size=init.length:=by rw [a8f,a0m]
 refine a0y.start ?_
 by_cases hi:init=[]
 ·subst hi
  refine a0x.execEnd (L:=[(H,a0a (a0p ([]++[last])) ep)]) (F:=([]++[last]).map It.ob) (.refl _) (by exact lb0 hD rfl) a3u 1000 [0,0,2,1,2,1,1,1,1,0,1,2,1,2,1,1,0,0,2] (fun _ _=>.ok (.ret (.ref (a3q (nth (a0p ([]++[last])) ((a0p ([]++[last])).size - 1))))))
   (fun fr tk=>[(H,a0a (a0p ([]++[last])).pop (ep + 1)),(fr 0,fob (W w b1 b2).params [(a3j,Nat.succ (tk 0),.ref H),(a2x,Nat.succ (tk 2),.ref (a3q (nth (a0p ([]++[last])) ((a0p ([]++[last])).size - 1))))] 2)])
   (fun fr tk=>[(a0p ([]++[last])).pop.size≤1000000,(a0p ([]++[last])).pop.size=0,0 < (a0p ([]++[last])).size,(a0p ([]++[last])).size≤1000000,nth (a0p ([]++[last])) ((a0p ([]++[last])).size - 1)= .ref (a3q (nth (a0p ([]++[last])) ((a0p ([]++[last])).size - 1)))])
   (fun fr tk=>by kernel_rfl) (fun _ _=>a0d (by rw [hpz];simp) (a0d (by rw [hpz];rfl) (a0d (by rw [hsz];exact Nat.le_add_left _ _) (a0d (by rw [hsz];simp) (a0d (by rw [hnl];rfl) a0e))))) (fun fr tk ok=>?_)
  refine ⟨HL H [] (ep + 1)++[last.ob],?_,last,[],ep + 1,by rw [hnl];rfl,.refl _,fun i h0 h1=>absurd h1 (by simp),fun x hx=>absurd hx List.not_mem_nil,rfl⟩
  rw [a8f]
  exact a2i.cons _ (a2i.skip _ (.refl _))
 ·obtain ⟨e,rest,rfl⟩:Ey2 fun e rest=>init=e::rest:=by cases init with | nil=>exact absurd rfl hi | cons e r=>exact ⟨e,r,rfl⟩
  have hn0:nth (a0p (e::rest++[last])).pop 0= .ref e.a:=by rw [a8f];exact a3n (k:=0) rfl
  refine a0x.execCall (L:=[(H,a0a (a0p (e::rest++[last])) ep)]) (F:=(e::rest++[last]).map It.ob) (d:=1) (m:=0)
   (fun fr tk r L=>r= .ok (.ret .none)∧∃es',An3 (es'.Perm (last::rest)) (a4b es') (L=HL H es' (ep + 1)++[(fr 0,fob (W w b1 b2).params [(a3j,Nat.succ (tk 0),.ref H),(a2x,Nat.succ (tk 2),.ref last.a),(a1t,Nat.succ (tk 6),.ref e.a)] 3),e.ob]))
   (.refl _) (by exact lb0 hD rfl) a3u 1000 [0,0,2,1,2,1,1,1,1,0,1,2,1,2,1,1,0,1,2,1,1,1,0,1,2,1,2,2,1,1,0,0,2,0]
   (fun fr tk=>[(H,a0a ((a0p (e::rest++[last])).pop.setIfInBounds 0 (.ref (a3q (nth (a0p (e::rest++[last])) ((a0p (e::rest++[last])).size - 1))))) (ep + 1)),(fr 0,fob (W w b1 b2).params [(a3j,Nat.succ (tk 0),.ref H),(a2x,Nat.succ (tk 2),.ref (a3q (nth (a0p (e::rest++[last])) ((a0p (e::rest++[last])).size - 1)))),(a1t,Nat.succ (tk 6),.ref (a3q (nth (a0p (e::rest++[last])).pop 0)))] 3)])
   (fun fr tk=>[0≤(0:Int),(0:Int) < (a0p (e::rest++[last])).pop.size,(a0p (e::rest++[last])).pop.size≤1000000,0≤(0:Int),(0:Int) < (a0p (e::rest++[last])).pop.size,(a0p (e::rest++[last])).pop.size≤1000000,nth (a0p (e::rest++[last])).pop 0= .ref (a3q (nth (a0p (e::rest++[last])).pop 0)),
    (a0p (e::rest++[last])).pop.size≤1000000,0 < (a0p (e::rest++[last])).pop.size,0 < (a0p (e::rest++[last])).size,(a0p (e::rest++[last])).size≤1000000,nth (a0p (e::rest++[last])) ((a0p (e::rest++[last])).size - 1)= .ref (a3q (nth (a0p (e::rest++[last])) ((a0p (e::rest++[last])).size - 1)))])
   (fun fr tk=>.call (.ref 197) ⟨[.ref H,.int 0 (Nat.succ (tk 9))],[]⟩) (fun fr tk=>by kernel_rfl) (fun fr tk=>?_) (fun fr tk ok=>?_) (fun fr tk o ho r L₁ ok hr hf=>?_)
  ·rw [hpz,hnl,hn0,hsz]
   rw [hlen] at hz
   simp only [List.length_cons] at hz ⊢
   refine a0d (by omega) (a0d (by simp +arith) (a0d (by omega) (a0d (by omega) (a0d (by omega) (a0d (by omega) (a0d rfl (a0d (by omega) (a0d (by exact Nat.le_add_left _ _) (a0d (by exact Nat.le_add_left _ _) (a0d (by omega) (a0d rfl a0e)))))))))))
  ·rw [hnl,hn0,a8f]
   have es1:(a0p (e::rest)).setIfInBounds 0 (.ref last.a)=a0p (last::rest):=by rw [a6q];rfl
   show a0y _ _ _ _ ([(H,a0a ((a0p (e::rest)).setIfInBounds 0 (.ref last.a)) (ep + 1)),_]++_) _
   rw [es1]
   have hzz:(last::rest).length≤1000000:=by rw [hlen] at hz;simp at hz ⊢;exact Nat.le_trans hz (by decide)
   have hu:a9e (last::rest) 0:=by
    refine ⟨fun i h0 h1 hn hp=>?_,fun i h0 h1 hc hpos=>absurd hpos (by simp +arith)⟩
    have a1:key (last::rest) i=key (e::rest++[last]) i:=by
     rw [b2a (by simpa using h1)]
     unfold key;rw [List.getD_eq_getElem?_getD,List.getD_eq_getElem?_getD]
     obtain ⟨j,rfl⟩:∃j,i=j + 1:=⟨i - 1,by omega⟩
     rfl
    have a2:key (last::rest) ((i - 1) / 2)=key (e::rest++[last]) ((i - 1) / 2):=by
     rw [b2a (by simp at h1 ⊢;omega)]
     unfold key;rw [List.getD_eq_getElem?_getD,List.getD_eq_getElem?_getD]
     obtain ⟨j,hj⟩:∃j,(i - 1) / 2=j + 1:=⟨(i - 1) / 2 - 1,by omega⟩
     rw [hj];rfl
    rw [a1,a2]
    exact hx i h0 (by simp at h1 ⊢;exact Nat.lt_succ_of_le (Nat.le_of_lt h1))
   refine (b5i (es:=last::rest) (ep:=ep + 1) (by exact lbk hD rfl) (by exact ubk hU rfl) hzz (by simp) hu).use (F:=[(fr 0,fob (W w b1 b2).params [(a3j,Nat.succ (tk 0),.ref H),(a2x,Nat.succ (tk 2),.ref last.a),(a1t,Nat.succ (tk 6),.ref e.a)] 3),e.ob]) ?_ fun r L₁ ok₁ h=>⟨_,.refl _,?_⟩
   ·unfold HL
    refine List.Perm.cons _ ?_
    simp only [List.map_cons,List.map_append,List.map_nil,List.cons_append]
    have:(last.ob::(rest.map It.ob++[(fr 0,fob (W w b1 b2).params [(a3j,Nat.succ (tk 0),.ref H),(a2x,Nat.succ (tk 2),.ref last.a),(a1t,Nat.succ (tk 6),.ref e.a)] 3),e.ob])).Perm ([(fr 0,fob (W w b1 b2).params [(a3j,Nat.succ (tk 0),.ref H),(a2x,Nat.succ (tk 2),.ref last.a),(a1t,Nat.succ (tk 6),.ref e.a)] 3),e.ob]++(last.ob::rest.map It.ob)):=List.perm_append_comm (l₁:=last.ob::rest.map It.ob)
    refine List.Perm.symm (this.trans ?_)
    refine List.Perm.cons _ (List.Perm.cons _ ?_)
    exact (List.perm_append_comm (l₁:=[last.ob])).trans (.refl _)
   ·obtain ⟨rfl,es',p',h',rfl⟩:=h
    exact ⟨rfl,es',p',h',rfl⟩
  ·obtain ⟨rfl,es',p',h',rfl⟩:=hr
   refine a0x.execEnd (L:=[(fr 0,fob (W w b1 b2).params [(a3j,Nat.succ (tk 0),.ref H),(a2x,Nat.succ (tk 2),.ref last.a),(a1t,Nat.succ (tk 6),.ref e.a)] 3)]) (F:=HL H es' (ep + 1)++[e.ob]) ?_ (by exact lb0 hD rfl) hf 1000 [1] (fun _ _=>.ok (.ret (.ref e.a))) (fun _ _=>[(fr 0,fob (W w b1 b2).params [(a3j,Nat.succ (tk 0),.ref H),(a2x,Nat.succ (tk 2),.ref last.a),(a1t,Nat.succ (tk 6),.ref e.a)] 3)]) (fun _ _=>[]) (fun fr'' tk''=>?_) (fun _ _=>a0e) (fun _ _ ok=>⟨HL H es' (ep + 1)++[e.ob],.app' _ _,e,es',ep + 1,rfl,?_,h',fun x hx'=>?_,rfl⟩)
   ·exact List.perm_middle
   ·exact sbo ho (by kernel_rfl)
   ·refine (List.Perm.cons e ?_:(e::(rest++[last])).Perm (e::es'))
    exact List.perm_append_comm.trans p'.symm
   ·have hm:x∈e::rest++[last]:=by
     have:=p'.mem_iff.mp hx'
     simp at this ⊢
     rcases this with h | h
     ·exact .inr (.inr h)
     ·exact .inr (.inl h)
    obtain ⟨i,hi1,hi2⟩:=d0k hm
    have:=c1y hx i hi1
    rw [hi2] at this
    exact this
end
noncomputable abbrev Row:=Str×Tok×Value
noncomputable abbrev dob (P:Params) (l:List Row) (n:Nat):Obj:=⟨.type "dict",none,.dict ⟨a0k P l⟩ n,⟨[]⟩⟩
noncomputable def a5p:List Row→Str→Value
 | [],_=>.none
 | r::l,k=>if r.1=k then r.2.2 else a5p l k
noncomputable def d5v:List Row→Str→Value→List Row
 | [],_,_=>[]
 | r::l,k,v=>if r.1=k then (r.1,r.2.1,v)::l else r::d5v l k v
noncomputable def c4n:List Row→Str→List Row
 | [],_=>[]
 | r::l,k=>if r.1=k then l else r::c4n l k
noncomputable def a1m (l:List Row):List Str:=l.map (·.1)
theorem a1z (P:Params):∀l:List Row,a0k P l=l.map fun e=>ent P e.1 e.2.1 e.2.2
 | []=>rfl
 | e::l=>by rw [a0k,a1z P l];rfl
theorem e3i (P:Params) (r:Row) (k:Str):Value.isStrOf k (ent P r.1 r.2.1 r.2.2).key=decide (r.1=k):=by
 show (r.1 == k)=_
 by_cases h:r.1=k
 ·simp [h]
 ·simp [h]
theorem a6k (P:Params) (l:List Row) (k:Str):b2d ⟨a0k P l⟩ k=l.findIdx? fun r=>decide (r.1=k):=by
 unfold b2d
 rw [List.findIdx?_toArray,a1z,List.findIdx?_map]
 congr 1
theorem a1f (P:Params) {l:List Row} (h:l.length≤1000000):dWf P ⟨a0k P l⟩:=by
 refine ⟨fun e he=>?_,by simpa [a1z] using h⟩
 rw [a1z] at he
 simp only [List.mem_toArray,List.mem_map] at he
 obtain ⟨r,hr,rfl⟩:=he
 exact ⟨r.1,by rw [e3i];simp,rfl⟩
theorem a0l (P:Params) (l:List Row) (k:Str):a3m ⟨a0k P l⟩ k↔k∈a1m l:=by
 unfold a3m
 rw [a6k,List.findIdx?_isSome]
 simp [a1m,List.any_eq_true]
theorem a5b (r:Row) (l:List Row) (k:Str):((r::l).findIdx? fun r=>decide (r.1=k))=if r.1=k then some 0 else (l.findIdx? fun r=>decide (r.1=k)).map (· + 1):=by
 rw [List.findIdx?_cons]
 by_cases h:r.1=k <;> simp [h]
theorem a3b (P:Params) (l:List Row) (k:Str):a5x ⟨a0k P l⟩ k=a5p l k:=by
 unfold a5x
 rw [a6k]
 induction l with
 | nil=>rfl
 | cons r l ih=>
  rw [a5b]
  unfold a5p
  by_cases h:r.1=k
  ·rw [if_pos h,if_pos h];rfl
  ·rw [if_neg h,if_neg h]
   cases hi:l.findIdx? fun r=>decide (r.1=k) with
   | none=>rw [hi] at ih;exact ih
   | some i=>
    rw [hi] at ih
    rw [←ih]
    simp only [Option.map_some]
    rw [a0k]
    simp
theorem a3y (P:Params) (l:List Row) (k:Str) (t:Tok) (v:Value):c6g P ⟨a0k P l⟩ k t v=⟨a0k P (l++[(k,t,v)])⟩:=by
 unfold c6g
 rw [a1z,a1z]
 simp [ent]
theorem c1i (P:Params) (l:List Row) (k:Str) (v:Value):d6d ⟨a0k P l⟩ k v=⟨a0k P (d5v l k v)⟩:=by
 unfold d6d
 rw [a6k]
 have key:∀l:List Row,(match l.findIdx? fun r=>decide (r.1=k) with | some i=>(a0k P l).modify i fun e=>{ e with val:=v } | none=>a0k P l)=a0k P (d5v l k v):=by
  intro l
  induction l with
  | nil=>rfl
  | cons r l ih=>
   rw [a5b]
   unfold d5v
   by_cases h:r.1=k
   ·rw [if_pos h,if_pos h];rfl
   ·rw [if_neg h,if_neg h]
    cases hi:l.findIdx? fun r=>decide (r.1=k) with
    | none=>rw [hi] at ih;simp only [Option.map_none];rw [a0k,a0k,←ih]
    | some i=>rw [hi] at ih;simp only [Option.map_some];rw [a0k,a0k,←ih];rfl
 rw [←key l]
 cases l.findIdx? fun r=>decide (r.1=k) with
 | none=>rfl
 | some i=>simp
theorem c2c (P:Params) (l:List Row) (k:Str):d6f ⟨a0k P l⟩ k=⟨a0k P (c4n l k)⟩:=by
 unfold d6f
 rw [a6k]
 have key:∀l:List Row,(match l.findIdx? fun r=>decide (r.1=k) with | some i=>(a0k P l).eraseIdx i | none=>a0k P l)=a0k P (c4n l k):=by
  intro l
  induction l with
  | nil=>rfl
  | cons r l ih=>
   rw [a5b]
   unfold c4n
   by_cases h:r.1=k
   ·rw [if_pos h,if_pos h];rfl
   ·rw [if_neg h,if_neg h]
    cases hi:l.findIdx? fun r=>decide (r.1=k) with
    | none=>rw [hi] at ih;simp only [Option.map_none];rw [a0k,a0k,←ih]
    | some i=>rw [hi] at ih;simp only [Option.map_some];rw [a0k,a0k,←ih];rfl
 rw [←key l]
 cases hi:l.findIdx? fun r=>decide (r.1=k) with
 | none=>rfl
 | some i=>
  have hl:i < l.length:=(List.findIdx?_eq_some_iff_getElem.mp hi).1
  have:i < (a0k P l).length:=by rw [a1z,List.length_map];exact hl
  simp [Array.eraseIdxIfInBounds,this]
noncomputable def nm:Nat→Str
 | 0=>⟨⟨[97]⟩⟩
 | 1=>⟨⟨[97,97]⟩⟩
 | 2=>⟨⟨[98,97]⟩⟩
 | 3=>⟨⟨[98]⟩⟩
 | _=>⟨⟨[97,98]⟩⟩
theorem a2u:∀{i j:Nat},i < 5→j < 5→nm i=nm j→i=j:=by
 have:∀i j:Fin 5,nm i=nm j→i=j:=by decide
 intro i j hi hj h
 exact congrArg Fin.val (this ⟨i,hi⟩ ⟨j,hj⟩ h)
theorem c9s:∀{i:Nat},nm i≠⟨⟨[]⟩⟩:=by
 intro i
 match i with
 | 0 | 1 | 2 | 3=>decide
 | n + 4=>show (⟨⟨[97,98]⟩⟩:Str)≠⟨⟨[]⟩⟩;decide
open Classical in
noncomputable def one (q a:Addr×Obj):Nat:=if a=q then 1 else 0
noncomputable def cnt (q:Addr×Obj):Led→Nat
 | []=>0
 | a::l=>one q a + cnt q l
theorem a0s (q):cnt q []=0:=rfl
theorem a0f (q a) (l:Led):cnt q (a::l)=one q a + cnt q l:=rfl
theorem a0o (q):∀l m:Led,cnt q (l++m)=cnt q l + cnt q m
 | [],m=>by rw [List.nil_append,a0s,Nat.zero_add]
 | a::l,m=>by rw [List.cons_append,a0f,a0f,a0o q l m,Nat.add_assoc]
theorem b6s (q):one q q=1:=if_pos rfl
theorem e0m {q a:Addr×Obj} (h:a≠q):one q a=0:=if_neg h
theorem b0s {q}:∀{l:Led},0 < cnt q l→q∈l
 | [],h=>absurd h (Nat.lt_irrefl 0)
 | a::l,h=>by
  by_cases e:a=q
  ·subst e;exact .head _
  ·rw [a0f,e0m e] at h
   exact .tail _ (b0s (by omega))
theorem a1s {l m:Led} (h:l.Perm m) (q):cnt q l=cnt q m:=by
 induction h with
 | nil=>rfl
 | cons x _ ih=>rw [a0f,a0f,ih]
 | swap x y l=>simp +arith only [a0f]
 | trans _ _ a b=>exact a.trans b
theorem a0c:∀{L M:Led},(∀q,cnt q L≤cnt q M)→a2i L M
 | [],M,_=>.nil M
 | a::L,M,h=>by
  have hm:a∈M:=b0s (Nat.lt_of_lt_of_le (by rw [a0f,b6s];exact Nat.le_add_right _ _) (h a))
  obtain ⟨l1,l2,rfl⟩:=List.append_of_mem hm
  have p:(l1++a::l2).Perm (a::(l1++l2)):=List.perm_middle
  obtain ⟨F,hF⟩:=a0c (L:=L) (M:=l1++l2) fun q=>by
   have h1:=h q
   rw [a1s p q,a0f,a0f] at h1
   omega
  exact ⟨F,p.trans (hF.cons a)⟩
theorem a0h {L M:Led} (h:∀q,cnt q L=cnt q M):L.Perm M:=by
 obtain ⟨F,hF⟩:=a0c (L:=M) (M:=L) fun q=>Nat.le_of_eq (h q).symm
 have:F=[]:=by
  cases F with
  | nil=>rfl
  | cons a F=>
   have h1:=a1s hF a
   rw [a0o,a0f,b6s,h a] at h1
   omega
 rw [this,List.append_nil] at hF
 exact hF
noncomputable def pc:List Led→Nat→Led
 | [],_=>[]
 | p::_,0=>p
 | _::ps,n + 1=>pc ps n
noncomputable def fl:List Led→Led
 | []=>[]
 | [x]=>x
 | x::s=>x++fl s
noncomputable def pr (ps:List Led):List Nat→List Led→Led
 | [],s=>fl s
 | 0::p,s=>match s with
  | b::a::s=>pr ps p ((a++b)::s)
  | s=>pr ps p s
 | 1::p,s=>pr ps p ([]::s)
 | (n + 2)::p,s=>pr ps p (pc ps n::s)
noncomputable def wq (q:Addr×Obj) (ps:List Led):List Nat→Nat
 | []=>0
 | 0::p=>wq q ps p
 | 1::p=>wq q ps p
 | (n + 2)::p=>cnt q (pc ps n) + wq q ps p
noncomputable def ws (q:Addr×Obj):List Led→Nat
 | []=>0
 | x::s=>cnt q x + ws q s
theorem c8a (q):∀s,cnt q (fl s)=ws q s
 | []=>rfl
 | [x]=>rfl
 | x::y::s=>by
  show cnt q (x++fl (y::s))=cnt q x + ws q (y::s)
  rw [a0o,c8a q (y::s)]
theorem b0f (q) (ps:List Led):∀p s,cnt q (pr ps p s)=wq q ps p + ws q s
 | [],s=>by show cnt q (fl s)=0 + ws q s;rw [c8a,Nat.zero_add]
 | 0::p,[]=>b0f q ps p []
 | 0::p,[x]=>b0f q ps p [x]
 | 0::p,b::a::s=>by
  show cnt q (pr ps p ((a++b)::s))=wq q ps p + (cnt q b + (cnt q a + ws q s))
  rw [b0f q ps p,ws,a0o];simp +arith
 | 1::p,s=>by
  show cnt q (pr ps p ([]::s))=wq q ps p + ws q s
  rw [b0f q ps p,ws,a0s];simp +arith
 | (n + 2)::p,s=>by
  show cnt q (pr ps p (pc ps n::s))=cnt q (pc ps n) + wq q ps p + ws q s
  rw [b0f q ps p,ws];simp +arith
theorem a5i (q) (ps:List Led):∀p r,wq q ps (p++r)=wq q ps p + wq q ps r
 | [],r=>(Nat.zero_add _).symm
 | 0::p,r=>a5i q ps p r
 | 1::p,r=>a5i q ps p r
 | (n + 2)::p,r=>by
  show cnt q (pc ps n) + wq q ps (p++r)=cnt q (pc ps n) + wq q ps p + wq q ps r
  rw [a5i q ps p r];simp +arith
noncomputable def rmo (n:Nat):List Nat→Option (List Nat)
 | []=>none
 | m::l=>match Nat.beq m n with
  | true=>some l
  | false=>match rmo n l with
   | some l=>some (m::l)
   | none=>none
noncomputable def sub:List Nat→List Nat→Option (List Nat)
 | [],l=>some l
 | 0::p,l=>sub p l
 | 1::p,l=>sub p l
 | (n + 2)::p,l=>match rmo (n + 2) l with
  | some l=>sub p l
  | none=>none
noncomputable def azo:Option (List Nat)→Bool
 | none=>false
 | some l=>l.all (Nat.ble · 1)
theorem e1f (q) (ps:List Led) (n):∀l l',rmo n l=some l'→wq q ps l=wq q ps [n] + wq q ps l'
 | [],_,h=>by cases h
 | m::l,l',h=>by
  unfold rmo at h
  split at h
  ·rename_i e
   cases h
   have:=Nat.eq_of_beq_eq_true e
   subst this
   exact a5i q ps [m] l
  ·split at h
   ·rename_i l1 e1
    cases h
    have h1:=a5i q ps [m] l
    have h2:=a5i q ps [m] l1
    have h3:=e1f q ps n l l1 e1
    simp only [List.singleton_append] at h1 h2
    omega
   ·cases h
theorem b0m (q) (ps:List Led):∀p l r,sub p l=some r→wq q ps l=wq q ps p + wq q ps r
 | [],l,r,h=>by cases h;exact (Nat.zero_add _).symm
 | 0::p,l,r,h=>b0m q ps p l r h
 | 1::p,l,r,h=>b0m q ps p l r h
 | (n + 2)::p,l,r,h=>by
  unfold sub at h
  split at h
  ·rename_i l1 e1
   have h1:=e1f q ps _ l l1 e1
   have h2:=b0m q ps p l1 r h
   have h3:=a5i q ps [n + 2] p
   simp only [List.singleton_append] at h3
   omega
  ·cases h
theorem b4r (q) (ps:List Led):∀l:List Nat,l.all (Nat.ble · 1)=true→wq q ps l=0
 | [],_=>rfl
 | 0::l,h=>b4r q ps l (by simpa using h)
 | 1::l,h=>b4r q ps l (by simpa using h)
 | (n + 2)::l,h=>by simp at h
theorem c7v {q ps p r} (h:azo (sub p r)=true):wq q ps p=wq q ps r:=by
 cases e:sub p r with
 | none=>rw [e] at h;cases h
 | some l=>
  rw [e] at h
  have h1:=b0m q ps p r l e
  have h2:=b4r q ps l h
  omega
theorem a5d (q) (ps:List Led) (p):cnt q (pr ps p [])=wq q ps p:=by rw [b0f];rfl
theorem lq {q} (ps:List Led) (a b:List Nat) (h:azo (sub a b)=true):cnt q (pr ps a [])=cnt q (pr ps b []):=by
 rw [a5d,a5d,c7v h]
theorem lu {q} (ps:List Led) (a b:List Nat) (h:(sub a b).isSome=true):cnt q (pr ps a [])≤cnt q (pr ps b []):=by
 rw [a5d,a5d]
 obtain ⟨l,e⟩:=Option.isSome_iff_exists.mp h
 have h1:=b0m q ps a b l e
 omega
theorem lqh {q} (ps:List Led) (a b c d:List Nat) (k:cnt q (pr ps c [])=cnt q (pr ps d [])) (h:azo (sub (a++d) (b++c))=true):cnt q (pr ps a [])=cnt q (pr ps b []):=by
 rw [a5d,a5d] at k ⊢
 have h1:=c7v (q:=q) (ps:=ps) h
 rw [a5i,a5i] at h1
 omega
theorem luh {q} (ps:List Led) (a b c d:List Nat) (k:cnt q (pr ps c [])=cnt q (pr ps d [])) (h:(sub (a++d) (b++c)).isSome=true):cnt q (pr ps a [])≤cnt q (pr ps b []):=by
 rw [a5d,a5d] at k ⊢
 obtain ⟨l,e⟩:=Option.isSome_iff_exists.mp h
 have h1:=b0m q ps _ _ l e
 rw [a5i,a5i] at h1
 omega
theorem lpp (ps:List Led) (a b:List Nat) (h:azo (sub a b)=true):(pr ps a []).Perm (pr ps b []):=a0h fun q=>lq ps a b h
theorem ltt (ps:List Led) (a b:List Nat) (h:(sub a b).isSome=true):a2i (pr ps a []) (pr ps b []):=a0c fun q=>lu ps a b h
noncomputable abbrev b0j:Stmt:=a3i (a1e (top 22)) 2
noncomputable abbrev b8y (F:Addr):Env:=b6b (top 22) l23 240 239 F []
noncomputable abbrev gnT:Expr:=lpT b0j
noncomputable abbrev e7k (t:Nat→Tok) (st:Str) (O N H T K:Addr):List (Str×Tok×Value):=[(b9j,t 0,.str st (t 1)),(c9v,t 2,.ref O),(a4t,t 3,.ref N),(a3j,t 4,.ref H),(c1g,t 5,.ref K),(c9f,t 6,.ref T)]
noncomputable abbrev f1u (t:Nat→Tok) (st:Str) (O N H T K:Addr) (x:Int) (p:Str):List (Str×Tok×Value):=e7k t st O N H T K++[(e9m,t 7,.int x (t 8)),(b7p,t 9,.str p (t 10))]
noncomputable abbrev f0g (t:Nat→Tok) (st:Str) (O N H T K:Addr) (x:Int) (p q:Str) (c:Int):List (Str×Tok×Value):=f1u t st O N H T K x p++[(a4h,t 11,.str q (t 12)),(b1x,t 13,.int c (t 14))]
noncomputable def e3r (s:Stmt):Expr:=match s with
 | .For t _ _ _ _=>t
 | _=>.Constant .none 0 default
noncomputable abbrev f5y:Stmt:=a3i (lpB b0j) 2
noncomputable abbrev e6z:Stmt:=a3i (lpB f5y) 1
noncomputable def b4o (s:Stmt) (it:Value) (env:Env):Code:=.forLoop (e3r s) it (lpB s) [] env
structure Ot where
 a:Addr
 v:Nat
 tv:Tok
 c:Int
 tc:Tok
noncomputable def Ot.ob (e:Ot):Addr×Obj:=(e.a,tob [.str (nm e.v) e.tv,.int e.c e.tc])
noncomputable def otr (es:List Ot):Array Value:=⟨es.map fun e=>.ref e.a⟩
theorem a7p {α:Type} {f:α→Value} {l:List α} {k:Nat} {e:α} (h:l[k]?=some e):nth ⟨l.map f⟩ (k:Int)=f e:=by
 unfold nth
 rw [List.getD_eq_getElem?_getD]
 show (l.map _)[(k:Int).toNat]?.getD Value.none=_
 rw [Int.toNat_natCast,List.getElem?_map,h]
 rfl
section
variable {w:World} {D U:Nat}
theorem a9s (hU:U < 9800) {H E:Addr} {xs:Array Value} {n m:Nat}:
  a0b w D U (compareOp .NotEq (.ref H) (.ref E)) [(H,a0a xs n),(E,a0a #[] m)] (fun v L=>v= .bool (decide (xs.size≠0))∧L=[(H,a0a xs n),(E,a0a #[] m)]):=by
 intro A s E' hA S
 have ha:=S.led _ (.head _)
 have hb:=S.led _ (.tail _ (.head _))
 have hu:A.units < cLine:=by have:=hA.units;show _ < 9900;exact Nat.lt_of_le_of_lt this (Nat.lt_of_lt_of_le hU (by decide))
 have hl:s.heap.IsList H xs:=⟨_,ha,rfl,n,rfl⟩
 have hl2:s.heap.IsList E #[]:=⟨_,hb,rfl,m,rfl⟩
 show wpAny _ _ (richCompare .NotEq _ _) _ _ _
 by_cases h:xs.size=0
 ·refine PySem.SeqAt.RcNeAt.lists (e:=fun _=>true) hl hl2 (by rw [h];rfl) hu (fun j h1 _=>by omega) _ _ _ _ ?_
  refine ⟨_,⟨?_,rfl⟩,S,a4j.refl _ _,a0j.refl _ _⟩
  rw [h];rfl
 ·refine PySem.SeqAt.RcNeAt.lists_lengths hl hl2 (by simpa using h) hu _ _ _ _ ?_
  refine ⟨_,⟨?_,rfl⟩,S,a4j.refl _ _,a0j.refl _ _⟩
  simp [h]
end
noncomputable def It.kv (e:It):Int×Str:=(e.x,e.p)
noncomputable def isH (hl:List Row) (h:Nat→Int):Prop:=hl.length≤1000∧∀v,v < 5→nm v∈a1m hl∧∃t,a5p hl (nm v)= .int (h v) t
inductive Way (E:Nat→List (Nat×Int)) (s:Nat):Nat→Int→Prop
 | nil:Way E s s 0
 | step {u v:Nat} {y c:Int}:Way E s u y→(v,c)∈E u→Way E s v (y + c)
structure DJ (E:Nat→List (Nat×Int)) (h:Nat→Int) (s:Nat) (hp:List (Int×Nat)) (kn:List (Nat×Int)) (ts:List Int):Prop where
 heap:∀x v,(x,v)∈hp→v < 5∧∃y,Way E s v y∧x=y + h s - h v
 known:∀v x,(v,x)∈kn→v < 5∧x∈ts∧∃y,Way E s v y∧x=y + h s - h v
 nd:(kn.map (·.1)).Nodup
 start:(∃x,(s,x)∈kn∧x≤0)∨(0,s)∈hp
 edges:∀u x,(u,x)∈kn→∀v c,(v,c)∈E u→(∃x',(v,x')∈kn∧x'≤x + c + h u - h v)∨(x + c + h u - h v,v)∈hp
 sorted:ts.Pairwise (· ≤ ·)
 below:∀t∈ts,∀x v,(x,v)∈hp→t≤x
section
variable {E:Nat→List (Nat×Int)} {h:Nat→Int} {s:Nat} {hp hp':List (Int×Nat)} {kn:List (Nat×Int)} {ts:List Int}
theorem DJ.init (hs:s < 5):DJ E h s [(0,s)] [] [] where
 heap:=fun x v hm=>by
  rw [List.mem_singleton] at hm
  injection hm with h1 h2
  subst h1 h2
  exact ⟨hs,0,.nil,by simp +arith⟩
 known:=fun _ _ hm=>nomatch hm
 nd:=List.nodup_nil
 start:=.inr (.head _)
 edges:=fun _ _ hm=>nomatch hm
 sorted:=.nil
 below:=fun _ hm=>nomatch hm
theorem a8v {x:Int} (hs:ts.Pairwise (· ≤ ·)) (hx:∀t∈ts,t≤x):(ts++[x]).Pairwise (· ≤ ·):=by
 rw [List.pairwise_append]
 exact ⟨hs,List.pairwise_singleton _ _,fun a ha b hb=>by rw [List.mem_singleton] at hb;subst hb;exact hx a ha⟩
theorem DJ.old (d:DJ E h s hp kn ts) {x:Int} {v:Nat} (hpm:hp.Perm ((x,v)::hp')) (hmin:∀q∈hp',x≤q.1) (hk:∃x',(v,x')∈kn):DJ E h s hp' kn (ts++[x]):=by
 obtain ⟨x',hx'⟩:=hk
 have hmem:∀q,q∈hp'→q∈hp:=fun q hq=>hpm.mem_iff.mpr (.tail _ hq)
 have hb:∀t∈ts,t≤x:=fun t ht=>d.below t ht x v (hpm.mem_iff.mpr (.head _))
 have hle:x'≤x:=hb x' (d.known v x' hx').2.1
 have split:∀q,q∈hp→q=(x,v)∨q∈hp':=fun q hq=>by
  rcases List.mem_cons.mp (hpm.mem_iff.mp hq) with e | e
  ·exact .inl e
  ·exact .inr e
 refine ⟨fun y u hm=>d.heap y u (hmem _ hm),fun u y hm=>?_,d.nd,?_,fun u y hm v' c hc=>?_,a8v d.sorted hb,fun t ht y u hm=>?_⟩
 ·obtain ⟨a,b,c⟩:=d.known u y hm
  exact ⟨a,List.mem_append_left _ b,c⟩
 ·rcases d.start with hst | hst
  ·exact .inl hst
  ·rcases split _ hst with e | e
   ·injection e with e1 e2
    subst e1 e2
    exact .inl ⟨x',hx',hle⟩
   ·exact .inr e
 ·rcases d.edges u y hm v' c hc with hst | hst
  ·exact .inl hst
  ·rcases split _ hst with e | e
   ·injection e with e1 e2
    subst e2
    exact .inl ⟨x',hx',by exact Int.le_trans hle (Int.le_of_eq e1.symm)⟩
   ·exact .inr e
 ·rcases List.mem_append.mp ht with ht | ht
  ·exact d.below t ht y u (hmem _ hm)
  ·rw [List.mem_singleton] at ht
   subst ht
   exact hmin _ hm
theorem DJ.new (d:DJ E h s hp kn ts) {x:Int} {v:Nat} (hpm:hp.Perm ((x,v)::hp')) (hmin:∀q∈hp',x≤q.1) (hk:v∉kn.map (·.1)) (hE:∀q∈E v,q.1 < 5) (hn:∀q∈E v,0≤q.2 + h v - h q.1):
  DJ E h s (hp'++(E v).map fun q=>(x + q.2 + h v - h q.1,q.1)) (kn++[(v,x)]) (ts++[x]):=by
 have hmem:∀q,q∈hp'→q∈hp:=fun q hq=>hpm.mem_iff.mpr (.tail _ hq)
 have hx0:(x,v)∈hp:=hpm.mem_iff.mpr (.head _)
 have hb:∀t∈ts,t≤x:=fun t ht=>d.below t ht x v hx0
 obtain ⟨hv,y0,hw,hxy⟩:=d.heap x v hx0
 have split:∀q,q∈hp→q=(x,v)∨q∈hp':=fun q hq=>by
  rcases List.mem_cons.mp (hpm.mem_iff.mp hq) with e | e
  ·exact .inl e
  ·exact .inr e
 refine ⟨fun y u hm=>?_,fun u y hm=>?_,?_,?_,fun u y hm v' c hc=>?_,a8v d.sorted hb,fun t ht y u hm=>?_⟩
 ·rcases List.mem_append.mp hm with hm | hm
  ·exact d.heap y u (hmem _ hm)
  ·obtain ⟨q,hq,e⟩:=List.mem_map.mp hm
   injection e with e1 e2
   subst e1 e2
   exact ⟨hE q hq,y0 + q.2,.step hw hq,by omega⟩
 ·rcases List.mem_append.mp hm with hm | hm
  ·obtain ⟨a,b,c⟩:=d.known u y hm
   exact ⟨a,List.mem_append_left _ b,c⟩
  ·rw [List.mem_singleton] at hm
   injection hm with e1 e2
   subst e1 e2
   exact ⟨hv,List.mem_append_right _ (.head _),y0,hw,hxy⟩
 ·rw [List.map_append,List.nodup_append]
  refine ⟨d.nd,List.nodup_cons.mpr ⟨List.not_mem_nil,List.nodup_nil⟩,fun a ha b hb=>?_⟩
  rw [List.map_singleton,List.mem_singleton] at hb
  subst hb
  rintro rfl
  exact hk ha
 ·rcases d.start with ⟨z,hz,hz0⟩ | hst
  ·exact .inl ⟨z,List.mem_append_left _ hz,hz0⟩
  ·rcases split _ hst with e | e
   ·injection e with e1 e2
    subst e1 e2
    exact .inl ⟨0,List.mem_append_right _ (.head _),Int.le_refl _⟩
   ·exact .inr (List.mem_append_left _ e)
 ·rcases List.mem_append.mp hm with hm | hm
  ·rcases d.edges u y hm v' c hc with ⟨z,hz,hz0⟩ | hst
   ·exact .inl ⟨z,List.mem_append_left _ hz,hz0⟩
   ·rcases split _ hst with e | e
    ·injection e with e1 e2
     subst e2
     exact .inl ⟨x,List.mem_append_right _ (.head _),by exact Int.le_of_eq e1.symm⟩
    ·exact .inr (List.mem_append_left _ e)
  ·rw [List.mem_singleton] at hm
   injection hm with e1 e2
   subst e1 e2
   exact .inr (List.mem_append_right _ (List.mem_map.mpr ⟨(v',c),hc,rfl⟩))
 ·rcases List.mem_append.mp hm with hm' | hm'
  ·rcases List.mem_append.mp ht with ht | ht
   ·exact d.below t ht y u (hmem _ hm')
   ·rw [List.mem_singleton] at ht
    have:=hmin _ hm'
    rw [ht];exact this
  ·obtain ⟨q,hq,e⟩:=List.mem_map.mp hm'
   injection e with e1 e2
   subst e1 e2
   have:=hn q hq
   have ht':t≤x:=by
    rcases List.mem_append.mp ht with ht | ht
    ·exact hb t ht
    ·rw [List.mem_singleton] at ht;exact Int.le_of_eq ht
   omega
theorem DJ.end (d:DJ E h s [] kn ts):∀v y,Way E s v y→∃x,(v,x)∈kn∧x≤y + h s - h v:=by
 intro v y hw
 induction hw with
 | nil=>
  rcases d.start with ⟨x,hx,h0⟩ | hst
  ·exact ⟨x,hx,by omega⟩
  ·exact nomatch hst
 | @step u v y c _ he ih=>
  obtain ⟨x,hx,hle⟩:=ih
  rcases d.edges u x hx v c he with ⟨z,hz,hz0⟩ | hst
  ·exact ⟨z,hz,by omega⟩
  ·exact nomatch hst
end
theorem a0b.runs {w:World} {D U:Nat} {α:Type} {enc:α→Flow} (inj:∀a b,enc a=enc b→a=b) {x y:Sem α} (e:x=y) {L:Led} {Q:α→Led→Prop} (h:a0x w D U a2k [] (tr enc y) L (fun r L'=>∃a,r= .ok (enc a)∧Q a L')):a0b w D U x L Q:=
 fun A s E hA S=>b2e inj e ((h A s hA S).mono fun r s' hr=>by
  obtain ⟨L',⟨a,rfl,hq⟩,S',E',G'⟩:=hr
  exact ⟨a,rfl,L',hq,S',E',G'⟩)
structure a4r where
 O:Addr
 ol:List Row
 eo:Nat
 oa:Nat→Addr
 eu:Nat→Nat
 OL:Nat→List Ot
structure a4r.Ok (d:a4r):Prop where
 len:d.ol.length≤1000
 key:∀u,u < 5→nm u∈a1m d.ol
 val:∀u,u < 5→a5p d.ol (nm u)= .ref (d.oa u)
 tgt:∀u,u < 5→∀o∈d.OL u,o.v < 5
 sz:∀u,u < 5→(d.OL u).length≤100
noncomputable def a4r.at (d:a4r) (u:Nat):Led:=(d.oa u,a0a (otr (d.OL u)) (d.eu u))::(d.OL u).map Ot.ob
noncomputable def a4r.led (P:Params) (d:a4r):Led:=(d.O,dob P d.ol d.eo)::(d.at 0++d.at 1++d.at 2++d.at 3++d.at 4)
noncomputable def a4r.E (d:a4r) (u:Nat):List (Nat×Int):=(d.OL u).map fun o=>(o.v,o.c)
structure Kn where
 v:Nat
 t:Tok
 x:Int
 tx:Tok
noncomputable def knR (kn:List Kn):List Row:=kn.map fun e=>(nm e.v,e.t,.int e.x e.tx)
noncomputable def Kn.p (e:Kn):Nat×Int:=(e.v,e.x)
noncomputable def a0w (ts:List (Int×Tok)):Array Value:=⟨ts.map fun e=>.int e.1 e.2⟩
theorem b3q (ts:List (Int×Tok)) (x:Int) (t:Tok):(a0w ts).push (.int x t)=a0w (ts++[(x,t)]):=by simp [a0w]
theorem a3e {kn:List Kn} (hk:∀e∈kn,e.v < 5) {v:Nat} (hv:v < 5):nm v∈a1m (knR kn)↔v∈kn.map (·.v):=by
 unfold a1m knR
 rw [List.map_map]
 constructor
 ·intro h
  obtain ⟨e,he,hn⟩:=List.mem_map.mp h
  have:=a2u (hk e he) hv hn
  exact List.mem_map.mpr ⟨e,he,this⟩
 ·intro h
  obtain ⟨e,he,rfl⟩:=List.mem_map.mp h
  exact List.mem_map.mpr ⟨e,he,rfl⟩
noncomputable def lf (d:a4r) (kn:List Kn) (u:Nat):Nat:=if u∈kn.map (·.v) then 0 else (d.OL u).length
noncomputable def b7g (d:a4r) (kn:List Kn):Nat:=lf d kn 0 + lf d kn 1 + lf d kn 2 + lf d kn 3 + lf d kn 4
theorem d3g (d:a4r) (kn:List Kn) (e:Kn) {u:Nat} (h:u≠e.v):lf d (kn++[e]) u=lf d kn u:=by
 unfold lf
 simp [h]
theorem d7x (d:a4r) (kn:List Kn) (e:Kn):lf d (kn++[e]) e.v=0:=by
 unfold lf
 simp
theorem c8n (d:a4r) (kn:List Kn) {u:Nat} (h:u∉kn.map (·.v)):lf d kn u=(d.OL u).length:=if_neg h
theorem f2c {f g:Nat→Nat} {v n:Nat} (hv:v < 5) (h1:g v=0) (h2:f v=n) (h:∀u,u≠v→g u=f u):g 0 + g 1 + g 2 + g 3 + g 4 + n=f 0 + f 1 + f 2 + f 3 + f 4:=by
 subst h2
 match v with
 | 0=>rw [h1,h 1 (by decide),h 2 (by decide),h 3 (by decide),h 4 (by decide)];simp +arith
 | 1=>rw [h1,h 0 (by decide),h 2 (by decide),h 3 (by decide),h 4 (by decide)];simp +arith
 | 2=>rw [h1,h 1 (by decide),h 0 (by decide),h 3 (by decide),h 4 (by decide)];simp +arith
 | 3=>rw [h1,h 1 (by decide),h 2 (by decide),h 0 (by decide),h 4 (by decide)];simp +arith
 | 4=>rw [h1,h 1 (by decide),h 2 (by decide),h 3 (by decide),h 0 (by decide)];simp +arith
 | _ + 5=>exact absurd hv (by simp +arith)
theorem c7b (d:a4r) (kn:List Kn) (e:Kn) (hu:e.v < 5) (h:e.v∉kn.map (·.v)):b7g d (kn++[e]) + (d.OL e.v).length=b7g d kn:=
 f2c (f:=lf d kn) hu (d7x d kn e) (c8n d kn h) fun u hu=>d3g d kn e hu
section
variable {w:World} {b1 b2:Bool} {D U:Nat} {F H N T K:Addr} {eh:Nat} {hl:List Row} {h:Nat→Int} {d:a4r} {s:Nat} {st:Str}
noncomputable def hpS (hp:List (Int×Nat)):List (Int×Str):=hp.map fun q=>(q.1,nm q.2)
theorem c2t {es es':List It} {e:It} {hp:List (Int×Nat)} (hk:(es.map It.kv).Perm (hpS hp)) (hp1:es.Perm (e::es')) (hmin:∀x∈es',e.x≤x.x):
  Ey2 fun v hp'=>An4 (e.p=nm v) (hp.Perm ((e.x,v)::hp')) ((es'.map It.kv).Perm (hpS hp')) (∀q∈hp',e.x≤q.1):=by
 have hm:e.kv∈hpS hp:=hk.mem_iff.mp (List.mem_map_of_mem (hp1.mem_iff.mpr (.head _)))
 obtain ⟨⟨x,v⟩,hq,he⟩:=List.mem_map.mp hm
 have hx:x=e.x:=congrArg Prod.fst he
 have hv:nm v=e.p:=congrArg Prod.snd he
 subst hx
 obtain ⟨l1,l2,rfl⟩:=List.append_of_mem hq
 have hpp:(l1++(e.x,v)::l2).Perm ((e.x,v)::(l1++l2)):=List.perm_middle
 have h2:(e.kv::es'.map It.kv).Perm (e.kv::hpS (l1++l2)):=by
  have a:=(hp1.map It.kv).symm.trans (hk.trans (hpp.map fun (q:Int×Nat)=>(q.1,nm q.2)))
  rw [List.map_cons,List.map_cons] at a
  have:((e.x,v).1,nm (e.x,v).2)=e.kv:=by show (e.x,nm v)=(e.x,e.p);rw [hv]
  rw [this] at a
  exact a
 have h3:=h2.cons_inv
 refine ⟨v,l1++l2,hv.symm,hpp,h3,fun q hq=>?_⟩
 have hm2:(q.1,nm q.2)∈es'.map It.kv:=h3.mem_iff.mpr (List.mem_map.mpr ⟨q,hq,rfl⟩)
 obtain ⟨e',he',hk'⟩:=List.mem_map.mp hm2
 have:=hmin e' he'
 have h4:e'.x=q.1:=congrArg Prod.fst hk'
 exact Int.le_trans this (Int.le_of_eq h4)
end
section
variable {w:World} {b1 b2:Bool} {D U:Nat} {N:Addr} {eh:Nat} {hl:List Row} {h:Nat→Int} {d:a4r} {s:Nat}
theorem d2c (hd:d.Ok) (kn:List Kn):b7g d kn≤500:=by
 have a:∀u,u < 5→lf d kn u≤100:=fun u hu=>by
  unfold lf
  split
  ·exact Nat.le_add_left _ _
  ·exact hd.sz u hu
 have:=a 0 (by exact Nat.le_add_left _ _);have:=a 1 (by exact Nat.le_add_left _ _);have:=a 2 (by exact Nat.le_add_left _ _);have:=a 3 (by exact Nat.le_add_left _ _);have:=a 4 (by exact Nat.le_add_left _ _)
 unfold b7g;omega
end
noncomputable abbrev b0h:Stmt:=a3i (a1e (top 23)) 2
noncomputable abbrev b8f (F:Addr):Env:=b6b (top 23) l24 247 246 F []
noncomputable abbrev lsT:Expr:=lpT b0h
noncomputable abbrev e5c (t:Nat→Tok) (st:Str) (R M G:Addr):List (Str×Tok×Value):=[(b9j,t 0,.str st (t 1)),(a7n,t 2,.ref R),(d0n,t 3,.ref M),(c9x,t 4,.ref G)]
noncomputable abbrev f0s (t:Nat→Tok) (st:Str) (R M G:Addr) (p:Str) (x:Int):List (Str×Tok×Value):=e5c t st R M G++[(b7p,t 5,.str p (t 6)),(d9o,t 7,.int x (t 8))]
noncomputable abbrev f5x (t:Nat→Tok) (st:Str) (R M G:Addr) (p:Str) (x:Int) (a b:Str) (c:Int):List (Str×Tok×Value):=f0s t st R M G p x++[(a3p,t 9,.str a (t 10)),(d4y,t 11,.str b (t 12)),(b1x,t 13,.int c (t 14))]
noncomputable abbrev e6j:Stmt:=a3i (lpB b0h) 2
structure Rd where
 a:Addr
 i:Nat
 ti:Tok
 j:Nat
 tj:Tok
 c:Int
 tc:Tok
noncomputable def Rd.ob (e:Rd):Addr×Obj:=(e.a,tob [.str (nm e.i) e.ti,.str (nm e.j) e.tj,.int e.c e.tc])
noncomputable def rdr (es:List Rd):Array Value:=⟨es.map fun e=>.ref e.a⟩
structure Gi where
 a:Addr
 v:Nat
 tv:Tok
 x:Int
 tx:Tok
noncomputable def Gi.ob (e:Gi):Addr×Obj:=(e.a,tob [.str (nm e.v) e.tv,.int e.x e.tx])
noncomputable def gir (es:List Gi):Array Value:=⟨es.map fun e=>.ref e.a⟩
noncomputable def Gi.kv (e:Gi):Nat×Int:=(e.v,e.x)
theorem b4q (gs:List Gi) (e:Gi):(gir (gs++[e])).pop=gir gs:=by simp [gir]
theorem b7f (gs:List Gi):(gir gs).size=gs.length:=by simp [gir]
theorem Way.first {E:Nat→List (Nat×Int)} {u v:Nat} {z:Int} (h:Way E u v z):(v=u∧z=0)∨Ey3 fun w c z'=>An3 ((w,c)∈E u) (Way E w v z') (z=c + z'):=by
 induction h with
 | nil=>exact .inl ⟨rfl,rfl⟩
 | @step a b y c hw he ih=>
  rcases ih with ⟨rfl,rfl⟩ | ⟨w,c',z',h1,h2,rfl⟩
  ·exact .inr ⟨b,c,0,he,.nil,by simp +arith⟩
  ·exact .inr ⟨w,c',z' + c,h1,.step h2 he,by simp +arith⟩
structure DF (E:Nat→List (Nat×Int)) (s:Nat) (gs:List (Nat×Int)) (m:List (Nat×Int)):Prop where
 stack:∀v x,(v,x)∈gs→v < 5∧Way E s v x
 least:∀v x,(v,x)∈m→v < 5∧Way E s v x
 nd:(m.map (·.1)).Nodup
 cover:∀v y,Way E s v y→(∃x,(v,x)∈m∧x≤y)∨Ey3 fun u x z=>An3 ((u,x)∈gs) (Way E u v z) (y=x + z)
structure Upd (m:List (Nat×Int)) (u:Nat) (x:Int) (m':List (Nat×Int)):Prop where
 here:∃x',(u,x')∈m'∧x'≤x
 old:∀v y,(v,y)∈m→∃y',(v,y')∈m'∧y'≤y
 only:∀v y,(v,y)∈m'→(v,y)∈m∨(v=u∧y=x)
 nd:(m.map (·.1)).Nodup→(m'.map (·.1)).Nodup
theorem DF.init {E s} (hs:s < 5):DF E s [(s,0)] [] where
 stack:=fun v x hm=>by
  rw [List.mem_singleton] at hm
  injection hm with h1 h2
  subst h1 h2
  exact ⟨hs,.nil⟩
 least:=fun _ _ hm=>nomatch hm
 nd:=List.nodup_nil
 cover:=fun v y hw=>.inr ⟨s,0,y,.head _,hw,by simp +arith⟩
theorem DF.turn {E s gs m m' u x} (d:DF E s (gs++[(u,x)]) m) (hu:Upd m u x m') (hE:∀q∈E u,q.1 < 5):DF E s (gs++(E u).map fun q=>(q.1,x + q.2)) m':=by
 obtain ⟨hu5,hw⟩:=d.stack u x (List.mem_append_right _ (.head _))
 refine ⟨fun v y hm=>?_,fun v y hm=>?_,hu.nd d.nd,fun v y hy=>?_⟩
 ·rcases List.mem_append.mp hm with hm | hm
  ·exact d.stack v y (List.mem_append_left _ hm)
  ·obtain ⟨q,hq,e⟩:=List.mem_map.mp hm
   injection e with e1 e2
   subst e1 e2
   exact ⟨hE q hq,.step hw hq⟩
 ·rcases hu.only v y hm with h | ⟨rfl,rfl⟩
  ·exact d.least v y h
  ·exact ⟨hu5,hw⟩
 ·rcases d.cover v y hy with ⟨x0,h1,h2⟩ | ⟨a,b,z,h1,h2,h3⟩
  ·obtain ⟨y',h3,h4⟩:=hu.old v x0 h1
   exact .inl ⟨y',h3,by exact Int.le_trans h4 h2⟩
  ·rcases List.mem_append.mp h1 with h1 | h1
   ·exact .inr ⟨a,b,z,List.mem_append_left _ h1,h2,h3⟩
   ·rw [List.mem_singleton] at h1
    injection h1 with e1 e2
    subst e1 e2
    rcases h2.first with ⟨rfl,rfl⟩ | ⟨w,c,z',h4,h5,rfl⟩
    ·obtain ⟨x',h6,h7⟩:=hu.here
     exact .inl ⟨x',h6,by omega⟩
    ·exact .inr ⟨w,b + c,z',List.mem_append_right _ (List.mem_map.mpr ⟨(w,c),h4,rfl⟩),h5,by omega⟩
theorem DF.end {E s m} (d:DF E s [] m):∀v y,Way E s v y→∃x,(v,x)∈m∧x≤y:=fun v y hw=>by
 rcases d.cover v y hw with h | ⟨_,_,_,h,_⟩
 ·exact h
 ·exact nomatch h
noncomputable def b0i:List Nat→Nat
 | []=>0
 | x::l=>x + b0i l
noncomputable def Wt (E:Nat→List (Nat×Int)):Nat→Nat→Nat
 | 0,_=>1
 | n + 1,v=>1 + b0i ((E v).map fun q=>Wt E n q.1)
theorem b1o:∀a b:List Nat,b0i (a++b)=b0i a + b0i b
 | [],b=>by simp [b0i]
 | x::a,b=>by rw [List.cons_append,b0i,b0i,b1o a b,Nat.add_assoc]
theorem b5r {α:Type} {f g:α→Nat}:∀{l:List α},(∀x∈l,f x≤g x)→b0i (l.map f)≤b0i (l.map g)
 | [],_=>Nat.le_refl _
 | x::l,h=>by
  rw [List.map_cons,List.map_cons,b0i,b0i]
  exact Nat.add_le_add (h x (.head _)) (b5r fun y hy=>h y (.tail _ hy))
theorem c9i (E n v):1≤Wt E n v:=by cases n <;> simp [Wt]
theorem c1d (E):∀n v,Wt E n v≤Wt E (n + 1) v
 | 0,v=>c9i E 1 v
 | n + 1,v=>by
  rw [Wt,Wt]
  exact Nat.add_le_add_left (b5r fun q _=>c1d E n q.1) 1
theorem c3w (E) {n m:Nat} (h:n≤m) (v:Nat):Wt E n v≤Wt E m v:=by
 induction h with
 | refl=>exact Nat.le_refl _
 | step _ ih=>exact Nat.le_trans ih (c1d E _ v)
noncomputable def Wn (E:Nat→List (Nat×Int)) (v:Nat):Nat:=Wt E (5 - v) v
theorem c6a (E) {v:Nat} (hv:v < 5) (hE:∀q∈E v,v < q.1):b0i ((E v).map fun q=>Wn E q.1) + 1≤Wn E v:=by
 unfold Wn
 have e:5 - v=(4 - v) + 1:=by omega
 rw [e,Wt,Nat.add_comm]
 exact Nat.add_le_add_left (b5r fun q hq=>c3w E (by have:=hE q hq;omega) q.1) 1
theorem b0l {α:Type} {f:α→Nat} {k:Nat}:∀{l:List α},(∀x∈l,f x≤k)→b0i (l.map f)≤l.length * k
 | [],_=>by simp [b0i]
 | x::l,h=>by
  rw [List.map_cons,b0i,List.length_cons,Nat.succ_mul,Nat.add_comm]
  exact Nat.add_le_add (b0l fun y hy=>h y (.tail _ hy)) (h x (.head _))
theorem d6x (E) (hE:∀v,(E v).length≤10):∀n v,n≤5→Wt E n v≤[1,11,111,1111,11111,111111].getD n 0
 | 0,v,_=>Nat.le_refl _
 | n + 1,v,h=>by
  rw [Wt]
  have ih:=fun q:Nat×Int=>d6x E hE n q.1 (by omega)
  have hb:=b0l (l:=E v) (f:=fun q=>Wt E n q.1) fun q _=>ih q
  have hl:=hE v
  have:(E v).length * [1,11,111,1111,11111,111111].getD n 0≤10 * [1,11,111,1111,11111,111111].getD n 0:=Nat.mul_le_mul_right _ hl
  have hn:n=0∨n=1∨n=2∨n=3∨n=4:=lt5 (by first | assumption | omega)
  rcases hn with rfl | rfl | rfl | rfl | rfl <;> simp at * <;> omega
theorem e6u (E) (hE:∀v,(E v).length≤10) (v:Nat):Wn E v≤111111:=by
 unfold Wn
 refine Nat.le_trans (c3w E (show 5 - v≤5 by simp +arith) v) ?_
 exact d6x E hE 5 v (Nat.le_refl _)
theorem c5p {kn:List Kn} (hk:∀e∈kn,e.v < 5) {u:Nat} (hu:u < 5) (hm:u∈kn.map (·.v)):∃e∈kn,e.v=u∧a5p (knR kn) (nm u)= .int e.x e.tx:=by
 induction kn with
 | nil=>exact absurd hm List.not_mem_nil
 | cons e kn ih=>
  show ∃e'∈e::kn,e'.v=u∧(if nm e.v=nm u then Value.int e.x e.tx else a5p (knR kn) (nm u))=_
  by_cases h:e.v=u
  ·exact ⟨e,.head _,h,by rw [if_pos (by rw [h])]⟩
  ·have hn:¬nm e.v=nm u:=fun z=>h (a2u (hk e (.head _)) hu z)
   have hm':u∈kn.map (·.v):=by
    rcases List.mem_cons.mp (show u∈e.v::kn.map (·.v) from hm) with z | z
    ·exact absurd z.symm h
    ·exact z
   obtain ⟨e',h1,h2,h3⟩:=ih (fun x hx=>hk x (.tail _ hx)) hm'
   exact ⟨e',.tail _ h1,h2,by rw [if_neg hn];exact h3⟩
theorem b1i {kn:List Kn} (hnd:(kn.map (·.v)).Nodup) {a b:Kn} (ha:a∈kn) (hb:b∈kn) (h:a.v=b.v):a=b:=by
 induction kn with
 | nil=>exact absurd ha List.not_mem_nil
 | cons e kn ih=>
  rw [List.map_cons,List.nodup_cons] at hnd
  rcases List.mem_cons.mp ha with rfl | ha'
  ·rcases List.mem_cons.mp hb with rfl | hb'
   ·rfl
   ·exact absurd (h▸List.mem_map_of_mem hb') hnd.1
  ·rcases List.mem_cons.mp hb with rfl | hb'
   ·exact absurd (h▸List.mem_map_of_mem (f:=(·.v)) ha') hnd.1
   ·exact ih hnd.2 ha' hb'
noncomputable def a7o (u:Nat) (x:Int) (t:Tok):List Kn→List Kn
 | []=>[]
 | e::kn=>if e.v=u then ⟨e.v,e.t,x,t⟩::kn else e::a7o u x t kn
theorem b6v {u:Nat} (hu:u < 5) (x:Int) (t:Tok):∀{kn:List Kn},(∀e∈kn,e.v < 5)→d5v (knR kn) (nm u) (.int x t)=knR (a7o u x t kn)
 | [],_=>rfl
 | e::kn,hk=>by
  show (if nm e.v=nm u then (nm e.v,e.t,Value.int x t)::knR kn else (nm e.v,e.t,Value.int e.x e.tx)::d5v (knR kn) (nm u) (.int x t))=_
  unfold a7o
  by_cases h:e.v=u
  ·rw [if_pos (by rw [h]),if_pos h];rfl
  ·have hn:¬nm e.v=nm u:=fun z=>h (a2u (hk e (.head _)) hu z)
   rw [if_neg hn,if_neg h,b6v hu x t fun a ha=>hk a (.tail _ ha)];rfl
theorem b0r (u x t):∀kn:List Kn,(a7o u x t kn).map (·.v)=kn.map (·.v)
 | []=>rfl
 | e::kn=>by
  unfold a7o
  split
  ·rfl
  ·rw [List.map_cons,List.map_cons,b0r u x t kn]
theorem b2w (u x t):∀kn:List Kn,∀v y,(v,y)∈(a7o u x t kn).map Kn.p→(v,y)∈kn.map Kn.p∨(v=u∧y=x)
 | [],v,y,h=>nomatch h
 | e::kn,v,y,h=>by
  unfold a7o at h
  split at h
  ·rename_i he
   rcases List.mem_cons.mp h with h | h
   ·injection h with h1 h2
    exact .inr ⟨h1.trans he,h2⟩
   ·exact .inl (.tail _ h)
  ·rcases List.mem_cons.mp h with h | h
   ·exact .inl (h▸.head _)
   ·rcases b2w u x t kn v y h with h | h
    ·exact .inl (.tail _ h)
    ·exact .inr h
theorem b3j (u x t):∀kn:List Kn,(∀e∈kn,e.v=u→x≤e.x)→∀v y,(v,y)∈kn.map Kn.p→∃y',(v,y')∈(a7o u x t kn).map Kn.p∧y'≤y
 | [],_,v,y,h=>nomatch h
 | e::kn,hle,v,y,h=>by
  unfold a7o
  rcases List.mem_cons.mp h with h | h
  ·injection h with h1 h2
   subst h1 h2
   split
   ·rename_i he
    exact ⟨x,.head _,hle e (.head _) he⟩
   ·exact ⟨e.x,.head _,Int.le_refl _⟩
  ·split
   ·exact ⟨y,.tail _ h,Int.le_refl _⟩
   ·obtain ⟨y',h1,h2⟩:=b3j u x t kn (fun a ha=>hle a (.tail _ ha)) v y h
    exact ⟨y',.tail _ h1,h2⟩
theorem b0w (u x t):∀kn:List Kn,u∈kn.map (·.v)→(u,x)∈(a7o u x t kn).map Kn.p
 | [],h=>nomatch h
 | e::kn,h=>by
  unfold a7o
  split
  ·rename_i he
   subst he
   exact .head _
  ·rename_i he
   rcases List.mem_cons.mp (show u∈e.v::kn.map (·.v) from h) with z | z
   ·exact absurd z.symm he
   ·exact .tail _ (b0w u x t kn z)
theorem a6h:∀(n:Nat) (l:List Nat),l.Nodup→(∀x∈l,x < n)→l.length≤n
 | 0,l,_,h=>by
  cases l with
  | nil=>exact Nat.le_refl _
  | cons a l=>exact absurd (h a (.head _)) (Nat.not_lt_zero _)
 | n + 1,l,hn,h=>by
  by_cases hm:n∈l
  ·have h1:=a6h n (l.erase n) (hn.erase n) fun x hx=>by
    have h2:=h x (List.mem_of_mem_erase hx)
    have h3:x≠n:=fun e=>by subst e;exact hn.not_mem_erase hx
    omega
   rw [List.length_erase_of_mem hm] at h1
   omega
  ·have h1:=a6h n l hn fun x hx=>by
    have h2:=h x hx
    have h3:x≠n:=fun e=>by subst e;exact hm hx
    omega
   exact Nat.le_succ_of_le h1
noncomputable def rdE (rs:List Rd) (u:Nat):List (Nat×Int):=(rs.filter fun r=>r.i == u).map fun r=>(r.j,r.c)
structure c5d (rs:List Rd):Prop where
 up:∀r∈rs,r.i < r.j∧r.j < 5
 len:rs.length≤10
theorem d0t {rs:List Rd} {u:Nat} {q:Nat×Int} (h:q∈rdE rs u):∃r∈rs,r.i=u∧q=(r.j,r.c):=by
 obtain ⟨r,hr,rfl⟩:=List.mem_map.mp h
 rw [List.mem_filter] at hr
 exact ⟨r,hr.1,by simpa using hr.2,rfl⟩
theorem d4t {rs:List Rd} (h:c5d rs) (u:Nat):(rdE rs u).length≤10:=by
 unfold rdE
 rw [List.length_map]
 exact Nat.le_trans (List.length_filter_le _ _) h.len
section
variable {w:World} {b1 b2:Bool} {D U:Nat} {F M G R:Addr} {st:Str} {er s:Nat} {rs:List Rd}
noncomputable def b9e (rs:List Rd) (gs:List Gi):Nat:=b0i (gs.map fun e=>Wn (rdE rs) e.v)
theorem b1e (rs:List Rd):∀gs:List Gi,gs.length≤b9e rs gs
 | []=>Nat.le_refl _
 | e::gs=>by
  have h1:=b1e rs gs
  have h2:1≤Wn (rdE rs) e.v:=c9i _ _ _
  unfold b9e at h1 ⊢
  rw [List.map_cons,b0i,List.length_cons]
  omega
theorem c6z (rs:List Rd) (a b:List Gi):b9e rs (a++b)=b9e rs a + b9e rs b:=by
 unfold b9e;rw [List.map_append,b1o]
theorem b9s (rs:List Rd) (gs:List Gi):b9e rs gs=b0i ((gs.map Gi.kv).map fun q=>Wn (rdE rs) q.1):=by
 unfold b9e;rw [List.map_map];rfl
end
noncomputable def d5o:List Nat→Led→Led
 | [],_=>[]
 | _::_,[]=>[]
 | 0::m,_::L=>d5o m L
 | _::m,q::L=>q::d5o m L
theorem a2j:∀(m:List Nat) (L:Led),a2i (d5o m L) L
 | [],L=>.nil L
 | _::_,[]=>.nil _
 | 0::m,q::L=>.skip q (a2j m L)
 | (_ + 1)::m,q::L=>.cons q (a2j m L)
section
variable {w:World} {D U:Nat}
theorem a0x.less {c fs t L M R} (hp:a2i L M) (h:a0x w D U c fs t L R):a0x w D U c fs t M R:=fun A s hA S=>
 (h A s hA (S.part hp)).mono fun r s' q=>a1p hp q fun r L' _ hr=>⟨L',.refl _,hr⟩
noncomputable def vcP (m:List Nat) (o:Out):Bool×Option Code×Option Nat×Nat×Led×List Prop×List Addr:=(o.ok,a6z o.t,dep o.c o.fs,o.fs.length,d5o m o.L,o.ob,o.es.map (·.1))
noncomputable def vwP (m:List Nat) (o:Out):Bool×Option Result×Led×List Prop×List Addr:=(o.ok,d8k o,d5o m o.L,o.ob,o.es.map (·.1))
noncomputable def vaP (m:List Nat) (o:Out):Bool×Option Code×List Nat×Led×List Prop×List Addr:=(o.ok,c1e o.t,o.fs.map fun _=>0,d5o m o.L,o.ob,o.es.map (·.1))
theorem a0x.execEndP {c fs t L F M} {R:a6i} (hp:M.Perm (L++F)) (hD:D≤600) (hfs:∀f∈fs,f.hd=none) (n:Nat) (hs m:List Nat) (r:(Nat→Addr)→(Nat→Tok)→Result) (L':(Nat→Addr)→(Nat→Tok)→Led) (ob:(Nat→Addr)→(Nat→Tok)→List Prop)
  (ev:∀fr tk,vwP m (Mine.exec (vv w fr tk) n hs c fs t L 0 0 [] [])=wt (Mine.exec (vv w fr tk) n hs c fs t L 0 0 [] []) (r fr tk) (L' fr tk) (ob fr tk))
  (hob:∀fr tk,∀p∈ob fr tk,p) (hQ:∀fr tk,True→PR R (r fr tk) (L' fr tk++F)):a0x w D U c fs t M R:=by
 refine a0x.execF hp hD hfs n hs fun fr tk=>?_
 have e:=ev fr tk
 have ho:=hob fr tk
 have hq:=hQ fr tk
 revert e
 generalize Mine.exec (vv w fr tk) n hs c fs t L 0 0 [] []=o
 intro e
 unfold vwP wt at e
 simp only [Prod.mk.injEq] at e
 obtain ⟨e1,e2,e3,e4,e5⟩:=e
 refine ⟨e1,e5,by rw [e4];exact ho,fun ok hf=>?_⟩
 have hpart:a2i (L' fr tk++F) (o.L++F):=by rw [←e3];exact (a2j m o.L).both F
 refine a0x.less hpart ?_
 obtain ⟨L'',p,q⟩:=hq trivial
 intro A s hA S
 refine a3x (o:=o) e2 ?_
 exact ⟨L'',q,S.part p,a4j.refl _ _,(a0j.refl _ _).part p⟩
end
noncomputable abbrev e5u:Stmt:=a3i (a1e (top 16)) 1
noncomputable abbrev e7m (F:Addr):Env:=b6b (top 16) l18 204 203 F []
noncomputable abbrev f0d (t:Nat→Tok) (S N R:Addr):List (Str×Tok×Value):=[(c0u,t 0,.ref S),(c3g,t 1,.ref N),(a7n,t 2,.ref R)]
noncomputable abbrev f3p (t:Nat→Tok) (S N R:Addr) (x a b:Int):List (Str×Tok×Value):=f0d t S N R++[(s_x,t 3,.int x (t 4)),(d4y,t 5,.int b (t 6)),(a3p,t 7,.int a (t 8))]
noncomputable def a7q (x:Int):Int:=x.fmod 5
noncomputable def a7v (x:Int):Int:=(x.fdiv 5).fmod 5
noncomputable def nmA (u:Nat→Tok):Array Value:=⟨[.str (nm 0) (u 0),.str (nm 1) (u 1),.str (nm 2) (u 2),.str (nm 3) (u 3),.str (nm 4) (u 4)]⟩
theorem c2w (u:Nat→Tok) {k:Int} (h0:0≤k) (h1:k < 5):nth (nmA u) k= .str (nm k.toNat) (u k.toNat):=by
 have:k=0∨k=1∨k=2∨k=3∨k=4:=by omega
 rcases this with rfl | rfl | rfl | rfl | rfl <;> rfl
theorem c9o (x:Int):0≤a7q x∧a7q x < 5:=by unfold a7q;rw [Int.fmod_eq_emod_of_nonneg _ (by decide)];omega
theorem c8i (x:Int):0≤a7v x∧a7v x < 5:=by unfold a7v;rw [Int.fmod_eq_emod_of_nonneg _ (by decide)];omega
noncomputable def a2z (x:Int):Option (Nat×Nat×Int):=if a7q x=a7v x then none else if a7q x < a7v x then some ((a7q x).toNat,(a7v x).toNat,x.fdiv 25) else some ((a7v x).toNat,(a7q x).toNat,x.fdiv 25)
noncomputable def Rd.key (r:Rd):Nat×Nat×Int:=(r.i,r.j,r.c)
theorem c7h (rs:List Rd):(rdr rs).size=rs.length:=by simp [rdr]
section
variable {w:World} {b1 b2:Bool} {D U:Nat} {F Q S N R:Addr} {u:Nat→Tok} {es en:Nat}
theorem d6t {a b:List Prop} (ha:∀q∈a,q) (hb:∀q∈b,q):∀q∈a++b,q:=fun q hq=>(List.mem_append.mp hq).elim (ha q) (hb q)
theorem c7a {rs:List Rd} {xs:List Int} (h:rs.map Rd.key=xs.filterMap a2z) (hl:xs.length≤10):c5d rs:=by
 refine ⟨fun r hr=>?_,?_⟩
 ·have:r.key∈xs.filterMap a2z:=h▸List.mem_map_of_mem hr
  obtain ⟨x,_,hx⟩:=List.mem_filterMap.mp this
  have b1':=c9o x
  have b2':=c8i x
  unfold a2z at hx
  split at hx
  ·cases hx
  ·split at hx
   ·injection hx with hx
    have e1:(a7q x).toNat=r.i:=congrArg (·.1) hx
    have e2:(a7v x).toNat=r.j:=congrArg (·.2.1) hx
    omega
   ·injection hx with hx
    have e1:(a7v x).toNat=r.i:=congrArg (·.1) hx
    have e2:(a7q x).toNat=r.j:=congrArg (·.2.1) hx
    omega
 ·have h1:=congrArg List.length h
  rw [List.length_map] at h1
  have:=List.length_filterMap_le a2z xs
  exact Nat.le_trans (Nat.le_of_eq h1) (Nat.le_trans this hl)
end
structure Tg where
 a:Addr
 d:Addr
 tag:Value
 x:Int
 tx:Tok
 t1:Tok
 t2:Tok
noncomputable def Tg.led (P:Params) (g:Tg):Led:=[(g.a,⟨.ref 45,some g.d,.plain,⟨[]⟩⟩),(g.d,dob P [(c8v,g.t1,.int g.x g.tx),(c6y,g.t2,g.tag)] 2)]
section
variable {w:World} {b1 b2:Bool} {D U:Nat}
theorem b8i (hD:D≤550) (v:Value) (hv:v= .none∨Ey2 fun p t=>v= .str p t) (x:Int) (tx:Tok):
  a0y (W w b1 b2) D U (.call (.ref 211) ⟨[v,.int x tx],[]⟩) [] (fun r L=>∃g:Tg,An4 (g.tag=v) (g.x=x) (r= .ok (.ret (.ref g.a))) (L=g.led (W w b1 b2).params)):=by
 refine a0y.start ?_
 refine a0x.execEndP (L:=[]) (F:=[]) (.refl _) (by exact lb0 hD rfl) a3u 1000 [0,0,1,0,1,0,0,1,0,0,1,0,0,0,0,0,0,0,0,0,0,0,0,0,0,0,0,0,0,0,0,0,0,0,0,0,0,3,0,3,0,0,0,0,0,0,4,3,4,3,4,4,3,0,0,0,3,0,3,0,3,0,0,0,3,0,2,1,2,1,0,1,1,3,0,0,0,3,0,3,0,3,0,0,0,3,0,2,1,2,1] [0,1,1]
  (fun fr tk=>.ok (.ret (.ref (fr 2)))) (fun fr tk=>[(fr 1,dob (W w b1 b2).params [(c8v,Nat.succ (tk 5),.int x tx),(c6y,Nat.succ (tk 8),v)] 2),(fr 2,⟨.ref 45,some (fr 1),.plain,⟨[]⟩⟩)]) (fun _ _=>[]) (fun fr tk=>by rcases hv with hz | ⟨p,tp,hz⟩ <;> rw [hz] <;> kernel_rfl) (fun _ _=>a0e)
  (fun fr tk ok=>⟨_,.of_perm (.swap ..),⟨fr 2,fr 1,v,x,tx,Nat.succ (tk 5),Nat.succ (tk 8)⟩,rfl,rfl,rfl,rfl⟩)
end
theorem a6d:∀{c:Code} {fs:List Fr} {d:Nat},dep c fs=some d→c.weight + (fs.map (·.c.weight)).sum≤d
 | c,[],d,h=>by
  have:b8k c=some d:=h
  have:=a3l this
  simpa using this
 | c,f::fs,d,h=>by
  unfold dep at h
  split at h
  ·rename_i a ha
   split at h
   ·rename_i b hb
    cases h
    have h1:=a6d (c:=f.c) (fs:=fs) hb
    have h2:=a3l ha
    rw [List.map_cons,List.sum_cons]
    omega
   ·cases h
  ·cases h
noncomputable def Mt:List Fr→List Frame→Prop
 | [],Fs=>Fs=[]
 | f::fs,Fs=>Ey4 fun g l p Fs'=>Fs= .ret f.k f.hd g l f.c p []::Fs'∧Mt fs Fs'
noncomputable def c3y (w:World) (A:Around) (B:List Frame) (P:End→Shared→Prop) (c:Code) (fs:List Fr) (t:Sem PySem.Fin) (s:Shared):Prop:=∀Fs,Mt fs Fs→SegX (model prog w) A c t (Fs++B) s P
noncomputable def b2z (B:List Frame):Prop:=∀f∈B,Ey6 fun k g l c p kp=>f= .ret k none g l c p kp
theorem a9j:∀{B:List Frame},b2z B→∀x,marksOver B x=x
 | [],_,_=>rfl
 | f::B,h,x=>by
  obtain ⟨k,g,l,c,p,kp,rfl⟩:=h f (.head _)
  have:=a9j (fun g hg=>h g (.tail _ hg)) x
  unfold marksOver at this ⊢
  rw [List.foldr_cons,this]
  rfl
theorem Mt.plain:∀{fs:List Fr} {Fs:List Frame},Mt fs Fs→(∀f∈fs,f.hd=none)→b2z Fs
 | [],Fs,h,_=>by
  have:Fs=[]:=h
  subst this;intro f hf;cases hf
 | f::fs,Fs,h,hf=>by
  obtain ⟨g,l,p,Fs',rfl,hm⟩:=h
  intro f' hf'
  rcases List.mem_cons.mp hf' with rfl | hf'
  ·exact ⟨f.k,g,l,f.c,p,[],by rw [hf f (.head _)]⟩
  ·exact Mt.plain hm (fun g hg=>hf g (.tail _ hg)) f' hf'
theorem Mt.count:∀{fs:List Fr} {Fs:List Frame},Mt fs Fs→frameCount (Fs.map Frame.where_)=(fs.map (·.c.weight)).sum
 | [],Fs,h=>by
  have:Fs=[]:=h
  subst this;rfl
 | f::fs,Fs,h=>by
  obtain ⟨g,l,p,Fs',rfl,hm⟩:=h
  rw [List.map_cons,List.map_cons,List.sum_cons,←Mt.count hm]
  exact frameCount_cons ..
theorem a4x {w:World} {A:Around} {B:List Frame} {P:End→Shared→Prop} {hnd:Option Value} (hh:A.handled=hnd) (hB:b2z B) (hd:A.depth + frameCount (B.map Frame.where_)≤690):a4i w hnd (c3y w A B P) where
 done:=fun {c f fs fl s} h Fs hm=>by
  obtain ⟨g,l,p,Fs',rfl,hm⟩:=hm
  exact s_pop prog w A c (Fs'++B) P s (.ok fl) _ rfl f.k f.hd g l f.c p [] (h Fs' hm)
 raise:=fun {c f fs e s} h Fs hm=>by
  obtain ⟨g,l,p,Fs',rfl,hm⟩:=hm
  exact s_pop prog w A c (Fs'++B) P s (.error e) _ rfl f.k f.hd g l f.c p [] (h Fs' hm)
 again:=fun {c c' fs s} hq h Fs hm=>s_again prog w A c (Fs++B) P s c' hq (by rw [a8s];exact h Fs hm)
 enter:=fun {c c' fs g l k s} h Fs hm=>s_call prog w A c (Fs++B) P s c' none g l k (fun p=>by rw [a8s];exact h (.ret k none g l c p []::Fs) ⟨g,l,p,Fs,rfl,hm⟩)
 cmd:=fun {α c fs s m K} hfs h Fs hm=>by
  refine s_cmd prog w A c (Fs++B) P (wpAny_mono (h _ ⟨?_,fun d hd1 hd2=>?_⟩) (fun a s' q=>q Fs hm) fun x s' q=>q Fs hm)
  ·have hp:b2z (Fs++B):=fun f hf=>(List.mem_append.mp hf).elim (hm.plain hfs f) (hB f)
   show (marksOver (Fs++B) (A.handled,A.handled)).1=hnd
   rw [a9j hp];exact hh
  ·show A.depth + frameCount ((Fs++B).map Frame.where_) + c.weight < 1000
   have:=a6d hd1
   rw [List.map_append,frameCount_append,hm.count]
   omega
structure Now (w:World) (L0:Led) (s0:Shared) (L:Led) (s:Shared):Prop where
 sat:a4s w L s
 ext:a4j L0 s0 s
 grown:a0j L0 L s0
section
variable {w:World} {L0 L M F L':Led} {s0 s s':Shared}
theorem Now.start (S:a4s w L s):Now w L s L s:=⟨S,a4j.refl _ _,a0j.refl _ _⟩
theorem Now.part (N:Now w L0 s0 M s) (h:a2i L M):Now w L0 s0 L s:=⟨N.sat.part h,N.ext,N.grown.part h⟩
theorem Now.on (N:Now w L0 s0 L s) (S':a4s w L' s') (E:a4j L s s') (G:a0j L L' s):Now w L0 s0 L' s':=⟨S',N.ext.trans N.grown E,N.grown.trans' N.ext G⟩
theorem b6h (G:a0j L L' s):a0j (L++F) (L'++F) s:=fun a ha=>by
 rw [List.map_append] at ha ⊢
 rcases List.mem_append.mp ha with h | h
 ·exact (G a h).imp_left (List.mem_append_left _)
 ·exact .inl (List.mem_append_right _ h)
theorem Now.step (N:Now w L0 s0 M s) (hp:M.Perm (L++F)) (S':a4s w L' s') (E:a4j L s s') (G:a0j L L' s):Now w L0 s0 (L'++F) s':=by
 have N1:=N.part (.of_perm hp)
 exact N1.on (N1.sat.frame S' E G) (E.pre (.app _ _)) (b6h G)
theorem c7c {gens:Array GenState} {g:Nat} {x:GenState} (h:AllBare gens) (hx:x.bare=true):AllBare (gens.setIfInBounds g x):=by
 intro y hy
 rcases Array.mem_or_eq_of_mem_setIfInBounds hy with h1 | h1
 ·exact h y h1
 ·rw [h1];exact hx
theorem Now.setGen (N:Now w L0 s0 L s) (g:Nat) {x:GenState} (hx:x.bare=true):Now w L0 s0 L (s.setGen g x):=
 ⟨⟨N.sat.led,N.sat.nd,N.sat.kk,N.sat.nk,N.sat.tok⟩,⟨N.ext.keep,N.ext.size,N.ext.toks,fun h=>c7c (N.ext.gens h) hx,N.ext.os⟩,N.grown⟩
theorem Now.res {α:Type} {R:α→Led→Prop} {r:α} (N:Now w L0 s0 L s) (h:R r L):Res w L0 s0 R r s:=⟨L,h,N.sat,N.ext,N.grown⟩
end
structure Tab where
 f:Params→Bool→Nat→Option PFn
 ok:∀w:World,a5q w (KK w.params) none (f w.params)
noncomputable def f3t:Tab:=⟨d4z,b6w⟩
noncomputable def f1n (f:Params→Bool→Nat→Option PFn) (n0:Nat) (p:Params→PFn):Params→Bool→Nat→Option PFn:=fun P b n=>match b with
 | false=>match Nat.beq n0 n with
  | true=>some (p P)
  | false=>f P false n
 | true=>f P true n
noncomputable def d8d (f:Params→Bool→Nat→Option PFn) (n0:Nat) (p:Params→PFn):Params→Bool→Nat→Option PFn:=fun P b n=>match b with
 | true=>match Nat.beq n0 n with
  | true=>some (p P)
  | false=>f P true n
 | false=>f P false n
noncomputable def Tab.add (T:Tab) (id:String) (p:Params→PFn) (h:∀w:World,a0i w id (p w.params)):Tab:=⟨f1n T.f (PySem.W.S.codeS id) p,by
 intro w b id' q hq
 cases b with
 | true=>exact T.ok w true id' q hq
 | false=>
  unfold f1n at hq
  simp only at hq
  split at hq
  ·rename_i e
   cases hq
   have:id=id':=b9x (Nat.eq_of_beq_eq_true e) (PySem.W.S.code_S _)
   subst this
   exact h w
  ·exact T.ok w false id' q hq⟩
noncomputable def Tab.addB (T:Tab) (id:String) (p:Params→PFn) (h:∀w:World,b2f w id (p w.params)):Tab:=⟨d8d T.f (PySem.W.S.codeS id) p,by
 intro w b id' q hq
 cases b with
 | false=>exact T.ok w false id' q hq
 | true=>
  unfold d8d at hq
  simp only at hq
  split at hq
  ·rename_i e
   cases hq
   have:id=id':=b9x (Nat.eq_of_beq_eq_true e) (PySem.W.S.code_S _)
   subst this
   exact h w
  ·exact T.ok w true id' q hq⟩
noncomputable def a8r:PFn:=fun _ _ _ _ _=>none
theorem a3s {w hnd b id}:a8a w hnd b id a8r:=fun _ _ _ _ _ _ _ _ _ h=>by cases h
noncomputable abbrev vt (T:Tab) (w:World) (fr:Nat→Addr) (tk:Nat→Tok):XP:=vx w (KK w.params) none (T.f w.params) fr tk
noncomputable abbrev xr (T:Tab) (w:World) (fr:Nat→Addr) (tk:Nat→Tok) (hs:List Nat) (c:Code) (fs:List Fr) (t:Sem PySem.Fin) (L:Led):Out:=Mine.exec (vt T w fr tk) 3000 hs c fs t L 0 0 [] []
section
variable {w:World} {L0 L M F L':Led} {s0 s s':Shared} {D U:Nat}
theorem goT (T:Tab) {Mn:Code→List Fr→Sem PySem.Fin→Shared→Prop} (R:a4i w none Mn) (N:Now w L0 s0 M s) (hp:M.Perm (L++F)) {c fs t} (hfs:∀f∈fs,f.hd=none) (hs:List Nat)
  (H:∀fr tk,(fun o:Out=>o.ok=true∧o.es.map (·.1)=o.es.map (·.2)∧(∀p∈o.ob,p)∧((∀f∈o.fs,f.hd=none)→∀s',s'.gens=s.gens→Now w L0 s0 (o.L++F) s'→Mn o.c o.fs o.t s')) (xr T w fr tk hs c fs t L)):Mn c fs t s:=by
 have N1:=N.part (.of_perm hp)
 refine a6b (KK:=KK w.params) (prim:=T.f w.params) R (a8u w.params) (T.ok w) 3000 hs c fs t L s hfs (fun fr tk=>?_) (N1.sat.part (.app _ _))
 obtain ⟨h1,h2,h3,h4⟩:=H fr tk
 exact ⟨h1,a7b h2,h3,fun s' S' E' G'=>h4 (c2l _ 3000 hs c fs t L 0 0 [] [] hfs) s' E'.gens (N1.step (.refl _) S' E'.weak G')⟩
theorem a0x.execFT (T:Tab) {c fs t R} (hp:M.Perm (L++F)) (hD:D≤600) (hfs:∀f∈fs,f.hd=none) (hs:List Nat)
  (H:∀fr tk,(fun o:Out=>o.ok=true∧o.es.map (·.1)=o.es.map (·.2)∧(∀p∈o.ob,p)∧(Okl (o.L++F)→(∀f∈o.fs,f.hd=none)→a0x w D U o.c o.fs o.t (o.L++F) R)) (xr T w fr tk hs c fs t L)):a0x w D U c fs t M R:=
 fun A s hA S=>by
  refine goT T (a2a hA.handled (by have:=hA.depth;exact Nat.le_trans this (Nat.le_trans hD (by decide)))) (Now.start S) hp hfs hs (fun fr tk=>?_)
  obtain ⟨h1,h2,h3,h4⟩:=H fr tk
  refine ⟨h1,h2,h3,fun hf s' _ N=>?_⟩
  exact (h4 N.sat.nd hf A s' hA N.sat).mono fun r s'' q=>a2y N.ext N.grown q
theorem a0x.execCallT (T:Tab) {c fs t R} {d k:Nat} (R₁:(Nat→Addr)→(Nat→Tok)→a6i) (hp:M.Perm (L++F)) (hD:D≤600) (hfs:∀f∈fs,f.hd=none) (hs m:List Nat) (L':(Nat→Addr)→(Nat→Tok)→Led) (ob:(Nat→Addr)→(Nat→Tok)→List Prop)
  (cc:(Nat→Addr)→(Nat→Tok)→Code)
  (ev:∀fr tk,vcP m (xr T w fr tk hs c fs t L)=wc (xr T w fr tk hs c fs t L) (cc fr tk) d k (L' fr tk) (ob fr tk))
  (hob:∀fr tk,∀p∈ob fr tk,p)
  (hc:∀fr tk,True→a0y w (D + d) (U + 10 * (k + 1)) (cc fr tk) (L' fr tk++F) (R₁ fr tk))
  (hk:∀fr tk (o:Out),o=xr T w fr tk hs c fs t L→∀r L₁,True→R₁ fr tk r L₁→(∀f∈o.fs,f.hd=none)→a0x w D U o.c o.fs (cont o.t r) L₁ R):a0x w D U c fs t M R:=by
 refine a0x.execFT T hp hD hfs hs fun fr tk=>?_
 have e:=ev fr tk
 have k':=hk fr tk _ rfl
 have hc':=hc fr tk
 have ho:=hob fr tk
 revert e k'
 generalize xr T w fr tk hs c fs t L=o
 intro e k'
 unfold vcP wc at e
 simp only [Prod.mk.injEq] at e
 obtain ⟨e1,e2,e3,e4,e5,e6,e7⟩:=e
 refine ⟨e1,e7,by rw [e6];exact ho,fun ok hf=>?_⟩
 subst e4
 have hpart:a2i (L' fr tk++F) (o.L++F):=by rw [←e5];exact (a2j m o.L).both F
 refine a0x.less hpart ?_
 exact a0x.call hf e2 e3 (hc' trivial) fun r L₁ ok₁ hr=>k' r L₁ ok₁ hr hf
theorem a0x.execEndT (T:Tab) {c fs t} {R:a6i} (hp:M.Perm (L++F)) (hD:D≤600) (hfs:∀f∈fs,f.hd=none) (hs m:List Nat) (r:(Nat→Addr)→(Nat→Tok)→Result) (L':(Nat→Addr)→(Nat→Tok)→Led) (ob:(Nat→Addr)→(Nat→Tok)→List Prop)
  (ev:∀fr tk,vwP m (xr T w fr tk hs c fs t L)=wt (xr T w fr tk hs c fs t L) (r fr tk) (L' fr tk) (ob fr tk))
  (hob:∀fr tk,∀p∈ob fr tk,p) (hQ:∀fr tk,True→PR R (r fr tk) (L' fr tk++F)):a0x w D U c fs t M R:=by
 refine a0x.execFT T hp hD hfs hs fun fr tk=>?_
 have e:=ev fr tk
 have ho:=hob fr tk
 have hq:=hQ fr tk
 revert e
 generalize xr T w fr tk hs c fs t L=o
 intro e
 unfold vwP wt at e
 simp only [Prod.mk.injEq] at e
 obtain ⟨e1,e2,e3,e4,e5⟩:=e
 refine ⟨e1,e5,by rw [e4];exact ho,fun ok hf=>?_⟩
 have hpart:a2i (L' fr tk++F) (o.L++F):=by rw [←e3];exact (a2j m o.L).both F
 refine a0x.less hpart ?_
 obtain ⟨L'',p,q⟩:=hq trivial
 intro A s hA S
 refine a3x (o:=o) e2 ?_
 exact ⟨L'',q,S.part p,a4j.refl _ _,(a0j.refl _ _).part p⟩
theorem a0x.execAgainT (T:Tab) {c fs t} {R:a6i} (hp:M.Perm (L++F)) (hD:D≤600) (hfs:∀f∈fs,f.hd=none) (hs m:List Nat) (cc:(Nat→Addr)→(Nat→Tok)→Code) (L':(Nat→Addr)→(Nat→Tok)→Led) (ob:(Nat→Addr)→(Nat→Tok)→List Prop)
  (ev:∀fr tk,vaP m (xr T w fr tk hs c fs t L)=wa (xr T w fr tk hs c fs t L) (cc fr tk) (L' fr tk) (ob fr tk))
  (hob:∀fr tk,∀p∈ob fr tk,p) (hq:∀fr tk,(cc fr tk).quiet=true) (hc:∀fr tk,True→a0y w D U (cc fr tk) (L' fr tk++F) R):a0x w D U c fs t M R:=by
 refine a0x.execFT T hp hD hfs hs fun fr tk=>?_
 have e:=ev fr tk
 have hc':=hc fr tk
 have ho:=hob fr tk
 revert e
 generalize xr T w fr tk hs c fs t L=o
 intro e
 unfold vaP wa at e
 simp only [Prod.mk.injEq] at e
 obtain ⟨e1,e2,e3,e5,e6,e7⟩:=e
 refine ⟨e1,e7,by rw [e6];exact ho,fun ok hf=>?_⟩
 have:o.fs=[]:=List.map_eq_nil_iff.mp e3
 rw [this]
 have hpart:a2i (L' fr tk++F) (o.L++F):=by rw [←e5];exact (a2j m o.L).both F
 refine a0x.less hpart ?_
 exact a0x.again e2 (hq fr tk) (hc' trivial)
theorem a0b.runT (T:Tab) {α:Type} {enc:α→Flow} (inj:∀a b,enc a=enc b→a=b) {x y:Sem α} (e:x=y) (hD:D≤600) (hs m:List Nat) {Q:α→Led→Prop}
  (a:(Nat→Addr)→(Nat→Tok)→α) (L':(Nat→Addr)→(Nat→Tok)→Led) (ob:(Nat→Addr)→(Nat→Tok)→List Prop)
  (ev:∀fr tk,vwP m (xr T w fr tk hs a2k [] (tr enc y) L)=wt (xr T w fr tk hs a2k [] (tr enc y) L) (.ok (enc (a fr tk))) (L' fr tk) (ob fr tk))
  (hob:∀fr tk,∀p∈ob fr tk,p) (hQ:∀fr tk,True→PR Q (a fr tk) (L' fr tk)):a0b w D U x L Q:=
 a0b.runs inj e (a0x.execEndT T (F:=[]) (by rw [List.append_nil]) hD a3u hs m _ L' ob ev hob fun fr tk ok=>by
  rw [List.append_nil]
  obtain ⟨L'',p,q⟩:=hQ fr tk ok
  exact ⟨L'',p,a fr tk,rfl,q⟩)
end
noncomputable def f4x:Tab:=f3t.add "generator.__next__" (fun _=>a8r) fun w=>a3s
noncomputable def c2u:Stmt→List Stmt
 | .If _ _ o _=>o
 | _=>[]
noncomputable abbrev f2w:Stmt:=a3i (a1e (top 2)) 1
noncomputable abbrev e1j:Stmt:=a3i (c2u f2w) 0
noncomputable abbrev d7q:Stmt:=a3i (c2u e1j) 0
noncomputable abbrev e8h:Stmt:=a3i (c2u d7q) 0
noncomputable abbrev c2n:Stmt:=a3i (a1e e1j) 0
noncomputable abbrev a5z:Stmt:=a3i (a1e d7q) 3
noncomputable abbrev a6f:Stmt:=a3i (a1e e8h) 2
noncomputable abbrev b2h:Str:=⟨⟨[95,112,114,101,112,97,114,101,95,116,97,103,46,60,108,111,99,97,108,115,62,46,115,101,108,101,99,116]⟩⟩
noncomputable def a2h (s:Stmt) (cells:List (Str×Addr)) (cd ct:Addr):FuncData:=match s with
 | .FunctionDef name args body _ _ _ scope _ _ _=>{ name,qualname:=b2h,params:=args,body:=.stmts body,scope,globals:=3,closure:=cells,defaults:=.none,kwdefaults:=.none,pyModule:=.str l6 467,code:=.ref cd,closureTuple:=.ref ct }
 | _=>default
noncomputable abbrev b4m (fd:FuncData):Obj:=⟨.type "function",none,.func fd,⟨[]⟩⟩
noncomputable abbrev a5l (v0:Value) (t:Tok) (rest:List Value):Obj:=⟨.type "code",none,.fields ⟨v0:: .str b2h t::rest⟩,⟨[]⟩⟩
noncomputable abbrev a1v (vs:List Value):Obj:=⟨.none,none,.fields ⟨vs⟩,⟨[]⟩⟩
noncomputable abbrev a0v (v:Value):Obj:=⟨.type "cell",none,.cell (some v),⟨[]⟩⟩
noncomputable abbrev a9p (a b:Value):Obj:=⟨.type "slice",none,.fields ⟨[a,b,.none]⟩,⟨[]⟩⟩
noncomputable def c2j (s:Stmt) (sel cd F:Addr) (cells:List (Str×Addr)):Env:={ scope:=b9t s,locals:=F,globals:=3,cells,qual:=b2h++l67,func:=some sel,code:=.ref cd,frame:=some F,builtins:=0 }
noncomputable abbrev e6b (s:Stmt):Stmt:=a3i (a1e s) 0
noncomputable abbrev slC (s:Stmt) (Q sel cd F:Addr) (cells:List (Str×Addr)):Code:=b4o (e6b s) (.ref Q) (c2j s sel cd F cells)
noncomputable abbrev a7f (t:Nat→Tok) (T:Addr):List (Str×Tok×Value):=[(c3q,t 0,.none),(b6o,t 1,.ref T)]
noncomputable abbrev b4j (t:Nat→Tok) (T e:Addr) (v:Value):List (Str×Tok×Value):=a7f t T++[(e0a,t 2,.ref e),(c7i,t 3,v)]
noncomputable abbrev cl2 (a b:Addr):List (Str×Addr):=[(d0i,b),(a5h,a)]
noncomputable abbrev cl3 (a b n z g:Addr):List (Str×Addr):=[(c6y,g),(c6f,z),(c9r,n),(d0i,b),(a5h,a)]
noncomputable abbrev cl4 (a b n o:Addr):List (Str×Addr):=[(c0z,o),(f2p,n),(d0i,b),(a5h,a)]
noncomputable def a1a:Tab:=((f4x.add "str.__getitem__" (fun _=>e1a) fun w=>d2o).add "str.__add__" (fun _=>d9n) fun w=>d5e).add "str.find" (fun _=>c8f) fun w=>c4b
noncomputable def yHd (t:Sem PySem.Fin):Option Value:=match t with
 | .yield v g _ _=>match g with
  | false=>some v
  | true=>none
 | _=>none
noncomputable def yK (t:Sem PySem.Fin):Resume→Sem PySem.Fin:=match t with
 | .yield _ _ _ k=>k
 | _=>fun _=>.unsupported "yK"
noncomputable def yL (t:Sem PySem.Fin):List Value:=match t with
 | .yield _ _ l _=>l
 | _=>[]
theorem d7d {t v} (h:yHd t=some v):t= .yield v false (yL t) (yK t):=by
 unfold yHd at h
 split at h
 ·split at h
  ·cases h;rfl
  ·cases h
 ·cases h
noncomputable def vy (o:Out):Bool×Option Value×List Nat×Code×Led×List Prop×List Addr:=(o.ok,yHd o.t,o.fs.map fun _=>0,o.c,o.L,o.ob,o.es.map (·.1))
noncomputable def wy (o:Out) (c:Code) (v:Value) (L:Led) (ob:List Prop):Bool×Option Value×List Nat×Code×Led×List Prop×List Addr:=(true,some v,[],c,L,ob,o.es.map (·.2))
section
variable {w:World} {L0 L M F:Led} {s0 s:Shared} {Mn:Code→List Fr→Sem PySem.Fin→Shared→Prop} {c:Code} {fs:List Fr} {t:Sem PySem.Fin}
theorem a8l (T:Tab) (R:a4i w none Mn) (N:Now w L0 s0 M s) (hp:M.Perm (L++F)) (hfs:∀f∈fs,f.hd=none) (hs:List Nat) (cc:(Nat→Addr)→(Nat→Tok)→Code) (L':(Nat→Addr)→(Nat→Tok)→Led) (ob:(Nat→Addr)→(Nat→Tok)→List Prop)
  (ev:∀fr tk,va (xr T w fr tk hs c fs t L)=wa (xr T w fr tk hs c fs t L) (cc fr tk) (L' fr tk) (ob fr tk))
  (hob:∀fr tk,∀p∈ob fr tk,p) (hq:∀fr tk,(cc fr tk).quiet=true) (hk:∀fr tk s',s'.gens=s.gens→Now w L0 s0 (L' fr tk++F) s'→Mn (cc fr tk) [] (den (cc fr tk)) s'):Mn c fs t s:=by
 refine goT T R N hp hfs hs fun fr tk=>?_
 have e:=ev fr tk
 have hk':=hk fr tk
 have ho:=hob fr tk
 revert e
 generalize xr T w fr tk hs c fs t L=o
 intro e
 unfold va wa at e
 simp only [Prod.mk.injEq] at e
 obtain ⟨e1,e2,e3,e5,e6,e7⟩:=e
 refine ⟨e1,e7,by rw [e6];exact ho,fun hf s' hg N'=>?_⟩
 have:o.fs=[]:=List.map_eq_nil_iff.mp e3
 rw [this]
 rw [e5] at N'
 unfold c1e at e2
 split at e2
 ·rename_i ht
  split at e2
  ·cases e2
   rw [ht]
   exact R.again (hq fr tk) (hk' s' hg N')
  ·cases e2
 ·cases e2
theorem c6c (T:Tab) (R:a4i w none Mn) (N:Now w L0 s0 M s) (hp:M.Perm (L++F)) (hfs:∀f∈fs,f.hd=none) (hs:List Nat) (C:Code) (v:(Nat→Addr)→(Nat→Tok)→Value) (L':(Nat→Addr)→(Nat→Tok)→Led) (ob:(Nat→Addr)→(Nat→Tok)→List Prop)
  (ev:∀fr tk,vy (xr T w fr tk hs c fs t L)=wy (xr T w fr tk hs c fs t L) C (v fr tk) (L' fr tk) (ob fr tk))
  (hob:∀fr tk,∀p∈ob fr tk,p) (hk:∀fr tk (o:Out),o=xr T w fr tk hs c fs t L→∀s',s'.gens=s.gens→Now w L0 s0 (L' fr tk++F) s'→Mn C [] (.yield (v fr tk) false (yL o.t) (yK o.t)) s'):Mn c fs t s:=by
 refine goT T R N hp hfs hs fun fr tk=>?_
 have e:=ev fr tk
 have hk':=hk fr tk _ rfl
 have ho:=hob fr tk
 revert e hk'
 generalize xr T w fr tk hs c fs t L=o
 intro e hk'
 unfold vy wy at e
 simp only [Prod.mk.injEq] at e
 obtain ⟨e1,e2,e3,e4,e5,e6,e7⟩:=e
 refine ⟨e1,e7,by rw [e6];exact ho,fun hf s' hg N'=>?_⟩
 have:o.fs=[]:=List.map_eq_nil_iff.mp e3
 rw [this,e4]
 rw [e5] at N'
 rw [d7d e2]
 exact hk' s' hg N'
theorem b1s (T:Tab) (R:a4i w none Mn) (N:Now w L0 s0 M s) (hp:M.Perm (L++F)) (hfs:∀f∈fs,f.hd=none) (hs:List Nat) (r:(Nat→Addr)→(Nat→Tok)→Result) (L':(Nat→Addr)→(Nat→Tok)→Led) (ob:(Nat→Addr)→(Nat→Tok)→List Prop)
  (ev:∀fr tk,vw (xr T w fr tk hs c fs t L)=wt (xr T w fr tk hs c fs t L) (r fr tk) (L' fr tk) (ob fr tk))
  (hob:∀fr tk,∀p∈ob fr tk,p) (hk:∀fr tk s',s'.gens=s.gens→Now w L0 s0 (L' fr tk++F) s'→∀C,Mn C [] (leafOf (r fr tk)) s'):Mn c fs t s:=by
 refine goT T R N hp hfs hs fun fr tk=>?_
 have e:=ev fr tk
 have hk':=hk fr tk
 have ho:=hob fr tk
 revert e
 generalize xr T w fr tk hs c fs t L=o
 intro e
 unfold vw wt at e
 simp only [Prod.mk.injEq] at e
 obtain ⟨e1,e2,e3,e4,e5⟩:=e
 refine ⟨e1,e5,by rw [e4];exact ho,fun hf s' hg N'=>?_⟩
 rw [e3] at N'
 have k:=hk' s' hg N' o.c
 unfold d8k at e2
 split at e2
 ·rename_i hfs'
  rw [hfs']
  split at e2
  ·rename_i ht
   rw [ht]
   split at e2
   ·injection e2 with e2;rw [←e2] at k;exact k
   ·cases e2
  ·rename_i ht
   rw [ht]
   injection e2 with e2;rw [←e2] at k;exact k
  ·cases e2
 ·cases e2
end
structure Sk where
 s:Stmt
 sel:Addr
 cd:Addr
 F:Addr
 T:Addr
 cells:List (Str×Addr)
 X:Led
 pk:Value→Bool
 okv:Value→Prop
noncomputable abbrev Sk.C (K:Sk) (Q:Addr):Code:=slC K.s Q K.sel K.cd K.F K.cells
noncomputable def GF (P:Params) (T:Addr) (fo:Obj):Prop:=(∃t,fo=fob P (a7f t T) 2)∨Ey3 fun t e v=>fo=fob P (b4j t T e v) 4
noncomputable def KOk (w:World) (C:Code) (k:Resume→Sem PySem.Fin):Prop:=∀fr tk,va (xr a1a w fr tk [] C [] (k (.send .none)) [])=wa (xr a1a w fr tk [] C [] (k (.send .none)) []) C [] []
noncomputable def a5w (w:World) (K:Sk):Prop:=∀{L0 M R:Led} {s0 s:Shared} {Mn:Code→List Fr→Sem PySem.Fin→Shared→Prop} (RR:a4i w none Mn) {Q:Addr} {fo:Obj} {k:Nat} {ti:Tok} {xs:Array Value} {ep:Nat} (g:Tg),
 Now w L0 s0 M s→M.Perm ([(K.F,fo),(Q,a0z (.ref K.T) k ti),(K.T,a0a xs ep)]++g.led w.params++K.X++R)→GF w.params K.T fo→K.okv g.tag→k < xs.size→nth xs k= .ref g.a→
 (K.pk g.tag=false→∀fo' s',GF w.params K.T fo'→s'.gens=s.gens→Now w L0 s0 ([(K.F,fo'),(Q,a0z (.ref K.T) (k + 1:Nat) 0),(K.T,a0a xs ep)]++g.led w.params++K.X++R) s'→Mn (K.C Q) [] (den (K.C Q)) s')→
 (K.pk g.tag=true→∀fo' s' l kk,GF w.params K.T fo'→KOk w (K.C Q) kk→s'.gens=s.gens→Now w L0 s0 ([(K.F,fo'),(Q,a0z (.ref K.T) (k + 1:Nat) 0),(K.T,a0a xs ep)]++g.led w.params++K.X++R) s'→Mn (K.C Q) [] (.yield (.ref g.a) false l kk) s')→
 Mn (K.C Q) [] (den (K.C Q)) s
noncomputable def pk2:Value→Bool
 | .str p _=>decide ((⟨⟨[p.cps.toList.getD 0 0]⟩⟩:Str)≠lz2)
 | _=>false
noncomputable def e6o (v:Value):Prop:=v= .none∨Ey2 fun p t=>An3 (v= .str p t) (0 < p.length) (p.length≤1000000)
noncomputable def sk2 (sel cd F T a b:Addr):Sk:=⟨c2n,sel,cd,F,T,cl2 a b,[(a,a0v (.builtin "isinstance")),(b,a0v (.type "str"))],pk2,e6o⟩
section
variable {w:World} {b1 b2:Bool}
noncomputable abbrev h2s (x:Nat):List Nat:=[2,1,2,1,7,1,0,1,4,0,0,0,4,0,0,0,4,4,0,5,1,0,6,1,7,1,0,0,x,1]
noncomputable abbrev h2n:List Nat:=[2,1,2,1,7,1,0,1,4,0,0,0,4,0,0,0,4,4,0,5,1,0,6,1,7]
end
section
variable {w:World} {b1 b2:Bool}
noncomputable abbrev tuL (P:Params) (F:Addr) (fo:Obj) (Q T:Addr) (k:Nat) (ti:Tok) (xs:Array Value) (ep:Nat) (g:Tg) (X:Led):Led:=[(F,fo),(Q,a0z (.ref T) k ti),(T,a0a xs ep)]++g.led P++X
noncomputable abbrev e3v (P:Params) (F:Addr) (fo:Obj) (Q T:Addr) (k:Nat) (xs:Array Value) (ep:Nat) (g:Tg) (X:Led):Led:=[(F,fo),(Q,a0z (.ref T) (k + 1) 0),(T,a0a xs ep)]++g.led P++X
noncomputable abbrev obT (xs:Array Value) (k:Nat) (a:Addr):List Prop:=[0≤(k:Int),(k:Int) < xs.size,nth xs k= .ref a]
structure b2l (w:World) (K:Sk) (hs:List Nat) (Q:Addr) (fo:Obj) (fo':(Nat→Tok)→Obj) (k:Nat) (ti:Tok) (xs:Array Value) (ep:Nat) (g:Tg) (ob:List Prop):Prop where
 ev:∀fr tk,va (xr a1a w fr tk hs (K.C Q) [] (den (K.C Q)) (tuL w.params K.F fo Q K.T k ti xs ep g K.X))=wa (xr a1a w fr tk hs (K.C Q) [] (den (K.C Q)) (tuL w.params K.F fo Q K.T k ti xs ep g K.X)) (K.C Q) (e3v w.params K.F (fo' tk) Q K.T k xs ep g K.X) (ob++obT xs k g.a)
structure a6y (w:World) (K:Sk) (hs:List Nat) (Q:Addr) (fo:Obj) (fo':(Nat→Tok)→Obj) (k:Nat) (ti:Tok) (xs:Array Value) (ep:Nat) (g:Tg) (ob:List Prop):Prop where
 ev:∀fr tk,vy (xr a1a w fr tk hs (K.C Q) [] (den (K.C Q)) (tuL w.params K.F fo Q K.T k ti xs ep g K.X))=wy (xr a1a w fr tk hs (K.C Q) [] (den (K.C Q)) (tuL w.params K.F fo Q K.T k ti xs ep g K.X)) (K.C Q) (.ref g.a) (e3v w.params K.F (fo' tk) Q K.T k xs ep g K.X) (ob++obT xs k g.a)
 kk:∀fr tk fr' tk',va (xr a1a w fr' tk' [] (K.C Q) [] (yK (xr a1a w fr tk hs (K.C Q) [] (den (K.C Q)) (tuL w.params K.F fo Q K.T k ti xs ep g K.X)).t (.send .none)) [])=wa (xr a1a w fr' tk' [] (K.C Q) [] (yK (xr a1a w fr tk hs (K.C Q) [] (den (K.C Q)) (tuL w.params K.F fo Q K.T k ti xs ep g K.X)).t (.send .none)) []) (K.C Q) [] []
section
variable {K:Sk} {L0 M R:Led} {s0 s:Shared} {Mn:Code→List Fr→Sem PySem.Fin→Shared→Prop} {Q:Addr} {fo:Obj} {fo':(Nat→Tok)→Obj} {k:Nat} {ti:Tok} {xs:Array Value} {ep:Nat} {g:Tg} {hs:List Nat} {ob:List Prop}
theorem c9h {a:Addr} (hk:k < xs.size) (hn:nth xs k= .ref a):∀q∈obT xs k a,q:=a0d (by exact Int.natCast_nonneg _) (a0d (by exact Int.ofNat_lt.mpr (by assumption)) (a0d hn a0e))
theorem b2l.use (h:b2l w K hs Q fo fo' k ti xs ep g ob) (RR:a4i w none Mn) (N:Now w L0 s0 M s) (hp:M.Perm (tuL w.params K.F fo Q K.T k ti xs ep g K.X++R)) (hf:∀tk,GF w.params K.T (fo' tk)) (hk:k < xs.size) (hn:nth xs k= .ref g.a) (hob:∀q∈ob,q)
  (hno:∀fo' s',GF w.params K.T fo'→s'.gens=s.gens→Now w L0 s0 (tuL w.params K.F fo' Q K.T (k + 1) 0 xs ep g K.X++R) s'→Mn (K.C Q) [] (den (K.C Q)) s'):Mn (K.C Q) [] (den (K.C Q)) s:=by
 refine a8l a1a RR N hp a3u hs (fun _ _=>K.C Q) _ _ h.ev (fun _ _=>d6t hob (c9h hk hn)) (fun _ _=>rfl) fun fr tk s' hg N'=>?_
 refine hno (fo' tk) s' (hf tk) hg ?_
 unfold tuL
 unfold e3v at N'
 have:((k:Int) + 1)=((k + 1:Nat):Int):=by simp +arith
 rw [←this];exact N'
theorem a6y.use (h:a6y w K hs Q fo fo' k ti xs ep g ob) (RR:a4i w none Mn) (N:Now w L0 s0 M s) (hp:M.Perm (tuL w.params K.F fo Q K.T k ti xs ep g K.X++R)) (hf:∀tk,GF w.params K.T (fo' tk)) (hk:k < xs.size) (hn:nth xs k= .ref g.a) (hob:∀q∈ob,q)
  (hyes:∀fo' s' l kk,GF w.params K.T fo'→KOk w (K.C Q) kk→s'.gens=s.gens→Now w L0 s0 (tuL w.params K.F fo' Q K.T (k + 1) 0 xs ep g K.X++R) s'→Mn (K.C Q) [] (.yield (.ref g.a) false l kk) s'):Mn (K.C Q) [] (den (K.C Q)) s:=by
 refine c6c a1a RR N hp a3u hs (K.C Q) (fun _ _=>.ref g.a) _ _ h.ev (fun _ _=>d6t hob (c9h hk hn)) fun fr tk o ho s' hg N'=>?_
 have hkk:=h.kk fr tk
 rw [←ho] at hkk
 refine hyes (fo' tk) s' _ _ (hf tk) hkk hg ?_
 unfold tuL
 unfold e3v at N'
 have:((k:Int) + 1)=((k + 1:Nat):Int):=by omega
 rw [←this];exact N'
end
noncomputable abbrev foN (P:Params) (t:Nat→Tok) (T:Addr) (a:Addr) (v:Value):(Nat→Tok)→Obj:=fun tk=>fob P (b4j (a0q (a0q t 2 (Nat.succ (tk 1))) 3 (Nat.succ (tk 3))) T a v) 4
noncomputable abbrev foO (P:Params) (t:Nat→Tok) (T:Addr) (a:Addr) (v:Value):(Nat→Tok)→Obj:=fun tk=>fob P (b4j t T a v) 4
section
variable {sel cd F T a b Q ga gd:Addr} {t:Nat→Tok} {k:Nat} {ti:Tok} {xs:Array Value} {ep:Nat} {x:Int} {tx t1 t2 tp:Tok} {p:Str} {e0:Addr} {v0:Value}
noncomputable abbrev ob2 (p:Str) (q:Prop):List Prop:=[q,0≤(0:Int),(0:Int) < p.length,p.length≤1000000]
theorem e2f:b2l (W w b1 b2) (sk2 sel cd F T a b) h2n Q (fob (W w b1 b2).params (a7f t T) 2) (foN (W w b1 b2).params t T ga .none) k ti xs ep ⟨ga,gd,.none,x,tx,t1,t2⟩ []:=⟨fun fr tk=>by kernel_rfl⟩
theorem d5h:b2l (W w b1 b2) (sk2 sel cd F T a b) h2n Q (fob (W w b1 b2).params (b4j t T e0 v0) 4) (foO (W w b1 b2).params t T ga .none) k ti xs ep ⟨ga,gd,.none,x,tx,t1,t2⟩ []:=⟨fun fr tk=>by exact bcs b1 (by kernel_rfl) (by kernel_rfl)⟩
theorem f5b:b2l (W w b1 b2) (sk2 sel cd F T a b) (h2s 0) Q (fob (W w b1 b2).params (a7f t T) 2) (foN (W w b1 b2).params t T ga (.str p tp)) k ti xs ep ⟨ga,gd,.str p tp,x,tx,t1,t2⟩ (ob2 p (¬(⟨⟨[p.cps.toList.getD 0 0]⟩⟩:Str)≠lz2)):=⟨fun fr tk=>by exact bcs b1 (by kernel_rfl) (by kernel_rfl)⟩
theorem e8u:b2l (W w b1 b2) (sk2 sel cd F T a b) (h2s 0) Q (fob (W w b1 b2).params (b4j t T e0 v0) 4) (foO (W w b1 b2).params t T ga (.str p tp)) k ti xs ep ⟨ga,gd,.str p tp,x,tx,t1,t2⟩ (ob2 p (¬(⟨⟨[p.cps.toList.getD 0 0]⟩⟩:Str)≠lz2)):=⟨fun fr tk=>by exact bcs b1 (by kernel_rfl) (by kernel_rfl)⟩
theorem e6f:a6y (W w b1 b2) (sk2 sel cd F T a b) (h2s 1) Q (fob (W w b1 b2).params (a7f t T) 2) (foN (W w b1 b2).params t T ga (.str p tp)) k ti xs ep ⟨ga,gd,.str p tp,x,tx,t1,t2⟩ (ob2 p ((⟨⟨[p.cps.toList.getD 0 0]⟩⟩:Str)≠lz2)):=⟨fun fr tk=>by exact bcs b1 (by kernel_rfl) (by kernel_rfl),fun fr tk fr' tk'=>by exact bcs b1 (by kernel_rfl) (by kernel_rfl)⟩
theorem d8y:a6y (W w b1 b2) (sk2 sel cd F T a b) (h2s 1) Q (fob (W w b1 b2).params (b4j t T e0 v0) 4) (foO (W w b1 b2).params t T ga (.str p tp)) k ti xs ep ⟨ga,gd,.str p tp,x,tx,t1,t2⟩ (ob2 p ((⟨⟨[p.cps.toList.getD 0 0]⟩⟩:Str)≠lz2)):=⟨fun fr tk=>by exact bcs b1 (by kernel_rfl) (by kernel_rfl),fun fr tk fr' tk'=>by exact bcs b1 (by kernel_rfl) (by kernel_rfl)⟩
theorem e8v:a5w (W w b1 b2) (sk2 sel cd F T a b):=by
 intro L0 M R s0 s Mn RR Q fo k ti xs ep g N hp hfo hok hk hn hno hyes
 obtain ⟨ga,gd,v,x,tx,t1,t2⟩:=g
 have gN:∀t v tk,GF (W w b1 b2).params T (foN (W w b1 b2).params t T ga v tk):=fun t v tk=>.inr ⟨_,_,_,rfl⟩
 have gO:∀t v tk,GF (W w b1 b2).params T (foO (W w b1 b2).params t T ga v tk):=fun t v tk=>.inr ⟨_,_,_,rfl⟩
 rcases hok with hv | ⟨p,tp,hv,hp0,hp1⟩
 ·simp only at hv
  subst hv
  rcases hfo with ⟨t,rfl⟩ | ⟨t,e0,v0,rfl⟩
  ·exact e2f.use RR N hp (gN _ _) hk hn a0e (hno rfl)
  ·exact d5h.use RR N hp (gO _ _) hk hn a0e (hno rfl)
 ·simp only at hv
  subst hv
  by_cases hc:(⟨⟨[p.cps.toList.getD 0 0]⟩⟩:Str)≠lz2
  ·have hb:∀q∈ob2 p ((⟨⟨[p.cps.toList.getD 0 0]⟩⟩:Str)≠lz2),q:=a0d hc (a0d (by exact Int.natCast_nonneg _) (a0d (by exact Int.ofNat_lt.mpr (by assumption)) (a0d hp1 a0e)))
   have hpk:pk2 (.str p tp)=true:=decide_eq_true hc
   rcases hfo with ⟨t,rfl⟩ | ⟨t,e0,v0,rfl⟩
   ·exact e6f.use RR N hp (gN _ _) hk hn hb (hyes hpk)
   ·exact d8y.use RR N hp (gO _ _) hk hn hb (hyes hpk)
  ·have hb:∀q∈ob2 p (¬(⟨⟨[p.cps.toList.getD 0 0]⟩⟩:Str)≠lz2),q:=a0d hc (a0d (by omega) (a0d (by omega) (a0d hp1 a0e)))
   have hpk:pk2 (.str p tp)=false:=decide_eq_false hc
   rcases hfo with ⟨t,rfl⟩ | ⟨t,e0,v0,rfl⟩
   ·exact f5b.use RR N hp (gN _ _) hk hn hb (hno hpk)
   ·exact e8u.use RR N hp (gO _ _) hk hn hb (hno hpk)
end
end
noncomputable def a4c (p:Str) (l u:Option Int) (ss:Str):Bool:=if a2n p l u=true then decide (p=ss) else decide (a1l p l u=ss)
noncomputable def pk3 (nn ss:Str) (kk:Int):Value→Bool
 | .str p _=>decide (p=nn) || a4c p (some kk) none ss
 | _=>false
noncomputable def pk4 (ss:Str) (kk:Int):Value→Bool
 | .str p _=>a4c p none (some kk) ss
 | _=>false
noncomputable def c6p (kk:Int) (v:Value):Prop:=v= .none∨Ey2 fun p t=>v= .str p t∧(a1l p (some kk) none).length≤1000000
noncomputable def c5c (kk:Int) (v:Value):Prop:=v= .none∨Ey2 fun p t=>v= .str p t∧(a1l p none (some kk)).length≤1000000
noncomputable def sk3 (sel cd F T a b n z g SL:Addr) (nn ss:Str) (kk:Int) (u1 u2 u3:Tok):Sk:=⟨a5z,sel,cd,F,T,cl3 a b n z g,[(a,a0v (.builtin "isinstance")),(b,a0v (.type "str")),(n,a0v (.ref SL)),(z,a0v (.str ss u2)),(g,a0v (.str nn u3)),(SL,a9p (.int kk u1) .none)],pk3 nn ss kk,c6p kk⟩
noncomputable def sk4 (sel cd F T a b n z SL:Addr) (ss:Str) (kk:Int) (u1 u2:Tok):Sk:=⟨a6f,sel,cd,F,T,cl4 a b z n,[(a,a0v (.builtin "isinstance")),(b,a0v (.type "str")),(n,a0v (.ref SL)),(z,a0v (.str ss u2)),(SL,a9p .none (.int kk u1))],pk4 ss kk,c5c kk⟩
section
variable {w:World} {b1 b2:Bool} {sel cd F T a b n z gg SL Q ga gd:Addr} {nn ss:Str} {kk:Int} {u1 u2 u3:Tok} {t:Nat→Tok} {k:Nat} {ti:Tok} {xs:Array Value} {ep:Nat} {x:Int} {tx t1 t2 tp:Tok} {p:Str} {e0:Addr} {v0:Value}
theorem e0z:b2l (W w b1 b2) (sk3 sel cd F T a b n z gg SL nn ss kk u1 u2 u3) [2,1,2,1,7,1,0,1,4,0,0,0,4,0,0,0,4,4,0,5,1,0,1,10,6,1,7] Q (fob (W w b1 b2).params (a7f t T) 2) (foN (W w b1 b2).params t T ga .none) k ti xs ep ⟨ga,gd,.none,x,tx,t1,t2⟩ []:=⟨fun fr tk=>by exact bcs b1 (by kernel_rfl) (by kernel_rfl)⟩
theorem d0v:b2l (W w b1 b2) (sk3 sel cd F T a b n z gg SL nn ss kk u1 u2 u3) [2,1,2,1,7,1,0,1,4,0,0,0,4,0,0,0,4,4,0,5,1,0,1,10,6,1,7] Q (fob (W w b1 b2).params (b4j t T e0 v0) 4) (foO (W w b1 b2).params t T ga .none) k ti xs ep ⟨ga,gd,.none,x,tx,t1,t2⟩ []:=⟨fun fr tk=>by exact bcs b1 (by kernel_rfl) (by kernel_rfl)⟩
theorem f3v:a6y (W w b1 b2) (sk3 sel cd F T a b n z gg SL nn ss kk u1 u2 u3) [2,1,2,1,7,1,0,1,4,0,0,0,4,0,0,0,4,4,0,5,1,0,1,10,1,1] Q (fob (W w b1 b2).params (a7f t T) 2) (foN (W w b1 b2).params t T ga (.str p tp)) k ti xs ep ⟨ga,gd,(.str p tp),x,tx,t1,t2⟩ [p=nn]:=⟨fun fr tk=>by exact bcs b1 (by kernel_rfl) (by kernel_rfl),fun fr tk fr' tk'=>by exact bcs b1 (by kernel_rfl) (by kernel_rfl)⟩
theorem e4z:a6y (W w b1 b2) (sk3 sel cd F T a b n z gg SL nn ss kk u1 u2 u3) [2,1,2,1,7,1,0,1,4,0,0,0,4,0,0,0,4,4,0,5,1,0,1,10,1,1] Q (fob (W w b1 b2).params (b4j t T e0 v0) 4) (foO (W w b1 b2).params t T ga (.str p tp)) k ti xs ep ⟨ga,gd,(.str p tp),x,tx,t1,t2⟩ [p=nn]:=⟨fun fr tk=>by exact bcs b1 (by kernel_rfl) (by kernel_rfl),fun fr tk fr' tk'=>by exact bcs b1 (by kernel_rfl) (by kernel_rfl)⟩
theorem e6w:b2l (W w b1 b2) (sk3 sel cd F T a b n z gg SL nn ss kk u1 u2 u3) [2,1,2,1,7,1,0,1,4,0,0,0,4,0,0,0,4,4,0,5,1,0,1,10,0,6,1,7,1,8,10,0,9,0] Q (fob (W w b1 b2).params (a7f t T) 2) (foN (W w b1 b2).params t T ga (.str p tp)) k ti xs ep ⟨ga,gd,(.str p tp),x,tx,t1,t2⟩ [¬(a1l p (some kk) none)=ss,a2n p (some kk) none=false,(a1l p (some kk) none).length≤1000000,¬p=nn]:=⟨fun fr tk=>by exact bcs b1 (by kernel_rfl) (by kernel_rfl)⟩
theorem e2a:b2l (W w b1 b2) (sk3 sel cd F T a b n z gg SL nn ss kk u1 u2 u3) [2,1,2,1,7,1,0,1,4,0,0,0,4,0,0,0,4,4,0,5,1,0,1,10,0,6,1,7,1,8,10,0,9,0] Q (fob (W w b1 b2).params (b4j t T e0 v0) 4) (foO (W w b1 b2).params t T ga (.str p tp)) k ti xs ep ⟨ga,gd,(.str p tp),x,tx,t1,t2⟩ [¬(a1l p (some kk) none)=ss,a2n p (some kk) none=false,(a1l p (some kk) none).length≤1000000,¬p=nn]:=⟨fun fr tk=>by exact bcs b1 (by kernel_rfl) (by kernel_rfl)⟩
theorem f0f:a6y (W w b1 b2) (sk3 sel cd F T a b n z gg SL nn ss kk u1 u2 u3) [2,1,2,1,7,1,0,1,4,0,0,0,4,0,0,0,4,4,0,5,1,0,1,10,0,6,1,7,1,8,10,0,9,1,1] Q (fob (W w b1 b2).params (a7f t T) 2) (foN (W w b1 b2).params t T ga (.str p tp)) k ti xs ep ⟨ga,gd,(.str p tp),x,tx,t1,t2⟩ [(a1l p (some kk) none)=ss,a2n p (some kk) none=false,(a1l p (some kk) none).length≤1000000,¬p=nn]:=⟨fun fr tk=>by exact bcs b1 (by kernel_rfl) (by kernel_rfl),fun fr tk fr' tk'=>by exact bcs b1 (by kernel_rfl) (by kernel_rfl)⟩
theorem e3h:a6y (W w b1 b2) (sk3 sel cd F T a b n z gg SL nn ss kk u1 u2 u3) [2,1,2,1,7,1,0,1,4,0,0,0,4,0,0,0,4,4,0,5,1,0,1,10,0,6,1,7,1,8,10,0,9,1,1] Q (fob (W w b1 b2).params (b4j t T e0 v0) 4) (foO (W w b1 b2).params t T ga (.str p tp)) k ti xs ep ⟨ga,gd,(.str p tp),x,tx,t1,t2⟩ [(a1l p (some kk) none)=ss,a2n p (some kk) none=false,(a1l p (some kk) none).length≤1000000,¬p=nn]:=⟨fun fr tk=>by exact bcs b1 (by kernel_rfl) (by kernel_rfl),fun fr tk fr' tk'=>by exact bcs b1 (by kernel_rfl) (by kernel_rfl)⟩
theorem e7p:b2l (W w b1 b2) (sk3 sel cd F T a b n z gg SL nn ss kk u1 u2 u3) [2,1,2,1,7,1,0,1,4,0,0,0,4,0,0,0,4,4,0,5,1,0,1,10,0,6,1,7,1,8,10,1,9,0] Q (fob (W w b1 b2).params (a7f t T) 2) (foN (W w b1 b2).params t T ga (.str p tp)) k ti xs ep ⟨ga,gd,(.str p tp),x,tx,t1,t2⟩ [¬p=ss,a2n p (some kk) none=true,¬p=nn]:=⟨fun fr tk=>by exact bcs b1 (by kernel_rfl) (by kernel_rfl)⟩
theorem e2t:b2l (W w b1 b2) (sk3 sel cd F T a b n z gg SL nn ss kk u1 u2 u3) [2,1,2,1,7,1,0,1,4,0,0,0,4,0,0,0,4,4,0,5,1,0,1,10,0,6,1,7,1,8,10,1,9,0] Q (fob (W w b1 b2).params (b4j t T e0 v0) 4) (foO (W w b1 b2).params t T ga (.str p tp)) k ti xs ep ⟨ga,gd,(.str p tp),x,tx,t1,t2⟩ [¬p=ss,a2n p (some kk) none=true,¬p=nn]:=⟨fun fr tk=>by exact bcs b1 (by kernel_rfl) (by kernel_rfl)⟩
theorem e9f:a6y (W w b1 b2) (sk3 sel cd F T a b n z gg SL nn ss kk u1 u2 u3) [2,1,2,1,7,1,0,1,4,0,0,0,4,0,0,0,4,4,0,5,1,0,1,10,0,6,1,7,1,8,10,1,9,1,1] Q (fob (W w b1 b2).params (a7f t T) 2) (foN (W w b1 b2).params t T ga (.str p tp)) k ti xs ep ⟨ga,gd,(.str p tp),x,tx,t1,t2⟩ [p=ss,a2n p (some kk) none=true,¬p=nn]:=⟨fun fr tk=>by exact bcs b1 (by kernel_rfl) (by kernel_rfl),fun fr tk fr' tk'=>by exact bcs b1 (by kernel_rfl) (by kernel_rfl)⟩
theorem e1v:a6y (W w b1 b2) (sk3 sel cd F T a b n z gg SL nn ss kk u1 u2 u3) [2,1,2,1,7,1,0,1,4,0,0,0,4,0,0,0,4,4,0,5,1,0,1,10,0,6,1,7,1,8,10,1,9,1,1] Q (fob (W w b1 b2).params (b4j t T e0 v0) 4) (foO (W w b1 b2).params t T ga (.str p tp)) k ti xs ep ⟨ga,gd,(.str p tp),x,tx,t1,t2⟩ [p=ss,a2n p (some kk) none=true,¬p=nn]:=⟨fun fr tk=>by exact bcs b1 (by kernel_rfl) (by kernel_rfl),fun fr tk fr' tk'=>by exact bcs b1 (by kernel_rfl) (by kernel_rfl)⟩
theorem e2m:b2l (W w b1 b2) (sk4 sel cd F T a b n z SL ss kk u1 u2) [2,1,2,1,7,1,0,1,4,0,0,0,4,0,0,0,4,4,0,5,1,0,6,1,7] Q (fob (W w b1 b2).params (a7f t T) 2) (foN (W w b1 b2).params t T ga .none) k ti xs ep ⟨ga,gd,.none,x,tx,t1,t2⟩ []:=⟨fun fr tk=>by kernel_rfl⟩
theorem d1m:b2l (W w b1 b2) (sk4 sel cd F T a b n z SL ss kk u1 u2) [2,1,2,1,7,1,0,1,4,0,0,0,4,0,0,0,4,4,0,5,1,0,6,1,7] Q (fob (W w b1 b2).params (b4j t T e0 v0) 4) (foO (W w b1 b2).params t T ga .none) k ti xs ep ⟨ga,gd,.none,x,tx,t1,t2⟩ []:=⟨fun fr tk=>by exact bcs b1 (by kernel_rfl) (by kernel_rfl)⟩
theorem e8j:b2l (W w b1 b2) (sk4 sel cd F T a b n z SL ss kk u1 u2) [2,1,2,1,7,1,0,1,4,0,0,0,4,0,0,0,4,4,0,5,1,0,6,1,7,1,8,9,0,9,0] Q (fob (W w b1 b2).params (a7f t T) 2) (foN (W w b1 b2).params t T ga (.str p tp)) k ti xs ep ⟨ga,gd,(.str p tp),x,tx,t1,t2⟩ [¬(a1l p none (some kk))=ss,a2n p none (some kk)=false,(a1l p none (some kk)).length≤1000000]:=⟨fun fr tk=>by exact bcs b1 (by kernel_rfl) (by kernel_rfl)⟩
theorem d9d:b2l (W w b1 b2) (sk4 sel cd F T a b n z SL ss kk u1 u2) [2,1,2,1,7,1,0,1,4,0,0,0,4,0,0,0,4,4,0,5,1,0,6,1,7,1,8,9,0,9,0] Q (fob (W w b1 b2).params (b4j t T e0 v0) 4) (foO (W w b1 b2).params t T ga (.str p tp)) k ti xs ep ⟨ga,gd,(.str p tp),x,tx,t1,t2⟩ [¬(a1l p none (some kk))=ss,a2n p none (some kk)=false,(a1l p none (some kk)).length≤1000000]:=⟨fun fr tk=>by exact bcs b1 (by kernel_rfl) (by kernel_rfl)⟩
theorem e6d:a6y (W w b1 b2) (sk4 sel cd F T a b n z SL ss kk u1 u2) [2,1,2,1,7,1,0,1,4,0,0,0,4,0,0,0,4,4,0,5,1,0,6,1,7,1,8,9,0,9,1,1] Q (fob (W w b1 b2).params (a7f t T) 2) (foN (W w b1 b2).params t T ga (.str p tp)) k ti xs ep ⟨ga,gd,(.str p tp),x,tx,t1,t2⟩ [(a1l p none (some kk))=ss,a2n p none (some kk)=false,(a1l p none (some kk)).length≤1000000]:=⟨fun fr tk=>by exact bcs b1 (by kernel_rfl) (by kernel_rfl),fun fr tk fr' tk'=>by exact bcs b1 (by kernel_rfl) (by kernel_rfl)⟩
theorem d7h:a6y (W w b1 b2) (sk4 sel cd F T a b n z SL ss kk u1 u2) [2,1,2,1,7,1,0,1,4,0,0,0,4,0,0,0,4,4,0,5,1,0,6,1,7,1,8,9,0,9,1,1] Q (fob (W w b1 b2).params (b4j t T e0 v0) 4) (foO (W w b1 b2).params t T ga (.str p tp)) k ti xs ep ⟨ga,gd,(.str p tp),x,tx,t1,t2⟩ [(a1l p none (some kk))=ss,a2n p none (some kk)=false,(a1l p none (some kk)).length≤1000000]:=⟨fun fr tk=>by exact bcs b1 (by kernel_rfl) (by kernel_rfl),fun fr tk fr' tk'=>by exact bcs b1 (by kernel_rfl) (by kernel_rfl)⟩
theorem e9p:b2l (W w b1 b2) (sk4 sel cd F T a b n z SL ss kk u1 u2) [2,1,2,1,7,1,0,1,4,0,0,0,4,0,0,0,4,4,0,5,1,0,6,1,7,1,8,9,1,9,0] Q (fob (W w b1 b2).params (a7f t T) 2) (foN (W w b1 b2).params t T ga (.str p tp)) k ti xs ep ⟨ga,gd,(.str p tp),x,tx,t1,t2⟩ [¬p=ss,a2n p none (some kk)=true]:=⟨fun fr tk=>by exact bcs b1 (by kernel_rfl) (by kernel_rfl)⟩
theorem d6y:b2l (W w b1 b2) (sk4 sel cd F T a b n z SL ss kk u1 u2) [2,1,2,1,7,1,0,1,4,0,0,0,4,0,0,0,4,4,0,5,1,0,6,1,7,1,8,9,1,9,0] Q (fob (W w b1 b2).params (b4j t T e0 v0) 4) (foO (W w b1 b2).params t T ga (.str p tp)) k ti xs ep ⟨ga,gd,(.str p tp),x,tx,t1,t2⟩ [¬p=ss,a2n p none (some kk)=true]:=⟨fun fr tk=>by exact bcs b1 (by kernel_rfl) (by kernel_rfl)⟩
theorem e9n:a6y (W w b1 b2) (sk4 sel cd F T a b n z SL ss kk u1 u2) [2,1,2,1,7,1,0,1,4,0,0,0,4,0,0,0,4,4,0,5,1,0,6,1,7,1,8,9,1,9,1,1] Q (fob (W w b1 b2).params (a7f t T) 2) (foN (W w b1 b2).params t T ga (.str p tp)) k ti xs ep ⟨ga,gd,(.str p tp),x,tx,t1,t2⟩ [p=ss,a2n p none (some kk)=true]:=⟨fun fr tk=>by exact bcs b1 (by kernel_rfl) (by kernel_rfl),fun fr tk fr' tk'=>by exact bcs b1 (by kernel_rfl) (by kernel_rfl)⟩
theorem d7t:a6y (W w b1 b2) (sk4 sel cd F T a b n z SL ss kk u1 u2) [2,1,2,1,7,1,0,1,4,0,0,0,4,0,0,0,4,4,0,5,1,0,6,1,7,1,8,9,1,9,1,1] Q (fob (W w b1 b2).params (b4j t T e0 v0) 4) (foO (W w b1 b2).params t T ga (.str p tp)) k ti xs ep ⟨ga,gd,(.str p tp),x,tx,t1,t2⟩ [p=ss,a2n p none (some kk)=true]:=⟨fun fr tk=>by exact bcs b1 (by kernel_rfl) (by kernel_rfl),fun fr tk fr' tk'=>by exact bcs b1 (by kernel_rfl) (by kernel_rfl)⟩
theorem b9g:a5w (W w b1 b2) (sk3 sel cd F T a b n z gg SL nn ss kk u1 u2 u3):=by
 intro L0 M R s0 s Mn RR Q fo k ti xs ep g N hp hfo hok hk hn hno hyes
 obtain ⟨ga,gd,v,x,tx,t1,t2⟩:=g
 have gN:∀t v tk,GF (W w b1 b2).params T (foN (W w b1 b2).params t T ga v tk):=fun t v tk=>.inr ⟨_,_,_,rfl⟩
 have gO:∀t v tk,GF (W w b1 b2).params T (foO (W w b1 b2).params t T ga v tk):=fun t v tk=>.inr ⟨_,_,_,rfl⟩
 rcases hok with hv | ⟨p,tp,hv,hp1⟩
 ·simp only at hv
  subst hv
  rcases hfo with ⟨t,rfl⟩ | ⟨t,e0,v0,rfl⟩
  ·exact e0z.use RR N hp (gN _ _) hk hn a0e (hno rfl)
  ·exact d0v.use RR N hp (gO _ _) hk hn a0e (hno rfl)
 ·simp only at hv
  subst hv
  by_cases he:p=nn
  ·have hpk:pk3 nn ss kk (.str p tp)=true:=by show (decide (p=nn) || _)=true;rw [decide_eq_true he,Bool.true_or]
   rcases hfo with ⟨t,rfl⟩ | ⟨t,e0,v0,rfl⟩
   ·exact f3v.use RR N hp (gN _ _) hk hn (a0d he a0e) (hyes hpk)
   ·exact e4z.use RR N hp (gO _ _) hk hn (a0d he a0e) (hyes hpk)
  have hpk:pk3 nn ss kk (.str p tp)=a4c p (some kk) none ss:=by show (decide (p=nn) || _)=_;rw [decide_eq_false he,Bool.false_or]
  by_cases hw:a2n p (some kk) none=true
  ·by_cases hc:p=ss
   ·have hpk':a4c p (some kk) none ss=true:=by unfold a4c;rw [if_pos hw];exact decide_eq_true hc
    rcases hfo with ⟨t,rfl⟩ | ⟨t,e0,v0,rfl⟩
    ·exact e9f.use RR N hp (gN _ _) hk hn (a0d hc (a0d hw (a0d he a0e))) (hyes (hpk.trans hpk'))
    ·exact e1v.use RR N hp (gO _ _) hk hn (a0d hc (a0d hw (a0d he a0e))) (hyes (hpk.trans hpk'))
   ·have hpk':a4c p (some kk) none ss=false:=by unfold a4c;rw [if_pos hw];exact decide_eq_false hc
    rcases hfo with ⟨t,rfl⟩ | ⟨t,e0,v0,rfl⟩
    ·exact e7p.use RR N hp (gN _ _) hk hn (a0d hc (a0d hw (a0d he a0e))) (hno (hpk.trans hpk'))
    ·exact e2t.use RR N hp (gO _ _) hk hn (a0d hc (a0d hw (a0d he a0e))) (hno (hpk.trans hpk'))
  ·have hw':a2n p (some kk) none=false:=by simpa using hw
   by_cases hc:(a1l p (some kk) none)=ss
   ·have hpk':a4c p (some kk) none ss=true:=by unfold a4c;rw [if_neg hw];exact decide_eq_true hc
    rcases hfo with ⟨t,rfl⟩ | ⟨t,e0,v0,rfl⟩
    ·exact f0f.use RR N hp (gN _ _) hk hn (a0d hc (a0d hw' (a0d hp1 (a0d he a0e)))) (hyes (hpk.trans hpk'))
    ·exact e3h.use RR N hp (gO _ _) hk hn (a0d hc (a0d hw' (a0d hp1 (a0d he a0e)))) (hyes (hpk.trans hpk'))
   ·have hpk':a4c p (some kk) none ss=false:=by unfold a4c;rw [if_neg hw];exact decide_eq_false hc
    rcases hfo with ⟨t,rfl⟩ | ⟨t,e0,v0,rfl⟩
    ·exact e6w.use RR N hp (gN _ _) hk hn (a0d hc (a0d hw' (a0d hp1 (a0d he a0e)))) (hno (hpk.trans hpk'))
    ·exact e2a.use RR N hp (gO _ _) hk hn (a0d hc (a0d hw' (a0d hp1 (a0d he a0e)))) (hno (hpk.trans hpk'))
theorem c0g:a5w (W w b1 b2) (sk4 sel cd F T a b n z SL ss kk u1 u2):=by
 intro L0 M R s0 s Mn RR Q fo k ti xs ep g N hp hfo hok hk hn hno hyes
 obtain ⟨ga,gd,v,x,tx,t1,t2⟩:=g
 have gN:∀t v tk,GF (W w b1 b2).params T (foN (W w b1 b2).params t T ga v tk):=fun t v tk=>.inr ⟨_,_,_,rfl⟩
 have gO:∀t v tk,GF (W w b1 b2).params T (foO (W w b1 b2).params t T ga v tk):=fun t v tk=>.inr ⟨_,_,_,rfl⟩
 rcases hok with hv | ⟨p,tp,hv,hp1⟩
 ·simp only at hv
  subst hv
  rcases hfo with ⟨t,rfl⟩ | ⟨t,e0,v0,rfl⟩
  ·exact e2m.use RR N hp (gN _ _) hk hn a0e (hno rfl)
  ·exact d1m.use RR N hp (gO _ _) hk hn a0e (hno rfl)
 ·simp only at hv
  subst hv
  have hpk:pk4 ss kk (.str p tp)=a4c p none (some kk) ss:=rfl
  by_cases hw:a2n p none (some kk)=true
  ·by_cases hc:p=ss
   ·have hpk':a4c p none (some kk) ss=true:=by unfold a4c;rw [if_pos hw];exact decide_eq_true hc
    rcases hfo with ⟨t,rfl⟩ | ⟨t,e0,v0,rfl⟩
    ·exact e9n.use RR N hp (gN _ _) hk hn (a0d hc (a0d hw a0e)) (hyes (hpk.trans hpk'))
    ·exact d7t.use RR N hp (gO _ _) hk hn (a0d hc (a0d hw a0e)) (hyes (hpk.trans hpk'))
   ·have hpk':a4c p none (some kk) ss=false:=by unfold a4c;rw [if_pos hw];exact decide_eq_false hc
    rcases hfo with ⟨t,rfl⟩ | ⟨t,e0,v0,rfl⟩
    ·exact e9p.use RR N hp (gN _ _) hk hn (a0d hc (a0d hw a0e)) (hno (hpk.trans hpk'))
    ·exact d6y.use RR N hp (gO _ _) hk hn (a0d hc (a0d hw a0e)) (hno (hpk.trans hpk'))
  ·have hw':a2n p none (some kk)=false:=by simpa using hw
   by_cases hc:(a1l p none (some kk))=ss
   ·have hpk':a4c p none (some kk) ss=true:=by unfold a4c;rw [if_neg hw];exact decide_eq_true hc
    rcases hfo with ⟨t,rfl⟩ | ⟨t,e0,v0,rfl⟩
    ·exact e6d.use RR N hp (gN _ _) hk hn (a0d hc (a0d hw' (a0d hp1 a0e))) (hyes (hpk.trans hpk'))
    ·exact d7h.use RR N hp (gO _ _) hk hn (a0d hc (a0d hw' (a0d hp1 a0e))) (hyes (hpk.trans hpk'))
   ·have hpk':a4c p none (some kk) ss=false:=by unfold a4c;rw [if_neg hw];exact decide_eq_false hc
    rcases hfo with ⟨t,rfl⟩ | ⟨t,e0,v0,rfl⟩
    ·exact e8j.use RR N hp (gN _ _) hk hn (a0d hc (a0d hw' (a0d hp1 a0e))) (hno (hpk.trans hpk'))
    ·exact d9d.use RR N hp (gO _ _) hk hn (a0d hc (a0d hw' (a0d hp1 a0e))) (hno (hpk.trans hpk'))
end
noncomputable def TL (P:Params) (gs:List Tg):Led:=gs.flatMap (Tg.led P)
noncomputable def tgr (gs:List Tg):Array Value:=⟨gs.map fun g=>.ref g.a⟩
theorem a6l (gs:List Tg):(tgr gs).size=gs.length:=by simp [tgr]
theorem c0h {P:Params}:∀{gs:List Tg} {k:Nat} {g:Tg},gs[k]?=some g→(TL P gs).Perm (g.led P++TL P (gs.eraseIdx k))
 | [],k,g,h=>by simp at h
 | g0::gs,0,g,h=>by
  simp only [List.getElem?_cons_zero,Option.some.injEq] at h
  subst h
  exact .refl _
 | g0::gs,k + 1,g,h=>by
  have ih:=c0h (P:=P) (gs:=gs) (k:=k) (g:=g) (by simpa using h)
  show (g0.led P++TL P gs).Perm (g.led P++(g0.led P++TL P (gs.eraseIdx k)))
  refine (ih.append_left (g0.led P)).trans ?_
  rw [←List.append_assoc,←List.append_assoc]
  exact List.Perm.append_right _ List.perm_append_comm
structure BOk (B:List Frame):Prop where
 plain:b2z B
 guard:B.any Frame.guarded=false
 split:splitAtGen B=none
section
variable {w:World} {K:Sk} {A:Around} {B:List Frame} {P:End→Shared→Prop} {L0 R:Led} {s0:Shared} {gs:List Tg} {ep:Nat} {Q:Addr}
noncomputable abbrev e4q (w:World) (K:Sk) (fo:Obj) (Q:Addr) (k:Nat) (ti:Tok) (gs:List Tg) (ep:Nat):Led:=[(K.F,fo),(Q,a0z (.ref K.T) k ti),(K.T,a0a (tgr gs) ep)]++K.X++TL w.params gs
theorem a9c {fo:Obj} {k:Nat} {ti:Tok} {g:Tg} (hg:gs[k]?=some g) {j:Nat}:(e4q w K fo Q j ti gs ep++R).Perm ([(K.F,fo),(Q,a0z (.ref K.T) j ti),(K.T,a0a (tgr gs) ep)]++g.led w.params++K.X++(TL w.params (gs.eraseIdx k)++R)):=by
 have h:=c0h (P:=w.params) hg
 refine a0h fun q=>?_
 have:=a1s h q
 simp only [a0o,a0f,a0s] at this ⊢
 omega
theorem d9h (hT:a5w w K) (hh:A.handled=none) (hB:BOk B) (hd:A.depth + frameCount (B.map Frame.where_)≤690) (hok:∀g∈gs,K.okv g.tag) (G0:Array GenState):
  ∀n k,n + k=gs.length→∀fo ti s,GF w.params K.T fo→s.gens=G0→Now w L0 s0 (e4q w K fo Q k ti gs ep++R) s→
  (∀m g,gs[m]?=some g→(gs.drop k).filter (fun g=>K.pk g.tag)=g::(gs.drop (m + 1)).filter (fun g=>K.pk g.tag)→∀fo' s' l kk p,GF w.params K.T fo'→KOk w (K.C Q) kk→s'.gens=G0→
   Now w L0 s0 (e4q w K fo' Q (m + 1) 0 gs ep++R) s'→P (.susp (.ref g.a) false l kk (K.C Q) p B) s')→
  ((gs.drop k).filter (fun g=>K.pk g.tag)=[]→∀s',s'.gens=G0→Now w L0 s0 ((K.T,a0a (tgr gs) ep)::TL w.params gs++R) s'→∀C,c3y w A B P C [] (.pure (.done .next)) s')→
  c3y w A B P (K.C Q) [] (den (K.C Q)) s:=by
 intro n
 induction n with
 | zero=>
  intro k hk fo ti s hfo hg N hY hE
  have RR:a4i w none (c3y w A B P):=a4x hh hB.plain hd
  have hdrop:gs.drop k=[]:=List.drop_of_length_le (by omega)
  refine b1s a1a RR N (L:=[(Q,a0z (.ref K.T) k ti),(K.T,a0a (tgr gs) ep)]) (F:=[(K.F,fo)]++K.X++TL w.params gs++R) (a0h fun q=>by simp +arith only [a0o,a0f,a0s]) a3u [1,0,1,0,0,4] (fun _ _=>.ok .next)
   (fun fr tk=>[(Q,a7t (a0z (.ref K.T) k ti) [.none,.int k ti]),(K.T,a0a (tgr gs) ep),(fr 0,a9u),(fr 1,a5r (fr 0))]) (fun _ _=>[0≤(k:Int),((tgr gs).size:Int)≤(k:Int)]) (fun fr tk=>?_) (fun _ _=>a0d (by exact Int.natCast_nonneg _) (a0d (by rw [a6l];omega) a0e)) (fun fr tk s' hs' N' C=>?_)
  ·kernel_rfl
  ·refine hE (by rw [hdrop];rfl) s' (hs'.trans hg) (N'.part (a0c fun q=>?_)) C
   exact lu [[_],_,_,[_],[_],[_],[_],_] [2,3,0,4,0] [5,2,6,7,0,0,0,8,9,0,3,0,4,0,0] rfl
 | succ n ih=>
  intro k hk fo ti s hfo hg N hY hE
  have RR:a4i w none (c3y w A B P):=a4x hh hB.plain hd
  obtain ⟨g,hgk⟩:∃g,gs[k]?=some g:=⟨_,List.getElem?_eq_getElem (by exact a9q hk)⟩
  have hdr:gs.drop k=g::gs.drop (k + 1):=by
   obtain ⟨hk',rfl⟩:=List.getElem?_eq_some_iff.mp hgk
   exact List.drop_eq_getElem_cons hk'
  have hnth:nth (tgr gs) (k:Int)= .ref g.a:=a7p (f:=fun g:Tg=>.ref g.a) hgk
  refine hT RR g N (a9c hgk) hfo (hok g (List.mem_of_getElem? hgk)) (by rw [a6l];omega) hnth (fun hpk fo' s' hfo' hs' N'=>?_) (fun hpk fo' s' l kk hfo' hkk hs' N'=>?_)
  ·have hfil:(gs.drop k).filter (fun g=>K.pk g.tag)=(gs.drop (k + 1)).filter (fun g=>K.pk g.tag):=by rw [hdr,List.filter_cons,if_neg (by rw [hpk];exact Bool.false_ne_true)]
   exact ih (k + 1) (by exact sk1 hk) fo' 0 s' hfo' (hs'.trans hg) (N'.part (.of_perm (a9c hgk).symm)) (fun m g' hm hf=>hY m g' hm (hfil.trans hf)) (fun hf=>hE (hfil.trans hf))
  ·intro Fs hFs
   have:Fs=[]:=hFs
   subst this
   refine s_yield prog w A (K.C Q) ([]++B) P s' (.ref g.a) l kk hB.split hB.guard fun p=>?_
   exact hY k g hgk (by rw [hdr,List.filter_cons,if_pos hpk]) fo' s' l kk p hfo' hkk (hs'.trans hg) (N'.part (.of_perm (a9c hgk).symm))
end
theorem Now.alloc {w:World} {L0 L:Led} {s0 s:Shared} (N:Now w L0 s0 L s) (o:Obj) (hf:o.isFreed=false):Now w L0 s0 (L++[(s.heap.objs.size,o)]) { s with heap:=s.heap.push o }:=
 N.on (N.sat.alloc hf) (Ext.alloc o).weak (a0j.alloc o)
noncomputable def f1d (t:Sem PySem.Fin):Bool:=match t with
 | .call _ _ g _ _=>g
 | _=>true
noncomputable def cLs (t:Sem PySem.Fin):List Value:=match t with
 | .call _ _ _ l _=>l
 | _=>[]
theorem c1m {t:Sem PySem.Fin} {c:Code} (h:a6z t=some c) (hg:f1d t=false):t= .call c none false (cLs t) (cont t):=by
 unfold a6z at h
 split at h
 ·rename_i c' hd g l k
  have:g=false:=hg
  subst this
  split at h
  ·cases h;rfl
  ·cases h
 ·cases h
noncomputable def EOk (w:World) (c:Code) (k:Result→Sem PySem.Fin):Prop:=∀fr tk,vw (xr a1a w fr tk [] c [] (k (.ok .next)) [])=wt (xr a1a w fr tk [] c [] (k (.ok .next)) []) (.ok (.ret .none)) [] []
noncomputable abbrev Sk.code (K:Sk):Code:=.func (a1e K.s) (c2j K.s K.sel K.cd K.F K.cells)
noncomputable abbrev hSt:List Nat:=[1,2,2,2,3]
noncomputable abbrev b9b (w:World) (K:Sk) (t:Nat→Tok) (xs:Array Value) (ep:Nat) (fr:Nat→Addr) (tk:Nat→Tok):Out:=xr a1a w fr tk hSt K.code [] (den K.code) [(K.F,fob w.params (a7f t K.T) 2),(K.T,a0a xs ep)]
structure a5y (w:World) (K:Sk):Prop where
 ev:∀t xs ep fr tk,(vc (b9b w K t xs ep fr tk),f1d (b9b w K t xs ep fr tk).t)=(wc (b9b w K t xs ep fr tk) (K.C (fr 0)) 1 0 [(K.F,fob w.params (a7f t K.T) 2),(K.T,a0a xs ep),(fr 0,a0z (.ref K.T) 0 0)] [],false)
 ek:∀t xs ep fr tk,EOk w (b9b w K t xs ep fr tk).c (cont (b9b w K t xs ep fr tk).t)
section
variable {w:World} {b1 b2:Bool} {sel cd F T a b n z gg SL:Addr} {nn ss:Str} {kk:Int} {u1 u2 u3:Tok}
theorem d6s:a5y (W w b1 b2) (sk2 sel cd F T a b):=⟨fun t xs ep fr tk=>by exact bcs b1 (by kernel_rfl) (by kernel_rfl),fun t xs ep fr tk fr' tk'=>by exact bcs b1 (by kernel_rfl) (by kernel_rfl)⟩
theorem b3z:a5y (W w b1 b2) (sk3 sel cd F T a b n z gg SL nn ss kk u1 u2 u3):=⟨fun t xs ep fr tk=>by exact bcs b1 (by kernel_rfl) (by kernel_rfl),fun t xs ep fr tk fr' tk'=>by exact bcs b1 (by kernel_rfl) (by kernel_rfl)⟩
theorem b2y:a5y (W w b1 b2) (sk4 sel cd F T a b n z SL ss kk u1 u2):=⟨fun t xs ep fr tk=>by exact bcs b1 (by kernel_rfl) (by kernel_rfl),fun t xs ep fr tk fr' tk'=>by exact bcs b1 (by kernel_rfl) (by kernel_rfl)⟩
end
noncomputable def b5z (w:World) (K:Sk) (gs:List Tg) (rem:List Tg) (gx:GenState) (GG:Led):Prop:=
 (gx= .fresh K.code∧rem=gs.filter (fun g=>K.pk g.tag)∧∃t,GG=(K.F,fob w.params (a7f t K.T) 2)::K.X)∨
 f1h fun Q kk l p kf l' cf p' k fo=>An8 (gx= .suspended kk l (K.C Q) p [.ret kf none false l' cf p' []] false) (KOk w (K.C Q) kk) (EOk w cf kf) (cf.weight≤1) (k≤gs.length) (rem=(gs.drop k).filter (fun g=>K.pk g.tag)) (GF w.params K.T fo) (GG=[(K.F,fo),(Q,a0z (.ref K.T) k 0)]++K.X)
noncomputable abbrev gob (g:Nat) (v1 v2:Value):Obj:=⟨.type "generator",none,.fields ⟨[.int g 0,v1,v2]⟩,⟨[]⟩⟩
noncomputable abbrev thL (w:World) (T:Addr) (gs:List Tg) (ep:Nat):Led:=(T,a0a (tgr gs) ep)::TL w.params gs
noncomputable def b9n (w:World) (K:Sk) (gs:List Tg) (ep:Nat) (G g:Nat) (v1 v2:Value) (rem:List Tg) (L0:Led) (s0:Shared) (R:Led) (r:Result) (s:Shared):Prop:=match rem with
 | e::rem=>r= .ok (.ret (.ref e.a))∧Ey2 fun gx GG=>An3 (s.gens[g]?=some gx) (b5z w K gs rem gx GG) (Now w L0 s0 ((G,gob g v1 v2)::GG++thL w K.T gs ep++R) s)
 | []=>Ey2 fun x tu=>r= .error (.ref x)∧Now w L0 s0 ([(tu,a9u),(x,a5r tu)]++thL w K.T gs ep++R) s
section
variable {w:World} {K:Sk} {A:Around} {L0 R:Led} {s0 s:Shared} {gs rem:List Tg} {ep:Nat} {G g:Nat} {v1 v2:Value} {gx:GenState} {GG:Led}
theorem f0q {kf:Result→Sem PySem.Fin} {l':List Value} {cf:Code} {p':Pos}:BOk [.ret kf none false l' cf p' []]:=⟨fun f hf=>by rw [List.mem_singleton] at hf;exact ⟨_,_,_,_,_,_,hf⟩,rfl,rfl⟩
theorem d2v {P:End→Shared→Prop} {kf:Result→Sem PySem.Fin} {l':List Value} {cf:Code} {p':Pos} {L:Led} (hh:A.handled=none) (hd:A.depth≤690) (he:EOk w cf kf) (N:Now w L0 s0 L s) (hP:∀s',s'.gens=s.gens→Now w L0 s0 L s'→P (.ret (.ok (.ret .none))) s') (C:Code):
  c3y w A [.ret kf none false l' cf p' []] P C [] (.pure (.done .next)) s:=by
 intro Fs hFs
 have:Fs=[]:=hFs
 subst this
 refine s_pop prog w A C [] P s (.ok .next) _ rfl kf none false l' cf p' [] ?_
 have RR:a4i w none (c3y w A [] P):=a4x hh (fun f hf=>by cases hf) (by simpa [frameCount] using hd)
 have:=b1s (fs:=[]) a1a RR N (L:=[]) (F:=L) (.refl _) a3u [] (fun _ _=>.ok (.ret .none)) (fun _ _=>[]) (fun _ _=>[]) (fun fr tk=>he fr tk) (fun _ _=>a0e) (fun fr tk s' hs' N' C'=>by
  intro Fs hFs
  have:Fs=[]:=hFs
  subst this
  exact s_end prog w A C' P s' (.ok (.ret .none)) _ rfl (hP s' hs' N'))
 exact this [] rfl
end
section
variable {w:World} {K:Sk} {A:Around} {L0 R:Led} {s0 s:Shared} {gs rem:List Tg} {ep:Nat} {G g:Nat} {v1 v2:Value} {gx:GenState} {GG:Led} {P:End→Shared→Prop}
theorem c3v {L:Led} (S:a4s w L s) (h:(G,gob g v1 v2)∈L):s.heap.IsGen G g:=⟨_,v1,v2,S.led _ h,rfl,rfl,rfl⟩
theorem a9y {s:Shared} {gx:GenState} (h:s.gens[g]?=some gx) (y:GenState) {s':Shared} (hs:s'.gens=(s.setGen g .running).gens):(s'.setGen g y).gens[g]?=some y:=by
 refine setGen_self (gs:=.running) ?_
 rw [hs]
 exact setGen_self h
theorem b7j (hT:a5w w K) (hh:A.handled=none) (hd:A.depth≤600) (hok:∀g∈gs,K.okv g.tag) {Q:Addr} {kf:Result→Sem PySem.Fin} {l':List Value} {cf:Code} {p':Pos} {k:Nat} {fo:Obj} {ti:Tok} (hek:EOk w cf kf) (hcw:cf.weight≤1) (hkl:k≤gs.length) (hfo:GF w.params K.T fo)
  (hrem:rem=(gs.drop k).filter (fun g=>K.pk g.tag)) (N:Now w L0 s0 (e4q w K fo Q k ti gs ep++((G,gob g v1 v2)::R)) s)
  (hY:∀e rem' s' en GG',rem=e::rem'→s'.gens=s.gens→en.result= .yielded (.ref e.a)→en.genState.bare=true→b5z w K gs rem' en.genState GG'→Now w L0 s0 ((G,gob g v1 v2)::GG'++thL w K.T gs ep++R) s'→P en s')
  (hE:rem=[]→∀s',s'.gens=s.gens→Now w L0 s0 (thL w K.T gs ep++R) s'→P (.ret (.ok (.ret .none))) s'):c3y w A [.ret kf none false l' cf p' []] P (K.C Q) [] (den (K.C Q)) s:=by
 have hfc:frameCount (([.ret kf none false l' cf p' []]:List Frame).map Frame.where_)≤1:=by
  show frameCount [(cf,p')]≤1
  rw [frameCount_cons]
  simpa [frameCount] using hcw
 refine d9h hT hh f0q (by omega) hok s.gens (gs.length - k) k (by exact Nat.sub_add_cancel (by assumption)) fo ti s hfo rfl N (fun m e hm hf fo' s' l kk p hfo' hkk hs' N'=>?_) (fun hf s' hs' N' C=>?_)
 ·have hlt:m < gs.length:=by
   rcases Nat.lt_or_ge m gs.length with h | h
   ·exact h
   ·rw [List.getElem?_eq_none h] at hm;cases hm
  refine hY e ((gs.drop (m + 1)).filter (fun g=>K.pk g.tag)) s' _ ([(K.F,fo'),(Q,a0z (.ref K.T) (m + 1:Nat) 0)]++K.X) (hrem.trans hf) hs' rfl rfl (.inr ⟨Q,kk,l,p,kf,l',cf,p',m + 1,fo',rfl,hkk,hek,hcw,hlt,rfl,hfo',rfl⟩) (N'.part (a0c fun q=>?_))
  simp +arith only [a0o,a0f,a0s]
 ·refine d2v hh (by exact Nat.le_trans hd (by decide)) hek N' (fun s'' hs'' N''=>hE (hrem.trans hf) s'' (hs''.trans hs') (N''.part (a0c fun q=>?_))) C
  simp +arith only [a0o,a0f]
theorem c3e (hT:a5w w K) (hh:A.handled=none) (hd:A.depth≤600) (hok:∀g∈gs,K.okv g.tag) {Q:Addr} {kk:Resume→Sem PySem.Fin} {kf:Result→Sem PySem.Fin} {l':List Value} {cf:Code} {p':Pos} {k:Nat} {fo:Obj} (hkk:KOk w (K.C Q) kk) (hek:EOk w cf kf) (hcw:cf.weight≤1) (hkl:k≤gs.length) (hfo:GF w.params K.T fo)
  (hrem:rem=(gs.drop k).filter (fun g=>K.pk g.tag)) (N:Now w L0 s0 ((G,gob g v1 v2)::([(K.F,fo),(Q,a0z (.ref K.T) k 0)]++K.X)++thL w K.T gs ep++R) s)
  (hY:∀e rem' s' en GG',rem=e::rem'→s'.gens=s.gens→en.result= .yielded (.ref e.a)→en.genState.bare=true→b5z w K gs rem' en.genState GG'→Now w L0 s0 ((G,gob g v1 v2)::GG'++thL w K.T gs ep++R) s'→P en s')
  (hE:rem=[]→∀s',s'.gens=s.gens→Now w L0 s0 (thL w K.T gs ep++R) s'→P (.ret (.ok (.ret .none))) s'):SegX (model prog w) A (K.C Q) (kk (.send .none)) [.ret kf none false l' cf p' []] s P:=by
 have hfc:frameCount (([.ret kf none false l' cf p' []]:List Frame).map Frame.where_)≤1:=by
  show frameCount [(cf,p')]≤1
  rw [frameCount_cons]
  simpa [frameCount] using hcw
 have RR:a4i w none (c3y w A [.ret kf none false l' cf p' []] P):=a4x hh f0q.plain (by omega)
 have:=a8l (fs:=[]) a1a RR N (L:=[]) (F:=(G,gob g v1 v2)::([(K.F,fo),(Q,a0z (.ref K.T) k 0)]++K.X)++thL w K.T gs ep++R) (.refl _) a3u [] (fun _ _=>K.C Q) (fun _ _=>[]) (fun _ _=>[]) (fun fr tk=>hkk fr tk) (fun _ _=>a0e) (fun _ _=>rfl) (fun fr tk s' hs' N'=>
  b7j (ti:=0) hT hh hd hok hek hcw hkl hfo hrem (N'.part (a0c fun q=>by simp +arith only [a0o,a0f,a0s])) (fun e rem' s'' en GG' a1 a2=>hY e rem' s'' en GG' a1 (a2.trans hs')) (fun a1 s'' a2=>hE a1 s'' (a2.trans hs')))
 exact this [] rfl
theorem b9y (hT:a5w w K) (hS:a5y w K) (hh:A.handled=none) (hd:A.depth≤600) (hok:∀g∈gs,K.okv g.tag) {t:Nat→Tok} (hrem:rem=gs.filter (fun g=>K.pk g.tag)) (N:Now w L0 s0 ((G,gob g v1 v2)::((K.F,fob w.params (a7f t K.T) 2)::K.X)++thL w K.T gs ep++R) s)
  (hY:∀e rem' s' en GG',rem=e::rem'→s'.gens=s.gens→en.result= .yielded (.ref e.a)→en.genState.bare=true→b5z w K gs rem' en.genState GG'→Now w L0 s0 ((G,gob g v1 v2)::GG'++thL w K.T gs ep++R) s'→P en s')
  (hE:rem=[]→∀s',s'.gens=s.gens→Now w L0 s0 (thL w K.T gs ep++R) s'→P (.ret (.ok (.ret .none))) s'):SegX (model prog w) A K.code (den K.code) [] s P:=by
 have RR:a4i w none (c3y w A [] P):=a4x hh (fun f hf=>by cases hf) (by simp [frameCount];exact Nat.le_trans hd (by decide))
 have key:=goT (fs:=[]) a1a RR N (L:=[(K.F,fob w.params (a7f t K.T) 2),(K.T,a0a (tgr gs) ep)]) (F:=(G,gob g v1 v2)::K.X++TL w.params gs++R) (c:=K.code) (t:=den K.code) (a0h fun q=>by simp +arith only [a0o,a0f,a0s]) a3u hSt (fun fr tk=>by
  have e:=hS.ev t (tgr gs) ep fr tk
  have ek:=hS.ek t (tgr gs) ep fr tk
  revert e ek
  unfold b9b
  generalize xr a1a w fr tk hSt K.code [] (den K.code) [(K.F,fob w.params (a7f t K.T) 2),(K.T,a0a (tgr gs) ep)]=o
  intro e ek
  rw [Prod.mk.injEq] at e
  obtain ⟨e,eg⟩:=e
  unfold vc wc at e
  simp only [Prod.mk.injEq] at e
  obtain ⟨e1,e2,e3,e4,e5,e6,e7⟩:=e
  have hfs:o.fs=[]:=List.length_eq_zero_iff.mp e4
  refine ⟨e1,e7,by rw [e6];exact a0e,fun hf s' hs' N'=>?_⟩
  rw [hfs] at e3 ⊢
  rw [e5] at N'
  intro Fs hFs
  have:Fs=[]:=hFs
  subst this
  rw [c1m e2 eg]
  refine s_call prog w A o.c ([]++[]) P s' _ none false _ _ fun p=>?_
  rw [a8s]
  have hw:o.c.weight≤1:=by have:=a6d e3;simpa using this
  have:=b7j (Q:=fr 0) (P:=P) (l':=cLs o.t) (p':=p) (rem:=rem) (k:=0) (ti:=0) hT hh hd hok ek hw (Nat.zero_le _) (.inl ⟨t,rfl⟩) (by rw [List.drop_zero];exact hrem) (N'.part (a0c fun q=>?_)) (fun e rem' s'' en GG' a1 a2=>hY e rem' s'' en GG' a1 (a2.trans hs')) (fun a1 s'' a2=>hE a1 s'' (a2.trans hs'))
  ·exact this [] rfl
  ·have e0:((0:Nat):Int)=0:=rfl
   simp +arith only [a0o,a0f,a0s,e0])
 exact key [] rfl
theorem b6p (hT:a5w w K) (hS:a5y w K) (hh:A.handled=none) (hd:A.depth≤600) (hok:∀g∈gs,K.okv g.tag) (hg:s.gens[g]?=some gx) (hG:b5z w K gs rem gx GG)
  (N:Now w L0 s0 ((G,gob g v1 v2)::GG++thL w K.T gs ep++R) s):codeAny (model prog w) A (.call (.builtin "generator.__next__") ⟨[.ref G],[]⟩) (b9n w K gs ep G g v1 v2 rem L0 s0 R) s:=by
 have hi:s.heap.IsGen G g:=c3v N.sat (.head _)
 refine codeAny_call_builtin slot_gen_next.plain entry_gen_next (slot_gen_next.check _ _ _ _ _ _ _ _ hi.typeIs (args_gen_next _) ?_)
 show wpAny _ A.in1 (Builtin.Generator.genWake (.ref G) (.send .none)) _ _ s
 unfold Builtin.Generator.genWake
 have hl:s.heap.NoLimit:=a8u w.params _ N.sat.kk
 have hA1:A.in1.handled=none:=hh
 have hd1:A.in1.depth≤600:=hd
 have fin1:∀(e:Tg) (rem':List Tg) (s':Shared) (en:End) (GG':Led),rem=e::rem'→s'.gens=(s.setGen g .running).gens→en.result= .yielded (.ref e.a)→en.genState.bare=true→b5z w K gs rem' en.genState GG'→Now w L0 s0 ((G,gob g v1 v2)::GG'++thL w K.T gs ep++R) s'→
   b9n w K gs ep G g v1 v2 rem L0 s0 R (.ok (.ret (.ref e.a))) (s'.setGen g en.genState):=by
  intro e rem' s' en GG' hr hs' _ hb hG' N'
  rw [hr]
  exact ⟨rfl,en.genState,GG',a9y hg _ hs',hG',N'.setGen g hb⟩
 have fin2:rem=[]→∀s',s'.gens=(s.setGen g .running).gens→Now w L0 s0 (thL w K.T gs ep++R) s'→∀X:Unit→Sem PySem.Fin,wpAny (model prog w) A.in1 (newExc (.type "StopIteration") [] >>=fun e=>raiseNew (α:=Unit) e >>=X) (fun fin s''=>match fin with | .done f=>b9n w K gs ep G g v1 v2 rem L0 s0 R (.ok f) s'' | .again c'=>c'.quiet=true∧codeAny (model prog w) A c' (b9n w K gs ep G g v1 v2 rem L0 s0 R) s'') (fun e s''=>b9n w K gs ep G g v1 v2 rem L0 s0 R (.error e) s'') (s'.setGen g .finished):=by
  intro hr s' hs' N' X
  have N1:=(N'.setGen g (x:=.finished) rfl).alloc a9u rfl
  refine wpAny_bind ?_
  simp only [newExc,newTuple]
  refine wpAny_bind (wpAny_newObj_type ?_ (by size_fits))
  refine wpAny_bind (m:=firstArgMember _ _) (wpAny_of_eq (a:=Value.none) (by first | rfl | (simp only [firstArgMember];rfl)) ?_)
  refine wpAny_newObj_type ?_ (by size_fits)
  simp only [raiseNew]
  refine wpAny_bind (wpAny_bind (wpAny_handled ?_))
  rw [hA1]
  refine wpAny_throw ?_
  rw [hr]
  have N2:=N1.alloc (a5r (s'.setGen g .finished).heap.objs.size) rfl
  refine ⟨_,(s'.setGen g .finished).heap.objs.size,rfl,N2.part (a0c fun q=>?_)⟩
  have e1:({ cls:=Value.type "tuple",data:=Data.seq #[] }:Obj)=a9u:=rfl
  simp +arith only [a0o,a0f,a0s,e1]
 refine wpAny_bind (wpAny_holding (wpAny_genNumber hi (wpAny_bind (wpAny_genState hg ?_))))
 have N0:=N.setGen g (x:=.running) rfl
 rcases hG with ⟨rfl,hrem,t,rfl⟩ | ⟨Q,kk,l,p,kf,l',cf,p',k,fo,rfl,hkk,hek,hcw,hkl,hrem,hfo,rfl⟩
 ·refine wpAny_bind (wpAny_roomToWake hl (by show A.in1.depth < 1000;exact Nat.lt_of_le_of_lt hd (by decide)) ?_)
  show wpAny _ A.in1 (.resume g (.send .none) [] _) _ _ s
  refine wake_any _ prog w hg (.inl ⟨rfl,rfl,rfl,rfl⟩) (fun Γ=>Γ.In A.in1) (fun _ h=>h) ?_
  rw [a8s]
  refine b9y hT hS hA1 hd1 hok hrem N0 (fun e rem' s' en GG' a1 a2 a3 a4 a5 a6=>?_) (fun hr s' hs' N'=>?_)
  ·rw [a3]
   exact wpAny_pure (fin1 e rem' s' en GG' a1 a2 a3 a4 a5 a6)
  ·show wpAny (model prog w) A.in1 (newExc (.type "StopIteration") [] >>=fun e=>raiseNew (α:=Unit) e >>=_) _ _ _
   exact fin2 hr s' hs' N' _
 ·refine wpAny_bind (wpAny_roomToWake hl (by show A.in1.depth < 1000;exact Nat.lt_of_le_of_lt hd (by decide)) ?_)
  show wpAny _ A.in1 (.resume g (.send .none) [] _) _ _ s
  refine wake_any _ prog w hg (.inr ⟨kk,l,p,false,rfl,rfl⟩) (fun Γ=>Γ.In A.in1) (fun _ h=>h) ?_
  refine c3e hT hA1 hd1 hok hkk hek hcw hkl hfo hrem N0 (fun e rem' s' en GG' a1 a2 a3 a4 a5 a6=>?_) (fun hr s' hs' N'=>?_)
  ·rw [a3]
   exact wpAny_pure (fin1 e rem' s' en GG' a1 a2 a3 a4 a5 a6)
  ·show wpAny (model prog w) A.in1 (newExc (.type "StopIteration") [] >>=fun e=>raiseNew (α:=Unit) e >>=_) _ _ _
   exact fin2 hr s' hs' N' _
end
noncomputable def f3x:Stmt→Expr
 | .Return (some e) _=>e
 | _=>.Constant .none 0 default
noncomputable def b4t:Expr→Scope
 | .ListComp _ _ s _=>s
 | .DictComp _ _ _ s _=>s
 | _=>default
noncomputable def a8c (e:Expr) (D:Addr) (env:Env):Env:={ scope:=b4t e,locals:=D,globals:=3,cells:=[],qual:=env.qual,func:=none,code:=env.code,frame:=env.frame,builtins:=0 }
noncomputable abbrev pkE:Expr:=f3x (a3i (a1e (top 18)) 0)
noncomputable abbrev d8l (F:Addr):Env:=b6b (top 18) l19 216 215 F []
noncomputable abbrev pkS (G A D F:Addr):Code:=.compStart pkE 0 (.ref G) (.ref A) (a8c pkE D (d8l F))
noncomputable abbrev pkC (G A D F:Addr):Code:=.compLoop pkE 0 (.ref G) (.ref A) (a8c pkE D (d8l F))
section
variable {w:World} {L0 L M F:Led} {s0 s:Shared} {A:Around} {bot:Result→Shared→Prop} {c:Code} {fs:List Fr} {t:Sem PySem.Fin} {D U:Nat}
theorem a8x (T:Tab) (hA:b1v A D U) (hD:D≤600) (N:Now w L0 s0 M s) (hp:M.Perm (L++F)) (hfs:∀f∈fs,f.hd=none) (hs m:List Nat) (d k:Nat) (cc:(Nat→Addr)→(Nat→Tok)→Code) (L':(Nat→Addr)→(Nat→Tok)→Led) (ob:(Nat→Addr)→(Nat→Tok)→List Prop)
  (ev:∀fr tk,vcP m (xr T w fr tk hs c fs t L)=wc (xr T w fr tk hs c fs t L) (cc fr tk) d k (L' fr tk) (ob fr tk)) (hob:∀fr tk,∀p∈ob fr tk,p)
  (hk:∀fr tk (o:Out),o=xr T w fr tk hs c fs t L→(∀f∈o.fs,f.hd=none)→∀s' B,b1v B (D + d) (U + 10 * (k + 1))→s'.gens=s.gens→Now w L0 s0 (L' fr tk++F) s'→codeAny (model prog w) B (cc fr tk) (fun r s''=>a2p w A bot o.c o.fs (cont o.t r) s'') s'):a2p w A bot c fs t s:=by
 refine goT T (a2a hA.handled (by have:=hA.depth;exact Nat.le_trans this (Nat.le_trans hD (by decide)))) N hp hfs hs fun fr tk=>?_
 have e:=ev fr tk
 have hk':=hk fr tk _ rfl
 have ho:=hob fr tk
 revert e hk'
 generalize xr T w fr tk hs c fs t L=o
 intro e hk'
 unfold vcP wc at e
 simp only [Prod.mk.injEq] at e
 obtain ⟨e1,e2,e3,e4,e5,e6,e7⟩:=e
 refine ⟨e1,e7,by rw [e6];exact ho,fun hf s' hg N'=>?_⟩
 have hpart:a2i (L' fr tk++F) (o.L++F):=by rw [←e5];exact (a2j m o.L).both F
 subst e4
 exact a6n e2 (hk' hf s' _ (b6g hA e3 hf) hg (N'.part hpart))
end
section
variable {w:World} {K:Sk} {A:Around} {L0 R:Led} {s0 s:Shared} {gs rem:List Tg} {ep:Nat} {G g Ac Dc Fp:Nat} {v1 v2:Value} {gx:GenState} {GG:Led} {bot:Result→Shared→Prop} {D U:Nat} {b1 b2:Bool}
noncomputable def DcF (P:Params) (o:Obj):Prop:=o=dob P [] 0∨Ey2 fun t e=>o=dob P [(b1a,t,.ref e)] 1
theorem c5t (gs:List Tg) (e:Tg):(tgr gs).push (.ref e.a)=tgr (gs++[e]):=by simp [tgr]
theorem d1x (hA:b1v A D U) (hD:D≤590) (hT:a5w (W w b1 b2) K) (hS:a5y (W w b1 b2) K) (hok:∀g∈gs,K.okv g.tag):∀rem gx GG done s n dc,done.length + rem.length≤1000→DcF (W w b1 b2).params dc→s.gens[g]?=some gx→b5z (W w b1 b2) K gs rem gx GG→
  Now (W w b1 b2) L0 s0 ((G,gob g v1 v2)::GG++thL (W w b1 b2) K.T gs ep++([(Dc,dc),(Ac,a0a (tgr done) n)]++R)) s→
  (∀s' dc' n',DcF (W w b1 b2).params dc'→Now (W w b1 b2) L0 s0 ([(Dc,dc'),(Ac,a0a (tgr (done++rem)) n')]++thL (W w b1 b2) K.T gs ep++R) s'→bot (.ok .next) s')→a2p (W w b1 b2) A bot (pkC G Ac Dc Fp) [] (den (pkC G Ac Dc Fp)) s:=by
 intro rem
 induction rem with
 | nil=>
  intro gx GG done s n dc hlen hdc hg hG N hfin
  refine a8x a1a hA (by exact lb0 hD rfl) N (L:=[(G,gob g v1 v2)]) (F:=GG++thL (W w b1 b2) K.T gs ep++([(Dc,dc),(Ac,a0a (tgr done) n)]++R)) (by exact lpp [[_],_,_,[_],[_],_] [2,3,0,4,0,5,6,0,7,0,0] [2,3,4,0,5,6,0,7,0,0,0] rfl) a3u [1] [1] 1 0 (fun _ _=>.call (.builtin "generator.__next__") ⟨[.ref G],[]⟩) (fun _ _=>[(G,gob g v1 v2)]) (fun _ _=>[]) (fun fr tk=>by kernel_rfl) (fun _ _=>a0e) (fun fr tk o ho hf s' B hB hs' N'=>?_)
  refine codeAny_mono (b6p (v1:=v1) (v2:=v2) (ep:=ep) (R:=[(Dc,dc),(Ac,a0a (tgr done) n)]++R) hT hS hB.handled (by have:=hB.depth;omega) hok (by rw [hs'];exact hg) hG (N'.part (by exact ltt [[_],_,_,[_],[_],_] [2,3,0,4,0,5,6,0,7,0,0] [2,3,4,0,5,6,0,7,0,0,0] rfl))) fun r s'' hr=>?_
  obtain ⟨x,tu,rfl,N''⟩:=hr
  refine b1s a1a (a2a hA.handled (by have:=hA.depth;exact Nat.le_trans this (Nat.le_trans hD (by decide)))) N'' (L:=[(tu,a9u),(x,a5r tu)]) (F:=thL (W w b1 b2) K.T gs ep++([(Dc,dc),(Ac,a0a (tgr done) n)]++R)) (by exact lpp [[_],[_],_,[_],[_],_] [2,3,0,4,0,5,6,0,7,0,0] [2,3,0,4,5,6,0,7,0,0,0] rfl) hf [2] (fun _ _=>.ok .next) (fun _ _=>[(tu,a9u),(x,a5r tu)]) (fun _ _=>[]) (fun fr' tk'=>by exact sbo ho (by kernel_rfl)) (fun _ _=>a0e) (fun fr' tk' s3 hs3 N3 C=>?_)
  refine x_pure (hfin s3 dc n hdc (N3.part (a0c fun q=>?_)))
  rw [List.append_nil]
  exact lu [[_],[_],_,_,[_],[_]] [2,3,0,4,0,5,0] [6,7,0,4,2,3,0,5,0,0,0] rfl
 | cons e rem ih=>
  intro gx GG done s n dc hlen hdc hg hG N hfin
  refine a8x a1a hA (by exact lb0 hD rfl) N (L:=[(G,gob g v1 v2)]) (F:=GG++thL (W w b1 b2) K.T gs ep++([(Dc,dc),(Ac,a0a (tgr done) n)]++R)) (by exact lpp [[_],_,_,[_],[_],_] [2,3,0,4,0,5,6,0,7,0,0] [2,3,4,0,5,6,0,7,0,0,0] rfl) a3u [1] [1] 1 0 (fun _ _=>.call (.builtin "generator.__next__") ⟨[.ref G],[]⟩) (fun _ _=>[(G,gob g v1 v2)]) (fun _ _=>[]) (fun fr tk=>by kernel_rfl) (fun _ _=>a0e) (fun fr tk o ho hf s' B hB hs' N'=>?_)
  refine codeAny_mono (b6p (v1:=v1) (v2:=v2) (ep:=ep) (R:=[(Dc,dc),(Ac,a0a (tgr done) n)]++R) hT hS hB.handled (by have:=hB.depth;omega) hok (by rw [hs'];exact hg) hG (N'.part (by exact ltt [[_],_,_,[_],[_],_] [2,3,0,4,0,5,6,0,7,0,0] [2,3,4,0,5,6,0,7,0,0,0] rfl))) fun r s'' hr=>?_
  obtain ⟨rfl,gx',GG',hg',hG',N''⟩:=hr
  have hsz:(tgr done).size≤1000000:=by rw [a6l];simp only [List.length_cons] at hlen;omega
  have step:∀dc2:(Nat→Tok)→Obj,(∀tk,DcF (W w b1 b2).params (dc2 tk))→(∀fr' tk',va (xr a1a (W w b1 b2) fr' tk' [1,0,1,1] o.c o.fs (cont o.t (.ok (.ret (.ref e.a)))) [(Dc,dc),(Ac,a0a (tgr done) n)])=wa (xr a1a (W w b1 b2) fr' tk' [1,0,1,1] o.c o.fs (cont o.t (.ok (.ret (.ref e.a)))) [(Dc,dc),(Ac,a0a (tgr done) n)]) (pkC G Ac Dc Fp) [(Dc,dc2 tk'),(Ac,a0a ((tgr done).push (.ref e.a)) (n + 1))] [(tgr done).size≤1000000])→
    a2p (W w b1 b2) A bot o.c o.fs (cont o.t (.ok (.ret (.ref e.a)))) s'':=fun dc2 hdc2 ev=>by
   refine a8l a1a (a2a hA.handled (by have:=hA.depth;exact Nat.le_trans this (Nat.le_trans hD (by decide)))) N'' (L:=[(Dc,dc),(Ac,a0a (tgr done) n)]) (F:=(G,gob g v1 v2)::GG'++thL (W w b1 b2) K.T gs ep++R) (by exact lpp [[_],_,_,[_],[_],_] [2,3,0,4,0,5,6,0,7,0,0] [5,6,0,2,3,0,4,0,7,0,0] rfl) hf [1,0,1,1] (fun _ _=>pkC G Ac Dc Fp) _ _ ev (fun _ _=>a0d hsz a0e) (fun _ _=>rfl) (fun fr' tk' s3 hs3 N3=>?_)
   refine ih gx' GG' (done++[e]) s3 (n + 1) (dc2 tk') (by simp only [List.length_append,List.length_cons,List.length_nil] at hlen ⊢;omega) (hdc2 tk') (by rw [hs3];exact hg') hG' (N3.part (a0c fun q=>?_)) (fun s4 dc4 n4 h4 N4=>hfin s4 dc4 n4 h4 ?_)
   ·rw [←c5t]
    exact lu [[_],_,_,[_],[_],_] [2,3,0,4,0,5,6,0,7,0,0] [5,6,0,2,3,0,4,0,7,0,0] rfl
   ·have:done++[e]++rem=done++e::rem:=by simp
    rw [this] at N4;exact N4
  rcases hdc with rfl | ⟨t,e0,rfl⟩
  ·exact step (fun tk=>dob (W w b1 b2).params [(b1a,Nat.succ (tk 0),.ref e.a)] 1) (fun tk=>.inr ⟨_,_,rfl⟩) (fun fr' tk'=>by exact sbo ho (by kernel_rfl))
  ·exact step (fun tk=>dob (W w b1 b2).params [(b1a,t,.ref e.a)] 1) (fun tk=>.inr ⟨_,_,rfl⟩) (fun fr' tk'=>by exact sbo ho (by kernel_rfl))
end
set_option smartUnfolding false in
theorem a7z (self:Addr) (fd:FuncData) (args:Args) (b:List Stmt) (hb:fd.body= .stmts b) (hg:fd.scope.isGenerator=true) (hc:fd.scope.isCoroutine=false):
  callFunction self fd args=b4k self fd args >>=fun env=>enterFrame >>=fun _=>newGenerator (.func b env) fd.name fd.qualname >>=fun v=>ret v:=by
 unfold callFunction b4k
 simp only [hb,hg,hc]
 exact b3p (J:=fun q=>pure q >>=fun q=>bindArgs fd args >>=fun vs=>newFunctionEnv fd.scope fd.globals fd.closure vs (q++Str.ofString ".<locals>.") (some self) fd.code none fd.builtins >>=fun env=>enterFrame >>=fun _=>newGenerator (.func b env) fd.name fd.qualname >>=fun v=>ret v)
  (J1:=fun q=>pure q >>=fun q=>bindArgs fd args >>=fun vs=>newFunctionEnv fd.scope fd.globals fd.closure vs (q++Str.ofString ".<locals>.") (some self) fd.code none fd.builtins) fun q=>by
   rw [pure_bind,pure_bind,bind_assoc]
noncomputable def gtO (o:Option (b6a Env)):b6a Env:=o.getD ⟨default,[],[],0,0,[]⟩
section
variable {w:World} {A:Around} {L0 R M:Led} {s0 s:Shared}
noncomputable abbrev prL (sel:Addr) (S:Stmt) (cells:List (Str×Addr)) (cd ct:Addr) (v0:Value) (tc:Tok) (rest:List Value):Led:=[(sel,b4m (a2h S cells cd ct)),(cd,a5l v0 tc rest)]
noncomputable abbrev b8v (w:World) (S:Stmt) (sel T cd ct:Addr) (cells:List (Str×Addr)) (v0:Value) (tc:Tok) (rest:List Value) (fr:Nat→Addr) (tk:Nat→Tok):Option (b6a Env):=a3g (vt a1a w fr tk) 1000 [2,3,2,3,2] (b4k sel (a2h S cells cd ct) ⟨[.none,.ref T],[]⟩) (prL sel S cells cd ct v0 tc rest) 0 0 []
noncomputable def c2g (w:World) (S:Stmt) (cells:List (Str×Addr)):Prop:=∀sel T cd ct v0 tc rest fr tk,((b8v w S sel T cd ct cells v0 tc rest fr tk).isSome,(gtO (b8v w S sel T cd ct cells v0 tc rest fr tk)).a,(gtO (b8v w S sel T cd ct cells v0 tc rest fr tk)).L,(gtO (b8v w S sel T cd ct cells v0 tc rest fr tk)).es.map (·.1))=
 (true,c2j S sel cd (fr 0) cells,prL sel S cells cd ct v0 tc rest++[(fr 0,fob w.params (a7f (fun i=>match i with | 0=>Nat.succ (tk 0) | _=>Nat.succ (tk 1)) T) 2)],(gtO (b8v w S sel T cd ct cells v0 tc rest fr tk)).es.map (·.2))
theorem f4s {b1 b2:Bool} {a b:Addr}:c2g (W w b1 b2) c2n (cl2 a b):=fun sel T cd ct v0 tc rest fr tk=>by kernel_rfl
theorem d8i {b1 b2:Bool} {a b n z g:Addr}:c2g (W w b1 b2) a5z (cl3 a b n z g):=fun sel T cd ct v0 tc rest fr tk=>by kernel_rfl
theorem d8g {b1 b2:Bool} {a b n z:Addr}:c2g (W w b1 b2) a6f (cl4 a b n z):=fun sel T cd ct v0 tc rest fr tk=>by kernel_rfl
structure b8x (S:Stmt):Prop where
 b:∀cells cd ct,(a2h S cells cd ct).body= .stmts (a1e S)
 g:∀cells cd ct,(a2h S cells cd ct).scope.isGenerator=true
 c:∀cells cd ct,(a2h S cells cd ct).scope.isCoroutine=false
theorem e2k:b8x c2n:=⟨fun _ _ _=>by kernel_rfl,fun _ _ _=>by kernel_rfl,fun _ _ _=>by kernel_rfl⟩
theorem d9j:b8x a5z:=⟨fun _ _ _=>by kernel_rfl,fun _ _ _=>by kernel_rfl,fun _ _ _=>by kernel_rfl⟩
theorem d7v:b8x a6f:=⟨fun _ _ _=>by kernel_rfl,fun _ _ _=>by kernel_rfl,fun _ _ _=>by kernel_rfl⟩
theorem c5q {S:Stmt} {cells:List (Str×Addr)} (hS:b8x S) (hP:c2g w S cells) (hd:A.depth < 1000) {sel T cd ct:Addr} {v0:Value} {tc:Tok} {rest:List Value} (N:Now w L0 s0 M s) (hp:M.Perm (prL sel S cells cd ct v0 tc rest++R)):
  codeAny (model prog w) A (.call (.ref sel) ⟨[.none,.ref T],[]⟩) (fun r s'=>Ey5 fun G F t v1 v2=>An3 (r= .ok (.ret (.ref G))) (s'.gens[s.gens.size]?=some (.fresh (.func (a1e S) (c2j S sel cd F cells)))) (Now w L0 s0 ((G,gob s.gens.size v1 v2)::(F,fob w.params (a7f t T) 2)::(prL sel S cells cd ct v0 tc rest++R)) s')) s:=by
 have N1:=N.part (.of_perm hp)
 have ho:s.heap.get? sel=some (b4m (a2h S cells cd ct)):=N1.sat.led (sel,b4m (a2h S cells cd ct)) (.head _)
 refine x_code (b8q ho rfl ?_)
 rw [a7z sel (a2h S cells cd ct) _ (a1e S) (hS.b ..) (hS.g ..) (hS.c ..)]
 refine wpAny_bind (wpAny_mono (a9f (hnd:=none) (prim:=a1a.f w.params) (fun fr tk (q:b6a Env)=>∃t:Nat→Tok,q.a=c2j S sel cd (fr 0) cells∧q.L=prL sel S cells cd ct v0 tc rest++[(fr 0,fob w.params (a7f t T) 2)]) 1000 (fr₀:=fun _=>0) (tk₀:=fun _=>0) (hs:=[2,3,2,3,2]) (L:=prL sel S cells cd ct v0 tc rest) (j:=0) (i:=0) (es:=[]) (fun fr tk _ _=>?_) (N1.sat.part (.app _ _))) ?_ fun e s' h=>h)
 ·have e:=hP sel T cd ct v0 tc rest fr tk
  unfold b8v at e
  cases hq:a3g (vt a1a w fr tk) 1000 [2,3,2,3,2] (b4k sel (a2h S cells cd ct) ⟨[.none,.ref T],[]⟩) (prL sel S cells cd ct v0 tc rest) 0 0 [] with
  | none=>rw [hq] at e;cases congrArg (·.1) e
  | some q=>
   rw [hq] at e
   simp only [Prod.mk.injEq] at e
   obtain ⟨_,e1,e2,e3⟩:=e
   exact ⟨q,hq,a7b e3,_,e1,e2⟩
 ·rintro env s' ⟨fr₁,tk₁,q,rfl,hz,S',E',G'⟩
  obtain ⟨t,hz1,hz2⟩:=hz fr₁ tk₁ (a2b.refl _ _) (a2b.refl _ _)
  have N2:=N1.step (.refl _) S' E'.weak G'
  refine wpAny_bind (wpAny_enterFrame (a8u w.params _ S'.kk) hd ?_)
  simp only [newGenerator,newFields]
  have hsz:s'.gens.size=s.gens.size:=by rw [E'.gens]
  refine wpAny_bind (wpAny_bind (wpAny_newGen (wpAny_bind (wpAny_mkText (wpAny_bind (wpAny_mkText (wpAny_newObj_type (wpAny_pure ?_) (by size_fits))))))))
  refine ⟨s'.heap.objs.size,fr₁ 0,t,.str (a2h S cells cd ct).name s'.toks,.str (a2h S cells cd ct).qualname (s'.toks + 1),rfl,?_,?_⟩
  ·show (s'.gens.push _)[s.gens.size]?=_
   rw [←hsz,Array.getElem?_push_size,hz1]
  ·have N3:Now w L0 s0 (q.L++R) { s' with gens:=s'.gens.push (.fresh (.func (a1e S) q.a)),toks:=s'.toks + 1 + 1 }:=
    ⟨⟨N2.sat.led,N2.sat.nd,N2.sat.kk,N2.sat.nk,Nat.le_trans N2.sat.tok (by show s'.toks≤s'.toks + 1 + 1;simp +arith)⟩,⟨N2.ext.keep,N2.ext.size,Nat.le_trans N2.ext.toks (by show s'.toks≤s'.toks + 1 + 1;omega),fun h y hy=>by
     rcases Array.mem_push.mp hy with h1 | h1
     ·exact N2.ext.gens h y h1
     ·rw [h1];rfl,N2.ext.os⟩,N2.grown⟩
   have N4:=N3.alloc { cls:=.type "generator",data:=.fields #[.int s'.gens.size 0,.str (a2h S cells cd ct).name s'.toks,.str (a2h S cells cd ct).qualname (s'.toks + 1)] } rfl
   refine N4.part (a0c fun x=>?_)
   rw [hz2,←hsz]
   simp only [a0o,a0f,a0s]
   show one x (s'.heap.objs.size,gob s'.gens.size (.str (a2h S cells cd ct).name s'.toks) (.str (a2h S cells cd ct).qualname (s'.toks + 1))) + _≤_ + (one x (s'.heap.objs.size,gob s'.gens.size (.str (a2h S cells cd ct).name s'.toks) (.str (a2h S cells cd ct).qualname (s'.toks + 1))) + 0)
   simp +arith
end
noncomputable abbrev te (l:Int) (c:Addr):List Value:=[.int l 0,.int 8 0,.ref c]
noncomputable abbrev c8e (p:Str) (t:Tok) (T:Addr):Code:=.call (.ref 216) ⟨[.str p t,.ref T],[]⟩
noncomputable abbrev a0g (p:Str) (t:Tok):Code:=.call (.ref 28) ⟨[.str p t],[]⟩
noncomputable abbrev pkF (P:Params) (t:Nat→Tok) (p:Str) (tp:Tok) (T:Addr):Obj:=fob P [(d4q,t 0,.str p tp),(a8o,t 1,.ref T)] 2
structure Mk where
 sel:Addr
 cd:Addr
 ct:Addr
 v0:Value
 tc:Tok
 rest:List Value
 cells:List (Str×Addr)
 X:Led
noncomputable abbrev Mk.sk (m:Mk) (S:Stmt) (pk:Value→Bool) (okv:Value→Prop) (F T:Addr):Sk:=⟨S,m.sel,m.cd,F,T,m.cells,m.X,pk,okv⟩
noncomputable abbrev Mk.pr (m:Mk) (S:Stmt):Led:=prL m.sel S m.cells m.cd m.ct m.v0 m.tc m.rest
noncomputable def hB (b:Bool) (x y:List Nat):List Nat:=match b with
 | true=>x
 | false=>y
noncomputable def c8y (w:World) (T:Addr) (gs:List Tg) (ep:Nat) (pk:Value→Bool) (Tb:Led→Prop):a6i:=fun r L=>Ey3 fun R n X=>An3 (r= .ok (.ret (.ref R))) (Tb X) (L=(R,a0a (tgr (gs.filter fun g=>pk g.tag)) n)::thL w T gs ep++X)
noncomputable def a2w (w:World) (S:Stmt) (pk:Value→Bool) (okv:Value→Prop) (Tb:Led→Prop):a6i:=fun r L=>Ey2 fun (m:Mk) (Tb':Led)=>An5 (r= .ok (.ret (.ref m.sel))) ((∀F T,a5w w (m.sk S pk okv F T)∧a5y w (m.sk S pk okv F T))) (c2g w S m.cells) (Tb ((m.cd,a5l m.v0 m.tc m.rest)::Tb')) (L=m.pr S++m.X++Tb')
section
variable {w:World} {b1 b2:Bool} {D U:Nat} {T:Addr} {gs:List Tg} {ep:Nat} {tp:Tok} {p:Str}
theorem a0y.now {c:Code} {L F M L0:Led} {R:a6i} {s0 s:Shared} {B:Around} (h:a0y w D U c L R) (hB:b1v B D U) (N:Now w L0 s0 M s) (hp:M.Perm (L++F)) {R':Result→Shared→Prop} (hk:∀r s' L',R r L'→Now w L0 s0 (L'++F) s'→R' r s'):codeAny (model prog w) B c R' s:=by
 have N1:=N.part (.of_perm hp)
 refine codeAny_mono (h B s hB (N1.sat.part (.app _ _))) fun r s' hr=>?_
 obtain ⟨L',hR,S',E',G'⟩:=hr
 exact hk r s' L' hR (N1.step (.refl _) S' E' G')
theorem b4x {S:Stmt} {pk:Value→Bool} {okv:Value→Prop} (hD:D≤560) (hl:gs.length≤900) (hok:∀g∈gs,okv g.tag) (hSel:b8x S) {Tb0:Led} {Tb:Led→Prop} (hprep:a0y (W w b1 b2) (D + 1) (U + 10) (a0g p tp) Tb0 (a2w (W w b1 b2) S pk okv Tb)):
  a0y (W w b1 b2) D U (c8e p tp T) (thL (W w b1 b2) T gs ep++Tb0) (c8y (W w b1 b2) T gs ep pk Tb):=by
 intro A s hA Sa
 refine b1r ?_
 refine a8x a1a hA (by exact lb0 hD rfl) (Now.start Sa) (L:=[]) (F:=thL (W w b1 b2) T gs ep++Tb0) (.refl _) a3u [0,0,1,0,1,0,0,1,0] [1] 1 0 (fun _ _=>a0g p tp) (fun fr tk=>[(fr 0,pkF (W w b1 b2).params (fun i=>match i with | 0=>Nat.succ (tk 0) | _=>Nat.succ (tk 1)) p tp T)]) (fun _ _=>[]) (fun fr tk=>by kernel_rfl) (fun _ _=>a0e) (fun fr tk o1 ho1 hf1 s1 B1 hB1 _ N1=>?_)
 refine hprep.now hB1 N1 (F:=(fr 0,pkF (W w b1 b2).params (fun i=>match i with | 0=>Nat.succ (tk 0) | _=>Nat.succ (tk 1)) p tp T)::thL (W w b1 b2) T gs ep) (a0h fun q=>by simp +arith only [a0o,a0f,a0s]) (fun r s2 L2 hr N2=>?_)
 obtain ⟨m,Tb',rfl,hm,hpre,hTb,rfl⟩:=hr
 revert N2
 generalize (fun i=>match i with | 0=>Nat.succ (tk 0) | _=>Nat.succ (tk 1):Nat→Tok)=tf
 intro N2
 refine a8x a1a hA (by exact lb0 hD rfl) N2 (L:=[(fr 0,pkF (W w b1 b2).params tf p tp T),(m.sel,b4m (a2h S m.cells m.cd m.ct))]) (F:=(m.cd,a5l m.v0 m.tc m.rest)::m.X++Tb'++thL (W w b1 b2) T gs ep) (a0h fun q=>by simp +arith only [a0o,a0f,a0s]) hf1 [1,2] [1,1] 1 0 (fun _ _=>.call (.ref m.sel) ⟨[.none,.ref T],[]⟩) (fun _ _=>[(fr 0,pkF (W w b1 b2).params tf p tp T),(m.sel,b4m (a2h S m.cells m.cd m.ct))]) (fun _ _=>[]) (fun fr' tk'=>by exact sbo ho1 (by kernel_rfl)) (fun _ _=>a0e) (fun fr2 tk2 o2 ho2 hf2 s3 B2 hB2 _ N3=>?_)
 refine codeAny_mono (c5q (cd:=m.cd) (ct:=m.ct) (v0:=m.v0) (tc:=m.tc) (rest:=m.rest) (R:=(fr 0,pkF (W w b1 b2).params tf p tp T)::m.X++Tb'++thL (W w b1 b2) T gs ep) hSel hpre (by have:=hB2.depth;omega) N3 (a0h fun q=>by simp +arith only [a0o,a0f,a0s])) fun r s4 hr=>?_
 obtain ⟨G,F,t,v1,v2,rfl,hg,N4⟩:=hr
 refine a8x a1a hA (by exact lb0 hD rfl) N4 (L:=[(fr 0,pkF (W w b1 b2).params tf p tp T),(G,gob s3.gens.size v1 v2)]) (F:=(F,fob (W w b1 b2).params (a7f t T) 2)::(m.pr S++(m.X++Tb'++thL (W w b1 b2) T gs ep))) (a0h fun q=>by simp +arith only [a0o,a0f,a0s]) hf2 [2,2,2,2] [1,1,1,1] 1 0 (fun fr3 _=>pkS G (fr3 0) (fr3 1) (fr 0)) (fun fr3 tk3=>[(fr 0,pkF (W w b1 b2).params tf p tp T),(G,gob s3.gens.size v1 v2),(fr3 0,a0a ⟨[]⟩ 0),(fr3 1,dob (W w b1 b2).params [] 0)]) (fun _ _=>[]) (fun fr3 tk3=>by exact sbo ho2 (sbo ho1 (bcs b1 (by kernel_rfl) (by kernel_rfl)))) (fun _ _=>a0e) (fun fr3 tk3 o3 ho3 hf3 s5 B3 hB3 hg5 N5=>?_)
 refine a2p.code ?_
 refine a8l a1a (a2a hB3.handled (by have:=hB3.depth;omega)) N5 (L:=[(G,gob s3.gens.size v1 v2)]) (F:=[(fr 0,pkF (W w b1 b2).params tf p tp T),(fr3 0,a0a ⟨[]⟩ 0),(fr3 1,dob (W w b1 b2).params [] 0)]++((F,fob (W w b1 b2).params (a7f t T) 2)::(m.pr S++(m.X++Tb'++thL (W w b1 b2) T gs ep)))) (a0h fun q=>by simp +arith only [a0o,a0f,a0s]) a3u (hB b2 [] [1,1,1,1]) (fun _ _=>pkC G (fr3 0) (fr3 1) (fr 0)) (fun _ _=>[(G,gob s3.gens.size v1 v2)]) (fun _ _=>[]) (fun fr4 tk4=>by exact bcs b1 (bcs b2 (by kernel_rfl) (by kernel_rfl)) (bcs b2 (by kernel_rfl) (by kernel_rfl))) (fun _ _=>a0e) (fun _ _=>rfl) (fun fr4 tk4 s6 hg6 N6=>?_)
 refine d1x (K:=m.sk S pk okv F T) (gs:=gs) (ep:=ep) (g:=s3.gens.size) (v1:=v1) (v2:=v2) (R:=(fr 0,pkF (W w b1 b2).params tf p tp T)::(m.pr S++Tb')) hB3 (by exact lbk hD rfl) (hm F T).1 (hm F T).2 hok (gs.filter fun g=>pk g.tag) _ ((F,fob (W w b1 b2).params (a7f t T) 2)::m.X) [] s6 0 (dob (W w b1 b2).params [] 0) (by have:=List.length_filter_le (fun g:Tg=>pk g.tag) gs;simp only [List.length_nil];omega) (.inl rfl) (by rw [hg6,hg5];exact hg) (.inl ⟨rfl,rfl,t,rfl⟩) (N6.part (a0c fun q=>?_)) (fun s7 dc n7 hdc N7=>?_)
 ·have e1:tgr []=⟨[]⟩:=rfl
  simp +arith only [a0o,a0f,a0s,e1]
 ·have fin:∀hs dc',(∀fr5 tk5,vw (xr a1a (W w b1 b2) fr5 tk5 hs o3.c o3.fs (cont o3.t (.ok .next)) [(fr3 1,dc)])=wt (xr a1a (W w b1 b2) fr5 tk5 hs o3.c o3.fs (cont o3.t (.ok .next)) [(fr3 1,dc)]) (.ok (.ret (.ref (fr3 0)))) [(fr3 1,dc')] [])→a2p (W w b1 b2) A (Res (W w b1 b2) (thL (W w b1 b2) T gs ep++Tb0) s (c8y (W w b1 b2) T gs ep pk Tb)) o3.c o3.fs (cont o3.t (.ok .next)) s7:=fun hs dc' ev=>by
   refine b1s a1a (a2a hA.handled (by have:=hA.depth;exact Nat.le_trans this (Nat.le_trans hD (by decide)))) N7 (L:=[(fr3 1,dc)]) (F:=(fr3 0,a0a (tgr (gs.filter fun g=>pk g.tag)) n7)::thL (W w b1 b2) T gs ep++((fr 0,pkF (W w b1 b2).params tf p tp T)::(m.pr S++Tb'))) (a0h fun q=>by simp +arith only [List.nil_append,a0o,a0f,a0s]) hf3 hs (fun _ _=>.ok (.ret (.ref (fr3 0)))) (fun _ _=>[(fr3 1,dc')]) (fun _ _=>[]) ev (fun _ _=>a0e) (fun fr5 tk5 s8 hg8 N8 C=>?_)
   have N9:=N8.part (L:=(fr3 0,a0a (tgr (gs.filter fun g=>pk g.tag)) n7)::thL (W w b1 b2) T gs ep++((m.cd,a5l m.v0 m.tc m.rest)::Tb')) (a0c fun q=>by simp +arith only [a0o,a0f,a0s])
   exact x_pure (N9.res ⟨fr3 0,n7,_,rfl,hTb,rfl⟩)
  rcases hdc with rfl | ⟨td,ed,rfl⟩
  ·exact fin [1] (dob (W w b1 b2).params [] 0) (fun fr5 tk5=>by exact sbo ho3 (sbo ho2 (sbo ho1 (bcs b1 (by kernel_rfl) (by kernel_rfl)))))
  ·exact fin [1,1,0] (dob (W w b1 b2).params [] 2) (fun fr5 tk5=>by exact sbo ho3 (sbo ho2 (sbo ho1 (bcs b1 (by kernel_rfl) (by kernel_rfl)))))
end
noncomputable def b4l:Str:=l5
noncomputable def a2c (i:Nat):Str:=⟨⟨123::42::125::(nm i).cps.toList⟩⟩
noncomputable def a1w (i:Nat):Str:=⟨⟨123::((nm i).cps.toList++[125,42])⟩⟩
noncomputable def sfx (i:Nat):Str:=⟨⟨125::(nm i).cps.toList⟩⟩
noncomputable def pfx (i:Nat):Str:=⟨⟨123::((nm i).cps.toList++[125])⟩⟩
noncomputable def kI (i:Nat):Int:= -(((nm i).cps.toList.length:Int) + 1)
noncomputable def kO (i:Nat):Int:=((nm i).cps.toList.length:Int) + 2
noncomputable abbrev pkI (i:Nat):Value→Bool:=pk3 (nm i) (sfx i) (kI i)
noncomputable abbrev pkO (i:Nat):Value→Bool:=pk4 (pfx i) (kO i)
noncomputable abbrev T1 (c2:Addr):Led:=[(23,a1v (te 15 c2))]
noncomputable abbrev T2 (c2 c3:Addr) (v:Value) (t:Tok) (r:List Value):Led:=[(c3,a5l v t r),(23,a1v (te 15 c2++te 25 c3))]
noncomputable abbrev T3 (c2 c3 c4:Addr) (v:Value) (t:Tok) (r:List Value):Led:=[(c4,a5l v t r),(23,a1v (te 15 c2++te 25 c3++te 34 c4))]
noncomputable def a4o (o:Out) (n:Nat):Obj:=(o.L.getD n (0,a9u)).2
noncomputable def d5t (o:Obj):Value:=match o.data with
 | .fields ⟨v::_⟩=>v
 | _=>.none
noncomputable def d5s (o:Obj):Tok:=match o.data with
 | .fields ⟨_:: .str _ t::_⟩=>t
 | _=>0
noncomputable def d5z (o:Obj):List Value:=match o.data with
 | .fields ⟨_::_::r⟩=>r
 | _=>[]
section
variable {w:World} {b1 b2:Bool} {D U:Nat} {tp:Tok} {c2 c3 c4:Addr} {v:Value} {t:Tok} {r:List Value}
noncomputable abbrev hP2:List Nat:=[0,0,3,2,0,0,0,0,10,10,10,10,11,11,11,11,11,10,11,10,11,11,11,11,10,11,10,11,11,11,11,10,11,10,13,4,3,5,4,3,0,3,1,0,1,1,0,1,0,0,0,2,1,2]
noncomputable abbrev mP2:List Nat:=[1,0,0,1,1,0,0,0,0,0,0,0,0,0,0,0,0,0,0,1,1]
noncomputable abbrev d3z:List Nat:=[0,0,3,2,0,0,0,0,10,10,10,10,11,11,11,11,11,10,11,10,11,11,11,11,10,11,10,11,11,11,11,10,11,10,13,4,3,5,4,3,0,3,0,3,13,0,1,3,14,0,9,8,0,0,0,0,9,16,16,16,16,6,5,3,16,0,3,2,0,1,1,0,1,0,0,0,2,1,2]
noncomputable abbrev f3h:List Nat:=[1,0,1,1,1,1,0,0,1,0,0,0,0,0,0,1,0,0,0,0,0,0,0,1,1]
noncomputable abbrev e3t:List Nat:=[0,0,4,3,0,0,0,0,11,11,11,11,12,12,12,12,12,11,12,11,12,12,12,12,11,12,11,12,12,12,12,11,12,11,14,5,4,6,5,4,0,4,0,4,14,0,1,4,15,0,10,9,0,0,0,0,10,17,17,17,17,7,6,4,17,0,4,3,0,1,0,0,0,3,2,3]
noncomputable abbrev e4j:List Nat:=[1,1,0,1,1,1,1,0,0,1,0,0,0,0,0,0,1,0,0,1]
noncomputable abbrev d4j:List Nat:=[0,0,3,2,0,0,0,0,10,10,10,10,11,11,11,11,11,10,11,10,11,11,11,11,10,11,10,11,11,11,11,10,11,10,13,4,3,5,4,3,0,3,0,3,13,0,0,3,14,0,1,3,15,0,7,6,0,0,0,0,7,17,17,17,17,8,7,0,1,1,0,1,0,0,0,2,1,2]
noncomputable abbrev f4t:List Nat:=[1,0,0,1,1,0,1,1,0,0,0,0,0,0,0,0,1,0,0,0,0,0,0,1,1]
noncomputable abbrev e3u:List Nat:=[0,0,4,3,0,0,0,0,11,11,11,11,12,12,12,12,12,11,12,11,12,12,12,12,11,12,11,12,12,12,12,11,12,11,14,5,4,6,5,4,0,4,0,4,14,0,0,4,15,0,1,4,16,0,8,7,0,0,0,0,8,18,18,18,18,9,8,0,1,0,0,0,3,2,3]
noncomputable abbrev e3q:List Nat:=[1,1,0,0,1,1,0,1,1,0,0,0,0,0,0,0,0,1,0,1]
theorem e6t (hD:D≤590):a0y (W w b1 b2) D U (a0g b4l tp) [(23,a1v [])] (a2w (W w b1 b2) c2n pk2 e6o (fun X=>Ey2 fun c2 q=>X=q::T1 c2)):=by
 refine a0y.start ?_
 refine a0x.execEndT a1a (L:=[(23,a1v [])]) (F:=[]) (by rw [List.append_nil]) (by exact lb0 hD rfl) a3u hP2 mP2 (fun fr tk=>.ok (.ret (.ref (fr 19)))) (fun fr tk=>[(23,a1v (te 15 (fr 18))),(fr 2,a0v (.builtin "isinstance")),(fr 3,a0v (.type "str")),(fr 18,a5l (d5t (a4o (xr a1a (W w b1 b2) fr tk hP2 (a0g b4l tp) [] (.pure (.again (a0g b4l tp))) [(23,a1v [])]) 19)) (d5s (a4o (xr a1a (W w b1 b2) fr tk hP2 (a0g b4l tp) [] (.pure (.again (a0g b4l tp))) [(23,a1v [])]) 19)) (d5z (a4o (xr a1a (W w b1 b2) fr tk hP2 (a0g b4l tp) [] (.pure (.again (a0g b4l tp))) [(23,a1v [])]) 19))),(fr 19,b4m (a2h c2n (cl2 (fr 2) (fr 3)) (fr 18) (fr 12)))]) (fun _ _=>[b4l=l5,¬b4l=l7]) (fun fr tk=>by exact bcs b1 (by kernel_rfl) (by kernel_rfl)) (fun _ _=>(a0d (by decide +kernel) (a0d (by decide +kernel) a0e))) (fun fr tk ok=>?_)
 refine ⟨_,a0c fun q=>?_,⟨fr 19,fr 18,fr 12,(d5t (a4o (xr a1a (W w b1 b2) fr tk hP2 (a0g b4l tp) [] (.pure (.again (a0g b4l tp))) [(23,a1v [])]) 19)),(d5s (a4o (xr a1a (W w b1 b2) fr tk hP2 (a0g b4l tp) [] (.pure (.again (a0g b4l tp))) [(23,a1v [])]) 19)),(d5z (a4o (xr a1a (W w b1 b2) fr tk hP2 (a0g b4l tp) [] (.pure (.again (a0g b4l tp))) [(23,a1v [])]) 19)),(cl2 (fr 2) (fr 3)),[(fr 2,a0v (.builtin "isinstance")),(fr 3,a0v (.type "str"))]⟩,[(23,a1v (te 15 (fr 18)))],rfl,fun F T=>⟨e8v,d6s⟩,f4s,⟨_,_,rfl⟩,rfl⟩
 rw [List.append_nil]
 simp +arith only [a0o,a0f,a0s]
theorem c9p (hD:D≤590):a0y (W w b1 b2) D U (a0g (a2c 4) tp) (T1 c2) (a2w (W w b1 b2) a5z (pkI 4) (c6p (kI 4)) (fun X=>Ey4 fun c3 v t r=>X=T2 c2 c3 v t r)):=by
 refine a0y.start ?_
 refine a0x.execEndT a1a (L:=(T1 c2)) (F:=[]) (by rw [List.append_nil]) (by exact lb0 hD rfl) a3u d3z f3h (fun fr tk=>.ok (.ret (.ref (fr 23)))) (fun fr tk=>[(23,a1v (te 15 c2++te 25 (fr 22))),(fr 1,a0v (.str (nm 4) (Nat.succ (tk 14)))),(fr 2,a0v (.builtin "isinstance")),(fr 3,a0v (.type "str")),(fr 4,a0v (.ref (fr 14))),(fr 7,a0v (.str (sfx 4) (Nat.succ (tk 9)))),(fr 14,a9p (.int (kI 4) (Nat.succ (tk 12))) .none),(fr 22,a5l (d5t (a4o (xr a1a (W w b1 b2) fr tk d3z (a0g (a2c 4) tp) [] (.pure (.again (a0g (a2c 4) tp))) (T1 c2)) 23)) (d5s (a4o (xr a1a (W w b1 b2) fr tk d3z (a0g (a2c 4) tp) [] (.pure (.again (a0g (a2c 4) tp))) (T1 c2)) 23)) (d5z (a4o (xr a1a (W w b1 b2) fr tk d3z (a0g (a2c 4) tp) [] (.pure (.again (a0g (a2c 4) tp))) (T1 c2)) 23))),(fr 23,b4m (a2h a5z (cl3 (fr 2) (fr 3) (fr 4) (fr 7) (fr 1)) (fr 22) (fr 16)))]) (fun _ _=>[a2n (a2c 4) (some 3) none=false,(a1l (a2c 4) (some 3) none).length≤1000000,a2n (a2c 4) (some 2) none=false,(a1l (a2c 4) (some 2) none).length≤1000000,a1l (a2c 4) none (some 3)=lz3,a2n (a2c 4) none (some 3)=false,(a1l (a2c 4) none (some 3)).length≤1000000,¬(a2c 4)=l5,¬(a2c 4)=l7]) (fun fr tk=>by exact bcs b1 (by kernel_rfl) (by kernel_rfl)) (fun _ _=>(a0d (by decide +kernel) (a0d (by decide +kernel) (a0d (by decide +kernel) (a0d (by decide +kernel) (a0d (by decide +kernel) (a0d (by decide +kernel) (a0d (by decide +kernel) (a0d (by decide +kernel) (a0d (by decide +kernel) a0e)))))))))) (fun fr tk ok=>?_)
 refine ⟨_,a0c fun q=>?_,⟨fr 23,fr 22,fr 16,(d5t (a4o (xr a1a (W w b1 b2) fr tk d3z (a0g (a2c 4) tp) [] (.pure (.again (a0g (a2c 4) tp))) (T1 c2)) 23)),(d5s (a4o (xr a1a (W w b1 b2) fr tk d3z (a0g (a2c 4) tp) [] (.pure (.again (a0g (a2c 4) tp))) (T1 c2)) 23)),(d5z (a4o (xr a1a (W w b1 b2) fr tk d3z (a0g (a2c 4) tp) [] (.pure (.again (a0g (a2c 4) tp))) (T1 c2)) 23)),(cl3 (fr 2) (fr 3) (fr 4) (fr 7) (fr 1)),[(fr 2,a0v (.builtin "isinstance")),(fr 3,a0v (.type "str")),(fr 4,a0v (.ref (fr 14))),(fr 7,a0v (.str (sfx 4) (Nat.succ (tk 9)))),(fr 1,a0v (.str (nm 4) (Nat.succ (tk 14)))),(fr 14,a9p (.int (kI 4) (Nat.succ (tk 12))) .none)]⟩,[(23,a1v (te 15 c2++te 25 (fr 22)))],rfl,fun F T=>⟨b9g,b3z⟩,d8i,⟨_,_,_,_,rfl⟩,rfl⟩
 rw [List.append_nil]
 simp +arith only [a0o,a0f,a0s]
theorem d1c (hD:D≤590):a0y (W w b1 b2) D U (a0g (a2c 0) tp) [(23,a1v (te 15 c2++te 25 c3)),(c3,a5l v t r)] (a2w (W w b1 b2) a5z (pkI 0) (c6p (kI 0)) (fun X=>X=T2 c2 c3 v t r)):=by
 refine a0y.start ?_
 refine a0x.execEndT a1a (L:=[(23,a1v (te 15 c2++te 25 c3)),(c3,a5l v t r)]) (F:=[]) (by rw [List.append_nil]) (by exact lb0 hD rfl) a3u e3t e4j (fun fr tk=>.ok (.ret (.ref (fr 17)))) (fun fr tk=>[(23,a1v (te 15 c2++te 25 c3)),(c3,a5l v t r),(fr 1,a0v (.str (nm 0) (Nat.succ (tk 14)))),(fr 2,a0v (.builtin "isinstance")),(fr 3,a0v (.type "str")),(fr 4,a0v (.ref (fr 14))),(fr 7,a0v (.str (sfx 0) (Nat.succ (tk 9)))),(fr 14,a9p (.int (kI 0) (Nat.succ (tk 12))) .none),(fr 17,b4m (a2h a5z (cl3 (fr 2) (fr 3) (fr 4) (fr 7) (fr 1)) (c3) (fr 16)))]) (fun _ _=>[a2n (a2c 0) (some 3) none=false,(a1l (a2c 0) (some 3) none).length≤1000000,a2n (a2c 0) (some 2) none=false,(a1l (a2c 0) (some 2) none).length≤1000000,a1l (a2c 0) none (some 3)=lz3,a2n (a2c 0) none (some 3)=false,(a1l (a2c 0) none (some 3)).length≤1000000,¬(a2c 0)=l5,¬(a2c 0)=l7]) (fun fr tk=>by exact bcs b1 (by kernel_rfl) (by kernel_rfl)) (fun _ _=>(a0d (by decide +kernel) (a0d (by decide +kernel) (a0d (by decide +kernel) (a0d (by decide +kernel) (a0d (by decide +kernel) (a0d (by decide +kernel) (a0d (by decide +kernel) (a0d (by decide +kernel) (a0d (by decide +kernel) a0e)))))))))) (fun fr tk ok=>?_)
 refine ⟨_,a0c fun q=>?_,⟨fr 17,c3,fr 16,v,t,r,(cl3 (fr 2) (fr 3) (fr 4) (fr 7) (fr 1)),[(fr 2,a0v (.builtin "isinstance")),(fr 3,a0v (.type "str")),(fr 4,a0v (.ref (fr 14))),(fr 7,a0v (.str (sfx 0) (Nat.succ (tk 9)))),(fr 1,a0v (.str (nm 0) (Nat.succ (tk 14)))),(fr 14,a9p (.int (kI 0) (Nat.succ (tk 12))) .none)]⟩,[(23,a1v (te 15 c2++te 25 c3))],rfl,fun F T=>⟨b9g,b3z⟩,d8i,rfl,rfl⟩
 rw [List.append_nil]
 simp +arith only [a0o,a0f,a0s]
theorem d1v (hD:D≤590):a0y (W w b1 b2) D U (a0g (a2c 1) tp) [(23,a1v (te 15 c2++te 25 c3)),(c3,a5l v t r)] (a2w (W w b1 b2) a5z (pkI 1) (c6p (kI 1)) (fun X=>X=T2 c2 c3 v t r)):=by
 refine a0y.start ?_
 refine a0x.execEndT a1a (L:=[(23,a1v (te 15 c2++te 25 c3)),(c3,a5l v t r)]) (F:=[]) (by rw [List.append_nil]) (by exact lb0 hD rfl) a3u e3t e4j (fun fr tk=>.ok (.ret (.ref (fr 17)))) (fun fr tk=>[(23,a1v (te 15 c2++te 25 c3)),(c3,a5l v t r),(fr 1,a0v (.str (nm 1) (Nat.succ (tk 14)))),(fr 2,a0v (.builtin "isinstance")),(fr 3,a0v (.type "str")),(fr 4,a0v (.ref (fr 14))),(fr 7,a0v (.str (sfx 1) (Nat.succ (tk 9)))),(fr 14,a9p (.int (kI 1) (Nat.succ (tk 12))) .none),(fr 17,b4m (a2h a5z (cl3 (fr 2) (fr 3) (fr 4) (fr 7) (fr 1)) (c3) (fr 16)))]) (fun _ _=>[a2n (a2c 1) (some 3) none=false,(a1l (a2c 1) (some 3) none).length≤1000000,a2n (a2c 1) (some 2) none=false,(a1l (a2c 1) (some 2) none).length≤1000000,a1l (a2c 1) none (some 3)=lz3,a2n (a2c 1) none (some 3)=false,(a1l (a2c 1) none (some 3)).length≤1000000,¬(a2c 1)=l5,¬(a2c 1)=l7]) (fun fr tk=>by exact bcs b1 (by kernel_rfl) (by kernel_rfl)) (fun _ _=>(a0d (by decide +kernel) (a0d (by decide +kernel) (a0d (by decide +kernel) (a0d (by decide +kernel) (a0d (by decide +kernel) (a0d (by decide +kernel) (a0d (by decide +kernel) (a0d (by decide +kernel) (a0d (by decide +kernel) a0e)))))))))) (fun fr tk ok=>?_)
 refine ⟨_,a0c fun q=>?_,⟨fr 17,c3,fr 16,v,t,r,(cl3 (fr 2) (fr 3) (fr 4) (fr 7) (fr 1)),[(fr 2,a0v (.builtin "isinstance")),(fr 3,a0v (.type "str")),(fr 4,a0v (.ref (fr 14))),(fr 7,a0v (.str (sfx 1) (Nat.succ (tk 9)))),(fr 1,a0v (.str (nm 1) (Nat.succ (tk 14)))),(fr 14,a9p (.int (kI 1) (Nat.succ (tk 12))) .none)]⟩,[(23,a1v (te 15 c2++te 25 c3))],rfl,fun F T=>⟨b9g,b3z⟩,d8i,rfl,rfl⟩
 rw [List.append_nil]
 simp +arith only [a0o,a0f,a0s]
theorem d4w (hD:D≤590):a0y (W w b1 b2) D U (a0g (a2c 2) tp) [(23,a1v (te 15 c2++te 25 c3)),(c3,a5l v t r)] (a2w (W w b1 b2) a5z (pkI 2) (c6p (kI 2)) (fun X=>X=T2 c2 c3 v t r)):=by
 refine a0y.start ?_
 refine a0x.execEndT a1a (L:=[(23,a1v (te 15 c2++te 25 c3)),(c3,a5l v t r)]) (F:=[]) (by rw [List.append_nil]) (by exact lb0 hD rfl) a3u e3t e4j (fun fr tk=>.ok (.ret (.ref (fr 17)))) (fun fr tk=>[(23,a1v (te 15 c2++te 25 c3)),(c3,a5l v t r),(fr 1,a0v (.str (nm 2) (Nat.succ (tk 14)))),(fr 2,a0v (.builtin "isinstance")),(fr 3,a0v (.type "str")),(fr 4,a0v (.ref (fr 14))),(fr 7,a0v (.str (sfx 2) (Nat.succ (tk 9)))),(fr 14,a9p (.int (kI 2) (Nat.succ (tk 12))) .none),(fr 17,b4m (a2h a5z (cl3 (fr 2) (fr 3) (fr 4) (fr 7) (fr 1)) (c3) (fr 16)))]) (fun _ _=>[a2n (a2c 2) (some 3) none=false,(a1l (a2c 2) (some 3) none).length≤1000000,a2n (a2c 2) (some 2) none=false,(a1l (a2c 2) (some 2) none).length≤1000000,a1l (a2c 2) none (some 3)=lz3,a2n (a2c 2) none (some 3)=false,(a1l (a2c 2) none (some 3)).length≤1000000,¬(a2c 2)=l5,¬(a2c 2)=l7]) (fun fr tk=>by exact bcs b1 (by kernel_rfl) (by kernel_rfl)) (fun _ _=>(a0d (by decide +kernel) (a0d (by decide +kernel) (a0d (by decide +kernel) (a0d (by decide +kernel) (a0d (by decide +kernel) (a0d (by decide +kernel) (a0d (by decide +kernel) (a0d (by decide +kernel) (a0d (by decide +kernel) a0e)))))))))) (fun fr tk ok=>?_)
 refine ⟨_,a0c fun q=>?_,⟨fr 17,c3,fr 16,v,t,r,(cl3 (fr 2) (fr 3) (fr 4) (fr 7) (fr 1)),[(fr 2,a0v (.builtin "isinstance")),(fr 3,a0v (.type "str")),(fr 4,a0v (.ref (fr 14))),(fr 7,a0v (.str (sfx 2) (Nat.succ (tk 9)))),(fr 1,a0v (.str (nm 2) (Nat.succ (tk 14)))),(fr 14,a9p (.int (kI 2) (Nat.succ (tk 12))) .none)]⟩,[(23,a1v (te 15 c2++te 25 c3))],rfl,fun F T=>⟨b9g,b3z⟩,d8i,rfl,rfl⟩
 rw [List.append_nil]
 simp +arith only [a0o,a0f,a0s]
theorem d4s (hD:D≤590):a0y (W w b1 b2) D U (a0g (a2c 3) tp) [(23,a1v (te 15 c2++te 25 c3)),(c3,a5l v t r)] (a2w (W w b1 b2) a5z (pkI 3) (c6p (kI 3)) (fun X=>X=T2 c2 c3 v t r)):=by
 refine a0y.start ?_
 refine a0x.execEndT a1a (L:=[(23,a1v (te 15 c2++te 25 c3)),(c3,a5l v t r)]) (F:=[]) (by rw [List.append_nil]) (by exact lb0 hD rfl) a3u e3t e4j (fun fr tk=>.ok (.ret (.ref (fr 17)))) (fun fr tk=>[(23,a1v (te 15 c2++te 25 c3)),(c3,a5l v t r),(fr 1,a0v (.str (nm 3) (Nat.succ (tk 14)))),(fr 2,a0v (.builtin "isinstance")),(fr 3,a0v (.type "str")),(fr 4,a0v (.ref (fr 14))),(fr 7,a0v (.str (sfx 3) (Nat.succ (tk 9)))),(fr 14,a9p (.int (kI 3) (Nat.succ (tk 12))) .none),(fr 17,b4m (a2h a5z (cl3 (fr 2) (fr 3) (fr 4) (fr 7) (fr 1)) (c3) (fr 16)))]) (fun _ _=>[a2n (a2c 3) (some 3) none=false,(a1l (a2c 3) (some 3) none).length≤1000000,a2n (a2c 3) (some 2) none=false,(a1l (a2c 3) (some 2) none).length≤1000000,a1l (a2c 3) none (some 3)=lz3,a2n (a2c 3) none (some 3)=false,(a1l (a2c 3) none (some 3)).length≤1000000,¬(a2c 3)=l5,¬(a2c 3)=l7]) (fun fr tk=>by exact bcs b1 (by kernel_rfl) (by kernel_rfl)) (fun _ _=>(a0d (by decide +kernel) (a0d (by decide +kernel) (a0d (by decide +kernel) (a0d (by decide +kernel) (a0d (by decide +kernel) (a0d (by decide +kernel) (a0d (by decide +kernel) (a0d (by decide +kernel) (a0d (by decide +kernel) a0e)))))))))) (fun fr tk ok=>?_)
 refine ⟨_,a0c fun q=>?_,⟨fr 17,c3,fr 16,v,t,r,(cl3 (fr 2) (fr 3) (fr 4) (fr 7) (fr 1)),[(fr 2,a0v (.builtin "isinstance")),(fr 3,a0v (.type "str")),(fr 4,a0v (.ref (fr 14))),(fr 7,a0v (.str (sfx 3) (Nat.succ (tk 9)))),(fr 1,a0v (.str (nm 3) (Nat.succ (tk 14)))),(fr 14,a9p (.int (kI 3) (Nat.succ (tk 12))) .none)]⟩,[(23,a1v (te 15 c2++te 25 c3))],rfl,fun F T=>⟨b9g,b3z⟩,d8i,rfl,rfl⟩
 rw [List.append_nil]
 simp +arith only [a0o,a0f,a0s]
theorem d1s (hD:D≤590):a0y (W w b1 b2) D U (a0g (a1w 0) tp) [(23,a1v (te 15 c2++te 25 c3))] (a2w (W w b1 b2) a6f (pkO 0) (c5c (kO 0)) (fun X=>Ey4 fun c4 v t r=>X=T3 c2 c3 c4 v t r)):=by
 refine a0y.start ?_
 refine a0x.execEndT a1a (L:=[(23,a1v (te 15 c2++te 25 c3))]) (F:=[]) (by rw [List.append_nil]) (by exact lb0 hD rfl) a3u d4j f4t (fun fr tk=>.ok (.ret (.ref (fr 23)))) (fun fr tk=>[(23,a1v (te 15 c2++te 25 c3++te 34 (fr 22))),(fr 2,a0v (.builtin "isinstance")),(fr 3,a0v (.type "str")),(fr 5,a0v (.str (pfx 0) (Nat.succ (tk 15)))),(fr 6,a0v (.ref (fr 15))),(fr 15,a9p .none (.int (kO 0) (Nat.succ (tk 17)))),(fr 22,a5l (d5t (a4o (xr a1a (W w b1 b2) fr tk d4j (a0g (a1w 0) tp) [] (.pure (.again (a0g (a1w 0) tp))) [(23,a1v (te 15 c2++te 25 c3))]) 23)) (d5s (a4o (xr a1a (W w b1 b2) fr tk d4j (a0g (a1w 0) tp) [] (.pure (.again (a0g (a1w 0) tp))) [(23,a1v (te 15 c2++te 25 c3))]) 23)) (d5z (a4o (xr a1a (W w b1 b2) fr tk d4j (a0g (a1w 0) tp) [] (.pure (.again (a0g (a1w 0) tp))) [(23,a1v (te 15 c2++te 25 c3))]) 23))),(fr 23,b4m (a2h a6f (cl4 (fr 2) (fr 3) (fr 5) (fr 6)) (fr 22) (fr 16)))]) (fun _ _=>[a2n (a1w 0) none (some (-1))=false,(a1l (a1w 0) none (some (-1))).length≤1000000,a1l (a1w 0) (some (-2)) none=l8,a2n (a1w 0) (some (-2)) none=false,(a1l (a1w 0) (some (-2)) none).length≤1000000,¬a1l (a1w 0) none (some 3)=lz3,a2n (a1w 0) none (some 3)=false,(a1l (a1w 0) none (some 3)).length≤1000000,¬(a1w 0)=l5,¬(a1w 0)=l7]) (fun fr tk=>by exact bcs b1 (by kernel_rfl) (by kernel_rfl)) (fun _ _=>(a0d (by decide +kernel) (a0d (by decide +kernel) (a0d (by decide +kernel) (a0d (by decide +kernel) (a0d (by decide +kernel) (a0d (by decide +kernel) (a0d (by decide +kernel) (a0d (by decide +kernel) (a0d (by decide +kernel) (a0d (by decide +kernel) a0e))))))))))) (fun fr tk ok=>?_)
 refine ⟨_,a0c fun q=>?_,⟨fr 23,fr 22,fr 16,(d5t (a4o (xr a1a (W w b1 b2) fr tk d4j (a0g (a1w 0) tp) [] (.pure (.again (a0g (a1w 0) tp))) [(23,a1v (te 15 c2++te 25 c3))]) 23)),(d5s (a4o (xr a1a (W w b1 b2) fr tk d4j (a0g (a1w 0) tp) [] (.pure (.again (a0g (a1w 0) tp))) [(23,a1v (te 15 c2++te 25 c3))]) 23)),(d5z (a4o (xr a1a (W w b1 b2) fr tk d4j (a0g (a1w 0) tp) [] (.pure (.again (a0g (a1w 0) tp))) [(23,a1v (te 15 c2++te 25 c3))]) 23)),(cl4 (fr 2) (fr 3) (fr 5) (fr 6)),[(fr 2,a0v (.builtin "isinstance")),(fr 3,a0v (.type "str")),(fr 6,a0v (.ref (fr 15))),(fr 5,a0v (.str (pfx 0) (Nat.succ (tk 15)))),(fr 15,a9p .none (.int (kO 0) (Nat.succ (tk 17))))]⟩,[(23,a1v (te 15 c2++te 25 c3++te 34 (fr 22)))],rfl,fun F T=>⟨c0g,b2y⟩,d8g,⟨_,_,_,_,rfl⟩,rfl⟩
 rw [List.append_nil]
 simp +arith only [a0o,a0f,a0s]
theorem d4p (hD:D≤590):a0y (W w b1 b2) D U (a0g (a1w 1) tp) [(23,a1v (te 15 c2++te 25 c3++te 34 c4)),(c4,a5l v t r)] (a2w (W w b1 b2) a6f (pkO 1) (c5c (kO 1)) (fun X=>X=T3 c2 c3 c4 v t r)):=by
 refine a0y.start ?_
 refine a0x.execEndT a1a (L:=[(23,a1v (te 15 c2++te 25 c3++te 34 c4)),(c4,a5l v t r)]) (F:=[]) (by rw [List.append_nil]) (by exact lb0 hD rfl) a3u e3u e3q (fun fr tk=>.ok (.ret (.ref (fr 17)))) (fun fr tk=>[(23,a1v (te 15 c2++te 25 c3++te 34 c4)),(c4,a5l v t r),(fr 2,a0v (.builtin "isinstance")),(fr 3,a0v (.type "str")),(fr 5,a0v (.str (pfx 1) (Nat.succ (tk 15)))),(fr 6,a0v (.ref (fr 15))),(fr 15,a9p .none (.int (kO 1) (Nat.succ (tk 17)))),(fr 17,b4m (a2h a6f (cl4 (fr 2) (fr 3) (fr 5) (fr 6)) (c4) (fr 16)))]) (fun _ _=>[a2n (a1w 1) none (some (-1))=false,(a1l (a1w 1) none (some (-1))).length≤1000000,a1l (a1w 1) (some (-2)) none=l8,a2n (a1w 1) (some (-2)) none=false,(a1l (a1w 1) (some (-2)) none).length≤1000000,¬a1l (a1w 1) none (some 3)=lz3,a2n (a1w 1) none (some 3)=false,(a1l (a1w 1) none (some 3)).length≤1000000,¬(a1w 1)=l5,¬(a1w 1)=l7]) (fun fr tk=>by exact bcs b1 (by kernel_rfl) (by kernel_rfl)) (fun _ _=>(a0d (by decide +kernel) (a0d (by decide +kernel) (a0d (by decide +kernel) (a0d (by decide +kernel) (a0d (by decide +kernel) (a0d (by decide +kernel) (a0d (by decide +kernel) (a0d (by decide +kernel) (a0d (by decide +kernel) (a0d (by decide +kernel) a0e))))))))))) (fun fr tk ok=>?_)
 refine ⟨_,a0c fun q=>?_,⟨fr 17,c4,fr 16,v,t,r,(cl4 (fr 2) (fr 3) (fr 5) (fr 6)),[(fr 2,a0v (.builtin "isinstance")),(fr 3,a0v (.type "str")),(fr 6,a0v (.ref (fr 15))),(fr 5,a0v (.str (pfx 1) (Nat.succ (tk 15)))),(fr 15,a9p .none (.int (kO 1) (Nat.succ (tk 17))))]⟩,[(23,a1v (te 15 c2++te 25 c3++te 34 c4))],rfl,fun F T=>⟨c0g,b2y⟩,d8g,rfl,rfl⟩
 rw [List.append_nil]
 simp +arith only [a0o,a0f,a0s]
theorem d0o (hD:D≤590):a0y (W w b1 b2) D U (a0g (a1w 2) tp) [(23,a1v (te 15 c2++te 25 c3++te 34 c4)),(c4,a5l v t r)] (a2w (W w b1 b2) a6f (pkO 2) (c5c (kO 2)) (fun X=>X=T3 c2 c3 c4 v t r)):=by
 refine a0y.start ?_
 refine a0x.execEndT a1a (L:=[(23,a1v (te 15 c2++te 25 c3++te 34 c4)),(c4,a5l v t r)]) (F:=[]) (by rw [List.append_nil]) (by exact lb0 hD rfl) a3u e3u e3q (fun fr tk=>.ok (.ret (.ref (fr 17)))) (fun fr tk=>[(23,a1v (te 15 c2++te 25 c3++te 34 c4)),(c4,a5l v t r),(fr 2,a0v (.builtin "isinstance")),(fr 3,a0v (.type "str")),(fr 5,a0v (.str (pfx 2) (Nat.succ (tk 15)))),(fr 6,a0v (.ref (fr 15))),(fr 15,a9p .none (.int (kO 2) (Nat.succ (tk 17)))),(fr 17,b4m (a2h a6f (cl4 (fr 2) (fr 3) (fr 5) (fr 6)) (c4) (fr 16)))]) (fun _ _=>[a2n (a1w 2) none (some (-1))=false,(a1l (a1w 2) none (some (-1))).length≤1000000,a1l (a1w 2) (some (-2)) none=l8,a2n (a1w 2) (some (-2)) none=false,(a1l (a1w 2) (some (-2)) none).length≤1000000,¬a1l (a1w 2) none (some 3)=lz3,a2n (a1w 2) none (some 3)=false,(a1l (a1w 2) none (some 3)).length≤1000000,¬(a1w 2)=l5,¬(a1w 2)=l7]) (fun fr tk=>by exact bcs b1 (by kernel_rfl) (by kernel_rfl)) (fun _ _=>(a0d (by decide +kernel) (a0d (by decide +kernel) (a0d (by decide +kernel) (a0d (by decide +kernel) (a0d (by decide +kernel) (a0d (by decide +kernel) (a0d (by decide +kernel) (a0d (by decide +kernel) (a0d (by decide +kernel) (a0d (by decide +kernel) a0e))))))))))) (fun fr tk ok=>?_)
 refine ⟨_,a0c fun q=>?_,⟨fr 17,c4,fr 16,v,t,r,(cl4 (fr 2) (fr 3) (fr 5) (fr 6)),[(fr 2,a0v (.builtin "isinstance")),(fr 3,a0v (.type "str")),(fr 6,a0v (.ref (fr 15))),(fr 5,a0v (.str (pfx 2) (Nat.succ (tk 15)))),(fr 15,a9p .none (.int (kO 2) (Nat.succ (tk 17))))]⟩,[(23,a1v (te 15 c2++te 25 c3++te 34 c4))],rfl,fun F T=>⟨c0g,b2y⟩,d8g,rfl,rfl⟩
 rw [List.append_nil]
 simp +arith only [a0o,a0f,a0s]
theorem d2l (hD:D≤590):a0y (W w b1 b2) D U (a0g (a1w 3) tp) [(23,a1v (te 15 c2++te 25 c3++te 34 c4)),(c4,a5l v t r)] (a2w (W w b1 b2) a6f (pkO 3) (c5c (kO 3)) (fun X=>X=T3 c2 c3 c4 v t r)):=by
 refine a0y.start ?_
 refine a0x.execEndT a1a (L:=[(23,a1v (te 15 c2++te 25 c3++te 34 c4)),(c4,a5l v t r)]) (F:=[]) (by rw [List.append_nil]) (by exact lb0 hD rfl) a3u e3u e3q (fun fr tk=>.ok (.ret (.ref (fr 17)))) (fun fr tk=>[(23,a1v (te 15 c2++te 25 c3++te 34 c4)),(c4,a5l v t r),(fr 2,a0v (.builtin "isinstance")),(fr 3,a0v (.type "str")),(fr 5,a0v (.str (pfx 3) (Nat.succ (tk 15)))),(fr 6,a0v (.ref (fr 15))),(fr 15,a9p .none (.int (kO 3) (Nat.succ (tk 17)))),(fr 17,b4m (a2h a6f (cl4 (fr 2) (fr 3) (fr 5) (fr 6)) (c4) (fr 16)))]) (fun _ _=>[a2n (a1w 3) none (some (-1))=false,(a1l (a1w 3) none (some (-1))).length≤1000000,a1l (a1w 3) (some (-2)) none=l8,a2n (a1w 3) (some (-2)) none=false,(a1l (a1w 3) (some (-2)) none).length≤1000000,¬a1l (a1w 3) none (some 3)=lz3,a2n (a1w 3) none (some 3)=false,(a1l (a1w 3) none (some 3)).length≤1000000,¬(a1w 3)=l5,¬(a1w 3)=l7]) (fun fr tk=>by exact bcs b1 (by kernel_rfl) (by kernel_rfl)) (fun _ _=>(a0d (by decide +kernel) (a0d (by decide +kernel) (a0d (by decide +kernel) (a0d (by decide +kernel) (a0d (by decide +kernel) (a0d (by decide +kernel) (a0d (by decide +kernel) (a0d (by decide +kernel) (a0d (by decide +kernel) (a0d (by decide +kernel) a0e))))))))))) (fun fr tk ok=>?_)
 refine ⟨_,a0c fun q=>?_,⟨fr 17,c4,fr 16,v,t,r,(cl4 (fr 2) (fr 3) (fr 5) (fr 6)),[(fr 2,a0v (.builtin "isinstance")),(fr 3,a0v (.type "str")),(fr 6,a0v (.ref (fr 15))),(fr 5,a0v (.str (pfx 3) (Nat.succ (tk 15)))),(fr 15,a9p .none (.int (kO 3) (Nat.succ (tk 17))))]⟩,[(23,a1v (te 15 c2++te 25 c3++te 34 c4))],rfl,fun F T=>⟨c0g,b2y⟩,d8g,rfl,rfl⟩
 rw [List.append_nil]
 simp +arith only [a0o,a0f,a0s]
theorem d4k (hD:D≤590):a0y (W w b1 b2) D U (a0g (a1w 4) tp) [(23,a1v (te 15 c2++te 25 c3++te 34 c4)),(c4,a5l v t r)] (a2w (W w b1 b2) a6f (pkO 4) (c5c (kO 4)) (fun X=>X=T3 c2 c3 c4 v t r)):=by
 refine a0y.start ?_
 refine a0x.execEndT a1a (L:=[(23,a1v (te 15 c2++te 25 c3++te 34 c4)),(c4,a5l v t r)]) (F:=[]) (by rw [List.append_nil]) (by exact lb0 hD rfl) a3u e3u e3q (fun fr tk=>.ok (.ret (.ref (fr 17)))) (fun fr tk=>[(23,a1v (te 15 c2++te 25 c3++te 34 c4)),(c4,a5l v t r),(fr 2,a0v (.builtin "isinstance")),(fr 3,a0v (.type "str")),(fr 5,a0v (.str (pfx 4) (Nat.succ (tk 15)))),(fr 6,a0v (.ref (fr 15))),(fr 15,a9p .none (.int (kO 4) (Nat.succ (tk 17)))),(fr 17,b4m (a2h a6f (cl4 (fr 2) (fr 3) (fr 5) (fr 6)) (c4) (fr 16)))]) (fun _ _=>[a2n (a1w 4) none (some (-1))=false,(a1l (a1w 4) none (some (-1))).length≤1000000,a1l (a1w 4) (some (-2)) none=l8,a2n (a1w 4) (some (-2)) none=false,(a1l (a1w 4) (some (-2)) none).length≤1000000,¬a1l (a1w 4) none (some 3)=lz3,a2n (a1w 4) none (some 3)=false,(a1l (a1w 4) none (some 3)).length≤1000000,¬(a1w 4)=l5,¬(a1w 4)=l7]) (fun fr tk=>by exact bcs b1 (by kernel_rfl) (by kernel_rfl)) (fun _ _=>(a0d (by decide +kernel) (a0d (by decide +kernel) (a0d (by decide +kernel) (a0d (by decide +kernel) (a0d (by decide +kernel) (a0d (by decide +kernel) (a0d (by decide +kernel) (a0d (by decide +kernel) (a0d (by decide +kernel) (a0d (by decide +kernel) a0e))))))))))) (fun fr tk ok=>?_)
 refine ⟨_,a0c fun q=>?_,⟨fr 17,c4,fr 16,v,t,r,(cl4 (fr 2) (fr 3) (fr 5) (fr 6)),[(fr 2,a0v (.builtin "isinstance")),(fr 3,a0v (.type "str")),(fr 6,a0v (.ref (fr 15))),(fr 5,a0v (.str (pfx 4) (Nat.succ (tk 15)))),(fr 15,a9p .none (.int (kO 4) (Nat.succ (tk 17))))]⟩,[(23,a1v (te 15 c2++te 25 c3++te 34 c4))],rfl,fun F T=>⟨c0g,b2y⟩,d8g,rfl,rfl⟩
 rw [List.append_nil]
 simp +arith only [a0o,a0f,a0s]
end
inductive Th where
 | non
 | rd (i j:Nat)
 | pl (i:Nat)
noncomputable def a4u (i j:Nat):Str:=⟨⟨123::((nm i).cps.toList++125::(nm j).cps.toList)⟩⟩
noncomputable def Th.ok:Th→Prop
 | .non=>True
 | .rd i j=>i < 5∧j < 5
 | .pl i=>i < 5
noncomputable def Th.into (k:Nat):Th→Bool
 | .non=>false
 | .rd _ j=>Nat.beq j k
 | .pl j=>Nat.beq j k
noncomputable def Th.out (k:Nat):Th→Bool
 | .rd i _=>Nat.beq i k
 | _=>false
noncomputable def Th.isPl:Th→Bool
 | .pl _=>true
 | _=>false
noncomputable def Th.has (v:Value):Th→Prop
 | .non=>v= .none
 | .rd i j=>∃t,v= .str (a4u i j) t
 | .pl i=>∃t,v= .str (nm i) t
theorem e2c:∀k i j:Fin 5,(pkI k (.str (a4u i j) 0))=Nat.beq j k:=by decide +kernel
theorem d9s:∀k j:Fin 5,(pkI k (.str (nm j) 0))=Nat.beq j k:=by decide +kernel
theorem e1m:∀k i j:Fin 5,(pkO k (.str (a4u i j) 0))=Nat.beq i k:=by decide +kernel
theorem e0n:∀k j:Fin 5,(pkO k (.str (nm j) 0))=false:=by decide +kernel
theorem d8s:∀i j:Fin 5,(pk2 (.str (a4u i j) 0))=false:=by decide +kernel
theorem d7g:∀j:Fin 5,(pk2 (.str (nm j) 0))=true:=by decide +kernel
theorem c0p {k:Nat} (hk:k < 5) {v:Value}:∀{h:Th},h.ok→h.has v→pkI k v=h.into k
 | .non,_,e=>by rw [show v= .none from e];rfl
 | .rd i j,ho,⟨t,e⟩=>by rw [e];exact e2c ⟨k,hk⟩ ⟨i,ho.1⟩ ⟨j,ho.2⟩
 | .pl j,ho,⟨t,e⟩=>by rw [e];exact d9s ⟨k,hk⟩ ⟨j,ho⟩
theorem c3t {k:Nat} (hk:k < 5) {v:Value}:∀{h:Th},h.ok→h.has v→pkO k v=h.out k
 | .non,_,e=>by rw [show v= .none from e];rfl
 | .rd i j,ho,⟨t,e⟩=>by rw [e];exact e1m ⟨k,hk⟩ ⟨i,ho.1⟩ ⟨j,ho.2⟩
 | .pl j,ho,⟨t,e⟩=>by rw [e];exact e0n ⟨k,hk⟩ ⟨j,ho⟩
theorem c1l {v:Value}:∀{h:Th},h.ok→h.has v→pk2 v=h.isPl
 | .non,_,e=>by rw [show v= .none from e];rfl
 | .rd i j,ho,⟨t,e⟩=>by rw [e];exact d8s ⟨i,ho.1⟩ ⟨j,ho.2⟩
 | .pl j,ho,⟨t,e⟩=>by rw [e];exact d7g ⟨j,ho⟩
theorem c7r:∀i j:Fin 5,0 < (a4u i j).length∧(a4u i j).length≤1000000:=by decide +kernel
theorem b7x:∀j:Fin 5,0 < (nm j).length∧(nm j).length≤1000000:=by decide +kernel
theorem e3p:∀k i j:Fin 5,(a1l (a4u i j) (some (kI k)) none).length≤1000000:=by decide +kernel
theorem e1y:∀k j:Fin 5,(a1l (nm j) (some (kI k)) none).length≤1000000:=by decide +kernel
theorem e0o:∀k i j:Fin 5,(a1l (a4u i j) none (some (kO k))).length≤1000000:=by decide +kernel
theorem e1h:∀k j:Fin 5,(a1l (nm j) none (some (kO k))).length≤1000000:=by decide +kernel
theorem d5c {v:Value}:∀{h:Th},h.ok→h.has v→e6o v
 | .non,_,e=>.inl e
 | .rd i j,ho,⟨t,e⟩=>.inr ⟨_,t,e,(c7r ⟨i,ho.1⟩ ⟨j,ho.2⟩).1,(c7r ⟨i,ho.1⟩ ⟨j,ho.2⟩).2⟩
 | .pl j,ho,⟨t,e⟩=>.inr ⟨_,t,e,(b7x ⟨j,ho⟩).1,(b7x ⟨j,ho⟩).2⟩
theorem d0c {k:Nat} (hk:k < 5) {v:Value}:∀{h:Th},h.ok→h.has v→c6p (kI k) v
 | .non,_,e=>.inl e
 | .rd i j,ho,⟨t,e⟩=>.inr ⟨_,t,e,e3p ⟨k,hk⟩ ⟨i,ho.1⟩ ⟨j,ho.2⟩⟩
 | .pl j,ho,⟨t,e⟩=>.inr ⟨_,t,e,e1y ⟨k,hk⟩ ⟨j,ho⟩⟩
theorem d0a {k:Nat} (hk:k < 5) {v:Value}:∀{h:Th},h.ok→h.has v→c5c (kO k) v
 | .non,_,e=>.inl e
 | .rd i j,ho,⟨t,e⟩=>.inr ⟨_,t,e,e0o ⟨k,hk⟩ ⟨i,ho.1⟩ ⟨j,ho.2⟩⟩
 | .pl j,ho,⟨t,e⟩=>.inr ⟨_,t,e,e1h ⟨k,hk⟩ ⟨j,ho⟩⟩
noncomputable def Are:List Tg→List (Th×Int)→Prop
 | [],[]=>True
 | g::gs,h::hs=>h.1.ok∧h.1.has g.tag∧g.x=h.2∧Are gs hs
 | _,_=>False
theorem Are.all {P:Tg→Prop} (hP:∀g (h:Th),h.ok→h.has g.tag→P g):∀{gs hs},Are gs hs→∀g∈gs,P g
 | [],[],_,g,hg=>by cases hg
 | g0::gs,h::hs,a,g,hg=>by
  rcases List.mem_cons.mp hg with rfl | hg
  ·exact hP g h.1 a.1 a.2.1
  ·exact Are.all hP a.2.2.2 g hg
theorem Are.app:∀{gs hs gs' hs'},Are gs hs→Are gs' hs'→Are (gs++gs') (hs++hs')
 | [],[],_,_,_,b=>b
 | g::gs,h::hs,_,_,a,b=>⟨a.1,a.2.1,a.2.2.1,a.2.2.2.app b⟩
noncomputable abbrev d9a:Stmt:=a3i (a1e (top 19)) 1
noncomputable abbrev d9z:Stmt:=a3i (lpB d9a) 1
noncomputable abbrev e1u (F:Addr):Env:=b6b (top 19) l20 223 222 F []
noncomputable abbrev d6w (T:Addr):Code:=.call (.ref 223) ⟨[.ref T],[]⟩
noncomputable abbrev f0c (t:Nat→Tok) (T I:Addr):List Row:=[(a8o,t 0,.ref T),(c8o,t 1,.ref I)]
noncomputable abbrev e8z (t:Nat→Tok) (T I p o:Addr):List Row:=f0c t T I++[(d2h,t 2,.ref p),(c5z,t 3,.ref o)]
noncomputable abbrev f1v (t:Nat→Tok) (T I p o g:Addr) (s:Str):List Row:=e8z t T I p o++[(b1a,t 4,.ref g),(b6r,t 5,.str s (t 6))]
structure Of where
 a:Addr
 s:Str
 ts:Tok
 x:Int
 tx:Tok
noncomputable def Of.ob (e:Of):Addr×Obj:=(e.a,tob [.str e.s e.ts,.int e.x e.tx])
noncomputable def ofr (es:List Of):Array Value:=⟨es.map fun e=>.ref e.a⟩
theorem b7u (es:List Of):(ofr es).size=es.length:=by simp [ofr]
noncomputable def Of.key (e:Of):Str×Int:=(e.s,e.x)
noncomputable def d1a (s:Str):Str:=a1l s (some 1) (some (b9r s l26))
theorem d2n:∀i j:Fin 5,d1a (a4u i j)=nm i∧a2n (a4u i j) (some 1) (some (b9r (a4u i j) l26))=false∧(d1a (a4u i j)).length≤1000000:=by decide +kernel
theorem d0p:∀i j k:Fin 5,¬a4u i j=nm k:=by decide +kernel
section
variable {w:World} {b1 b2:Bool} {D U:Nat} {F Q R T I o:Addr}
noncomputable abbrev f4j (Q F:Addr):Code:=b4o d9z (.ref Q) (e1u F)
variable {t:Nat→Tok} {k:Nat} {ti:Tok} {xs zs:Array Value} {n m:Nat} {p pd e d:Addr} {q s:Str} {tq ty u1 u2 ts tx t1 t2:Tok} {y x:Int} {g0:Addr} {s0:Str}
end
theorem Are.get:∀{gs:List Tg} {hs:List (Th×Int)} {k:Nat} {g:Tg},Are gs hs→gs[k]?=some g→∃h,An4 (hs[k]?=some h) h.1.ok (h.1.has g.tag) (g.x=h.2):=by
 intro gs
 induction gs with
 | nil=>intro hs k g _ hg;cases hg
 | cons g0 gs ih=>
  intro hs k g a hg
  cases hs with
  | nil=>exact a.elim
  | cons h hs=>
   cases k with
   | zero=>cases hg;exact ⟨h,rfl,a.1,a.2.1,a.2.2.1⟩
   | succ k=>exact ih (hs:=hs) (k:=k) a.2.2.2 hg
noncomputable abbrev Rk:=Nat×Nat×Int
noncomputable def e4h (rk:List Rk):List (Th×Int):=rk.map fun r=>(.rd r.1 r.2.1,r.2.2)
noncomputable def a9o (rk:List Rk) (x:Int):List (Str×Int):=rk.map (fun r=>(nm r.1,r.2.2))++[(⟨⟨[]⟩⟩,x)]
noncomputable abbrev f5p (Q F:Addr):Code:=b4o d9a (.ref Q) (e1u F)
structure Iv where
 j:Nat
 tj:Tok
 O:Addr
 os:List Of
 m:Nat
noncomputable def Iv.led (v:Iv):Led:=(v.O,a0a (ofr v.os) v.m)::v.os.map Of.ob
noncomputable def Iv.row (v:Iv):Row:=(nm v.j,v.tj,.ref v.O)
noncomputable def ivL (vs:List Iv):Led:=vs.flatMap Iv.led
theorem d2i (vs:List Iv) (v:Iv):ivL (vs++[v])=ivL vs++v.led:=by simp [ivL]
structure Ths where
 g0:Tg
 gr:List Tg
 p:Nat→Tg
noncomputable abbrev Ths.pl (h:Ths):List Tg:=[h.p 4,h.p 3,h.p 2,h.p 1,h.p 0]
noncomputable abbrev Ths.all (h:Ths):List Tg:=h.g0::(h.gr++h.pl)
structure c9w (h:Ths) (rk:List Rk) (own:Nat→Int):Prop where
 h0:h.g0.tag= .none
 hr:Are h.gr (e4h rk)
 hp:∀k,k < 5→∃t,(h.p k).tag= .str (nm k) t
 hx:∀k,k < 5→(h.p k).x=own k
 len:h.gr.length≤100
theorem c9w.are {h rk own} (o:c9w h rk own):Are h.all ((.non,h.g0.x)::(e4h rk++[(.pl 4,own 4),(.pl 3,own 3),(.pl 2,own 2),(.pl 1,own 1),(.pl 0,own 0)])):=by
 refine ⟨trivial,o.h0,rfl,o.hr.app ?_⟩
 have q:∀k,k < 5→(Th.pl k).ok∧(Th.pl k).has (h.p k).tag∧(h.p k).x=own k:=fun k hk=>⟨hk,o.hp k hk,o.hx k hk⟩
 have q4:=q 4 (by exact Nat.le_add_left _ _)
 have q3:=q 3 (by exact Nat.le_add_left _ _)
 have q2:=q 2 (by exact Nat.le_add_left _ _)
 have q1:=q 1 (by exact Nat.le_add_left _ _)
 have q0:=q 0 (by exact Nat.le_add_left _ _)
 exact ⟨q4.1,q4.2.1,q4.2.2,q3.1,q3.2.1,q3.2.2,q2.1,q2.2.1,q2.2.2,q1.1,q1.2.1,q1.2.2,q0.1,q0.2.1,q0.2.2,trivial⟩
theorem b4z {h rk own} (o:c9w h rk own) (p:Value→Bool) (q:Th→Bool) (hp:∀v (h:Th),h.ok→h.has v→p v=q h) {k:Nat} (hk:k < 5):p (h.p k).tag=q (.pl k):=hp _ (.pl k) hk (o.hp k hk)
theorem e5a {h rk own} (o:c9w h rk own):h.all.filter (fun g=>pk2 g.tag)=h.pl:=by
 have e0:pk2 h.g0.tag=false:=by rw [o.h0];rfl
 have er:h.gr.filter (fun g=>pk2 g.tag)=[]:=List.filter_eq_nil_iff.mpr fun g hg=>by
  obtain ⟨k,hk,rfl⟩:=List.mem_iff_getElem.mp hg
  obtain ⟨t,ht,hok,hhas,_⟩:=o.hr.get (List.getElem?_eq_getElem hk)
  unfold e4h at ht
  rw [List.getElem?_map] at ht
  cases hr:rk[k]? with
  | none=>rw [hr] at ht;cases ht
  | some r=>rw [hr] at ht;injection ht with ht;subst ht;rw [c1l hok hhas];exact Bool.false_ne_true
 have e:∀k,k < 5→pk2 (h.p k).tag=true:=fun k hk=>b4z o pk2 Th.isPl (fun v h=>c1l) hk
 show List.filter _ (h.g0::(h.gr++h.pl))=_
 rw [List.filter_cons,e0,List.filter_append,er]
 simp [e]
theorem filtI {h rk own} (o:c9w h rk own) {j:Nat} (hj:j < 5):h.all.filter (fun g=>pkI j g.tag)=h.gr.filter (fun g=>pkI j g.tag)++[h.p j]:=by
 have e0:pkI j h.g0.tag=false:=by rw [o.h0];rfl
 have e:∀k,k < 5→pkI j (h.p k).tag=Nat.beq k j:=fun k hk=>b4z o (pkI j) (Th.into j) (fun v h=>c0p hj) hk
 show List.filter _ (h.g0::(h.gr++h.pl))=_
 rw [List.filter_cons,e0,List.filter_append]
 simp only [Bool.false_eq_true,if_false]
 congr 1
 simp only [List.filter_cons,e 4 (by exact Nat.le_add_left _ _),e 3 (by exact Nat.le_add_left _ _),e 2 (by exact Nat.le_add_left _ _),e 1 (by exact Nat.le_add_left _ _),e 0 (by exact Nat.le_add_left _ _),List.filter_nil]
 have:j=0∨j=1∨j=2∨j=3∨j=4:=lt5 (by first | assumption | omega)
 rcases this with rfl | rfl | rfl | rfl | rfl <;> rfl
theorem filtO {h rk own} (o:c9w h rk own) {j:Nat} (hj:j < 5):h.all.filter (fun g=>pkO j g.tag)=h.gr.filter (fun g=>pkO j g.tag):=by
 have e0:pkO j h.g0.tag=false:=by rw [o.h0];rfl
 have e:∀k,k < 5→pkO j (h.p k).tag=false:=fun k hk=>b4z o (pkO j) (Th.out j) (fun v h=>c3t hj) hk
 show List.filter _ (h.g0::(h.gr++h.pl))=_
 rw [List.filter_cons,e0,List.filter_append]
 simp only [Bool.false_eq_true,if_false]
 simp only [List.filter_cons,e 4 (by omega),e 3 (by omega),e 2 (by omega),e 1 (by omega),e 0 (by omega),List.filter_nil,Bool.false_eq_true,if_false,List.append_nil]
theorem d1z:∀j,j < 5→(lz3:Str)++nm j=a2c j:=by
 intro j hj
 have:j=0∨j=1∨j=2∨j=3∨j=4:=lt5 (by first | assumption | omega)
 rcases this with rfl | rfl | rfl | rfl | rfl <;> rfl
theorem c7u {P:Params} (a b:List Tg):TL P (a++b)=TL P a++TL P b:=by simp [TL]
noncomputable def rkI (rk:List Rk) (j:Nat):List Rk:=rk.filter fun r=>Nat.beq r.2.1 j
noncomputable def rkO (rk:List Rk) (i:Nat):List Rk:=rk.filter fun r=>Nat.beq r.1 i
noncomputable def d5k (rk:List Rk) (own:Nat→Int) (vs:List Iv):Prop:=vs.map (fun v=>(v.j,v.os.map Of.key))=[4,3,2,1,0].map fun j=>(j,a9o (rkI rk j) (own j))
section
variable {w:World} {b1 b2:Bool} {D U:Nat} {F Q R T I:Addr} {h:Ths} {rk:List Rk} {own:Nat→Int} {ep n:Nat}
theorem e7h (hD:D≤590) {c2 c3:Addr} {v:Value} {t:Tok} {r:List Value} {j:Nat} (hj:j < 4) (tp:Tok):a0y (W w b1 b2) D U (a0g (a2c j) tp) (T2 c2 c3 v t r) (a2w (W w b1 b2) a5z (pkI j) (c6p (kI j)) (fun X=>X=T2 c2 c3 v t r)):=by
 have:j=0∨j=1∨j=2∨j=3:=by omega
 rcases this with rfl | rfl | rfl | rfl
 ·exact (d1c hD).mono (.of_perm (.swap ..)) fun r L _ hr=>⟨L,.refl _,hr⟩
 ·exact (d1v hD).mono (.of_perm (.swap ..)) fun r L _ hr=>⟨L,.refl _,hr⟩
 ·exact (d4w hD).mono (.of_perm (.swap ..)) fun r L _ hr=>⟨L,.refl _,hr⟩
 ·exact (d4s hD).mono (.of_perm (.swap ..)) fun r L _ hr=>⟨L,.refl _,hr⟩
end
noncomputable def d2p:Stmt→Expr
 | .Assign _ e _=>e
 | _=>.Constant .none 0 default
noncomputable abbrev d7r:Stmt:=a3i (a1e (top 21)) 1
noncomputable abbrev d1f (F:Addr):Env:=b6b (top 21) l22 233 232 F []
noncomputable abbrev d6l (T N:Addr):Code:=.call (.ref 233) ⟨[.ref T,.ref N],[]⟩
noncomputable abbrev ouE:Expr:=d2p (a3i (lpB d7r) 1)
noncomputable abbrev ouS (Q A D F:Addr):Code:=.compStart ouE 0 (.ref Q) (.ref A) (a8c ouE D (d1f F))
noncomputable abbrev ouC (Q A D F:Addr):Code:=.compLoop ouE 0 (.ref Q) (.ref A) (a8c ouE D (d1f F))
noncomputable abbrev f5m (Q F:Addr):Code:=b4o d7r (.ref Q) (d1f F)
noncomputable abbrev e9k (t:Nat→Tok) (T N O:Addr):List Row:=[(a8o,t 0,.ref T),(c3g,t 1,.ref N),(c9v,t 2,.ref O)]
noncomputable abbrev f4m (t:Nat→Tok) (T N O:Addr) (s:Str) (p:Addr):List Row:=e9k t T N O++[(b7p,t 3,.str s (t 4)),(c7p,t 5,.ref p)]
noncomputable def e4p (s:Str):Str:=a1l s (some (b9r s l26 + 1)) none
theorem d4x:∀i j:Fin 5,e4p (a4u i j)=nm j∧a2n (a4u i j) (some (b9r (a4u i j) l26 + 1)) none=false∧(e4p (a4u i j)).length≤1000000:=by decide +kernel
theorem d2f:∀j,j < 5→(lz2:Str)++nm j++(l8:Str)=a1w j:=by
 intro j hj
 have:j=0∨j=1∨j=2∨j=3∨j=4:=lt5 (by first | assumption | omega)
 rcases this with rfl | rfl | rfl | rfl | rfl <;> rfl
theorem c6v (es:List Ot):(otr es).size=es.length:=by simp [otr]
noncomputable def Ot.key (e:Ot):Nat×Int:=(e.v,e.c)
structure Ov where
 i:Nat
 ti:Tok
 O:Addr
 os:List Ot
 m:Nat
noncomputable def Ov.led (v:Ov):Led:=(v.O,a0a (otr v.os) v.m)::v.os.map Ot.ob
noncomputable def Ov.row (v:Ov):Row:=(nm v.i,v.ti,.ref v.O)
noncomputable def ovL (vs:List Ov):Led:=vs.flatMap Ov.led
theorem d3l (vs:List Ov) (v:Ov):ovL (vs++[v])=ovL vs++v.led:=by simp [ovL]
noncomputable def e7f (rk:List Rk) (vs:List Ov):Prop:=vs.map (fun v=>(v.i,v.os.map Ot.key))=[0,1,2,3,4].map (fun i=>(i,(rkO rk i).map (fun r=>(r.2.1,r.2.2))))∧∀v∈vs,∀o∈v.os,o.v < 5
section
variable {w:World} {b1 b2:Bool} {D U:Nat} {F Q R T N O:Addr} {h:Ths} {rk:List Rk} {own:Nat→Int} {ep en:Nat} {u:Nat→Tok}
theorem e8m (hD:D≤590) {c2 c3 c4:Addr} {v:Value} {t:Tok} {r:List Value} {j:Nat} (h0:0 < j) (hj:j < 5) (tp:Tok):a0y (W w b1 b2) D U (a0g (a1w j) tp) (T3 c2 c3 c4 v t r) (a2w (W w b1 b2) a6f (pkO j) (c5c (kO j)) (fun X=>X=T3 c2 c3 c4 v t r)):=by
 have:j=1∨j=2∨j=3∨j=4:=by omega
 rcases this with rfl | rfl | rfl | rfl
 ·exact (d4p hD).mono (.of_perm (.swap ..)) fun r L _ hr=>⟨L,.refl _,hr⟩
 ·exact (d0o hD).mono (.of_perm (.swap ..)) fun r L _ hr=>⟨L,.refl _,hr⟩
 ·exact (d2l hD).mono (.of_perm (.swap ..)) fun r L _ hr=>⟨L,.refl _,hr⟩
 ·exact (d4k hD).mono (.of_perm (.swap ..)) fun r L _ hr=>⟨L,.refl _,hr⟩
end
noncomputable abbrev toO (d:Addr):Obj:=⟨.ref 165,some d,.plain,⟨[]⟩⟩
noncomputable abbrev toR (t:Nat→Tok) (NI:Addr) (rd:Value) (po fi:Int):List Row:=[(b5e,t 0,.ref NI),(b1g,t 1,rd),(b2u,t 2,.int po (t 3)),(b5d,t 4,.int fi (t 5))]
noncomputable def f4u:Tab:=a1a.add "tuple_iterator.__next__" (fun _=>b9l) fun w=>b6q
structure Nd where
 v:Nat
 tk:Tok
 tv:Tok
 a:Addr
 d:Addr
 la:Addr
 np:Int
 tn:Tok
 su:List (Nat×Tok)
 ls:Nat
noncomputable abbrev e3w (d:Addr) (s:Str) (ts:Tok) (np:Int) (tn:Tok) (l:Addr):Obj:=⟨.ref 68,some d,.plain,⟨[some (.str s ts),some (.int np tn),some (.ref l)]⟩⟩
noncomputable def suV (su:List (Nat×Tok)):Array Value:=⟨su.map fun p=>.str (nm p.1) p.2⟩
noncomputable def Nd.ob (n:Nd):Addr×Obj:=(n.a,e3w n.d (nm n.v) n.tv n.np n.tn n.la)
noncomputable def Nd.li (n:Nd):Addr×Obj:=(n.la,a0a (suV n.su) n.ls)
noncomputable def Nd.led (n:Nd):Led:=[n.ob,n.li]
noncomputable def Nd.row (n:Nd):Row:=(nm n.v,n.tk,.ref n.a)
noncomputable def ndL (ns:List Nd):Led:=ns.flatMap Nd.led
theorem d1y (a b:List Nd):ndL (a++b)=ndL a++ndL b:=by simp [ndL]
noncomputable abbrev d6u (S:Addr) (s:Str) (t:Tok):Code:=.call (.ref 108) ⟨[.ref S,.str s t],[]⟩
noncomputable abbrev e0k (S:Addr) (s:Str) (t:Tok) (ps:List Value):Code:=.call (.ref 115) ⟨.ref S:: .str s t::ps,[]⟩
noncomputable abbrev toL (P:Params) (S Sd:Addr) (t:Nat→Tok) (NI:Addr) (rd:Value) (po fi:Int) (es:Nat) (rows:List Row) (m:Nat):Led:=[(S,toO Sd),(Sd,dob P (toR t NI rd po fi) es),(NI,dob P rows m)]
structure a4l (ns:List Nd):Prop where
 lt:∀n∈ns,n.v < 5
 nd:(ns.map (·.v)).Nodup
theorem b5u:∀{ns:List Nd} {n:Nd},a4l ns→n∈ns→a5p (ns.map Nd.row) (nm n.v)= .ref n.a
 | m::ns,n,h,hn=>by
  rw [List.map_cons]
  unfold a5p
  have hnd:=h.nd
  rw [List.map_cons,List.nodup_cons] at hnd
  rcases List.mem_cons.mp hn with rfl | hn
  ·rw [if_pos (show (Nd.row n).1=nm n.v from rfl)];rfl
  ·have:¬(Nd.row m).1=nm n.v:=fun e=>by
    have:=a2u (h.lt m (.head _)) (h.lt n (.tail _ hn)) e
    exact hnd.1 (List.mem_map.mpr ⟨n,hn,this.symm⟩)
   rw [if_neg this]
   exact b5u ⟨fun x hx=>h.lt x (.tail _ hx),hnd.2⟩ hn
theorem b5x {ns:List Nd} (h:a4l ns) {v:Nat} (hv:v < 5):nm v∈a1m (ns.map Nd.row)↔v∈ns.map (·.v):=by
 unfold a1m
 rw [List.map_map]
 constructor
 ·intro hm
  obtain ⟨n,hn,e⟩:=List.mem_map.mp hm
  exact List.mem_map.mpr ⟨n,hn,a2u (h.lt n hn) hv e⟩
 ·intro hm
  obtain ⟨n,hn,rfl⟩:=List.mem_map.mp hm
  exact List.mem_map.mpr ⟨n,hn,rfl⟩
theorem a4l.len {ns:List Nd} (h:a4l ns):ns.length≤5:=by
 have h1:(ns.map (·.v)).length≤(List.range 5).length:=by
  refine List.Nodup.length_le_of_subset h.nd fun v hv=>?_
  obtain ⟨n,hn,rfl⟩:=List.mem_map.mp hv
  exact List.mem_range.mpr (h.lt n hn)
 simpa using h1
section
variable {w:World} {b1 b2:Bool} {D U:Nat} {S Sd NI:Addr} {t:Nat→Tok} {rd:Value} {po fi:Int} {es m:Nat}
noncomputable def b2t (ns:List Nd) (v:Nat) (ns':List Nd):Prop:=(v∈ns.map (·.v)∧ns'=ns)∨(v∉ns.map (·.v)∧∃n:Nd,An4 (n.v=v) (n.np=0) (n.su=[]) (ns'=ns++[n]))
theorem b2t.ok {ns ns':List Nd} {v:Nat} (h:a4l ns) (hv:v < 5) (ht:b2t ns v ns'):a4l ns':=by
 rcases ht with ⟨_,rfl⟩ | ⟨hn,n,rfl,_,_,rfl⟩
 ·exact h
 ·refine ⟨fun x hx=>?_,?_⟩
  ·rcases List.mem_append.mp hx with hx | hx
   ·exact h.lt x hx
   ·rw [List.mem_singleton] at hx;subst hx;exact hv
  ·rw [List.map_append,List.nodup_append]
   refine ⟨h.nd,List.nodup_cons.mpr ⟨List.not_mem_nil,List.nodup_nil⟩,fun a ha b hb=>?_⟩
   rw [List.map_singleton,List.mem_singleton] at hb
   subst hb
   rintro rfl
   exact hn ha
end
noncomputable abbrev e7r:Str:=l41
noncomputable abbrev e7w:Stmt:=a3i (a1e (a9n 9 2)) 3
noncomputable abbrev e9j (F:Addr):Env:=b6b (a9n 9 2) e7r 115 114 F []
noncomputable abbrev adC (Q F:Addr):Code:=b4o e7w (.ref Q) (e9j F)
noncomputable abbrev f5z (t:Nat→Tok) (S:Addr) (s:Str) (T:Addr):List Row:=[(b3g,t 0,.ref S),(b7m,t 1,.str s (t 2)),(a9x,t 3,.ref T)]
noncomputable abbrev e5b (t:Nat→Tok) (S:Addr) (s:Str) (T a:Addr):List Row:=f5z t S s T++[(b0p,t 4,.ref a)]
noncomputable abbrev f1j (t:Nat→Tok) (S:Addr) (s:Str) (T a:Addr) (p:Str) (b:Addr):List Row:=e5b t S s T a++[(d8h,t 5,.str p (t 6)),(b5l,t 7,.ref b)]
noncomputable def fnd (ns:List Nd) (v:Nat):Option Nd:=ns.find? fun x=>decide (x.v=v)
noncomputable def a3r (ns:List Nd) (v:Nat):Int:=match fnd ns v with
 | some n=>n.np
 | none=>0
noncomputable def a2t (ns:List Nd) (v:Nat):List Nat:=match fnd ns v with
 | some n=>n.su.map (·.1)
 | none=>[]
theorem a2s:∀{ns:List Nd} {n:Nd},a4l ns→n∈ns→fnd ns n.v=some n
 | m::ns,n,h,hn=>by
  unfold fnd
  have hnd:=h.nd
  rw [List.map_cons,List.nodup_cons] at hnd
  rcases List.mem_cons.mp hn with rfl | hn
  ·rw [List.find?_cons,show decide (n.v=n.v)=true from decide_eq_true rfl]
  ·have:¬m.v=n.v:=fun e=>hnd.1 (List.mem_map.mpr ⟨n,hn,e.symm⟩)
   rw [List.find?_cons,decide_eq_false this]
   exact a2s ⟨fun x hx=>h.lt x (.tail _ hx),hnd.2⟩ hn
theorem a6t {ns:List Nd} {v:Nat} (h:v∉ns.map (·.v)):fnd ns v=none:=by
 unfold fnd
 rw [List.find?_eq_none]
 intro x hx e
 exact h (List.mem_map.mpr ⟨x,hx,of_decide_eq_true e⟩)
theorem a7a {ns:List Nd} {v:Nat} (h:v∈ns.map (·.v)):∃n∈ns,n.v=v:=List.mem_map.mp h
theorem b3k {ns:List Nd} {k:Nat} {n n':Nd} (hk:ns[k]?=some n) (hv:n'.v=n.v):(ns.set k n').map (·.v)=ns.map (·.v):=by
 rw [List.map_set]
 exact set_same (by rw [List.getElem?_map,hk,hv];rfl)
theorem a3w {ns:List Nd} {k:Nat} {n n':Nd} (h:a4l ns) (hk:ns[k]?=some n) (hv:n'.v=n.v):a4l (ns.set k n'):=
 ⟨fun x hx=>by
  rcases List.mem_or_eq_of_mem_set hx with hx | rfl
  ·exact h.lt x hx
  ·rw [hv];exact h.lt n (List.mem_of_getElem? hk),by rw [b3k hk hv];exact h.nd⟩
theorem c2f {ns:List Nd} {k:Nat} {n n':Nd} (h:a4l ns) (hk:ns[k]?=some n) (hv:n'.v=n.v) (u:Nat):fnd (ns.set k n') u=if u=n.v then some n' else fnd ns u:=by
 have h':=a3w h hk hv
 obtain ⟨hl,hn⟩:=List.getElem?_eq_some_iff.mp hk
 by_cases hu:u=n.v
 ·rw [if_pos hu,hu,←hv]
  exact a2s h' (List.mem_set hl _)
 ·rw [if_neg hu]
  by_cases hm:u∈ns.map (·.v)
  ·obtain ⟨x,hx,rfl⟩:=a7a hm
   rw [a2s h hx]
   refine a2s h' ?_
   obtain ⟨i,hi,rfl⟩:=List.mem_iff_getElem.mp hx
   have hik:k≠i:=by rintro rfl;exact hu (by rw [hn])
   refine List.mem_iff_getElem.mpr ⟨i,by rw [List.length_set];exact hi,?_⟩
   rw [List.getElem_set_ne hik]
  ·rw [a6t hm,a6t (by rw [b3k hk hv];exact hm)]
theorem a1g {ns ns':List Nd} {v:Nat} (h:a4l ns) (hv:v < 5) (ht:b2t ns v ns') (u:Nat):a3r ns' u=a3r ns u∧a2t ns' u=a2t ns u∧(u∈ns'.map (·.v)↔u∈ns.map (·.v)∨u=v):=by
 have h':=ht.ok h hv
 rcases ht with ⟨hm,rfl⟩ | ⟨hm,n,rfl,h1,h2,rfl⟩
 ·exact ⟨rfl,rfl,fun z=>.inl z,fun z=>z.elim id fun e=>e▸hm⟩
 ·refine ⟨?_,?_,by rw [List.map_append];simp⟩
  all_goals
   simp only [a3r,a2t]
   by_cases hu:u∈ns.map (·.v)
   ·obtain ⟨x,hx,rfl⟩:=a7a hu
    rw [a2s h hx,a2s h' (List.mem_append_left _ hx)]
   ·rw [a6t hu]
    by_cases e:u=n.v
    ·rw [e,a2s h' (List.mem_append_right _ (.head _))]
     simp [h1,h2]
    ·rw [a6t (by rw [List.map_append];simp only [List.map_cons,List.map_nil,List.mem_append,List.mem_singleton];exact fun z=>z.elim hu e)]
theorem b1q:∀{ns:List Nd} {k:Nat} {n:Nd},ns[k]?=some n→∀n':Nd,(ndL (ns.set k n')).Perm (n'.led++ndL (ns.eraseIdx k))
 | [],k,n,h,_=>by simp at h
 | m::ns,0,n,h,n'=>.refl _
 | m::ns,k + 1,n,h,n'=>by
  have ih:=b1q (ns:=ns) (k:=k) (n:=n) (by simpa using h) n'
  show (m.led++ndL (ns.set k n')).Perm (n'.led++(m.led++ndL (ns.eraseIdx k)))
  refine (ih.append_left m.led).trans ?_
  rw [←List.append_assoc,←List.append_assoc]
  exact List.Perm.append_right _ List.perm_append_comm
theorem c4d {ns:List Nd} {k:Nat} {n:Nd} (h:ns[k]?=some n):(ndL ns).Perm (n.led++ndL (ns.eraseIdx k)):=by
 have:=b1q h n
 rwa [set_same h] at this
theorem a7i {ns:List Nd} {k:Nat} {n n':Nd} (hk:ns[k]?=some n) (hr:n'.row=n.row):(ns.set k n').map Nd.row=ns.map Nd.row:=by
 rw [List.map_set]
 exact set_same (by rw [List.getElem?_map,hk,hr];rfl)
structure d5x (ns:List Nd) (v:Nat) (ps:List Nat) (ns':List Nd):Prop where
 ok:a4l ns'
 mem:∀u,u∈ns'.map (·.v)↔u∈ns.map (·.v)∨u=v∨u∈ps
 np:∀u,a3r ns' u=a3r ns u + if u=v then (ps.length:Int) else 0
 su:∀u,a2t ns' u=a2t ns u++List.replicate (ps.count u) v
structure c5w (ns:List Nd) (v:Nat) (ps:List Nat) (ns':List Nd):Prop where
 ok:a4l ns'
 mem:∀u,u∈ns'.map (·.v)↔u∈ns.map (·.v)∨u∈ps
 np:∀u,a3r ns' u=a3r ns u
 su:∀u,a2t ns' u=a2t ns u++List.replicate (ps.count u) v
theorem c5w.nil {ns v} (h:a4l ns):c5w ns v [] ns:=⟨h,fun u=>by simp,fun u=>rfl,fun u=>by simp⟩
theorem a6w {ns:List Nd} {k:Nat} {n n':Nd} (h:a4l ns) (hk:ns[k]?=some n) (hv:n'.v=n.v) (u:Nat):a3r (ns.set k n') u=if u=n.v then n'.np else a3r ns u:=by
 unfold a3r
 rw [c2f h hk hv]
 by_cases hu:u=n.v
 ·simp only [if_pos hu]
 ·simp only [if_neg hu]
theorem a5n {ns:List Nd} {k:Nat} {n n':Nd} (h:a4l ns) (hk:ns[k]?=some n) (hv:n'.v=n.v) (u:Nat):a2t (ns.set k n') u=if u=n.v then n'.su.map (·.1) else a2t ns u:=by
 unfold a2t
 rw [c2f h hk hv]
 by_cases hu:u=n.v
 ·simp only [if_pos hu]
 ·simp only [if_neg hu]
theorem a4w {ns:List Nd} {k:Nat} {n:Nd} (h:a4l ns) (hk:ns[k]?=some n):a2t ns n.v=n.su.map (·.1):=by
 unfold a2t;rw [a2s h (List.mem_of_getElem? hk)]
theorem b0z {ns:List Nd} {k:Nat} {n:Nd} (h:a4l ns) (hk:ns[k]?=some n):a3r ns n.v=n.np:=by
 unfold a3r;rw [a2s h (List.mem_of_getElem? hk)]
theorem c5w.step {ns ns1 ns2 ns3:List Nd} {v p:Nat} {ps:List Nat} (a:c5w ns v ps ns1) (hp:p < 5) (ht:b2t ns1 p ns2) {k:Nat} {n n':Nd} (hk:ns2[k]?=some n) (hn:n.v=p) (hv:n'.v=n.v) (h1:n'.np=n.np) (h2:n'.su.map (·.1)=n.su.map (·.1)++[v]) (e:ns3=ns2.set k n'):c5w ns v (ps++[p]) ns3:=by
 subst e
 have ok2:=ht.ok a.ok hp
 refine ⟨a3w ok2 hk hv,fun u=>?_,fun u=>?_,fun u=>?_⟩
 ·rw [b3k hk hv,(a1g a.ok hp ht u).2.2,a.mem u,List.mem_append,List.mem_singleton,or_assoc]
 ·rw [a6w ok2 hk hv]
  by_cases hu:u=n.v
  ·rw [if_pos hu,h1,←b0z ok2 hk,←hu,(a1g a.ok hp ht u).1,a.np u]
  ·rw [if_neg hu,(a1g a.ok hp ht u).1,a.np u]
 ·rw [a5n ok2 hk hv,List.count_append]
  by_cases hu:u=n.v
  ·have hup:u=p:=hu.trans hn
   rw [if_pos hu,h2,←a4w ok2 hk,←hu,(a1g a.ok hp ht u).2.1,a.su u,hup]
   rw [List.count_singleton_self,List.append_assoc,←List.replicate_succ']
  ·have hup:¬u=p:=fun z=>hu (z.trans hn.symm)
   rw [if_neg hu,(a1g a.ok hp ht u).2.1,a.su u]
   have:List.count u [p]=0:=List.count_eq_zero.mpr (by simpa using hup)
   rw [this];simp
theorem c5u (su:List (Nat×Tok)) (v:Nat) (t:Tok):(suV su).push (.str (nm v) t)=suV (su++[(v,t)]):=by simp [suV]
theorem a3d (su:List (Nat×Tok)):(suV su).size=su.length:=by simp [suV]
noncomputable abbrev d2x:Str:=l43
noncomputable abbrev d8q:Str:=l44
noncomputable abbrev e9h:Stmt:=a3i (a1e (a9n 9 4)) 3
noncomputable abbrev e4w (F:Addr):Env:=b6b (a9n 9 4) d2x 127 126 F []
noncomputable abbrev grC (Q F:Addr):Code:=b4o e9h (.ref Q) (e4w F)
noncomputable abbrev e3j (S:Addr):Code:=.call (.ref 127) ⟨[.ref S],[]⟩
noncomputable abbrev e0c (S:Addr):Code:=.call (.ref 134) ⟨[.ref S],[]⟩
noncomputable abbrev f0i (t:Nat→Tok) (S R N:Addr):List Row:=[(b3g,t 0,.ref S),(b6o,t 1,.ref R),(d3r,t 2,.ref N)]
noncomputable abbrev f4i (t:Nat→Tok) (S R N:Addr) (s:Str):List Row:=f0i t S R N++[(b7m,t 3,.str s (t 4))]
noncomputable abbrev e3k:Stmt:=a3i (a1e (a9n 9 7)) 2
noncomputable abbrev e3g:Stmt:=a3i (lpB e3k) 4
noncomputable abbrev e2z (F:Addr):Env:=b6b (a9n 9 7) d8q 148 147 F []
noncomputable abbrev dnC (Q F:Addr):Code:=b4o e3k (.ref Q) (e2z F)
noncomputable abbrev f2z (Q F:Addr):Code:=b4o e3g (.ref Q) (e2z F)
noncomputable abbrev d8m (S:Addr) (ps:List Value):Code:=.call (.ref 148) ⟨.ref S::ps,[]⟩
noncomputable def f5v:Tab:=f4u.addB "proto.collect" (fun _=>d1r) fun w=>c0n
structure a6x (ns:List Nd) (ps:List Nat) (ns':List Nd):Prop where
 ok:a4l ns'
 vs:ns'.map (·.v)=ns.map (·.v)
 row:ns'.map Nd.row=ns.map Nd.row
 np:∀u,a3r ns' u=if u∈ps then -1 else a3r ns u
 su:∀u,a2t ns' u=a2t ns u
theorem a6x.nil {ns} (h:a4l ns):a6x ns [] ns:=⟨h,rfl,rfl,fun u=>by simp,fun u=>rfl⟩
theorem a6x.step {ns ns1:List Nd} {ps:List Nat} (a:a6x ns ps ns1) {k:Nat} {n n':Nd} (hk:ns1[k]?=some n) (hv:n'.v=n.v) (hr:n'.row=n.row) (h1:n'.np= -1) (h2:n'.su=n.su):a6x ns (ps++[n.v]) (ns1.set k n'):=by
 refine ⟨a3w a.ok hk hv,by rw [b3k hk hv,a.vs],by rw [a7i hk hr,a.row],fun u=>?_,fun u=>?_⟩
 ·rw [a6w a.ok hk hv,a.np u]
  by_cases hu:u=n.v
  ·rw [if_pos hu,h1,if_pos (by rw [hu];simp)]
  ·rw [if_neg hu]
   have:(u∈ps++[n.v])↔u∈ps:=by simp [hu]
   simp only [this]
 ·rw [a5n a.ok hk hv]
  by_cases hu:u=n.v
  ·rw [if_pos hu,h2,hu,←a4w a.ok hk,a.su]
  ·rw [if_neg hu,a.su u]
noncomputable abbrev f3g (t:Nat→Tok) (S T:Addr):List Row:=[(b3g,t 0,.ref S),(d4u,t 1,.ref T)]
noncomputable abbrev e6v (t:Nat→Tok) (S T N:Addr):List Row:=f3g t S T++[(d3r,t 2,.ref N)]
noncomputable abbrev f0z (t:Nat→Tok) (S T N:Addr) (s:Str) (a:Addr) (x:Int):List Row:=e6v t S T N++[(b7m,t 3,.str s (t 4)),(b0p,t 5,.ref a),(e0p,t 6,.int x (t 7))]
noncomputable abbrev f3j (t:Nat→Tok) (S T N:Addr) (s:Str) (a:Addr) (x:Int) (p:Str) (b:Addr):List Row:=f0z t S T N s a x++[(b5q,t 8,.str p (t 9)),(a8e,t 10,.ref b)]
noncomputable def obL (ns:List Nd):Led:=ns.map Nd.ob
noncomputable def liL (ns:List Nd):Led:=ns.map Nd.li
theorem a9k:∀ns:List Nd,(ndL ns).Perm (obL ns++liL ns)
 | []=>.refl _
 | n::ns=>by
  have ih:=a9k ns
  show (n.ob::n.li::ndL ns).Perm (n.ob::(obL ns++n.li::liL ns))
  exact (((ih.cons n.li).trans List.perm_middle.symm)).cons n.ob
theorem a8g:∀{ns:List Nd} {k:Nat} {n:Nd},ns[k]?=some n→∀n':Nd,(obL (ns.set k n')).Perm (n'.ob::obL (ns.eraseIdx k))
 | [],k,n,h,_=>by simp at h
 | m::ns,0,n,h,n'=>.refl _
 | m::ns,k + 1,n,h,n'=>by
  have ih:=a8g (ns:=ns) (k:=k) (n:=n) (by simpa using h) n'
  exact (ih.cons m.ob).trans (.swap ..)
theorem c4t {ns:List Nd} {k:Nat} {n:Nd} (h:ns[k]?=some n):(obL ns).Perm (n.ob::obL (ns.eraseIdx k)):=by
 have:=a8g h n
 rwa [set_same h] at this
theorem c0f {ns:List Nd} {k:Nat} {n n':Nd} (h:ns[k]?=some n) (e:n'.li=n.li):liL (ns.set k n')=liL ns:=by
 unfold liL
 rw [List.map_set]
 exact set_same (by rw [List.getElem?_map,h,e];rfl)
structure b9f (ns:List Nd) (rd:List (Nat×Tok)) (ps:List Nat) (ns':List Nd) (rd':List (Nat×Tok)):Prop where
 ok:a4l ns'
 vs:ns'.map (·.v)=ns.map (·.v)
 row:ns'.map Nd.row=ns.map Nd.row
 li:liL ns'=liL ns
 np:∀u,a3r ns' u=a3r ns u - if u∈ns.map (·.v) then (ps.count u:Int) else 0
 su:∀u,a2t ns' u=a2t ns u
 rd:∃A:List (Nat×Tok),rd'=rd++A∧(A.map (·.1)).Nodup∧∀u,u∈A.map (·.1)↔1≤a3r ns u∧a3r ns u≤(ps.count u:Int)
theorem b9f.nil {ns rd} (h:a4l ns):b9f ns rd [] ns rd:=⟨h,rfl,rfl,rfl,fun u=>by simp,fun u=>rfl,[],by simp,by simp,fun u=>by simp;simp +arith⟩
theorem b9f.step {ns ns1:List Nd} {rd rd1:List (Nat×Tok)} {ps:List Nat} (a:b9f ns rd ps ns1 rd1) {k:Nat} {n n':Nd} (hk:ns1[k]?=some n) (hv:n'.v=n.v) (hr:n'.row=n.row) (hl:n'.li=n.li) (h1:n'.np=n.np - 1) (h2:n'.su=n.su) (t:Tok):
  b9f ns rd (ps++[n.v]) (ns1.set k n') (if n.np - 1=0 then rd1++[(n.v,t)] else rd1):=by
 have hin:n.v∈ns.map (·.v):=by rw [←a.vs];exact List.mem_map_of_mem (List.mem_of_getElem? hk)
 have hnp:n.np=a3r ns n.v - (ps.count n.v:Int):=by
  have:=a.np n.v
  rw [b0z a.ok hk,if_pos hin] at this
  exact this
 have hc:∀u,(ps++[n.v]).count u=ps.count u + if u=n.v then 1 else 0:=fun u=>by
  rw [List.count_append,List.count_singleton]
  congr 1
  by_cases hu:u=n.v
  ·subst hu;simp
  ·have:¬n.v=u:=fun z=>hu z.symm
   simp [hu,this]
 refine ⟨a3w a.ok hk hv,by rw [b3k hk hv,a.vs],by rw [a7i hk hr,a.row],by rw [c0f hk hl,a.li],fun u=>?_,fun u=>?_,?_⟩
 ·rw [a6w a.ok hk hv,hc]
  by_cases hu:u=n.v
  ·rw [if_pos hu,h1,if_pos hu,hu,if_pos hin,hnp];push_cast;simp +arith
  ·rw [if_neg hu,if_neg hu,a.np u];simp
 ·rw [a5n a.ok hk hv]
  by_cases hu:u=n.v
  ·rw [if_pos hu,h2,hu,←a4w a.ok hk,a.su]
  ·rw [if_neg hu,a.su u]
 ·obtain ⟨A,hA,hnd,hm⟩:=a.rd
  by_cases hz:n.np - 1=0
  ·rw [if_pos hz]
   refine ⟨A++[(n.v,t)],by rw [hA,List.append_assoc],?_,fun u=>?_⟩
   ·rw [List.map_append,List.nodup_append]
    refine ⟨hnd,List.nodup_cons.mpr ⟨List.not_mem_nil,List.nodup_nil⟩,fun x hx y hy=>?_⟩
    rw [List.map_singleton,List.mem_singleton] at hy
    subst hy
    rintro rfl
    have:=(hm n.v).mp hx
    omega
   ·rw [List.map_append,List.mem_append,hm u,List.map_singleton,List.mem_singleton,hc]
    by_cases hu:u=n.v
    ·subst hu;rw [if_pos rfl];push_cast;constructor
     ·intro z;omega
     ·intro z;exact .inr rfl
    ·rw [if_neg hu]
     constructor
     ·intro z;rcases z with z | z
      ·exact ⟨z.1,by push_cast;omega⟩
      ·exact absurd z hu
     ·intro z;exact .inl ⟨z.1,by push_cast at z;omega⟩
  ·rw [if_neg hz]
   refine ⟨A,hA,hnd,fun u=>?_⟩
   rw [hm u,hc]
   by_cases hu:u=n.v
   ·subst hu;rw [if_pos rfl];push_cast;omega
   ·rw [if_neg hu];push_cast;simp +arith
noncomputable def b0u (ns:List Nd) (ps:List Nat) (u:Nat):Int:=(ps.map fun v=>((a2t ns v).count u:Int)).sum
theorem b6y (ns:List Nd) (ps:List Nat) (v u:Nat):b0u ns (ps++[v]) u=b0u ns ps u + ((a2t ns v).count u:Int):=by simp [b0u]
theorem a8w (ns:List Nd):∀(ps:List Nat) (u:Nat),0≤b0u ns ps u
 | [],u=>by simp [b0u]
 | v::ps,u=>by
  have:=a8w ns ps u
  unfold b0u at this ⊢
  rw [List.map_cons,List.sum_cons]
  omega
structure a8b (ns:List Nd) (rd:List (Nat×Tok)) (ps:List Nat) (ns':List Nd) (rd':List (Nat×Tok)):Prop where
 ok:a4l ns'
 vs:ns'.map (·.v)=ns.map (·.v)
 row:ns'.map Nd.row=ns.map Nd.row
 np:∀u,u∈ns.map (·.v)→a3r ns' u=if u∈ps then -2 else a3r ns u - b0u ns ps u
 su:∀u,a2t ns' u=a2t ns u
 rd:∃A:List (Nat×Tok),rd'=rd++A∧(A.map (·.1)).Nodup∧∀u,u∈A.map (·.1)↔u∈ns.map (·.v)∧1≤a3r ns u∧a3r ns u≤b0u ns ps u
theorem a8b.nil {ns rd} (h:a4l ns):a8b ns rd [] ns rd:=⟨h,rfl,rfl,fun u _=>by simp [b0u],fun u=>rfl,[],by simp,by simp,fun u=>by simp [b0u];simp +arith⟩
theorem b4u {ns:List Nd} {u:Nat} (h:u∉ns.map (·.v)):a3r ns u=0:=by unfold a3r;rw [a6t h]
theorem a8b.step {ns ns1 ns2:List Nd} {rd rd1 rd2:List (Nat×Tok)} {ps:List Nat} (a:a8b ns rd ps ns1 rd1) {k:Nat} {n n':Nd} (hk:ns1[k]?=some n) (hv:n'.v=n.v) (hr:n'.row=n.row) (h1:n'.np= -2) (h2:n'.su=n.su)
  (hnin:n.v∉ps) (hm1:a3r ns n.v= -1) (hfree:∀x∈ps++[n.v],x∉a2t ns n.v) (hpm:∀x∈ps,a3r ns x= -1)
  (b:b9f (ns1.set k n') rd1 (a2t ns n.v) ns2 rd2):a8b ns rd (ps++[n.v]) ns2 rd2:=by
 have hin:n.v∈ns.map (·.v):=by rw [←a.vs];exact List.mem_map_of_mem (List.mem_of_getElem? hk)
 have hv1:=b3k hk hv
 have hvs:(ns1.set k n').map (·.v)=ns.map (·.v):=by rw [hv1,a.vs]
 have hnp1:∀u,u∈ns.map (·.v)→a3r (ns1.set k n') u=if u∈ps++[n.v] then -2 else a3r ns u - b0u ns ps u:=fun u hu=>by
  rw [a6w a.ok hk hv]
  by_cases e:u=n.v
  ·rw [if_pos e,h1,if_pos (by rw [e];simp)]
  ·rw [if_neg e,a.np u hu]
   have:(u∈ps++[n.v])↔u∈ps:=by simp [e]
   simp only [this]
 refine ⟨b.ok,by rw [b.vs,hvs],by rw [b.row,a7i hk hr,a.row],fun u hu=>?_,fun u=>?_,?_⟩
 ·rw [b.np u,hvs,if_pos hu,hnp1 u hu]
  by_cases e:u∈ps++[n.v]
  ·rw [if_pos e,if_pos e,List.count_eq_zero.mpr (hfree u e)];simp
  ·rw [if_neg e,if_neg e,b6y];simp +arith
 ·rw [b.su u,a5n a.ok hk hv]
  by_cases e:u=n.v
  ·rw [if_pos e,h2,e,←a4w a.ok hk,a.su]
  ·rw [if_neg e,a.su u]
 ·obtain ⟨A,hA,hAn,hAm⟩:=a.rd
  obtain ⟨B,hB,hBn,hBm⟩:=b.rd
  have hBm':∀u,u∈B.map (·.1)↔u∈ns.map (·.v)∧u∉ps++[n.v]∧1≤a3r ns u - b0u ns ps u∧a3r ns u - b0u ns ps u≤((a2t ns n.v).count u:Int):=fun u=>by
   rw [hBm u]
   by_cases hu:u∈ns.map (·.v)
   ·rw [hnp1 u hu]
    by_cases e:u∈ps++[n.v]
    ·rw [if_pos e]
     exact ⟨fun z=>by omega,fun z=>absurd e z.2.1⟩
    ·rw [if_neg e]
     exact ⟨fun z=>⟨hu,e,z⟩,fun z=>z.2.2⟩
   ·rw [b4u (by rw [hvs];exact hu)]
    exact ⟨fun z=>by omega,fun z=>absurd z.1 hu⟩
  refine ⟨A++B,by rw [hB,hA,List.append_assoc],?_,fun u=>?_⟩
  ·rw [List.map_append,List.nodup_append]
   refine ⟨hAn,hBn,fun x hx y hy=>?_⟩
   rintro rfl
   have z1:=(hAm x).mp hx
   have z2:=(hBm' x).mp hy
   omega
  ·rw [List.map_append,List.mem_append,hAm u,hBm' u,b6y]
   constructor
   ·rintro (z | z)
    ·exact ⟨z.1,z.2.1,by omega⟩
    ·have:=a8w ns ps u
     exact ⟨z.1,by omega,by omega⟩
   ·rintro ⟨z1,z2,z3⟩
    by_cases e:a3r ns u≤b0u ns ps u
    ·exact .inl ⟨z1,z2,e⟩
    ·refine .inr ⟨z1,fun z=>?_,by omega,by omega⟩
     rcases List.mem_append.mp z with z | z
     ·rw [hpm u z] at z2;omega
     ·rw [List.mem_singleton] at z;rw [z,hm1] at z2;omega
theorem b7h:∀{ns:List Nd} {k:Nat} {n:Nd},ns[k]?=some n→(liL ns).Perm (n.li::liL (ns.eraseIdx k))
 | [],k,n,h=>by simp at h
 | m::ns,0,n,h=>by
  simp only [List.getElem?_cons_zero,Option.some.injEq] at h
  subst h;exact .refl _
 | m::ns,k + 1,n,h=>by
  have ih:=b7h (ns:=ns) (k:=k) (n:=n) (by simpa using h)
  exact (ih.cons m.li).trans (.swap ..)
theorem b2n {ns:List Nd} {u:Nat}:∀{ps:List Nat},(∀v∈ps,u∉a2t ns v)→b0u ns ps u=0
 | [],_=>by simp [b0u]
 | v::ps,h=>by
  have ih:=b2n (ns:=ns) (u:=u) (ps:=ps) fun x hx=>h x (.tail _ hx)
  unfold b0u at ih ⊢
  rw [List.map_cons,List.sum_cons,ih,List.count_eq_zero.mpr (h v (.head _))]
  rfl
noncomputable def a6r (w:World) (o:Obj) (S:Str→Bool) (n:Nat):Prop:=o.SetObjOf (strKind prog w) S n
section
variable {w:World} {D U:Nat} {a:Addr} {o:Obj} {S:Str→Bool} {n:Nat} {s:Str} {t:Tok}
theorem a5m (s:Str) (t:Tok):(strKind prog w).is s (.str s t)=true:=by
 show Value.isStrOf s (.str s t)=true
 show (s == s)=true
 simp
theorem c1f (hS:a6r w o S n) (hn:n + 1 < scanBound):a0y w D U (.call (.builtin "set.add") ⟨[.ref a,.str s t],[]⟩) [(a,o)] (fun r L=>r= .ok (.ret .none)∧∃o',a6r w o' (fun k=>S k || decide (k=s)) (if S s then n else n + 1)∧L=[(a,o')]):=by
 intro A σ hA Sa
 have ho:=Sa.led (a,o) (.head _)
 have hSo:σ.heap.SetOf (strKind prog w) a S n:=hS.setOf ho (by omega)
 refine codeAny_call_builtin F.slot_set_add.plain F.entry_set_add (F.slot_set_add.check _ _ _ _ _ _ _ _ hSo.typeIs (F.args_set_add_2 _ _) ?_)
 unfold Builtin.«set.add» Builtin.Frozenset.oneOther
 simp only [List.isEmpty_nil,bind_assoc]
 unfold Builtin.Frozenset.addrOf setAdd
 refine wpAny_bind (wpAny_pure ?_)
 try dsimp only
 refine wpAny_bind (wpAny_pure ?_)
 try dsimp only
 refine wpAny_bind ?_
 refine wpAny_holding ?_
 refine wpAny_bind ((strKind prog w).pyHash (a5m s t) ?_)
 refine wpAny_setAddHashed_of (s:={ σ with toks:=σ.toks + 1 }) (a5m s t) rfl hSo hn fun h' hsb hS'=>?_
 show wpAny _ _ (ret Value.none) _ _ _
 obtain ⟨o',ho',hO'⟩:=hS'.objOf
 refine wpAny_pure ⟨[(a,o')],⟨rfl,o',hO',rfl⟩,⟨fun q hq=>?_,List.nodup_cons.mpr ⟨List.not_mem_nil,List.nodup_nil⟩,fun x ob hx=>?_,fun q hq=>?_,Nat.le_trans Sa.tok (Nat.le_succ _)⟩,⟨fun b ob hb hn'=>?_,?_,Nat.le_succ _,fun z=>z,rfl⟩,fun x hx=>.inl hx⟩
 ·rw [List.mem_singleton] at hq;subst hq;exact ho'
 ·have ne:x≠a:=fun z=>by have:=Sa.nk (a,o) (.head _);rw [←z,hx] at this;cases this
  exact (hsb.2 x ne).trans (Sa.kk x ob hx)
 ·rw [List.mem_singleton] at hq;subst hq;exact Sa.nk (a,o) (.head _)
 ·exact (hsb.2 b fun z=>hn' (by rw [z];exact .head _)).trans hb
 ·exact Nat.le_of_eq hsb.1.symm
theorem c3m (hS:a6r w o S n) (hn:n < scanBound):a0y w D U (.call (.builtin "set.__contains__") ⟨[.ref a,.str s t],[]⟩) [(a,o)] (fun r L=>r= .ok (.ret (.bool (S s)))∧L=[(a,o)]):=by
 intro A σ hA Sa
 have ho:=Sa.led (a,o) (.head _)
 have hSo:σ.heap.SetOf (strKind prog w) a S n:=hS.setOf ho hn
 refine codeAny_call_builtin F.slot_set_contains.plain entry_set_contains (F.slot_set_contains.check _ _ _ _ _ _ _ _ hSo.typeIs (F.args_set_contains_2 _ _) ?_)
 unfold Builtin.«frozenset.__contains__» Builtin.Frozenset.oneOther
 simp only [List.isEmpty_nil,bind_assoc]
 unfold Builtin.Frozenset.addrOf Builtin.Frozenset.withSetAsKey setContains
 refine wpAny_bind (wpAny_pure ?_)
 try dsimp only
 refine wpAny_bind (wpAny_pure ?_)
 try dsimp only
 refine wpAny_bind (wpAny_tryCatch ?_)
 refine wpAny_holding ?_
 refine wpAny_bind ((strKind prog w).pyHash (a5m s t) ?_)
 refine wpAny_bind (wpAny_setFind_of (s:={ σ with toks:=σ.toks + 1 }) (a5m s t) rfl hSo fun r hr=>?_)
 refine wpAny_pure ?_
 show wpAny _ _ (ret (Value.bool r.isSome)) _ _ _
 rw [hr]
 exact wpAny_pure ⟨[(a,o)],⟨rfl,rfl⟩,Sa.fresh _ (Nat.le_succ _),(Ext.fresh _ (Nat.le_succ _)).weak,a0j.refl _ _⟩
end
noncomputable def f4r:Tab:=(f5v.add "set.add" (fun _=>a8r) fun w=>a3s).add "set.__contains__" (fun _=>a8r) fun w=>a3s
noncomputable abbrev d9v:Str:=l45
noncomputable abbrev e0q (S:Addr):Code:=.call (.ref 155) ⟨[.ref S],[]⟩
noncomputable abbrev e2o:Stmt:=a3i (a1e (a9n 9 8)) 5
noncomputable abbrev a1x (F:Addr):Env:=b6b (a9n 9 8) d9v 155 154 F []
noncomputable abbrev fcC (Q F:Addr):Code:=b4o e2o (.ref Q) (a1x F)
noncomputable abbrev e8n (t:Nat→Tok) (S NI A B C D:Addr):List Row:=[(b3g,t 0,.ref S),(d3r,t 1,.ref NI),(d4i,t 2,.ref A),(c3s,t 3,.ref B),(e3n,t 4,.ref C),(b1y,t 5,.ref D)]
noncomputable def f6i:Tab:=f4r.add "dict.__iter__" (fun _=>c8b) fun w=>c6w
noncomputable def f3i:Tab:=f6i.add "dict_keyiterator.__next__" (fun _=>pVN false) fun w=>b6k
noncomputable def f2b:Tab:=f3i.add "list.__getitem__" (fun _=>d4v) fun w=>c2r
noncomputable def b7r (P:Params) (b:Bool) (n:Nat):Option PFn:=match b with
 | true=>none
 | false=>match Nat.beq (PySem.W.S.codeS "list.pop") n with
  | true=>some e3z
  | false=>match Nat.beq (PySem.W.S.codeS "dict.__delitem__") n with
   | true=>some (d4e P)
   | false=>none
theorem c2v (w:World) (e:Value):a5q w (KK w.params) (some e) (b7r w.params):=by
 intro b id p hp hs args L s A tok₀ f₀ q₀ hA hq hes hob S
 unfold b7r at hp
 cases b with
 | true=>cases hp
 | false=>
  simp only at hp
  split at hp
  ·rename_i h
   cases hp
   have:"list.pop"=id:=b9x (Nat.eq_of_beq_eq_true h) (PySem.W.S.code_S _)
   subst this
   exact c0b hs args L s A tok₀ f₀ q₀ hA hq hes hob S
  ·split at hp
   ·rename_i h
    cases hp
    have:"dict.__delitem__"=id:=b9x (Nat.eq_of_beq_eq_true h) (PySem.W.S.code_S _)
    subst this
    exact c1o hs args L s A tok₀ f₀ q₀ hA hq hes hob S
   ·cases hp
section
variable {w:World} {D U:Nat} {L M F L':Led}
noncomputable abbrev xh (w:World) (e:Value) (fr:Nat→Addr) (tk:Nat→Tok) (hs:List Nat) (c:Code) (fs:List Fr) (t:Sem PySem.Fin) (L:Led):Out:=Mine.exec (vx w (KK w.params) (some e) (b7r w.params) fr tk) 3000 hs c fs t L 0 0 [] []
end
noncomputable def c8k:Tab:=(f2b.add "dict.values" (fun _=>c8t) fun w=>c7e).add "dict_valueiterator.__next__" (fun _=>pVN true) fun w=>b7y
theorem b5w:plainId "list_iterator.__next__"=true:=slot_listiter_next.plain
noncomputable abbrev wob (ia:Addr):Obj:=⟨.type "method-wrapper",none,.fields ⟨[.builtin "list_iterator.__next__",.ref ia]⟩,⟨[]⟩⟩
theorem b5k (ia:Addr):checkBoundCall "list_iterator.__next__" ⟨[.ref ia],[]⟩=pure ():=by first | kernel_rfl | rfl
section
variable {w:World} {D U:Nat} {wa ia l:Addr} {k:Nat} {t:Tok} {ys:Array Value} {ls:Nat}
theorem d8v {L:Led} {R:a6i} (hw:(wa,wob ia)∈L) (h:∀A s,A.handled=none→a4s w L s→codeAny (model prog w) A (.builtin "list_iterator.__next__" ⟨[.ref ia],[]⟩) (Res w L s R) s):a0y w D U (.call (.ref wa) ⟨[],[]⟩) L R:=by
 intro A s hA S
 refine x_code ?_
 show wpAny _ _ (callAny (.ref wa) ⟨[],[]⟩) _ _ s
 unfold callAny
 refine wpAny_bind (wpAny_load (S.led _ hw) ?_)
 show wpAny _ _ (checkBoundCall "list_iterator.__next__" ⟨[.ref ia],[]⟩ >>=_) _ _ s
 rw [b5k]
 refine wpAny_bind (wpAny_pure ?_)
 exact wpAny_pure ⟨plainId_quiet b5w _,h A s hA.handled S⟩
theorem d2r (hk:k < ys.size):a0y w D U (.call (.ref wa) ⟨[],[]⟩) [(wa,wob ia),(ia,a0z (.ref l) k t),(l,a0a ys ls)]
  (fun r L=>r= .ok (.ret (nth ys k))∧L=[(wa,wob ia),(ia,a0z (.ref l) (k + 1) 0),(l,a0a ys ls)]):=by
 refine d8v (.head _) fun A s hh S=>?_
 refine codeAny_mono (b7b [1,2,1,0] ⟨[.ref ia],[]⟩ [(wa,wob ia),(ia,a0z (.ref l) k t),(l,a0a ys ls)] s A 1 (fun _=>0) ⟨.ok (.ret (nth ys k)),[(wa,wob ia),(ia,a0z (.ref l) (k + 1) 0),(l,a0a ys ls)],0,[],[(ia,ia),(l,l)],[0≤(k:Int),(k:Int) < ys.size]⟩ hh rfl (fun p hp=>?_) (fun x hx=>?_) S) fun r s' hr=>?_
 ·rcases List.mem_cons.mp hp with rfl | hp
  ·rfl
  ·rw [List.mem_singleton] at hp;subst hp;rfl
 ·rcases List.mem_cons.mp hx with rfl | hx
  ·exact Int.natCast_nonneg _
  ·rw [List.mem_singleton] at hx;subst hx;exact Int.ofNat_lt.mpr (by assumption)
 ·obtain ⟨tok,f,q,_,hq,rfl,S',E',G'⟩:=hr
  have:=hq f (a2b.refl _ _)
  have e:q=⟨.ok (.ret (nth ys k)),[(wa,wob ia),(ia,a0z (.ref l) (k + 1) 0),(l,a0a ys ls)],0,[],[(ia,ia),(l,l)],[0≤(k:Int),(k:Int) < ys.size]⟩:=(Option.some.inj this).symm
  subst e
  exact ⟨_,⟨rfl,rfl⟩,S',E'.weak,G'⟩
theorem d6n (hk:ys.size≤k):a0y w D U (.call (.ref wa) ⟨[],[]⟩) [(wa,wob ia),(ia,a0z (.ref l) k t),(l,a0a ys ls)]
  (fun r L=>Ey2 fun x e=>r= .error (.ref e)∧L=[(l,a0a ys ls),(x,a9u),(e,a5r x)]):=by
 refine d8v (.head _) fun A s hh S=>?_
 refine codeAny_mono (b7b [1,2,0,0] ⟨[.ref ia],[]⟩ [(wa,wob ia),(ia,a0z (.ref l) k t),(l,a0a ys ls)] s A 1 (fun _=>0) ⟨.error (.ref 0),[(wa,wob ia),(ia,a7t (a0z (.ref l) k t) [.none,.int k t]),(l,a0a ys ls),(0,a9u),(0,a5r 0)],2,[],[(ia,ia),(l,l)],[0≤(k:Int),(ys.size:Int)≤k]⟩ hh rfl (fun p hp=>?_) (fun x hx=>?_) S) fun r s' hr=>?_
 ·rcases List.mem_cons.mp hp with rfl | hp
  ·rfl
  ·rw [List.mem_singleton] at hp;subst hp;rfl
 ·rcases List.mem_cons.mp hx with rfl | hx
  ·omega
  ·rw [List.mem_singleton] at hx;subst hx;exact Int.ofNat_le.mpr (by assumption)
 ·obtain ⟨tok,f,q,_,hq,rfl,S',E',G'⟩:=hr
  have:=hq f (a2b.refl _ _)
  have e:q=⟨.error (.ref (f 1)),[(wa,wob ia),(ia,a7t (a0z (.ref l) k t) [.none,.int k t]),(l,a0a ys ls),(f 0,a9u),(f 1,a5r (f 0))],2,[],[(ia,ia),(l,l)],[0≤(k:Int),(ys.size:Int)≤k]⟩:=(Option.some.inj this).symm
  subst e
  have hp:a2i [(l,a0a ys ls),(f 0,a9u),(f 1,a5r (f 0))] [(wa,wob ia),(ia,a7t (a0z (.ref l) k t) [.none,.int k t]),(l,a0a ys ls),(f 0,a9u),(f 1,a5r (f 0))]:=.skip _ (.skip _ (.refl _))
  exact ⟨_,⟨f 0,f 1,rfl,rfl⟩,S'.part hp,E'.weak,G'.part hp⟩
end
noncomputable def a1k (P:Params) (rows:List Row) (n:Nat) (sl:Array (Option Value)):Obj:=⟨.type "frame",none,.dict ⟨a0k P rows⟩ n,sl⟩
inductive a4p:Led→Led→Prop
 | nil:a4p [] []
 | cons (a:Addr) (o:Obj) (sl:Array (Option Value)) {G G':Led} (h:a4p G G'):a4p ((a,o)::G) ((a,{ o with slots:=sl })::G')
theorem a4p.refl:∀G:Led,a4p G G
 | []=>.nil
 | (a,o)::G=>.cons a o o.slots (a4p.refl G)
theorem a4p.trans {G G₁:Led} (h:a4p G G₁):∀{G₂},a4p G₁ G₂→a4p G G₂:=by
 induction h with
 | nil=>intro G₂ h;exact h
 | cons a o sl h ih=>
  intro G₂ h2
  cases h2 with
  | cons _ _ sl2 h2=>exact .cons a o sl2 (ih h2)
theorem a4p.keys {G G':Led} (h:a4p G G'):G'.map (·.1)=G.map (·.1):=by
 induction h with
 | nil=>rfl
 | cons a o sl h ih=>rw [List.map_cons,List.map_cons,ih]
inductive b1c:List Env→Led→Prop
 | nil:b1c [] []
 | cons (e:Env) (a:Addr) (o:Obj) {es:List Env} {G:Led} (hk:e.scope.kind≠.module) (hf:e.frame=some a) (hd:∀vs,o.data≠.fields vs) (h:b1c es G):b1c (e::es) ((a,o)::G)
theorem b1c.slEq {es:List Env} {G:Led} (h:b1c es G):∀{G'},a4p G G'→b1c es G':=by
 induction h with
 | nil=>intro G' h;cases h;exact .nil
 | cons e a o hk hf hd h ih=>
  intro G' h2
  cases h2 with
  | cons _ _ sl h2=>exact .cons e a _ hk hf hd (ih h2)
theorem b1c.keys {es:List Env} {G:Led} (h:b1c es G):es.filterMap (·.frame)=G.map (·.1):=by
 induction h with
 | nil=>rfl
 | cons e a o hk hf hd h ih=>rw [List.filterMap_cons,hf,List.map_cons,ih]
theorem b1c.fun {es:List Env} {G:Led} (h:b1c es G) {H:Heap}:(∀q∈G,H.get? q.1=some q.2)→H.FunFrames default es:=by
 induction h with
 | nil=>intro _;trivial
 | cons e a o hk hf hd h ih=>intro hg;exact ⟨hk,⟨a,o,hf,rfl,hg (a,o) (.head _),hd⟩,ih fun x hx=>hg x (.tail _ hx)⟩
theorem b4a {h h':Heap} (k:∀b o,h.get? b=some o→∃sl,h'.get? b=some { o with slots:=sl }):∀(G:Led),(∀q∈G,h.get? q.1=some q.2)→∃G',a4p G G'∧∀q∈G',h'.get? q.1=some q.2
 | [],_=>⟨[],.nil,fun _ hq=>nomatch hq⟩
 | (a,o)::G,hg=>by
  obtain ⟨G',h1,h2⟩:=b4a k G fun x hx=>hg x (.tail _ hx)
  obtain ⟨sl,hs⟩:=k a o (hg (a,o) (.head _))
  exact ⟨(a,{ o with slots:=sl })::G',.cons a o sl h1,fun x hx=>by
   rcases List.mem_cons.mp hx with rfl | hx
   ·exact hs
   ·exact h2 x hx⟩
noncomputable abbrev e4n (D U:Nat) (es:List Env) (A:Around):Prop:=b1v A D U∧A.frames=some es
noncomputable def b2s (w:World) (D U:Nat) (es:List Env) (c:Code) (L:Led) (R:a6i):Prop:=∀A s,e4n D U es A→a4s w L s→codeAny (model prog w) A c (Res w L s R) s
noncomputable def a1r (w:World) (D U:Nat) (es:List Env) {α:Type} (x:Sem α) (L:Led) (Q:α→Led→Prop):Prop:=∀A s E,e4n D U es A→a4s w L s→wpAny (model prog w) A x (Res w L s Q) E s
noncomputable def e2h (w:World) (D U:Nat) (es:List Env) (c:Code) (fs:List Fr) (t:Sem PySem.Fin) (L:Led) (R:a6i):Prop:=∀A s,e4n D U es A→a4s w L s→a2p w A (Res w L s R) c fs t s
noncomputable def b3l (c:Code) (fs:List Fr):List Env:=c.envs++fs.flatMap (·.c.envs)
theorem b0n {A:Around} {es:List Env} (h:A.frames=some es):∀(fs:List Fr) (c:Code),((aro A fs).under c).frames=some (b3l c fs++es)
 | [],c=>by
  show pushEnvs c.envs A.frames=_
  rw [pushEnvs_eq,h]
  simp [b3l]
 | f::fs,c=>by
  show pushEnvs c.envs ((aro A fs).under f.c).frames=_
  rw [pushEnvs_eq,b0n h fs f.c]
  simp [b3l]
section
variable {w:World} {D U:Nat} {es:List Env}
theorem a0b.toF {α:Type} {x:Sem α} {L Q} (h:a0b w D U x L Q):a1r w D U es x L Q:=fun A s E hA S=>h A s E hA.1 S
theorem a0x.toF {c fs t L R} (h:a0x w D U c fs t L R):e2h w D U es c fs t L R:=fun A s hA S=>h A s hA.1 S
theorem b2s.mono {c L M R R'} (h:b2s w D U es c L R) (hp:a2i L M) (hm:∀r L',True→R r L'→PR R' r L'):b2s w D U es c M R':=
 fun A s hA S=>codeAny_mono (h A s hA (S.part hp)) fun _ _ q=>a1p hp q hm
theorem a1r.mono {α:Type} {x:Sem α} {L M Q Q'} (h:a1r w D U es x L Q) (hp:a2i L M) (hm:∀r L',True→Q r L'→PR Q' r L'):a1r w D U es x M Q':=
 fun A s E hA S=>wpAny_mono (h A s E hA (S.part hp)) (fun _ _ q=>a1p hp q hm) fun _ _ q=>q
theorem a1r.use {α:Type} {x:Sem α} {L M F Q Q'} (h:a1r w D U es x L Q) (hp:M.Perm (L++F)) (hm:∀r L₁,True→Q r L₁→PR Q' r (L₁++F)):a1r w D U es x M Q':=
 fun A s E hA S=>by
  have S':a4s w (L++F) s:=S.part (.of_perm hp)
  exact wpAny_mono (h A s E hA (S'.part (.app _ _))) (fun _ _ q=>a1p (.of_perm hp) (a3z S' q) fun r L' ok hr=>by
   obtain ⟨L₁,h1,rfl⟩:=hr
   exact hm r L₁ ok h1) fun _ _ q=>q
theorem a1r.then {α β:Type} {x:Sem α} {L:Led} {Q:α→Led→Prop} {Z:β→Led→Prop} {y:α→Sem β} (h:a1r w D U es x L Q) (hm:∀a L',True→Q a L'→a1r w D U es (y a) L' Z):a1r w D U es (x >>=y) L Z:=
 fun A s E hA S=>wpAny_bind (wpAny_mono (h A s E hA S) (fun a s₁ ⟨L',hq,S',E',G'⟩=>wpAny_mono (hm a L' trivial hq A s₁ E hA S') (fun _ _ q=>a2y E' G' q) fun _ _ q=>q) fun _ _ q=>q)
theorem a1r.pure {α:Type} {a:α} {L:Led} {Q:α→Led→Prop} (h:Q a L):a1r w D U es (Pure.pure a) L Q:=fun A s E hA S=>wpAny_pure ⟨L,h,S,a4j.refl _ _,a0j.refl _ _⟩
theorem a1r.single {st env L Q} (h:a1r w D U es (PySem.exec st env) L Q):a1r w D U es (PySem.execs [st] env) L Q:=by
 rw [execs_cons]
 refine h.then fun f L' _ hq=>?_
 cases f with
 | next=>rw [execs_nil];exact a1r.pure hq
 | _=>exact a1r.pure hq
theorem b2s.while {test body orelse env} (I:Nat→Led→Prop) {R:a6i}
  (turn:∀n L,True→I n L→a1r w D U es (PySem.isTrue test env (eval test env)) L (fun b L₂=>
   if b then a1r w D U es (PySem.execs body env) L₂ (d2k I R n)
   else a1r w D U es (PySem.execs orelse env) L₂ (fun f L₃=>R (.ok f) L₃))) (n:Nat) {L:Led} (h:I n L):b2s w D U es (.whileLoop test body orelse env) L R:=by
 intro A s hA S
 refine codeAny_whileLoop (R:=Res w L s R) (fun n s'=>∃L',An4 (I n L') (a4s w L' s') (a4j L s s') (a0j L L' s)) (fun n s' ⟨L',hI,S',E',G'⟩=>?_) n ⟨L,h,S,a4j.refl _ _,a0j.refl _ _⟩
 refine wpAny_mono (turn n L' trivial hI A s' _ hA S') (fun b s₂ ⟨L₂,hb,S₂,E₂,G₂⟩=>?_) fun _ _ q=>q
 have E2:=E'.trans G' E₂
 have G2:=G'.trans' E' G₂
 cases b with
 | true=>
  simp only [if_true] at hb ⊢
  refine wpAny_mono (hb A s₂ _ hA S₂) (fun f s₃ ⟨L₃,hf,S₃,E₃,G₃⟩=>?_) fun _ _ q=>q
  have E3:=E2.trans G2 E₃
  have G3:=G2.trans' E2 G₃
  cases f with
  | next=>obtain ⟨m,hm,hi⟩:=hf;exact ⟨m,hm,L₃,hi,S₃,E3,G3⟩
  | cont=>obtain ⟨m,hm,hi⟩:=hf;exact ⟨m,hm,L₃,hi,S₃,E3,G3⟩
  | brk=>exact ⟨L₃,hf,S₃,E3,G3⟩
  | ret v=>exact ⟨L₃,hf,S₃,E3,G3⟩
 | false=>
  simp only [Bool.false_eq_true,if_false] at hb ⊢
  refine wpAny_mono (hb A s₂ _ hA S₂) (fun f s₃ ⟨L₃,hf,S₃,E₃,G₃⟩=>?_) fun _ _ q=>q
  exact ⟨L₃,hf,S₃,E2.trans G2 E₃,G2.trans' E2 G₃⟩
variable {L M F:Led}
end
noncomputable def gl:List Led→Led
 | []=>[]
 | x::s=>x++gl s
theorem b7s:∀a b:List Led,gl (a++b)=gl a++gl b
 | [],b=>rfl
 | x::a,b=>by show x++gl (a++b)=x++gl a++gl b;rw [b7s a b,List.append_assoc]
theorem d1h {a b:List Led} (h:a.Perm b):(gl a).Perm (gl b):=by
 induction h with
 | nil=>exact .refl _
 | cons x _ ih=>exact List.Perm.append_left x ih
 | swap x y l=>
  show (y++(x++gl l)).Perm (x++(y++gl l))
  rw [←List.append_assoc,←List.append_assoc]
  exact List.perm_append_comm.append_right _
 | trans _ _ h1 h2=>exact h1.trans h2
noncomputable def tko {α:Type}:Nat→List (Option α)→Option (α×List (Option α))
 | 0,l=>match l with
  | []=>none
  | x::l=>match x with
   | some a=>some (a,none::l)
   | none=>none
 | n + 1,l=>match l with
  | []=>none
  | x::l=>match tko n l with
   | some q=>some (q.1,x::q.2)
   | none=>none
noncomputable def vls {α:Type}:List (Option α)→List α
 | []=>[]
 | x::l=>match x with
  | some a=>a::vls l
  | none=>vls l
noncomputable def xto {α:Type}:List Nat→List (Option α)→List α×List (Option α)
 | [],l=>([],l)
 | p::ps,l=>match tko p l with
  | some q=>match xto ps q.2 with
   | z=>(q.1::z.1,z.2)
  | none=>([],l)
theorem b6l {α:Type}:∀{n:Nat} {l:List (Option α)} {q},tko n l=some q→(vls l).Perm (q.1::vls q.2)
 | 0,[],_,h=>by cases h
 | n + 1,[],_,h=>by cases h
 | 0,none::l,q,h=>by cases h
 | 0,some a::l,q,h=>by cases h;exact .refl _
 | n + 1,x::l,q,h=>by
  have h:(match tko n l with | some q=>some (q.1,x::q.2) | none=>none)=some q:=h
  cases hz:tko n l with
  | none=>rw [hz] at h;cases h
  | some z=>
   rw [hz] at h
   cases h
   have ih:=b6l hz
   cases x with
   | none=>exact ih
   | some a=>exact (ih.cons a).trans (.swap ..)
theorem b7o {α:Type}:∀(ps:List Nat) (l:List (Option α)),(vls l).Perm ((xto ps l).1++vls (xto ps l).2)
 | [],l=>.refl _
 | p::ps,l=>by
  unfold xto
  split
  ·rename_i q hq
   exact (b6l hq).trans ((b7o ps q.2).cons _)
  ·exact .refl _
noncomputable def sms {α:Type}:List α→List (Option α)
 | []=>[]
 | a::l=>some a::sms l
theorem c0y {α:Type}:∀l:List α,vls (sms l)=l
 | []=>rfl
 | a::l=>congrArg (a:: ·) (c0y l)
noncomputable def sel {α:Type} (ps:List Nat) (l:List α):List α:=(xto ps (sms l)).1
noncomputable def rst {α:Type} (ps:List Nat) (l:List α):List α:=vls (xto ps (sms l)).2
theorem b7i {α:Type} (ps:List Nat) (l:List α):l.Perm (sel ps l++rst ps l):=by
 have:=b7o ps (sms l)
 rwa [c0y] at this
theorem e5i (a b c d:Led):((a++b)++(c++d)).Perm ((a++c)++(b++d)):=by
 refine a0h fun q=>?_
 simp only [a0o];simp +arith
theorem e4g (ps qs:List Nat) (L:Led) (G:List Led):(L++gl G).Perm ((sel ps L++gl (sel qs G))++(rst ps L++gl (rst qs G))):=by
 refine ((b7i ps L).append (d1h (b7i qs G))).trans ?_
 rw [b7s]
 exact e5i ..
structure Ctr:Type 1 where
 eo:Option (List Env)
 d:Nat
 u:Nat
 c:Code
 L:Led
 G:List Led
 Y:Type
 ok:Y→Prop
 r:Y→Result
 L':Y→Led
 G':Y→List Led
noncomputable def Ctr.R (C:Ctr):a6i:=fun r M=>∃y,C.ok y∧r=C.r y∧M=C.L' y++gl (C.G' y)
noncomputable def c9g (D U:Nat) (eo:Option (List Env)) (A:Around):Prop:=b1v A D U∧∀es,eo=some es→A.frames=some es
noncomputable def Ctr.H (C:Ctr) (w:World):Prop:=∀b1 b2 A s,c9g C.d C.u C.eo A→a4s (W w b1 b2) (C.L++gl C.G) s→codeAny (model prog (W w b1 b2)) A C.c (Res (W w b1 b2) (C.L++gl C.G) s C.R) s
structure St where
 c:Code
 fs:List Fr
 t:Sem PySem.Fin
 L:Led
 G:List Led
noncomputable def a3t:List Prop→Prop
 | []=>True
 | p::l=>p∧a3t l
theorem a8n:∀{l:List Prop},a3t l→∀p∈l,p
 | [],_,_,h=>nomatch h
 | p::l,h,q,hq=>by
  rcases List.mem_cons.mp hq with rfl | hq
  ·exact h.1
  ·exact a8n h.2 q hq
inductive a2d (w:World) (C0:Ctr):Type 1
 | run (T:Tab) (hs:Bool→List Nat) (ob:(Nat→Addr)→(Nat→Tok)→List Prop) (h:∀fr tk,a3t (ob fr tk)) (k:(Nat→Addr)→(Nat→Tok)→a2d w C0)
 | use (ps qs:List Nat) (C:Ctr) (h:C.H w) (k:(y:C.Y)→C.ok y→a2d w C0)
 | ag (ps qs:List Nat) (C:Ctr) (h:C.H w) (ps' qs':List Nat) (f:C.Y→C0.Y) (hf:∀y,C.ok y→C0.ok (f y))
 | ua (ps qs:List Nat) (C:Ctr) (h:C.H w) (k:(y:C.Y)→C.ok y→a2d w C0)
 | us2 (ps qs:List Nat) (C:Ctr) (h:C.H w) (Y1 Y2:Type) (e1:Y1→C.Y) (e2:Y2→C.Y) (hc:∀y,C.ok y→(∃z,y=e1 z)∨∃z,y=e2 z) (k1:(z:Y1)→C.ok (e1 z)→a2d w C0) (k2:(z:Y2)→C.ok (e2 z)→a2d w C0)
 | ret (ps qs:List Nat) (y:C0.Y) (h:C0.ok y)
 | re (ps qs:List Nat) (a:Led) (b:List Led) (a':Led) (b':List Led) (h:(a++gl b).Perm (a'++gl b')) (k:a2d w C0)
 | or (p:Prop) (k:p→a2d w C0) (k':¬p→a2d w C0)
 | ex (α:Type) (p:α→Prop) (h:∃a,p a) (k:(a:α)→p a→a2d w C0)
inductive ET:Type 1
 | fn (k:(Nat→Addr)→(Nat→Tok)→ET)
 | run (ok:Bool) (as:List Addr) (ob:List Prop) (k:ET)
 | use (L:Led) (G:List Led) (c:Option Code) (b:Bool) (eo:Option (List Env)) (Y:Type) (ok:Y→Prop) (k:(y:Y)→ok y→ET)
 | us2 (L:Led) (G:List Led) (c:Option Code) (b:Bool) (eo:Option (List Env)) (Y1 Y2:Type) (ok1:Y1→Prop) (ok2:Y2→Prop) (k1:(y:Y1)→ok1 y→ET) (k2:(y:Y2)→ok2 y→ET)
 | ag (L:Led) (G:List Led) (c:Option Code) (b:Bool) (eo:Option (List Env)) (Y:Type) (k:Y→ET)
 | ret (L:Led) (G:List Led) (r:Option Result)
 | re (L:Led) (G:List Led) (k:ET)
 | or (p:Prop) (k:p→ET) (k':¬p→ET)
 | ex (α:Type) (p:α→Prop) (k:(a:α)→p a→ET)
noncomputable def sd0 {α:Type} (b:Bool) (x y:α):α:=match b with
 | true=>x
 | false=>y
noncomputable def d6b (D U:Nat) (S:St) (C:Ctr):Bool:=match dep S.c S.fs with
 | some d=>match Nat.ble (D + d) C.d with
  | true=>Nat.ble (U + 10 * (S.fs.length + 1)) C.u
  | false=>false
 | none=>false
noncomputable def eoA (eo0:Option (List Env)) (S:St) (e:Option (List Env)):Option (List Env):=match e with
 | none=>none
 | some _=>match eo0 with
  | some es=>some (b3l S.c S.fs++es)
  | none=>none
noncomputable def agB (D U:Nat) (S:St) (C:Ctr):Bool:=match S.fs with
 | []=>match C.c.quiet with
  | true=>match Nat.ble D C.d with
   | true=>Nat.ble U C.u
   | false=>false
  | false=>false
 | _=>false
noncomputable def eoG (eo0:Option (List Env)) (e:Option (List Env)):Option (List Env):=match e with
 | none=>none
 | some _=>eo0
noncomputable def e3c (S:St):Option Result:=match S.fs with
 | []=>match S.t with
  | .pure fin=>match fin with
   | .done fl=>some (.ok fl)
   | .again _=>none
  | .raise e=>some (.error e)
  | _=>none
 | _::_=>none
noncomputable def St.up (S:St):St:=match S.fs with
 | []=>S
 | f::fs=>⟨f.c,fs,S.t,S.L,S.G⟩
noncomputable def St.kk (S:St) (r:Result):Sem PySem.Fin:=match S.fs with
 | []=>S.t
 | f::_=>f.k r
noncomputable def upB (D U:Nat) (S:St) (C:Ctr):Bool:=match S.fs with
 | []=>false
 | _::_=>match C.c.quiet with
  | true=>d6b D U S.up C
  | false=>false
noncomputable def et (w:World) {C0:Ctr} (s b1 b2:Bool):a2d w C0→St→ET
 | .run T hs ob h k,S=>.fn fun fr tk=>match xr T (W w b1 b2) fr tk (hs b2) S.c S.fs S.t S.L with
  | ⟨_,c,fs,t,L,_,_,es,o,ok⟩=>.run (sd0 s ok true) (sd0 s (es.map (·.1)) (es.map (·.2))) (sd0 s o (ob fr tk)) (et w s b1 b2 (k fr tk) ⟨c,fs,t,L,S.G⟩)
 | .use ps qs C h k,S=>.use (sd0 s (sel ps S.L) C.L) (sd0 s (sel qs S.G) C.G) (sd0 s (a6z S.t) (some C.c)) (sd0 s (d6b C0.d C0.u S C) true) (sd0 s (eoA C0.eo S C.eo) C.eo) C.Y C.ok
   (fun y hy=>et w s b1 b2 (k y hy) ⟨S.c,S.fs,cont S.t (C.r y),C.L' y++rst ps S.L,C.G' y++rst qs S.G⟩)
 | .ua ps qs C h k,S=>.use (sd0 s (sel ps S.L) C.L) (sd0 s (sel qs S.G) C.G) (sd0 s (c1e S.t) (some C.c)) (sd0 s (upB C0.d C0.u S C) true) (sd0 s (eoA C0.eo S.up C.eo) C.eo) C.Y C.ok
   (fun y hy=>et w s b1 b2 (k y hy) ⟨S.up.c,S.up.fs,S.kk (C.r y),C.L' y++rst ps S.L,C.G' y++rst qs S.G⟩)
 | .ag ps qs C h ps' qs' f hf,S=>.ag (sd0 s (sel ps S.L) C.L) (sd0 s (sel qs S.G) C.G) (sd0 s (c1e S.t) (some C.c)) (sd0 s (agB C0.d C0.u S C) true) (sd0 s (eoG C0.eo C.eo) C.eo) C.Y
   (fun y=>.ret (sd0 s (sel ps' (C.L' y++rst ps S.L)) (C0.L' (f y))) (sd0 s (sel qs' (C.G' y++rst qs S.G)) (C0.G' (f y))) (some (sd0 s (C.r y) (C0.r (f y)))))
 | .us2 ps qs C h Y1 Y2 e1 e2 hc k1 k2,S=>.us2 (sd0 s (sel ps S.L) C.L) (sd0 s (sel qs S.G) C.G) (sd0 s (a6z S.t) (some C.c)) (sd0 s (d6b C0.d C0.u S C) true) (sd0 s (eoA C0.eo S C.eo) C.eo) Y1 Y2 (fun z=>C.ok (e1 z)) (fun z=>C.ok (e2 z))
   (fun z hz=>et w s b1 b2 (k1 z hz) ⟨S.c,S.fs,cont S.t (C.r (e1 z)),C.L' (e1 z)++rst ps S.L,C.G' (e1 z)++rst qs S.G⟩)
   (fun z hz=>et w s b1 b2 (k2 z hz) ⟨S.c,S.fs,cont S.t (C.r (e2 z)),C.L' (e2 z)++rst ps S.L,C.G' (e2 z)++rst qs S.G⟩)
 | .ret ps qs y h,S=>.ret (sd0 s (sel ps S.L) (C0.L' y)) (sd0 s (sel qs S.G) (C0.G' y)) (sd0 s (e3c S) (some (C0.r y)))
 | .re ps qs a b a' b' h k,S=>.re (sd0 s (sel ps S.L) a) (sd0 s (sel qs S.G) b) (et w s b1 b2 k ⟨S.c,S.fs,S.t,a'++rst ps S.L,b'++rst qs S.G⟩)
 | .or p k k',S=>.or p (fun h=>et w s b1 b2 (k h) S) (fun h=>et w s b1 b2 (k' h) S)
 | .ex α p h k,S=>.ex α p (fun a ha=>et w s b1 b2 (k a ha) S)
section
variable {w:World} {C0:Ctr} {b1 b2:Bool} {A:Around} {L0:Led} {s0:Shared}
theorem c9g.le {D U D' U':Nat} {eo:Option (List Env)} {A:Around} (h:b1v A D U) (h1:D≤D') (h2:U≤U') (h3:∀es,eo=some es→A.frames=some es):c9g D' U' eo A:=⟨h.le h1 h2,h3⟩
theorem Now.ofPerm {w:World} {L0 L M:Led} {s0 s:Shared} (N:Now w L0 s0 M s) (h:M.Perm L):Now w L0 s0 L s:=N.part (.of_perm h)
theorem d5l {C:Ctr} {ps qs:List Nat} {L:Led} {G:List Led} {s s1:Shared} {M':Led} {y:C.Y} (N:Now (W w b1 b2) L0 s0 (L++gl G) s) (e1:sel ps L=C.L) (e2:sel qs G=C.G) (hM:M'=C.L' y++gl (C.G' y)) (S':a4s (W w b1 b2) M' s1) (E:a4j (C.L++gl C.G) s s1) (Gr:a0j (C.L++gl C.G) M' s):
  Now (W w b1 b2) L0 s0 ((C.L' y++rst ps L)++gl (C.G' y++rst qs G)) s1:=by
 have hp:=e4g ps qs L G
 rw [e1,e2] at hp
 have N2:=N.step hp S' E Gr
 refine N2.ofPerm ?_
 rw [hM,b7s]
 exact e5i ..
theorem d0u {C:Ctr} {ps qs:List Nat} {L:Led} {G:List Led} {s:Shared} (N:Now (W w b1 b2) L0 s0 (L++gl G) s) (e1:sel ps L=C.L) (e2:sel qs G=C.G):a4s (W w b1 b2) (C.L++gl C.G) s:=by
 have hp:=e4g ps qs L G
 rw [e1,e2] at hp
 exact (N.sat.part (.of_perm hp)).part (.app _ _)
theorem b8z {S:St} {r:Result} {s:Shared} {bot:Result→Shared→Prop} (h:e3c S=some r) (hb:bot r s):a2p w A bot S.c S.fs S.t s:=
 a3x (o:=⟨[],S.c,S.fs,S.t,S.L,0,0,[],[],true⟩) h hb
theorem b5b {D U:Nat} {S:St} {C:Ctr} (h:d6b D U S C=true) (hA:b1v A D U) (hfs:∀f∈S.fs,f.hd=none):b1v ((aro A S.fs).under S.c) C.d C.u:=by
 unfold d6b at h
 split at h
 ·rename_i d hdp
  split at h
  ·rename_i hb1
   exact (b6g hA hdp hfs).le (Nat.le_of_ble_eq_true hb1) (Nat.le_of_ble_eq_true h)
  ·cases h
 ·cases h
theorem b9z {S:St} {e0 e:Option (List Env)} (h:eoA e0 S e=e) (hA:∀es,e0=some es→A.frames=some es) (es:List Env) (hes:e=some es):((aro A S.fs).under S.c).frames=some es:=by
 subst hes
 cases e0 with
 | none=>cases h
 | some e1=>
  have h:some (b3l S.c S.fs++e1)=some es:=h
  cases h
  exact b0n (hA _ rfl) S.fs S.c
theorem c7d {c c':Code} {f:Fr} {fs:List Fr} {t:Sem PySem.Fin} {s:Shared} {bot:Result→Shared→Prop} (hf:f.hd=none) (h:c1e t=some c') (hq:c'.quiet=true) (hc:codeAny (model prog w) ((aro A fs).under f.c) c' (fun r s'=>a2p w A bot f.c fs (f.k r) s') s):a2p w A bot c (f::fs) t s:=by
 unfold c1e at h
 split at h
 ·split at h
  ·cases h
   exact x_pure ⟨hq,by show codeAny _ (((aro A fs).under f.c).mark f.hd) _ _ _;rw [hf,a4v];exact hc⟩
  ·cases h
 ·cases h
theorem ET.fn_i {k k':(Nat→Addr)→(Nat→Tok)→ET} (h:ET.fn k=ET.fn k'):k=k':=by cases h;rfl
theorem ET.run_i {ok ok':Bool} {as as':List Addr} {ob ob':List Prop} {k k':ET} (h:ET.run ok as ob k=ET.run ok' as' ob' k'):ok=ok'∧as=as'∧ob=ob'∧k=k':=by cases h;exact ⟨rfl,rfl,rfl,rfl⟩
theorem ET.ret_i {L L':Led} {G G':List Led} {r r':Option Result} (h:ET.ret L G r=ET.ret L' G' r'):L=L'∧G=G'∧r=r':=by cases h;exact ⟨rfl,rfl,rfl⟩
theorem ET.re_i {L L':Led} {G G':List Led} {k k':ET} (h:ET.re L G k=ET.re L' G' k'):L=L'∧G=G'∧k=k':=by cases h;exact ⟨rfl,rfl,rfl⟩
theorem ET.or_i {p:Prop} {k l:p→ET} {k' l':¬p→ET} (h:ET.or p k k'=ET.or p l l'):k=l∧k'=l':=by cases h;exact ⟨rfl,rfl⟩
theorem ET.ex_i {α:Type} {p:α→Prop} {k l:(a:α)→p a→ET} (h:ET.ex α p k=ET.ex α p l):k=l:=by cases h;rfl
structure J6 (a b c d e f:Prop):Prop where
 h1:a
 h2:b
 h3:c
 h4:d
 h5:e
 h6:f
theorem ET.use_i {L L':Led} {G G':List Led} {c c':Option Code} {b b':Bool} {eo eo':Option (List Env)} {Y:Type} {ok:Y→Prop} {k k':(y:Y)→ok y→ET} (h:ET.use L G c b eo Y ok k=ET.use L' G' c' b' eo' Y ok k'):J6 (L=L') (G=G') (c=c') (b=b') (eo=eo') (∀y hy,k y hy=k' y hy):=by
 cases h;exact ⟨rfl,rfl,rfl,rfl,rfl,fun _ _=>rfl⟩
theorem ET.us2_i {L L':Led} {G G':List Led} {c c':Option Code} {b b':Bool} {eo eo':Option (List Env)} {Y Z:Type} {ok:Y→Prop} {ok2:Z→Prop} {k k':(y:Y)→ok y→ET} {l l':(y:Z)→ok2 y→ET} (h:ET.us2 L G c b eo Y Z ok ok2 k l=ET.us2 L' G' c' b' eo' Y Z ok ok2 k' l'):J6 (L=L') (G=G') (c=c') (b=b') (eo=eo') ((∀y hy,k y hy=k' y hy)∧∀y hy,l y hy=l' y hy):=by
 cases h;exact ⟨rfl,rfl,rfl,rfl,rfl,fun _ _=>rfl,fun _ _=>rfl⟩
theorem ET.ag_i {L L':Led} {G G':List Led} {c c':Option Code} {b b':Bool} {eo eo':Option (List Env)} {Y:Type} {k k':Y→ET} (h:ET.ag L G c b eo Y k=ET.ag L' G' c' b' eo' Y k'):J6 (L=L') (G=G') (c=c') (b=b') (eo=eo') (∀y,k y=k' y):=by
 cases h;exact ⟨rfl,rfl,rfl,rfl,rfl,fun _=>rfl⟩
noncomputable def Snd (w:World) (C0:Ctr) (b1 b2:Bool) (A:Around) (L0:Led) (s0:Shared) (c:Code) (fs:List Fr) (t:Sem PySem.Fin) (s:Shared):Prop:=a2p (W w b1 b2) A (Res (W w b1 b2) L0 s0 C0.R) c fs t s
theorem b1h {C:Ctr} {ps qs:List Nat} {L:Led} {G:List Led} {s:Shared} {B:Around} {Q:Result→Shared→Prop} (h:C.H w) (hB:c9g C.d C.u C.eo B) (N:Now (W w b1 b2) L0 s0 (L++gl G) s) (e1:sel ps L=C.L) (e2:sel qs G=C.G)
  (hQ:∀y s1,C.ok y→Now (W w b1 b2) L0 s0 ((C.L' y++rst ps L)++gl (C.G' y++rst qs G)) s1→Q (C.r y) s1):codeAny (model prog (W w b1 b2)) B C.c Q s:=
 codeAny_mono (h b1 b2 B s hB (d0u N e1 e2)) fun r s1 q=>by
  obtain ⟨M',⟨y,hy,rfl,hM⟩,S1,E1,G1⟩:=q
  exact hQ y s1 hy (d5l N e1 e2 hM S1 E1 G1)
theorem d9b {D U:Nat} {S:St} {C:Ctr} (h:upB D U S C=true):∃f fs,S.fs=f::fs∧C.c.quiet=true∧d6b D U S.up C=true:=by
 obtain ⟨c,fs,t,L,G⟩:=S
 cases fs with
 | nil=>cases h
 | cons f fs=>
  unfold upB at h
  cases e:C.c.quiet with
  | false=>simp only [e] at h;cases h
  | true=>simp only [e] at h;exact ⟨f,fs,rfl,rfl,h⟩
theorem e1r {D U:Nat} {S:St} {C:Ctr} (h:agB D U S C=true):S.fs=[]∧C.c.quiet=true∧D≤C.d∧U≤C.u:=by
 unfold agB at h
 cases e0:S.fs with
 | cons _ _=>simp only [e0] at h;cases h
 | nil=>
  cases e:C.c.quiet with
  | false=>simp only [e0,e] at h;cases h
  | true=>
   simp only [e0,e] at h
   cases e1:Nat.ble D C.d with
   | false=>simp only [e1] at h;cases h
   | true=>simp only [e1] at h;exact ⟨rfl,rfl,Nat.le_of_ble_eq_true e1,Nat.le_of_ble_eq_true h⟩
theorem d3v {t:Sem PySem.Fin} {c:Code} (h:c1e t=some c):t= .pure (.again c):=by
 unfold c1e at h
 split at h
 ·split at h
  ·cases h;rfl
  ·cases h
 ·cases h
theorem c1j {y:C0.Y} {ps qs:List Nat} {L:Led} {G:List Led} {s:Shared} {r:Result} (N:Now (W w b1 b2) L0 s0 (L++gl G) s) (h:C0.ok y) (e1:sel ps L=C0.L' y) (e2:sel qs G=C0.G' y) (hr:r=C0.r y):Res (W w b1 b2) L0 s0 C0.R r s:=by
 have hp:=e4g ps qs L G
 rw [e1,e2] at hp
 exact Now.res ((N.ofPerm hp).part (.app _ _)) ⟨y,h,hr,rfl⟩
theorem a2d.sound (hA:c9g C0.d C0.u C0.eo A) (hd:C0.d≤600):∀(P:a2d w C0) (S:St) (s:Shared),(∀f∈S.fs,f.hd=none)→et w true b1 b2 P S=et w false b1 b2 P S→
  Now (W w b1 b2) L0 s0 (S.L++gl S.G) s→Snd w C0 b1 b2 A L0 s0 S.c S.fs S.t s:=by
 intro P
 induction P with
 | run T hs ob h k ih=>
  intro S s hfs e N
  refine goT (Mn:=Snd w C0 b1 b2 A L0 s0) T (a2a hA.1.handled (by have:=hA.1.depth;exact Nat.le_trans this (Nat.le_trans hd (by decide)))) N (.refl _) hfs (hs b2) fun fr tk=>?_
  have e1:=congrFun (congrFun (ET.fn_i e) fr) tk
  revert e1
  cases xr T (W w b1 b2) fr tk (hs b2) S.c S.fs S.t S.L with
  | mk hs' c fs t L j i es o ok=>
   intro e1
   obtain ⟨a1,a2,a3,a4⟩:=ET.run_i e1
   have a3:o=ob fr tk:=a3
   exact ⟨a1,a2,fun p hp=>a8n (h fr tk) p (by rw [←a3];exact hp),fun hf s' _ N'=>ih fr tk ⟨c,fs,t,L,S.G⟩ s' hf a4 N'⟩
 | use ps qs C h k ih=>
  intro S s hfs e N
  have a:=ET.use_i e
  exact a6n (c':=C.c) a.h3 (b1h h ⟨b5b a.h4 hA.1 hfs,b9z a.h5 hA.2⟩ N a.h1 a.h2 fun y s1 hy N1=>ih y hy ⟨S.c,S.fs,cont S.t (C.r y),C.L' y++rst ps S.L,C.G' y++rst qs S.G⟩ s1 hfs (a.h6 y hy) N1)
 | us2 ps qs C h Y1 Y2 e1 e2 hc k1 k2 ih1 ih2=>
  intro S s hfs e N
  have a:=ET.us2_i e
  refine a6n (c':=C.c) a.h3 (b1h h ⟨b5b a.h4 hA.1 hfs,b9z a.h5 hA.2⟩ N a.h1 a.h2 fun y s1 hy N1=>?_)
  rcases hc y hy with ⟨z,rfl⟩ | ⟨z,rfl⟩
  ·exact ih1 z hy ⟨S.c,S.fs,cont S.t (C.r (e1 z)),C.L' (e1 z)++rst ps S.L,C.G' (e1 z)++rst qs S.G⟩ s1 hfs (a.h6.1 z hy) N1
  ·exact ih2 z hy ⟨S.c,S.fs,cont S.t (C.r (e2 z)),C.L' (e2 z)++rst ps S.L,C.G' (e2 z)++rst qs S.G⟩ s1 hfs (a.h6.2 z hy) N1
 | ua ps qs C h k ih=>
  intro S s hfs e N
  have a:=ET.use_i e
  obtain ⟨f,fs,ef,hq,hb⟩:=d9b (S:=S) a.h4
  obtain ⟨Sc,Sfs,St,SL,SG⟩:=S
  have ef:Sfs=f::fs:=ef
  subst ef
  have hfs':∀g∈fs,g.hd=none:=fun g hg=>hfs g (.tail _ hg)
  exact c7d (hfs f (.head _)) a.h3 hq (b1h h ⟨b5b (S:=⟨f.c,fs,St,SL,SG⟩) hb hA.1 hfs',b9z (S:=⟨f.c,fs,St,SL,SG⟩) a.h5 hA.2⟩ N a.h1 a.h2 fun y s1 hy N1=>ih y hy ⟨f.c,fs,f.k (C.r y),C.L' y++rst ps SL,C.G' y++rst qs SG⟩ s1 hfs' (a.h6 y hy) N1)
 | ag ps qs C h ps' qs' f hf=>
  intro S s hfs e N
  have a:=ET.ag_i e
  obtain ⟨e0,hq,l1,l2⟩:=e1r (S:=S) a.h4
  have ht:=d3v (t:=S.t) a.h3
  rw [e0,ht]
  refine x_pure ⟨hq,b1h h (c9g.le hA.1 l1 l2 fun es hes=>hA.2 _ ?_) N a.h1 a.h2 fun y s1 hy N1=>?_⟩
  ·have a5:eoG C0.eo C.eo=C.eo:=a.h5
   rw [hes] at a5;exact a5
  ·obtain ⟨c1,c2,c3⟩:=ET.ret_i (a.h6 y)
   exact c1j N1 (hf y hy) c1 c2 (Option.some.inj c3)
 | ret ps qs y h=>
  intro S s hfs e N
  obtain ⟨a1,a2,a3⟩:=ET.ret_i e
  exact b8z a3 (c1j N h a1 a2 rfl)
 | re ps qs a b a' b' h k ih=>
  intro S s hfs e N
  obtain ⟨a1,a2,a3⟩:=ET.re_i e
  refine ih ⟨S.c,S.fs,S.t,a'++rst ps S.L,b'++rst qs S.G⟩ s hfs a3 (N.ofPerm ?_)
  have hp:=e4g ps qs S.L S.G
  rw [show sel ps S.L=a from a1,show sel qs S.G=b from a2] at hp
  refine hp.trans ((h.append_right _).trans ?_)
  rw [b7s]
  exact e5i ..
 | or p k k' ih ih'=>
  intro S s hfs e N
  obtain ⟨a1,a2⟩:=ET.or_i e
  by_cases hp:p
  ·exact ih hp S s hfs (congrFun a1 hp) N
  ·exact ih' hp S s hfs (congrFun a2 hp) N
 | ex α p h k ih=>
  intro S s hfs e N
  obtain ⟨a,ha⟩:=h
  exact ih a ha S s hfs (congrFun (congrFun (ET.ex_i e) a) ha) N
noncomputable def Ctr.st (C:Ctr):St:=⟨C.c,[],den C.c,C.L,C.G⟩
noncomputable def Ctr.sa (C:Ctr):St:=⟨C.c,[],.pure (.again C.c),C.L,C.G⟩
theorem Ctr.of_plan (hd:C0.d≤600) (P:a2d w C0) (h:∀b1 b2,et w true b1 b2 P C0.st=et w false b1 b2 P C0.st):C0.H w:=fun b1 b2 A s hA S=>
 a2p.code (P.sound hA hd C0.st s (fun _ h=>nomatch h) (h b1 b2) (Now.start S))
theorem Ctr.of_call (hd:C0.d≤600) (P:a2d w C0) (h:∀b1 b2,et w true b1 b2 P C0.sa=et w false b1 b2 P C0.sa):C0.H w:=fun b1 b2 A s hA S=>
 b1r (P.sound hA hd C0.sa s (fun _ h=>nomatch h) (h b1 b2) (Now.start S))
noncomputable def Lh (w:World) {C0:Ctr} (S:St) (P:a2d w C0) (s:Bool):Bool→Bool→ET:=fun b1 b2=>et w s b1 b2 P S
noncomputable def Lh1 (w:World) {C0:Ctr} (S:St) (P:a2d w C0) (s:Bool) (b1:Bool):Bool→ET:=fun b2=>et w s b1 b2 P S
noncomputable def Lh2 (w:World) {C0:Ctr} (S:St) (P:a2d w C0) (s:Bool) (b1:Bool) (b2:Bool):ET:=et w s b1 b2 P S
inductive E2 (α:Type 1):Type 1 | mk (a b:α)
theorem E2.i {α:Type 1} {a b c d:α} (h:E2.mk a b=E2.mk c d):a=c∧b=d:=by cases h;exact ⟨rfl,rfl⟩
noncomputable abbrev ck0 (w:World) {C0:Ctr} (S:St) (P:a2d w C0):Prop:=Lh w S P true=Lh w S P false
noncomputable abbrev ck1 (w:World) {C0:Ctr} (S:St) (P:a2d w C0):Prop:=E2.mk (Lh1 w S P true false) (Lh1 w S P true true)=E2.mk (Lh1 w S P false false) (Lh1 w S P false true)
noncomputable abbrev ck2 (w:World) {C0:Ctr} (S:St) (P:a2d w C0):Prop:=E2.mk (E2.mk (Lh2 w S P true false false) (Lh2 w S P true true false)) (E2.mk (Lh2 w S P true false true) (Lh2 w S P true true true))=E2.mk (E2.mk (Lh2 w S P false false false) (Lh2 w S P false true false)) (E2.mk (Lh2 w S P false false true) (Lh2 w S P false true true))
theorem b5c {S:St} {P:a2d w C0} (h:ck0 w S P):∀b1 b2,et w true b1 b2 P S=et w false b1 b2 P S:=fun b1 b2=>congrFun (congrFun h b1) b2
theorem b6e {S:St} {P:a2d w C0} (h:ck1 w S P):∀b1 b2,et w true b1 b2 P S=et w false b1 b2 P S:=fun b1 b2=>by
 obtain ⟨h1,h2⟩:=E2.i h
 cases b1
 ·exact congrFun h1 b2
 ·exact congrFun h2 b2
theorem d0m {S:St} {P:a2d w C0} (h:ck2 w S P):∀b1 b2,et w true b1 b2 P S=et w false b1 b2 P S:=fun b1 b2=>by
 obtain ⟨h1,h2⟩:=E2.i h
 obtain ⟨h3,h4⟩:=E2.i h1
 obtain ⟨h5,h6⟩:=E2.i h2
 cases b1 <;> cases b2
 ·exact h3
 ·exact h5
 ·exact h4
 ·exact h6
theorem Ctr.p0 (P:a2d w C0) (hd:Nat.ble C0.d 600=true) (h:ck0 w C0.st P):C0.H w:=Ctr.of_plan (Nat.le_of_ble_eq_true hd) P (b5c h)
theorem Ctr.p1 (P:a2d w C0) (hd:Nat.ble C0.d 600=true) (h:ck1 w C0.st P):C0.H w:=Ctr.of_plan (Nat.le_of_ble_eq_true hd) P (b6e h)
theorem Ctr.p2 (P:a2d w C0) (hd:Nat.ble C0.d 600=true) (h:ck2 w C0.st P):C0.H w:=Ctr.of_plan (Nat.le_of_ble_eq_true hd) P (d0m h)
theorem Ctr.c0 (P:a2d w C0) (hd:Nat.ble C0.d 600=true) (h:ck0 w C0.sa P):C0.H w:=Ctr.of_call (Nat.le_of_ble_eq_true hd) P (b5c h)
theorem Ctr.c1 (P:a2d w C0) (hd:Nat.ble C0.d 600=true) (h:ck1 w C0.sa P):C0.H w:=Ctr.of_call (Nat.le_of_ble_eq_true hd) P (b6e h)
noncomputable abbrev rn {w:World} {C0:Ctr} (T:Tab) (hs:List Nat) {ob:List Prop} (h:a3t ob) (k:(Nat→Addr)→(Nat→Tok)→a2d w C0):a2d w C0:=.run T (fun _=>hs) (fun _ _=>ob) (fun _ _=>h) k
noncomputable abbrev rnb {w:World} {C0:Ctr} (T:Tab) (hs:Bool→List Nat) {ob:List Prop} (h:a3t ob) (k:(Nat→Addr)→(Nat→Tok)→a2d w C0):a2d w C0:=.run T hs (fun _ _=>ob) (fun _ _=>h) k
noncomputable abbrev us {w:World} {C0:Ctr} (ps qs:List Nat) {C:Ctr} (h:C.H w) (k:(y:C.Y)→C.ok y→a2d w C0):a2d w C0:=.use ps qs C h k
noncomputable abbrev uu2 {w:World} {C0:Ctr} (ps qs:List Nat) {C:Ctr} (h:C.H w) {Y1 Y2:Type} (e1:Y1→C.Y) (e2:Y2→C.Y) (hc:∀y,C.ok y→(∃z,y=e1 z)∨∃z,y=e2 z) (k1:(z:Y1)→C.ok (e1 z)→a2d w C0) (k2:(z:Y2)→C.ok (e2 z)→a2d w C0):a2d w C0:=.us2 ps qs C h Y1 Y2 e1 e2 hc k1 k2
noncomputable abbrev agn {w:World} {C0:Ctr} (ps qs:List Nat) {C:Ctr} (h:C.H w) (ps' qs':List Nat) (f:C.Y→C0.Y) (hf:∀y,C.ok y→C0.ok (f y)):a2d w C0:=.ag ps qs C h ps' qs' f hf
noncomputable abbrev uu {w:World} {C0:Ctr} (ps qs:List Nat) {C:Ctr} (h:C.H w) (k:(y:C.Y)→C.ok y→a2d w C0):a2d w C0:=.ua ps qs C h k
noncomputable def lc {w:World} {C0:Ctr} {α:Type} (l0:List α):(n:Nat)→(pre l:List α)→l0=pre++l→l.length≤n→((x:List α)→l0=x→a2d w C0)→a2d w C0
 | 0,pre,l,e,h,K=>K pre (by rw [e,List.length_eq_zero_iff.mp (Nat.le_zero.mp h),List.append_nil])
 | n + 1,pre,l,e,h,K=>.or (l=[]) (fun h0=>K pre (by rw [e,h0,List.append_nil])) (fun h1=>.ex (α×List α) (fun q=>l=q.1::q.2) (by cases l with | nil=>exact (h1 rfl).elim | cons a l=>exact ⟨(a,l),rfl⟩)
   fun q hq=>lc l0 n (pre++[q.1]) q.2 (by rw [e,hq,List.append_assoc];rfl) (by rw [hq] at h;exact Nat.le_of_succ_le_succ h) K)
noncomputable abbrev rw' {w:World} {C0:Ctr} (ps qs:List Nat) {a:Led} {b:List Led} {a':Led} {b':List Led} (h:(a++gl b).Perm (a'++gl b')) (k:a2d w C0):a2d w C0:=.re ps qs a b a' b' h k
theorem al0:a3t []:=trivial
theorem al {p:Prop} {l:List Prop} (h:p) (hl:a3t l):a3t (p::l):=⟨h,hl⟩
theorem al1 {p:Prop} (h:p):a3t [p]:=⟨h,trivial⟩
theorem a0u {a:Addr} {o o':Obj} (h:o=o'):([(a,o)]++gl []).Perm ([(a,o')]++gl []):=by rw [h]
theorem a1q {S X:Led} {r:Addr×Obj} (h:S.Perm (r::X)):([]++gl [S]).Perm ([r]++gl [X]):=by
 show (S++[]).Perm (r::(X++[]))
 rw [List.append_nil,List.append_nil];exact h
theorem a1j {S X:Led} {r:Addr×Obj} (h:S.Perm (r::X)):([r]++gl [X]).Perm ([]++gl [S]):=(a1q h).symm
theorem a1o {a:Addr} {xs ys:Array Value} {n:Nat} (h:xs=ys):([(a,a0a xs n)]++gl []).Perm ([(a,a0a ys n)]++gl []):=by rw [h]
noncomputable def a0r (n:Nat):List Nat:=(go 400 n) where
 go:Nat→Nat→List Nat
 | 0,_=>[]
 | f + 1,n=>match Nat.ble n 1 with
  | true=>[]
  | false=>(n % 64)::go f (n / 64)
structure Sh (φ:Obj→Prop) where
 d:(Nat→Tok)→Obj
 ok:∀tk,φ (d tk)
noncomputable abbrev shp {w:World} {C0:Ctr} {a:Addr} (p:Nat) {dc A:Obj} {Z:Type} {B:Z→Obj} {α:Type} (h:dc=A∨∃z,dc=B z) (d0:α) (d1:Z→α) (rest:α→a2d w C0):a2d w C0:=
 .or (dc=A) (fun h0=>rw' [p] [] (a0u (a:=a) h0) (rest d0)) (fun h0=>.ex Z (fun z=>dc=B z) (h.resolve_left h0) fun z hz=>rw' [p] [] (a0u (a:=a) hz) (rest (d1 z)))
noncomputable abbrev a9t {w:World} {C0:Ctr} {a:Addr} (p:Nat) {dc:Obj} {Z0 Z:Type} {A:Z0→Obj} {B:Z→Obj} {α:Type} (h:(∃z,dc=A z)∨∃z,dc=B z) (d0:Z0→α) (d1:Z→α) (rest:α→a2d w C0):a2d w C0:=
 .or (∃z,dc=A z) (fun h0=>.ex Z0 (fun z=>dc=A z) h0 fun z hz=>rw' [p] [] (a0u (a:=a) hz) (rest (d0 z))) (fun h0=>.ex Z (fun z=>dc=B z) (h.resolve_left h0) fun z hz=>rw' [p] [] (a0u (a:=a) hz) (rest (d1 z)))
noncomputable abbrev d1p {w:World} {C0:Ctr} {a:Addr} (p:Nat) {dc:Obj} {Z0 Z1 Z:Type} {A:Z0→Obj} {A1:Z1→Obj} {B:Z→Obj} {α:Type} (h:(∃z,dc=A z)∨(∃z,dc=A1 z)∨∃z,dc=B z) (d0:Z0→α) (d1:Z1→α) (d2:Z→α) (rest:α→a2d w C0):a2d w C0:=
 .or (∃z,dc=A z) (fun h0=>.ex Z0 (fun z=>dc=A z) h0 fun z hz=>rw' [p] [] (a0u (a:=a) hz) (rest (d0 z))) (fun h0=>a9t (a:=a) p (h.resolve_left h0) d1 d2 rest)
noncomputable abbrev tl9 {w:World} {C0:Ctr} {α:Type} (r:α→a2d w C0) (k:(α→a2d w C0)→a2d w C0):a2d w C0:=k r
structure Q2 (α β:Type) where
 a:α
 b:β
structure Q3 (α β γ:Type) where
 a:α
 b:β
 c:γ
structure Q4 (α β γ δ:Type) where
 a:α
 b:β
 c:γ
 d:δ
structure Q5 (α β γ δ ε:Type) where
 a:α
 b:β
 c:γ
 d:δ
 e:ε
theorem Ctr.ofDoes {C:Ctr} {R:a6i} (h:∀b1 b2,a0y (W w b1 b2) C.d C.u C.c (C.L++gl C.G) R) (hR:∀r L,R r L→∃y,C.ok y∧r=C.r y∧a2i (C.L' y++gl (C.G' y)) L):C.H w:=fun b1 b2 A s hA S=>
 codeAny_mono (h b1 b2 A s hA.1 S) fun r s' q=>a1p (.refl _) q fun r L' _ hr=>by
  obtain ⟨y,h1,h2,h3⟩:=hR r L' hr
  exact ⟨_,h3,y,h1,h2,rfl⟩
theorem Ctr.H.does {C:Ctr} {D U:Nat} {b1 b2:Bool} (h:C.H w) (hD:D≤C.d) (hU:U≤C.u) (he:C.eo=none):a0y (W w b1 b2) D U C.c (C.L++gl C.G) C.R:=fun A s hA S=>
 h b1 b2 A s (c9g.le hA hD hU fun es hes=>by rw [he] at hes;cases hes) S
end
noncomputable def b4n (x tb:Addr):Obj:={ cls:=.type "StopIteration",data:=.fields ⟨[.ref x,.ref tb,.none,.none,.bool false,.none]⟩ }
noncomputable def d5u (o:Obj):Prop:=∃tvs:Array Value,o={ cls:=.type "traceback",dict:=none,data:=.fields tvs }∧3 < tvs.size
section
variable {w:World} {D U:Nat} {es:List Env} {env:Env}
theorem c2a {G0:Led} {e x:Addr} (hok:b1c (env::es) G0):a1r w D U (env::es) (noteFrame (.ref e) env) (G0++[(e,a5r x)]) (fun _ L'=>Ey3 fun G' tb tbo=>An3 (a4p G0 G') (d5u tbo) (L'=G'++[(e,b4n x tb),(tb,tbo)])):=by
 intro A s E hA S
 have hfr:=hA.2
 obtain ⟨F,hf⟩:∃F,env.frame=some F:=by cases hok;exact ⟨_,by assumption⟩
 have hG:∀q∈G0,s.heap.get? q.1=some q.2:=fun q hq=>S.led q (List.mem_append_left _ hq)
 have hl:=hok.fun hG
 have hkeys:=hok.keys
 have he:s.heap.get? e=some (a5r x):=S.led (e,a5r x) (List.mem_append_right _ (.head _))
 have hnd:=S.nd
 rw [List.map_append,List.nodup_append] at hnd
 have hene:e∉G0.map (·.1):=fun hm=>hnd.2.2 e hm e (.head _) rfl
 unfold noteFrame
 simp only [hf]
 refine wpAny_bind (wpAny_field he rfl (x:=.none) rfl ?_)
 rw [if_neg (show ¬((Value.none != Value.none)=true) from by decide)]
 refine wpAny_bind (wpAny_frameOf_fun hfr hl hf fun h₁ hs₁=>?_)
 refine wpAny_bind (wpAny_entryPlaceOf fun pl hpl=>?_)
 unfold EntryCells.newEntry newFields
 refine wpAny_bind (wpAny_newObj_type ?_ (hpl.sizeOk5 _ _ _ _ _))
 obtain ⟨G',hG',hg'⟩:=b4a hs₁.2.2 G0 hG
 rw [hkeys] at hs₁
 have he₁:h₁.get? e=some (a5r x):=(hs₁.2.1 e hene).trans he
 generalize hT:({ cls:=.type "traceback",dict:=none,data:=.fields ([Value.none,.ref F,.none,rawInt F,.none]++(if pl.isEmpty then List.replicate 6 Value.none else pl)).toArray }:Obj)=tbo
 have hTd:tbo.isFreed=false:=by subst hT;rfl
 have he₂:=Heap.get?_push_of_some (h:=h₁) tbo he₁
 refine wpAny_setField he₂ rfl (by simp) ?_
 have hTe:h₁.objs.size≠e:=Nat.ne_of_gt (Heap.lt_size he₁)
 have he₃:((h₁.push tbo).update e (Obj.mapFields (·.setIfInBounds 1 (Value.ref h₁.objs.size)))).get? e=some (b4n x h₁.objs.size):=Heap.get?_update_self _ he₂ rfl
 have other:∀b o,b≠e→h₁.get? b=some o→((h₁.push tbo).update e (Obj.mapFields (·.setIfInBounds 1 (Value.ref h₁.objs.size)))).get? b=some o:=fun b o hb h=>by
  rw [Heap.get?_update_other _ _ (Ne.symm hb)]
  exact Heap.get?_push_of_some _ h
 have hT₃:((h₁.push tbo).update e (Obj.mapFields (·.setIfInBounds 1 (Value.ref h₁.objs.size)))).get? h₁.objs.size=some tbo:=by
  rw [Heap.get?_update_other _ _ (Ne.symm hTe)]
  exact Heap.get?_push_size _ hTd
 have hkG:=hG'.keys
 have hsz:((h₁.push tbo).update e (Obj.mapFields (·.setIfInBounds 1 (Value.ref h₁.objs.size)))).objs.size=h₁.objs.size + 1:=by
  have:∀(h:Heap) (f:Obj→Obj),(h.update e f).objs.size=h.objs.size:=fun h f=>by cases h;simp [Heap.update]
  rw [this,Heap.size_push]
 have hlt:∀q∈G0.map (·.1),q < h₁.objs.size:=fun q hq=>by
  obtain ⟨p,hp,rfl⟩:=List.mem_map.mp hq
  rw [hs₁.1];exact Heap.lt_size (hG p hp)
 refine ⟨G'++[(e,b4n x h₁.objs.size),(h₁.objs.size,tbo)],⟨G',h₁.objs.size,tbo,hG',⟨_,hT.symm,by simp only [List.size_toArray,List.length_append,List.length_cons,List.length_nil];simp +arith⟩,rfl⟩,⟨fun q hq=>?_,?_,fun a o hk=>?_,fun q hq=>?_,S.tok⟩,⟨fun b o hb hn=>?_,?_,Nat.le_refl _,fun g=>g,rfl⟩,fun a ha=>?_⟩
 ·rcases List.mem_append.mp hq with hq | hq
  ·refine other _ _ (fun z=>hene ?_) (hg' q hq)
   rw [←hkG,←z];exact List.mem_map_of_mem hq
  ·rcases List.mem_cons.mp hq with rfl | hq
   ·exact he₃
   ·rw [List.mem_singleton] at hq;subst hq;exact hT₃
 ·rw [List.map_append,hkG,List.nodup_append]
  refine ⟨hnd.1,List.nodup_cons.mpr ⟨fun h=>hTe (List.mem_singleton.mp h).symm,List.nodup_cons.mpr ⟨List.not_mem_nil,List.nodup_nil⟩⟩,fun a ha b hb=>?_⟩
  rintro rfl
  rcases List.mem_cons.mp hb with rfl | hb
  ·exact hene ha
  ·have h':a=h₁.objs.size:=by simpa using hb
   have h2:=hlt a ha
   rw [h'] at h2
   exact absurd h2 (Nat.lt_irrefl _)
 ·have ha:=S.kk a o hk
  have n1:a∉G0.map (·.1):=fun hm=>by
   obtain ⟨q,hq,rfl⟩:=List.mem_map.mp hm
   have:=S.nk q (List.mem_append_left _ hq)
   rw [hk] at this;cases this
  have n2:a≠e:=fun z=>by
   have:=S.nk (e,a5r x) (List.mem_append_right _ (.head _))
   rw [←z,hk] at this;cases this
  exact other a o n2 ((hs₁.2.1 a n1).trans ha)
 ·rcases List.mem_append.mp hq with hq | hq
  ·have:q.1∈G0.map (·.1):=by rw [←hkG];exact List.mem_map_of_mem hq
   obtain ⟨p,hp,hpq⟩:=List.mem_map.mp this
   rw [←hpq];exact S.nk p (List.mem_append_left _ hp)
  ·rcases List.mem_cons.mp hq with rfl | hq
   ·exact S.nk (e,a5r x) (List.mem_append_right _ (.head _))
   ·rw [List.mem_singleton] at hq;subst hq
    show KK w.params h₁.objs.size=none
    cases h:KK w.params h₁.objs.size with
    | none=>rfl
    | some o=>
     have h2:=Heap.lt_size (S.kk _ _ h)
     rw [hs₁.1] at h2
     exact absurd h2 (Nat.lt_irrefl _)
 ·rw [List.map_append] at hn
  have n1:b∉G0.map (·.1):=fun h=>hn (List.mem_append_left _ h)
  have n2:b≠e:=fun h=>hn (List.mem_append_right _ (by rw [h];exact .head _))
  exact other b o n2 ((hs₁.2.1 b n1).trans hb)
 ·show s.heap.objs.size≤Array.size _
  rw [hsz,hs₁.1];exact Nat.le_succ_of_le (Nat.le_refl _)
 ·rw [List.map_append] at ha ⊢
  rcases List.mem_append.mp ha with h | h
  ·rw [hkG] at h;exact .inl (List.mem_append_left _ h)
  ·rcases List.mem_cons.mp h with rfl | h
   ·exact .inl (List.mem_append_right _ (.head _))
   ·have h':a=h₁.objs.size:=by simpa using h
    rw [h',hs₁.1];exact .inr (Nat.le_refl _)
noncomputable def b9q (w:World) {α:Type} (x:Sem α) (L:Led) (Q:α→Led→Prop):Prop:=∀A s E,a4s w L s→wpAny (model prog w) A x (Res w L s Q) E s
theorem b9q.use {α:Type} {x:Sem α} {L M F Q Q'} (h:b9q w x L Q) (hp:M.Perm (L++F)) (hm:∀r L₁,True→Q r L₁→PR Q' r (L₁++F)):b9q w x M Q':=
 fun A s E S=>by
  have S':a4s w (L++F) s:=S.part (.of_perm hp)
  exact wpAny_mono (h A s E (S'.part (.app _ _))) (fun _ _ q=>a1p (.of_perm hp) (a3z S' q) fun r L' ok hr=>by
   obtain ⟨L₁,h1,rfl⟩:=hr
   exact hm r L₁ ok h1) fun _ _ q=>q
theorem b4y {e x tb:Addr} {tbo:Obj} (ht:d5u tbo):b9q w (setFlight (.ref e) none) [(e,b4n x tb),(tb,tbo)] (fun _ L'=>∃tbo',d5u tbo'∧L'=[(e,b4n x tb),(tb,tbo')]):=by
 obtain ⟨tvs,rfl,hsz⟩:=ht
 intro A s E S
 have he:=S.led (e,b4n x tb) (.head _)
 have htb:=S.led (tb,_) (.tail _ (.head _))
 refine wpAny_setFlight_none he rfl (by rfl) htb rfl hsz ?_
 have hi:([(e,b4n x tb),(tb,({ cls:=.type "traceback",dict:=none,data:=.fields tvs }:Obj))]:Led)[1]?=some (tb,{ cls:=.type "traceback",dict:=none,data:=.fields tvs }):=rfl
 refine ⟨[(e,b4n x tb),(tb,{ cls:=.type "traceback",dict:=none,data:=.fields (tvs.setIfInBounds 3 .none) })],⟨_,⟨_,rfl,by simp [hsz]⟩,rfl⟩,?_,(Ext.update hi _).weak,a0j.set hi _⟩
 exact b4w S hi rfl rfl
noncomputable def a8y (w:World) (D U:Nat) (es:List Env) {α:Type} (x:Sem α) (L:Led) (Q:Value→Led→Prop):Prop:=∀A s,e4n D U es A→a4s w L s→wpAny (model prog w) A x (fun _ _=>False) (Res w L s Q) s
theorem a8y.runs {α:Type} {enc:α→Flow} (inj:∀a b,enc a=enc b→a=b) {x y:Sem α} (e:x=y) {L:Led} {Q:Value→Led→Prop} (h:e2h w D U es a2k [] (tr enc y) L (fun r L'=>∃v,r= .error v∧Q v L')):a8y w D U es x L Q:=
 fun A s hA S=>b2e inj e ((h A s hA S).mono fun r s' hr=>by
  obtain ⟨L',⟨v,rfl,hq⟩,S',E',G'⟩:=hr
  exact ⟨L',hq,S',E',G'⟩)
noncomputable def a5g (w:World) (D:Nat) (e:Value) {α:Type} (x:Sem α) (L:Led) (Q:α→Led→Prop):Prop:=∀A s E,A.depth≤D→A.handled=some e→a4s w L s→wpAny (model prog w) A x (Res w L s Q) E s
theorem a5g.use {α:Type} {e:Value} {x:Sem α} {L M F Q Q'} (h:a5g w D e x L Q) (hp:M.Perm (L++F)) (hm:∀r L₁,True→Q r L₁→PR Q' r (L₁++F)):a5g w D e x M Q':=
 fun A s E hA hh S=>by
  have S':a4s w (L++F) s:=S.part (.of_perm hp)
  exact wpAny_mono (h A s E hA hh (S'.part (.app _ _))) (fun _ _ q=>a1p (.of_perm hp) (a3z S' q) fun r L' ok hr=>by
   obtain ⟨L₁,h1,rfl⟩:=hr
   exact hm r L₁ ok h1) fun _ _ q=>q
theorem a5g.run {α:Type} {enc:α→Flow} (inj:∀a b,enc a=enc b→a=b) {x y:Sem α} (exy:x=y) {e:Value} {L M F:Led} {Q:α→Led→Prop} (hD:D≤600) (hp:M.Perm (L++F)) (hs m:List Nat) (a:(Nat→Addr)→(Nat→Tok)→α) (L':(Nat→Addr)→(Nat→Tok)→Led) (ob:(Nat→Addr)→(Nat→Tok)→List Prop)
  (ev:∀fr tk,vwP m (xh w e fr tk hs a2k [] (tr enc y) L)=wt (xh w e fr tk hs a2k [] (tr enc y) L) (.ok (enc (a fr tk))) (L' fr tk) (ob fr tk))
  (hob:∀fr tk,∀p∈ob fr tk,p) (hQ:∀fr tk,True→PR Q (a fr tk) (L' fr tk++F)):a5g w D e x M Q:=by
 intro A s E hA hh S
 refine b2e inj exy ?_
 have N:=Now.start S
 have N1:=N.part (.of_perm hp)
 refine a6b (KK:=KK w.params) (prim:=b7r w.params) (a2a (hnd:=some e) hh (by exact Nat.le_trans hA (Nat.le_trans hD (by decide)))) (a8u w.params) (c2v w e) 3000 hs a2k [] (tr enc y) L s a3u (fun fr tk=>?_) (N1.sat.part (.app _ _))
 have e1:=ev fr tk
 have ho:=hob fr tk
 have hq:=hQ fr tk
 revert e1
 show vwP m (xh w e fr tk hs a2k [] (tr enc y) L)=wt (xh w e fr tk hs a2k [] (tr enc y) L) _ _ _→a1n _ _ s L (xh w e fr tk hs a2k [] (tr enc y) L)
 generalize xh w e fr tk hs a2k [] (tr enc y) L=o
 intro e1
 unfold vwP wt at e1
 simp only [Prod.mk.injEq] at e1
 obtain ⟨h1,h2,h3,h4,h5⟩:=e1
 refine ⟨h1,a7b h5,by rw [h4];exact ho,fun s' S' E' G'=>?_⟩
 have N2:=N1.step (.refl _) S' E'.weak G'
 have hpart:a2i (L' fr tk++F) (o.L++F):=by rw [←h3];exact (a2j m o.L).both F
 obtain ⟨L'',p,q⟩:=hq trivial
 have N3:=N2.part (p.trans hpart)
 exact a3x (o:=o) h2 ⟨a fr tk,rfl,L'',q,N3.sat,N3.ext,N3.grown⟩
theorem c6o {body:List Stmt} {t:Expr} {b₀:Stmt} {suite:List Stmt} {hp pos:Pos} {L:Led} {Q:Flow→Led→Prop} {Z:Led→Led→Prop}
  (hbody:a8y w D U (env::es) (execs body env) L (fun v L'=>Ey4 fun x e G0 F=>An4 (v= .ref e) (b1c (env::es) G0) (Z G0 F) (L'=G0++[(e,a5r x)]++F)))
  (heval:∀e G0 G' F,Z G0 F→a4p G0 G'→a5g w D (.ref e) (eval t env) (G'++F) (fun c L'=>c= .type "StopIteration"∧L'=G'++F))
  (hsuite:∀e G0 G' F,Z G0 F→a4p G0 G'→a5g w D (.ref e) (execs (b₀::suite) env) (G'++F) Q):
  a1r w D U (env::es) (PySem.exec (.Try body [.ExceptHandler (some t) none (b₀::suite) hp] [] [] pos) env) L Q:=by
 intro A s E hA S
 refine wpAny_Try_except (wpAny_mono (hbody A s hA S) (fun _ _ q=>q.elim) fun v s₁ hv=>?_)
 obtain ⟨L1,⟨x,e,G0,F,rfl,hok,hz,rfl⟩,S₁,E₁,G₁⟩:=hv
 have N1:Now w L s _ s₁:=⟨S₁,E₁,G₁⟩
 have h2:=(c2a (w:=w) (D:=D) (U:=U) (es:=es) (env:=env) (G0:=G0) (e:=e) (x:=x) hok).use (M:=G0++[(e,a5r x)]++F) (F:=F) (.refl _) (Q':=fun _ L'=>Ey3 fun G' tb tbo=>An3 (a4p G0 G') (d5u tbo) (L'=G'++[(e,b4n x tb),(tb,tbo)]++F)) (fun r L₁ _ h=>by
  obtain ⟨G',tb,tbo,a,b,rfl⟩:=h
  exact ⟨_,.refl _,G',tb,tbo,a,b,rfl⟩)
 refine wpAny_mono (h2 A s₁ E hA S₁) (fun _ s₂ hr=>?_) fun _ _ q=>q
 obtain ⟨L2,⟨G',tb,tbo,hsl,htb,rfl⟩,S₂,E₂,G₂⟩:=hr
 have N2:=N1.on S₂ E₂ G₂
 have fl:∀tbo,d5u tbo→b9q w (setFlight (.ref e) none) (G'++[(e,b4n x tb),(tb,tbo)]++F) (fun _ L'=>∃tbo',d5u tbo'∧L'=G'++[(e,b4n x tb),(tb,tbo')]++F):=fun tbo htb=>
  (b4y (w:=w) (e:=e) (x:=x) (tb:=tb) htb).use (F:=G'++F) (by exact lpp [_,[_],[_],_] [2,3,4,0,0,5,0] [3,4,0,2,5,0,0] rfl) fun r L₁ _ h=>by
   obtain ⟨tbo',a,rfl⟩:=h
   exact ⟨_,by exact ltt [_,[_],[_],_] [2,3,4,0,0,5,0] [3,4,0,2,5,0,0] rfl,tbo',a,rfl⟩
 refine wpAny_mono (fl tbo htb A s₂ E S₂) (fun _ s₃ hr=>?_) fun _ _ q=>q
 obtain ⟨L3,⟨tbo',htb',rfl⟩,S₃,E₃,G₃⟩:=hr
 have N3:=N2.on S₃ E₃ G₃
 have hm:(A.mark (some (.ref e))).handled=some (.ref e):=rfl
 have hd:(A.mark (some (.ref e))).depth≤D:=hA.1.depth
 refine wpAny_handleBy_builtin (X:="StopIteration") (T:="StopIteration") (b:=true) (by first | kernel_rfl | rfl) (by first | kernel_rfl | rfl) isSubtype_stop ?_
 have h4:=(heval e G0 G' F hz hsl).use (M:=G'++[(e,b4n x tb),(tb,tbo')]++F) (F:=[(e,b4n x tb),(tb,tbo')]) (by exact lpp [_,[_],[_],_] [2,3,4,0,0,5,0] [2,5,0,3,4,0,0] rfl) (Q':=fun c L'=>c= .type "StopIteration"∧L'=G'++[(e,b4n x tb),(tb,tbo')]++F) (fun r L₁ _ h=>by
  obtain ⟨rfl,rfl⟩:=h
  exact ⟨_,by exact ltt [_,[_],[_],_] [2,3,4,0,0,5,0] [2,5,0,3,4,0,0] rfl,rfl,rfl⟩)
 refine wpAny_mono (h4 _ s₃ _ hd hm S₃) (fun c s₄ hr=>?_) fun _ _ q=>q
 obtain ⟨L4,⟨rfl,rfl⟩,S₄,E₄,G₄⟩:=hr
 have N4:=N3.on S₄ E₄ G₄
 refine ⟨rfl,⟨b4n x tb,S₄.led (e,b4n x tb) (List.mem_append_left _ (List.mem_append_right _ (.head _))),rfl⟩,?_⟩
 rw [if_pos rfl]
 refine wpAny_mono (fl tbo' htb' _ s₄ _ S₄) (fun _ s₅ hr=>?_) fun _ _ q=>q
 obtain ⟨L5,⟨tbo2,htb2,rfl⟩,S₅,E₅,G₅⟩:=hr
 have N5:=N4.on S₅ E₅ G₅
 have N6:=N5.part (L:=G'++F) (by exact ltt [_,_,[_],[_]] [2,3,0] [2,4,5,0,0,3,0] rfl)
 refine wpAny_mono (hsuite e G0 G' F hz hsl _ s₅ _ hd hm N6.sat) (fun f s₆ hr=>?_) fun _ _ q=>q
 exact a2y N6.ext N6.grown hr
end
noncomputable abbrev fcW:Stmt:=a3i (lpB e2o) 1
noncomputable abbrev b0t:Stmt:=a3i (lpB fcW) 1
noncomputable def trB:Stmt→List Stmt
 | .Try b _ _ _ _=>b
 | _=>[]
noncomputable def trH:Stmt→List ExceptHandler
 | .Try _ h _ _ _=>h
 | _=>[]
noncomputable def hT:List ExceptHandler→Expr
 | [.ExceptHandler (some t) _ _ _]=>t
 | _=>.Constant .none 0 default
noncomputable def hS:List ExceptHandler→List Stmt
 | [.ExceptHandler _ _ b _]=>b
 | _=>[]
noncomputable def hP:List ExceptHandler→Pos
 | [.ExceptHandler _ _ _ p]=>p
 | _=>default
noncomputable def trP:Stmt→Pos
 | .Try _ _ _ _ p=>p
 | _=>default
noncomputable def lpO:Stmt→List Stmt
 | .While _ _ o _=>o
 | _=>[]
noncomputable abbrev c1x:Stmt:=a3i (lpB b0t) 0
noncomputable abbrev e7t:List Stmt:=trB c1x
noncomputable abbrev e8k:Expr:=hT (trH c1x)
noncomputable abbrev d3b:List Stmt:=hS (trH c1x)
noncomputable abbrev a5u (t:Nat→Tok) (S NI A B C D:Addr) (s:Str):List Row:=e8n t S NI A B C D++[(b7m,t 6,.str s (t 7))]
structure Kf where
 n:Nd
 tk:Tok
 iv:Value
 w:Addr
 ia:Addr
 pos:Nat
 tp:Tok
noncomputable def Kf.led (k:Kf):Led:=[(k.w,wob k.ia),(k.ia,a0z (.ref k.n.la) k.pos k.tp)]
noncomputable def kA (st:List Kf):Array Value:=⟨st.map fun k=>.str (nm k.n.v) k.tk⟩
noncomputable def kB (st:List Kf):Array Value:=⟨st.map fun k=>.ref k.w⟩
noncomputable def kD (st:List Kf):List Row:=st.map fun k=>(nm k.n.v,k.tk,k.iv)
noncomputable def kL (st:List Kf):Led:=st.flatMap Kf.led
theorem b4b (a b:List Kf):kL (a++b)=kL a++kL b:=by simp [kL]
theorem b3t (k:Kf):kL [k]=k.led:=by simp [kL]
noncomputable def kM (st:List Kf):Nat:=(st.map fun k=>k.n.su.length - k.pos + 1).sum
theorem c2e (a b:List Kf):kM (a++b)=kM a + kM b:=by simp [kM]
structure b1l (ns:List Nd) (st:List Kf):Prop where
 mem:∀k∈st,k.n∈ns
 pos:∀k∈st,k.pos≤k.n.su.length
 lt:(st.map (·.n.v)).Pairwise (· < ·)
structure b9c (ns:List Nd):Prop where
 lt:∀n∈ns,n.v < 5
 nd:(ns.map (·.v)).Nodup
 up:∀n∈ns,∀p∈n.su,n.v < p.1∧p.1 < 5∧p.1∈ns.map (·.v)
 sl:∀n∈ns,n.su.length≤100
theorem b1l.pre {ns:List Nd} {a b:List Kf} (h:b1l ns (a++b)):b1l ns a:=⟨fun k hk=>h.mem k (List.mem_append_left _ hk),fun k hk=>h.pos k (List.mem_append_left _ hk),by
 have:=h.lt
 rw [List.map_append] at this
 exact (List.pairwise_append.mp this).1⟩
theorem b1l.len {ns:List Nd} {st:List Kf} (u:b9c ns) (h:b1l ns st):st.length≤5:=by
 have h1:(st.map (·.n.v)).length≤(List.range 5).length:=by
  refine List.Nodup.length_le_of_subset (h.lt.imp fun a=>Nat.ne_of_lt a) fun v hv=>?_
  obtain ⟨k,hk,rfl⟩:=List.mem_map.mp hv
  exact List.mem_range.mpr (u.lt _ (h.mem k hk))
 simpa using h1
theorem b1l.last {ns:List Nd} {st:List Kf} {k:Kf} (h:b1l ns (st++[k])):∀j∈st,j.n.v < k.n.v:=fun j hj=>by
 have:=h.lt
 rw [List.map_append] at this
 exact (List.pairwise_append.mp this).2.2 _ (List.mem_map.mpr ⟨j,hj,rfl⟩) _ (by simp)
theorem b1l.step {ns:List Nd} {st:List Kf} {k:Kf} (h:b1l ns (st++[k])) (hp:k.pos < k.n.su.length) (t:Tok):b1l ns (st++[{ k with pos:=k.pos + 1,tp:=t }]):=by
 refine ⟨fun j hj=>?_,fun j hj=>?_,?_⟩
 ·rcases List.mem_append.mp hj with hj | hj
  ·exact h.mem j (List.mem_append_left _ hj)
  ·rw [List.mem_singleton] at hj;subst hj;exact h.mem k (List.mem_append_right _ (.head _))
 ·rcases List.mem_append.mp hj with hj | hj
  ·exact h.pos j (List.mem_append_left _ hj)
  ·rw [List.mem_singleton] at hj;subst hj;exact hp
 ·have:=h.lt
  rw [List.map_append] at this ⊢
  exact this
theorem b4f:∀(l:List Row) (r:Row),r.1∉a1m l→c4n (l++[r]) r.1=l
 | [],r,_=>by simp [c4n]
 | x::l,r,h=>by
  have h1:¬x.1=r.1:=fun e=>h (List.mem_map.mpr ⟨x,.head _,e⟩)
  have h2:=b4f l r fun m=>h (.tail _ m)
  rw [List.cons_append,c4n,if_neg h1,h2]
theorem b6n {xs:List Value} {v:Value}:nth ⟨xs++[v]⟩ (((⟨xs++[v]⟩:Array Value).size:Int) - 1)=v:=by
 unfold nth
 have e:(((⟨xs++[v]⟩:Array Value).size:Int) - 1).toNat=xs.length:=by simp
 rw [e]
 simp
theorem d2e (st:List Kf) (k:Kf):nth (kA (st++[k])) ((kA (st++[k])).size - 1)= .str (nm k.n.v) k.tk:=by
 unfold kA;rw [List.map_append];exact b6n
theorem b5y (st:List Kf) (k:Kf):nth (kB (st++[k])) ((kB (st++[k])).size - 1)= .ref k.w:=by
 unfold kB;rw [List.map_append];exact b6n
theorem d9q (st:List Kf) (k:Kf):(kA (st++[k])).pop=kA st:=by simp [kA]
theorem d8e (st:List Kf) (k:Kf):(kB (st++[k])).pop=kB st:=by simp [kB]
theorem a7h (st:List Kf):(kA st).size=st.length:=by simp [kA]
theorem a6e (st:List Kf):(kB st).size=st.length:=by simp [kB]
theorem c3b (st:List Kf):a1m (kD st)=st.map fun k=>nm k.n.v:=by simp [a1m,kD]
theorem c8l {ns:List Nd} (u:b9c ns) {st:List Kf} (h:b1l ns st) {v:Nat} (hv:v < 5):nm v∈a1m (kD st)↔v∈st.map (·.n.v):=by
 rw [c3b]
 constructor
 ·intro hm
  obtain ⟨k,hk,e⟩:=List.mem_map.mp hm
  exact List.mem_map.mpr ⟨k,hk,a2u (u.lt _ (h.mem k hk)) hv e⟩
 ·intro hm
  obtain ⟨k,hk,rfl⟩:=List.mem_map.mp hm
  exact List.mem_map.mpr ⟨k,hk,rfl⟩
noncomputable abbrev fcL (P:Params) (F:Addr) (t:Nat→Tok) (S NI A B C DD:Addr) (s:Str) (sl:Array (Option Value)) (st:List Kf) (ea eb ed:Nat):Led:=[(F,a1k P (a5u t S NI A B C DD s) 7 sl),(A,a0a (kA st) ea),(B,a0a (kB st) eb),(DD,dob P (kD st) ed)]++kL st
section
variable {w:World} {b1 b2:Bool} {D U:Nat} {F S NI A B C DD:Addr} {es:List Env} {G:Led} {ns:List Nd} {t:Nat→Tok} {s:Str} {sl:Array (Option Value)} {ea eb ed:Nat}
theorem c5x (hD:D≤600) {xs:Array Value} (h0:xs.size=0):a0b (W w b1 b2) D U (PySem.isTrue (lpT b0t) (a1x F) (eval (lpT b0t) (a1x F))) [(F,a1k (W w b1 b2).params (a5u t S NI A B C DD s) 7 sl),(A,a0a xs ea)] (fun b L=>b=false∧L=[(F,a1k (W w b1 b2).params (a5u t S NI A B C DD s) 7 sl),(A,a0a xs ea)]):=
 a0b.runT c8k c8z (y:=a4f (lpT b0t) (a1x F) (a2r (lpT b0t) (a1x F))) (by rw [a3k,a1i]) hD [1,2,2,1,0] [1,1] (fun _ _=>false) (fun _ _=>[(F,a1k (W w b1 b2).params (a5u t S NI A B C DD s) 7 sl),(A,a0a xs ea)]) (fun _ _=>[xs.size≤1000000,xs.size=0])
  (fun fr tk=>by kernel_rfl) (fun _ _=>a0d (by exact Nat.le_trans (Nat.le_of_eq h0) (by decide)) (a0d h0 a0e)) (fun _ _ _=>⟨_,.refl _,rfl,rfl⟩)
theorem c5b (hD:D≤600) {xs:Array Value} (h0:0 < xs.size) (h1:xs.size≤1000000):a0b (W w b1 b2) D U (PySem.isTrue (lpT b0t) (a1x F) (eval (lpT b0t) (a1x F))) [(F,a1k (W w b1 b2).params (a5u t S NI A B C DD s) 7 sl),(A,a0a xs ea)] (fun b L=>b=true∧L=[(F,a1k (W w b1 b2).params (a5u t S NI A B C DD s) 7 sl),(A,a0a xs ea)]):=
 a0b.runT c8k c8z (y:=a4f (lpT b0t) (a1x F) (a2r (lpT b0t) (a1x F))) (by rw [a3k,a1i]) hD [1,2,2,1,1] [1,1] (fun _ _=>true) (fun _ _=>[(F,a1k (W w b1 b2).params (a5u t S NI A B C DD s) 7 sl),(A,a0a xs ea)]) (fun _ _=>[xs.size≤1000000,0 < xs.size])
  (fun fr tk=>by kernel_rfl) (fun _ _=>a0d h1 (a0d h0 a0e)) (fun _ _ _=>⟨_,.refl _,rfl,rfl⟩)
theorem d5d (hD:D≤600):a0b (W w b1 b2) D U (execs (lpO b0t) (a1x F)) [] (fun f L=>f= .brk∧L=[]):=
 a0b.runT c8k b8l (y:=a2q (lpO b0t) (a1x F)) (by rw [a2l]) hD [] [] (fun _ _=>.brk) (fun _ _=>[]) (fun _ _=>[]) (fun fr tk=>by kernel_rfl) (fun _ _=>a0e) (fun _ _ _=>⟨_,.refl _,rfl,rfl⟩)
theorem d4b (hD:D≤600) {zs:Array Value} {wa ia l:Addr} {k:Nat} {tp:Tok} {ys:Array Value} {ls:Nat} {s0:Str} {tn:Tok} (hz0:0 < zs.size) (hz1:zs.size≤1000000) (hw:nth zs (zs.size - 1)= .ref wa) (hk:k < ys.size) (hy:nth ys k= .str s0 tn):
  a0b (W w b1 b2) D U (execs (lpB b0t) (a1x F)) [(F,a1k (W w b1 b2).params (a5u t S NI A B C DD s) 7 sl),(B,a0a zs eb),(wa,wob ia),(ia,a0z (.ref l) k tp),(l,a0a ys ls)]
   (fun f L=>f= .brk∧L=[(F,a1k (W w b1 b2).params (a5u (a0q t 7 tn) S NI A B C DD s0) 7 sl),(B,a0a zs eb),(wa,wob ia),(ia,a0z (.ref l) (k + 1) 0),(l,a0a ys ls)]):=by
 refine a0b.runs b8l (y:=a2q (lpB b0t) (a1x F)) (by rw [a2l]) ?_
 refine a0x.execCallT c8k (L:=[(F,a1k (W w b1 b2).params (a5u t S NI A B C DD s) 7 sl),(B,a0a zs eb),(wa,wob ia)]) (F:=[(ia,a0z (.ref l) k tp),(l,a0a ys ls)]) (fun _ _ r L=>r= .ok (.ret (nth ys k))∧L=[(wa,wob ia),(ia,a0z (.ref l) (k + 1) 0),(l,a0a ys ls),(F,a1k (W w b1 b2).params (a5u t S NI A B C DD s) 7 sl),(B,a0a zs eb)])
  (.refl _) hD a3u [1,2,2,2,1,6,3] [1,1,1] (fun _ _=>[(F,a1k (W w b1 b2).params (a5u t S NI A B C DD s) 7 sl),(B,a0a zs eb),(wa,wob ia)]) (fun _ _=>[0 < zs.size,zs.size≤1000000,nth zs (zs.size - 1)= .ref wa]) (d:=1) (k:=0) (fun _ _=>.call (.ref wa) ⟨[],[]⟩) (fun fr tk=>by kernel_rfl) (fun _ _=>a0d hz0 (a0d hz1 (a0d hw a0e))) (fun fr tk ok=>?_) (fun fr tk o ho r L₁ ok hr hf=>?_)
 ·refine (d2r (w:=W w b1 b2) (wa:=wa) (ia:=ia) (l:=l) (t:=tp) (ls:=ls) hk).use (F:=[(F,a1k (W w b1 b2).params (a5u t S NI A B C DD s) 7 sl),(B,a0a zs eb)]) (by exact lpp [[_],[_],[_],[_],[_]] [2,3,4,0,0,5,6,0,0] [4,5,6,0,0,2,3,0,0] rfl) fun r L₁ _ hr=>?_
  obtain ⟨rfl,rfl⟩:=hr
  exact ⟨_,.refl _,rfl,rfl⟩
 ·obtain ⟨rfl,rfl⟩:=hr
  rw [hy]
  refine a0x.execEndT c8k (L:=[(F,a1k (W w b1 b2).params (a5u t S NI A B C DD s) 7 sl)]) (F:=[(B,a0a zs eb),(wa,wob ia),(ia,a0z (.ref l) (k + 1) 0),(l,a0a ys ls)]) (by exact lpp [[_],[_],[_],[_],[_]] [2,3,4,5,6,0,0,0,0] [5,6,2,3,4,0,0,0,0] rfl) hD hf [1,0] [1] (fun _ _=>.ok .brk) (fun _ _=>[(F,a1k (W w b1 b2).params (a5u (a0q t 7 tn) S NI A B C DD s0) 7 sl)]) (fun _ _=>[])
   (fun fr2 tk2=>by exact sbo ho (by kernel_rfl)) (fun _ _=>a0e) (fun fr2 tk2 ok=>⟨_,.refl _,.brk,rfl,rfl,rfl⟩)
theorem d1k (hD:D≤600) {zs:Array Value} {wa ia l:Addr} {k:Nat} {tp:Tok} {ys:Array Value} {ls:Nat} (hz0:0 < zs.size) (hz1:zs.size≤1000000) (hw:nth zs (zs.size - 1)= .ref wa) (hk:ys.size≤k):
  a8y (W w b1 b2) D U es (execs e7t (a1x F)) [(F,a1k (W w b1 b2).params (a5u t S NI A B C DD s) 7 sl),(B,a0a zs eb),(wa,wob ia),(ia,a0z (.ref l) k tp),(l,a0a ys ls)]
   (fun v L=>Ey2 fun x e=>v= .ref e∧L=[(F,a1k (W w b1 b2).params (a5u t S NI A B C DD s) 7 sl),(B,a0a zs eb),(l,a0a ys ls),(e,a5r x)]):=by
 refine a8y.runs b8l (y:=a2q e7t (a1x F)) (by rw [a2l]) (a0x.toF ?_)
 refine a0x.execCallT c8k (L:=[(F,a1k (W w b1 b2).params (a5u t S NI A B C DD s) 7 sl),(B,a0a zs eb),(wa,wob ia)]) (F:=[(ia,a0z (.ref l) k tp),(l,a0a ys ls)]) (fun _ _ r L=>Ey2 fun x e=>r= .error (.ref e)∧L=[(l,a0a ys ls),(x,a9u),(e,a5r x),(F,a1k (W w b1 b2).params (a5u t S NI A B C DD s) 7 sl),(B,a0a zs eb)])
  (.refl _) hD a3u [1,2,2,2,1,6,3] [1,1,1] (fun _ _=>[(F,a1k (W w b1 b2).params (a5u t S NI A B C DD s) 7 sl),(B,a0a zs eb),(wa,wob ia)]) (fun _ _=>[0 < zs.size,zs.size≤1000000,nth zs (zs.size - 1)= .ref wa]) (d:=1) (k:=0) (fun _ _=>.call (.ref wa) ⟨[],[]⟩) (fun fr tk=>by kernel_rfl) (fun _ _=>a0d hz0 (a0d hz1 (a0d hw a0e))) (fun fr tk ok=>?_) (fun fr tk o ho r L₁ ok hr hf=>?_)
 ·refine (d6n (w:=W w b1 b2) (wa:=wa) (ia:=ia) (l:=l) (t:=tp) (ls:=ls) hk).use (F:=[(F,a1k (W w b1 b2).params (a5u t S NI A B C DD s) 7 sl),(B,a0a zs eb)]) (by exact lpp [[_],[_],[_],[_],[_]] [2,3,4,0,0,5,6,0,0] [4,5,6,0,0,2,3,0,0] rfl) fun r L₁ _ hr=>?_
  obtain ⟨x,e,rfl,rfl⟩:=hr
  exact ⟨_,.refl _,x,e,rfl,rfl⟩
 ·obtain ⟨x,e,rfl,rfl⟩:=hr
  refine a0x.execEndT c8k (L:=[]) (F:=[(l,a0a ys ls),(x,a9u),(e,a5r x),(F,a1k (W w b1 b2).params (a5u t S NI A B C DD s) 7 sl),(B,a0a zs eb)]) (.refl _) hD hf [] [] (fun _ _=>.error (.ref e)) (fun _ _=>[]) (fun _ _=>[])
   (fun fr2 tk2=>by exact sbo ho (by kernel_rfl)) (fun _ _=>a0e) (fun fr2 tk2 ok=>⟨[(F,a1k (W w b1 b2).params (a5u t S NI A B C DD s) 7 sl),(B,a0a zs eb),(l,a0a ys ls),(e,a5r x)],by exact ltt [[_],[_],[_],[_],[_]] [2,3,4,5,0,0,0] [1,4,6,5,2,3,0,0,0,0,0] rfl,.ref e,rfl,x,e,rfl,rfl⟩)
theorem c7o (hD:D≤600) {e:Value} {M:Led}:a5g (W w b1 b2) D e (eval e8k (a1x F)) M (fun c L=>c= .type "StopIteration"∧L=M):=
 a5g.run b3n (y:=a2r e8k (a1x F)) (by rw [a1i]) (L:=[]) (F:=M) hD (.refl _) [0,0] [] (fun _ _=>.type "StopIteration") (fun _ _=>[]) (fun _ _=>[]) (fun fr tk=>by kernel_rfl) (fun _ _=>a0e) (fun fr tk ok=>⟨_,.refl _,rfl,rfl⟩)
theorem c4q (hD:D≤600) {e:Value} {xs zs:Array Value} {rows:List Row} {s0:Str} {tn:Tok} {wa:Addr} (h1:0 < xs.size) (h2:xs.size≤1000000) (h3:nth xs (xs.size - 1)= .str s0 tn) (h4:rows.length≤1000000) (h5:s0∈a1m rows) (h6:0 < zs.size) (h7:zs.size≤1000000) (h8:nth zs (zs.size - 1)= .ref wa) {Fm:Led}:
  a5g (W w b1 b2) D e (execs d3b (a1x F)) ([(F,a1k (W w b1 b2).params (a5u t S NI A B C DD s) 7 sl),(A,a0a xs ea),(B,a0a zs eb),(DD,dob (W w b1 b2).params rows ed)]++Fm)
   (fun f L=>f= .next∧L=[(F,a1k (W w b1 b2).params (a5u t S NI A B C DD s) 7 sl),(A,a0a xs.pop (ea + 1)),(B,a0a zs.pop (eb + 1)),(DD,dob (W w b1 b2).params (c4n rows s0) (ed + 1))]++Fm):=by
 refine a5g.run b8l (y:=a2q d3b (a1x F)) (by rw [a2l]) (L:=[(F,a1k (W w b1 b2).params (a5u t S NI A B C DD s) 7 sl),(A,a0a xs ea),(B,a0a zs eb),(DD,dob (W w b1 b2).params rows ed)]) (F:=Fm) hD (.refl _) [1,1,2,2,2,2,1,3,4,4,3,1,3,3,3,3,2,1] [1,1,1,1] (fun _ _=>.next)
  (fun _ _=>[(F,a1k (W w b1 b2).params (a5u t S NI A B C DD s) 7 sl),(A,a0a xs.pop (ea + 1)),(B,a0a zs.pop (eb + 1)),(DD,a8d (d6f ⟨a0k (W w b1 b2).params rows⟩ (a4e (nth xs (xs.size - 1)))) (ed + 1))])
  (fun _ _=>[0 < zs.size,zs.size≤1000000,nth zs (zs.size - 1)= .ref (a3q (nth zs (zs.size - 1))),dWf (W w b1 b2).params ⟨a0k (W w b1 b2).params rows⟩,a3m ⟨a0k (W w b1 b2).params rows⟩ (a4e (nth xs (xs.size - 1))),0 < xs.size,xs.size≤1000000,nth xs (xs.size - 1)= .str (a4e (nth xs (xs.size - 1))) (a7e (nth xs (xs.size - 1)))])
  (fun fr tk=>by kernel_rfl) (fun _ _=>a0d h6 (a0d h7 (a0d (by rw [h8];rfl) (a0d (a1f _ h4) (a0d ((a0l _ _ _).mpr (by rw [h3];exact h5)) (a0d h1 (a0d h2 (a0d (by rw [h3];rfl) a0e)))))))) (fun fr tk ok=>?_)
 rw [c2c,h3]
 exact ⟨_,.refl _,rfl,rfl⟩
end
theorem d6r {ns:List Nd} {n:Nd} (h:n∈ns):∃X:Led,(ndL ns).Perm (n.led++X):=by
 obtain ⟨a,b,rfl⟩:=List.append_of_mem h
 refine ⟨ndL a++ndL b,a0h fun q=>?_⟩
 have e:ndL (a++n::b)=ndL a++(n.led++ndL b):=by simp [ndL]
 rw [e]
 exact lq [_,_,_] [2,3,4,0,0] [3,2,4,0,0] rfl
theorem d2s {su:List (Nat×Tok)} {k:Nat} {p:Nat×Tok} (h:su[k]?=some p):nth (suV su) k= .str (nm p.1) p.2:=a7p (f:=fun p:Nat×Tok=>Value.str (nm p.1) p.2) h
theorem c0s (su:List (Nat×Tok)):(suV su).size=su.length:=by simp [suV]
section
variable {w:World} {b1 b2:Bool} {D U:Nat} {F S NI A B C DD:Addr} {es:List Env} {G:Led} {ns:List Nd}
noncomputable def b7l (P:Params) (F S NI A B C DD:Addr) (G:Led) (ns:List Nd) (M0:Nat) (r:Result) (L:Led):Prop:=
 (r= .ok .brk∧Ey7 fun t s sl ea eb ed G'=>a4p G G'∧L=fcL P F t S NI A B C DD s sl [] ea eb ed++ndL ns++G')∨
 (r= .ok .next∧Ey8 fun st t v sl ea eb ed G'=>An7 (a4p G G') (b1l ns st) (kM st < M0) (v < 5) (v∈ns.map (·.v)) ((∀k∈st,k.n.v < v)) (L=fcL P F t S NI A B C DD (nm v) sl st ea eb ed++ndL ns++G'))
theorem c6k (F:Addr):(a1x F).scope.kind≠.module:=by
 have:(a1x F).scope.kind= .function:=by kernel_rfl
 rw [this];decide
theorem d0l:lpB b0t=[Stmt.Try e7t [.ExceptHandler (some e8k) none (d3b.headD (.Pass default)::d3b.tail) (hP (trH c1x))] [] [] (trP c1x)]:=by first | rfl | kernel_rfl
theorem f0a:d3b.headD (.Pass default)::d3b.tail=d3b:=by first | rfl | kernel_rfl
noncomputable abbrev f6b (w:World) (b1 b2:Bool) (F S NI A B C DD:Addr) (G:Led) (ns:List Nd) (M0:Nat) (j:Nat) (L:Led):Prop:=Ey8 fun st t s sl ea eb ed G'=>An5 (a4p G G') (j=st.length) (b1l ns st) (kM st≤M0) (L=fcL (W w b1 b2).params F t S NI A B C DD s sl st ea eb ed++ndL ns++G')
theorem c4j (hD:D≤600) (hG:b1c es G) (u:b9c ns) (M0:Nat):
  ∀{st:List Kf} {t:Nat→Tok} {s:Str} {sl:Array (Option Value)} {ea eb ed:Nat},b1l ns st→kM st≤M0→
   b2s (W w b1 b2) D U (a1x F::es) (.whileLoop (lpT b0t) (lpB b0t) (lpO b0t) (a1x F)) (fcL (W w b1 b2).params F t S NI A B C DD s sl st ea eb ed++ndL ns++G) (b7l (W w b1 b2).params F S NI A B C DD G ns M0):=by
 intro st t s sl ea eb ed hst hM
 refine b2s.while (fun j L=>f6b w b1 b2 F S NI A B C DD G ns M0 j L) (fun j L ok hI=>?_) st.length ⟨st,t,s,sl,ea,eb,ed,G,a4p.refl G,rfl,hst,hM,rfl⟩
 clear hst hM st t s sl ea eb ed
 obtain ⟨st,t,s,sl,ea,eb,ed,G',hsl,rfl,hst,hM,rfl⟩:=hI
 have hlen:=hst.len u
 rcases List.eq_nil_or_concat st with rfl | ⟨st0,k,rfl⟩
 ·refine ((c5x (w:=w) (b1:=b1) (b2:=b2) (D:=D) (U:=U) (F:=F) (S:=S) (NI:=NI) (A:=A) (B:=B) (C:=C) (DD:=DD) (t:=t) (s:=s) (sl:=sl) (ea:=ea) hD (xs:=kA []) rfl).toF (es:=a1x F::es)).use (F:=[(B,a0a (kB []) eb),(DD,dob (W w b1 b2).params (kD []) ed)]++kL []++ndL ns++G') (by exact lpp [[_],[_],[_],[_],_,_,_] [2,3,4,5,0,0,0,6,0,7,0,8,0] [2,3,0,4,5,0,6,0,7,0,8,0,0] rfl) fun b L₁ _ hb=>?_
  obtain ⟨rfl,rfl⟩:=hb
  refine ⟨_,.refl _,?_⟩
  rw [if_neg Bool.false_ne_true]
  refine ((d5d (w:=w) (b1:=b1) (b2:=b2) (D:=D) (U:=U) (F:=F) hD).toF (es:=a1x F::es)).use (F:=fcL (W w b1 b2).params F t S NI A B C DD s sl [] ea eb ed++ndL ns++G') (by exact lpp [[_],[_],[_],[_],_,_,_] [2,3,0,4,5,0,6,0,7,0,8,0,0] [1,2,3,4,5,0,0,0,6,0,7,0,8,0,0] rfl) fun f L₁ _ hf=>?_
  obtain ⟨rfl,rfl⟩:=hf
  refine ⟨_,a0c fun q=>?_,.inl ⟨rfl,t,s,sl,ea,eb,ed,G',hsl,rfl⟩⟩
  exact lu [_,_,_] [2,3,0,4,0] [1,2,3,0,4,0,0] rfl
 ·rw [List.concat_eq_append] at *
  have hkn:=hst.mem k (List.mem_append_right _ (.head _))
  have hkp:=hst.pos k (List.mem_append_right _ (.head _))
  have hkl:=hst.last
  obtain ⟨X,hX⟩:=d6r hkn
  have hls:=List.length_append (as:=st0) (bs:=[k])
  refine ((c5b (w:=w) (b1:=b1) (b2:=b2) (D:=D) (U:=U) (F:=F) (S:=S) (NI:=NI) (A:=A) (B:=B) (C:=C) (DD:=DD) (t:=t) (s:=s) (sl:=sl) (ea:=ea) hD (xs:=kA (st0++[k])) (by rw [a7h];simp) (by rw [a7h];exact Nat.le_trans hlen (by decide))).toF (es:=a1x F::es)).use (F:=[(B,a0a (kB (st0++[k])) eb),(DD,dob (W w b1 b2).params (kD (st0++[k])) ed)]++kL (st0++[k])++ndL ns++G') (by exact lpp [[_],[_],[_],[_],_,_,_] [2,3,4,5,0,0,0,6,0,7,0,8,0] [2,3,0,4,5,0,6,0,7,0,8,0,0] rfl) fun b L₁ _ hb=>?_
  obtain ⟨rfl,rfl⟩:=hb
  refine ⟨_,.refl _,?_⟩
  rw [if_pos rfl]
  by_cases hp:k.pos < k.n.su.length
  ·obtain ⟨p,hpp⟩:∃p,k.n.su[k.pos]?=some p:=⟨_,List.getElem?_eq_getElem hp⟩
   obtain ⟨u1,u2,u3⟩:=u.up _ hkn p (List.mem_of_getElem? hpp)
   refine ((d4b (w:=w) (b1:=b1) (b2:=b2) (D:=D) (U:=U) (F:=F) (S:=S) (NI:=NI) (A:=A) (B:=B) (C:=C) (DD:=DD) (t:=t) (s:=s) (sl:=sl) (eb:=eb) hD (zs:=kB (st0++[k])) (wa:=k.w) (ia:=k.ia) (l:=k.n.la) (k:=k.pos) (tp:=k.tp) (ys:=suV k.n.su) (ls:=k.n.ls) (s0:=nm p.1) (tn:=p.2) (by rw [a6e];simp) (by rw [a6e];exact Nat.le_trans hlen (by decide)) (b5y _ _) (by rw [c0s];exact hp) (d2s hpp)).toF (es:=a1x F::es)).use
    (F:=[(A,a0a (kA (st0++[k])) ea),(DD,dob (W w b1 b2).params (kD (st0++[k])) ed)]++kL st0++[k.n.ob]++X++G') (a0h fun q=>?_) fun f L₁ _ hf=>?_
   ·have h1:=a1s hX q
    (simp only [b4b,b3t,Kf.led,Nd.led,Nd.li];exact lqh [[_],[_],[_],[_],_,[_],[_],_,_,[],[_],_,[_]] [2,3,0,4,5,0,6,7,8,0,0,0,9,0,10,0,0] [2,4,7,8,14,0,0,0,0,3,5,0,6,0,12,0,13,0,10,0,0] [9] [12,14,0,13,0] h1 rfl)
   ·obtain ⟨rfl,rfl⟩:=hf
    refine ⟨_,a0c fun q=>?_,.inr ⟨rfl,st0++[{ k with pos:=k.pos + 1,tp:=0 }],a0q t 7 p.2,p.1,sl,ea,eb,ed,G',hsl,hst.step hp 0,?_,u2,u3,fun j hj=>?_,rfl⟩⟩
    ·have h1:=a1s hX q
     have eA:kA (st0++[{ k with pos:=k.pos + 1,tp:=0 }])=kA (st0++[k]):=by simp [kA]
     have eB:kB (st0++[{ k with pos:=k.pos + 1,tp:=0 }])=kB (st0++[k]):=by simp [kB]
     have eD:kD (st0++[{ k with pos:=k.pos + 1,tp:=0 }])=kD (st0++[k]):=by simp [kD]
     have hc:(((k.pos + 1:Nat)):Int)=(k.pos:Int) + 1:=by simp +arith
     (simp only [fcL,eA,eB,eD,hc,b4b,b3t,Kf.led,Nd.led,Nd.li];exact luh [[_],[_],[_],[_],_,[_],[_],_,_,[],[_],_,[_]] [2,3,4,5,0,0,0,6,7,8,0,0,0,9,0,10,0] [2,4,7,8,14,0,0,0,0,3,5,0,6,0,12,0,13,0,10,0,0] [9] [12,14,0,13,0] h1 rfl)
    ·rw [c2e] at hM ⊢
     have e1:kM [{ k with pos:=k.pos + 1,tp:=0 }]=k.n.su.length - (k.pos + 1) + 1:=by simp [kM]
     have e2:kM [k]=k.n.su.length - k.pos + 1:=by simp [kM]
     rw [e2] at hM
     rw [e1];omega
    ·rcases List.mem_append.mp hj with hj | hj
     ·have:=hkl j hj;exact Nat.lt_of_lt_of_le this (Nat.le_of_lt u1)
     ·rw [List.mem_singleton] at hj;subst hj;exact u1
  ·rw [d0l]
   refine a1r.single (c6o (L:=fcL (W w b1 b2).params F t S NI A B C DD s sl (st0++[k]) ea eb ed++ndL ns++G') (Z:=fun G0 Fm=>G0=(F,a1k (W w b1 b2).params (a5u t S NI A B C DD s) 7 sl)::G'∧Fm=[(A,a0a (kA (st0++[k])) ea),(B,a0a (kB (st0++[k])) eb),(DD,dob (W w b1 b2).params (kD (st0++[k])) ed)]++kL st0++ndL ns) ?_ ?_ ?_ |> fun h=>h.mono ?_ fun r L' _ hr=>⟨L',.refl _,hr⟩)
   ·intro Aa σ hA Sa
    have Sb:=Sa.part (L:=[(F,a1k (W w b1 b2).params (a5u t S NI A B C DD s) 7 sl),(B,a0a (kB (st0++[k])) eb),(k.w,wob k.ia),(k.ia,a0z (.ref k.n.la) k.pos k.tp),(k.n.la,a0a (suV k.n.su) k.n.ls)]++([(A,a0a (kA (st0++[k])) ea),(DD,dob (W w b1 b2).params (kD (st0++[k])) ed)]++kL st0++[k.n.ob]++X++G')) (a0c fun q=>by
     have h1:=a1s hX q
     (simp only [fcL,b4b,b3t,Kf.led,Nd.led,Nd.li];exact luh [[_],[_],[_],[_],[_],[_],[_],_,[_],_,_,_,[]] [2,3,4,5,6,0,0,0,0,7,8,0,9,0,10,0,11,0,12,0,0] [2,7,3,8,0,0,0,9,4,5,0,0,0,13,0,12,0] [10,6,0,11,0] [13] (h1).symm rfl))
    have h2:=d1k (w:=w) (b1:=b1) (b2:=b2) (D:=D) (U:=U) (es:=a1x F::es) (F:=F) (S:=S) (NI:=NI) (A:=A) (B:=B) (C:=C) (DD:=DD) (t:=t) (s:=s) (sl:=sl) (eb:=eb) hD (zs:=kB (st0++[k])) (wa:=k.w) (ia:=k.ia) (l:=k.n.la) (k:=k.pos) (tp:=k.tp) (ys:=suV k.n.su) (ls:=k.n.ls) (by rw [a6e];simp) (by rw [a6e];omega) (b5y _ _) (by rw [c0s];exact Nat.le_of_not_lt hp)
    refine wpAny_mono (h2 Aa σ hA (Sb.part (.app _ _))) (fun _ _ q=>q) fun v s' hv=>?_
    refine a1p (a0c fun q=>?_) (a3z Sb hv) fun v L' _ hr=>?_
    ·have h1:=a1s hX q
     (simp only [fcL,b4b,b3t,Kf.led,Nd.led,Nd.li];exact luh [[_],[_],[_],[_],[_],[_],[_],_,[_],_,_,_,[]] [2,3,4,5,6,0,0,0,0,7,8,0,9,0,10,0,11,0,12,0,0] [2,7,3,8,0,0,0,9,4,5,0,0,0,13,0,12,0] [10,6,0,11,0] [13] (h1).symm rfl)
    ·obtain ⟨L1,⟨x,e,rfl,rfl⟩,rfl⟩:=hr
     refine ⟨_,a0c fun q=>?_,x,e,_,_,rfl,.cons _ _ _ (c6k F) rfl (by intro vs;simp [a1k]) (hG.slEq hsl),⟨rfl,rfl⟩,rfl⟩
     have h1:=a1s hX q
     exact luh [[_],_,[_],[_],[_],[_],_,_,[],[_],_,[_]] [2,3,0,4,0,5,6,7,0,0,8,0,9,0,0] [2,6,13,4,0,0,0,5,7,0,8,0,11,0,12,0,3,0,0] [9] [11,13,0,12,0] h1 rfl
   ·intro e G0 G1 Fm hz hs1
    exact c7o hD
   ·intro e G0 G1 Fm hz hs1
    obtain ⟨rfl,rfl⟩:=hz
    cases hs1 with
    | cons _ _ sl1 hs1=>
     rename_i G2
     rw [f0a]
     have h3:=c4q (w:=w) (b1:=b1) (b2:=b2) (D:=D) (F:=F) (S:=S) (NI:=NI) (A:=A) (B:=B) (C:=C) (DD:=DD) (t:=t) (s:=s) (sl:=sl1) (ea:=ea) (eb:=eb) (ed:=ed) hD (e:=.ref e) (xs:=kA (st0++[k])) (zs:=kB (st0++[k])) (rows:=kD (st0++[k])) (s0:=nm k.n.v) (tn:=k.tk) (wa:=k.w) (by rw [a7h];simp) (by rw [a7h];omega) (d2e _ _) (by simp [kD];omega) (by rw [c3b];simp) (by rw [a6e];simp) (by rw [a6e];omega) (b5y _ _) (Fm:=kL st0++ndL ns++G2)
     refine h3.use (F:=[]) (a0h fun q=>?_) fun f L₁ _ hf=>?_
     ·(dsimp only [a1k];exact lq [[_],_,[_],[_],[_],_,_] [2,3,0,4,5,6,0,0,7,0,8,0,0] [2,4,5,6,0,0,0,7,8,0,3,0,0,1,0] rfl)
     ·obtain ⟨rfl,rfl⟩:=hf
      have hdel:c4n (kD (st0++[k])) (nm k.n.v)=kD st0:=by
       unfold kD
       rw [List.map_append]
       refine b4f _ (nm k.n.v,k.tk,k.iv) fun hm=>?_
       have hm':=(c8l u hst.pre (u.lt _ hkn)).mp hm
       obtain ⟨j,hj,hjv⟩:=List.mem_map.mp hm'
       have:=hkl j hj
       omega
      rw [hdel,d9q,d8e]
      refine ⟨_,a0c fun q=>?_,st0.length,by simp,st0,t,s,sl1,ea + 1,eb + 1,ed + 1,G2,hsl.trans hs1,rfl,hst.pre,?_,rfl⟩
      ·exact lu [[_],[_],[_],[_],_,_,_] [2,3,4,5,0,0,0,6,0,7,0,8,0] [2,3,4,5,0,0,0,6,7,0,8,0,0,1,0] rfl
      ·rw [c2e] at hM;omega
   ·refine a0c fun q=>?_
    exact lu [[_],[_],[_],[_],_,_,_] [2,3,4,5,0,0,0,6,0,7,0,8,0] [2,3,0,4,5,0,6,0,7,0,8,0,0] rfl
end
noncomputable abbrev e5q (es:Array (Int×Value)) (ep:Nat) (t:SetTable):Obj:=⟨.type "set",none,.set es ep t,⟨[]⟩⟩
theorem c4x {w:World} {o:Obj} {Sf:Str→Bool} {n:Nat} (h:a6r w o Sf n):Ey3 fun es ep t=>o=e5q es ep t:=by
 obtain ⟨hx,es,ep,t,hd,_⟩:=h
 obtain ⟨c,d,dt,sl⟩:=o
 obtain ⟨h1,h2,h3⟩:=hx
 simp only at h1 h2 h3 hd
 subst h1 h2 h3 hd
 exact ⟨es,ep,t,rfl⟩
noncomputable def kU (ns:List Nd) (Sf:Str→Bool):Nat:=(ns.map fun n=>if Sf (nm n.v) then 0 else n.su.length + 2).sum
theorem b1k (m:Nd) (ns:List Nd) (Sg:Str→Bool):kU (m::ns) Sg=(if Sg (nm m.v) then 0 else m.su.length + 2) + kU ns Sg:=rfl
theorem c7s (s:Str) (Sf:Str→Bool) (m:Nd):(if (Sf (nm m.v) || decide (nm m.v=s)) then 0 else m.su.length + 2)≤if Sf (nm m.v) then 0 else m.su.length + 2:=by
 cases hm:Sf (nm m.v) <;> simp only [Bool.true_or,Bool.false_or,if_true,Bool.false_eq_true,if_false]
 ·split <;> omega
 ·exact Nat.le_refl _
theorem e0w (s:Str) (Sf:Str→Bool):∀ns:List Nd,kU ns (fun k=>Sf k || decide (k=s))≤kU ns Sf
 | []=>Nat.le_refl _
 | n::ns=>by
  have h:=e0w s Sf ns
  have h1:=c7s s Sf n
  rw [b1k,b1k]
  omega
theorem e0h {ns:List Nd} {n:Nd} (h:n∈ns) {Sf:Str→Bool} (hs:Sf (nm n.v)=false):kU ns (fun k=>Sf k || decide (k=nm n.v)) + (n.su.length + 2)≤kU ns Sf:=by
 induction ns with
 | nil=>cases h
 | cons m ns ih=>
  rw [b1k,b1k]
  rcases List.mem_cons.mp h with rfl | h
  ·have:=e0w (nm n.v) Sf ns
   simp only [hs,Bool.false_or,decide_true,if_true,Bool.false_eq_true,if_false]
   omega
  ·have:=ih h
   have h3:=c7s (nm n.v) Sf m
   omega
theorem c5s {ns:List Nd} (u:b9c ns) (Sf:Str→Bool):kU ns Sf≤102 * ns.length:=by
 have:∀l:List Nd,(∀n∈l,n.su.length≤100)→kU l Sf≤102 * l.length:=by
  intro l
  induction l with
  | nil=>intro _;exact Nat.le_refl _
  | cons m l ih=>
   intro h
   have e:kU (m::l) Sf=(if Sf (nm m.v) then 0 else m.su.length + 2) + kU l Sf:=rfl
   have h1:=ih fun n hn=>h n (.tail _ hn)
   have h2:=h m (.head _)
   rw [e,List.length_cons]
   split <;> omega
 exact this ns u.sl
theorem b9c.ns {ns:List Nd} (u:b9c ns):a4l ns:=⟨u.lt,u.nd⟩
section
variable {w:World} {b1 b2:Bool} {D U:Nat} {F S NI A B C DD:Addr} {es:List Env} {G:Led} {ns:List Nd}
noncomputable abbrev f3r (F:Addr):Code:=.whileLoop (lpT b0t) (lpB b0t) (lpO b0t) (a1x F)
end
theorem c0r (w:World) (a b:Nat) (c:Bool):a6r w (e5q #[] 0 (SetTable.fresh a b c)) (fun _=>false) 0:=by
 refine ⟨⟨rfl,rfl,rfl⟩, #[],0,_,rfl,fun e he=>?_,fun k=>?_,?_⟩
 ·simp at he
 ·simp
 ·refine ⟨rfl,?_⟩
  rfl
theorem c3h {P:Params} {ns:List Nd} {k:Nat} {n:Nd} (h:ns[k]?=some n):a9d ⟨a0k P (ns.map Nd.row)⟩ (k:Int)= .str (nm n.v) n.tk:=by
 unfold a9d
 rw [Int.toNat_natCast,a1z]
 simp only [List.map_map,List.getElem?_map,h,Option.map_some]
 rfl
theorem a0t (P:Params) (l:List Row):(⟨a0k P l⟩:Array DictEntry).size=l.length:=by simp [a1z]
section
variable {w:World} {b1 b2:Bool} {D U:Nat} {F Q S NI A B C DD:Addr} {es:List Env} {G:Led} {ns:List Nd}
noncomputable abbrev d2z (P:Params) (rows:List Row) (k:Nat):Value:=a9d ⟨a0k P rows⟩ (k:Int)
end
noncomputable abbrev e0j:Str:=l42
noncomputable abbrev s_i:Str:=⟨⟨[105]⟩⟩
noncomputable abbrev d8b (S:Addr):Code:=.call (.ref 120) ⟨[.ref S],[]⟩
noncomputable abbrev c3k (F:Addr):Env:=b6b (a9n 9 3) e0j 120 119 F []
noncomputable abbrev ppE:Expr:=d2p (a3i (a1e (a9n 9 3)) 1)
noncomputable abbrev ppS (Q A D F:Addr):Code:=.compStart ppE 0 (.ref Q) (.ref A) (a8c ppE D (c3k F))
noncomputable abbrev ppC (Q A D F:Addr):Code:=.compLoop ppE 0 (.ref Q) (.ref A) (a8c ppE D (c3k F))
noncomputable abbrev e6y (t:Nat→Tok) (S:Addr):List Row:=[(b3g,t 0,.ref S)]
theorem c5n {P:Params} {ns:List Nd} {k:Nat} {n:Nd} (h:ns[k]?=some n):e4t ⟨a0k P (ns.map Nd.row)⟩ (k:Int)= .ref n.a:=by
 unfold e4t
 rw [Int.toNat_natCast,a1z]
 simp only [List.map_map,List.getElem?_map,h,Option.map_some]
 rfl
noncomputable def rd0 (ns:List Nd):List (Nat×Tok):=(ns.filter fun n=>decide (n.np=0)).map fun n=>(n.v,n.tv)
theorem c4y (F:Addr):(c3k F).scope.kind≠.module:=by
 have:(c3k F).scope.kind= .function:=by kernel_rfl
 rw [this];decide
noncomputable def e9u:Stmt→Expr
 | .Expr e _=>e
 | _=>.Constant .none 0 default
noncomputable def b9w:Expr→Nat→Expr
 | .Call _ as _ _,k=>as.getD k (.Constant .none 0 default)
 | _,_=>.Constant .none 0 default
noncomputable def e8g:Expr→Expr
 | .Starred e _=>e
 | e=>e
noncomputable abbrev b0b (F H:Addr):Env:=b6b (top 20) l21 228 227 F [(l66,H)]
noncomputable abbrev e1t (I:Addr):Code:=.call (.ref 228) ⟨[.ref I],[]⟩
noncomputable abbrev d9x:Stmt:=a3i (a1e (top 20)) 1
noncomputable abbrev heC (Q F H:Addr):Code:=b4o d9x (.ref Q) (b0b F H)
noncomputable abbrev heE:Expr:=e8g (b9w (e9u (a3i (lpB d9x) 0)) 1)
noncomputable abbrev e9r (t:Nat→Tok) (I S:Addr):List Row:=[(c8o,t 0,.ref I),(c4s,t 1,.ref S)]
noncomputable abbrev c2p (t:Nat→Tok) (I S:Addr) (s:Str):List Row:=e9r t I S++[(b7p,t 2,.str s (t 3))]
noncomputable abbrev f4a (Q A Dd F H:Addr):Code:=.compLoop heE 0 (.ref Q) (.ref A) (a8c heE Dd (b0b F H))
noncomputable abbrev f2h (Q A Dd F H:Addr):Code:=.compStart heE 0 (.ref Q) (.ref A) (a8c heE Dd (b0b F H))
section
variable {w:World} {b1 b2:Bool} {D U:Nat} {F H Q O A Dd:Addr}
theorem a8m:∀{os:List Of} {k:Nat} {e:Of},os[k]?=some e→(os.map Of.ob).Perm (e.ob::(os.eraseIdx k).map Of.ob)
 | [],k,e,h=>by simp at h
 | e0::os,0,e,h=>by
  simp only [List.getElem?_cons_zero,Option.some.injEq] at h
  subst h
  exact .refl _
 | e0::os,k + 1,e,h=>by
  have ih:=a8m (os:=os) (k:=k) (e:=e) (by simpa using h)
  exact (ih.cons e0.ob).trans (.swap _ _ _)
theorem c7x {rk:List Rk} {x:Int} {os:List Of} (h:os.map Of.key=a9o rk x) {k:Nat} {e:Of} (he:os[k]?=some e):(∃r,An3 (rk[k]?=some r) (e.s=nm r.1) (e.x=r.2.2))∨(k=rk.length∧e.s=⟨⟨[]⟩⟩∧e.x=x):=by
 have h1:(os.map Of.key)[k]?=some e.key:=by rw [List.getElem?_map,he];rfl
 rw [h] at h1
 unfold a9o at h1
 by_cases hk:k < rk.length
 ·rw [List.getElem?_append_left (by simpa using hk),List.getElem?_map] at h1
  obtain ⟨r,hr⟩:∃r,rk[k]?=some r:=⟨_,List.getElem?_eq_getElem hk⟩
  rw [hr] at h1
  have:=Option.some.inj h1
  exact .inl ⟨r,hr,(congrArg Prod.fst this).symm,(congrArg Prod.snd this).symm⟩
 ·rw [List.getElem?_append_right (by simpa using hk)] at h1
  rw [List.length_map] at h1
  have h2:k - rk.length=0:=by
   have:=(List.getElem?_eq_some_iff.mp h1).1
   simpa using this
  rw [h2] at h1
  have:=Option.some.inj h1
  exact .inr ⟨by omega,(congrArg Prod.fst this).symm,(congrArg Prod.snd this).symm⟩
theorem b9v {rk:List Rk} {x:Int} {os:List Of} (h:os.map Of.key=a9o rk x):os.length=rk.length + 1:=by
 have:=congrArg List.length h
 simpa [a9o] using this
end
structure a4a (dn:List (Nat×List Nat)) (ns:List Nd):Prop where
 ok:a4l ns
 mem:∀u,u∈ns.map (·.v)↔∃p∈dn,u=p.1∨u∈p.2
 np:∀u,a3r ns u=(dn.map fun p=>if u=p.1 then (p.2.length:Int) else 0).sum
 su:∀u,a2t ns u=dn.flatMap fun p=>List.replicate (p.2.count u) p.1
theorem a4a.nil:a4a [] []:=⟨⟨fun _ h=>(nomatch h),List.nodup_nil⟩,fun u=>by simp,fun u=>rfl,fun u=>rfl⟩
theorem a4a.step {dn:List (Nat×List Nat)} {ns ns':List Nd} (b:a4a dn ns) {v:Nat} {ps:List Nat} (a:d5x ns v ps ns'):a4a (dn++[(v,ps)]) ns':=by
 refine ⟨a.ok,fun u=>?_,fun u=>?_,fun u=>?_⟩
 ·rw [a.mem,b.mem]
  constructor
  ·rintro (⟨p,hp,h⟩ | h)
   ·exact ⟨p,List.mem_append_left _ hp,h⟩
   ·exact ⟨(v,ps),List.mem_append_right _ (.head _),h⟩
  ·rintro ⟨p,hp,h⟩
   rcases List.mem_append.mp hp with hp | hp
   ·exact .inl ⟨p,hp,h⟩
   ·rw [List.mem_singleton] at hp;subst hp;exact .inr h
 ·rw [a.np,b.np,List.map_append,List.sum_append];simp
 ·rw [a.su,b.su,List.flatMap_append];simp
theorem a4a.len {dn:List (Nat×List Nat)} {ns:List Nd} (b:a4a dn ns) (hd:∀p∈dn,p.2.length≤10) (u:Nat):(a2t ns u).length≤10 * dn.length:=by
 rw [b.su]
 have:∀l:List (Nat×List Nat),(∀p∈l,p.2.length≤10)→(l.flatMap fun p=>List.replicate (p.2.count u) p.1).length≤10 * l.length:=by
  intro l
  induction l with
  | nil=>intro _;exact Nat.le_refl _
  | cons p l ih=>
   intro h
   have h1:=ih fun q hq=>h q (.tail _ hq)
   have h2:=h p (.head _)
   have h3:p.2.count u≤p.2.length:=List.count_le_length
   rw [List.flatMap_cons,List.length_append,List.length_replicate,List.length_cons]
   omega
 exact this dn hd
theorem b5m:∀{vs:List Iv} {v:Iv},(∀x∈vs,x.j < 5)→(vs.map (·.j)).Nodup→v∈vs→a5p (vs.map Iv.row) (nm v.j)= .ref v.O
 | m::vs,v,hl,hnd,hv=>by
  rw [List.map_cons] at hnd ⊢
  rw [List.nodup_cons] at hnd
  unfold a5p
  rcases List.mem_cons.mp hv with rfl | hv
  ·rw [if_pos (show (Iv.row v).1=nm v.j from rfl)];rfl
  ·have:¬(Iv.row m).1=nm v.j:=fun e=>by
    have:=a2u (hl m (.head _)) (hl v (.tail _ hv)) e
    exact hnd.1 (List.mem_map.mpr ⟨v,hv,this.symm⟩)
   rw [if_neg this]
   exact b5m (fun x hx=>hl x (.tail _ hx)) hnd.2 hv
theorem c5f {P:Params} {vs:List Iv} {k:Nat} {v:Iv} (h:vs[k]?=some v):a9d ⟨a0k P (vs.map Iv.row)⟩ (k:Int)= .str (nm v.j) v.tj:=by
 unfold a9d
 rw [Int.toNat_natCast,a1z]
 simp only [List.map_map,List.getElem?_map,h,Option.map_some]
 rfl
structure c8d (rkf:Nat→List Rk) (own:Nat→Int) (vs:List Iv):Prop where
 lt:∀v∈vs,v.j < 5
 nd:(vs.map (·.j)).Nodup
 os:∀v∈vs,v.os.map Of.key=a9o (rkf v.j) (own v.j)
 rl:∀j,(rkf j).length≤10
 rf:∀j,∀r∈rkf j,r.1 < 5
theorem c8d.len {rkf own vs} (h:c8d rkf own vs):vs.length≤5:=by
 have h1:(vs.map (·.j)).length≤(List.range 5).length:=by
  refine List.Nodup.length_le_of_subset h.nd fun v hv=>?_
  obtain ⟨n,hn,rfl⟩:=List.mem_map.mp hv
  exact List.mem_range.mpr (h.lt n hn)
 simpa using h1
noncomputable def b8w (rkf:Nat→List Rk) (vs:List Iv):List (Nat×List Nat):=vs.map fun v=>(v.j,(rkf v.j).map (·.1))
noncomputable def d2j:Tab:=c8k
section
variable {w:World} {D U:Nat} {L M F:Led}
noncomputable def vmP (m:List Nat) (o:Out):Bool×Code×List Nat×Led×List Prop×List Addr:=(o.ok,o.c,o.fs.map fun _=>0,d5o m o.L,o.ob,o.es.map (·.1))
noncomputable def wm (o:Out) (c:Code) (L:Led) (ob:List Prop):Bool×Code×List Nat×Led×List Prop×List Addr:=(true,c,[],L,ob,o.es.map (·.2))
theorem a0x.execMid (T:Tab) {c fs t} {R:a6i} (hp:M.Perm (L++F)) (hD:D≤600) (hfs:∀f∈fs,f.hd=none) (hs m:List Nat) (cc:(Nat→Addr)→(Nat→Tok)→Code) (tt:(Nat→Addr)→(Nat→Tok)→Sem PySem.Fin) (L':(Nat→Addr)→(Nat→Tok)→Led) (ob:(Nat→Addr)→(Nat→Tok)→List Prop)
  (ev:∀fr tk,vmP m (xr T w fr tk hs c fs t L)=wm (xr T w fr tk hs c fs t L) (cc fr tk) (L' fr tk) (ob fr tk))
  (evt:∀fr tk,(xr T w fr tk hs c fs t L).t=tt fr tk)
  (hob:∀fr tk,∀p∈ob fr tk,p) (hc:∀fr tk,True→a0x w D U (cc fr tk) [] (tt fr tk) (L' fr tk++F) R):a0x w D U c fs t M R:=by
 refine a0x.execFT T hp hD hfs hs fun fr tk=>?_
 have e:=ev fr tk
 have et:=evt fr tk
 have hc':=hc fr tk
 have ho:=hob fr tk
 revert e et
 generalize xr T w fr tk hs c fs t L=o
 intro e et
 unfold vmP wm at e
 simp only [Prod.mk.injEq] at e
 obtain ⟨e1,e2,e3,e5,e6,e7⟩:=e
 refine ⟨e1,e7,by rw [e6];exact ho,fun ok hf=>?_⟩
 have:o.fs=[]:=List.map_eq_nil_iff.mp e3
 rw [this,e2,et]
 have hpart:a2i (L' fr tk++F) (o.L++F):=by rw [←e5];exact (a2j m o.L).both F
 exact a0x.less hpart (hc' trivial)
end
noncomputable abbrev mnC (I S:Addr):Code:=.builtin "min.loop" ⟨[.ref I,.none,.ref S],[]⟩
noncomputable def mnT (w:World) (I S:Addr):Sem PySem.Fin:=(xr d2j w (fun _=>0) (fun _=>0) [] (mnC I S) [] (den (mnC I S)) []).t
noncomputable def inA (ps:List (Int×Tok)):Array Value:=⟨ps.map fun p=>.int p.1 p.2⟩
theorem a6m (ps:List (Int×Tok)):(inA ps).size=ps.length:=by simp [inA]
theorem c2s {ps:List (Int×Tok)} {k:Nat} {p:Int×Tok} (h:ps[k]?=some p):nth (inA ps) k= .int p.1 p.2:=a7p (f:=fun p:Int×Tok=>Value.int p.1 p.2) h
structure a1d (l:List Int) (x:Int):Prop where
 mem:x∈l
 le:∀y∈l,x≤y
theorem a1d.uniq {l:List Int} {x y:Int} (a:a1d l x) (b:a1d l y):x=y:=by
 have:=a.le y b.mem
 have:=b.le x a.mem
 omega
section
variable {w:World} {b1 b2:Bool} {D U:Nat} {l I S:Addr} {ps:List (Int×Tok)} {m:Nat}
theorem d1d (hD:D≤600) (hl:ps.length≤1000000):
  ∀j k,j + k=ps.length→∀{ti:Tok} {x:Int} {t:Tok} {nn:Nat},a1d ((ps.take k).map (·.1)) x→
   a0x (W w b1 b2) D U (mnC I S) [] (mnT (W w b1 b2) I S) [(I,a0z (.ref l) k ti),(S,a0a ⟨[.int x t,.int x t]⟩ nn),(l,a0a (inA ps) m)]
    (fun r L=>Ey2 fun x t=>An3 (r= .ok (.ret (.int x t))) (a1d (ps.map (·.1)) x) (L=[(l,a0a (inA ps) m)])):=by
 intro j
 induction j with
 | zero=>
  intro k hk ti x t nn hx
  refine a0x.execEndT d2j (L:=[(I,a0z (.ref l) k ti),(S,a0a ⟨[.int x t,.int x t]⟩ nn),(l,a0a (inA ps) m)]) (F:=[]) (by rw [List.append_nil]) hD a3u [2,1,0,2,0,0,5,2,1,2] [0,0,1] (fun _ _=>.ok (.ret (.int x t))) (fun _ _=>[(l,a0a (inA ps) m)]) (fun _ _=>[0≤(k:Int),((inA ps).size:Int)≤(k:Int)])
   (fun fr tk=>by kernel_rfl) (fun _ _=>a0d (by exact Int.natCast_nonneg _) (a0d (by rw [a6m];omega) a0e)) (fun fr tk ok=>⟨_,by rw [List.append_nil];exact .refl _,x,t,rfl,?_,rfl⟩)
  rw [List.take_of_length_le (by omega)] at hx
  exact hx
 | succ j ih=>
  intro k hk ti x t nn hx
  obtain ⟨p,hp⟩:∃p,ps[k]?=some p:=⟨_,List.getElem?_eq_getElem (by exact a9q hk)⟩
  have hcast:((k:Int) + 1)=((k + 1:Nat):Int):=by simp +arith
  have hnth:=c2s hp
  have htake:ps.take (k + 1)=ps.take k++[p]:=by rw [List.take_add_one,hp];rfl
  have hks:(k:Int) < (inA ps).size:=by rw [a6m];omega
  by_cases hlt:p.1 < x
  ·refine a0x.execMid d2j (L:=[(I,a0z (.ref l) k ti),(S,a0a ⟨[.int x t,.int x t]⟩ nn),(l,a0a (inA ps) m)]) (F:=[]) (by rw [List.append_nil]) hD a3u [2,1,0,2,1,2,1,2,1,2] [1,1,1] (fun _ _=>mnC I S) (fun _ _=>mnT (W w b1 b2) I S)
    (fun _ _=>[(I,a0z (.ref l) (k + 1) 0),(S,a0a ⟨[.int (a2m (nth (inA ps) k)) (a7e (nth (inA ps) k)),.int (a2m (nth (inA ps) k)) (a7e (nth (inA ps) k))]⟩ nn),(l,a0a (inA ps) m)]) (fun _ _=>[a2m (nth (inA ps) k) < x,0≤(k:Int),(k:Int) < (inA ps).size,nth (inA ps) k= .int (a2m (nth (inA ps) k)) (a7e (nth (inA ps) k))])
    (fun fr tk=>by exact bcs b1 (by kernel_rfl) (by kernel_rfl)) (fun fr tk=>by exact bcs b1 (by kernel_rfl) (by kernel_rfl)) (fun _ _=>a0d (by rw [hnth];exact hlt) (a0d (by exact Int.natCast_nonneg _) (a0d hks (a0d (by rw [hnth];rfl) a0e)))) (fun fr tk ok=>?_)
   rw [hnth,hcast,List.append_nil]
   refine ih (k + 1) (by exact sk1 hk) ⟨?_,fun y hy=>?_⟩
   ·rw [htake,List.map_append];exact List.mem_append_right _ (.head _)
   ·rw [htake,List.map_append] at hy
    show p.1≤y
    rcases List.mem_append.mp hy with hy | hy
    ·have:=hx.le y hy;exact Int.le_trans (Int.le_of_lt hlt) this
    ·have:y=p.1:=by simpa using hy
     exact Int.le_of_eq this.symm
  ·refine a0x.execMid d2j (L:=[(I,a0z (.ref l) k ti),(S,a0a ⟨[.int x t,.int x t]⟩ nn),(l,a0a (inA ps) m)]) (F:=[]) (by rw [List.append_nil]) hD a3u [2,1,0,2,1,2,0] [1,1,1] (fun _ _=>mnC I S) (fun _ _=>mnT (W w b1 b2) I S)
    (fun _ _=>[(I,a0z (.ref l) (k + 1) 0),(S,a0a ⟨[.int x t,.int x t]⟩ nn),(l,a0a (inA ps) m)]) (fun _ _=>[¬a2m (nth (inA ps) k) < x,0≤(k:Int),(k:Int) < (inA ps).size,nth (inA ps) k= .int (a2m (nth (inA ps) k)) (a7e (nth (inA ps) k))])
    (fun fr tk=>by exact bcs b1 (by kernel_rfl) (by kernel_rfl)) (fun fr tk=>by exact bcs b1 (by kernel_rfl) (by kernel_rfl)) (fun _ _=>a0d (by rw [hnth];exact hlt) (a0d (by omega) (a0d hks (a0d (by rw [hnth];rfl) a0e)))) (fun fr tk ok=>?_)
   rw [hcast,List.append_nil]
   refine ih (k + 1) (by omega) ⟨?_,fun y hy=>?_⟩
   ·rw [htake,List.map_append];exact List.mem_append_left _ hx.mem
   ·rw [htake,List.map_append] at hy
    rcases List.mem_append.mp hy with hy | hy
    ·exact hx.le y hy
    ·have:y=p.1:=by simpa using hy
     omega
theorem c5k (hD:D≤600) (hl:ps.length≤1000000) (h0:ps≠[]):a0y (W w b1 b2) D U (.call (.builtin "min") ⟨[.ref l],[]⟩) [(l,a0a (inA ps) m)]
  (fun r L=>Ey2 fun x t=>An3 (r= .ok (.ret (.int x t))) (a1d (ps.map (·.1)) x) (L=[(l,a0a (inA ps) m)])):=by
 refine a0y.code ?_
 refine a0x.execMid d2j (L:=[(l,a0a (inA ps) m)]) (F:=[]) (by rw [List.append_nil]) hD a3u [1,1,1,2] [1,1,1] (fun fr _=>mnC (fr 0) (fr 1)) (fun fr _=>mnT (W w b1 b2) (fr 0) (fr 1)) (fun fr _=>[(l,a0a (inA ps) m),(fr 0,a0z (.ref l) 0 0),(fr 1,a0a ⟨[]⟩ 0)]) (fun _ _=>[])
  (fun fr tk=>by exact bcs b1 (by kernel_rfl) (by kernel_rfl)) (fun fr tk=>by exact bcs b1 (by kernel_rfl) (by kernel_rfl)) (fun _ _=>a0e) (fun fr tk ok=>?_)
 obtain ⟨p,hp⟩:∃p,ps[0]?=some p:=by
  cases ps with
  | nil=>exact absurd rfl h0
  | cons p l=>exact ⟨p,rfl⟩
 have hlen:0 < ps.length:=(List.getElem?_eq_some_iff.mp hp).1
 have hnth:nth (inA ps) (0:Nat)= .int p.1 p.2:=c2s hp
 have htake:ps.take 1=[p]:=by
  cases ps with
  | nil=>exact absurd rfl h0
  | cons q l=>simp at hp;subst hp;rfl
 refine a0x.execMid d2j (L:=[(fr 0,a0z (.ref l) ((0:Nat):Int) 0),(fr 1,a0a ⟨[]⟩ 0),(l,a0a (inA ps) m)]) (F:=[]) (a0h fun q=>by
   have e0:((0:Nat):Int)=0:=rfl
   (simp only [e0];exact lq [[_],[_],[_]] [2,3,4,0,0,1,0] [3,4,2,0,0,1,0] rfl)) hD a3u [2,1,0,2,1,2,2,1,2] [1,1,1] (fun _ _=>mnC (fr 0) (fr 1)) (fun _ _=>mnT (W w b1 b2) (fr 0) (fr 1))
  (fun _ _=>[(fr 0,a0z (.ref l) (((0:Nat):Int) + 1) 0),(fr 1,a0a ⟨[.int (a2m (nth (inA ps) (0:Nat))) (a7e (nth (inA ps) (0:Nat))),.int (a2m (nth (inA ps) (0:Nat))) (a7e (nth (inA ps) (0:Nat)))]⟩ 1),(l,a0a (inA ps) m)]) (fun _ _=>[0≤((0:Nat):Int),((0:Nat):Int) < (inA ps).size,nth (inA ps) (0:Nat)= .int (a2m (nth (inA ps) (0:Nat))) (a7e (nth (inA ps) (0:Nat)))])
  (fun fr tk=>by kernel_rfl) (fun fr tk=>by kernel_rfl) (fun _ _=>a0d (by exact Int.natCast_nonneg _) (a0d (by rw [a6m];exact Int.ofNat_lt.mpr (by assumption)) (a0d (by rw [hnth];rfl) a0e))) (fun fr2 tk2 ok=>?_)
 rw [hnth,List.append_nil]
 have hcast:(((0:Nat):Int) + 1)=((1:Nat):Int):=by simp +arith
 rw [hcast]
 refine d1d hD hl (ps.length - 1) 1 (by exact Nat.sub_add_cancel (by assumption)) ⟨?_,fun y hy=>?_⟩
 ·rw [htake];exact .head _
 ·rw [htake] at hy
  have:y=p.1:=by simpa using hy
  show p.1≤y
  exact Int.le_of_eq this.symm
end
noncomputable abbrev heW:Stmt:=a3i (a1e (top 20)) 4
noncomputable abbrev c8g:Stmt:=a3i (lpB heW) 1
noncomputable abbrev f4e (Q F H:Addr):Code:=b4o c8g (.ref Q) (b0b F H)
noncomputable abbrev e4b:Expr:=b9w (d2p (a3i (lpB c8g) 0)) 0
noncomputable abbrev e1z (t:Nat→Tok) (I S:Addr) (s:Str) (T:Addr):List Row:=c2p t I S s++[(d5g,t 4,.ref T)]
noncomputable abbrev a0n (v:Value):Obj:=⟨.type "cell",none,.cell (some v),⟨[]⟩⟩
noncomputable def a7r (e:Expr) (D:Addr) (env:Env) (cells:List (Str×Addr)):Env:={ scope:={ b4t e with names:=(b4t e).names.map fun x=>if x.2 == .free then (x.1,.cell) else x },locals:=D,globals:=3,cells:=cells,qual:=env.qual,func:=none,code:=env.code,frame:=env.frame,builtins:=0 }
noncomputable abbrev e5o (Q A Dd F H:Addr):Code:=.compLoop e4b 0 (.ref Q) (.ref A) (a7r e4b Dd (b0b F H) [(a4t,H)])
noncomputable abbrev e8c (Q A Dd F H:Addr):Code:=.compStart e4b 0 (.ref Q) (.ref A) (a7r e4b Dd (b0b F H) [(a4t,H)])
structure Ht where
 v:Nat
 tv:Tok
 h:Int
 th:Tok
noncomputable abbrev e4a:Str:=⟨⟨[]⟩⟩
noncomputable def Ht.row (e:Ht):Row:=(nm e.v,e.tv,.int e.h e.th)
noncomputable def htR (t0 t1:Tok) (hs:List Ht):List Row:=(e4a,t0,.int 0 t1)::hs.map Ht.row
structure a9z (hf:Nat→Int) (hs:List Ht):Prop where
 lt:∀e∈hs,e.v < 5
 h:∀e∈hs,e.h=hf e.v
 nd:(hs.map (·.v)).Nodup
theorem a9z.len {hf hs} (h:a9z hf hs):hs.length≤5:=by
 have h1:(hs.map (·.v)).length≤(List.range 5).length:=by
  refine List.Nodup.length_le_of_subset h.nd fun v hv=>?_
  obtain ⟨n,hn,rfl⟩:=List.mem_map.mp hv
  exact List.mem_range.mpr (h.lt n hn)
 simpa using h1
theorem b1d {t0 t1:Tok} {hs:List Ht} {hf:Nat→Int} (ok:a9z hf hs) {e:Ht} (he:e∈hs):a5p (htR t0 t1 hs) (nm e.v)= .int e.h e.th:=by
 unfold htR
 rw [a5p,if_neg (fun z=>c9s (id z.symm:nm e.v=e4a))]
 have:∀{hs:List Ht},(∀e∈hs,e.v < 5)→(hs.map (·.v)).Nodup→∀{e:Ht},e∈hs→a5p (hs.map Ht.row) (nm e.v)= .int e.h e.th:=by
  intro hs
  induction hs with
  | nil=>intro _ _ e he;cases he
  | cons a hs ih=>
   intro hl hnd e he
   rw [List.map_cons] at hnd ⊢
   rw [List.nodup_cons] at hnd
   unfold a5p
   rcases List.mem_cons.mp he with rfl | he
   ·rw [if_pos (show (Ht.row e).1=nm e.v from rfl)];rfl
   ·have:¬(Ht.row a).1=nm e.v:=fun z=>by
     have:=a2u (hl a (.head _)) (hl e (.tail _ he)) z
     exact hnd.1 (List.mem_map.mpr ⟨e,he,this.symm⟩)
    rw [if_neg this]
    exact ih (fun x hx=>hl x (.tail _ hx)) hnd.2 he
 exact this ok.lt ok.nd he
theorem d5a {t0 t1:Tok} {hs:List Ht}:a5p (htR t0 t1 hs) e4a= .int 0 t1:=by
 unfold htR
 rw [a5p,if_pos rfl]
theorem a7m {t0 t1:Tok} {hs:List Ht} {s:Str}:s∈a1m (htR t0 t1 hs)↔s=e4a∨∃e∈hs,s=nm e.v:=by
 unfold a1m htR
 rw [List.map_cons,List.mem_cons,List.map_map]
 constructor
 ·rintro (h | h)
  ·exact .inl h
  ·obtain ⟨e,he,rfl⟩:=List.mem_map.mp h
   exact .inr ⟨e,he,rfl⟩
 ·rintro (h | ⟨e,he,rfl⟩)
  ·exact .inl h
  ·exact .inr (List.mem_map.mpr ⟨e,he,rfl⟩)
theorem d3f (t0 t1:Tok) (hs:List Ht) (e:Ht):htR t0 t1 (hs++[e])=htR t0 t1 hs++[(nm e.v,e.tv,.int e.h e.th)]:=by simp [htR,Ht.row]
noncomputable def f3n:Tab:=d2j.add "min" (fun _=>a8r) fun w=>a3s
structure Gr (og su:Nat→List Nat):Prop where
 edge:∀u p,u < 5→p < 5→(su p).count u=(og u).count p
 up:∀u,u < 5→∀x∈og u,x < u
 sl:∀u,(su u).length≤100
 sf:∀u,∀x∈su u,x < 5∧u < x
structure b2k (og su:Nat→List Nat) (ns:List Nd) (rd:List (Nat×Tok)) (D:List Nat):Prop where
 ok:a4l ns
 all:∀u,u∈ns.map (·.v)↔u < 5
 su:∀u,a2t ns u=su u
 np:∀u,u < 5→a3r ns u=if u∈D then -2 else (((og u).filter fun x=>decide (x∉D)).length:Int)
 rn:(rd.map (·.1)).Nodup
 rd:∀u,u∈rd.map (·.1)↔u < 5∧u∉D∧∀x∈og u,x∈D
 cl:∀u∈D,u < 5∧∀x∈og u,x∈D
theorem d1e {ps:List Nat} (h:ps.Nodup) (x:Nat):(ps.map fun v=>if x=v then (1:Int) else 0).sum=if x∈ps then 1 else 0:=by
 induction ps with
 | nil=>rfl
 | cons a ps ih=>
  rw [List.nodup_cons] at h
  rw [List.map_cons,List.sum_cons,ih h.2]
  by_cases hx:x=a
  ·subst hx
   rw [if_pos rfl,if_neg h.1,if_pos (List.mem_cons_self ..)];rfl
  ·rw [if_neg hx]
   by_cases hm:x∈ps
   ·rw [if_pos hm,if_pos (List.mem_cons_of_mem _ hm)];rfl
   ·rw [if_neg hm,if_neg (by simp [hx,hm])];rfl
theorem d4c (f g:Nat→Int) (ps:List Nat):(ps.map fun v=>f v + g v).sum=(ps.map f).sum + (ps.map g).sum:=by
 induction ps with
 | nil=>rfl
 | cons a ps ih=>rw [List.map_cons,List.map_cons,List.map_cons,List.sum_cons,List.sum_cons,List.sum_cons,ih];simp +arith
theorem b2v {ps:List Nat} (h:ps.Nodup):∀l:List Nat,(ps.map fun v=>(l.count v:Int)).sum=((l.filter fun x=>decide (x∈ps)).length:Int)
 | []=>by
  have:∀ps:List Nat,(ps.map fun v=>(([]:List Nat).count v:Int)).sum=0:=by
   intro ps
   induction ps with
   | nil=>rfl
   | cons a ps ih=>rw [List.map_cons,List.sum_cons,ih];rfl
  rw [this];rfl
 | x::l=>by
  have e:(fun v=>((x::l).count v:Int))=fun v=>(l.count v:Int) + if x=v then (1:Int) else 0:=by
   funext v
   rw [List.count_cons]
   by_cases hx:x=v
   ·subst hx;simp
   ·have:(x == v)=false:=by simpa using hx
    simp [this,hx]
  rw [e,d4c,b2v h l,d1e h x,List.filter_cons]
  by_cases hm:x∈ps
  ·simp [hm]
  ·simp [hm]
theorem a5j {D ps:List Nat} (hd:∀x∈ps,x∉D):∀l:List Nat,(l.filter fun x=>decide (x∉D)).length=(l.filter fun x=>decide (x∉D++ps)).length + (l.filter fun x=>decide (x∈ps)).length
 | []=>rfl
 | x::l=>by
  have ih:=a5j hd l
  rw [List.filter_cons,List.filter_cons,List.filter_cons]
  by_cases h1:x∈D
  ·have h2:x∉ps:=fun h=>hd x h h1
   simp only [h1,h2,List.mem_append,true_or,not_true_eq_false,decide_false,Bool.false_eq_true,if_false]
   simp only [List.mem_append] at ih
   omega
  ·by_cases h2:x∈ps
   ·simp only [h1,h2,List.mem_append,or_true,not_true_eq_false,not_false_eq_true,decide_false,decide_true,Bool.false_eq_true,if_false,if_true,List.length_cons]
    simp only [List.mem_append] at ih
    omega
   ·simp only [h1,h2,List.mem_append,or_self,not_false_eq_true,decide_false,decide_true,Bool.false_eq_true,if_false,if_true,List.length_cons]
    simp only [List.mem_append] at ih
    omega
theorem a9m {D l:List Nat}:(l.filter fun x=>decide (x∉D)).length=0↔∀x∈l,x∈D:=by
 rw [List.length_eq_zero_iff,List.filter_eq_nil_iff]
 constructor
 ·intro h x hx
  have:=h x hx
  simpa using this
 ·intro h x hx
  simp [h x hx]
section
variable {og su:Nat→List Nat} {ns ns1 ns2:List Nd} {rd rd2:List (Nat×Tok)} {D:List Nat}
theorem b2k.tc (g:Gr og su) (k:b2k og su ns rd D) (p:a6x ns (rd.map (·.1)) ns1) {u:Nat} (hu:u < 5):b0u ns1 (rd.map (·.1)) u=(((og u).filter fun x=>decide (x∈rd.map (·.1))).length:Int):=by
 rw [←b2v k.rn]
 unfold b0u
 congr 1
 refine List.map_congr_left fun v hv=>?_
 rw [p.su,k.su,g.edge u v hu ((k.rd v).mp hv).1]
theorem b2k.step (g:Gr og su) (k:b2k og su ns rd D) (p:a6x ns (rd.map (·.1)) ns1) (d:a8b ns1 [] (rd.map (·.1)) ns2 rd2):b2k og su ns2 rd2 (D++rd.map (·.1)):=by
 have hdis:∀x∈rd.map (·.1),x∉D:=fun x hx=>((k.rd x).mp hx).2.1
 have hv1:∀u,u∈ns1.map (·.v)↔u < 5:=fun u=>by rw [p.vs,k.all]
 have hn1:∀u,u < 5→a3r ns1 u=if u∈rd.map (·.1) then -1 else a3r ns u:=fun u _=>p.np u
 obtain ⟨A,hA,hAn,hAm⟩:=d.rd
 rw [List.nil_append] at hA
 subst hA
 refine ⟨d.ok,fun u=>by rw [d.vs,hv1],fun u=>by rw [d.su,p.su,k.su],fun u hu=>?_,hAn,fun u=>?_,fun u hu=>?_⟩
 ·rw [d.np u ((hv1 u).mpr hu)]
  by_cases h1:u∈rd.map (·.1)
  ·rw [if_pos h1,if_pos (List.mem_append_right _ h1)]
  ·rw [if_neg h1,hn1 u hu,if_neg h1,k.tc g p hu,k.np u hu]
   by_cases h2:u∈D
   ·rw [if_pos h2,if_pos (List.mem_append_left _ h2)]
    have:((og u).filter fun x=>decide (x∈rd.map (·.1)))=[]:=by
     rw [List.filter_eq_nil_iff]
     intro x hx hx2
     exact hdis x (of_decide_eq_true hx2) ((k.cl u h2).2 x hx)
    rw [this];rfl
   ·rw [if_neg h2,if_neg (by rw [List.mem_append];exact fun h=>h.elim h2 h1),a5j hdis (og u)]
    simp +arith
 ·rw [hAm u,hv1]
  constructor
  ·rintro ⟨hu,h1,h2⟩
   have h3:=hn1 u hu
   by_cases hm:u∈rd.map (·.1)
   ·rw [if_pos hm] at h3;omega
   ·rw [if_neg hm,k.np u hu] at h3
    by_cases hD:u∈D
    ·rw [if_pos hD] at h3;omega
    ·rw [if_neg hD] at h3
     refine ⟨hu,by rw [List.mem_append];exact fun h=>h.elim hD hm,?_⟩
     rw [k.tc g p hu] at h2
     have:=a5j hdis (og u)
     exact a9m.mp (by omega)
  ·rintro ⟨hu,h1,h2⟩
   rw [List.mem_append,not_or] at h1
   have h3:=hn1 u hu
   rw [if_neg h1.2,k.np u hu,if_neg h1.1] at h3
   have h4:=a5j hdis (og u)
   have h5:=a9m.mpr h2
   refine ⟨hu,?_,?_⟩
   ·
    have h6:¬((og u).filter fun x=>decide (x∉D)).length=0:=fun z=>h1.2 ((k.rd u).mpr ⟨hu,h1.1,a9m.mp z⟩)
    omega
   ·rw [k.tc g p hu];omega
 ·rcases List.mem_append.mp hu with hu | hu
  ·exact ⟨(k.cl u hu).1,fun x hx=>List.mem_append_left _ ((k.cl u hu).2 x hx)⟩
  ·have:=(k.rd u).mp hu
   exact ⟨this.1,fun x hx=>List.mem_append_left _ (this.2.2 x hx)⟩
theorem b2k.free (g:Gr og su) (k:b2k og su ns rd D) (p:a6x ns (rd.map (·.1)) ns1):∀a∈rd,∀x∈rd,x.1∉a2t ns1 a.1:=by
 intro a ha x hx hm
 rw [p.su,k.su] at hm
 have hx1:=(k.rd x.1).mp (List.mem_map_of_mem hx)
 have ha1:=(k.rd a.1).mp (List.mem_map_of_mem ha)
 have h1:0 < (su a.1).count x.1:=List.count_pos_iff.mpr hm
 rw [g.edge x.1 a.1 hx1.1 ha1.1] at h1
 exact ha1.2.1 (hx1.2.2 a.1 (List.count_pos_iff.mp h1))
theorem b2k.fin (g:Gr og su) (k:b2k og su ns [] D):∀u,u < 5→u∈D:=by
 intro u
 induction u using Nat.strongRecOn with
 | ind u ih=>
  intro hu
  by_cases h:u∈D
  ·exact h
  ·have:=(k.rd u).mpr ⟨hu,h,fun x hx=>ih x (g.up u hu x hx) (by have:=g.up u hu x hx;exact Nat.lt_of_lt_of_le this (Nat.le_of_lt hu))⟩
   cases this
theorem b2k.rlen (k:b2k og su ns rd D):rd.length≤5:=by
 have h1:(rd.map (·.1)).length≤(List.range 5).length:=by
  refine List.Nodup.length_le_of_subset k.rn fun v hv=>?_
  exact List.mem_range.mpr ((k.rd v).mp hv).1
 simpa using h1
end
theorem b2k.start {dn:List (Nat×List Nat)} {ns:List Nd} (b:a4a dn ns) {og su:Nat→List Nat} (hdn:dn.map (·.1)=[4,3,2,1,0]) (hog:∀p∈dn,p.2=og p.1) (hof:∀u,∀x∈og u,x < 5) (hsu:∀u,a2t ns u=su u):b2k og su ns (rd0 ns) []:=by
 have hmem:∀u,u < 5→∃p∈dn,p.1=u:=fun u hu=>by
  have:u∈dn.map (·.1):=by
   rw [hdn]
   have:u=0∨u=1∨u=2∨u=3∨u=4:=lt5 (by first | assumption | omega)
   rcases this with rfl | rfl | rfl | rfl | rfl <;> simp
  obtain ⟨p,hp,rfl⟩:=List.mem_map.mp this
  exact ⟨p,hp,rfl⟩
 have hlt:∀p∈dn,p.1 < 5:=fun p hp=>by
  have:p.1∈dn.map (·.1):=List.mem_map_of_mem hp
  rw [hdn] at this
  simp at this
  exact f1c (by assumption)
 have hnd:(dn.map (·.1)).Nodup:=by rw [hdn];decide
 have hall:∀u,u∈ns.map (·.v)↔u < 5:=fun u=>by
  rw [b.mem]
  constructor
  ·rintro ⟨p,hp,h | h⟩
   ·rw [h];exact hlt p hp
   ·rw [hog p hp] at h;exact hof _ u h
  ·intro hu
   obtain ⟨p,hp,h⟩:=hmem u hu
   exact ⟨p,hp,.inl h.symm⟩
 have hnp:∀u,u < 5→a3r ns u=((og u).length:Int):=fun u hu=>by
  rw [b.np]
  have:∀l:List (Nat×List Nat),(l.map (·.1)).Nodup→(∀p∈l,p.2=og p.1)→(l.map fun p=>if u=p.1 then (p.2.length:Int) else 0).sum=if u∈l.map (·.1) then ((og u).length:Int) else 0:=by
   intro l
   induction l with
   | nil=>intro _ _;rfl
   | cons a l ih=>
    intro hn ho
    rw [List.map_cons] at hn
    rw [List.nodup_cons] at hn
    have ih:=ih hn.2 fun p hp=>ho p (.tail _ hp)
    rw [List.map_cons,List.sum_cons,ih,List.map_cons]
    by_cases hu:u=a.1
    ·rw [if_pos hu,if_neg (by rw [hu];exact hn.1),if_pos (by rw [hu];exact List.mem_cons_self ..),ho a (.head _),←hu];simp +arith
    ·rw [if_neg hu]
     by_cases hm:u∈l.map (·.1)
     ·rw [if_pos hm,if_pos (List.mem_cons_of_mem _ hm)];simp +arith
     ·rw [if_neg hm,if_neg (by simp only [List.mem_cons,not_or];exact ⟨hu,hm⟩)];simp +arith
  rw [this dn hnd hog,if_pos]
  obtain ⟨p,hp,h⟩:=hmem u hu
  exact List.mem_map.mpr ⟨p,hp,h⟩
 have hr0:(rd0 ns).map (·.1)=(ns.filter fun n=>decide (n.np=0)).map (·.v):=by simp [rd0]
 refine ⟨b.ok,hall,hsu,fun u hu=>?_,?_,fun u=>?_,fun u hu=>(nomatch hu)⟩
 ·rw [hnp u hu,if_neg (by simp)]
  congr 1
  rw [List.filter_eq_self.mpr (by simp)]
 ·rw [hr0]
  exact List.Nodup.sublist (List.Sublist.map _ List.filter_sublist) b.ok.nd
 ·rw [hr0]
  constructor
  ·intro h
   obtain ⟨n,hn,rfl⟩:=List.mem_map.mp h
   obtain ⟨h1,h2⟩:=List.mem_filter.mp hn
   have hu:=b.ok.lt n h1
   have h3:a3r ns n.v=n.np:=by unfold a3r;rw [a2s b.ok h1]
   have h4:=hnp n.v hu
   rw [h3,of_decide_eq_true h2] at h4
   have:og n.v=[]:=List.length_eq_zero_iff.mp (by omega)
   exact ⟨hu,by simp,by rw [this];intro x hx;cases hx⟩
  ·rintro ⟨hu,_,h⟩
   obtain ⟨n,hn,rfl⟩:=List.mem_map.mp ((hall u).mpr hu)
   have h3:a3r ns n.v=n.np:=by unfold a3r;rw [a2s b.ok hn]
   have h4:og n.v=[]:=by
    cases ho:og n.v with
    | nil=>rfl
    | cons a l=>rw [ho] at h;exact absurd (h a (.head _)) (by simp)
   refine List.mem_map.mpr ⟨n,List.mem_filter.mpr ⟨hn,?_⟩,rfl⟩
   rw [←h3,hnp n.v hu,h4];rfl
theorem c4u (F H:Addr):(b0b F H).scope.kind≠.module:=by
 have:(b0b F H).scope.kind= .function:=by kernel_rfl
 rw [this];decide
noncomputable abbrev hhU (tk:Nat→Tok):Nat→Tok:=fun i=>match i with
 | 0=>Nat.succ (tk 4)
 | 1=>Nat.succ (tk 6)
 | 2=>Nat.succ (tk 9)
 | 3=>Nat.succ (tk 7)
 | 4=>Nat.succ (tk 12)
 | _=>Nat.succ (tk 10)
noncomputable abbrev hhT (tk:Nat→Tok):Nat→Tok:=fun i=>match i with
 | 0=>Nat.succ (tk 0)
 | _=>Nat.succ (tk 13)
noncomputable def d6c:Tab:=(f3n.add "list.__getitem__" (fun _=>c7q) fun w=>c0v).add "list.__add__" (fun _=>d8x) fun w=>d5b
noncomputable def c3f (vals:Nat→Value) (p:PFn):PFn:=fun hs args L t f=>match hs with
 | []=>none
 | h::hs=>match h with
  | 0=>p hs args L t f
  | h + 1=>match p hs args L t f with
   | none=>none
   | some q=>match h with
    | 0=>some ⟨q.r,q.L,q.nj,q.hs,q.es,[a3t q.ob]⟩
    | h + 1=>match q.nj with
     | 0=>match q.r with
      | .ok (.ret v)=>some ⟨.ok (.ret (vals h)),q.L,0,q.hs,q.es,[a3t ((v=vals h)::q.ob)]⟩
      | _=>none
     | _=>none
noncomputable def GL (p:PFn):Prop:=∀hs args L t f q v,p hs args L t f=some q→q.nj=0→q.r= .ok (.ret v)→∀t' f',p hs args L t' f'=some q
theorem a6v {w:World} {id:String} {p:PFn} (vals:Nat→Value) (hp:a0i w id p) (g:GL p):a0i w id (c3f vals p):=by
 intro hs args L s A t f q hA hq hes hob S
 unfold c3f at hq
 split at hq
 ·cases hq
 ·rename_i h hs'
  split at hq
  ·exact hp hs' args L s A t f q hA hq hes hob S
  ·rename_i h'
   split at hq
   ·cases hq
   ·rename_i q1 hq1
    split at hq
    ·cases hq
     refine codeAny_mono (hp hs' args L s A t f q1 hA hq1 hes (a8n (hob _ (.head _))) S) ?_
     rintro r s' ⟨tok,f',q2,h1,h2,h3,h4,h5,h6⟩
     refine ⟨tok,f',⟨q2.r,q2.L,q2.nj,q2.hs,q2.es,[a3t q2.ob]⟩,h1,fun f'' ha=>?_,h3,h4,h5,h6⟩
     show (match p hs' args L tok f'' with | none=>none | some q=>some (⟨q.r,q.L,q.nj,q.hs,q.es,[a3t q.ob]⟩:d6h))=_
     rw [h2 f'' ha]
    ·rename_i h''
     split at hq
     ·rename_i hnj
      split at hq
      ·rename_i v hv
       cases hq
       have hb:=hob _ (.head _)
       refine codeAny_mono (hp hs' args L s A t f q1 hA hq1 hes (a8n hb.2) S) ?_
       rintro r s' ⟨tok,f',q2,h1,h2,h3,h4,h5,h6⟩
       have e2:q2=q1:=by
        have a:=g _ _ _ _ _ _ _ hq1 hnj hv tok f'
        have b:=h2 f' (a2b.refl _ _)
        rw [a] at b
        exact (Option.some.inj b).symm
       subst e2
       refine ⟨tok,f',⟨.ok (.ret (vals h'')),q2.L,0,q2.hs,q2.es,[a3t ((v=vals h'')::q2.ob)]⟩,h1,fun f'' ha=>?_,?_,h4,h5,h6⟩
       ·show (match p hs' args L tok f'' with
         | none=>none
         | some q=>match q.nj with
          | 0=>match q.r with
           | .ok (.ret v)=>some (⟨.ok (.ret (vals h'')),q.L,0,q.hs,q.es,[a3t ((v=vals h'')::q.ob)]⟩:d6h)
           | _=>none
          | _=>none)=_
        rw [g _ _ _ _ _ _ _ hq1 hnj hv tok f'']
        simp only [hnj,hv]
       ·rw [h3,hv,hb.1]
      ·cases hq
     ·cases hq
theorem c7w {z:PK} {L:Led} {es} {t f q v} (nt:∀u,z.k≠.tok u) (h:z.out L es t f=some q) (hn:q.nj=0) (hr:q.r= .ok (.ret v)) (t' f'):z.out L es t' f'=some q:=by
 obtain ⟨hg,e⟩:=PK.out_some h
 subst e
 unfold PK.out
 rw [hg]
 revert hn hr nt
 generalize z.k=k
 intro nt hn hr
 cases k with
 | val u=>rfl
 | tok u=>exact absurd rfl (nt u)
 | new o=>cases hn
 | stop=>cases hn
noncomputable def NT (c:a4y):Prop:=∀hs args L o o2 u,(c hs args L o o2).k≠.tok u
theorem gl1 {ix c} (nt:NT c):GL (p1 ix c):=fun hs args L t f q v h hn hr t' f'=>by
 cases hs with
 | nil=>cases h
 | cons a hs=>
  unfold p1 at h ⊢
  cases e:L[a]? with
  | none=>simp only [e] at h;cases h
  | some x=>simp only [e] at h ⊢;exact c7w (nt _ _ _ _ _) h hn hr t' f'
theorem gl2 {ad c} (nt:NT c):GL (p2 ad c):=fun hs args L t f q v h hn hr t' f'=>by
 match hs with
 | []=>cases h
 | [_]=>cases h
 | a::b::hs=>
  unfold p2 at h ⊢
  cases e:L[a]? with
  | none=>simp only [e] at h;cases h
  | some x=>
   cases e2:L[b]? with
   | none=>simp only [e,e2] at h;cases h
   | some y=>simp only [e,e2] at h ⊢;exact c7w (nt _ _ _ _ _) h hn hr t' f'
theorem c8q {g L hs o v} {ob:List Prop} (u):(c8j g L hs o v ob).k≠.tok u:=PA.noConfusion
theorem c9y {A B:a4y} (hA:NT A) (hB:NT B):NT (cIf A B):=fun hs args L o o2 u=>by
 have e:cIf A B hs args L o o2=A hs args L o o2∨cIf A B hs args L o o2=B hs args L o o2:=by
  unfold cIf
  cases hs.headD 0 with
  | zero=>exact .inl rfl
  | succ n=>exact .inr rfl
 rcases e with e | e <;> rw [e]
 ·exact hA hs args L o o2 u
 ·exact hB hs args L o o2 u
theorem c3d {T T'}:NT (c4v T T'):=c9y (fun _ _ _ _ _ _=>PA.noConfusion) fun _ _ _ _ _=>c8q
theorem e2b {v}:NT (cVN v):=c9y (fun _ _ _ _ _ _=>PA.noConfusion) fun _ _ _ _ _=>c8q
theorem e5n {P}:NT (f0k P):=c9y (fun _ _ _ _ _ _=>PA.noConfusion) fun _ _ _ _ _=>c8q
theorem d7m {g p q} (hp:GL p) (hq:GL q):GL (pOr g p q):=fun hs args L t f r v h hn hr t' f'=>by
 unfold pOr at h ⊢
 cases e:g args with
 | true=>rw [e] at h;exact hp hs args L t f r v h hn hr t' f'
 | false=>rw [e] at h;exact hq hs args L t f r v h hn hr t' f'
theorem f2i:GL c7q:=d7m (gl2 fun _ _ _ _ _ _=>PA.noConfusion) (d7m (gl1 fun _ _ _ _ _=>c8q) (gl1 fun _ _ _ _ _=>c8q))
noncomputable def MT:Tab:=((((d6c.addB "proto.collect" (fun _=>a8r) fun w=>a3s).add "sorted" (fun _=>a8r) fun w=>a3s).add "set.add" (fun _=>a8r) fun w=>a3s).add "set.__contains__" (fun _=>a8r) fun w=>a3s).add "tuple_iterator.__next__" (fun _=>a8r) fun w=>a3s
noncomputable def VT (vals:Nat→Value):Tab:=((((((MT.add "list.__getitem__" (fun _=>c3f vals e4f) fun w=>a6v vals c0w (gl1 fun _ _ _ _ _=>c8q)).add
 "list_iterator.__next__" (fun _=>c3f vals c6b) fun w=>a6v vals b9h (gl2 c3d)).add
 "dict_keyiterator.__next__" (fun _=>c3f vals (pVN false)) fun w=>a6v vals b6k (gl2 e2b)).add
 "dict_valueiterator.__next__" (fun _=>c3f vals (pVN true)) fun w=>a6v vals b7y (gl2 e2b)).add
 "dict.__getitem__" (fun P=>c3f vals (d2w P)) fun w=>a6v vals c0e (gl1 fun _ _ _ _ _=>c8q)).add
 "dict.get" (fun P=>c3f vals (e8a P)) fun w=>a6v vals c7y (gl1 e5n)).add
 "list.pop" (fun _=>c3f vals e3z) fun w=>a6v vals c0b (gl1 fun _ _ _ _ _=>c8q)
noncomputable def VU (vals:Nat→Value):Tab:=(VT vals).add "tuple_iterator.__next__" (fun _=>c3f vals b9l) fun w=>a6v vals b6q (gl2 c3d)
noncomputable def VC (vals:Nat→Value):Tab:=(VU vals).addB "proto.collect" (fun _=>d1r) fun w=>c0n
noncomputable def VS (vals:Nat→Value):Tab:=(VC vals).add "list.__getitem__" (fun _=>c3f vals c7q) fun w=>a6v vals c0v f2i
noncomputable def vl (l:List Value):Nat→Value:=fun n=>l.getD n .none
theorem a4q {α:Type} (f:α→Value) {l:List α} {k:Nat} {e:α} (h:l[k]?=some e):a3t [nth ⟨l.map f⟩ (k:Int)=f e,0≤(k:Int),(k:Int) < ((⟨l.map f⟩:Array Value).size:Int)]:=
 ⟨a7p h,Int.natCast_nonneg k,by have:=(List.getElem?_eq_some_iff.mp h).1;simp;omega,trivial⟩
theorem a3f {α:Type} (f:α→Value) (l:List α) {k:Nat} (h:l.length≤k):a3t [0≤(k:Int),((⟨l.map f⟩:Array Value).size:Int)≤(k:Int)]:=
 ⟨Int.natCast_nonneg k,by simp;omega,trivial⟩
theorem a5f (P:Params) {l:List Row} {s:Str} {v:Value} (hl:l.length≤1000000) (h:s∈a1m l) (hv:a5p l s=v):a3t [a5x ⟨a0k P l⟩ s=v,dWf P ⟨a0k P l⟩,a3m ⟨a0k P l⟩ s]:=
 ⟨by rw [a3b];exact hv,a1f _ hl,(a0l _ _ _).mpr h,trivial⟩
theorem b7d {α:Type} (f:α→Addr×Obj) (l:List α) (e:α):([f e]++gl [l.map f]).Perm ([]++gl [(l++[e]).map f]):=by
 show ([f e]++(l.map f++[])).Perm ((l++[e]).map f++[])
 rw [List.append_nil,List.append_nil,List.map_append]
 exact List.perm_append_comm
theorem c4f {α:Type} (f:α→Addr×Obj) (l:List α) (e:α):([]++gl [(l++[e]).map f]).Perm ([f e]++gl [l.map f]):=(b7d f l e).symm
theorem f0u {α:Type} (f:α→Addr×Obj) (e:α):([f e]++gl []).Perm ([]++gl [List.map f [e]]):=.refl _
theorem b3v {S X Y:Led} {r:Addr×Obj} (h:S.Perm (r::(X++Y))):([]++gl [S]).Perm ([r]++gl [X,Y]):=by
 show (S++[]).Perm (r::(X++(Y++[])))
 rw [List.append_nil,List.append_nil];exact h
theorem b1z {α:Type} (f:α→Value) (l:List α) (e:α):(⟨l.map f⟩:Array Value).push (f e)=⟨(l++[e]).map f⟩:=by simp
theorem c2z {α:Type} {a:Addr} {n:Nat} (f:α→Value) (l:List α) (e:α):([(a,a0a ((⟨l.map f⟩:Array Value).push (f e)) n)]++gl []).Perm ([(a,a0a ⟨(l++[e]).map f⟩ n)]++gl []):=a1o (b1z f l e)
theorem d3q {α:Type} (f:α→Value) (g:α→Addr×Obj) (a:Addr) (n:Nat) (l:List α) (e:α):([(a,a0a ((⟨l.map f⟩:Array Value).push (f e)) n),g e]++gl [l.map g]).Perm ([(a,a0a ⟨(l++[e]).map f⟩ n)]++gl [(l++[e]).map g]):=by
 rw [b1z]
 exact (b7d g l e).cons _
theorem e2y:([]++gl []).Perm ([]++gl [[]]):=.refl _
theorem d5r (A:Led):(A++gl []).Perm ([]++gl [A]):=.refl _
theorem e4m {α:Type} (g:α→Addr×Obj):([]++gl []).Perm ([]++gl [([]:List α).map g]):=.refl _
theorem lp1 {α:Type} {l:List α} {x:α} {n c:Nat} (h:l.length + (n + 1)≤c):(l++[x]).length + n≤c:=by simp;omega
theorem lp0 {α:Type} {l:List α} {n c:Nat} (h:l.length + (n + 1)≤c):l.length + n≤c:=by omega
theorem f2l (P:Params) {a:Addr} {n:Nat} (l:List Row) (k:Str) (t:Tok) (v:Value):([(a,a8d (c6g P ⟨a0k P l⟩ k t v) n)]++gl []).Perm ([(a,dob P (l++[(k,t,v)]) n)]++gl []):=a0u (by rw [a3y])
theorem d3y {α:Type} (P:Params) (f:α→Row) (a:Addr) (n:Nat) (l:List α) (e:α):([(a,a8d (c6g P ⟨a0k P (l.map f)⟩ (f e).1 (f e).2.1 (f e).2.2) n)]++gl []).Perm ([(a,dob P ((l++[e]).map f) n)]++gl []):=a0u (by rw [a3y,List.map_append];rfl)
theorem a1b {α:Type} {l:List α} {k:Nat} {e:α} (h:l[k]?=some e):l.drop k=e::l.drop (k + 1):=by
 obtain ⟨h',rfl⟩:=List.getElem?_eq_some_iff.mp h
 exact List.drop_eq_getElem_cons h'
theorem a1u {α:Type} {l:List α} {k n:Nat} (h:n + 1 + k=l.length):∃e,l[k]?=some e:=⟨_,List.getElem?_eq_getElem (by exact a9q h)⟩
theorem b3a {α:Type} (f:α→Addr×Obj) {l:List α} {k:Nat} {e:α} (h:l[k]?=some e):(l.map f).Perm (f e::(l.eraseIdx k).map f):=by
 induction l generalizing k with
 | nil=>cases h
 | cons a l ih=>
  cases k with
  | zero=>cases h;exact .refl _
  | succ k=>exact ((ih (k:=k) h).cons _).trans (.swap ..)
theorem c1r {α:Type} (f:α→Led) {l:List α} {k:Nat} {e:α} (h:l[k]?=some e):(l.flatMap f).Perm (f e++(l.eraseIdx k).flatMap f):=by
 induction l generalizing k with
 | nil=>cases h
 | cons a l ih=>
  cases k with
  | zero=>cases h;exact .refl _
  | succ k=>
   refine ((ih (k:=k) h).append_left (f a)).trans ?_
   show (f a++(f e++_)).Perm (f e++(f a++_))
   rw [←List.append_assoc,←List.append_assoc]
   exact List.perm_append_comm.append_right _
theorem b5f {α:Type} (f:α→Led) {l:List α} {e:α} (h:e∈l):∃X,(l.flatMap f).Perm (f e++X):=by
 obtain ⟨k,hk⟩:=List.mem_iff_getElem?.mp h
 exact ⟨_,c1r f hk⟩
theorem a2g {S A X Y:Led} (h:S.Perm (A++(X++Y))):([]++gl [S]).Perm (A++gl [X,Y]):=by
 show (S++[]).Perm (A++(X++(Y++[])))
 rw [List.append_nil,List.append_nil];exact h
theorem a3a {S A X:Led} (h:S.Perm (A++X)):([]++gl [S]).Perm (A++gl [X]):=by
 show (S++[]).Perm (A++(X++[]))
 rw [List.append_nil,List.append_nil];exact h
noncomputable def hzB (b:Bool) (x y:Nat):List Nat:=match b with
 | true=>a0r x
 | false=>a0r y
theorem b3s {α:Type} {l:List α} {k:Nat} {e:α} (h:l[k]?=some e):l.drop k=[e]++l.drop (k + 1):=a1b h
theorem b0a {w:World} {A:Around} {R:Result→Shared→Prop} {s:Shared} {test body orelse env}
  (h:wpAny (model prog w) A (PySem.isTrue test env (eval test env)) (fun b s₂=>
    if b then wpAny (model prog w) A (execs body env) (fun f s₃=>match f with
      | .next | .cont=>codeAny (model prog w) A (.whileLoop test body orelse env) R s₃
      | .brk=>R (.ok .next) s₃
      | .ret v=>R (.ok (.ret v)) s₃) (notedBy (model prog w) A env fun e s'=>R (.error e) s') s₂
    else wpAny (model prog w) A (execs orelse env) (fun f s₃=>R (.ok f) s₃) (notedBy (model prog w) A env fun e s'=>R (.error e) s') s₂)
    (notedBy (model prog w) A env fun e s'=>R (.error e) s') s):codeAny (model prog w) A (.whileLoop test body orelse env) R s:=by
 refine codeAny_of_tree ?_
 show wpAny _ A ((whileTurn test body orelse env).onRaise (fun x=>do noteFrame x env;theTreesLotGoes x)) _ _ s
 refine wpAny_noted ?_
 simp only [whileTurn]
 refine wpAny_bind (wpAny_mono h (fun b s₂ h₂=>?_) fun _ _ h'=>h')
 cases b with
 | false=>
  simp only [Bool.false_eq_true,if_false] at h₂ ⊢
  exact wpAny_bind (wpAny_mono h₂ (fun f s₃ h₃=>wpAny_pure h₃) fun _ _ h'=>h')
 | true=>
  simp only [if_true] at h₂ ⊢
  refine wpAny_bind (wpAny_mono h₂ (fun f s₃ h₃=>?_) fun _ _ h'=>h')
  cases f with
  | next=>exact wpAny_pure ⟨rfl,h₃⟩
  | cont=>exact wpAny_pure ⟨rfl,h₃⟩
  | brk=>exact wpAny_pure h₃
  | ret v=>exact wpAny_pure h₃
noncomputable def e8b (c:Code) (f:Flow):PySem.Fin:=match f with
 | .next=>.again c
 | .cont=>.again c
 | .brk=>.done .next
 | .ret v=>.done (.ret v)
noncomputable def trW (c:Code) (x:Sem Flow):Sem PySem.Fin:=R.bindR x (fun f=>.pure (e8b c f))
theorem c1v {w:World} {A:Around} {bot:Result→Shared→Prop} {s:Shared} {x y:Sem Flow} (e:x=y) {c:Code} (h:a2p w A bot a2k [] (trW c y) s):wpAny (model prog w) A x (fun f s'=>postC prog w A bot (e8b c f) s') (postE bot) s:=by
 subst e
 unfold a2p trW at h
 rw [←R.bindR_eq] at h
 have e:(aro A []).under a2k=A:=b5o A
 rw [e] at h
 have h':wpAny (model prog w) A (x >>=fun f=>pure (e8b c f)) (postC prog w A bot) (postE bot) s:=h
 intro Γ p hΓ
 have:=h' Γ p hΓ
 rw [Sem.wp_bind'] at this
 exact Sem.wp_mono _ Γ x (fun a p' s' q=>q) (fun e p' s' q=>q) p s this
section
variable {w:World} {C0:Ctr}
theorem Ctr.while_ne {l r:Expr} {pos:Pos} {body:List Stmt} {env:Env} (hc:C0.c= .whileLoop (.Compare l [.NotEq] [r] pos) body [] env) (hm:behindInMarks .NotEq r=false)
  {F H:Addr} {fo:Obj} {xs:Array Value} {n:Nat} {R0:Led} (hL:C0.L=(F,fo)::(H,a0a xs n)::R0) (hd:Nat.ble C0.d 600=true) (hu:Nat.ble C0.u 9799=true) (hr:∀y,∃f,C0.r y= .ok f)
  (hl:∀b1 b2,a0b (W w b1 b2) 600 9799 (eval l env) [(F,fo)] (fun v L=>v= .ref H∧L=[(F,fo)]))
  (he:∀b1 b2,a0b (W w b1 b2) 600 9799 (eval r env) [] (fun v L=>∃E,v= .ref E∧L=[(E,a0a #[] 0)]))
  (P0:xs.size=0→a2d w C0) (k0:∀h,ck0 w ⟨a2k,[],.pure (.done .next),C0.L,C0.G⟩ (P0 h))
  (P1:xs.size≠0→a2d w C0) (k1:∀h,ck1 w ⟨a2k,[],trW C0.c (a2q body env),C0.L,C0.G⟩ (P1 h)):C0.H w:=by
 intro b1 b2 A s hA S
 have hd:=Nat.le_of_ble_eq_true hd
 have hu:=Nat.le_of_ble_eq_true hu
 have T:a0b (W w b1 b2) 600 9799 (PySem.isTrue (.Compare l [.NotEq] [r] pos) env (eval (.Compare l [.NotEq] [r] pos) env)) [(F,fo),(H,a0a xs n)] (fun b L=>b=decide (xs.size≠0)∧L=[(F,fo),(H,a0a xs n)]):=by
  refine a0b.compare ((hl b1 b2).use (F:=[(H,a0a xs n)]) (.refl _) fun v L₁ _ hv=>⟨_,.refl _,?_⟩) hm
  obtain ⟨rfl,rfl⟩:=hv
  refine (he b1 b2).use (F:=[(F,fo),(H,a0a xs n)]) (.refl _) fun v L₁ _ hv=>⟨_,.refl _,?_⟩
  obtain ⟨E,rfl,rfl⟩:=hv
  refine (a9s (xs:=xs) (n:=n) (m:=0) (H:=H) (E:=E) (Nat.lt_succ_self _)).use (F:=[(F,fo)]) (by exact lpp [[_],[_],[_]] [2,3,4,0,0] [4,2,3,0,0] rfl) fun v L₁ _ hv=>?_
  obtain ⟨rfl,rfl⟩:=hv
  exact ⟨_,by exact ltt [[_],[_],[_]] [4,2,0] [2,3,4,0,0] rfl,_,rfl,rfl,rfl⟩
 have ea:C0.L++gl C0.G=[(F,fo),(H,a0a xs n)]++(R0++gl C0.G):=by rw [hL];rfl
 have T2:=T.frame (M:=C0.L++gl C0.G) (F:=R0++gl C0.G) (by rw [ea])
 show codeAny (model prog (W w b1 b2)) A C0.c _ s
 rw [hc]
 refine b0a (wpAny_mono (T2 A s _ (hA.1.le hd hu) S) (fun b s₂ h₂=>?_) fun _ _ h'=>h')
 obtain ⟨L',⟨L₁,⟨hb,rfl⟩,rfl⟩,S₂,E₂,G₂⟩:=h₂
 have N:Now (W w b1 b2) (C0.L++gl C0.G) s (C0.L++gl C0.G) s₂:=⟨by rw [ea];exact S₂,E₂,by rw [ea];rw [ea] at G₂;exact G₂⟩
 have noE:∀e s',Res (W w b1 b2) (C0.L++gl C0.G) s C0.R (.error e) s'→False:=fun e s' ⟨L',⟨y,_,hy,_⟩,_,_,_⟩=>by
  obtain ⟨f,hf⟩:=hr y
  rw [hf] at hy;cases hy
 by_cases hz:xs.size=0
 ·have:b=false:=by rw [hb];simp [hz]
  subst this
  have h3:=(P0 hz).sound hA hd ⟨a2k,[],.pure (.done .next),C0.L,C0.G⟩ s₂ (fun _ h=>nomatch h) (b5c (k0 hz) b1 b2) N
  have h4:wpAny (model prog (W w b1 b2)) ((aro A []).under a2k) (Pure.pure (PySem.Fin.done .next)) (postC prog (W w b1 b2) A (Res (W w b1 b2) (C0.L++gl C0.G) s C0.R)) (postE (Res (W w b1 b2) (C0.L++gl C0.G) s C0.R)) s₂:=h3
  rw [b5o (aro A [])] at h4
  simp only [Bool.false_eq_true,if_false,execs_nil]
  intro Γ p hΓ
  exact h4 Γ p hΓ
 ·have:b=true:=by rw [hb];simp [hz]
  subst this
  have h3:=(P1 hz).sound hA hd ⟨a2k,[],trW C0.c (a2q body env),C0.L,C0.G⟩ s₂ (fun _ h=>nomatch h) (b6e (k1 hz) b1 b2) N
  simp only [if_true]
  refine wpAny_mono (c1v (by rw [a2l]) h3) (fun f s₃ h₃=>?_) (fun e s₃ h₃=>(noE _ _ h₃).elim)
  rw [hc] at h₃
  cases f with
  | next=>exact h₃.2
  | cont=>exact h₃.2
  | brk=>exact h₃
  | ret v=>exact h₃
theorem Ctr.while_0 {l r:Expr} {pos:Pos} {body:List Stmt} {env:Env} (hc:C0.c= .whileLoop (.Compare l [.NotEq] [r] pos) body [] env) (hm:behindInMarks .NotEq r=false)
  {F H:Addr} {fo:Obj} {xs:Array Value} {n:Nat} {R0:Led} (hL:C0.L=(F,fo)::(H,a0a xs n)::R0) (hd:Nat.ble C0.d 600=true) (hu:Nat.ble C0.u 9799=true) (hr:∀y,∃f,C0.r y= .ok f)
  (hl:∀b1 b2,a0b (W w b1 b2) 600 9799 (eval l env) [(F,fo)] (fun v L=>v= .ref H∧L=[(F,fo)]))
  (he:∀b1 b2,a0b (W w b1 b2) 600 9799 (eval r env) [] (fun v L=>∃E,v= .ref E∧L=[(E,a0a #[] 0)]))
  (hz:xs.size=0) (P:a2d w C0) (k:ck0 w ⟨a2k,[],.pure (.done .next),C0.L,C0.G⟩ P):C0.H w:=
 Ctr.while_ne hc hm hL hd hu hr hl he (fun _=>P) (fun _=>k) (fun h=>(h hz).elim) (fun h=>(h hz).elim)
theorem Ctr.while_1 {l r:Expr} {pos:Pos} {body:List Stmt} {env:Env} (hc:C0.c= .whileLoop (.Compare l [.NotEq] [r] pos) body [] env) (hm:behindInMarks .NotEq r=false)
  {F H:Addr} {fo:Obj} {xs:Array Value} {n:Nat} {R0:Led} (hL:C0.L=(F,fo)::(H,a0a xs n)::R0) (hd:Nat.ble C0.d 600=true) (hu:Nat.ble C0.u 9799=true) (hr:∀y,∃f,C0.r y= .ok f)
  (hl:∀b1 b2,a0b (W w b1 b2) 600 9799 (eval l env) [(F,fo)] (fun v L=>v= .ref H∧L=[(F,fo)]))
  (he:∀b1 b2,a0b (W w b1 b2) 600 9799 (eval r env) [] (fun v L=>∃E,v= .ref E∧L=[(E,a0a #[] 0)]))
  (hz:xs.size≠0) (P:a2d w C0) (k:ck1 w ⟨a2k,[],trW C0.c (a2q body env),C0.L,C0.G⟩ P):C0.H w:=
 Ctr.while_ne hc hm hL hd hu hr hl he (fun h=>(hz h).elim) (fun h=>(hz h).elim) (fun _=>P) (fun _=>k)
end
noncomputable def f1w (w:World) (S Sd NI:Addr) (u:Nat→Tok) (rd:Value) (po fi:Int) (es v:Nat) (tp:Tok) (ns:List Nd) (m:Nat):Ctr where
 eo:=none
 d:=490
 u:=7900
 c:=d6u S (nm v) tp
 L:=toL w.params S Sd u NI rd po fi es (ns.map Nd.row) m
 G:=[ndL ns]
 Y:=Q3 (List Nd) Nd Nat
 ok:=fun y=>b2t ns v y.a∧y.b∈y.a∧y.b.v=v
 r:=fun y=>.ok (.ret (.ref y.b.a))
 L':=fun y=>toL w.params S Sd u NI rd po fi es (y.a.map Nd.row) y.c
 G':=fun y=>[ndL y.a]
noncomputable def AdG (P:Params) (S:Addr) (s:Str) (ts:Tok) (T a:Addr) (fo:Obj):Prop:=(∃t,fo=fob P (e5b (a0q t 2 ts) S s T a) 4)∨∃z:Q3 (Nat→Tok) Str Addr,fo=fob P (f1j (a0q z.a 2 ts) S s T a z.b z.c) 6
noncomputable def d9u (w:World) (F Q T a S Sd NI:Addr) (u:Nat→Tok) (rd:Value) (po fi:Int) (es v:Nat) (ts:Tok) (ps:List (Nat×Tok)) (ns0:List Nd) (k:Nat) (fo:Obj) (ti:Tok) (ns:List Nd) (m:Nat):Ctr where
 eo:=none
 d:=470
 u:=7700
 c:=adC Q F
 L:=[(F,fo),(Q,c6t (.ref T) k ti),(T,b2q (suV ps) 0)]++toL w.params S Sd u NI rd po fi es (ns.map Nd.row) m
 G:=[ndL ns]
 Y:=Q3 Obj (List Nd) Nat
 ok:=fun y=>AdG w.params S (nm v) ts T a y.a∧c5w ns0 v (ps.map (·.1)) y.b
 r:=fun _=>.ok .next
 L':=fun y=>[(F,y.a)]++toL w.params S Sd u NI rd po fi es (y.b.map Nd.row) y.c
 G':=fun y=>[ndL y.b]
noncomputable def e7y (w:World) (S Sd NI:Addr) (u:Nat→Tok) (po fi:Int) (es:Nat) (v:Nat) (tp:Tok) (ps:List (Nat×Tok)) (ns:List Nd) (m:Nat):Ctr where
 eo:=none
 d:=460
 u:=7600
 c:=e0k S (nm v) tp (ps.map fun p=>.str (nm p.1) p.2)
 L:=[(S,toO Sd),(Sd,dob w.params (toR u NI .none po fi) es),(NI,dob w.params (ns.map Nd.row) m)]
 G:=[ndL ns]
 Y:=Q2 (List Nd) Nat
 ok:=fun y=>d5x ns v (ps.map (·.1)) y.a
 r:=fun _=>.ok (.ret .none)
 L':=fun y=>[(S,toO Sd),(Sd,dob w.params (toR u NI .none po fi) es),(NI,dob w.params (y.a.map Nd.row) y.b)]
 G':=fun y=>[ndL y.a]
inductive Qf (β:Type 1):Type 1 | mk (Q:Prop) (f:Q→β)
theorem Qf.i {β:Type 1} {Q:Prop} {f g:Q→β} (h:Qf.mk Q f=Qf.mk Q g):f=g:=by cases h;rfl
noncomputable def d6e {α:Type} {β:Type 1} (Q:List α→Prop) (f:(l:List α)→Q l→β) (z:Nat→α):Nat→List (Qf β)
 | 0=>[.mk (Q []) (f [])]
 | n + 1=>.mk (Q ((List.range (n + 1)).map z)) (f ((List.range (n + 1)).map z))::d6e Q f z n
theorem f5u {α:Type} {β:Type 1} {Q:List α→Prop} {f g:(l:List α)→Q l→β} (d:α) (n:Nat) (h:(fun z=>d6e Q f z n)=fun z=>d6e Q g z n) (l:List α) (hl:l.length≤n):f l=g l:=by
 have key:∀(z:Nat→α) (n:Nat),d6e Q f z n=d6e Q g z n→∀k,k≤n→f ((List.range k).map z)=g ((List.range k).map z):=by
  intro z n
  induction n with
  | zero=>intro h k hk;obtain rfl:k=0:=Nat.le_zero.mp hk;exact Qf.i (List.cons.inj h).1
  | succ n ih=>
   intro h k hk
   obtain ⟨h1,h2⟩:=List.cons.inj h
   rcases Nat.lt_or_ge k (n + 1) with hlt | hge
   ·exact ih h2 k (Nat.le_of_lt_succ hlt)
   ·obtain rfl:k=n + 1:=Nat.le_antisymm hk hge;exact Qf.i h1
 have e:(List.range l.length).map (fun i=>l.getD i d)=l:=by
  apply List.ext_getElem
  ·simp
  ·intro i h1 h2;simp [List.getD_eq_getElem?_getD,List.getElem?_eq_getElem h2]
 have:=key (fun i=>l.getD i d) n (congrFun h _) l.length hl
 rwa [e] at this
noncomputable abbrev qk1 {α:Type} (w:World) {C:List α→Ctr} (Q:List α→Prop) (P:(l:List α)→Q l→a2d w (C l)) (s:Bool) (n:Nat):(Nat→α)→List (Qf (E2 (Bool→ET))):=fun z=>d6e Q (fun l q=>E2.mk (Lh1 w (C l).sa (P l q) s false) (Lh1 w (C l).sa (P l q) s true)) z n
theorem Ctr.cl1 {α:Type} {w:World} (d:α) (n:Nat) {C:List α→Ctr} {Q:List α→Prop} (P:(l:List α)→Q l→a2d w (C l)) (hd:∀l,Nat.ble (C l).d 600=true) (h:qk1 w Q P true n=qk1 w Q P false n) (l:List α) (hl:l.length≤n) (q:Q l):(C l).H w:=
 Ctr.c1 (P l q) (hd l) (congrFun (f5u (f:=fun l q=>E2.mk (Lh1 w (C l).sa (P l q) true false) (Lh1 w (C l).sa (P l q) true true)) (g:=fun l q=>E2.mk (Lh1 w (C l).sa (P l q) false false) (Lh1 w (C l).sa (P l q) false true)) d n h l hl) q)
theorem b1b {ns:List Nd} {i:Nat} {n:Nd} (hi:ns[i]?=some n) (n':Nd):([n'.ob,n'.li]++gl [ndL (ns.eraseIdx i)]).Perm ([]++gl [ndL (ns.set i n')]):=(a3a (A:=n'.led) (b1q hi n')).symm
theorem a4g {ns:List Nd} {i:Nat} {n:Nd} (hi:ns[i]?=some n):([]++gl [ndL ns]).Perm ([n.ob,n.li]++gl [ndL (ns.eraseIdx i)]):=a3a (A:=n.led) (c4d hi)
noncomputable def Nd.psh (n:Nd) (v:Nat) (ts:Tok):Nd:={ n with su:=n.su++[(v,ts)],ls:=n.ls + 1 }
noncomputable def Nd.npp (n:Nd) (x:Int) (t:Tok):Nd:={ n with np:=n.np + x,tn:=t }
theorem e2n (ns:List Nd) (n:Nd):([n.ob,n.li]++gl [ndL ns]).Perm ([]++gl [ndL (ns++[n])]):=by
 rw [d1y]
 exact lpp [[_],[_],_] [2,3,4,1,0,0,0] [4,2,3,0,0,1,0] rfl
theorem b9k {ns:List Nd} {i:Nat} {n:Nd} (hi:ns[i]?=some n) (v:Nat) (ts:Tok):([n.ob,(n.la,a0a ((suV n.su).push (.str (nm v) ts)) (n.ls + 1))]++gl [ndL (ns.eraseIdx i)]).Perm ([]++gl [ndL (ns.set i (n.psh v ts))]):=by
 rw [c5u];exact b1b hi (n.psh v ts)
section
variable {w:World} {S Sd NI F Q T a:Addr} {u:Nat→Tok} {rd:Value} {po fi:Int} {es m:Nat}
theorem c2h {v:Nat} (hv:v < 5) {tp:Tok} {ns:List Nd} (h:a4l ns):(f1w w S Sd NI u rd po fi es v tp ns m).H w:=by
 have hw:dWf w.params ⟨a0k w.params (ns.map Nd.row)⟩:=a1f _ (by rw [List.length_map];have:=h.len;exact Nat.le_trans this (by decide))
 by_cases hm:v∈ns.map (·.v)
 ·obtain ⟨n,hn,rfl⟩:=List.mem_map.mp hm
  exact Ctr.c0 (rn (VT (vl [.ref n.a])) (a0r 1629422423698033938274965028313023346642501402329104384) (al1 (p:=a3t [a5x ⟨a0k w.params (ns.map Nd.row)⟩ (nm n.v)= .ref n.a,dWf w.params ⟨a0k w.params (ns.map Nd.row)⟩,a3m ⟨a0k w.params (ns.map Nd.row)⟩ (nm n.v)]) ⟨by rw [a3b];exact b5u h hn,hw,(a0l _ _ _).mpr ((b5x h hv).mpr hm),trivial⟩)
   fun _ _=>.ret [0,1,2] [0] ⟨ns,n,m⟩ ⟨.inl ⟨hm,rfl⟩,hn,rfl⟩) rfl (by kernel_rfl)
 ·have hh:¬a3m ⟨a0k w.params (ns.map Nd.row)⟩ (nm v):=fun z=>hm ((b5x h hv).mp ((a0l _ _ _).mp z))
  exact Ctr.c0 (rn (VT (vl [])) (a0r 820937114106266237979506976025753502217606687508569078267074643319365876417157786567147102641571966440633069003953102999974583864451715003607200067759500257353150737039022201157133860965489970134426912653085931284578321883410253414221632572869305709227012584834852361400661385752694885083424462797205201058620716630016)
   (al hw (al hh (al1 (al hw (al1 hh))))) fun fr tk=>rw' [2] [] (d3y w.params Nd.row NI (m + 1) ns ⟨v,tp,tp,fr 2,fr 1,fr 4,0,Nat.succ (tk 8),[],0⟩) <| rw' [5,7] [0] (e2n ns ⟨v,tp,tp,fr 2,fr 1,fr 4,0,Nat.succ (tk 8),[],0⟩) <|
   .ret [1,2,0] [0] ⟨ns++[⟨v,tp,tp,fr 2,fr 1,fr 4,0,Nat.succ (tk 8),[],0⟩],⟨v,tp,tp,fr 2,fr 1,fr 4,0,Nat.succ (tk 8),[],0⟩,m + 1⟩ ⟨.inr ⟨hm,_,rfl,rfl,rfl,rfl⟩,List.mem_append_right _ (.head _),rfl⟩) rfl (by kernel_rfl)
theorem c6j {v:Nat} (hv:v < 5) {ts:Tok} {ps:List (Nat×Tok)} (hps:∀p∈ps,p.1 < 5) (hpl:ps.length≤100) {ns0:List Nd} (hb:∀x,(a2t ns0 x).length≤1000):
  ∀n k,n + k=ps.length→∀{fo ti ns m},AdG w.params S (nm v) ts T a fo→c5w ns0 v ((ps.take k).map (·.1)) ns→(d9u w F Q T a S Sd NI u rd po fi es v ts ps ns0 k fo ti ns m).H w:=by
 intro n
 induction n with
 | zero=>
  intro k hk fo ti ns m hfo hR
  exact Ctr.p0 (rn (VU (vl [])) (a0r 4947802853442) (al1 (a3f (fun p:Nat×Tok=>.str (nm p.1) p.2) ps (sk0 hk))) fun _ _=>.ret [0,3,4,5] [0] ⟨fo,ns,m⟩ ⟨hfo,by rw [List.take_of_length_le (sk0 hk)] at hR;exact hR⟩) rfl (by kernel_rfl)
 | succ n ih=>
  intro k hk fo ti ns m hfo hR
  obtain ⟨p,hp⟩:=a1u hk
  have hp5:=hps p (List.mem_of_getElem? hp)
  have htake:ps.take (k + 1)=ps.take k++[p]:=by
   obtain ⟨hk',rfl⟩:=List.getElem?_eq_some_iff.mp hp
   exact List.take_succ_eq_append_getElem hk'
  have hsl:∀{ns':List Nd} {nd:Nd} {i:Nat},b2t ns p.1 ns'→ns'[i]?=some nd→(suV nd.su).size≤1000000:=fun {ns' nd i} ht hi=>by
   have h1:=a4w (ht.ok hR.ok hp5) hi
   have h2:=(a1g hR.ok hp5 ht nd.v).2.1
   have h3:=hR.su nd.v
   have h4:=congrArg List.length h1
   rw [h2,h3,List.length_append,List.length_replicate,List.length_map] at h4
   have h5:=hb nd.v
   have h6:=List.count_le_length (a:=nd.v) (l:=(ps.take k).map (·.1))
   rw [List.length_map,List.length_take] at h6
   rw [a3d]
   omega
  exact Ctr.p0 (a9t (a:=F) 0 hfo (fun t=>(fun tk tk2=>a0q (a0q (a0q t 5 (Nat.succ (tk 1))) 6 p.2) 7 (Nat.succ (tk2 0)):(Nat→Tok)→(Nat→Tok)→Nat→Tok)) (fun z _ _=>a0q z.a 6 p.2) fun d=>
   rn (VU (vl [.str (nm p.1) p.2])) (a0r 91367917102170101438277244474567641090587365506) (al1 (a4q (fun p:Nat×Tok=>.str (nm p.1) p.2) hp)) fun fr tk=>
   us [3,4,5] [0] (c2h (S:=S) (Sd:=Sd) (NI:=NI) (u:=u) (rd:=rd) (po:=po) (fi:=fi) (es:=es) (tp:=p.2) (m:=m) hp5 hR.ok) fun y hy=>
   .ex Nat (fun i=>y.a[i]?=some y.b) (List.mem_iff_getElem?.mp hy.2.1) fun i hi=>
   rw' [] [0] (a4g hi) <| rn (VU (vl [])) (a0r 26150605102685846551860950778417182294230327207572630155845958) (al1 (hsl hy.1 hi)) fun fr2 tk2=>
   rw' [0,1] [0] (b9k hi v ts) <| rw' [2] [] (a0u (a:=NI) (congrArg (fun l=>dob w.params l y.c) (a7i hi (n':=y.b.psh v ts) rfl).symm)) <|
   agn [3,4,5,1,2,0] [0] (ih (k + 1) (sk1 hk) (fo:=fob w.params (f1j (a0q (d tk tk2) 2 ts) S (nm v) T a (nm p.1) y.b.a) 6) (ti:=0) (ns:=y.a.set i (y.b.psh v ts)) (m:=y.c) (.inr ⟨⟨d tk tk2,nm p.1,y.b.a⟩,rfl⟩) (by rw [htake,List.map_append];exact hR.step (n':=y.b.psh v ts) hp5 hy.1 hi hy.2.2 rfl rfl (by simp [Nd.psh]) rfl)) [0,1,2,3] [0] (fun y=>y) fun y h=>h) rfl (by kernel_rfl)
noncomputable abbrev adT (tp:Tok) (tk:Nat→Tok):Nat→Tok:=a0q (fun i=>match i with
 | 0=>Nat.succ (tk 0)
 | 1=>Nat.succ (tk 1)
 | _=>Nat.succ (tk 2)) 2 tp
theorem d5x.mk' {v:Nat} (hv:v < 5) {ns ns1 ns2:List Nd} {ps:List Nat} {i:Nat} {nd:Nd} {x:Int} {t:Tok} (h:a4l ns) (ht:b2t ns v ns1) (hi:ns1[i]?=some nd) (hnv:nd.v=v) (hx:x=(ps.length:Int)) (hR:c5w (ns1.set i (nd.npp x t)) v ps ns2):d5x ns v ps ns2:=by
 have ok2:=ht.ok h hv
 subst hx
 refine ⟨hR.ok,fun x=>?_,fun x=>?_,fun x=>?_⟩
 ·rw [hR.mem x,b3k hi (n':=nd.npp ps.length t) rfl,(a1g h hv ht x).2.2,or_assoc]
 ·rw [hR.np x,a6w ok2 hi (n':=nd.npp ps.length t) rfl]
  by_cases hx:x=nd.v
  ·rw [if_pos hx,if_pos (hx.trans hnv)]
   show nd.np + (ps.length:Int)=_
   rw [←b0z ok2 hi,←hx,(a1g h hv ht x).1]
  ·rw [if_neg hx,if_neg fun z=>hx (z.trans hnv.symm),(a1g h hv ht x).1,Int.add_zero]
 ·rw [hR.su x,a5n ok2 hi (n':=nd.npp ps.length t) rfl]
  congr 1
  by_cases hx:x=nd.v
  ·rw [if_pos hx]
   show nd.su.map (·.1)=_
   rw [←a4w ok2 hi,←hx,(a1g h hv ht x).2.1]
  ·rw [if_neg hx,(a1g h hv ht x).2.1]
theorem e0f {v:Nat} (hv:v < 5) {ns ns1:List Nd} {i:Nat} {nd:Nd} {x:Int} {t:Tok} (h:a4l ns) (ht:b2t ns v ns1) (hi:ns1[i]?=some nd) (hb:∀x,(a2t ns x).length≤1000) (y:Nat):(a2t (ns1.set i (nd.npp x t)) y).length≤1000:=by
 have ok2:=ht.ok h hv
 rw [a5n ok2 hi (n':=nd.npp x t) rfl]
 by_cases hx:y=nd.v
 ·rw [if_pos hx]
  show (nd.su.map (·.1)).length≤1000
  rw [←a4w ok2 hi,(a1g h hv ht nd.v).2.1]
  exact hb _
 ·rw [if_neg hx,(a1g h hv ht y).2.1]
  exact hb y
noncomputable def e9g {v:Nat} (hv:v < 5) {tp:Tok} {ns:List Nd} (h:a4l ns) (hb:∀x,(a2t ns x).length≤1000) (ps:List (Nat×Tok)) (hp:ps.length≤10∧∀p∈ps,p.1 < 5):a2d w (e7y w S Sd NI u po fi es v tp ps ns m):=
   rn (VU (vl [])) (a0r 27640897590584089417557427418738490315756006887435677192806531303755776) al0 fun fr tk=>
   us [0,1,2] [0] (c2h (S:=S) (Sd:=Sd) (NI:=NI) (u:=u) (rd:=.none) (po:=po) (fi:=fi) (es:=es) (tp:=tp) (m:=m) hv h) fun y hy=>
   .ex Nat (fun i=>y.a[i]?=some y.b) (List.mem_iff_getElem?.mp hy.2.1) fun i hi=>
   rw' [] [0] (a4g hi) <| rw' [0] [] (a0u (a:=y.b.a) (congrArg (fun j=>e3w y.b.d (nm j) y.b.tv y.b.np y.b.tn y.b.la) hy.2.2)) <|
   rn (VU (vl [])) (a0r 44385890941937305609115806335452084567402640241043893605244058363156954309577527543536973444944113277156443648455047) (al1 (p:=(suV ps).size≤1000000) (by rw [a3d];exact Nat.le_trans hp.1 (by decide))) fun fr2 tk2=>
   rw' [0] [] (a0u (a:=y.b.a) (congrArg (fun j=>e3w y.b.d (nm j) y.b.tv (y.b.np + (ps.length:Int)) (Nat.succ (tk2 3)) y.b.la) hy.2.2.symm)) <| rw' [0,1] [0] (b1b hi (y.b.npp (ps.length:Int) (Nat.succ (tk2 3)))) <|
   rw' [2] [] (a0u (a:=NI) (congrArg (fun l=>dob w.params l y.c) (a7i hi (n':=y.b.npp (ps.length:Int) (Nat.succ (tk2 3))) rfl).symm)) <|
   us [4,5,3,1,2,0] [0] (c6j (F:=fr 1) (Q:=fr2 0) (T:=fr 0) (a:=y.b.a) (S:=S) (Sd:=Sd) (NI:=NI) (u:=u) (rd:=.none) (po:=po) (fi:=fi) (es:=es) hv (ts:=tp) (ps:=ps) hp.2 (by exact Nat.le_trans hp.1 (by decide)) (e0f (nd:=y.b) (x:=(ps.length:Int)) (t:=Nat.succ (tk2 3)) hv h hy.1 hi hb) ps.length 0 rfl (fo:=fob w.params (e5b (a0q (a0q (adT tp tk) 4 (Nat.succ (tk2 0))) 2 tp) S (nm v) (fr 0) y.b.a) 4) (ti:=0) (ns:=y.a.set i (y.b.npp (ps.length:Int) (Nat.succ (tk2 3)))) (m:=y.c) (.inl ⟨_,rfl⟩) (c5w.nil (a3w (hy.1.ok h hv) hi rfl))) fun yo ho=>
   rn (VU (vl [])) [] al0 fun _ _=>.ret [1,2,3] [0] ⟨yo.b,yo.c⟩ (d5x.mk' hv h hy.1 hi hy.2.2 (by rw [List.length_map]) ho.2)
theorem d9k {v:Nat} (hv:v < 5) {tp:Tok} {ns:List Nd} (h:a4l ns) (hb:∀x,(a2t ns x).length≤1000):∀ps:List (Nat×Tok),ps.length≤10→(ps.length≤10∧∀p∈ps,p.1 < 5)→(e7y w S Sd NI u po fi es v tp ps ns m).H w:=
 Ctr.cl1 (0,0) 10 (C:=fun ps=>e7y w S Sd NI u po fi es v tp ps ns m) (Q:=fun ps=>ps.length≤10∧∀p∈ps,p.1 < 5) (e9g hv h hb) (fun _=>rfl) (by kernel_rfl)
end
structure PlT where
 a:Addr
 d:Addr
 j:Nat
 t:Tok
 x:Int
 tx:Tok
 t1:Tok
 t2:Tok
noncomputable def PlT.tg (g:PlT):Tg:=⟨g.a,g.d,.str (nm g.j) g.t,g.x,g.tx,g.t1,g.t2⟩
structure RdT where
 a:Addr
 d:Addr
 i:Nat
 j:Nat
 t:Tok
 x:Int
 tx:Tok
 t1:Tok
 t2:Tok
noncomputable def RdT.tg (g:RdT):Tg:=⟨g.a,g.d,.str (a4u g.i g.j) g.t,g.x,g.tx,g.t1,g.t2⟩
noncomputable def RdT.key (g:RdT):Rk:=(g.i,g.j,g.x)
noncomputable def e8p (P:Params) (T I p o:Addr) (t:Nat→Tok):Obj:=fob P (e8z t T I p o) 4
noncomputable def d5w (P:Params) (T I p o:Addr) (z:Q3 (Nat→Tok) Addr Str):Obj:=fob P (f1v z.a T I p o z.b z.c) 6
noncomputable def InG (P:Params) (T I p o:Addr) (fo:Obj):Prop:=(∃t,fo=e8p P T I p o t)∨∃z,fo=d5w P T I p o z
noncomputable def d4n (w:World) (F Q R T I o:Addr) (pl:PlT) (rs:List RdT) (nn k:Nat) (fo:Obj) (ti:Tok) (os:List Of) (m:Nat):Ctr where
 eo:=none
 d:=440
 u:=7400
 c:=f4j Q F
 L:=[(F,fo),(Q,a0z (.ref R) k ti),(R,a0a (tgr (rs.map RdT.tg++[pl.tg])) nn),(o,a0a (ofr os) m)]++pl.tg.led w.params
 G:=[TL w.params (rs.map RdT.tg),os.map Of.ob]
 Y:=Q3 Obj (List Of) Nat
 ok:=fun y=>InG w.params T I pl.a o y.a∧y.b.map Of.key=os.map Of.key++(a9o (rs.map RdT.key) pl.x).drop k
 r:=fun _=>.ok .next
 L':=fun y=>[(F,y.a),(o,a0a (ofr y.b) y.c)]++pl.tg.led w.params
 G':=fun y=>[TL w.params (rs.map RdT.tg),y.b.map Of.ob]
section
variable {w:World} {F Q R T I o:Addr} {pl:PlT} {rs:List RdT} {nn:Nat}
noncomputable def f0y (pl:PlT) (fr:Nat→Addr) (tk:Nat→Tok):Of:=⟨fr 0,⟨⟨[]⟩⟩,Nat.succ (tk 5),pl.x,pl.tx⟩
noncomputable def f1b (g:RdT) (fr:Nat→Addr) (tk:Nat→Tok):Of:=⟨fr 1,d1a (a4u g.i g.j),Nat.succ (tk 10),g.x,g.tx⟩
structure f1p (P:Params) (T I:Addr) (p o:Addr) where
 a:Sh (InG P T I p o)
 b:RdT→Sh (InG P T I p o)
noncomputable abbrev d7b {C:Ctr} {fo:Obj} (p:Nat) (hfo:InG w.params T I pl.a o fo) (K:f1p w.params T I pl.a o→a2d w C):a2d w C:=a9t (a:=F) p hfo
 (fun t=>(⟨⟨fun tk=>d5w w.params T I pl.a o ⟨a0q (a0q (a0q t 4 (Nat.succ (tk 1))) 5 (Nat.succ (tk 6))) 6 (Nat.succ (tk 5)),pl.a,⟨⟨[]⟩⟩⟩,fun _=>.inr ⟨_,rfl⟩⟩,fun g=>⟨fun tk=>d5w w.params T I pl.a o ⟨a0q (a0q (a0q t 4 (Nat.succ (tk 1))) 5 (Nat.succ (tk 11))) 6 (Nat.succ (tk 10)),g.a,d1a (a4u g.i g.j)⟩,fun _=>.inr ⟨_,rfl⟩⟩⟩:f1p w.params T I pl.a o))
 (fun z=>⟨⟨fun tk=>d5w w.params T I pl.a o ⟨a0q z.a 6 (Nat.succ (tk 5)),pl.a,⟨⟨[]⟩⟩⟩,fun _=>.inr ⟨_,rfl⟩⟩,fun g=>⟨fun tk=>d5w w.params T I pl.a o ⟨a0q z.a 6 (Nat.succ (tk 10)),g.a,d1a (a4u g.i g.j)⟩,fun _=>.inr ⟨_,rfl⟩⟩⟩) K
theorem b9m (hj:pl.j < 5) (hrs:∀g∈rs,g.i < 5∧g.j < 5) (hl:rs.length≤100):
  ∀n k,n + k=rs.length + 1→∀{fo ti os m},InG w.params T I pl.a o fo→os.length + n≤1000→(d4n w F Q R T I o pl rs nn k fo ti os m).H w:=by
 have hsz:(tgr (rs.map RdT.tg++[pl.tg])).size=rs.length + 1:=by rw [a6l];simp
 intro n
 induction n with
 | zero=>
  intro k hk fo ti os m hfo hos
  exact Ctr.p0 (rn (VT (vl [])) (a0r 4947802853442) (al1 (a3f (fun g:Tg=>.ref g.a) (rs.map RdT.tg++[pl.tg]) (k:=k) (by simp;omega))) fun _ _=>.ret [0,3,4,5] [0,1] ⟨fo,os,m⟩ ⟨hfo,by rw [List.drop_of_length_le (by simp [a9o];omega),List.append_nil]⟩) rfl (by kernel_rfl)
 | succ n ih=>
  intro k hk fo ti os m hfo hos
  have hoz:(ofr os).size≤1000000:=by rw [b7u];omega
  rcases Nat.lt_or_ge k rs.length with hlt | hge
  ·obtain ⟨g,hg⟩:∃g,rs[k]?=some g:=⟨_,List.getElem?_eq_getElem hlt⟩
   obtain ⟨hgi,hgj⟩:=hrs g (List.mem_of_getElem? hg)
   have ho:=d2n ⟨g.i,hgi⟩ ⟨g.j,hgj⟩
   have hX:=c1r (Tg.led w.params) (l:=rs.map RdT.tg) (k:=k) (by rw [List.getElem?_map,hg];rfl)
   have hk2:(rs.map RdT.tg++[pl.tg])[k]?=some g.tg:=by rw [List.getElem?_append_left (by rw [List.length_map];exact hlt),List.getElem?_map,hg];rfl
   have hd:(a9o (rs.map RdT.key) pl.x).drop k=[(nm g.i,g.x)]++(a9o (rs.map RdT.key) pl.x).drop (k + 1):=b3s (by unfold a9o;rw [List.getElem?_append_left (by simp;exact hlt),List.getElem?_map,List.getElem?_map,hg];rfl)
   exact Ctr.p1 (rw' [] [0] (a3a hX) <| d7b (F:=F) 2 hfo fun d=>rn (VT (vl [.ref g.a])) (a0r 231441835513636777223520678025192119532974648069225881292109648467270945169306059138154227574165527642811222263441526303673426405783423474176073894779170948)
    (al hoz (al ho.2.1 (al ho.2.2 (al (d0p ⟨g.i,hgi⟩ ⟨g.j,hgj⟩ ⟨pl.j,hj⟩) (al1 (a4q (fun g:Tg=>.ref g.a) hk2)))))) fun fr tk=>rw' [5,9] [1] (d3q (fun e:Of=>.ref e.a) Of.ob o (m + 1) os (f1b g fr tk)) <| rw' [2,3] [1] (a3a hX).symm <|
    agn [1,2,3,0,4,5] [0,1] (ih (k + 1) (sk1 hk) (ti:=0) (os:=os++[f1b g fr tk]) (m:=m + 1) ((d.b g).ok tk) (lp1 hos)) [0,1,2,3] [0,1] (fun y=>y) fun y h=>⟨h.1,by
     rw [h.2,hd,List.map_append,List.append_assoc]
     show _++((d1a (a4u g.i g.j),g.x)::_)=_
     rw [show d1a (a4u g.i g.j)=nm g.i from ho.1];rfl⟩) rfl (by kernel_rfl)
  ·have hke:k=rs.length:=by omega
   have hk2:(rs.map RdT.tg++[pl.tg])[k]?=some pl.tg:=by rw [List.getElem?_append_right (by rw [List.length_map];exact hge),List.length_map,hke,Nat.sub_self];rfl
   have hd:(a9o (rs.map RdT.key) pl.x).drop k=[(⟨⟨[]⟩⟩,pl.x)]++(a9o (rs.map RdT.key) pl.x).drop (k + 1):=b3s (by unfold a9o;rw [List.getElem?_append_right (by simp;exact hge)];simp [hke])
   exact Ctr.p1 (d7b (F:=F) 0 hfo fun d=>rn (VT (vl [.ref pl.a])) (a0r 9392057323920547386339733337470256018591319906804337973956812365983612325577729509952096544114199761026)
    (al hoz (al (p:=nm pl.j=nm pl.j) rfl (al1 (a4q (fun g:Tg=>.ref g.a) hk2)))) fun fr tk=>rw' [3,6] [1] (d3q (fun e:Of=>.ref e.a) Of.ob o (m + 1) os (f0y pl fr tk)) <|
    agn [1,2,3,0,4,5] [1,0] (ih (k + 1) (sk1 hk) (ti:=0) (os:=os++[f0y pl fr tk]) (m:=m + 1) (d.a.ok tk) (lp1 hos)) [0,1,2,3] [0,1] (fun y=>y) fun y h=>⟨h.1,by rw [h.2,hd,List.map_append,List.append_assoc];rfl⟩) rfl (by kernel_rfl)
end
noncomputable def e8w (w:World) (p:Str) (tp:Tok) (T:Addr) (gs:List Tg) (ep:Nat) (B:Led) (pk:Value→Bool) (Tb:Led→Prop):Ctr where
 eo:=none
 d:=460
 u:=7600
 c:=c8e p tp T
 L:=[(T,a0a (tgr gs) ep)]
 G:=[TL w.params gs,B]
 Y:=Q3 Addr Nat Led
 ok:=fun y=>Tb y.c
 r:=fun y=>.ok (.ret (.ref y.a))
 L':=fun y=>[(y.a,a0a (tgr (gs.filter fun g=>pk g.tag)) y.b),(T,a0a (tgr gs) ep)]
 G':=fun y=>[TL w.params gs,y.c]
theorem f0v (w:World) (b1 b2:Bool) (gs:List Tg):TL (W w b1 b2).params gs=TL w.params gs:=by kernel_rfl
theorem b5h {w:World} {S:Stmt} {pk:Value→Bool} {okv:Value→Prop} {p:Str} {tp:Tok} {T:Addr} {gs:List Tg} {ep:Nat} {B:Led} {Tb:Led→Prop} (hl:gs.length≤900) (hok:∀g∈gs,okv g.tag) (hSel:b8x S)
  (hprep:∀b1 b2,a0y (W w b1 b2) 461 7610 (a0g p tp) B (a2w (W w b1 b2) S pk okv Tb)):(e8w w p tp T gs ep B pk Tb).H w:=by
 refine Ctr.ofDoes (R:=fun r L=>Ey3 fun R n X=>An3 (r= .ok (.ret (.ref R))) (Tb X) (L=(R,a0a (tgr (gs.filter fun g=>pk g.tag)) n)::(T,a0a (tgr gs) ep)::(TL w.params gs++X))) (fun b1 b2=>(b4x (ep:=ep) (show 460≤560 by decide) hl hok hSel (hprep b1 b2)).mono (.of_perm ?_) fun r L' _ h=>⟨L',.refl _,?_⟩) fun r L h=>?_
 ·unfold thL;rw [f0v];exact lpp [[_],_,_] [2,3,4,1,0,0,0] [2,3,0,4,0] rfl
 ·obtain ⟨R,n,X,h1,h2,h3⟩:=h
  unfold thL at h3;rw [f0v] at h3
  exact ⟨R,n,X,h1,h2,h3⟩
 ·obtain ⟨R,n,X,rfl,h2,rfl⟩:=h
  exact ⟨⟨R,n,X⟩,h2,rfl,by exact ltt [[_],[_],_,_] [2,3,0,4,5,1,0,0,0] [2,3,4,5,0,0,0] rfl⟩
structure ThN where
 g0:Tg
 rs:List RdT
 p:Nat→PlT
noncomputable def ThN.pls (h:ThN):List PlT:=[h.p 4,h.p 3,h.p 2,h.p 1,h.p 0]
noncomputable def ThN.all (h:ThN):List Tg:=h.g0::(h.rs.map RdT.tg++h.pls.map PlT.tg)
noncomputable def inB (P:Params) (T I:Addr) (z:Q3 (Nat→Tok) Addr Addr):Obj:=fob P (e8z z.a T I z.b z.c) 4
noncomputable def inC (P:Params) (T I:Addr) (z:Q5 (Nat→Tok) Addr Addr Addr Str):Obj:=fob P (f1v z.a T I z.b z.c z.d z.e) 6
noncomputable def InH (P:Params) (T I:Addr) (fo:Obj):Prop:=(∃t,fo=fob P (f0c t T I) 2)∨(∃z,fo=inB P T I z)∨∃z,fo=inC P T I z
noncomputable def d1n (w:World) (F Q R T I:Addr) (h:ThN) (rk:List Rk) (own:Nat→Int) (n ep:Nat) (TbF:Led→Prop) (k:Nat) (fo:Obj) (ti:Tok) (vs:List Iv) (mi:Nat) (B:Led):Ctr where
 eo:=none
 d:=430
 u:=7300
 c:=f5p Q F
 L:=[(F,fo),(Q,a0z (.ref R) k ti),(R,a0a (tgr (h.pls.map PlT.tg)) n),(I,dob w.params (vs.map Iv.row) mi),(T,a0a (tgr h.all) ep)]
 G:=[TL w.params h.all,ivL vs,B]
 Y:=Q4 Obj (List Iv) Nat Led
 ok:=fun y=>InH w.params T I y.a∧y.b.map (fun v=>(v.j,v.os.map Of.key))=vs.map (fun v=>(v.j,v.os.map Of.key))++([4,3,2,1,0].map fun j=>(j,a9o (rkI rk j) (own j))).drop k∧TbF y.d
 r:=fun _=>.ok .next
 L':=fun y=>[(F,y.a),(I,dob w.params (y.b.map Iv.row) y.c),(T,a0a (tgr h.all) ep)]
 G':=fun y=>[TL w.params h.all,ivL y.b,y.d]
noncomputable def e5j (w:World) (T:Addr) (h:ThN) (rk:List Rk) (own:Nat→Int) (ep:Nat) (TbF:Led→Prop):Ctr where
 eo:=none
 d:=420
 u:=7200
 c:=d6w T
 L:=[(T,a0a (tgr h.all) ep),(23,a1v [])]
 G:=[TL w.params h.all]
 Y:=Q4 Addr (List Iv) Nat Led
 ok:=fun y=>d5k rk own y.b∧TbF y.d
 r:=fun y=>.ok (.ret (.ref y.a))
 L':=fun y=>[(y.a,dob w.params (y.b.map Iv.row) y.c),(T,a0a (tgr h.all) ep)]
 G':=fun y=>[TL w.params h.all,ivL y.b,y.d]
structure a4n (h:ThN) (rk:List Rk) (own:Nat→Int):Prop where
 h0:h.g0.tag= .none
 hk:h.rs.map RdT.key=rk
 hb:∀g∈h.rs,g.i < 5∧g.j < 5
 hj:∀k,k < 5→(h.p k).j=k
 hx:∀k,k < 5→(h.p k).x=own k
 len:h.rs.length≤100
section
variable {h:ThN} {rk:List Rk} {own:Nat→Int}
noncomputable def ThN.old (h:ThN):Ths:=⟨h.g0,h.rs.map RdT.tg,fun k=>(h.p k).tg⟩
theorem c7t:∀{rs:List RdT},(∀g∈rs,g.i < 5∧g.j < 5)→Are (rs.map RdT.tg) (e4h (rs.map RdT.key))
 | [],_=>trivial
 | g::rs,h=>⟨h g (.head _),⟨_,rfl⟩,rfl,c7t fun x hx=>h x (.tail _ hx)⟩
theorem a4n.old (o:a4n h rk own):c9w h.old rk own:=⟨o.h0,by rw [←o.hk];exact c7t o.hb,fun k hk=>⟨(h.p k).t,by show Value.str (nm (h.p k).j) _=_;rw [o.hj k hk]⟩,o.hx,by show (h.rs.map RdT.tg).length≤100;rw [List.length_map];exact o.len⟩
theorem ThN.TL (h:ThN) (P:Params):Mine.TL P h.all=h.g0.led P++(Mine.TL P (h.rs.map RdT.tg)++Mine.TL P (h.pls.map PlT.tg)):=by
 rw [←c7u];rfl
theorem ThN.pl_mem (h:ThN) {j:Nat} (hj:j < 5):(h.p j).tg∈h.pls.map PlT.tg:=by
 have:j=0∨j=1∨j=2∨j=3∨j=4:=lt5 (by first | assumption | omega)
 rcases this with rfl | rfl | rfl | rfl | rfl <;> simp [ThN.pls]
theorem ThN.open1 (h:ThN) (P:Params) {j:Nat} (hj:j < 5):∃X,(Mine.TL P h.all).Perm ((h.p j).tg.led P++X):=
 b5f (Tg.led P) (List.mem_cons_of_mem _ (List.mem_append_right _ (h.pl_mem hj)))
theorem ThN.open2 (h:ThN) (P:Params) (p:RdT→Bool) {j:Nat} (hj:j < 5):∃X,(Mine.TL P h.all).Perm ((h.p j).tg.led P++(Mine.TL P ((h.rs.filter p).map RdT.tg)++X)):=by
 obtain ⟨X,hX⟩:=b5f (Tg.led P) (h.pl_mem hj)
 have h1:(Mine.TL P (h.rs.map RdT.tg)).Perm (Mine.TL P ((h.rs.filter p).map RdT.tg)++Mine.TL P ((h.rs.filter fun g=> !p g).map RdT.tg)):=by
  unfold Mine.TL
  rw [List.flatMap_map,List.flatMap_map,List.flatMap_map,←List.flatMap_append]
  exact (List.filter_append_perm p h.rs).symm.flatMap_right _
 refine ⟨h.g0.led P++(Mine.TL P ((h.rs.filter fun g=> !p g).map RdT.tg)++X),?_⟩
 rw [h.TL]
 refine ((h1.append hX).append_left _).trans ?_
 exact lpp [_,_,_,_,_] [2,3,4,0,5,6,0,0,0] [5,3,2,4,6,0,0,0,0] rfl
noncomputable abbrev ThN.rI (h:ThN) (j:Nat):List RdT:=h.rs.filter fun g=>Nat.beq g.j j
theorem a4n.filtI (o:a4n h rk own) {j:Nat} (hj:j < 5):h.all.filter (fun g=>pkI j g.tag)=(h.rI j).map RdT.tg++[(h.p j).tg]:=by
 refine (Mine.filtI o.old hj).trans ?_
 show (h.rs.map RdT.tg).filter _++_=_
 rw [List.filter_map]
 congr 2
 exact List.filter_congr fun g hg=>c0p hj (h:=.rd g.i g.j) (o.hb g hg) ⟨g.t,rfl⟩
theorem a4n.keyI (o:a4n h rk own) (j:Nat):(h.rI j).map RdT.key=rkI rk j:=by
 unfold rkI
 rw [←o.hk,List.filter_map];rfl
theorem a4n.at (o:a4n h rk own) {k j:Nat} (h1:k + j=4):(h.pls.map PlT.tg)[k]?=some (h.p j).tg:=by
 have:j=0∨j=1∨j=2∨j=3∨j=4:=lt5 (by first | assumption | exact Nat.lt_of_le_of_lt (a5s h1) (by decide))
 rcases this with rfl | rfl | rfl | rfl | rfl <;> (cases h1;rfl)
end
noncomputable def TbT (B:Led):Prop:=Ey5 fun c2 c3 v t r=>B=T2 c2 c3 v t r
noncomputable def TbI:Nat→Led→Prop
 | 0,B=>Ey2 fun c2 q=>B=q::T1 c2
 | _ + 1,B=>TbT B
theorem e5f {w:World}:∀{k j:Nat},k + j=4→∀{B:Led},TbI k B→∀tp b1 b2,a0y (W w b1 b2) 461 7610 (a0g (a2c j) tp) B (a2w (W w b1 b2) a5z (pkI j) (c6p (kI j)) TbT)
 | 0,j,h,B,hB,tp,b1,b2=>by
  have:j=4:=by omega
  subst this
  obtain ⟨c2,q,rfl⟩:=hB
  refine (c9p (by decide)).mono (.skip q (.refl _)) fun r L _ hr=>⟨L,.refl _,?_⟩
  obtain ⟨m,Tb',h1,h2,h3,⟨c3,v,t,r',h4⟩,h5⟩:=hr
  exact ⟨m,Tb',h1,h2,h3,⟨c2,c3,v,t,r',h4⟩,h5⟩
 | k + 1,j,h,B,hB,tp,b1,b2=>by
  obtain ⟨c2,c3,v,t,r,rfl⟩:=hB
  refine (e7h (by decide) (by exact a9q h) tp).mono (.refl _) fun r' L _ hr=>⟨L,.refl _,?_⟩
  obtain ⟨m,Tb',h1,h2,h3,h4,h5⟩:=hr
  exact ⟨m,Tb',h1,h2,h3,⟨c2,c3,v,t,r,h4⟩,h5⟩
structure InS (P:Params) (T I p:Addr) where
 d:(Nat→Addr)→(Nat→Tok)→Obj
 ok:∀fr tk,InG P T I p (fr 0) (d fr tk)
theorem c6h {vs:List Iv} {v:Iv}:([(v.O,a0a (ofr v.os) v.m)]++gl [v.os.map Of.ob,ivL vs]).Perm ([]++gl [ivL (vs++[v])]):=by
 rw [d2i]
 exact lpp [[_],_,_] [2,3,4,1,0,0,0] [4,2,3,0,0,1,0] rfl
section
variable {w:World} {F Q R T I:Addr} {h:ThN} {rk:List Rk} {own:Nat→Int} {n ep:Nat}
theorem c1t (o:a4n h rk own):∀m k,m + k=5→∀{fo ti vs mi B},InH w.params T I fo→(∀v∈vs,v.j < 5∧4 < v.j + k)→vs.length≤k→TbI k B→(d1n w F Q R T I h rk own n ep TbT k fo ti vs mi B).H w:=by
 intro m
 induction m with
 | zero=>
  intro k hk fo ti vs mi B hfo hvs hvl hB
  have:k=5:=by omega
  subst this
  exact Ctr.p0 (rn (VT (vl [])) (a0r 4879083376706) (al1 (a3f (fun g:Tg=>.ref g.a) (h.pls.map PlT.tg) (Nat.le_refl 5))) fun _ _=>.ret [0,3,4] [0,1,2] ⟨fo,vs,mi,B⟩ ⟨hfo,(List.append_nil _).symm,hB⟩) rfl (by kernel_rfl)
 | succ m ih=>
  intro k hk fo ti vs mi B hfo hvs hvl hB
  obtain ⟨j,hj4⟩:∃j,k + j=4:=⟨4 - k,by omega⟩
  have hj:j < 5:=by exact Nat.lt_of_le_of_lt (a5s hj4) (by decide)
  have hgj:=o.hj j hj
  obtain ⟨X,hX⟩:=h.open1 w.params hj
  obtain ⟨X2,hX2⟩:=h.open2 w.params (fun g=>Nat.beq g.j j) hj
  have hp:(lz3:Str)++nm (h.p j).j=a2c j:=by rw [hgj];exact d1z j hj
  have hl0:(nm (h.p j).j).length≠0:=by
   rw [hgj]
   exact Nat.ne_of_gt (b7x ⟨j,hj⟩).1
  have hl1:((lz3:Str)++nm (h.p j).j).length≤1000000:=by
   rw [hp]
   have:∀i:Fin 5,(a2c i).length≤1000000:=by decide +kernel
   exact this ⟨j,hj⟩
  have hwf:=a1f w.params (l:=vs.map Iv.row) (by rw [List.length_map];exact Nat.le_trans hvl (Nat.le_trans (c0q hj4) (by decide)))
  have hnh:¬a3m ⟨a0k w.params (vs.map Iv.row)⟩ (nm (h.p j).j):=fun z=>by
   obtain ⟨r,hr,e⟩:=List.mem_map.mp ((a0l _ _ _).mp z)
   obtain ⟨v,hv,rfl⟩:=List.mem_map.mp hr
   rw [hgj] at e
   have:=a2u (hvs v hv).1 hj e
   have:=(hvs v hv).2
   omega
  have hall:h.all.length≤900:=by have:=o.len;simp [ThN.all,ThN.pls];exact Nat.le_trans this (by decide)
  have hd:([4,3,2,1,0].map fun j=>(j,a9o (rkI rk j) (own j))).drop k=[(j,a9o (rkI rk j) (own j))]++([4,3,2,1,0].map fun j=>(j,a9o (rkI rk j) (own j))).drop (k + 1):=by
   have:j=0∨j=1∨j=2∨j=3∨j=4:=lt5 (by first | assumption | omega)
   rcases this with rfl | rfl | rfl | rfl | rfl <;> (cases hj4;rfl)
  have hIl:(h.rI j).length≤100:=Nat.le_trans (List.length_filter_le _ _) o.len
  exact Ctr.p1 (rw' [] [0] (a3a hX) <| d1p (a:=F) 2 hfo (fun t=>(⟨fun fr tk=>e8p w.params T I (h.p j).a (fr 0) (a0q (a0q t 2 (Nat.succ (tk 1))) 3 (Nat.succ (tk 2))),fun _ _=>.inl ⟨_,rfl⟩⟩:InS w.params T I (h.p j).a)) (fun z=>⟨fun fr _=>e8p w.params T I (h.p j).a (fr 0) z.a,fun _ _=>.inl ⟨_,rfl⟩⟩) (fun z=>⟨fun fr _=>d5w w.params T I (h.p j).a (fr 0) ⟨z.a,z.d,z.e⟩,fun _ _=>.inr ⟨_,rfl⟩⟩) fun d=>
   rn (VT (vl [.ref (h.p j).a])) (a0r 5847434842536548453429252774345919420753433866372) (al (p:=(lz3:Str).length≠0) (by decide) (al hl0 (al hl1 (al1 (a4q (fun g:Tg=>.ref g.a) (o.at hj4)))))) fun fr tk=>rw' [1,2] [0] (a3a hX).symm <|
   us [4] [0,2] (b5h (pk:=pkI j) (p:=(lz3:Str)++nm (h.p j).j) (B:=B) (Tb:=TbT) (T:=T) (ep:=ep) (tp:=Nat.succ (tk 5)) hall (o.old.are.all fun g t a b=>d0c hj a b) d9j (fun b1 b2=>hp▸e5f hj4 hB (Nat.succ (tk 5)) b1 b2)) fun y hy=>rw' [0] [] (a1o (a:=y.a) (n:=y.b) (congrArg tgr (o.filtI hj))) <|
   rn (VT (vl [])) (a0r 18878529) al0 fun fr2 _=>rw' [] [0] (a2g hX2) <| rw' [] [] (e4m Of.ob) <|
   us [4,9,2,8,0,1] [1,0] (b9m (F:=F) (Q:=fr2 0) (R:=y.a) (T:=T) (I:=I) (o:=fr 0) (pl:=h.p j) (rs:=h.rI j) (nn:=y.b) (by rw [hgj];exact hj) (fun g hg=>o.hb g (List.mem_filter.mp hg).1) hIl _ 0 rfl (fo:=d.d fr tk) (ti:=0) (os:=[]) (m:=0) (d.ok fr tk) (by simp;exact Nat.le_trans hIl (by decide))) fun z hz=>
   a9t (a:=F) 0 hz.1 (fun t=>(⟨fun _=>inB w.params T I ⟨t,(h.p j).a,fr 0⟩,fun _=>.inr (.inl ⟨_,rfl⟩)⟩:Sh (InH w.params T I))) (fun q=>⟨fun _=>inC w.params T I ⟨q.a,(h.p j).a,fr 0,q.b,q.c⟩,fun _=>.inr (.inr ⟨_,rfl⟩)⟩) fun d3=>
   rn (VT (vl [])) (a0r 21129844010810196977616951343583297) (al hwf (al1 hnh)) fun _ tk3=>rw' [7] [] (d3y w.params Iv.row I (mi + 1) vs ⟨(h.p j).j,(h.p j).t,fr 0,z.b,z.c⟩) <| rw' [3,4] [0,2] (a2g hX2).symm <| rw' [2] [1,3] (c6h (vs:=vs) (v:=⟨(h.p j).j,(h.p j).t,fr 0,z.b,z.c⟩)) <|
   agn [1,3,4,0,2] [1,0,2] (ih (k + 1) (sk1 hk) (fo:=d3.d tk3) (ti:=0) (vs:=vs++[⟨(h.p j).j,(h.p j).t,fr 0,z.b,z.c⟩]) (mi:=mi + 1) (B:=y.c) (d3.ok tk3) (fun v hv=>by
    rcases List.mem_append.mp hv with hv | hv
    ·have:=hvs v hv;omega
    ·rw [List.mem_singleton] at hv;subst hv;show (h.p j).j < 5∧4 < (h.p j).j + (k + 1);omega) (by simp;omega) hy) [0,1,2] [0,1,2] (fun y=>y) fun q hq=>⟨hq.1,by
    rw [hq.2.1,hd,List.map_append,List.append_assoc]
    show _++(((h.p j).j,z.b.map Of.key)::_)=_
    rw [hz.2,hgj,o.keyI,o.hx j hj];rfl,hq.2.2⟩) rfl (by kernel_rfl)
theorem c9u (o:a4n h rk own):(e5j w T h rk own ep TbT).H w:=
 have hall:h.all.length≤900:=by have:=o.len;simp [ThN.all,ThN.pls];exact Nat.le_trans this (by decide)
 Ctr.c1 (rn (VT (vl [])) (a0r 18027594847367168) al0 fun fr tk=>rw' [1] [] (d5r [(23,a1v [])]) <|
  us [0] [1,0] (b5h (pk:=pk2) (p:=b4l) (B:=[(23,a1v [])]) (Tb:=TbI 0) (T:=T) (ep:=ep) (tp:=Nat.succ (tk 2)) hall (o.old.are.all fun g t a b=>d5c a b) e2k (fun b1 b2=>e6t (by decide))) fun y hy=>rw' [0] [] (a1o (a:=y.a) (n:=y.b) (congrArg tgr (e5a o.old))) <|
  rn (VT (vl [])) (a0r 18092097) al0 fun fr2 _=>rw' [] [] (d5r (ivL [])) <|
  us [2,4,0,3,1] [1,0,2] (c1t (F:=fr 0) (Q:=fr2 0) (R:=y.a) (T:=T) (I:=fr 1) (n:=y.b) (ep:=ep) o 5 0 rfl (fo:=fob w.params (f0c (fun i=>match i with | 0=>Nat.succ (tk 0) | _=>Nat.succ (tk 1)) T (fr 1)) 2) (ti:=0) (vs:=[]) (mi:=0) (B:=y.c) (.inl ⟨_,rfl⟩) (fun v hv=>nomatch hv) (Nat.le_refl _) hy) fun z hz=>
  d1p (a:=fr 0) 0 hz.1 (fun _=>()) (fun _=>()) (fun _=>()) fun _=>rn (VT (vl [])) (a0r 65) al0 fun _ _=>.ret [1,2] [0,1,2] ⟨fr 1,z.b,z.c,z.d⟩ ⟨hz.2.1,hz.2.2⟩) rfl (by kernel_rfl)
end
noncomputable def f2o:Expr→Expr
 | .BinOp l _ _ _=>l
 | e=>e
noncomputable def f1y:Expr→Expr
 | .BinOp _ _ r _=>r
 | e=>e
noncomputable abbrev e8r:Str:=l25
noncomputable abbrev d9r (S:Addr):Code:=.call (.ref 252) ⟨[.ref S],[]⟩
noncomputable abbrev a1y (F:Addr) (cells:List (Str×Addr)):Env:=b6b (top 24) e8r 252 251 F cells
noncomputable abbrev lwS (k:Nat):Stmt:=a3i (a1e (top 24)) k
noncomputable abbrev rwE:Expr:=f1y (f2o (d2p (lwS 4)))
noncomputable abbrev thE:Expr:=d2p (lwS 5)
noncomputable abbrev leE:Expr:=d2p (lwS 6)
noncomputable abbrev c9c:Stmt:=lwS 8
noncomputable abbrev a3v:Stmt:=lwS 10
noncomputable abbrev rwC (Q A D F:Addr):Code:=.compLoop rwE 0 (.ref Q) (.ref A) (a8c rwE D (a1y F []))
noncomputable abbrev rwS (Q A D F:Addr):Code:=.compStart rwE 0 (.ref Q) (.ref A) (a8c rwE D (a1y F []))
noncomputable abbrev thC (Q A D F:Addr):Code:=.compLoop thE 0 (.ref Q) (.ref A) (a8c thE D (a1y F []))
noncomputable abbrev thS (Q A D F:Addr):Code:=.compStart thE 0 (.ref Q) (.ref A) (a8c thE D (a1y F []))
noncomputable abbrev leC (Q A D F c2:Addr):Code:=.compLoop leE 0 (.ref Q) (.ref A) (a7r leE D (a1y F []) [(a7n,c2)])
noncomputable abbrev leS (Q A D F c2:Addr):Code:=.compStart leE 0 (.ref Q) (.ref A) (a7r leE D (a1y F []) [(a7n,c2)])
noncomputable abbrev a8p:=PySem.W.Fast.tw9404975358583537561
noncomputable abbrev a7l:=PySem.W.Fast.tw17772580674575903948
theorem a8j:pyNext=a8p:=PySem.W.Fast.te9404975358583537561
theorem a6s:assign=a7l:=PySem.W.Fast.te17772580674575903948
noncomputable def f0m:Option Value→Flow
 | none=>.next
 | some v=>.ret v
theorem e4k:∀a b,f0m a=f0m b→a=b:=fun a b h=>by
 cases a <;> cases b <;> first | rfl | (cases h;rfl) | cases h
theorem e3m:∀a b,f0x a=f0x b→a=b:=fun _ _ _=>rfl
section
variable {w:World} {D U:Nat}
theorem a0y.dcomp {kx vx target iter:Expr} {scope:Scope} {pos:Pos} {it:Value} {Da:Addr} {env:Env} {R:a6i} (I:Nat→Led→Prop)
  (turn:∀n L,True→I n L→a0b w D U (pyNext it) L (fun r L₁=>match r with
   | none=>R (.ok .next) L₁
   | some v=>a0b w D U (assign target env v) L₁ (fun _ L₂=>a0b w D U (eval kx env) L₂ (fun kv L₃=>a0b w D U (eval vx env) L₃ (fun vv L₄=>a0b w D U (dictSet Da kv vv) L₄ (fun _ L₅=>∃m,m < n∧I m L₅))))))
  (n:Nat) {L:Led} (h:I n L) (ht:∀v,letOwnedTupleGo target it v=pure ():=by intro _;rfl):
  a0y w D U (.compLoop (.DictComp kx vx [⟨target,iter,[],0⟩] scope pos) 0 it (.ref Da) env) L R:=by
 intro A s hA S
 refine codeAny_compLoop_testsD (R:=Res w L s R) (fun n s'=>∃L',An4 (I n L') (a4s w L' s') (a4j L s s') (a0j L L' s)) (fun n s' ⟨L',hI,S',E',G'⟩=>?_) n ⟨L,h,S,a4j.refl _ _,a0j.refl _ _⟩ ht
 refine wpAny_mono (turn n L' trivial hI A s' _ hA S') (fun r s₁ ⟨L₁,hr,S₁,E₁,G₁⟩=>?_) fun _ _ q=>q
 have e1:=E'.trans G' E₁
 have g1:=G'.trans' E' G₁
 cases r with
 | none=>exact ⟨L₁,hr,S₁,e1,g1⟩
 | some v=>
  refine wpAny_mono (hr A s₁ _ hA S₁) (fun _ s₂ ⟨L₂,h₂,S₂,E₂,G₂⟩=>?_) fun _ _ q=>q
  have e2:=e1.trans g1 E₂
  have g2:=g1.trans' e1 G₂
  refine wpAny_pure ?_
  rw [if_pos rfl]
  refine wpAny_mono (h₂ A s₂ _ hA S₂) (fun kv s₃ ⟨L₃,h₃,S₃,E₃,G₃⟩=>?_) fun _ _ q=>q
  have e3:=e2.trans g2 E₃
  have g3:=g2.trans' e2 G₃
  refine wpAny_mono (h₃ A s₃ _ hA S₃) (fun vv s₄ ⟨L₄,h₄,S₄,E₄,G₄⟩=>?_) fun _ _ q=>q
  have e4:=e3.trans g3 E₄
  have g4:=g3.trans' e3 G₄
  refine wpAny_mono (h₄ A s₄ _ hA S₄) (fun _ s₅ ⟨L₅,h₅,S₅,E₅,G₅⟩=>?_) fun _ _ q=>q
  obtain ⟨m,hm,hi⟩:=h₅
  exact ⟨m,hm,L₅,hi,S₅,e4.trans g4 E₅,g4.trans' e4 G₅⟩
theorem b3i {a:Addr} {rows:List Row} {n:Nat} {k:Str} {t:Tok} {v:Value} (hl:rows.length≤1000000) (hn:k∉a1m rows):a0b w D U (dictSet a (.str k t) v) [(a,dob w.params rows n)] (fun _ L=>L=[(a,dob w.params (rows++[(k,t,v)]) (n + 1))]):=by
 intro A s E hA S
 have ho:s.heap.get? a=some (a8d ⟨a0k w.params rows⟩ n):=S.led _ (.head _)
 refine a7y ho (a1f _ hl) (fun z=>hn ((a0l _ _ _).mp z)) ?_
 have hi:([(a,dob w.params rows n)]:Led)[0]?=some (a,dob w.params rows n):=rfl
 have e:Obj.mapDictKeys (fun es=>es.push ⟨PyData.keyHash w.params k,.str k t,v⟩) (dob w.params rows n)=dob w.params (rows++[(k,t,v)]) (n + 1):=by
  have:=a3y w.params rows k t v
  unfold c6g at this
  show a7j (dob w.params rows n) ((⟨a0k w.params rows⟩:Array DictEntry).push _) (n + 1)=_
  rw [this];rfl
 have S1:=b4w S hi (f:=Obj.mapDictKeys fun es=>es.push ⟨PyData.keyHash w.params k,.str k t,v⟩) e rfl
 refine ⟨[(a,dob w.params (rows++[(k,t,v)]) (n + 1))],rfl,S1.fresh (s.toks + 1) (Nat.le_succ _),Ext.weak ?_,a0j.set hi _⟩
 have:=Ext.update (s:=s) hi (Obj.mapDictKeys fun es=>es.push ⟨PyData.keyHash w.params k,.str k t,v⟩)
 exact ⟨this.keep,this.size,Nat.le_succ _,this.gens,this.os⟩
end
noncomputable abbrev lb:Str:=lz2
noncomputable abbrev rb:Str:=l26
theorem d5n:∀i j:Fin 5,lb++nm i++rb++nm j=a4u i j:=by decide +kernel
theorem d3i:∀i j:Fin 5,(lb.length≠0∧(nm i).length≠0∧(lb++nm i).length≤1000000)∧((lb++nm i).length≠0∧rb.length≠0∧(lb++nm i++rb).length≤1000000)∧((lb++nm i++rb).length≠0∧(nm j).length≠0∧(lb++nm i++rb++nm j).length≤1000000):=by decide +kernel
structure Rw where
 a:Addr
 tag:Value
 x:Int
 tx:Tok
noncomputable def Rw.ob (e:Rw):Addr×Obj:=(e.a,tob [e.tag,.int e.x e.tx])
noncomputable def rwr (es:List Rw):Array Value:=⟨es.map fun e=>.ref e.a⟩
noncomputable def NsV (v:Value):Prop:=v= .none∨Ey2 fun p t=>v= .str p t
noncomputable def dcK:Expr→Expr
 | .DictComp k _ _ _ _=>k
 | e=>e
noncomputable def dcV:Expr→Expr
 | .DictComp _ v _ _ _=>v
 | e=>e
noncomputable def dcT:Expr→Expr
 | .DictComp _ _ (⟨t,_,_,_⟩::_) _ _=>t
 | e=>e
noncomputable def dcI:Expr→Expr
 | .DictComp _ _ (⟨_,i,_,_⟩::_) _ _=>i
 | e=>e
noncomputable def dcS:Expr→Scope
 | .DictComp _ _ _ s _=>s
 | _=>default
noncomputable def dcP:Expr→Pos
 | .DictComp _ _ _ _ p=>p
 | _=>default
theorem e3d:leE= .DictComp (dcK leE) (dcV leE) [⟨dcT leE,dcI leE,[],0⟩] (dcS leE) (dcP leE):=by first | rfl | kernel_rfl
noncomputable abbrev b1u (Dd F c2:Addr):Env:=a7r leE Dd (a1y F []) [(a7n,c2)]
noncomputable def OeF (P:Params) (o:Obj):Prop:=o=dob P [] 0∨Ey2 fun (t:Nat→Tok) (p:Str)=>o=dob P [(a3p,t 0,.str p (t 1))] 1
structure Lz where
 v:Nat
 tv:Tok
 M:Addr
 kn:List Kn
 em:Nat
noncomputable def Lz.row (z:Lz):Row:=(nm z.v,z.tv,.ref z.M)
noncomputable def lzL (P:Params) (zs:List Lz):Led:=zs.map fun z=>(z.M,dob P (knR z.kn) z.em)
section
variable {w:World} {b1 b2:Bool} {D U:Nat} {F Q N R A Dd c2:Addr}
theorem c2b (hD:D≤600) {k:Nat} {ti:Tok} {u:Nat→Tok} {en:Nat} (hk:k < 5):a0b (W w b1 b2) D U (pyNext (.ref Q)) [(Q,a0z (.ref N) k ti),(N,a0a (nmA u) en)] (fun r L=>r=some (.str (nm k) (u k))∧L=[(Q,a0z (.ref N) (k + 1) 0),(N,a0a (nmA u) en)]):=by
 have hn:=c2w u (k:=(k:Int)) (by exact Int.natCast_nonneg _) (by exact Int.ofNat_lt.mpr (by assumption))
 rw [Int.toNat_natCast] at hn
 refine a0b.runT a1a e4k (y:=a8p (.ref Q)) (by rw [a8j]) hD [1,0,1,1,3] [1,1] (fun _ _=>some (.str (a4e (nth (nmA u) k)) (a7e (nth (nmA u) k)))) (fun _ _=>[(Q,a0z (.ref N) (k + 1) 0),(N,a0a (nmA u) en)]) (fun _ _=>[0≤(k:Int),(k:Int) < (nmA u).size,nth (nmA u) k= .str (a4e (nth (nmA u) k)) (a7e (nth (nmA u) k))])
  (fun fr tk=>by kernel_rfl) (fun _ _=>a0d (by omega) (a0d (by show (k:Int) < ((5:Nat):Int);exact Int.ofNat_lt.mpr (by assumption)) (a0d (by rw [hn];rfl) a0e))) (fun _ _ _=>⟨_,.refl _,by rw [hn];rfl,rfl⟩)
theorem c9k (hD:D≤600) {ti:Tok} {u:Nat→Tok} {en:Nat}:a0b (W w b1 b2) D U (pyNext (.ref Q)) [(Q,a0z (.ref N) (5:Nat) ti),(N,a0a (nmA u) en)] (fun r L=>r=none∧L=[(N,a0a (nmA u) en)]):=by
 refine a0b.runT a1a e4k (y:=a8p (.ref Q)) (by rw [a8j]) hD [1,0,1,0,0,4] [0,1] (fun _ _=>none) (fun _ _=>[(N,a0a (nmA u) en)]) (fun _ _=>[0≤((5:Nat):Int),((nmA u).size:Int)≤((5:Nat):Int)])
  (fun fr tk=>by kernel_rfl) (fun _ _=>a0d (by exact Int.natCast_nonneg _) (a0d (by show ((5:Nat):Int)≤((5:Nat):Int);exact Int.natCast_nonneg _) a0e)) (fun _ _ _=>⟨_,.refl _,rfl,rfl⟩)
theorem e1n (hD:D≤600) {dc:Obj} (h:OeF (W w b1 b2).params dc) {s:Str} {t:Tok}:a0b (W w b1 b2) D U (assign (dcT leE) (b1u Dd F c2) (.str s t)) [(Dd,dc)] (fun _ L=>∃t',L=[(Dd,dob (W w b1 b2).params [(a3p,t',.str s t)] 1)]):=by
 rcases h with rfl | ⟨t0,p,rfl⟩
 ·exact a0b.runT a1a e3m (y:=a7l (dcT leE) (b1u Dd F c2) (.str s t)) (by rw [a6s]) hD [1,0] [1] (fun _ _=>()) (fun _ tk=>[(Dd,dob (W w b1 b2).params [(a3p,Nat.succ (tk 0),.str s t)] 1)]) (fun _ _=>[])
   (fun fr tk=>by kernel_rfl) (fun _ _=>a0e) (fun _ _ _=>⟨_,.refl _,_,rfl⟩)
 ·exact a0b.runT a1a e3m (y:=a7l (dcT leE) (b1u Dd F c2) (.str s t)) (by rw [a6s]) hD [1,0] [1] (fun _ _=>()) (fun _ tk=>[(Dd,dob (W w b1 b2).params [(a3p,t0 0,.str s t)] 1)]) (fun _ _=>[])
   (fun fr tk=>by kernel_rfl) (fun _ _=>a0e) (fun _ _ _=>⟨_,.refl _,_,rfl⟩)
theorem e3b (hD:D≤600) {s:Str} {t t':Tok}:a0b (W w b1 b2) D U (eval (dcK leE) (b1u Dd F c2)) [(Dd,dob (W w b1 b2).params [(a3p,t',.str s t)] 1)] (fun v L=>v= .str s t∧L=[(Dd,dob (W w b1 b2).params [(a3p,t',.str s t)] 1)]):=
 a0b.runT a1a b3n (y:=a2r (dcK leE) (b1u Dd F c2)) (by rw [a1i]) hD [1] [1] (fun _ _=>.str s t) (fun _ _=>[(Dd,dob (W w b1 b2).params [(a3p,t',.str s t)] 1)]) (fun _ _=>[])
  (fun fr tk=>by kernel_rfl) (fun _ _=>a0e) (fun _ _ _=>⟨_,.refl _,rfl,rfl⟩)
end
noncomputable abbrev b6t:Str:=⟨⟨[115,116,97,114,116]⟩⟩
noncomputable abbrev c0j:Str:=⟨⟨[110,97,109,101]⟩⟩
noncomputable abbrev b1w:Str:=⟨⟨[108,101,97,115,116]⟩⟩
noncomputable abbrev c0l:Str:=⟨⟨[109,111,114,101]⟩⟩
noncomputable abbrev b8a:Str:=⟨⟨[110,97,109,101,115]⟩⟩
noncomputable abbrev a8k (c:Nat→Addr):List (Str×Addr):=[(b6t,c 7),(c0j,c 6),(a4t,c 5),(b1w,c 4),(c0l,c 3),(a7n,c 2),(b8a,c 1)]
noncomputable abbrev f5o (Q F:Addr) (c:Nat→Addr):Code:=b4o c9c (.ref Q) (a1y F (a8k c))
noncomputable abbrev f1f (Q F:Addr) (c:Nat→Addr):Code:=b4o a3v (.ref Q) (a1y F (a8k c))
noncomputable abbrev f2n:Stmt:=a3i (lpB c9c) 0
noncomputable abbrev f1E:Expr:=b9w (b3c (lpT f2n)) 0
noncomputable abbrev e0d (Dd F:Addr) (c6 c4:Addr):Env:=a7r f1E Dd (a1y F []) [(c0j,c6),(b1w,c4)]
noncomputable abbrev f1C (Q A Dd F c6 c4:Addr):Code:=.compLoop f1E 0 (.ref Q) (.ref A) (e0d Dd F c6 c4)
noncomputable abbrev f1S (Q A Dd F c6 c4:Addr):Code:=.compStart f1E 0 (.ref Q) (.ref A) (e0d Dd F c6 c4)
structure Ow where
 a:Addr
 v:Nat
 tv:Tok
 x:Int
 tx:Tok
noncomputable def Ow.rw (e:Ow):Rw:=⟨e.a,.str (nm e.v) e.tv,e.x,e.tx⟩
noncomputable def owR (es:List Ow):Array Value:=rwr (es.map Ow.rw)
noncomputable def Ow.ob (e:Ow):Addr×Obj:=(e.a,tob [.str (nm e.v) e.tv,.int e.x e.tx])
theorem d6p (es:List Ow):(es.map Ow.rw).map Rw.ob=es.map Ow.ob:=by simp [Ow.rw,Rw.ob,Ow.ob]
theorem c5r (es:List Ow):(owR es).size=es.length:=by simp [owR,rwr]
noncomputable def b9d:List Kn→Nat→Option Int
 | [],_=>none
 | e::kn,v=>if e.v=v then some e.x else b9d kn v
theorem b2m:∀{kn:List Kn},(∀e∈kn,e.v < 5)→∀{v:Nat},v < 5→∀{y:Int},b9d kn v=some y→nm v∈a1m (knR kn)∧∃t,a5p (knR kn) (nm v)= .int y t
 | [],_,v,_,y,h=>nomatch h
 | e::kn,hk,v,hv,y,h=>by
  unfold b9d at h
  unfold knR
  rw [List.map_cons]
  unfold a1m a5p
  by_cases he:e.v=v
  ·rw [if_pos he] at h
   injection h with h
   subst h he
   exact ⟨.head _,e.tx,by rw [if_pos rfl]⟩
  ·rw [if_neg he] at h
   obtain ⟨h1,t,h2⟩:=b2m (fun x hx=>hk x (.tail _ hx)) hv h
   refine ⟨.tail _ h1,t,?_⟩
   rw [if_neg (fun z=>he (a2u (hk e (.head _)) hv z))]
   exact h2
theorem b2o:∀{kn:List Kn},(∀e∈kn,e.v < 5)→∀{v:Nat},v < 5→b9d kn v=none→nm v∉a1m (knR kn)
 | [],_,v,_,h=>List.not_mem_nil
 | e::kn,hk,v,hv,h=>by
  unfold b9d at h
  unfold knR
  rw [List.map_cons]
  unfold a1m
  by_cases he:e.v=v
  ·rw [if_pos he] at h;cases h
  ·rw [if_neg he] at h
   intro hm
   rcases List.mem_cons.mp hm with hm | hm
   ·exact he (a2u hv (hk e (.head _)) hm).symm
   ·exact b2o (fun x hx=>hk x (.tail _ hx)) hv h hm
noncomputable def d6g (zs:List Lz) (u v:Nat):Option Int:=(zs[u]?).bind fun z=>b9d z.kn v
structure b8o (zs:List Lz):Prop where
 vs:zs.map (·.v)=List.range 5
 kn:∀z∈zs,∀e∈z.kn,e.v < 5
 len:∀z∈zs,z.kn.length≤5
theorem b8o.at {zs:List Lz} (h:b8o zs) {u:Nat} (hu:u < 5):∃z,zs[u]?=some z∧z.v=u:=by
 have h1:=congrArg (fun l=>l[u]?) h.vs
 simp only [List.getElem?_map,List.getElem?_range hu] at h1
 cases h2:zs[u]? with
 | none=>rw [h2] at h1;cases h1
 | some z=>rw [h2] at h1;injection h1 with h1;exact ⟨z,rfl,h1⟩
theorem b8o.get {zs:List Lz} (h:b8o zs) {u:Nat} {z:Lz} (hz:zs[u]?=some z):a5p (zs.map Lz.row) (nm z.v)= .ref z.M∧nm z.v∈a1m (zs.map Lz.row):=by
 have hm:=List.mem_of_getElem? hz
 refine ⟨?_,by unfold a1m;rw [List.map_map];exact List.mem_map.mpr ⟨z,hm,rfl⟩⟩
 have hnd:(zs.map (·.v)).Nodup:=by rw [h.vs];decide
 have hlt:∀e∈zs,e.v < 5:=fun e he=>by
  have:e.v∈List.range 5:=by rw [←h.vs];exact List.mem_map_of_mem he
  exact List.mem_range.mp this
 have:∀{zs:List Lz},(∀e∈zs,e.v < 5)→(zs.map (·.v)).Nodup→∀{e:Lz},e∈zs→a5p (zs.map Lz.row) (nm e.v)= .ref e.M:=by
  intro hs
  induction hs with
  | nil=>intro _ _ e he;cases he
  | cons a hs ih=>
   intro hl hnd e he
   rw [List.map_cons] at hnd ⊢
   rw [List.nodup_cons] at hnd
   unfold a5p
   rcases List.mem_cons.mp he with rfl | he
   ·rw [if_pos (show (Lz.row e).1=nm e.v from rfl)];rfl
   ·have:¬(Lz.row a).1=nm e.v:=fun z=>by
     have:=a2u (hl a (.head _)) (hl e (.tail _ he)) z
     exact hnd.1 (List.mem_map.mpr ⟨e,he,this.symm⟩)
    rw [if_neg this]
    exact ih (fun x hx=>hl x (.tail _ hx)) hnd.2 he
 exact this hlt hnd hm
theorem b2b {P:Params}:∀{zs:List Lz} {k:Nat} {z:Lz},zs[k]?=some z→(lzL P zs).Perm ((z.M,dob P (knR z.kn) z.em)::lzL P (zs.eraseIdx k))
 | [],k,e,h=>by simp at h
 | e0::os,0,e,h=>by
  simp only [List.getElem?_cons_zero,Option.some.injEq] at h
  subst h
  exact .refl _
 | e0::os,k + 1,e,h=>by
  have ih:=b2b (P:=P) (zs:=os) (k:=k) (z:=e) (by simpa using h)
  exact (ih.cons (e0.M,dob P (knR e0.kn) e0.em)).trans (.swap _ _ _)
noncomputable abbrev d5y (t:Nat→Tok) (S O T A:Addr):List Row:=[(c5a,t 0,.ref S),(e6k,t 1,.ref O),(d6z,t 2,.ref T),(a8o,t 3,.ref A)]
noncomputable abbrev c8x (v:Option Value):Obj:=⟨.type "cell",none,.cell v,⟨[]⟩⟩
theorem b3m:∀ts:List (Int×Tok),IntsAre (ts.map fun e=>Value.int e.1 e.2) (ts.map (·.1))
 | []=>.nil
 | e::ts=>.cons e.1 e.2 (b3m ts)
theorem b4g:∀{vs:List Value} {ns:List Int},IntsAre vs ns→∃ts:List (Int×Tok),vs=ts.map (fun e=>Value.int e.1 e.2)∧ts.map (·.1)=ns:=by
 intro vs ns h
 induction h with
 | nil=>exact ⟨[],rfl,rfl⟩
 | cons n t _ ih=>obtain ⟨ts,rfl,rfl⟩:=ih;exact ⟨(n,t)::ts,rfl,rfl⟩
theorem a9r {a b:List Int} (hp:a.Perm b) (ha:a.Pairwise (· ≤ ·)) (hb:b.Pairwise (· ≤ ·)):a=b:=
 hp.eq_of_pairwise (fun x y _ _ h1 h2=>Int.le_antisymm h1 h2) ha hb
section
variable {w:World} {D U:Nat}
theorem b5v {T:Addr} {ts:List (Int×Tok)} {et:Nat} (hl:ts.length < 64) (hs:(ts.map (·.1)).Pairwise (· ≤ ·)):a0y w D U (.call (.builtin "sorted") ⟨[.ref T],[]⟩) [(T,a0a (a0w ts) et)]
  (fun r L=>Ey3 fun T' ts' et'=>An3 (r= .ok (.ret (.ref T'))) (ts'.map (·.1)=ts.map (·.1)) (L=[(T,a0a (a0w ts) et),(T',a0a (a0w ts') et')])):=by
 intro A s hA S
 have hT:s.heap.get? T=some (a0a (a0w ts) et):=S.led _ (.head _)
 have hIs:s.heap.IsList T (ts.map fun e=>Value.int e.1 e.2).toArray:=⟨_,hT,rfl,et,rfl⟩
 refine codeAny_call_builtin plain_sorted entry_sorted ?_
 have hc:wpAny (model prog w) A.in1 (Builtin.«sorted» ⟨[.ref T],[]⟩) (fun fin s'=>∃v,fin= .done (.ret v)∧Res w [(T,a0a (a0w ts) et)] s (fun r L=>Ey3 fun T' ts' et'=>An3 (r=(Except.ok (.ret (.ref T')):Result)) (ts'.map (·.1)=ts.map (·.1)) (L=[(T,a0a (a0w ts) et),(T',a0a (a0w ts') et')])) (Except.ok (.ret v):Result) s') (fun _ _=>False) s:=by
  unfold Builtin.«sorted»
  refine wpAny_bind (m:=checkCount "sorted" 1 1 _) (wpAny_pure ?_)
  refine wpAny_bind (collect_list hIs ?_)
  refine wpAny_bind (wpAny_newList ?_)
  have hsz:((s.heap.push (seqObj "list" #[] 0)).update s.heap.objs.size (Obj.mapSeq (· ++(ts.map fun e=>Value.int e.1 e.2).toArray))).objs.size=s.heap.objs.size + 1:=by
   rw [Heap.size_update,size_push']
  have hoL:(((s.heap.push (seqObj "list" #[] 0)).update s.heap.objs.size (Obj.mapSeq (· ++(ts.map fun e=>Value.int e.1 e.2).toArray))).push (seqObj "list" (ts.map fun e=>Value.int e.1 e.2).toArray 0)).get? (s.heap.objs.size + 1)=some (seqObj "list" (ts.map fun e=>Value.int e.1 e.2).toArray 0):=by
   rw [←hsz];exact Heap.get?_push_size _ rfl
  show wpAny _ _ _ _ _ { s with heap:=((s.heap.push (seqObj "list" #[] 0)).update s.heap.objs.size (Obj.mapSeq (· ++(ts.map fun e=>Value.int e.1 e.2).toArray))).push (seqObj "list" (ts.map fun e=>Value.int e.1 e.2).toArray 0) }
  rw [hsz]
  refine wpAny_bind (wpAny_holding (wpAny_call_entry slot_list_sort ⟨_,hoL,rfl⟩ entry_list_sort (list_sort_tree hoL (b3m ts) (by rw [List.length_map];exact hl) fun out ns' a1 a2 a3=>⟨_,rfl,?_⟩) (args_list_sort _)))
  refine wpAny_pure ⟨_,rfl,?_⟩
  show Res w _ s _ _ { s with heap:=sortedAll s.heap (ts.map fun e=>Value.int e.1 e.2) out }
  obtain ⟨e,he⟩:=sortedAll_at s.heap (ts.map fun e=>Value.int e.1 e.2) out
  obtain ⟨ts',h1,h2⟩:=b4g a1
  have h3:ns'=ts.map (·.1):=a9r a2 a3 hs
  have hout:out=a0w ts':=by
   unfold a0w
   rw [←h1]
  have old:∀b o,s.heap.get? b=some o→(sortedAll s.heap (ts.map fun e=>Value.int e.1 e.2) out).get? b=some o:=fun b o=>sortedAll_old
  have hlt:T < s.heap.objs.size:=Heap.lt_size hT
  refine ⟨[(T,a0a (a0w ts) et),(s.heap.objs.size + 1,a0a (a0w ts') e)],⟨_,ts',e,rfl,by rw [h2,h3],rfl⟩,⟨fun q hq=>?_,?_,fun a o hk=>old _ _ (S.kk a o hk),fun q hq=>?_,S.tok⟩,⟨fun b o hb hn=>old _ _ hb,?_,Nat.le_refl _,fun g=>g,rfl⟩,fun a ha=>?_⟩
  ·rcases List.mem_cons.mp hq with rfl | hq
   ·exact old _ _ hT
   ·rw [List.mem_singleton] at hq;subst hq
    rw [←hout];exact he
  ·refine List.nodup_cons.mpr ⟨fun h=>?_,List.nodup_cons.mpr ⟨List.not_mem_nil,List.nodup_nil⟩⟩
   have:T=s.heap.objs.size + 1:=by simpa using h
   exact Nat.ne_of_lt (Nat.lt_succ_of_lt hlt) this
  ·rcases List.mem_cons.mp hq with rfl | hq
   ·exact S.nk (T,a0a (a0w ts) et) (.head _)
   ·rw [List.mem_singleton] at hq;subst hq
    show KK w.params (s.heap.objs.size + 1)=none
    cases h:KK w.params (s.heap.objs.size + 1) with
    | none=>rfl
    | some o=>
     have:=Heap.lt_size (S.kk _ _ h)
     exact absurd (Nat.lt_trans (Nat.lt_succ_self _) this) (Nat.lt_irrefl _)
  ·have:=Heap.lt_size he
   exact Nat.le_of_lt (Nat.lt_trans (Nat.lt_succ_self _) this)
  ·rcases List.mem_cons.mp ha with rfl | ha
   ·exact .inl (.head _)
   ·have h':a=s.heap.objs.size + 1:=by simpa using ha
    subst h'
    exact .inr (Nat.le_succ _)
 have hfin:=wpAny_mono hc (Q':=fun fin s'=>match fin with
  | .done f=>Res w [(T,a0a (a0w ts) et)] s (fun r L=>Ey3 fun T' ts' et'=>An3 (r=(Except.ok (.ret (.ref T')):Result)) (ts'.map (·.1)=ts.map (·.1)) (L=[(T,a0a (a0w ts) et),(T',a0a (a0w ts') et')])) (Except.ok f:Result) s'
  | .again c'=>c'.quiet=true∧codeAny (model prog w) A c' (Res w [(T,a0a (a0w ts) et)] s (fun r L=>Ey3 fun T' ts' et'=>An3 (r=(Except.ok (.ret (.ref T')):Result)) (ts'.map (·.1)=ts.map (·.1)) (L=[(T,a0a (a0w ts) et),(T',a0a (a0w ts') et')]))) s')
  (fun fin s' h'=>by obtain ⟨v,rfl,hv⟩:=h';exact hv) (E':=fun e s'=>Res w [(T,a0a (a0w ts) et)] s (fun r L=>Ey3 fun T' ts' et'=>An3 (r=(Except.ok (.ret (.ref T')):Result)) (ts'.map (·.1)=ts.map (·.1)) (L=[(T,a0a (a0w ts) et),(T',a0a (a0w ts') et')])) (Except.error e:Result) s') fun _ _ h'=>h'.elim
 have ha:=args_sorted1 (.ref T)
 simp only [checkBuiltinCall,kind_sorted]
 cases hsig:Manifest.signature? "sorted" with
 | none=>exact wpAny_pure hfin
 | some sig=>
  simp only [argsOk,hsig] at ha
  have h2:Bind.checkArgs "sorted" sig ⟨[.ref T],[]⟩=pure ():=ha
  show wpAny _ A.in1 (Bind.checkArgs "sorted" sig ⟨[.ref T],[]⟩) _ _ s
  rw [h2];exact wpAny_pure hfin
theorem a8t (hU:U < 9800) {H E:Addr} {ts ts':List (Int×Tok)} {n m:Nat} (h:ts'.map (·.1)=ts.map (·.1)):
  a0b w D U (compareOp .NotEq (.ref H) (.ref E)) [(H,a0a (a0w ts) n),(E,a0a (a0w ts') m)] (fun v L=>v= .bool false∧L=[(H,a0a (a0w ts) n),(E,a0a (a0w ts') m)]):=by
 intro A s E' hA S
 have ha:=S.led _ (.head _)
 have hb:=S.led _ (.tail _ (.head _))
 have hu:A.units < cLine:=by have:=hA.units;show _ < 9900;exact Nat.lt_of_le_of_lt this (Nat.lt_of_lt_of_le hU (by decide))
 have hl:s.heap.IsList H (a0w ts):=⟨_,ha,rfl,n,rfl⟩
 have hl2:s.heap.IsList E (a0w ts'):=⟨_,hb,rfl,m,rfl⟩
 have hlen:=congrArg List.length h
 simp only [List.length_map] at hlen
 show wpAny _ _ (richCompare .NotEq _ _) _ _ _
 refine PySem.SeqAt.RcNeAt.lists (e:=fun _=>true) hl hl2 (by simp [a0w,hlen]) hu (fun j h1 h2=>?_) _ _ _ _ ?_
 ·have j1:j < ts.length:=by simpa [a0w] using h1
  have j2:j < ts'.length:=by simpa [a0w] using h2
  have e1:(a0w ts)[j]= .int ts[j].1 ts[j].2:=by simp [a0w]
  have e2:(a0w ts')[j]= .int ts'[j].1 ts'[j].2:=by simp [a0w]
  rw [e1,e2]
  have e3:ts'[j].1=ts[j].1:=by
   have:=congrArg (fun l=>l[j]?) h
   simpa [j1,j2] using this
  have:=PySem.SeqAt.EqAt.int_int (A:=A.in1) (s:=s) ts[j].1 ts[j].2 ts'[j].1 ts'[j].2
  rw [e3,beq_self_eq_true] at this
  rw [e3]
  exact this
 ·refine ⟨_,⟨?_,rfl⟩,S,a4j.refl _ _,a0j.refl _ _⟩
  simp
end
theorem a9i {M:Model} {A:Around} {E:Value→Shared→Prop} {s:Shared} {β:Type} {f:Nat→β→Sem (ForInStep β)} {b:β} {Q:β→Shared→Prop}:∀{l:List Nat},(∀i∈l,∀(Q':ForInStep β→Shared→Prop),Q' (.yield b) s→wpAny M A (f i b) Q' E s)→Q b s→wpAny M A (forIn l b f) Q E s
 | [],_,hQ=>by
  rw [List.forIn_nil];exact wpAny_pure hQ
 | i::l,h,hQ=>by
  rw [List.forIn_cons]
  exact wpAny_bind (h i (.head _) _ (a9i (fun j hj=>h j (.tail _ hj)) hQ))
section
variable {w:World} {D U:Nat}
theorem c7j (P:Params) (l:List Row) (i:Nat):(⟨a0k P l⟩:Array DictEntry)[i]?=(l[i]?).map fun r=>ent P r.1 r.2.1 r.2.2:=by
 rw [a1z,List.getElem?_toArray,List.getElem?_map]
theorem a8z (hU:U < 9800) {K E:Addr} {kr kr2:List Row} {n m:Nat} (hlen:kr.length=kr2.length) (hle:kr.length≤1000)
  (h:∀r∈kr,Ey3 fun y t u=>An3 (r.2.2= .int y t) (r.1∈a1m kr2) (a5p kr2 r.1= .int y u)):
  a0b w D U (compareOp .NotEq (.ref K) (.ref E)) [(K,dob w.params kr n),(E,dob w.params kr2 m)] (fun v L=>v= .bool false∧L=[(K,dob w.params kr n),(E,dob w.params kr2 m)]):=by
 intro A s E' hA S
 have ha:=S.led _ (.head _)
 have hb:=S.led _ (.tail _ (.head _))
 have hu:A.units < cLine:=by have:=hA.units;show _ < 9900;exact Nat.lt_of_le_of_lt this (Nat.lt_of_lt_of_le hU (by decide))
 have ha1:K≠1:=fun e=>by
  have:=S.nk _ (.head _)
  rw [show (K,dob w.params kr n).1=1 from e] at this
  exact absurd this (by intro x;cases (show some (k1 w.params)=none from x))
 have hb1:E≠1:=fun e=>by
  have:=S.nk _ (.tail _ (.head _))
  rw [show (E,dob w.params kr2 m).1=1 from e] at this
  exact absurd this (by intro x;cases (show some (k1 w.params)=none from x))
 show wpAny _ _ (richCompare .NotEq _ _) _ _ _
 refine wpAny_richCompare_same_room (T:="dict") ⟨_,ha,rfl⟩ ⟨_,hb,rfl⟩ F.slot_dict_ne ?_ hu
 refine wpAny_call_entry F.slot_dict_ne ⟨_,ha,rfl⟩ F.entry_dict_ne ?_ (F.args_dict_ne_2 _ _)
 unfold Builtin.«dict.__ne__»
 refine wpAny_bind (m:=Builtin.Dict.dictSlotArgs "__ne__" _) ?_
 unfold Builtin.Dict.dictSlotArgs
 refine wpAny_bind (wpAny_notOrdered_dict ⟨_,ha,rfl⟩ ?_)
 show wpAny _ _ (pure (Value.ref K,Value.ref E)) _ _ s
 refine wpAny_pure ?_
 show wpAny _ _ (isInstance (.ref E) (.type "dict") >>=_) _ _ s
 refine wpAny_bind (wpAny_isInstance ⟨_,hb,rfl⟩ F.sub_dict_dict ?_)
 show wpAny _ _ (Builtin.Dict.samePairs _ K E >>=_) _ _ s
 unfold Builtin.Dict.samePairs
 have hbK:(K == sysModules)=false:=by
  have:¬K=sysModules:=ha1
  simpa using this
 have hbE:(E == sysModules)=false:=by
  have:¬E=sysModules:=hb1
  simpa using this
 have sz:(⟨a0k w.params kr⟩:Array DictEntry).size=kr.length:=a0t _ _
 have sz2:(⟨a0k w.params kr2⟩:Array DictEntry).size=kr.length:=by rw [hlen];exact a0t _ _
 have w2:dWf w.params ⟨a0k w.params kr2⟩:=a1f _ (by exact Nat.le_trans (Nat.le_of_eq hlen.symm) (Nat.le_trans hle (by decide)))
 refine wpAny_bind ?_
 unfold Builtin.Dict.showsAll
 rw [if_neg (by rw [hbK];exact Bool.false_ne_true),if_neg (by rw [hbE];exact Bool.false_ne_true)]
 refine wpAny_bind (wpAny_pure (wpAny_bind (wpAny_pure ?_)))
 refine wpAny_bind (wpAny_dictEntries ha rfl ?_)
 refine wpAny_bind (wpAny_dictEntries hb rfl ?_)
 rw [if_neg (by rw [sz,sz2];simp)]
 refine wpAny_bind (wpAny_dictEpoch ha rfl ?_)
 refine wpAny_bind ?_
 rw [Std.Legacy.Range.forIn_eq_forIn_range']
 refine a9i (fun i hi Q' hQ'=>?_) ?_
 ·have hi':i < kr.length:=by
   have h1:=List.mem_range'.mp hi
   rw [sz] at h1
   simp [Std.Legacy.Range.size] at h1
   omega
  obtain ⟨y,t,u,hy,hk,hl⟩:=h kr[i] (List.getElem_mem hi')
  refine wpAny_bind (wpAny_dictEntries ha rfl ?_)
  rw [c7j,List.getElem?_eq_getElem hi',Option.map_some]
  show wpAny _ _ (holding _ _ >>=_) _ _ s
  refine wpAny_bind (wpAny_holding ?_)
  refine wpAny_bind (a5a (k:=kr[i].1) (t:=kr[i].2.1) hb w2 ?_)
  have hhas:a3m ⟨a0k w.params kr2⟩ kr[i].1:=(a0l _ _ _).mpr hk
  have hval:a5x ⟨a0k w.params kr2⟩ kr[i].1= .int y u:=by rw [a3b];exact hl
  unfold a3m at hhas
  unfold a5x at hval
  cases hx:b2d ⟨a0k w.params kr2⟩ kr[i].1 with
  | none=>rw [hx] at hhas;cases hhas
  | some j=>
   rw [hx] at hval
   obtain ⟨f,hf⟩:=b5g hx
   simp only [hf,Option.map_some,Option.getD_some] at hval
   refine wpAny_bind (wpAny_dictEntries hb rfl ?_)
   rw [hf]
   refine wpAny_holding ?_
   have e1:(ent w.params kr[i].1 kr[i].2.1 kr[i].2.2).val= .int y t:=hy
   rw [e1,hval]
   have:=PySem.SeqAt.EqAt.int_int (A:=A.in1) (s:=s) y t y u
   rw [beq_self_eq_true] at this
   refine this _ _ _ _ ?_
   refine wpAny_bind (wpAny_dictEpoch ha rfl ?_)
   rw [if_neg (by simp)]
   exact wpAny_pure hQ'
 ·refine wpAny_pure ?_
  refine wpAny_pure ⟨_,rfl,(fun x=>nomatch x),?_⟩
  exact ⟨_,⟨rfl,rfl⟩,S,a4j.refl _ _,a0j.refl _ _⟩
end
section
variable {w:World} {D U:Nat}
noncomputable abbrev f5g (w:World) (D U:Nat) (target:Expr) (body orelse:List Stmt) (env:Env) (I:Nat→Led→Prop) (R:a6i) (n:Nat) (r:Option Value) (L₁:Led):Prop:=match r with
 | none=>a0b w D U (execs orelse env) L₁ (fun f L₃=>R (.ok f) L₃)
 | some v=>a0b w D U (assign target env v) L₁ (fun _ L₂=>a0b w D U (execs body env) L₂ (d2k I R n))
theorem a0y.for {target:Expr} {it:Value} {body orelse:List Stmt} {env:Env} {R:a6i} (I:Nat→Led→Prop)
  (turn:∀n L,True→I n L→a0b w D U (pyNext it) L (f5g w D U target body orelse env I R n))
  (n:Nat) {L:Led} (h:I n L) (ht:∀v,letOwnedTupleGo target it v=pure ():=by intro _;rfl):
  a0y w D U (.forLoop target it body orelse env) L R:=by
 intro A s hA S
 refine codeAny_forLoop (R:=Res w L s R) (fun n s'=>∃L',An4 (I n L') (a4s w L' s') (a4j L s s') (a0j L L' s)) (fun n s' ⟨L',hI,S',E',G'⟩=>?_) n ⟨L,h,S,a4j.refl _ _,a0j.refl _ _⟩ ht
 refine wpAny_mono (turn n L' trivial hI A s' _ hA S') (fun r s₁ ⟨L₁,hr,S₁,E₁,G₁⟩=>?_) fun _ _ q=>q
 have e1:=E'.trans G' E₁
 have g1:=G'.trans' E' G₁
 cases r with
 | none=>
  refine wpAny_mono (hr A s₁ _ hA S₁) (fun f s₂ ⟨L₂,h₂,S₂,E₂,G₂⟩=>?_) fun _ _ q=>q
  exact ⟨L₂,h₂,S₂,e1.trans g1 E₂,g1.trans' e1 G₂⟩
 | some v=>
  refine wpAny_mono (hr A s₁ _ hA S₁) (fun _ s₂ ⟨L₂,h₂,S₂,E₂,G₂⟩=>?_) fun _ _ q=>q
  have e2:=e1.trans g1 E₂
  have g2:=g1.trans' e1 G₂
  refine wpAny_mono (h₂ A s₂ _ hA S₂) (fun f s₃ ⟨L₃,h₃,S₃,E₃,G₃⟩=>?_) fun _ _ q=>q
  have e3:=e2.trans g2 E₃
  have g3:=g2.trans' e2 G₃
  cases f with
  | next=>obtain ⟨m,hm,hi⟩:=h₃;exact ⟨m,hm,L₃,hi,S₃,e3,g3⟩
  | cont=>obtain ⟨m,hm,hi⟩:=h₃;exact ⟨m,hm,L₃,hi,S₃,e3,g3⟩
  | brk=>exact ⟨L₃,h₃,S₃,e3,g3⟩
  | ret v=>exact ⟨L₃,h₃,S₃,e3,g3⟩
end
noncomputable abbrev f2E:Expr:=b3c (lpT (a3i (lpB a3v) 2))
noncomputable abbrev a9a (Dd F c7 c4 c5:Addr):Env:=a7r f2E Dd (a1y F []) [(b6t,c7),(b1w,c4),(a4t,c5)]
noncomputable abbrev f2C (Q A Dd F c7 c4 c5:Addr):Code:=.compLoop f2E 0 (.ref Q) (.ref A) (a9a Dd F c7 c4 c5)
noncomputable abbrev f2S (Q A Dd F c7 c4 c5:Addr):Code:=.compStart f2E 0 (.ref Q) (.ref A) (a9a Dd F c7 c4 c5)
theorem d9t:f2E= .DictComp (dcK f2E) (dcV f2E) [⟨dcT f2E,dcI f2E,[],0⟩] (dcS f2E) (dcP f2E):=by first | rfl | kernel_rfl
noncomputable def OoF (P:Params) (o:Obj):Prop:=o=dob P [] 0∨Ey2 fun (t:Nat→Tok) (p:Str)=>o=dob P [(a4h,t 0,.str p (t 1))] 1
theorem c5o {P:Params} {kn:List Kn} {k:Nat} {e:Kn} (h:kn[k]?=some e):d2z P (knR kn) k= .str (nm e.v) e.t:=by
 show a9d ⟨a0k P (knR kn)⟩ (k:Int)=_
 unfold a9d
 rw [Int.toNat_natCast,a1z]
 simp only [knR,List.map_map,List.getElem?_map,h,Option.map_some]
 rfl
section
variable {w:World} {b1 b2:Bool} {D U:Nat} {F Q A Dd c7 c4 c5 LD M HD:Addr}
theorem d5p (hD:D≤600) {kn:List Kn} {em k:Nat} {e:Kn} (he:kn[k]?=some e) {sz:Int} (hsz:sz=(kn.length:Int)):a0b (W w b1 b2) D U (pyNext (.ref Q)) [(Q,b6d M k sz em),(M,dob (W w b1 b2).params (knR kn) em)] (fun r L=>r=some (.str (nm e.v) e.t)∧L=[(Q,b6d M ((k + 1:Nat):Int) sz em),(M,dob (W w b1 b2).params (knR kn) em)]):=by
 have hk:k < kn.length:=(List.getElem?_eq_some_iff.mp he).1
 have hkey:d2z (W w b1 b2).params (knR kn) k= .str (nm e.v) e.t:=c5o he
 have hl:(knR kn).length=kn.length:=by simp [knR]
 refine a0b.runT d6c e4k (y:=a8p (.ref Q)) (by rw [a8j]) hD [1,0,1,1,3] [1,1] (fun _ _=>some (.str (a4e (d2z (W w b1 b2).params (knR kn) k)) (a7e (d2z (W w b1 b2).params (knR kn) k)))) (fun _ _=>[(Q,b6d M ((k + 1:Nat):Int) sz em),(M,dob (W w b1 b2).params (knR kn) em)])
  (fun _ _=>[0≤(k:Int),(k:Int) < ((⟨a0k (W w b1 b2).params (knR kn)⟩:Array DictEntry).size:Int),sz=((⟨a0k (W w b1 b2).params (knR kn)⟩:Array DictEntry).size:Int),(em:Int)=(em:Int),d2z (W w b1 b2).params (knR kn) k= .str (a4e (d2z (W w b1 b2).params (knR kn) k)) (a7e (d2z (W w b1 b2).params (knR kn) k))])
  (fun fr tk=>by kernel_rfl) (fun _ _=>a0d (by exact Int.natCast_nonneg _) (a0d (by rw [a0t,hl];exact Int.ofNat_lt.mpr (by assumption)) (a0d (by rw [a0t,hl];exact hsz) (a0d rfl (a0d (by rw [hkey];rfl) a0e))))) (fun _ _ _=>⟨_,.refl _,by rw [hkey];rfl,rfl⟩)
theorem e0g (hD:D≤600) {kn:List Kn} {em:Nat} {sz:Int} (hsz:sz=(kn.length:Int)):a0b (W w b1 b2) D U (pyNext (.ref Q)) [(Q,b6d M (kn.length:Nat) sz em),(M,dob (W w b1 b2).params (knR kn) em)] (fun r L=>r=none∧L=[(M,dob (W w b1 b2).params (knR kn) em)]):=by
 have hl:(knR kn).length=kn.length:=by simp [knR]
 refine a0b.runT d6c e4k (y:=a8p (.ref Q)) (by rw [a8j]) hD [1,0,1,0,3,4] [0,1] (fun _ _=>none) (fun _ _=>[(M,dob (W w b1 b2).params (knR kn) em)])
  (fun _ _=>[0≤((kn.length:Nat):Int),((⟨a0k (W w b1 b2).params (knR kn)⟩:Array DictEntry).size:Int)≤((kn.length:Nat):Int),sz=((⟨a0k (W w b1 b2).params (knR kn)⟩:Array DictEntry).size:Int),(em:Int)=(em:Int)])
  (fun fr tk=>by kernel_rfl) (fun _ _=>a0d (by exact Int.natCast_nonneg _) (a0d (by rw [a0t,hl];exact Int.le_refl _) (a0d (by rw [a0t,hl];exact hsz) (a0d rfl a0e)))) (fun _ _ _=>⟨_,.refl _,rfl,rfl⟩)
theorem d9i (hD:D≤600) {dc:Obj} (h:OoF (W w b1 b2).params dc) {s:Str} {t:Tok}:a0b (W w b1 b2) D U (assign (dcT f2E) (a9a Dd F c7 c4 c5) (.str s t)) [(Dd,dc)] (fun _ L=>∃t',L=[(Dd,dob (W w b1 b2).params [(a4h,t',.str s t)] 1)]):=by
 rcases h with rfl | ⟨t0,p,rfl⟩
 ·exact a0b.runT a1a e3m (y:=a7l (dcT f2E) (a9a Dd F c7 c4 c5) (.str s t)) (by rw [a6s]) hD [1,0] [1] (fun _ _=>()) (fun _ tk=>[(Dd,dob (W w b1 b2).params [(a4h,Nat.succ (tk 0),.str s t)] 1)]) (fun _ _=>[])
   (fun fr tk=>by kernel_rfl) (fun _ _=>a0e) (fun _ _ _=>⟨_,.refl _,_,rfl⟩)
 ·exact a0b.runT a1a e3m (y:=a7l (dcT f2E) (a9a Dd F c7 c4 c5) (.str s t)) (by rw [a6s]) hD [1,0] [1] (fun _ _=>()) (fun _ tk=>[(Dd,dob (W w b1 b2).params [(a4h,t0 0,.str s t)] 1)]) (fun _ _=>[])
   (fun fr tk=>by kernel_rfl) (fun _ _=>a0e) (fun _ _ _=>⟨_,.refl _,_,rfl⟩)
theorem e1k (hD:D≤600) {s:Str} {t t':Tok}:a0b (W w b1 b2) D U (eval (dcK f2E) (a9a Dd F c7 c4 c5)) [(Dd,dob (W w b1 b2).params [(a4h,t',.str s t)] 1)] (fun v L=>v= .str s t∧L=[(Dd,dob (W w b1 b2).params [(a4h,t',.str s t)] 1)]):=
 a0b.runT a1a b3n (y:=a2r (dcK f2E) (a9a Dd F c7 c4 c5)) (by rw [a1i]) hD [1] [1] (fun _ _=>.str s t) (fun _ _=>[(Dd,dob (W w b1 b2).params [(a4h,t',.str s t)] 1)]) (fun _ _=>[])
  (fun fr tk=>by kernel_rfl) (fun _ _=>a0e) (fun _ _ _=>⟨_,.refl _,rfl,rfl⟩)
noncomputable abbrev e4i (P:Params) (Dd:Addr) (t':Tok) (q:Str) (tq:Tok) (c7:Addr) (s:Str) (ts:Tok) (c4 LD:Addr) (rows:List Row) (lm:Nat) (M:Addr) (kr:List Row) (em:Nat) (c5 HD:Addr) (hr:List Row) (eh:Nat):Led:=
 [(Dd,dob P [(a4h,t',.str q tq)] 1),(c7,a0n (.str s ts)),(c4,a0n (.ref LD)),(LD,dob P rows lm),(M,dob P kr em),(c5,a0n (.ref HD)),(HD,dob P hr eh)]
theorem d8u (hD:D≤600) {t' tq ts:Tok} {q s:Str} {rows kr hr:List Row} {lm em eh:Nat} {x hs hq:Int} {tx t1 t2:Tok} (l1:rows.length≤1000) (l2:kr.length≤1000) (l3:hr.length≤1000)
  (g1:a5p rows s= .ref M) (k1:s∈a1m rows) (g2:a5p kr q= .int x tx) (k2:q∈a1m kr) (g3:a5p hr s= .int hs t1) (k3:s∈a1m hr) (g4:a5p hr q= .int hq t2) (k4:q∈a1m hr):
  a0b (W w b1 b2) D U (eval (dcV f2E) (a9a Dd F c7 c4 c5)) (e4i (W w b1 b2).params Dd t' q tq c7 s ts c4 LD rows lm M kr em c5 HD hr eh)
   (fun v L=>∃t,v= .int (x + hs - hq) t∧L=e4i (W w b1 b2).params Dd t' q tq c7 s ts c4 LD rows lm M kr em c5 HD hr eh):=by
 have w1:=a1f (W w b1 b2).params (l:=rows) (by exact Nat.le_trans l1 (by decide))
 have w2:=a1f (W w b1 b2).params (l:=kr) (by exact Nat.le_trans l2 (by decide))
 have w3:=a1f (W w b1 b2).params (l:=hr) (by exact Nat.le_trans l3 (by decide))
 have a1:a3m ⟨a0k (W w b1 b2).params rows⟩ s:=(a0l _ _ _).mpr k1
 have a2:a3m ⟨a0k (W w b1 b2).params kr⟩ q:=(a0l _ _ _).mpr k2
 have a3:a3m ⟨a0k (W w b1 b2).params hr⟩ s:=(a0l _ _ _).mpr k3
 have a4:a3m ⟨a0k (W w b1 b2).params hr⟩ q:=(a0l _ _ _).mpr k4
 have v1:a5x ⟨a0k (W w b1 b2).params rows⟩ s= .ref M:=by rw [a3b];exact g1
 have v2:a5x ⟨a0k (W w b1 b2).params kr⟩ q= .int x tx:=by rw [a3b];exact g2
 have v3:a5x ⟨a0k (W w b1 b2).params hr⟩ s= .int hs t1:=by rw [a3b];exact g3
 have v4:a5x ⟨a0k (W w b1 b2).params hr⟩ q= .int hq t2:=by rw [a3b];exact g4
 refine a0b.runT a1a b3n (y:=a2r (dcV f2E) (a9a Dd F c7 c4 c5)) (by rw [a1i]) hD [3,2,4,4,4,3,8,1,5,5,5,4,2,6,2,7,7,7,6,2,6,1,7,7,7,6,2] [1,1,1,1,1,1,1]
  (fun _ tk=>.int (a2m (a5x ⟨a0k (W w b1 b2).params kr⟩ q) + a2m (a5x ⟨a0k (W w b1 b2).params hr⟩ s) - a2m (a5x ⟨a0k (W w b1 b2).params hr⟩ q)) (Nat.succ (tk 5))) (fun _ _=>e4i (W w b1 b2).params Dd t' q tq c7 s ts c4 LD rows lm M kr em c5 HD hr eh)
  (fun _ _=>[dWf (W w b1 b2).params ⟨a0k (W w b1 b2).params hr⟩,a3m ⟨a0k (W w b1 b2).params hr⟩ q,a5x ⟨a0k (W w b1 b2).params hr⟩ q= .int (a2m (a5x ⟨a0k (W w b1 b2).params hr⟩ q)) (a7e (a5x ⟨a0k (W w b1 b2).params hr⟩ q)),
   dWf (W w b1 b2).params ⟨a0k (W w b1 b2).params hr⟩,a3m ⟨a0k (W w b1 b2).params hr⟩ s,a5x ⟨a0k (W w b1 b2).params hr⟩ s= .int (a2m (a5x ⟨a0k (W w b1 b2).params hr⟩ s)) (a7e (a5x ⟨a0k (W w b1 b2).params hr⟩ s)),
   dWf (W w b1 b2).params ⟨a0k (W w b1 b2).params kr⟩,a3m ⟨a0k (W w b1 b2).params kr⟩ q,a5x ⟨a0k (W w b1 b2).params kr⟩ q= .int (a2m (a5x ⟨a0k (W w b1 b2).params kr⟩ q)) (a7e (a5x ⟨a0k (W w b1 b2).params kr⟩ q)),
   dWf (W w b1 b2).params ⟨a0k (W w b1 b2).params rows⟩,a3m ⟨a0k (W w b1 b2).params rows⟩ s,a5x ⟨a0k (W w b1 b2).params rows⟩ s= .ref M])
  (fun fr tk=>by kernel_rfl) (fun _ _=>a0d w3 (a0d a4 (a0d (by rw [v4];rfl) (a0d w3 (a0d a3 (a0d (by rw [v3];rfl) (a0d w2 (a0d a2 (a0d (by rw [v2];rfl) (a0d w1 (a0d a1 (a0d v1 a0e)))))))))))) (fun _ _ _=>⟨_,.refl _,_,by rw [v2,v3,v4];rfl,rfl⟩)
theorem c3i:∀{kn:List Kn},(∀e∈kn,e.v < 5)→(kn.map (·.v)).Nodup→∀{e:Kn},e∈kn→a5p (knR kn) (nm e.v)= .int e.x e.tx
 | [],_,_,e,he=>nomatch he
 | a::kn,hl,hnd,e,he=>by
  rw [List.map_cons] at hnd
  rw [List.nodup_cons] at hnd
  unfold knR
  rw [List.map_cons]
  unfold a5p
  rcases List.mem_cons.mp he with rfl | he
  ·rw [if_pos rfl]
  ·rw [if_neg (fun z=>hnd.1 (List.mem_map.mpr ⟨e,he,(a2u (hl a (.head _)) (hl e (.tail _ he)) z).symm⟩))]
   exact c3i (fun x hx=>hl x (.tail _ hx)) hnd.2 he
noncomputable abbrev F2I (w:World) (b1 b2:Bool) (Q A Dd c7 c4 c5 LD HD:Addr) (zs:List Lz) (z:Lz) (hf:Nat→Int) (hs:List Ht) (t0 t1:Tok) (s:Nat) (ts:Tok) (lm eh:Nat) (sz:Int) (n:Nat) (L:Led):Prop:=Ey4 fun k dc kk m=>An4 (n + k=z.kn.length) (OoF (W w b1 b2).params dc) (kk.map Kn.p=(z.kn.take k).map (fun e=>(e.v,e.x + hf s - hf e.v))) (L=[(Q,b6d z.M (k:Nat) sz z.em),(Dd,dc),(A,dob (W w b1 b2).params (knR kk) m),(c7,a0n (.str (nm s) ts)),(c4,a0n (.ref LD)),(LD,dob (W w b1 b2).params (zs.map Lz.row) lm),(c5,a0n (.ref HD)),(HD,dob (W w b1 b2).params (htR t0 t1 hs) eh)]++lzL (W w b1 b2).params zs)
noncomputable abbrev F2R (w:World) (b1 b2:Bool) (A Dd c7 c4 c5 LD HD:Addr) (zs:List Lz) (z:Lz) (hf:Nat→Int) (hs:List Ht) (t0 t1:Tok) (s:Nat) (ts:Tok) (lm eh:Nat):a6i:=fun r L=>r= .ok .next∧Ey3 fun dc kk m=>An3 (OoF (W w b1 b2).params dc) (kk.map Kn.p=z.kn.map (fun e=>(e.v,e.x + hf s - hf e.v))) (L=[(Dd,dc),(A,dob (W w b1 b2).params (knR kk) m),(c7,a0n (.str (nm s) ts)),(c4,a0n (.ref LD)),(LD,dob (W w b1 b2).params (zs.map Lz.row) lm),(c5,a0n (.ref HD)),(HD,dob (W w b1 b2).params (htR t0 t1 hs) eh)]++lzL (W w b1 b2).params zs)
theorem d3o (hD:D≤560) {zs:List Lz} (hz:b8o zs) {hf:Nat→Int} {hs:List Ht} {t0 t1:Tok} (hh:a9z hf hs) (hh5:∀u,u < 5→u∈hs.map (·.v)) {s:Nat} (hs5:s < 5) {z:Lz} (hzs:zs[s]?=some z) (hnd:(z.kn.map (·.v)).Nodup) {ts:Tok} {lm eh:Nat} {sz:Int} (hsz:sz=(z.kn.length:Int)):
  a0y (W w b1 b2) D U (f2C Q A Dd F c7 c4 c5) ([(Q,b6d z.M 0 sz z.em),(Dd,dob (W w b1 b2).params [] 0),(A,dob (W w b1 b2).params [] 0),(c7,a0n (.str (nm s) ts)),(c4,a0n (.ref LD)),(LD,dob (W w b1 b2).params (zs.map Lz.row) lm),(c5,a0n (.ref HD)),(HD,dob (W w b1 b2).params (htR t0 t1 hs) eh)]++lzL (W w b1 b2).params zs)
   (F2R w b1 b2 A Dd c7 c4 c5 LD HD zs z hf hs t0 t1 s ts lm eh):=by
 have hcode:f2C Q A Dd F c7 c4 c5= .compLoop (.DictComp (dcK f2E) (dcV f2E) [⟨dcT f2E,dcI f2E,[],0⟩] (dcS f2E) (dcP f2E)) 0 (.ref Q) (.ref A) (a9a Dd F c7 c4 c5):=by
  show Code.compLoop f2E 0 (.ref Q) (.ref A) (a9a Dd F c7 c4 c5)=_
  rw [←d9t]
 have hzm:=List.mem_of_getElem? hzs
 have hkn:=hz.kn z hzm
 have hget:=hz.get hzs
 have hzv:z.v=s:=by
  obtain ⟨z',h1,h2⟩:=hz.at hs5
  rw [hzs] at h1;injection h1 with h1;rw [h1];exact h2
 rw [hzv] at hget
 have hZ:=b2b (P:=(W w b1 b2).params) hzs
 have hzl:zs.length=5:=by have:=congrArg List.length hz.vs;simpa using this
 have hkl:=hz.len z hzm
 have hhl:=hh.len
 have ht:∀u,u < 5→∃t,a5p (htR t0 t1 hs) (nm u)= .int (hf u) t∧nm u∈a1m (htR t0 t1 hs):=fun u hu=>by
  obtain ⟨e,he,hev⟩:=List.mem_map.mp (hh5 u hu)
  exact ⟨e.th,by rw [←hev,b1d hh he,hh.h e he],a7m.mpr (.inr ⟨e,he,by rw [←hev]⟩)⟩
 rw [hcode]
 refine a0y.dcomp (fun n L=>F2I w b1 b2 Q A Dd c7 c4 c5 LD HD zs z hf hs t0 t1 s ts lm eh sz n L) (fun n L ok hI=>?_) z.kn.length ⟨0,_,[],0,by simp +arith,.inl rfl,rfl,rfl⟩
 obtain ⟨k,dc,kk,m,hn,hdc,hkk,rfl⟩:=hI
 by_cases hk:k=z.kn.length
 ·subst hk
  refine (e0g (M:=z.M) (kn:=z.kn) (em:=z.em) (by exact lb0 hD rfl) hsz).use (F:=[(Dd,dc),(A,dob (W w b1 b2).params (knR kk) m),(c7,a0n (.str (nm s) ts)),(c4,a0n (.ref LD)),(LD,dob (W w b1 b2).params (zs.map Lz.row) lm),(c5,a0n (.ref HD)),(HD,dob (W w b1 b2).params (htR t0 t1 hs) eh)]++lzL (W w b1 b2).params (zs.eraseIdx s)) (a0h fun q=>?_) fun r L₁ _ hr=>?_
  ·have a2:=a1s hZ q
   exact lqh [[_],[_],[_],[_],[_],[_],[_],[_],_,[_],_] [2,3,4,5,6,7,8,9,0,0,0,0,0,0,0,10,0] [2,11,0,3,4,5,6,7,8,9,0,0,0,0,0,0,12,0,0] [10] [11,12,0] a2 rfl
  ·obtain ⟨rfl,rfl⟩:=hr
   refine ⟨_,a0c fun q=>?_,rfl,dc,kk,m,hdc,by rw [hkk,List.take_length],rfl⟩
   have a2:=a1s hZ q
   exact luh [[_],[_],[_],[_],[_],[_],[_],_,[_],_] [2,3,4,5,6,7,8,0,0,0,0,0,0,9,0] [10,2,3,4,5,6,7,8,0,0,0,0,0,0,11,0,0] [9] [10,11,0] a2 rfl
 ·obtain ⟨e,he⟩:∃e,z.kn[k]?=some e:=⟨_,List.getElem?_eq_getElem (by exact d3w (by assumption) (by assumption))⟩
  have hem:=List.mem_of_getElem? he
  have hev:=hkn e hem
  obtain ⟨ta,g3,k3⟩:=ht s hs5
  obtain ⟨tb,g4,k4⟩:=ht e.v hev
  refine (d5p (M:=z.M) (kn:=z.kn) (em:=z.em) (k:=k) (e:=e) (by exact lb0 hD rfl) he hsz).use (F:=[(Dd,dc),(A,dob (W w b1 b2).params (knR kk) m),(c7,a0n (.str (nm s) ts)),(c4,a0n (.ref LD)),(LD,dob (W w b1 b2).params (zs.map Lz.row) lm),(c5,a0n (.ref HD)),(HD,dob (W w b1 b2).params (htR t0 t1 hs) eh)]++lzL (W w b1 b2).params (zs.eraseIdx s)) (a0h fun q=>?_) fun r L₁ _ hr=>?_
  ·have a2:=a1s hZ q
   exact lqh [[_],[_],[_],[_],[_],[_],[_],[_],_,[_],_] [2,3,4,5,6,7,8,9,0,0,0,0,0,0,0,10,0] [2,11,0,3,4,5,6,7,8,9,0,0,0,0,0,0,12,0,0] [10] [11,12,0] a2 rfl
  obtain ⟨rfl,rfl⟩:=hr
  refine ⟨_,.refl _,?_⟩
  refine (d9i (Dd:=Dd) (c7:=c7) (c4:=c4) (c5:=c5) (by exact lb0 hD rfl) hdc (s:=nm e.v) (t:=e.t)).use (F:=[(Q,b6d z.M ((k + 1:Nat):Int) sz z.em),(z.M,dob (W w b1 b2).params (knR z.kn) z.em),(A,dob (W w b1 b2).params (knR kk) m),(c7,a0n (.str (nm s) ts)),(c4,a0n (.ref LD)),(LD,dob (W w b1 b2).params (zs.map Lz.row) lm),(c5,a0n (.ref HD)),(HD,dob (W w b1 b2).params (htR t0 t1 hs) eh)]++lzL (W w b1 b2).params (zs.eraseIdx s)) (by exact lpp [[_],[_],[_],[_],[_],[_],[_],[_],[_],_] [2,3,0,4,5,6,7,8,9,10,0,0,0,0,0,0,11,0,0] [4,2,3,5,6,7,8,9,10,0,0,0,0,0,0,0,11,0,0] rfl) fun _ L₁ _ hr=>?_
  obtain ⟨t',rfl⟩:=hr
  refine ⟨_,.refl _,?_⟩
  refine (e1k (Dd:=Dd) (c7:=c7) (c4:=c4) (c5:=c5) (by exact lb0 hD rfl) (s:=nm e.v) (t:=e.t) (t':=t')).use (.refl _) fun kv L₁ _ hr=>?_
  obtain ⟨rfl,rfl⟩:=hr
  refine ⟨_,.refl _,?_⟩
  refine (d8u (Dd:=Dd) (c7:=c7) (c4:=c4) (c5:=c5) (LD:=LD) (M:=z.M) (HD:=HD) (by exact lb0 hD rfl) (t':=t') (tq:=e.t) (ts:=ts) (q:=nm e.v) (s:=nm s) (rows:=zs.map Lz.row) (kr:=knR z.kn) (hr:=htR t0 t1 hs) (lm:=lm) (em:=z.em) (eh:=eh) (by rw [List.length_map];exact Nat.le_trans (Nat.le_of_eq hzl) (by decide)) (by simp [knR];exact Nat.le_trans hkl (by decide)) (by simp [htR];exact Nat.le_trans hhl (by decide)) hget.1 hget.2 (c3i hkn hnd hem) ((a3e hkn hev).mpr (List.mem_map_of_mem hem)) g3 k3 g4 k4).use (F:=[(Q,b6d z.M ((k + 1:Nat):Int) sz z.em),(A,dob (W w b1 b2).params (knR kk) m)]++lzL (W w b1 b2).params (zs.eraseIdx s)) (by exact lpp [[_],[_],[_],[_],[_],[_],[_],[_],[_],_] [2,3,4,5,6,7,8,9,10,0,0,0,0,0,0,0,11,0,0] [2,6,7,8,4,9,10,0,0,0,0,0,0,3,5,0,11,0,0] rfl) fun vv L₁ _ hr=>?_
  obtain ⟨tv,rfl,rfl⟩:=hr
  refine ⟨_,.refl _,?_⟩
  have hkl2:kk.length=k:=by
   have:=congrArg List.length hkk
   simp only [List.length_map,List.length_take] at this
   omega
  have hkv:kk.map (·.v)=(z.kn.take k).map (·.v):=by
   have:=congrArg (List.map Prod.fst) hkk
   rw [List.map_map,List.map_map] at this
   exact this
  have hk5:∀x∈kk,x.v < 5:=fun x hx=>by
   have:x.v∈(z.kn.take k).map (·.v):=by rw [←hkv];exact List.mem_map_of_mem hx
   obtain ⟨y,hy,hyv⟩:=List.mem_map.mp this
   rw [←hyv];exact hkn y (List.mem_of_mem_take hy)
  have hdk:z.kn.drop k=e::z.kn.drop (k + 1):=by
   obtain ⟨hk',rfl⟩:=List.getElem?_eq_some_iff.mp he
   exact List.drop_eq_getElem_cons hk'
  have hnot:nm e.v∉a1m (knR kk):=fun hm=>by
   have h1:=(a3e hk5 hev).mp hm
   rw [hkv] at h1
   have h2:=hnd
   rw [←List.take_append_drop k z.kn,List.map_append,hdk,List.map_cons,List.nodup_append] at h2
   exact h2.2.2 _ h1 _ (.head _) rfl
  refine (b3i (w:=W w b1 b2) (a:=A) (rows:=knR kk) (n:=m) (k:=nm e.v) (t:=e.t) (v:=.int (e.x + hf s - hf e.v) tv) (by simp [knR];exact Nat.le_trans (Nat.le_of_eq hkl2) (Nat.le_trans (a5s hn) (Nat.le_trans hkl (by decide)))) hnot).use (F:=e4i (W w b1 b2).params Dd t' (nm e.v) e.t c7 (nm s) ts c4 LD (zs.map Lz.row) lm z.M (knR z.kn) z.em c5 HD (htR t0 t1 hs) eh++[(Q,b6d z.M ((k + 1:Nat):Int) sz z.em)]++lzL (W w b1 b2).params (zs.eraseIdx s)) (by exact lpp [_,[_],[_],_] [2,3,4,0,5,0,0] [4,2,3,0,5,0,0] rfl) fun _ L₁ _ hr=>?_
  subst hr
  refine ⟨_,a0c fun q=>?_,n - 1,by exact c3u (by assumption) (by assumption),k + 1,_,kk++[⟨e.v,e.t,e.x + hf s - hf e.v,tv⟩],m + 1,by exact d0z (by assumption) (by assumption),.inr ⟨fun i=>match i with | 0=>t' | _=>e.t,nm e.v,rfl⟩,?_,rfl⟩
  ·have e1:knR (kk++[(⟨e.v,e.t,e.x + hf s - hf e.v,tv⟩:Kn)])=knR kk++[(nm e.v,e.t,.int (e.x + hf s - hf e.v) tv)]:=by simp [knR]
   have a2:=a1s hZ q
   rw [e1]
   exact luh [[_],[_],[_],[_],[_],[_],[_],[_],_,[],[_],_] [2,3,4,5,6,7,8,9,0,0,0,0,0,0,0,10,0] [4,3,5,6,7,12,8,9,0,0,0,0,0,0,2,0,13,0,0] [10] [12,13,0] a2 rfl
  ·rw [List.map_append,hkk,List.take_add_one,he,List.map_append]
   rfl
end
theorem c9b {E E2:Nat→List (Nat×Int)} {s:Nat} (hs:s < 5) (hE:∀u,u < 5→∀q,q∈E u→q∈E2 u) (ht:∀u,u < 5→∀q∈E u,q.1 < 5) {v:Nat} {x:Int} (h:Way E s v x):v < 5∧Way E2 s v x:=by
 induction h with
 | nil=>exact ⟨hs,.nil⟩
 | @step u v y c _ hq ih=>exact ⟨ht u ih.1 _ hq,.step ih.2 (hE u ih.1 _ hq)⟩
theorem b8e {E E2:Nat→List (Nat×Int)} {h:Nat→Int} {s:Nat} {kn kn':List (Nat×Int)} {ts:List Int} (hs:s < 5) (hE:∀u,u < 5→∀q,q∈E u↔q∈E2 u) (ht:∀u,u < 5→∀q∈E u,q.1 < 5)
  (dj:DJ E h s [] kn' ts) (df:DF E2 s [] kn):kn'.length=kn.length∧∀v x,(v,x)∈kn'→(v,x - h s + h v)∈kn:=by
 have ht2:∀u,u < 5→∀q∈E2 u,q.1 < 5:=fun u hu q hq=>ht u hu q ((hE u hu q).mpr hq)
 have to:∀{v x},Way E s v x→Way E2 s v x:=fun hw=>(c9b hs (fun u hu q hq=>(hE u hu q).mp hq) ht hw).2
 have back:∀{v x},Way E2 s v x→Way E s v x:=fun hw=>(c9b hs (fun u hu q hq=>(hE u hu q).mpr hq) ht2 hw).2
 have inj:∀{l:List (Nat×Int)},(l.map (·.1)).Nodup→∀{v x y},(v,x)∈l→(v,y)∈l→x=y:=by
  intro l
  induction l with
  | nil=>intro _ v x y h;exact nomatch h
  | cons a l ih=>
   intro hn v x y h1 h2
   rw [List.map_cons,List.nodup_cons] at hn
   rcases List.mem_cons.mp h1 with e1 | h1 <;> rcases List.mem_cons.mp h2 with e2 | h2
   ·rw [←e2] at e1;injection e1
   ·exact absurd (List.mem_map.mpr ⟨_,h2,by rw [←e1]⟩) hn.1
   ·exact absurd (List.mem_map.mpr ⟨_,h1,by rw [←e2]⟩) hn.1
   ·exact ih hn.2 h1 h2
 have fwd:∀v x,(v,x)∈kn'→(v,x - h s + h v)∈kn:=fun v x hm=>by
  obtain ⟨_,_,y,hw,rfl⟩:=dj.known v x hm
  obtain ⟨x2,h2,hle⟩:=df.end v y (to hw)
  obtain ⟨x3,h3,hle3⟩:=dj.end v x2 (back (df.least v x2 h2).2)
  have:=inj dj.nd hm h3
  have e:x2=y:=by omega
  have e2:y + h s - h v - h s + h v=x2:=by omega
  rw [e2];exact h2
 refine ⟨?_,fwd⟩
 have a1:(kn'.map (·.1)).length≤(kn.map (·.1)).length:=List.Nodup.length_le_of_subset dj.nd fun v hv=>by
  obtain ⟨⟨v',x⟩,hm,rfl⟩:=List.mem_map.mp hv
  exact List.mem_map.mpr ⟨_,fwd v' x hm,rfl⟩
 have a2:(kn.map (·.1)).length≤(kn'.map (·.1)).length:=List.Nodup.length_le_of_subset df.nd fun v hv=>by
  obtain ⟨⟨v',x⟩,hm,rfl⟩:=List.mem_map.mp hv
  obtain ⟨x3,h3,_⟩:=dj.end v' x (back (df.least v' x hm).2)
  exact List.mem_map.mpr ⟨_,h3,rfl⟩
 simp only [List.length_map] at a1 a2
 exact Nat.le_antisymm a1 a2
theorem e1w {t0 t1:Tok} {hs:List Ht} {hf:Nat→Int} (hh:a9z hf hs) (hh5:∀u,u < 5→u∈hs.map (·.v)):isH (htR t0 t1 hs) hf:=by
 refine ⟨by have:=hh.len;simp [htR];exact Nat.le_trans this (by decide),fun v hv=>?_⟩
 obtain ⟨e,he,hev⟩:=List.mem_map.mp (hh5 v hv)
 exact ⟨a7m.mpr (.inr ⟨e,he,by rw [←hev]⟩),e.th,by rw [←hev,b1d hh he,hh.h e he]⟩
noncomputable def TSo:Tab:=d6c.add "sorted" (fun _=>a8r) fun w=>a3s
noncomputable abbrev e4d (t:Nat→Tok) (S O T A I:Addr):List Row:=d5y t S O T A++[(c9v,t 4,.ref I)]
noncomputable abbrev a9v (t:Nat→Tok) (S O T A I X Y:Addr):List Row:=e4d t S O T A I++[(c9f,t 5,.ref X),(c1g,t 6,.ref Y)]
noncomputable def LwF (P:Params) (S O T A I:Addr) (fo:Obj):Prop:=(Ey2 fun t sl=>fo=a1k P (e4d t S O T A I) 5 sl)∨Ey4 fun t sl X Y=>fo=a1k P (a9v t S O T A I X Y) 7 sl
noncomputable abbrev b0y:Stmt:=a3i (lpB a3v) 1
noncomputable abbrev a9w:Stmt:=a3i (lpB a3v) 2
section
variable {w:World} {b1 b2:Bool} {D U:Nat} {F Q N O S T A I HD LD K X Y:Addr} {c:Nat→Addr}
theorem e0b (hD:D≤600) {ov:Option Value} {s:Str} {t:Tok}:a0b (W w b1 b2) D U (assign (e3r a3v) (a1y F (a8k c)) (.str s t)) [(c 7,c8x ov)] (fun _ L=>L=[(c 7,a0n (.str s t))]):=
 a0b.runT a1a e3m (y:=a7l (e3r a3v) (a1y F (a8k c)) (.str s t)) (by rw [a6s]) hD [1,0] [1] (fun _ _=>()) (fun _ tk=>[(c 7,a0n (.str s t))]) (fun _ _=>[])
  (fun fr tk=>by kernel_rfl) (fun _ _=>a0e) (fun _ _ _=>⟨_,.refl _,rfl⟩)
theorem d4d (hD:D≤600) {t:Nat→Tok} {sl:Array (Option Value)}:a0b (W w b1 b2) D U (eval (b6u (lpT b0y)) (a1y F (a8k c))) [(F,a1k (W w b1 b2).params (a9v t S O T A I X Y) 7 sl)] (fun v L=>v= .ref X∧L=[(F,a1k (W w b1 b2).params (a9v t S O T A I X Y) 7 sl)]):=
 a0b.runT a1a b3n (y:=a2r (b6u (lpT b0y)) (a1y F (a8k c))) (by rw [a1i]) hD [1] [1] (fun _ _=>.ref X) (fun _ _=>[(F,a1k (W w b1 b2).params (a9v t S O T A I X Y) 7 sl)]) (fun _ _=>[])
  (fun fr tk=>by kernel_rfl) (fun _ _=>a0e) (fun _ _ _=>⟨_,.refl _,rfl,rfl⟩)
theorem c5i (hD:D≤600) {t:Nat→Tok} {sl:Array (Option Value)}:a0b (W w b1 b2) D U (eval (b6u (lpT a9w)) (a1y F (a8k c))) [(F,a1k (W w b1 b2).params (a9v t S O T A I X Y) 7 sl)] (fun v L=>v= .ref Y∧L=[(F,a1k (W w b1 b2).params (a9v t S O T A I X Y) 7 sl)]):=
 a0b.runT a1a b3n (y:=a2r (b6u (lpT a9w)) (a1y F (a8k c))) (by rw [a1i]) hD [1] [1] (fun _ _=>.ref Y) (fun _ _=>[(F,a1k (W w b1 b2).params (a9v t S O T A I X Y) 7 sl)]) (fun _ _=>[])
  (fun fr tk=>by kernel_rfl) (fun _ _=>a0e) (fun _ _ _=>⟨_,.refl _,rfl,rfl⟩)
theorem c0a (hD:D≤590) {t:Nat→Tok} {sl:Array (Option Value)} {ts:List (Int×Tok)} {et:Nat} (hl:ts.length < 64) (hs:(ts.map (·.1)).Pairwise (· ≤ ·)):a0b (W w b1 b2) D U (eval (b3c (lpT b0y)) (a1y F (a8k c))) [(F,a1k (W w b1 b2).params (a9v t S O T A I X Y) 7 sl),(X,a0a (a0w ts) et)]
  (fun v L=>Ey3 fun X' ts' et'=>An3 (v= .ref X') (ts'.map (·.1)=ts.map (·.1)) (L=[(F,a1k (W w b1 b2).params (a9v t S O T A I X Y) 7 sl),(X,a0a (a0w ts) et),(X',a0a (a0w ts') et')])):=by
 refine a0b.runs b3n (y:=a2r (b3c (lpT b0y)) (a1y F (a8k c))) (by rw [a1i]) ?_
 refine a0x.execCallT TSo (L:=[(F,a1k (W w b1 b2).params (a9v t S O T A I X Y) 7 sl)]) (F:=[(X,a0a (a0w ts) et)])
  (fun _ _ r L=>Ey3 fun X' ts' et'=>An3 (r= .ok (.ret (.ref X'))) (ts'.map (·.1)=ts.map (·.1)) (L=[(F,a1k (W w b1 b2).params (a9v t S O T A I X Y) 7 sl),(X,a0a (a0w ts) et),(X',a0a (a0w ts') et')]))
  (.refl _) (by exact lb0 hD rfl) a3u [0,0,1] [1] (fun _ _=>[(F,a1k (W w b1 b2).params (a9v t S O T A I X Y) 7 sl)]) (fun _ _=>[]) (d:=1) (k:=0) (fun _ _=>.call (.builtin "sorted") ⟨[.ref X],[]⟩) (fun fr tk=>by kernel_rfl) (fun _ _=>a0e) (fun fr tk ok=>?_) (fun fr tk o1 ho1 r L₁ ok hr' hf=>?_)
 ·refine (b5v (w:=W w b1 b2) (D:=D + 1) (U:=U + 10 * (0 + 1)) (T:=X) (et:=et) hl hs).use (F:=[(F,a1k (W w b1 b2).params (a9v t S O T A I X Y) 7 sl)]) (by exact lpp [[_],[_]] [2,3,0] [3,2,0] rfl) fun r L₁ _ hr=>?_
  obtain ⟨X',ts',et',rfl,h1,rfl⟩:=hr
  exact ⟨_,by exact ltt [[_],[_],[_]] [2,3,4,0,0] [3,4,0,2,0] rfl,X',ts',et',rfl,h1,rfl⟩
 ·obtain ⟨X',ts',et',rfl,h1,rfl⟩:=hr'
  refine a0x.execEndT a1a (L:=[]) (F:=[(F,a1k (W w b1 b2).params (a9v t S O T A I X Y) 7 sl),(X,a0a (a0w ts) et),(X',a0a (a0w ts') et')]) (.refl _) (by exact lb0 hD rfl) hf [] [] (fun _ _=>.ok (.ret (.ref X'))) (fun _ _=>[]) (fun _ _=>[]) (fun fr2 tk2=>by exact sbo ho1 (by kernel_rfl)) (fun _ _=>a0e) (fun fr2 tk2 ok=>?_)
  exact ⟨_,.refl _,.ref X',rfl,X',ts',et',rfl,h1,rfl⟩
noncomputable abbrev f0j:List Nat:=[2,2,2,2,3,3,3,3,3,2,3,2,3,3,3,3,2,3,2,3,3,3,3,2,3,2,5,1,0,1,0]
noncomputable abbrev d8n (w:World) (fr:Nat→Addr) (tk:Nat→Tok) (F:Addr) (fo:Obj) (c:Nat→Addr) (s:Str) (ts:Tok) (HD:Addr):Out:=xr a1a w fr tk [0,2,1,3,0] a2k [] (tr e7q (a2q ((lpB a3v).take 1) (a1y F (a8k c)))) [(F,fo),(c 7,a0n (.str s ts)),(c 5,a0n (.ref HD))]
theorem b8g {P:Params} (hP:P=(W w b1 b2).params) {fo:Obj} (h:LwF P S O T A I fo) {s:Str} {ts:Tok}:
  (∀fr tk,vcP [1,1,1] (d8n (W w b1 b2) fr tk F fo c s ts HD)=wc (d8n (W w b1 b2) fr tk F fo c s ts HD) (.call (.ref 240) ⟨[.str s ts,.ref I,.ref HD],[]⟩) 1 0 [(F,fo),(c 7,a0n (.str s ts)),(c 5,a0n (.ref HD))] [])∧
  Ey2 fun (t':(Nat→Tok)→Nat→Tok) (sl:Array (Option Value))=>∀R X Y fr tk fr2 tk2,(fun o:Out=>vwP [1] o=wt o (.ok .next) [(F,a1k P (a9v (t' tk2) S O T A I X Y) 7 sl)] []) (xr a1a (W w b1 b2) fr2 tk2 f0j (d8n (W w b1 b2) fr tk F fo c s ts HD).c (d8n (W w b1 b2) fr tk F fo c s ts HD).fs (cont (d8n (W w b1 b2) fr tk F fo c s ts HD).t (.ok (.ret (.ref R)))) [(F,fo),(R,tob [.ref X,.ref Y])]):=by
 subst hP
 rcases h with ⟨t,sl,rfl⟩ | ⟨t,sl,X0,Y0,rfl⟩
 ·refine ⟨fun fr tk=>by kernel_rfl,fun tk=>a0q (a0q t 5 (Nat.succ (tk 0))) 6 (Nat.succ (tk 1)),sl,fun R X Y fr tk fr2 tk2=>?_⟩
  exact bcs b1 (by kernel_rfl) (by kernel_rfl)
 ·refine ⟨fun fr tk=>by kernel_rfl,fun _=>t,sl,fun R X Y fr tk fr2 tk2=>?_⟩
  exact bcs b1 (by kernel_rfl) (by kernel_rfl)
end
noncomputable def f1e (b:Bool):List Nat:=match b with
 | false=>[1]
 | true=>[1,1,0]
section
variable {w:World} {b1 b2:Bool} {D U:Nat} {F Q N O S T A I HD LD K X Y:Addr} {c:Nat→Addr}
noncomputable abbrev e3f (w:World) (fr:Nat→Addr) (tk:Nat→Tok) (F:Addr) (c:Nat→Addr) (s:Str) (ts:Tok) (LD:Addr) (rows:List Row) (lm:Nat) (M:Addr) (kr:List Row) (em:Nat):Out:=xr d6c w fr tk [2,1,3,3,3,2,7,4,4,3,5] a2k [] (tr e5h (a2r (b3c (lpT a9w)) (a1y F (a8k c)))) [(c 7,a0n (.str s ts)),(c 4,a0n (.ref LD)),(LD,dob w.params rows lm),(M,dob w.params kr em)]
theorem e9w {s:Str} {ts:Tok} {rows kr:List Row} {lm em:Nat} {M:Addr}:∀fr tk,vcP [1,1,1,1,1,1,1] (e3f (W w b1 b2) fr tk F c s ts LD rows lm M kr em)=wc (e3f (W w b1 b2) fr tk F c s ts LD rows lm M kr em) (f2S (fr 0) (fr 1) (fr 2) F (c 7) (c 4) (c 5)) 1 0
  [(c 7,a0n (.str s ts)),(c 4,a0n (.ref LD)),(LD,dob (W w b1 b2).params rows lm),(M,dob (W w b1 b2).params kr em),(fr 0,b6d M 0 ((⟨a0k (W w b1 b2).params kr⟩:Array DictEntry).size:Int) em),(fr 1,dob (W w b1 b2).params [] 0),(fr 2,dob (W w b1 b2).params [] 0)]
  [dWf (W w b1 b2).params ⟨a0k (W w b1 b2).params rows⟩,a3m ⟨a0k (W w b1 b2).params rows⟩ s,a5x ⟨a0k (W w b1 b2).params rows⟩ s= .ref M]:=fun fr tk=>by
 exact bcs b1 (by kernel_rfl) (by kernel_rfl)
theorem e5w {P:Params} (hP:P=(W w b1 b2).params) {s:Str} {ts:Tok} {rows kr:List Row} {lm em:Nat} {M:Addr} {fr:Nat→Addr} {tk:Nat→Tok} {dc:Obj} (h:OoF P dc):∃b,∀fr2 tk2,(fun o:Out=>vwP [] o=wt o (.ok (.ret (.ref (fr 1)))) [] []) (xr a1a (W w b1 b2) fr2 tk2 (f1e b) (e3f (W w b1 b2) fr tk F c s ts LD rows lm M kr em).c (e3f (W w b1 b2) fr tk F c s ts LD rows lm M kr em).fs (cont (e3f (W w b1 b2) fr tk F c s ts LD rows lm M kr em).t (.ok .next)) [(fr 2,dc)]):=by
 subst hP
 rcases h with rfl | ⟨t,p,rfl⟩
 ·exact ⟨false,fun fr2 tk2=>by exact bcs b1 (by kernel_rfl) (by kernel_rfl)⟩
 ·exact ⟨true,fun fr2 tk2=>by exact bcs b1 (by kernel_rfl) (by kernel_rfl)⟩
theorem d3d (hD:D≤540) {zs:List Lz} (hz:b8o zs) {hf:Nat→Int} {hs:List Ht} {t0 t1:Tok} (hh:a9z hf hs) (hh5:∀u,u < 5→u∈hs.map (·.v)) {s:Nat} (hs5:s < 5) {z:Lz} (hzs:zs[s]?=some z) (hnd:(z.kn.map (·.v)).Nodup) {ts:Tok} {lm eh:Nat}:
  a0b (W w b1 b2) D U (eval (b3c (lpT a9w)) (a1y F (a8k c))) ([(c 7,a0n (.str (nm s) ts)),(c 4,a0n (.ref LD)),(LD,dob (W w b1 b2).params (zs.map Lz.row) lm),(c 5,a0n (.ref HD)),(HD,dob (W w b1 b2).params (htR t0 t1 hs) eh)]++lzL (W w b1 b2).params zs)
   (fun v L=>Ey3 fun R kk m=>An3 (v= .ref R) (kk.map Kn.p=z.kn.map (fun e=>(e.v,e.x + hf s - hf e.v))) (L=[(R,dob (W w b1 b2).params (knR kk) m),(c 7,a0n (.str (nm s) ts)),(c 4,a0n (.ref LD)),(LD,dob (W w b1 b2).params (zs.map Lz.row) lm),(c 5,a0n (.ref HD)),(HD,dob (W w b1 b2).params (htR t0 t1 hs) eh)]++lzL (W w b1 b2).params zs)):=by
 have hget:=hz.get hzs
 have hzv:z.v=s:=by
  obtain ⟨z',h1,h2⟩:=hz.at hs5
  rw [hzs] at h1;injection h1 with h1;rw [h1];exact h2
 rw [hzv] at hget
 have hZ:=b2b (P:=(W w b1 b2).params) hzs
 have hzl:zs.length=5:=by have:=congrArg List.length hz.vs;simpa using this
 have hkl:(knR z.kn).length=z.kn.length:=by simp [knR]
 have w1:=a1f (W w b1 b2).params (l:=zs.map Lz.row) (by rw [List.length_map];exact Nat.le_trans (Nat.le_of_eq hzl) (by decide))
 have a1:a3m ⟨a0k (W w b1 b2).params (zs.map Lz.row)⟩ (nm s):=(a0l _ _ _).mpr hget.2
 have v1:a5x ⟨a0k (W w b1 b2).params (zs.map Lz.row)⟩ (nm s)= .ref z.M:=by rw [a3b];exact hget.1
 refine a0b.runs b3n (y:=a2r (b3c (lpT a9w)) (a1y F (a8k c))) (by rw [a1i]) ?_
 refine a0x.execCallT d6c (L:=[(c 7,a0n (.str (nm s) ts)),(c 4,a0n (.ref LD)),(LD,dob (W w b1 b2).params (zs.map Lz.row) lm),(z.M,dob (W w b1 b2).params (knR z.kn) z.em)]) (F:=[(c 5,a0n (.ref HD)),(HD,dob (W w b1 b2).params (htR t0 t1 hs) eh)]++lzL (W w b1 b2).params (zs.eraseIdx s))
  (fun fr _ r L=>r= .ok .next∧Ey3 fun dc kk m=>An3 (OoF (W w b1 b2).params dc) (kk.map Kn.p=z.kn.map (fun e=>(e.v,e.x + hf s - hf e.v))) (L=[(fr 2,dc)]++([(fr 1,dob (W w b1 b2).params (knR kk) m),(c 7,a0n (.str (nm s) ts)),(c 4,a0n (.ref LD)),(LD,dob (W w b1 b2).params (zs.map Lz.row) lm),(c 5,a0n (.ref HD)),(HD,dob (W w b1 b2).params (htR t0 t1 hs) eh)]++lzL (W w b1 b2).params zs)))
  (a0h fun q=>?_) (by exact lb0 hD rfl) a3u [2,1,3,3,3,2,7,4,4,3,5] [1,1,1,1,1,1,1] _ _ (fun fr _=>f2S (fr 0) (fr 1) (fr 2) F (c 7) (c 4) (c 5)) e9w (fun _ _=>a0d w1 (a0d a1 (a0d v1 a0e))) (fun fr tk ok=>?_) (fun fr tk o1 ho1 r L₁ ok hr' hfr=>?_)
 ·have a2:=a1s hZ q
  exact lqh [[_],[_],[_],[_],[_],_,[_],_] [2,3,4,5,6,0,0,0,0,7,0] [2,3,4,8,0,0,0,5,6,0,9,0,0] [7] [8,9,0] a2 rfl
 ·refine a0y.code ?_
  refine a0x.execAgainT a1a (L:=[(fr 0,b6d z.M 0 ((⟨a0k (W w b1 b2).params (knR z.kn)⟩:Array DictEntry).size:Int) z.em)]) (F:=[(c 7,a0n (.str (nm s) ts)),(c 4,a0n (.ref LD)),(LD,dob (W w b1 b2).params (zs.map Lz.row) lm),(z.M,dob (W w b1 b2).params (knR z.kn) z.em),(fr 1,dob (W w b1 b2).params [] 0),(fr 2,dob (W w b1 b2).params [] 0)]++([(c 5,a0n (.ref HD)),(HD,dob (W w b1 b2).params (htR t0 t1 hs) eh)]++lzL (W w b1 b2).params (zs.eraseIdx s))) (by exact lpp [[_],[_],[_],[_],[_],[_],[_],[_],[_],_] [2,3,4,5,6,7,8,0,0,0,0,0,0,9,10,0,11,0,0] [6,2,3,4,5,7,8,0,0,0,0,0,9,10,0,11,0,0,0] rfl) (by exact lbk hD rfl) a3u (hB b2 [] [1,1,1,1]) [1] (fun _ _=>f2C (fr 0) (fr 1) (fr 2) F (c 7) (c 4) (c 5)) (fun _ _=>[(fr 0,b6d z.M 0 ((⟨a0k (W w b1 b2).params (knR z.kn)⟩:Array DictEntry).size:Int) z.em)]) (fun _ _=>[]) (fun fr3 tk3=>by exact bcs b1 (bcs b2 (by kernel_rfl) (by kernel_rfl)) (bcs b2 (by kernel_rfl) (by kernel_rfl))) (fun _ _=>a0e) (fun _ _=>rfl) (fun fr3 tk3 ok=>?_)
  refine (d3o (D:=D + 1) (U:=U + 10 * (0 + 1)) (Q:=fr 0) (A:=fr 1) (Dd:=fr 2) (c7:=c 7) (c4:=c 4) (c5:=c 5) (LD:=LD) (HD:=HD) (by exact lbk hD rfl) hz hh hh5 hs5 hzs hnd (ts:=ts) (lm:=lm) (eh:=eh) (t0:=t0) (t1:=t1) (sz:=((⟨a0k (W w b1 b2).params (knR z.kn)⟩:Array DictEntry).size:Int)) (by rw [a0t,hkl])).mono (a0c fun q=>?_) fun r L' _ hr=>?_
  ·have a2:=a1s hZ q
   exact luh [[_],[_],[_],[_],[_],[_],[_],[_],_,[_],_] [2,3,4,5,6,7,8,9,0,0,0,0,0,0,0,10,0] [2,5,6,7,11,4,3,0,0,0,0,0,8,9,0,12,0,0,0] [10] [11,12,0] a2 rfl
  ·obtain ⟨rfl,dc,kk,m,h1,h2,rfl⟩:=hr
   exact ⟨_,by exact ltt [[_],[_],[_],[_],[_],[_],[_],_] [2,3,4,5,6,7,8,0,0,0,0,0,9,0,0] [2,3,4,5,6,7,8,0,0,0,0,0,0,9,0] rfl,rfl,dc,kk,m,h1,h2,rfl⟩
 ·obtain ⟨rfl,dc,kk,m,h1,h2,rfl⟩:=hr'
  obtain ⟨b,ev⟩:=e5w (LD:=LD) rfl (s:=nm s) (ts:=ts) (rows:=zs.map Lz.row) (kr:=knR z.kn) (lm:=lm) (em:=z.em) (M:=z.M) (fr:=fr) (tk:=tk) h1
  refine a0x.execEndT a1a (L:=[(fr 2,dc)]) (F:=[(fr 1,dob (W w b1 b2).params (knR kk) m),(c 7,a0n (.str (nm s) ts)),(c 4,a0n (.ref LD)),(LD,dob (W w b1 b2).params (zs.map Lz.row) lm),(c 5,a0n (.ref HD)),(HD,dob (W w b1 b2).params (htR t0 t1 hs) eh)]++lzL (W w b1 b2).params zs) (.refl _) (by exact lb0 hD rfl) hfr (f1e b) [] (fun _ _=>.ok (.ret (.ref (fr 1)))) (fun _ _=>[]) (fun _ _=>[]) (fun fr2 tk2=>by exact sbo ho1 (ev fr2 tk2)) (fun _ _=>a0e) (fun fr2 tk2 ok=>?_)
  exact ⟨_,.refl _,.ref (fr 1),rfl,fr 1,kk,m,rfl,h2,rfl⟩
end
theorem c0c (sc:List (Int×Tok)):slicePick (a0w sc) none (some 4) none=a0w (sc.take 4):=by
 have:=slicePick_upto' (a0w sc) 4
 rw [show ((4:Nat):Int)=4 from rfl] at this
 rw [this]
 simp [a0w,List.map_take]
noncomputable def e0y:Nat→Int
 | 0=>2
 | 1=>0
 | 2=>5
 | 3=> -1
 | _=>3
noncomputable abbrev c3x (tk:Nat→Tok):List (Int×Tok):=[(-45,Nat.succ (tk 7)),(35,Nat.succ (tk 8)),(116,Nat.succ (tk 9)),(-58,Nat.succ (tk 11)),(23,Nat.succ (tk 12)),(46,Nat.succ (tk 13))]
noncomputable abbrev lwU (tk:Nat→Tok):Nat→Tok:=fun k=>Nat.succ (tk (k + 1))
theorem b6x:∀{l:List Int},l≠[]→∃x,a1d l x
 | [],h=>absurd rfl h
 | [a],_=>⟨a,.head _,fun y hy=>by rw [List.mem_singleton] at hy;exact Int.le_of_eq hy.symm⟩
 | a::b::l,_=>by
  obtain ⟨x,hm,hl⟩:=b6x (l:=b::l) (by simp)
  by_cases h:a≤x
  ·exact ⟨a,.head _,fun y hy=>by
    rcases List.mem_cons.mp hy with rfl | hy
    ·exact Int.le_refl _
    ·have:=hl y hy;exact Int.le_trans h this⟩
  ·exact ⟨x,.tail _ hm,fun y hy=>by
    rcases List.mem_cons.mp hy with rfl | hy
    ·omega
    ·exact hl y hy⟩
noncomputable abbrev hfL (rk:List Rk) (own:Nat→Int) (hf:Nat→Int) (v:Nat):List Int:=(rkI rk v).map (fun r=>hf r.1 + r.2.2)++[own v]
theorem a7k {rk:List Rk} {j:Nat} {r:Rk}:r∈rkI rk j↔r∈rk∧r.2.1=j:=by
 unfold rkI
 rw [List.mem_filter]
 exact ⟨fun ⟨a,b⟩=>⟨a,Nat.eq_of_beq_eq_true b⟩,fun ⟨a,b⟩=>⟨a,by rw [b];exact Nat.beq_refl j⟩⟩
theorem b4v {rk:List Rk} {j:Nat} {r:Rk}:r∈rkO rk j↔r∈rk∧r.1=j:=by
 unfold rkO
 rw [List.mem_filter]
 exact ⟨fun ⟨a,b⟩=>⟨a,Nat.eq_of_beq_eq_true b⟩,fun ⟨a,b⟩=>⟨a,by rw [b];exact Nat.beq_refl j⟩⟩
theorem d7o (rk:List Rk) (own:Nat→Int) (up:∀r∈rk,r.1 < r.2.1):∀n:Nat,∃hf:Nat→Int,∀v,v < n→a1d (hfL rk own hf v) (hf v)
 | 0=>⟨fun _=>0,fun v hv=>absurd hv (Nat.not_lt_zero v)⟩
 | n + 1=>by
  obtain ⟨hf,ih⟩:=d7o rk own up n
  obtain ⟨x,hx⟩:=b6x (l:=hfL rk own hf n) (by simp)
  have e:∀v,v≤n→hfL rk own (fun u=>if u=n then x else hf u) v=hfL rk own hf v:=fun v hv=>by
   unfold hfL
   congr 1
   refine List.map_congr_left fun r hr=>?_
   obtain ⟨h1,h2⟩:=a7k.mp hr
   have:=up r h1
   simp only
   rw [if_neg (by omega)]
  refine ⟨fun u=>if u=n then x else hf u,fun v hv=>?_⟩
  rw [e v (by exact Nat.le_of_lt_succ (by assumption))]
  by_cases h:v=n
  ·subst h;simp only [if_pos];exact hx
  ·simp only [if_neg h];exact ih v (by omega)
section
variable {rk:List Rk} {own hf:Nat→Int} {E:Nat→List (Nat×Int)}
theorem d9l (hl:∀v,v < 5→a1d (hfL rk own hf v) (hf v)) (hE:∀u q,q∈E u→(u,q.1,q.2)∈rk) (h5:∀r∈rk,r.2.1 < 5) {u v:Nat} {x:Int} (hu:u < 5) (hw:Way E u v x):hf v≤own u + x:=by
 have:v < 5∧hf v≤own u + x:=by
  induction hw with
  | nil=>exact ⟨hu,by have:=(hl u hu).le (own u) (List.mem_append_right _ (.head _));omega⟩
  | @step a b y c _ hq ih=>
   have hr:=hE a _ hq
   have hb:b < 5:=h5 _ hr
   refine ⟨hb,?_⟩
   have h1:hf a + c∈hfL rk own hf b:=List.mem_append_left _ (List.mem_map.mpr ⟨(a,b,c),a7k.mpr ⟨hr,rfl⟩,rfl⟩)
   have:=(hl b hb).le _ h1
   omega
 exact this.2
theorem e1i (hl:∀v,v < 5→a1d (hfL rk own hf v) (hf v)) (hE:∀r∈rk,(r.2.1,r.2.2)∈E r.1) (up:∀r∈rk,r.1 < r.2.1):∀n v:Nat,v < n→v < 5→Ey2 fun u x=>An3 (u < 5) (Way E u v x) (hf v=own u + x)
 | 0,v,h,_=>absurd h (Nat.not_lt_zero v)
 | n + 1,v,h,h5=>by
  rcases List.mem_append.mp (hl v h5).mem with hm | hm
  ·obtain ⟨⟨a,b,c⟩,hr,e⟩:=List.mem_map.mp hm
   obtain ⟨h1,h2⟩:=a7k.mp hr
   have h3:=up _ h1
   simp only at h2 h3 e
   subst h2
   obtain ⟨u,x,hu,hw,hx⟩:=e1i hl hE up n a (by omega) (by exact Nat.lt_of_lt_of_le h3 (Nat.le_of_lt h5))
   exact ⟨u,x + c,hu,.step hw (hE _ h1),by omega⟩
  ·rw [List.mem_singleton] at hm
   exact ⟨v,0,h5,.nil,by omega⟩
theorem b7e:∀{kn:List Kn} {v:Nat} {x:Int},b9d kn v=some x→(v,x)∈kn.map Kn.p
 | [],v,x,h=>nomatch h
 | e::kn,v,x,h=>by
  unfold b9d at h
  by_cases he:e.v=v
  ·rw [if_pos he] at h
   injection h with h
   rw [List.map_cons,←he,←h]
   exact .head _
  ·rw [if_neg he] at h
   exact .tail _ (b7e h)
theorem c0o:∀{kn:List Kn} {v:Nat} {x:Int},(kn.map (·.v)).Nodup→(v,x)∈kn.map Kn.p→b9d kn v=some x
 | [],v,x,_,h=>nomatch h
 | e::kn,v,x,hn,h=>by
  rw [List.map_cons,List.nodup_cons] at hn
  unfold b9d
  rcases List.mem_cons.mp h with h | h
  ·have h1:v=e.v:=congrArg Prod.fst h
   have h2:x=e.x:=congrArg Prod.snd h
   rw [if_pos h1.symm,h2]
  ·have hv:v∈kn.map (·.v):=by
    obtain ⟨y,hy,hyv⟩:=List.mem_map.mp h
    exact List.mem_map.mpr ⟨y,hy,congrArg Prod.fst hyv⟩
   rw [if_neg (fun z=>hn.1 (by rw [z];exact hv))]
   exact c0o hn.2 h
theorem d7i (hl:∀v,v < 5→a1d (hfL rk own hf v) (hf v)) (hE:∀u q,q∈E u↔(u,q.1,q.2)∈rk) (up:∀r∈rk,r.1 < r.2.1∧r.2.1 < 5) {zs:List Lz} (hz:b8o zs) (hdf:∀z∈zs,DF E z.v [] (z.kn.map Kn.p))
  {ow:List Ow} (how:∀e∈ow,e.v < 5∧e.x=own e.v) (hall:∀u,u < 5→∃e∈ow,e.v=u) {v:Nat} (hv:v < 5):a1d (ow.filterMap (fun e=>(d6g zs e.v v).map (e.x + ·))) (hf v):=by
 have hnd:∀z∈zs,(z.kn.map (·.v)).Nodup:=fun z hzm=>by
  have:=(hdf z hzm).nd
  rw [List.map_map] at this
  exact this
 constructor
 ·obtain ⟨u,x,hu,hw,hx⟩:=e1i hl (E:=E) (fun r hr=>(hE r.1 _).mpr hr) (fun r hr=>(up r hr).1) 5 v hv hv
  obtain ⟨z,hzs,hzv⟩:=hz.at hu
  have hzm:=List.mem_of_getElem? hzs
  have hd:=hdf z hzm
  rw [hzv] at hd
  obtain ⟨x',hm,hle⟩:=hd.end v x hw
  have h2:=d9l hl (fun u q hq=>(hE u q).mp hq) (fun r hr=>(up r hr).2) hu (hd.least v x' hm).2
  have e:x'=x:=by omega
  subst e
  obtain ⟨e,he,hev⟩:=hall u hu
  refine List.mem_filterMap.mpr ⟨e,he,?_⟩
  rw [hev]
  unfold d6g
  rw [hzs]
  simp only [Option.bind_some]
  rw [c0o (hnd z hzm) hm,Option.map_some,(how e he).2,hev,hx]
 ·intro y hy
  obtain ⟨e,he,hy⟩:=List.mem_filterMap.mp hy
  obtain ⟨z,hzs,hzv⟩:=hz.at (how e he).1
  have hzm:=List.mem_of_getElem? hzs
  have hd:=hdf z hzm
  rw [hzv] at hd
  unfold d6g at hy
  rw [hzs] at hy
  simp only [Option.bind_some] at hy
  cases hk:b9d z.kn v with
  | none=>rw [hk] at hy;cases hy
  | some x=>
   rw [hk,Option.map_some] at hy
   injection hy with hy
   have hw:=(hd.least v x (b7e hk)).2
   have:=d9l hl (fun u q hq=>(hE u q).mp hq) (fun r hr=>(up r hr).2) (how e he).1 hw
   rw [(how e he).2] at hy
   exact Int.le_trans this (Int.le_of_eq hy)
end
noncomputable abbrev ov0:Ov:=⟨0,0,0,[],0⟩
noncomputable def mkD (O:Addr) (mo:Nat) (vs:List Ov):a4r:=⟨O,vs.map Ov.row,mo,fun u=>(vs.getD u ov0).O,fun u=>(vs.getD u ov0).m,fun u=>(vs.getD u ov0).os⟩
theorem d8o {α β:Type} {f:α→β} {vs:List α} {b0 b1 b2 b3 b4:β} (h:vs.map f=[b0,b1,b2,b3,b4]):Ey5 fun v0 v1 v2 v3 v4=>An6 (vs=[v0,v1,v2,v3,v4]) (f v0=b0) (f v1=b1) (f v2=b2) (f v3=b3) (f v4=b4):=by
 match vs,h with
 | [v0,v1,v2,v3,v4],h=>
  simp only [List.map_cons,List.map_nil,List.cons.injEq,and_true] at h
  exact ⟨v0,v1,v2,v3,v4,rfl,h.1,h.2.1,h.2.2.1,h.2.2.2.1,h.2.2.2.2⟩
 | [],h=>simp at h
 | [_],h=>simp at h
 | [_,_],h=>simp at h
 | [_,_,_],h=>simp at h
 | [_,_,_,_],h=>simp at h
 | _::_::_::_::_::_::_,h=>simp at h
theorem c1h {rk:List Rk} {vs:List Ov} (h:e7f rk vs) (hlen:rk.length≤10) (O:Addr) (mo:Nat):
  (mkD O mo vs).Ok∧b7g (mkD O mo vs) []≤50∧(∀u,u < 5→∀q,q∈(mkD O mo vs).E u↔(u,q.1,q.2)∈rk)∧∀P q,cnt q ((mkD O mo vs).led P)=one q (O,dob P (vs.map Ov.row) mo) + cnt q (ovL vs):=by
 obtain ⟨h1,h2⟩:=h
 obtain ⟨v0,v1,v2,v3,v4,rfl,e0,e1,e2,e3,e4⟩:=d8o h1
 have hE:∀u,u < 5→((mkD O mo [v0,v1,v2,v3,v4]).OL u).map Ot.key=(rkO rk u).map (fun r=>(r.2.1,r.2.2))∧∃v∈[v0,v1,v2,v3,v4],v.i=u∧(mkD O mo [v0,v1,v2,v3,v4]).oa u=v.O∧(mkD O mo [v0,v1,v2,v3,v4]).OL u=v.os:=fun u hu=>by
  have:u=0∨u=1∨u=2∨u=3∨u=4:=lt5 (by first | assumption | omega)
  rcases this with rfl | rfl | rfl | rfl | rfl
  ·exact ⟨congrArg Prod.snd e0,v0,by simp,congrArg Prod.fst e0,rfl,rfl⟩
  ·exact ⟨congrArg Prod.snd e1,v1,by simp,congrArg Prod.fst e1,rfl,rfl⟩
  ·exact ⟨congrArg Prod.snd e2,v2,by simp,congrArg Prod.fst e2,rfl,rfl⟩
  ·exact ⟨congrArg Prod.snd e3,v3,by simp,congrArg Prod.fst e3,rfl,rfl⟩
  ·exact ⟨congrArg Prod.snd e4,v4,by simp,congrArg Prod.fst e4,rfl,rfl⟩
 have hsz:∀u,u < 5→((mkD O mo [v0,v1,v2,v3,v4]).OL u).length≤10:=fun u hu=>by
  have:=congrArg List.length (hE u hu).1
  simp only [List.length_map] at this
  have h3:(rkO rk u).length≤rk.length:=List.length_filter_le _ _
  exact Nat.le_trans (Nat.le_of_eq this) (Nat.le_trans h3 hlen)
 have i0:v0.i=0:=congrArg Prod.fst e0
 have i1:v1.i=1:=congrArg Prod.fst e1
 have i2:v2.i=2:=congrArg Prod.fst e2
 have i3:v3.i=3:=congrArg Prod.fst e3
 have i4:v4.i=4:=congrArg Prod.fst e4
 refine ⟨⟨by simp [mkD],fun u hu=>?_,fun u hu=>?_,fun u hu o ho=>?_,fun u hu=>by have:=hsz u hu;exact Nat.le_trans this (by decide)⟩,?_,fun u hu q=>?_,fun P q=>?_⟩
 ·obtain ⟨v,hv,hvi,_⟩:=(hE u hu).2
  show nm u∈a1m ([v0,v1,v2,v3,v4].map Ov.row)
  unfold a1m
  rw [List.map_map]
  exact List.mem_map.mpr ⟨v,hv,by rw [←hvi];rfl⟩
 ·show a5p ([v0,v1,v2,v3,v4].map Ov.row) (nm u)= .ref ((mkD O mo [v0,v1,v2,v3,v4]).oa u)
  have:u=0∨u=1∨u=2∨u=3∨u=4:=lt5 (by first | assumption | omega)
  simp only [List.map_cons,List.map_nil,Ov.row,i0,i1,i2,i3,i4,a5p]
  rcases this with rfl | rfl | rfl | rfl | rfl <;> rfl
 ·obtain ⟨v,hv,_,_,hos⟩:=(hE u hu).2
  rw [hos] at ho
  exact h2 v hv o ho
 ·have a0:=hsz 0 (by exact Nat.le_add_left _ _);have a1:=hsz 1 (by exact Nat.le_add_left _ _);have a2:=hsz 2 (by exact Nat.le_add_left _ _);have a3:=hsz 3 (by exact Nat.le_add_left _ _);have a4:=hsz 4 (by exact Nat.le_add_left _ _)
  have lf':∀u,lf (mkD O mo [v0,v1,v2,v3,v4]) [] u=((mkD O mo [v0,v1,v2,v3,v4]).OL u).length:=fun u=>c8n _ _ (by simp)
  unfold b7g
  rw [lf',lf',lf',lf',lf']
  omega
 ·have:(mkD O mo [v0,v1,v2,v3,v4]).E u=(rkO rk u).map (fun r=>(r.2.1,r.2.2)):=(hE u hu).1
  rw [this,List.mem_map]
  constructor
  ·rintro ⟨r,hr,rfl⟩
   obtain ⟨h3,h4⟩:=b4v.mp hr
   rw [←h4];exact h3
  ·intro hr
   exact ⟨(u,q.1,q.2),b4v.mpr ⟨hr,rfl⟩,rfl⟩
 ·show cnt q ((O,dob P ([v0,v1,v2,v3,v4].map Ov.row) mo)::(v0.led++v1.led++v2.led++v3.led++v4.led))=_
  have:ovL [v0,v1,v2,v3,v4]=v0.led++(v1.led++(v2.led++(v3.led++(v4.led++[])))):=rfl
  rw [this]
  simp +arith only [a0o,a0f,a0s]
theorem e0t {rk:List Rk} {own:Nat→Int} {vs:List Iv} (h:d5k rk own vs) (hlen:rk.length≤10) (up:∀r∈rk,r.1 < r.2.1∧r.2.1 < 5):c8d (rkI rk) own vs∧vs.map (·.j)=[4,3,2,1,0]:=by
 have hj:vs.map (·.j)=[4,3,2,1,0]:=by
  have:=congrArg (List.map Prod.fst) h
  rw [List.map_map] at this
  exact this
 refine ⟨⟨fun v hv=>?_,by rw [hj];decide,fun v hv=>?_,fun j=>?_,fun j r hr=>?_⟩,hj⟩
 ·have:v.j∈vs.map (·.j):=List.mem_map_of_mem hv
  rw [hj] at this
  simp at this
  exact f1c (by assumption)
 ·have h1:(v.j,v.os.map Of.key)∈vs.map (fun v=>(v.j,v.os.map Of.key)):=List.mem_map_of_mem (f:=fun v:Iv=>(v.j,v.os.map Of.key)) hv
  unfold d5k at h
  rw [h] at h1
  obtain ⟨j,_,e⟩:=List.mem_map.mp h1
  have e1:j=v.j:=congrArg Prod.fst e
  have e2:=congrArg Prod.snd e
  simp only at e2
  rw [←e2,e1]
 ·have:(rkI rk j).length≤rk.length:=List.length_filter_le _ _
  exact Nat.le_trans this hlen
 ·have:=up r (a7k.mp hr).1
  exact Nat.lt_of_lt_of_le this.1 (Nat.le_of_lt this.2)
noncomputable def Of.rw (e:Of):Rw:=⟨e.a,.str e.s e.ts,e.x,e.tx⟩
theorem d9g (es:List Of):(es.map Of.rw).map Rw.ob=es.map Of.ob:=by simp [Of.rw,Rw.ob,Of.ob]
theorem c3r {rs:List Rd} {u:Nat} {q:Nat×Int}:q∈rdE rs u↔(u,q.1,q.2)∈rs.map Rd.key:=by
 unfold rdE
 rw [List.mem_map,List.mem_map]
 constructor
 ·rintro ⟨r,hr,rfl⟩
  rw [List.mem_filter] at hr
  have:r.i=u:=by simpa using hr.2
  exact ⟨r,hr.1,by rw [←this];rfl⟩
 ·rintro ⟨r,hr,e⟩
  have e1:r.i=u:=congrArg Prod.fst e
  have e2:(r.j,r.c)=q:=congrArg Prod.snd e
  exact ⟨r,List.mem_filter.mpr ⟨hr,by simp [e1]⟩,e2⟩
theorem d3x {rs:List Rd} {zs:List Lz} (h1:zs.map (·.v)=List.range 5) (h2:∀z∈zs,DF (rdE rs) z.v [] (z.kn.map Kn.p)):b8o zs:=by
 have hk:∀z∈zs,∀e∈z.kn,e.v < 5:=fun z hz e he=>((h2 z hz).least e.v e.x (List.mem_map_of_mem he)).1
 refine ⟨h1,hk,fun z hz=>?_⟩
 have hn:=(h2 z hz).nd
 rw [List.map_map] at hn
 have:=List.Nodup.length_le_of_subset hn (l₂:=List.range 5) fun v hv=>by
  obtain ⟨e,he,rfl⟩:=List.mem_map.mp hv
  exact List.mem_range.mpr (hk z hz e he)
 simpa using this
section
variable {w:World} {b1 b2:Bool} {D U:Nat} {Q A Dd F X c2:Addr}
theorem c6l (hD:D≤600) {L G:Led} {R:a6i} (hp:L.Perm ([(Q,a0z (.ref X) 0 0)]++G)) (h:a0y (W w b1 b2) D U (leC Q A Dd F c2) ([(Q,a0z (.ref X) 0 0)]++G) R):a0y (W w b1 b2) D U (leS Q A Dd F c2) L R:=by
 refine a0y.code ?_
 exact a0x.execAgainT a1a (L:=[(Q,a0z (.ref X) 0 0)]) (F:=G) hp hD a3u (hB b2 [] [1,1,1,1]) [1] (fun _ _=>leC Q A Dd F c2) (fun _ _=>[(Q,a0z (.ref X) 0 0)]) (fun _ _=>[]) (fun fr tk=>by exact bcs b1 (bcs b2 (by kernel_rfl) (by kernel_rfl)) (bcs b2 (by kernel_rfl) (by kernel_rfl))) (fun _ _=>a0e) (fun _ _=>rfl) (fun _ _ _=>h)
theorem c6s (F:Addr) (c:Nat→Addr):(a1y F (a8k c)).scope.kind≠.module:=by
 have:(a1y F (a8k c)).scope.kind= .function:=by kernel_rfl
 rw [this];decide
end
noncomputable def RdG (P:Params) (o:Obj):Prop:=o=dob P [] 0∨∃z:Q2 Tok Addr,o=dob P [(c0t,z.a,.ref z.b)] 1
noncomputable def c9t (w:World) (Q R Dd A F:Addr) (rs:List RdT) (nn k:Nat) (dc:Obj) (ti:Tok) (os:List Ot) (m:Nat):Ctr where
 eo:=none
 d:=450
 u:=7500
 c:=ouC Q A Dd F
 L:=[(Q,a0z (.ref R) k ti),(R,a0a (tgr (rs.map RdT.tg)) nn),(Dd,dc),(A,a0a (otr os) m)]
 G:=[TL w.params (rs.map RdT.tg),os.map Ot.ob]
 Y:=Q3 Obj (List Ot) Nat
 ok:=fun y=>RdG w.params y.a∧y.b.map Ot.key=os.map Ot.key++(rs.drop k).map fun g=>(g.j,g.x)
 r:=fun _=>.ok .next
 L':=fun y=>[(Dd,y.a),(A,a0a (otr y.b) y.c)]
 G':=fun y=>[TL w.params (rs.map RdT.tg),y.b.map Ot.ob]
noncomputable def e9v (w:World) (Q R Dd A F:Addr) (rs:List RdT) (nn:Nat):Ctr where
 eo:=none
 d:=440
 u:=7400
 c:=ouS Q A Dd F
 L:=[(Q,a0z (.ref R) 0 0),(R,a0a (tgr (rs.map RdT.tg)) nn),(Dd,dob w.params [] 0),(A,a0a (otr []) 0)]
 G:=[TL w.params (rs.map RdT.tg)]
 Y:=Q3 Obj (List Ot) Nat
 ok:=fun y=>RdG w.params y.a∧y.b.map Ot.key=rs.map fun g=>(g.j,g.x)
 r:=fun _=>.ok .next
 L':=fun y=>[(Dd,y.a),(A,a0a (otr y.b) y.c)]
 G':=fun y=>[TL w.params (rs.map RdT.tg),y.b.map Ot.ob]
noncomputable def TbO:Nat→Led→Prop
 | 0,B=>TbT B
 | _ + 1,B=>Ey6 fun c2 c3 c4 v t r=>B=T3 c2 c3 c4 v t r
noncomputable def e7j (P:Params) (T N O:Addr) (z:Q3 (Nat→Tok) Str Addr):Obj:=fob P (f4m z.a T N O z.b z.c) 5
noncomputable def OuH (P:Params) (T N O:Addr) (fo:Obj):Prop:=(∃t,fo=fob P (e9k t T N O) 3)∨∃z,fo=e7j P T N O z
noncomputable def d7s (w:World) (F Q N T O:Addr) (h:ThN) (rk:List Rk) (u:Nat→Tok) (en ep k:Nat) (fo:Obj) (ti:Tok) (vs:List Ov) (mo:Nat) (B:Led):Ctr where
 eo:=none
 d:=430
 u:=7300
 c:=f5m Q F
 L:=[(F,fo),(Q,a0z (.ref N) k ti),(N,a0a (nmA u) en),(O,dob w.params (vs.map Ov.row) mo),(T,a0a (tgr h.all) ep)]
 G:=[TL w.params h.all,ovL vs,B]
 Y:=Q4 Obj (List Ov) Nat Led
 ok:=fun y=>OuH w.params T N O y.a∧y.b.map (fun v=>(v.i,v.os.map Ot.key))=vs.map (fun v=>(v.i,v.os.map Ot.key))++([0,1,2,3,4].map fun i=>(i,(rkO rk i).map (fun r=>(r.2.1,r.2.2)))).drop k∧TbO 1 y.d
 r:=fun _=>.ok .next
 L':=fun y=>[(F,y.a),(N,a0a (nmA u) en),(O,dob w.params (y.b.map Ov.row) y.c)]
 G':=fun y=>[ovL y.b,y.d]
noncomputable def f6f (w:World) (T N:Addr) (h:ThN) (rk:List Rk) (u:Nat→Tok) (en ep:Nat) (B:Led):Ctr where
 eo:=none
 d:=420
 u:=7200
 c:=d6l T N
 L:=[(N,a0a (nmA u) en),(T,a0a (tgr h.all) ep)]
 G:=[TL w.params h.all,B]
 Y:=Q4 Addr (List Ov) Nat Led
 ok:=fun y=>y.b.map (fun v=>(v.i,v.os.map Ot.key))=[0,1,2,3,4].map (fun i=>(i,(rkO rk i).map (fun r=>(r.2.1,r.2.2))))∧TbO 1 y.d
 r:=fun y=>.ok (.ret (.ref y.a))
 L':=fun y=>[(N,a0a (nmA u) en),(y.a,dob w.params (y.b.map Ov.row) y.c)]
 G':=fun y=>[ovL y.b,y.d]
theorem e8y {w:World}:∀{k:Nat},k < 5→∀{B:Led},TbO k B→∀tp b1 b2,a0y (W w b1 b2) 461 7610 (a0g (a1w k) tp) B (a2w (W w b1 b2) a6f (pkO k) (c5c (kO k)) (TbO 1))
 | 0,_,B,hB,tp,b1,b2=>by
  obtain ⟨c2,c3,v,t,r,rfl⟩:=hB
  refine (d1s (by decide)).mono (.skip _ (.refl _)) fun r L _ hr=>⟨L,.refl _,?_⟩
  obtain ⟨m,Tb',h1,h2,h3,⟨c4,v,t,r',h4⟩,h5⟩:=hr
  exact ⟨m,Tb',h1,h2,h3,⟨c2,c3,c4,v,t,r',h4⟩,h5⟩
 | k + 1,hk,B,hB,tp,b1,b2=>by
  obtain ⟨c2,c3,c4,v,t,r,rfl⟩:=hB
  refine (e8m (by decide) (Nat.succ_pos k) hk tp).mono (.refl _) fun r' L _ hr=>⟨L,.refl _,?_⟩
  obtain ⟨m,Tb',h1,h2,h3,h4,h5⟩:=hr
  exact ⟨m,Tb',h1,h2,h3,⟨c2,c3,c4,v,t,r,h4⟩,h5⟩
theorem c4a {vs:List Ov} {v:Ov}:([(v.O,a0a (otr v.os) v.m)]++gl [v.os.map Ot.ob,ovL vs]).Perm ([]++gl [ovL (vs++[v])]):=by
 rw [d3l]
 exact lpp [[_],_,_] [2,3,4,1,0,0,0] [4,2,3,0,0,1,0] rfl
structure OuS (P:Params) (T N O:Addr) where
 d:Addr→(Nat→Tok)→(Nat→Tok)→Obj
 ok:∀p tk tk2,OuH P T N O (d p tk tk2)
section
variable {w:World} {F Q R A Dd N T O:Addr} {h:ThN} {rk:List Rk} {u:Nat→Tok} {nn en ep:Nat}
noncomputable abbrev ThN.rO (h:ThN) (i:Nat):List RdT:=h.rs.filter fun g=>Nat.beq g.i i
theorem ThN.open3 (h:ThN) (P:Params) (p:RdT→Bool):∃X,(Mine.TL P h.all).Perm (Mine.TL P ((h.rs.filter p).map RdT.tg)++X):=by
 obtain ⟨X,hX⟩:=h.open2 P p (j:=0) (by decide)
 exact ⟨(h.p 0).tg.led P++X,hX.trans (by exact lpp [_,_,_] [2,3,4,0,0] [3,2,4,0,0] rfl)⟩
theorem a4n.filtO {own} (o:a4n h rk own) {i:Nat} (hi:i < 5):h.all.filter (fun g=>pkO i g.tag)=(h.rO i).map RdT.tg:=by
 refine (Mine.filtO o.old hi).trans ?_
 show (h.rs.map RdT.tg).filter _=_
 rw [List.filter_map]
 congr 1
 exact List.filter_congr fun g hg=>c3t hi (h:=.rd g.i g.j) (o.hb g hg) ⟨g.t,rfl⟩
theorem a4n.keyO {own} (o:a4n h rk own) (i:Nat):(h.rO i).map (fun g=>(g.j,g.x))=(rkO rk i).map fun r=>(r.2.1,r.2.2):=by
 unfold rkO
 rw [←o.hk,List.filter_map,List.map_map];rfl
theorem c9a (u:Nat→Tok) {k:Nat} (h:k < 5):a3t [nth (nmA u) (k:Int)= .str (nm k) (u k),0≤(k:Int),(k:Int) < ((nmA u).size:Int)]:=
 ⟨c2w u (Int.natCast_nonneg k) (by exact Int.ofNat_lt.mpr (by assumption)),Int.natCast_nonneg k,by show (k:Int) < ((5:Nat):Int);exact Int.ofNat_lt.mpr (by assumption),trivial⟩
noncomputable def e1o (g:RdT) (fr:Nat→Addr) (tk:Nat→Tok):Ot:=⟨fr 1,g.j,Nat.succ (tk 8),g.x,g.tx⟩
theorem c2d {rs:List RdT} (hrs:∀g∈rs,g.i < 5∧g.j < 5):∀n k,n + k=rs.length→∀{dc ti os m},RdG w.params dc→os.length + n≤1000→(c9t w Q R Dd A F rs nn k dc ti os m).H w:=by
 intro n
 induction n with
 | zero=>
  intro k hk dc ti os m hdc hos
  exact Ctr.p0 (rn (VT (vl [])) (a0r 4810363633729) (al1 (a3f (fun g:Tg=>.ref g.a) (rs.map RdT.tg) (by rw [List.length_map];exact sk0 hk))) fun _ _=>.ret [2,3] [0,1] ⟨dc,os,m⟩ ⟨hdc,by rw [List.drop_of_length_le (sk0 hk)];exact (List.append_nil _).symm⟩) rfl (by kernel_rfl)
 | succ n ih=>
  intro k hk dc ti os m hdc hos
  obtain ⟨g,hg⟩:=a1u hk
  obtain ⟨hi,hj⟩:=hrs g (List.mem_of_getElem? hg)
  have ho:=d4x ⟨g.i,hi⟩ ⟨g.j,hj⟩
  have hk2:(rs.map RdT.tg)[k]?=some g.tg:=by rw [List.getElem?_map,hg];rfl
  have hX:=c1r (Tg.led w.params) hk2
  exact Ctr.p1 (rw' [] [0] (a3a hX) <| shp (a:=Dd) 4 hdc (⟨fun tk=>dob w.params [(c0t,Nat.succ (tk 1),.ref g.a)] 1,fun _=>.inr ⟨⟨_,_⟩,rfl⟩⟩:Sh (RdG w.params)) (fun z=>⟨fun _=>dob w.params [(c0t,z.a,.ref g.a)] 1,fun _=>.inr ⟨⟨z.a,g.a⟩,rfl⟩⟩) fun d=>rn (VT (vl [.ref g.a])) (a0r 140650984212654982795877311245197951956133078301573036194069191835751779562150159419578527876)
   (al (by rw [c6v];omega:(otr os).size≤1000000) (al ho.2.1 (al ho.2.2 (al1 (a4q (fun g:Tg=>.ref g.a) hk2))))) fun fr tk=>
   rw' [7] [] (a0u (a:=fr 1) (o:=tob [.str (e4p (a4u g.i g.j)) (Nat.succ (tk 8)),.int g.x g.tx]) (o':=tob [.str (nm g.j) (Nat.succ (tk 8)),.int g.x g.tx]) (by rw [show e4p (a4u g.i g.j)=nm g.j from ho.1])) <|
   rw' [6,0] [1] (d3q (fun e:Ot=>.ref e.a) Ot.ob A (m + 1) os (e1o g fr tk)) <| rw' [2,3] [1] (a3a hX).symm <|
   agn [2,3,1,0] [0,1] (ih (k + 1) (sk1 hk) (dc:=d.d tk) (ti:=0) (os:=os++[e1o g fr tk]) (m:=m + 1) (d.ok tk) (lp1 hos)) [0,1] [0,1] (fun y=>y) fun y h=>⟨h.1,by rw [h.2,a1b hg,List.map_append,List.append_assoc];rfl⟩) rfl (by kernel_rfl)
theorem d1o {rs:List RdT} (hrs:∀g∈rs,g.i < 5∧g.j < 5) (hl:rs.length≤100):(e9v w Q R Dd A F rs nn).H w:=
 Ctr.p2 (rnb (VT (vl [])) (fun b2=>hzB b2 1 17043521) al0 fun _ _=>rw' [] [] (e4m Ot.ob) <| agn [0,1,2,3] [1,0] (c2d (Q:=Q) (R:=R) (Dd:=Dd) (A:=A) (nn:=nn) (F:=F) hrs rs.length 0 rfl (dc:=dob w.params [] 0) (ti:=0) (os:=[]) (m:=0) (.inl rfl) (by simp;exact Nat.le_trans hl (by decide))) [0,1] [0,1] (fun y=>y) fun _ h=>h) rfl (by kernel_rfl)
theorem c7g {own} (o:a4n h rk own):∀m k,m + k=5→∀{fo ti vs mo B},OuH w.params T N O fo→(∀v∈vs,v.i < k)→vs.length≤k→TbO k B→(d7s w F Q N T O h rk u en ep k fo ti vs mo B).H w:=by
 intro m
 induction m with
 | zero=>
  intro k hk fo ti vs mo B hfo hvs hvl hB
  have:k=5:=by omega
  subst this
  exact Ctr.p0 (rn (VT (vl [])) (a0r 4879083376706) (al1 (p:=a3t [0≤((5:Nat):Int),((nmA u).size:Int)≤((5:Nat):Int)]) ⟨by decide,Int.le_refl _,trivial⟩) fun _ _=>.ret [0,2,3] [1,2] ⟨fo,vs,mo,B⟩ ⟨hfo,(List.append_nil _).symm,hB⟩) rfl (by kernel_rfl)
 | succ m ih=>
  intro k hk fo ti vs mo B hfo hvs hvl hB
  have hk5:k < 5:=by exact a9q hk
  obtain ⟨X,hX⟩:=h.open3 w.params (fun g=>Nat.beq g.i k)
  have hl0:=(b7x ⟨k,hk5⟩).1
  have hl1:∀i:Fin 5,((lz2:Str)++nm i).length≠0∧((lz2:Str)++nm i).length≤1000000∧((lz2:Str)++nm i++(l8:Str)).length≤1000000:=by decide +kernel
  obtain ⟨l1,l2,l3⟩:=hl1 ⟨k,hk5⟩
  have hwf:=a1f w.params (l:=vs.map Ov.row) (by rw [List.length_map];exact Nat.le_trans hvl (Nat.le_trans (Nat.le_of_lt hk5) (by decide)))
  have hnh:¬a3m ⟨a0k w.params (vs.map Ov.row)⟩ (nm k):=fun z=>by
   obtain ⟨r,hr,e⟩:=List.mem_map.mp ((a0l _ _ _).mp z)
   obtain ⟨v,hv,rfl⟩:=List.mem_map.mp hr
   have h1:=hvs v hv
   have:=a2u (Nat.lt_trans h1 hk5) hk5 e
   omega
  have hall:h.all.length≤900:=by have:=o.len;simp [ThN.all,ThN.pls];exact Nat.le_trans this (by decide)
  have hd:([0,1,2,3,4].map fun i=>(i,(rkO rk i).map (fun r=>(r.2.1,r.2.2)))).drop k=[(k,(rkO rk k).map (fun r=>(r.2.1,r.2.2)))]++([0,1,2,3,4].map fun i=>(i,(rkO rk i).map (fun r=>(r.2.1,r.2.2)))).drop (k + 1):=by
   have:k=0∨k=1∨k=2∨k=3∨k=4:=lt5 (by first | assumption | omega)
   rcases this with rfl | rfl | rfl | rfl | rfl <;> rfl
  have hIl:(h.rO k).length≤100:=Nat.le_trans (List.length_filter_le _ _) o.len
  exact Ctr.p1 (a9t (a:=F) 0 hfo (fun t=>(⟨fun p tk tk2=>e7j w.params T N O ⟨a0q (a0q (a0q t 3 (Nat.succ (tk 1))) 4 (u k)) 5 (Nat.succ (tk2 0)),nm k,p⟩,fun _ _ _=>.inr ⟨_,rfl⟩⟩:OuS w.params T N O)) (fun z=>⟨fun p _ _=>e7j w.params T N O ⟨a0q z.a 4 (u k),nm k,p⟩,fun _ _ _=>.inr ⟨_,rfl⟩⟩) fun d=>
   rn (VT (vl [.str (nm k) (u k)])) (a0r 19347535498331403686776962) (al l1 (al (p:=(l8:Str).length≠0) (by decide) (al l3 (al (p:=(lz2:Str).length≠0) (by decide) (al (Nat.ne_of_gt hl0) (al l2 (al1 (c9a u hk5)))))))) fun fr tk=>
   us [4] [0,2] (b5h (pk:=pkO k) (p:=(lz2:Str)++nm k++(l8:Str)) (B:=B) (Tb:=TbO 1) (T:=T) (ep:=ep) (tp:=Nat.succ (tk 5)) hall (o.old.are.all fun g t a b=>d0a hk5 a b) d7v (fun b1 b2=>d2f k hk5▸e8y hk5 hB (Nat.succ (tk 5)) b1 b2)) fun y hy=>rw' [0] [] (a1o (a:=y.a) (n:=y.b) (congrArg tgr (o.filtO hk5))) <|
   rn (VT (vl [])) (a0r 4880173641859) al0 fun fr2 tk2=>rw' [] [0] (a2g (A:=[]) hX) <|
   us [6,0,8,7] [0] (d1o (F:=F) (Q:=fr2 0) (R:=y.a) (Dd:=fr2 2) (A:=fr2 1) (rs:=h.rO k) (nn:=y.b) (fun g hg=>o.hb g (List.mem_filter.mp hg).1) hIl) fun z hz=>
   shp (a:=fr2 2) 0 hz.1 4473327730945 (fun _=>18322750385946689) fun hh=>rn (VT (vl [])) (a0r hh) (al hwf (al1 hnh)) fun _ _=>
   rw' [6] [] (d3y w.params Ov.row O (mo + 1) vs ⟨k,u k,fr2 1,z.b,z.c⟩) <| rw' [] [0,2] (a2g (A:=[]) hX).symm <| rw' [2] [1,3] (c4a (vs:=vs) (v:=⟨k,u k,fr2 1,z.b,z.c⟩)) <|
   agn [3,4,5,0,2] [1,0,2] (ih (k + 1) (sk1 hk) (fo:=d.d y.a tk tk2) (ti:=0) (vs:=vs++[⟨k,u k,fr2 1,z.b,z.c⟩]) (mo:=mo + 1) (B:=y.c) (d.ok _ _ _) (fun v hv=>by
    rcases List.mem_append.mp hv with hv | hv
    ·exact Nat.lt_succ_of_lt (hvs v hv)
    ·rw [List.mem_singleton] at hv;subst hv;exact Nat.lt_succ_self k) (by simp;omega) hy) [0,1,2] [0,1] (fun y=>y) fun q hq=>⟨hq.1,by
    rw [hq.2.1,hd,List.map_append,List.append_assoc]
    show _++((k,z.b.map Ot.key)::_)=_
    rw [hz.2,o.keyO];rfl,hq.2.2⟩) rfl (by kernel_rfl)
theorem d6o {own} (o:a4n h rk own) {B:Led} (hB:TbT B):(f6f w T N h rk u en ep B).H w:=
 Ctr.c1 (rn (VT (vl [])) (a0r 325918246083632854216704) al0 fun fr tk=>rw' [] [] (d5r (ovL [])) <|
  us [2,4,0,3,1] [1,0,2] (c7g (F:=fr 0) (Q:=fr 2) (O:=fr 1) (u:=u) (en:=en) (ep:=ep) o 5 0 rfl (fo:=fob w.params (e9k (fun i=>Nat.succ (tk i)) T N (fr 1)) 3) (ti:=0) (vs:=[]) (mo:=0) (B:=B) (.inl ⟨_,rfl⟩) (fun v hv=>nomatch hv) (Nat.le_refl _) hB) fun z hz=>
  a9t (a:=fr 0) 0 hz.1 (fun _=>()) (fun _=>()) fun _=>rn (VT (vl [])) (a0r 65) al0 fun _ _=>.ret [1,2] [0,1] ⟨fr 1,z.b,z.c,z.d⟩ ⟨hz.2.1,hz.2.2⟩) rfl (by kernel_rfl)
end
noncomputable def onD (P:Params) (z:Q3 (Nat→Tok) Str Int):Obj:=dob P [(b6r,z.a 0,.str z.b (z.a 1)),(b1n,z.a 2,.int z.c (z.a 3))] 2
noncomputable def OnG (P:Params) (o:Obj):Prop:=o=dob P [] 0∨∃z,o=onD P z
noncomputable def d5f (w:World) (Q A Dd F H O:Addr) (os:List Of) (n:Nat) (rk:List Rk) (k:Nat) (dc:Obj) (ti:Tok) (zs:List (Nat×Tok)) (m:Nat):Ctr where
 eo:=none
 d:=470
 u:=7700
 c:=f4a Q A Dd F H
 L:=[(Q,a0z (.ref O) k ti),(O,a0a (ofr os) n),(Dd,dc),(A,a0a (suV zs) m)]
 G:=[os.map Of.ob]
 Y:=Q3 Obj (List (Nat×Tok)) Nat
 ok:=fun y=>OnG w.params y.a∧y.b.map (·.1)=zs.map (·.1)++(rk.drop k).map (·.1)
 r:=fun _=>.ok .next
 L':=fun y=>[(O,a0a (ofr os) n),(Dd,y.a),(A,a0a (suV y.b) y.c)]
 G':=fun y=>[os.map Of.ob]
noncomputable def e6m (w:World) (Q A Dd F H O:Addr) (os:List Of) (n:Nat) (rk:List Rk):Ctr where
 eo:=none
 d:=460
 u:=7600
 c:=f2h Q A Dd F H
 L:=[(Q,a0z (.ref O) 0 0),(O,a0a (ofr os) n),(Dd,dob w.params [] 0),(A,a0a (suV []) 0)]
 G:=[os.map Of.ob]
 Y:=Q3 Obj (List (Nat×Tok)) Nat
 ok:=fun y=>OnG w.params y.a∧y.b.map (·.1)=rk.map (·.1)
 r:=fun _=>.ok .next
 L':=fun y=>[(O,a0a (ofr os) n),(Dd,y.a),(A,a0a (suV y.b) y.c)]
 G':=fun y=>[os.map Of.ob]
noncomputable def HeG (P:Params) (I S:Addr) (fo:Obj):Prop:=(∃t,fo=fob P (e9r t I S) 2)∨∃z:Q2 (Nat→Tok) Str,fo=fob P (c2p z.a I S z.b) 3
noncomputable def d7z (w:World) (F H Q I S Sd NI:Addr) (rkf:Nat→List Rk) (vs:List Iv) (mi:Nat) (u:Nat→Tok) (es k:Nat) (sz:Int) (fo:Obj) (ns:List Nd) (m:Nat):Ctr where
 eo:=none
 d:=440
 u:=7400
 c:=heC Q F H
 L:=[(Q,b6d I k sz mi),(F,fo),(I,dob w.params (vs.map Iv.row) mi),(S,toO Sd),(Sd,dob w.params (toR u NI .none 0 0) es),(NI,dob w.params (ns.map Nd.row) m)]
 G:=[ndL ns,ivL vs]
 Y:=Q3 Obj (List Nd) Nat
 ok:=fun y=>((∃z:Q2 (Nat→Tok) Str,y.a=fob w.params (c2p z.a I S z.b) 3)∨(k=vs.length∧y.a=fo))∧a4a (b8w rkf vs) y.b
 r:=fun _=>.ok .next
 L':=fun y=>[(F,y.a),(I,dob w.params (vs.map Iv.row) mi),(S,toO Sd),(Sd,dob w.params (toR u NI .none 0 0) es),(NI,dob w.params (y.b.map Nd.row) y.c)]
 G':=fun y=>[ndL y.b,ivL vs]
section
variable {w:World} {F H Q A Dd O I S Sd NI:Addr} {rkf:Nat→List Rk} {own:Nat→Int} {vs:List Iv} {mi es:Nat} {u:Nat→Tok}
theorem c7n {rk:List Rk} {k:Nat} {r:Rk} (h:rk[k]?=some r):(rk.drop k).map (·.1)=r.1::(rk.drop (k + 1)).map (·.1):=by rw [a1b h];rfl
theorem c1w {os:List Of} {rk:List Rk} {x:Int} (hos:os.map Of.key=a9o rk x) (hlen:rk.length≤100) {n:Nat}:
  ∀j k,j + k=os.length→∀{dc ti zs m},OnG w.params dc→zs.length≤k→(d5f w Q A Dd F H O os n rk k dc ti zs m).H w:=by
 have hl:=b9v hos
 intro j
 induction j with
 | zero=>
  intro k hk dc ti zs m hdc hz
  exact Ctr.p0 (rn (VT (vl [])) (a0r 4810363633729) (al1 (a3f (fun e:Of=>.ref e.a) os (sk0 hk))) fun _ _=>.ret [1,2,3] [0] ⟨dc,zs,m⟩ ⟨hdc,by rw [List.drop_of_length_le (by omega)];exact (List.append_nil _).symm⟩) rfl (by kernel_rfl)
 | succ j ih=>
  intro k hk dc ti zs m hdc hz
  obtain ⟨e,he⟩:=a1u hk
  have hX:=a8m he
  have hnx:=a4q (fun e:Of=>.ref e.a) he
  rcases c7x hos he with ⟨r,hr,hs,hx⟩ | ⟨hkr,hs,hx⟩
  ·have hrow:(e.a,tob [.str e.s e.ts,.int e.x e.tx]).2=tob [.str (nm r.1) e.ts,.int e.x e.tx]:=by rw [hs]
   exact Ctr.p1 (rw' [] [0] (a1q hX) <| rw' [0] [] (a0u (a:=e.a) hrow) <|
    shp (a:=Dd) 3 hdc (⟨fun tk=>onD w.params ⟨fun i=>match i with | 0=>Nat.succ (tk 1) | 1=>e.ts | 2=>Nat.succ (tk 2) | _=>e.tx,nm r.1,e.x⟩,fun _=>.inr ⟨_,rfl⟩⟩:Sh (OnG w.params)) (fun z=>⟨fun _=>onD w.params ⟨a0q (a0q z.a 1 e.ts) 3 e.tx,nm r.1,e.x⟩,fun _=>.inr ⟨_,rfl⟩⟩) fun d=>
    rn (VT (vl [.ref e.a])) (a0r 7691113311430182071872032230614973801626292562901689776347528238018851512451) (al (by rw [a3d];omega:(suV zs).size≤1000000) (al (c9s (i:=r.1)) (al1 hnx))) fun fr tk=>
    rw' [4] [] (c2z (fun p:Nat×Tok=>Value.str (nm p.1) p.2) zs (r.1,e.ts) (a:=A) (n:=m + 1)) <| rw' [2] [] (a0u (a:=e.a) hrow.symm) <| rw' [0] [0] (a1j hX) <|
    agn [2,3,1,0] [0] (ih (k + 1) (sk1 hk) (dc:=d.d tk) (ti:=0) (zs:=zs++[(r.1,e.ts)]) (m:=m + 1) (d.ok tk) (by simp;omega)) [0,1,2] [0] (fun y=>y) fun y h=>⟨h.1,by rw [h.2,c7n hr];simp⟩) rfl (by kernel_rfl)
  ·have hrow:(e.a,tob [.str e.s e.ts,.int e.x e.tx]).2=tob [.str ⟨⟨[]⟩⟩ e.ts,.int e.x e.tx]:=by rw [hs]
   exact Ctr.p1 (rw' [] [0] (a1q hX) <| rw' [0] [] (a0u (a:=e.a) hrow) <|
    shp (a:=Dd) 3 hdc (⟨fun tk=>onD w.params ⟨fun i=>match i with | 0=>Nat.succ (tk 1) | 1=>e.ts | 2=>Nat.succ (tk 2) | _=>e.tx,⟨⟨[]⟩⟩,e.x⟩,fun _=>.inr ⟨_,rfl⟩⟩:Sh (OnG w.params)) (fun z=>⟨fun _=>onD w.params ⟨a0q (a0q z.a 1 e.ts) 3 e.tx,⟨⟨[]⟩⟩,e.x⟩,fun _=>.inr ⟨_,rfl⟩⟩) fun d=>
    rn (VT (vl [.ref e.a])) (a0r 1767278529266307270371768358343312643272839263107389056077399896475050115) (al (p:=¬(⟨⟨[]⟩⟩:Str)≠⟨⟨[]⟩⟩) (fun h=>h rfl) (al1 hnx)) fun fr tk=>
    rw' [1] [] (a0u (a:=e.a) hrow.symm) <| rw' [0] [0] (a1j hX) <|
    agn [1,2,0,3] [0] (ih (k + 1) (sk1 hk) (dc:=d.d tk) (ti:=0) (zs:=zs) (m:=m) (d.ok tk) (by exact Nat.le_succ_of_le hz)) [0,1,2] [0] (fun y=>y) fun y h=>⟨h.1,by rw [h.2,List.drop_of_length_le (by exact Nat.le_succ_of_le (Nat.le_of_eq hkr.symm)),List.drop_of_length_le (by exact Nat.le_of_eq hkr.symm)]⟩) rfl (by kernel_rfl)
theorem d0g {os:List Of} {rk:List Rk} {x:Int} (hos:os.map Of.key=a9o rk x) (hlen:rk.length≤100) {n:Nat}:(e6m w Q A Dd F H O os n rk).H w:=
 Ctr.p2 (rnb (VT (vl [])) (fun b2=>hzB b2 1 17043521) al0 fun _ _=>agn [0,1,2,3] [0] (c1w (Q:=Q) (A:=A) (Dd:=Dd) (F:=F) (H:=H) (O:=O) hos hlen (n:=n) os.length 0 rfl (dc:=dob w.params [] 0) (ti:=0) (zs:=[]) (m:=0) (.inl rfl) (Nat.le_refl _)) [0,1,2] [0] (fun y=>y) fun _ h=>h) rfl (by kernel_rfl)
theorem c3l {vs:List Iv} {v:Iv} (h:v∈vs):∃X:Led,(ivL vs).Perm ([(v.O,a0a (ofr v.os) v.m)]++(v.os.map Of.ob++X)):=b5f Iv.led h
theorem c5v (hv:c8d rkf own vs) {sz:Int} (hsz:sz=vs.length):
  ∀j k,j + k=vs.length→∀{fo ns m},HeG w.params I S fo→a4a (b8w rkf (vs.take k)) ns→(d7z w F H Q I S Sd NI rkf vs mi u es k sz fo ns m).H w:=by
 have hvl:=hv.len
 have hsz':sz=((⟨a0k w.params (vs.map Iv.row)⟩:Array DictEntry).size:Int):=by rw [a0t,List.length_map];exact hsz
 intro j
 induction j with
 | zero=>
  intro k hk fo ns m hfo hb
  exact Ctr.p0 (rn (VT (vl [])) (a0r 4947802849345) (al1 (p:=a3t [0≤(k:Int),((⟨a0k w.params (vs.map Iv.row)⟩:Array DictEntry).size:Int)≤(k:Int),sz=((⟨a0k w.params (vs.map Iv.row)⟩:Array DictEntry).size:Int),(mi:Int)=(mi:Int)]) ⟨Int.natCast_nonneg k,by rw [a0t,List.length_map];omega,hsz',rfl,trivial⟩)
   fun _ _=>.ret [1,2,3,4,5] [0,1] ⟨fo,ns,m⟩ ⟨.inr ⟨by omega,rfl⟩,by rw [List.take_of_length_le (by omega)] at hb;exact hb⟩) rfl (by kernel_rfl)
 | succ j ih=>
  intro k hk fo ns m hfo hb
  obtain ⟨v,hvk⟩:=a1u hk
  have hmem:=List.mem_of_getElem? hvk
  have hv5:=hv.lt v hmem
  obtain ⟨X,hX⟩:=c3l hmem
  have hbl:∀x,(a2t ns x).length≤1000:=fun x=>by
   have h1:=hb.len (fun p hp=>by
    obtain ⟨x,hx,rfl⟩:=List.mem_map.mp hp
    rw [List.length_map];exact hv.rl _) x
   have h2:(b8w rkf (vs.take k)).length≤5:=by simp [b8w];omega
   omega
  have hz:∀zs:List (Nat×Tok),zs.map (·.1)=(rkf v.j).map (·.1)→zs.length≤10∧∀p∈zs,p.1 < 5:=fun zs a2=>⟨by
   have:=congrArg List.length a2
   rw [List.length_map,List.length_map] at this
   have:=hv.rl v.j
   omega,fun p hp=>by
    have:p.1∈zs.map (·.1):=List.mem_map_of_mem hp
    rw [a2] at this
    obtain ⟨r,hr,hrp⟩:=List.mem_map.mp this
    rw [←hrp];exact hv.rf v.j r hr⟩
  have hbs:∀{ns':List Nd} {zs:List (Nat×Tok)},d5x ns v.j (zs.map (·.1)) ns'→zs.map (·.1)=(rkf v.j).map (·.1)→a4a (b8w rkf (vs.take (k + 1))) ns':=fun {ns' zs} a h=>by
   have e:vs.take (k + 1)=vs.take k++[v]:=by rw [List.take_add_one,hvk];rfl
   rw [h] at a
   have:=hb.step a
   unfold b8w at this ⊢
   rw [e,List.map_append]
   exact this
  have hkey:a9d ⟨a0k w.params (vs.map Iv.row)⟩ (k:Int)= .str (nm v.j) v.tj:=c5f hvk
  exact Ctr.p1 (rw' [] [1] (a2g hX) <|
   a9t (a:=F) 2 hfo (fun t=>(fun tk=>a0q (a0q t 2 (Nat.succ (tk 1))) 3 v.tj:(Nat→Tok)→Nat→Tok)) (fun z _=>a0q z.a 3 v.tj) fun d=>
   rn (VT (vl [.str (nm v.j) v.tj,.ref v.O])) (a0r 129035925902878342104088445865591828979892844033293287521095319367031988355)
    (al (a5f w.params (by rw [List.length_map];exact Nat.le_trans hvl (by decide)) (by unfold a1m;rw [List.map_map];exact List.mem_map.mpr ⟨v,hmem,rfl⟩) (b5m hv.lt hv.nd hmem))
    (al1 (p:=a3t [a9d ⟨a0k w.params (vs.map Iv.row)⟩ (k:Int)= .str (nm v.j) v.tj,0≤(k:Int),(k:Int) < ((⟨a0k w.params (vs.map Iv.row)⟩:Array DictEntry).size:Int),sz=((⟨a0k w.params (vs.map Iv.row)⟩:Array DictEntry).size:Int),(mi:Int)=(mi:Int)]) ⟨hkey,Int.natCast_nonneg k,by rw [a0t,List.length_map];omega,hsz',rfl,trivial⟩)) fun fr tk=>
   us [8,1,10,9] [0] (d0g (Q:=fr 1) (A:=fr 2) (Dd:=fr 3) (F:=F) (H:=H) (O:=v.O) (n:=v.m) (hv.os v hmem) (by have:=hv.rl v.j;exact Nat.le_trans this (by decide))) fun y hy=>
   shp (a:=fr 3) 1 hy.1 20833557245071490 (fun _=>349529089948928249958530) fun hz2=>
   lc y.b 10 [] y.b rfl (hz _ hy.2).1 fun x hx=>rw' [2] [] (a1o (a:=fr 2) (n:=y.c) (congrArg suV hx)) <|
   rn (VC (vl [])) (a0r hz2) (al1 (by rw [a3d,←hx];have:=(hz _ hy.2).1;exact Nat.le_trans this (by decide):(suV x).size≤1000000)) fun fr2 tk2=>
   uu [6,7,8] [2] (d9k (S:=S) (Sd:=Sd) (NI:=NI) (u:=u) (es:=es) (po:=0) (fi:=0) (tp:=v.tj) (m:=m) hv5 hb.ok hbl x (by rw [←hx];exact (hz _ hy.2).1) ⟨by rw [←hx];exact (hz _ hy.2).1,by rw [←hx];exact (hz _ hy.2).2⟩) fun y2 hy2=>
   rn (VT (vl [])) [] al0 fun _ _=>rw' [5] [1,2] (a2g hX).symm <|
   agn [6,5,7,0,1,2] [1,0] (ih (k + 1) (sk1 hk) (fo:=fob w.params (c2p (d tk) I S (nm v.j)) 3) (ns:=y2.a) (m:=y2.b) (.inr ⟨⟨_,_⟩,rfl⟩) (hbs hy2 (by rw [←hx];exact hy.2))) [0,1,2,3,4] [0,1] (fun y=>y) fun y h=>⟨.inl (h.1.elim id fun q=>⟨⟨_,_⟩,q.2⟩),h.2⟩) rfl (by kernel_rfl)
end
noncomputable def grB (P:Params) (S R N:Addr) (z:Q2 (Nat→Tok) Str):Obj:=fob P (f4i z.a S R N z.b) 4
noncomputable def GrG (P:Params) (S R N:Addr) (fo:Obj):Prop:=(∃t,fo=fob P (f0i t S R N) 3)∨∃z,fo=grB P S R N z
noncomputable def d8f (w:World) (F Q T S NI:Addr) (ps:List (Nat×Tok)) (ns0:List Nd) (m k:Nat) (fo:Obj) (ti:Tok) (ns:List Nd):Ctr where
 eo:=none
 d:=470
 u:=7700
 c:=grC Q F
 L:=[(F,fo),(Q,c6t (.ref T) k ti),(T,b2q (suV ps) 0),(NI,dob w.params (ns.map Nd.row) m)]
 G:=[ndL ns]
 Y:=Q2 Obj (List Nd)
 ok:=fun y=>GrG w.params S T NI y.a∧a6x ns0 (ps.map (·.1)) y.b
 r:=fun _=>.ok .next
 L':=fun y=>[(F,y.a),(T,b2q (suV ps) 0),(NI,dob w.params (y.b.map Nd.row) m)]
 G':=fun y=>[ndL y.b]
noncomputable def c2y (w:World) (S Sd NI R:Addr) (u:Nat→Tok) (po fi:Int) (es:Nat) (ps:List (Nat×Tok)) (ns:List Nd) (m nr:Nat):Ctr where
 eo:=none
 d:=460
 u:=7600
 c:=e3j S
 L:=toL w.params S Sd u NI (.ref R) po fi es (ns.map Nd.row) m++[(R,a0a (suV ps) nr)]
 G:=[ndL ns]
 Y:=Q4 Addr (Nat→Tok) (List Nd) Nat
 ok:=fun y=>a6x ns (ps.map (·.1)) y.c
 r:=fun y=>.ok (.ret (.ref y.a))
 L':=fun y=>toL w.params S Sd y.b NI (.ref R) (po + (ps.length:Int)) fi es (y.c.map Nd.row) m++[(R,a0a ⟨[]⟩ y.d),(y.a,b2q (suV ps) 0)]
 G':=fun y=>[ndL y.c]
noncomputable def e2j (P:Params) (S T N:Addr) (s:Str) (a:Addr) (z:Q2 (Nat→Tok) Int):Obj:=fob P (f0z z.a S T N s a z.b) 6
noncomputable def d6a (P:Params) (S T N:Addr) (s:Str) (a:Addr) (z:Q4 (Nat→Tok) Int Str Addr):Obj:=fob P (f3j z.a S T N s a z.b z.c z.d) 8
noncomputable def DnG (P:Params) (S T N:Addr) (s:Str) (a:Addr) (fo:Obj):Prop:=(∃z,fo=e2j P S T N s a z)∨∃z,fo=d6a P S T N s a z
noncomputable def DnH (P:Params) (S T N:Addr) (fo:Obj):Prop:=(∃t,fo=fob P (e6v t S T N) 3)∨(∃z:Q3 Str Addr (Q2 (Nat→Tok) Int),fo=e2j P S T N z.a z.b z.c)∨∃z:Q3 Str Addr (Q4 (Nat→Tok) Int Str Addr),fo=d6a P S T N z.a z.b z.c
noncomputable def f2m (w:World) (F Q l S Sd NI R T a:Addr) (u:Nat→Tok) (po fi:Int) (es m ls:Nat) (s:Str) (su:List (Nat×Tok)) (ns0:List Nd) (rd0:List (Nat×Tok)) (k:Nat) (fo:Obj) (ti:Tok) (ns:List Nd) (rd:List (Nat×Tok)) (nr:Nat):Ctr where
 eo:=none
 d:=480
 u:=7800
 c:=f2z Q F
 L:=[(F,fo),(Q,a0z (.ref l) k ti),(l,a0a (suV su) ls),(R,a0a (suV rd) nr)]++toL w.params S Sd u NI (.ref R) po fi es (ns.map Nd.row) m
 G:=[obL ns]
 Y:=Q4 Obj (List Nd) (List (Nat×Tok)) Nat
 ok:=fun y=>DnG w.params S T NI s a y.a∧y.c.length≤rd0.length + su.length∧b9f ns0 rd0 (su.map (·.1)) y.b y.c
 r:=fun _=>.ok .next
 L':=fun y=>[(F,y.a),(l,a0a (suV su) ls),(R,a0a (suV y.c) y.d)]++toL w.params S Sd u NI (.ref R) po fi es (y.b.map Nd.row) m
 G':=fun y=>[obL y.b]
noncomputable def f5i (w:World) (F Q S Sd NI R T:Addr) (po:Int) (es m:Nat) (ps:List (Nat×Tok)) (ns0:List Nd) (fe:Int) (k:Nat) (fo:Obj) (ti:Tok) (ns:List Nd) (rd:List (Nat×Tok)) (nr:Nat) (u:Nat→Tok) (fi:Int):Ctr where
 eo:=none
 d:=470
 u:=7700
 c:=dnC Q F
 L:=[(F,fo),(Q,c6t (.ref T) k ti),(T,b2q (suV ps) 0),(R,a0a (suV rd) nr)]++toL w.params S Sd u NI (.ref R) po fi es (ns.map Nd.row) m
 G:=[ndL ns]
 Y:=Q4 (List Nd) (List (Nat×Tok)) Nat (Nat→Tok)
 ok:=fun y=>a8b ns0 [] (ps.map (·.1)) y.a y.b
 r:=fun _=>.ok .next
 L':=fun y=>[(R,a0a (suV y.b) y.c)]++toL w.params S Sd y.d NI (.ref R) po fe es (y.a.map Nd.row) m
 G':=fun y=>[ndL y.a]
noncomputable def d1i (w:World) (S Sd NI R:Addr) (po:Int) (es m:Nat) (ps:List (Nat×Tok)) (ns:List Nd) (nr:Nat) (u:Nat→Tok) (fi:Int):Ctr where
 eo:=none
 d:=460
 u:=7600
 c:=d8m S (ps.map fun p=>.str (nm p.1) p.2)
 L:=toL w.params S Sd u NI (.ref R) po fi es (ns.map Nd.row) m++[(R,a0a ⟨[]⟩ nr)]
 G:=[ndL ns]
 Y:=Q4 (List Nd) (List (Nat×Tok)) Nat (Nat→Tok)
 ok:=fun y=>a8b ns [] (ps.map (·.1)) y.a y.b
 r:=fun _=>.ok (.ret .none)
 L':=fun y=>toL w.params S Sd y.d NI (.ref R) po (fi + (ps.length:Int)) es (y.a.map Nd.row) m++[(R,a0a (suV y.b) y.c)]
 G':=fun y=>[ndL y.a]
noncomputable def d0h (w:World) (S Sd NI R:Addr) (u:Nat→Tok) (po:Int) (es:Nat) (xs:Array Value) (nr:Nat) (b:Bool):Ctr where
 eo:=none
 d:=460
 u:=7600
 c:=e0c S
 L:=[(S,toO Sd),(Sd,dob w.params (toR u NI (.ref R) po po) es),(R,a0a xs nr)]
 G:=[]
 Y:=Unit
 ok:=fun _=>True
 r:=fun _=>.ok (.ret (.bool b))
 L':=fun _=>[(S,toO Sd),(Sd,dob w.params (toR u NI (.ref R) po po) es),(R,a0a xs nr)]
 G':=fun _=>[]
noncomputable def Nd.wnp (n:Nd) (x:Int) (t:Tok):Nd:={ n with np:=x,tn:=t }
section
variable {w:World} {S Sd NI F Q T R l a:Addr} {u:Nat→Tok} {po fi:Int} {es m nr ls:Nat} {s:Str}
theorem c2o (P:Params) {ns:List Nd} (h:a4l ns) {n:Nd} (hn:n∈ns) {v:Nat} (e:n.v=v):a3t [a5x ⟨a0k P (ns.map Nd.row)⟩ (nm v)= .ref n.a,dWf P ⟨a0k P (ns.map Nd.row)⟩,a3m ⟨a0k P (ns.map Nd.row)⟩ (nm v)]:=
 a5f P (by rw [List.length_map];have:=h.len;exact Nat.le_trans this (by decide)) ((b5x h (by rw [←e];exact h.lt n hn)).mpr (List.mem_map.mpr ⟨n,hn,e⟩)) (by rw [←e];exact b5u h hn)
theorem b6z (NI:Addr) {ns:List Nd} {i:Nat} {n n':Nd} (hi:ns[i]?=some n) (hr:n'.row=n.row) (P:Params) (m:Nat):([(NI,dob P (ns.map Nd.row) m)]++gl []).Perm ([(NI,dob P ((ns.set i n').map Nd.row) m)]++gl []):=a0u (by rw [a7i hi hr])
theorem b9u {α:Type} {l:List α} {k:Nat} {p:α} (h:l[k]?=some p):l.take (k + 1)=l.take k++[p]:=by rw [List.take_add_one,h];rfl
theorem c5y {ps:List (Nat×Tok)} {ns0:List Nd} (hin:∀p∈ps,p.1∈ns0.map (·.v)):
  ∀n k,n + k=ps.length→∀{fo ti ns},GrG w.params S T NI fo→a6x ns0 ((ps.take k).map (·.1)) ns→(d8f w F Q T S NI ps ns0 m k fo ti ns).H w:=by
 intro n
 induction n with
 | zero=>
  intro k hk fo ti ns hfo hR
  exact Ctr.p0 (rn (VU (vl [])) (a0r 4810363899970) (al1 (a3f (fun p:Nat×Tok=>.str (nm p.1) p.2) ps (sk0 hk))) fun _ _=>.ret [0,2,3] [0] ⟨fo,ns⟩ ⟨hfo,by rw [List.take_of_length_le (sk0 hk)] at hR;exact hR⟩) rfl (by kernel_rfl)
 | succ n ih=>
  intro k hk fo ti ns hfo hR
  obtain ⟨p,hp⟩:=a1u hk
  obtain ⟨nd,hn,hnv⟩:=a7a (show p.1∈ns.map (·.v) by rw [hR.vs];exact hin p (List.mem_of_getElem? hp))
  obtain ⟨i,hi⟩:=List.mem_iff_getElem?.mp hn
  exact Ctr.p1 (a9t (a:=F) 0 hfo (fun t=>(fun tk=>a0q (a0q t 3 (Nat.succ (tk 1))) 4 p.2:(Nat→Tok)→Nat→Tok)) (fun z _=>a0q z.a 4 p.2) fun d=>rw' [] [0] (a4g hi) <|
   rn (VU (vl [.str (nm p.1) p.2,.ref nd.a])) (a0r 463170123796329585789622231476098210599216163888789903592085098322868124528772) (al (c2o w.params hR.ok hn hnv) (al1 (a4q (fun p:Nat×Tok=>.str (nm p.1) p.2) hp))) fun _ tk=>
   rw' [0,1] [0] (b1b hi (nd.wnp (-1) 244)) <| rw' [3] [] (b6z NI hi (n':=nd.wnp (-1) 244) rfl w.params m) <|
   agn [1,2,3,0] [0] (ih (k + 1) (sk1 hk) (fo:=grB w.params S T NI ⟨d tk,nm p.1⟩) (ti:=0) (ns:=ns.set i (nd.wnp (-1) 244)) (.inr ⟨_,rfl⟩) (by rw [b9u hp,List.map_append,List.map_singleton,←hnv];exact hR.step (n':=nd.wnp (-1) 244) hi rfl rfl rfl rfl)) [0,1,2] [0] (fun y=>y) fun _ h=>h) rfl (by kernel_rfl)
noncomputable def e5z (p:Nat×Tok) {ns:List Nd} (h:a4l ns) (ps:List (Nat×Tok)) (hq:ps.length≤4∧∀q∈p::ps,q.1∈ns.map (·.v)):a2d w (c2y w S Sd NI R u po fi es (p::ps) ns m nr):=
 rn (VC (vl [])) (a0r 169356014848978825939501064795538664291622676883907214767924783512266344359703662015497829641262618187182133248) (al1 (p:=(suV (p::ps)).size≤1000000) (by rw [a3d,List.length_cons];omega)) fun fr tk=>
 us [4,7,6,2] [0] (c5y (F:=fr 0) (Q:=fr 3) (T:=fr 2) (m:=m) (ps:=p::ps) (ns0:=ns) hq.2 (p::ps).length 0 rfl (fo:=fob w.params (f0i (fun i=>match i with | 0=>Nat.succ (tk 0) | 1=>Nat.succ (tk 4) | _=>Nat.succ (tk 6)) S (fr 2) NI) 3) (ti:=0) (.inl ⟨_,rfl⟩) (a6x.nil h)) fun y hy=>
 a9t (a:=fr 0) 0 hy.1 (fun _=>()) (fun _=>()) fun _=>
 rn (VU (vl [])) (a0r 583042473113396463707281226741849832298442797767896011496349584479871010006002056701745040313687144923393) (al1 (p:=(suV (p::ps)).size≤1000000) (by rw [a3d,List.length_cons];omega)) fun _ tk2=>
 .ret [3,4,2,5,1] [0] ⟨fr 2,a0q u 3 (Nat.succ (tk2 3)),y.b,nr + 1⟩ hy.2
theorem c4e {ns:List Nd} (h:a4l ns) {ps:List (Nat×Tok)} (h0:ps≠[]) (hl:ps.length≤5) (hin:∀q∈ps,q.1∈ns.map (·.v)):(c2y w S Sd NI R u po fi es ps ns m nr).H w:=by
 cases ps with
 | nil=>exact absurd rfl h0
 | cons p ps=>exact Ctr.cl1 (0,0) 4 (C:=fun ps=>c2y w S Sd NI R u po fi es (p::ps) ns m nr) (Q:=fun ps=>ps.length≤4∧∀q∈p::ps,q.1∈ns.map (·.v)) (e5z p h) (fun _=>rfl) (by kernel_rfl) ps (Nat.le_of_succ_le_succ hl) ⟨Nat.le_of_succ_le_succ hl,hin⟩
theorem d4f {ns:List Nd} {i:Nat} {n:Nd} (hi:ns[i]?=some n):([]++gl [obL ns]).Perm ([n.ob]++gl [obL (ns.eraseIdx i)]):=a1q (c4t hi)
theorem b7k {ns:List Nd} {i:Nat} {n:Nd} (hi:ns[i]?=some n) (n':Nd):([n'.ob]++gl [obL (ns.eraseIdx i)]).Perm ([]++gl [obL (ns.set i n')]):=(a1q (a8g hi n')).symm
theorem d8t {ns:List Nd} {i:Nat} {n n':Nd} (hi:ns[i]?=some n):([n'.ob,n.li]++gl [ndL (ns.eraseIdx i)]).Perm ([n.li]++gl [obL (ns.set i n'),liL (ns.eraseIdx i)]):=by
 refine (((a9k (ns.eraseIdx i)).append_right []).append_left [n'.ob,n.li]).trans ?_
 refine List.Perm.trans ?_ ((((a8g hi n').symm).append_right (liL (ns.eraseIdx i)++[])).append_left [n.li])
 exact lpp [[_],[_],_,_] [2,3,4,5,0,1,0,0,0] [3,2,4,0,5,1,0,0,0] rfl
theorem c6i {ns ns':List Nd} {i:Nat} {n:Nd} (hi:ns[i]?=some n) (h:liL ns'=liL ns):([n.li]++gl [obL ns',liL (ns.eraseIdx i)]).Perm ([]++gl [ndL ns']):=by
 refine List.Perm.trans ?_ ((a9k ns').symm.append_right [])
 rw [h]
 refine List.Perm.trans ?_ (((b7h hi).symm.append_left (obL ns')).append_right [])
 exact lpp [[_],_,_] [2,3,4,1,0,0,0] [3,2,4,0,0,1,0] rfl
noncomputable def Nd.rdy (n:Nd) (rd:List (Nat×Tok)) (t:Tok):List (Nat×Tok):=if n.np - 1=0 then rd++[(n.v,t)] else rd
theorem d8r {su:List (Nat×Tok)} {ns0:List Nd} (hin:∀p∈su,p.1∈ns0.map (·.v)) {rd0:List (Nat×Tok)} (hrl:rd0.length + su.length≤1000):
  ∀n k,n + k=su.length→∀{fo ti ns rd nr},DnG w.params S T NI s a fo→rd.length≤rd0.length + k→b9f ns0 rd0 ((su.take k).map (·.1)) ns rd→(f2m w F Q l S Sd NI R T a u po fi es m ls s su ns0 rd0 k fo ti ns rd nr).H w:=by
 intro n
 induction n with
 | zero=>
  intro k hk fo ti ns rd nr hfo hrd hR
  have hrd':rd.length≤rd0.length + su.length:=by omega
  exact Ctr.p0 (rn (VU (vl [])) (a0r 5016522330178) (al1 (a3f (fun p:Nat×Tok=>.str (nm p.1) p.2) su (sk0 hk))) fun _ _=>.ret [0,2,3,4,5,6] [0] ⟨fo,ns,rd,nr⟩ ⟨hfo,hrd',by rw [List.take_of_length_le (sk0 hk)] at hR;exact hR⟩) rfl (by kernel_rfl)
 | succ n ih=>
  intro k hk fo ti ns rd nr hfo hrd hR
  obtain ⟨p,hp⟩:=a1u hk
  obtain ⟨nd,hn,hnv⟩:=a7a (show p.1∈ns.map (·.v) by rw [hR.vs];exact hin p (List.mem_of_getElem? hp))
  obtain ⟨i,hi⟩:=List.mem_iff_getElem?.mp hn
  have hst:∀t,b9f ns0 rd0 ((su.take (k + 1)).map (·.1)) (ns.set i (nd.wnp (nd.np - 1) t)) (nd.rdy rd p.2):=fun t=>by
   rw [b9u hp,List.map_append,List.map_singleton,←hnv]
   exact hR.step (n':=nd.wnp (nd.np - 1) t) hi rfl rfl rfl rfl rfl p.2
  exact Ctr.p1 (a9t (a:=F) 0 hfo (fun z=>(fun tk=>⟨a0q (a0q (a0q z.a 8 (Nat.succ (tk 1))) 9 p.2) 10 (Nat.succ (tk 3)),z.b,nm p.1,nd.a⟩:(Nat→Tok)→Q4 (Nat→Tok) Int Str Addr)) (fun z _=>⟨a0q z.a 9 p.2,z.b,nm p.1,nd.a⟩) fun d=>rw' [] [0] (d4f hi) <|
   .or (nd.np - 1=0) (fun hz=>rn (VU (vl [.str (nm p.1) p.2,.ref nd.a])) (a0r 349472796424168884202146501036340875669244702136393891894162616226135448047023927235506521283465456586488137998701889938534442851915112871604941498571028937166644452185969841031410396215947750246338551375208579) (al (p:=(suV rd).size≤1000000) (by rw [a3d];omega) (al hz (al (c2o w.params hR.ok hn hnv) (al1 (a4q (fun p:Nat×Tok=>.str (nm p.1) p.2) hp))))) fun _ tk=>
     rw' [0] [0] (b7k hi (nd.wnp (nd.np - 1) (Nat.succ (tk 6)))) <| rw' [3] [] (a1o (a:=R) (n:=nr + 1) (xs:=(suV rd).push (.str (nm p.1) p.2)) (ys:=suV (nd.rdy rd p.2)) (by rw [Nd.rdy,if_pos hz,hnv];exact b1z (fun p:Nat×Tok=>.str (nm p.1) p.2) rd (p.1,p.2))) <| rw' [6] [] (b6z NI hi (n':=nd.wnp (nd.np - 1) (Nat.succ (tk 6))) rfl w.params m) <|
     agn [2,3,4,1,5,6,0] [0] (ih (k + 1) (sk1 hk) (fo:=d6a w.params S T NI s a (d tk)) (ti:=0) (ns:=ns.set i (nd.wnp (nd.np - 1) (Nat.succ (tk 6)))) (rd:=nd.rdy rd p.2) (nr:=nr + 1) (.inr ⟨_,rfl⟩) (by rw [Nd.rdy,if_pos hz,List.length_append];show rd.length + 1≤_;omega) (hst _)) [0,1,2,3,4,5] [0] (fun y=>y) fun _ h=>h)
    fun hz=>rn (VU (vl [.str (nm p.1) p.2,.ref nd.a])) (a0r 15833011175292313657331790077798216826626636952276245392417747972510817884926260355941597278507084841418963765049335243857500527684416123807290504223470824369509438378088341635) (al hz (al (c2o w.params hR.ok hn hnv) (al1 (a4q (fun p:Nat×Tok=>.str (nm p.1) p.2) hp)))) fun _ tk=>
     rw' [0] [0] (b7k hi (nd.wnp (nd.np - 1) (Nat.succ (tk 6)))) <| rw' [6] [] (b6z NI hi (n':=nd.wnp (nd.np - 1) (Nat.succ (tk 6))) rfl w.params m) <|
     agn [1,2,3,4,5,6,0] [0] (ih (k + 1) (sk1 hk) (fo:=d6a w.params S T NI s a (d tk)) (ti:=0) (ns:=ns.set i (nd.wnp (nd.np - 1) (Nat.succ (tk 6)))) (rd:=rd) (nr:=nr) (.inr ⟨_,rfl⟩) (by omega) (by have:=hst (Nat.succ (tk 6));rw [Nd.rdy,if_neg hz] at this;exact this)) [0,1,2,3,4,5] [0] (fun y=>y) fun _ h=>h) rfl (by kernel_rfl)
noncomputable def dnT (p:Nat×Tok) (tn:Tok) (t:Nat→Tok) (tk:Nat→Tok):Nat→Tok:=a0q (a0q (a0q (a0q (a0q t 3 (Nat.succ (tk 1))) 4 p.2) 5 (Nat.succ (tk 3))) 6 (Nat.succ (tk 5))) 7 tn
structure DnS (P:Params) (S T NI:Addr) (s:Str) (a:Addr) where
 d:(Nat→Tok)→Obj
 ok:∀tk,DnG P S T NI s a (d tk)
theorem DnG.up {P:Params} {a:Addr} {fo:Obj} (h:DnG P S T NI s a fo):DnH P S T NI fo:=h.elim (fun ⟨z,e⟩=>.inr (.inl ⟨⟨_,_,z⟩,e⟩)) fun ⟨z,e⟩=>.inr (.inr ⟨⟨_,_,z⟩,e⟩)
theorem e2v {ps:List (Nat×Tok)} (hnd:(ps.map (·.1)).Nodup) (hpl:ps.length≤5) {ns0:List Nd} (hin:∀p∈ps,p.1∈ns0.map (·.v)) (hm1:∀p∈ps,a3r ns0 p.1= -1) (hfree:∀p∈ps,∀x∈ps,x.1∉a2t ns0 p.1)
  (hsu:∀v x,x∈a2t ns0 v→x∈ns0.map (·.v)) (hsl:∀v,(a2t ns0 v).length≤100) {fe:Int}:
  ∀n k,n + k=ps.length→∀{fo ti ns rd nr u fi},DnH w.params S T NI fo→rd.length≤100 * k→a8b ns0 [] ((ps.take k).map (·.1)) ns rd→fe=fi + (n:Int)→(f5i w F Q S Sd NI R T po es m ps ns0 fe k fo ti ns rd nr u fi).H w:=by
 intro n
 induction n with
 | zero=>
  intro k hk fo ti ns rd nr u fi hfo hrd hR he
  obtain rfl:fe=fi:=by omega
  exact Ctr.p0 (rn (VU (vl [])) (a0r 5016522330178) (al1 (a3f (fun p:Nat×Tok=>.str (nm p.1) p.2) ps (sk0 hk))) fun _ _=>.ret [3,4,5,6] [0] ⟨ns,rd,nr,u⟩ (by rw [List.take_of_length_le (sk0 hk)] at hR;exact hR)) rfl (by kernel_rfl)
 | succ n ih=>
  intro k hk fo ti ns rd nr u fi hfo hrd hR he
  obtain ⟨p,hp⟩:=a1u hk
  have hpm:=List.mem_of_getElem? hp
  obtain ⟨nd,hn,hnv⟩:=a7a (show p.1∈ns.map (·.v) by rw [hR.vs];exact hin p hpm)
  obtain ⟨i,hi⟩:=List.mem_iff_getElem?.mp hn
  have htake:=b9u hp
  have hnot:p.1∉(ps.take k).map (·.1):=by
   have h1:((ps.take (k + 1)).map (·.1)).Nodup:=(List.Sublist.map _ (List.take_sublist _ _)).nodup hnd
   rw [htake,List.map_append,List.nodup_append] at h1
   exact fun z=>h1.2.2 p.1 z p.1 (by simp) rfl
  have htc:b0u ns0 ((ps.take k).map (·.1)) p.1=0:=b2n fun v hv=>by
   obtain ⟨x,hx,rfl⟩:=List.mem_map.mp hv
   exact hfree x (List.mem_of_mem_take hx) p hpm
  have hnp:nd.np= -1:=by
   have h1:=hR.np p.1 (hin p hpm)
   rw [if_neg hnot,htc,hm1 p hpm] at h1
   rw [←b0z hR.ok hi,hnv,h1];simp +arith
  have hsue:nd.su.map (·.1)=a2t ns0 nd.v:=by rw [←a4w hR.ok hi,hR.su]
  have hvset:(ns.set i (nd.wnp (-2) 247)).map (·.v)=ns0.map (·.v):=by rw [b3k hi (n':=nd.wnp (-2) 247) rfl,hR.vs]
  have hsul:nd.su.length≤100:=by
   have:=congrArg List.length hsue
   rw [List.length_map] at this
   rw [this];exact hsl _
  have hst:∀{ns' rd'},b9f (ns.set i (nd.wnp (-2) 247)) rd (nd.su.map (·.1)) ns' rd'→a8b ns0 [] ((ps.take (k + 1)).map (·.1)) ns' rd':=fun {ns' rd'} b=>by
   rw [htake,List.map_append,List.map_singleton,←hnv]
   rw [hsue] at b
   refine hR.step (n':=nd.wnp (-2) 247) hi rfl rfl rfl rfl (by rw [hnv];exact hnot) (by rw [hnv];exact hm1 p hpm) (fun x hx=>?_) (fun x hx=>?_) b
   ·rw [hnv] at hx ⊢
    rcases List.mem_append.mp hx with hx | hx
    ·obtain ⟨y,hy,rfl⟩:=List.mem_map.mp hx
     exact hfree p hpm y (List.mem_of_mem_take hy)
    ·rw [List.mem_singleton] at hx;subst hx;exact hfree p hpm p hpm
   ·obtain ⟨y,hy,rfl⟩:=List.mem_map.mp hx
    exact hm1 y (List.mem_of_mem_take hy)
  have hli:∀{ns' rd'},b9f (ns.set i (nd.wnp (-2) 247)) rd (nd.su.map (·.1)) ns' rd'→liL ns'=liL ns:=fun {ns' rd'} b=>by rw [b.li,c0f hi (n':=nd.wnp (-2) 247) rfl]
  exact Ctr.p1 (d1p (a:=F) 0 hfo (fun t=>(⟨fun tk=>e2j w.params S T NI (nm p.1) nd.a ⟨dnT p nd.tn t tk, -1⟩,fun _=>.inl ⟨_,rfl⟩⟩:DnS w.params S T NI (nm p.1) nd.a)) (fun z=>⟨fun tk=>e2j w.params S T NI (nm p.1) nd.a ⟨a0q (a0q z.c.a 4 p.2) 7 nd.tn, -1⟩,fun _=>.inl ⟨_,rfl⟩⟩) (fun z=>⟨fun tk=>d6a w.params S T NI (nm p.1) nd.a ⟨a0q (a0q z.c.a 4 p.2) 7 nd.tn, -1,z.c.c,z.c.d⟩,fun _=>.inr ⟨_,rfl⟩⟩) fun d=>rw' [] [0] (a4g hi) <|
   rw' [0] [] (a0u (a:=nd.a) (congrArg (fun x=>e3w nd.d (nm nd.v) nd.tv x nd.tn nd.la) hnp)) <|
   rn (VU (vl [.str (nm p.1) p.2,.ref nd.a])) (a0r 1351061779232878019713898935362846428836913745739676419410399865691328705730040678283986542730286126599326966913270383243744776049666324773811179544199748500571914095487356047882491206005530046596) (al (p:=¬(-1:Int)≠ -1) (by simp) (al (c2o w.params hR.ok hn hnv) (al1 (a4q (fun p:Nat×Tok=>.str (nm p.1) p.2) hp)))) fun fr tk=>
   rw' [0,1] [0] (d8t (n':=nd.wnp (-2) 247) hi) <| rw' [7] [] (b6z NI hi (n':=nd.wnp (-2) 247) rfl w.params m) <|
   us [2,8,1,5,6,7,0] [0] (d8r (F:=F) (Q:=fr 0) (l:=nd.la) (S:=S) (Sd:=Sd) (NI:=NI) (R:=R) (T:=T) (a:=nd.a) (u:=u) (po:=po) (fi:=fi) (es:=es) (m:=m) (ls:=nd.ls) (s:=nm p.1) (su:=nd.su) (ns0:=ns.set i (nd.wnp (-2) 247)) (fun x hx=>by
    rw [hvset]
    exact hsu nd.v x.1 (by rw [←hsue];exact List.mem_map_of_mem hx)) (rd0:=rd) (by omega) nd.su.length 0 rfl (fo:=d.d tk) (ti:=0) (ns:=ns.set i (nd.wnp (-2) 247)) (rd:=rd) (nr:=nr) (d.ok tk) (by exact Nat.le_add_right _ _) (b9f.nil (a3w hR.ok hi rfl))) fun y hy=>
   a9t (a:=F) 0 hy.1 (fun z=>(⟨fun _=>e2j w.params S T NI (nm p.1) nd.a z,fun _=>.inl ⟨_,rfl⟩⟩:DnS w.params S T NI (nm p.1) nd.a)) (fun z=>⟨fun _=>d6a w.params S T NI (nm p.1) nd.a z,fun _=>.inr ⟨_,rfl⟩⟩) fun d2=>
   rn (VU (vl [])) (a0r 1653747568414400999253501012930783665296746369658126593) al0 fun _ tk2=>rw' [1] [0,1] (c6i hi (hli hy.2.2)) <|
   agn [0,5,6,1,2,3,4] [0] (ih (k + 1) (sk1 hk) (fo:=d2.d tk2) (ti:=0) (ns:=y.b) (rd:=y.c) (nr:=y.d) (u:=a0q u 5 (Nat.succ (tk2 2))) (fi:=fi + 1) (d2.ok tk2).up (by have:=hy.2.1;omega) (hst hy.2.2) (by omega)) [0,1,2,3] [0] (fun y=>y) fun _ h=>h) rfl (by kernel_rfl)
noncomputable abbrev f3a (tk:Nat→Tok):Nat→Tok:=fun i=>match i with
 | 0=>Nat.succ (tk 0)
 | 1=>Nat.succ (tk 1)
 | _=>Nat.succ (tk 4)
structure c6e (ns:List Nd) (ps:List (Nat×Tok)):Prop where
 nd:(ps.map (·.1)).Nodup
 len:ps.length≤5
 hin:∀p∈ps,p.1∈ns.map (·.v)
 m1:∀p∈ps,a3r ns p.1= -1
 free:∀p∈ps,∀x∈ps,x.1∉a2t ns p.1
noncomputable def d9p (p:Nat×Tok) {ns:List Nd} (h:a4l ns) (hsu:∀v x,x∈a2t ns v→x∈ns.map (·.v)) (hsl:∀v,(a2t ns v).length≤100) (ps:List (Nat×Tok)) (q:c6e ns (p::ps)):a2d w (d1i w S Sd NI R po es m (p::ps) ns nr u fi):=
 rn (VC (vl [])) (a0r 30660734292510778096796505754997075419576922938152839942769038354309120) al0 fun fr tk=>
 us [5,6,4,3,0,1,2] [0] (e2v (F:=fr 1) (Q:=fr 2) (T:=fr 0) (S:=S) (Sd:=Sd) (NI:=NI) (R:=R) (po:=po) (es:=es) (m:=m) q.nd q.len q.hin q.m1 q.free hsu hsl (fe:=fi + ((p::ps).length:Int)) (p::ps).length 0 rfl (fo:=fob w.params (e6v (f3a tk) S (fr 0) NI) 3) (ti:=0) (ns:=ns) (rd:=[]) (nr:=nr) (u:=u) (fi:=fi) (.inl ⟨_,rfl⟩) (Nat.zero_le _) (a8b.nil h) rfl) fun y hy=>
 rn (VU (vl [])) [] al0 fun _ _=>.ret [1,2,3,0] [0] y hy
theorem d1l {ns:List Nd} (h:a4l ns) (hsu:∀v x,x∈a2t ns v→x∈ns.map (·.v)) (hsl:∀v,(a2t ns v).length≤100) {ps:List (Nat×Tok)} (h0:ps≠[]) (q:c6e ns ps):(d1i w S Sd NI R po es m ps ns nr u fi).H w:=by
 cases ps with
 | nil=>exact absurd rfl h0
 | cons p ps=>exact Ctr.cl1 (0,0) 4 (C:=fun ps=>d1i w S Sd NI R po es m (p::ps) ns nr u fi) (Q:=fun ps=>c6e ns (p::ps)) (d9p p h hsu hsl) (fun _=>rfl) (by kernel_rfl) ps (Nat.le_of_succ_le_succ q.len) q
theorem b4i {xs:Array Value} (hx:xs.size≤1000000) {b:Bool} (hb:b=decide (xs.size≠0)):(d0h w S Sd NI R u po es xs nr b).H w:=by
 by_cases hz:xs.size=0
 ·obtain rfl:b=false:=by rw [hb];simp [hz]
  exact Ctr.c1 (rn (VU (vl [])) (a0r 615964117131832156660423102733562753566892749221261773549897233932315574789077818039112250070275404850352263806976) (al hx (al hz (al1 (Int.lt_irrefl po)))) fun _ _=>.ret [0,1,2] [] () trivial) rfl (by kernel_rfl)
 ·obtain rfl:b=true:=by rw [hb];simp [hz]
  exact Ctr.c1 (rn (VU (vl [])) (a0r 625583747550873777561858415258011878031023544941590251740314297751711502955947254223539561167659417457971069468672) (al hx (al (p:=0 < xs.size) (by omega) (al1 (Int.lt_irrefl po)))) fun _ _=>.ret [0,1,2] [] () trivial) rfl (by kernel_rfl)
end
noncomputable def f3y (w:World) (l:Addr) (zs:List (Int×Tok)) (m:Nat):Ctr where
 eo:=none
 d:=600
 u:=9799
 c:=.call (.builtin "min") ⟨[.ref l],[]⟩
 L:=[(l,a0a (inA zs) m)]
 G:=[]
 Y:=Q2 Int Tok
 ok:=fun y=>a1d (zs.map (·.1)) y.a
 r:=fun y=>.ok (.ret (.int y.a y.b))
 L':=fun _=>[(l,a0a (inA zs) m)]
 G':=fun _=>[]
noncomputable def c6m (w:World) (Q A Dd F H HD O:Addr) (os:List Of) (n:Nat) (rk:List Rk) (x:Int) (hf:Nat→Int) (t0 t1:Tok) (hs:List Ht) (eh k:Nat) (dc:Obj) (ti:Tok) (zs:List (Int×Tok)) (m:Nat):Ctr where
 eo:=none
 d:=470
 u:=7700
 c:=e5o Q A Dd F H
 L:=[(Q,a0z (.ref O) k ti),(O,a0a (ofr os) n),(Dd,dc),(A,a0a (inA zs) m),(H,a0n (.ref HD)),(HD,dob w.params (htR t0 t1 hs) eh)]
 G:=[os.map Of.ob]
 Y:=Q3 Obj (List (Int×Tok)) Nat
 ok:=fun y=>OnG w.params y.a∧y.b.map (·.1)=zs.map (·.1)++(rk.map (fun r=>hf r.1 + r.2.2)++[x]).drop k
 r:=fun _=>.ok .next
 L':=fun y=>[(O,a0a (ofr os) n),(Dd,y.a),(A,a0a (inA y.b) y.c),(H,a0n (.ref HD)),(HD,dob w.params (htR t0 t1 hs) eh)]
 G':=fun y=>[os.map Of.ob]
noncomputable def d7u (w:World) (Q A Dd F H HD O:Addr) (os:List Of) (n:Nat) (rk:List Rk) (x:Int) (hf:Nat→Int) (t0 t1:Tok) (hs:List Ht) (eh:Nat):Ctr where
 eo:=none
 d:=460
 u:=7600
 c:=e8c Q A Dd F H
 L:=[(Q,a0z (.ref O) 0 0),(O,a0a (ofr os) n),(Dd,dob w.params [] 0),(A,a0a (inA []) 0),(H,a0n (.ref HD)),(HD,dob w.params (htR t0 t1 hs) eh)]
 G:=[os.map Of.ob]
 Y:=Q3 Obj (List (Int×Tok)) Nat
 ok:=fun y=>OnG w.params y.a∧y.b.map (·.1)=rk.map (fun r=>hf r.1 + r.2.2)++[x]
 r:=fun _=>.ok .next
 L':=fun y=>[(O,a0a (ofr os) n),(Dd,y.a),(A,a0a (inA y.b) y.c),(H,a0n (.ref HD)),(HD,dob w.params (htR t0 t1 hs) eh)]
 G':=fun y=>[os.map Of.ob]
noncomputable def d3j (w:World) (F H HD Q I S T:Addr) (vs:List Iv) (mi:Nat) (hf:Nat→Int) (t0 t1:Tok) (ps:List (Nat×Tok)) (sl:Array (Option Value)) (k:Nat) (t:Nat→Tok) (s:Str) (ti:Tok) (hs:List Ht) (eh:Nat):Ctr where
 eo:=none
 d:=450
 u:=7500
 c:=f4e Q F H
 L:=[(F,a1k w.params (e1z t I S s T) 4 sl),(Q,c6t (.ref T) k ti),(T,b2q (suV ps) 0),(I,dob w.params (vs.map Iv.row) mi),(H,a0n (.ref HD)),(HD,dob w.params (htR t0 t1 hs) eh)]
 G:=[ivL vs]
 Y:=Q4 (Nat→Tok) Str (List Ht) Nat
 ok:=fun y=>a9z hf y.c∧y.c.map (·.v)=hs.map (·.v)++(ps.drop k).map (·.1)
 r:=fun _=>.ok .next
 L':=fun y=>[(F,a1k w.params (e1z y.a I S y.b T) 4 sl),(T,b2q (suV ps) 0),(I,dob w.params (vs.map Iv.row) mi),(H,a0n (.ref HD)),(HD,dob w.params (htR t0 t1 y.c) y.d)]
 G':=fun y=>[ivL vs]
noncomputable def HwG (P:Params) (I S:Addr) (fo:Obj):Prop:=(∃z:Q3 (Nat→Tok) Str (Array (Option Value)),fo=a1k P (c2p z.a I S z.b) 3 z.c)∨∃z:Q4 (Nat→Tok) Str Addr (Array (Option Value)),fo=a1k P (e1z z.a I S z.b z.c) 4 z.d
noncomputable def hwC (w:World) (F H HD I S Sd NI R:Addr) (vs:List Iv) (hf:Nat→Int) (es m mi:Nat) (t0 t1:Tok) (fo:Obj) (hs:List Ht) (eh:Nat) (u:Nat→Tok) (ns:List Nd) (rd:List (Nat×Tok)) (nr:Nat):Ctr where
 eo:=none
 d:=440
 u:=7400
 c:=.whileLoop (lpT heW) (lpB heW) (lpO heW) (b0b F H)
 L:=[(F,fo),(I,dob w.params (vs.map Iv.row) mi),(H,a0n (.ref HD)),(HD,dob w.params (htR t0 t1 hs) eh)]++toL w.params S Sd u NI (.ref R) (hs.length:Int) (hs.length:Int) es (ns.map Nd.row) m++[(R,a0a (suV rd) nr)]
 G:=[ndL ns,ivL vs]
 Y:=Q3 Obj (List Ht) Nat
 ok:=fun y=>HwG w.params I S y.a∧a9z hf y.b∧∀u,u < 5→u∈y.b.map (·.v)
 r:=fun _=>.ok .next
 L':=fun y=>[(F,y.a),(I,dob w.params (vs.map Iv.row) mi),(H,a0n (.ref HD)),(HD,dob w.params (htR t0 t1 y.b) y.c)]
 G':=fun y=>[ivL vs]
section
variable {w:World} {F H HD Q A Dd O I S Sd NI T R:Addr} {t0 t1:Tok} {hf:Nat→Int}
theorem c8r {l:Addr} {zs:List (Int×Tok)} {m:Nat} (hl:zs.length≤1000000) (h0:zs≠[]):(f3y w l zs m).H w:=
 Ctr.ofDoes (fun b1 b2=>c5k (show 600≤600 by decide) hl h0) fun r L h=>by
  obtain ⟨x,t,rfl,h2,rfl⟩:=h
  exact ⟨⟨x,t⟩,h2,rfl,.refl _⟩
theorem f0e {hs:List Ht} (ho:a9z hf hs) (P:Params):dWf P ⟨a0k P (htR t0 t1 hs)⟩:=a1f _ (by have:=ho.len;simp [htR];exact Nat.le_trans this (by decide))
theorem b8u {os:List Of} {rk:List Rk} {x:Int} (hos:os.map Of.key=a9o rk x) (hlen:rk.length≤100) {n eh:Nat} {hs:List Ht} (ho:a9z hf hs) (hin:∀r∈rk,r.1∈hs.map (·.v)):
  ∀j k,j + k=os.length→∀{dc ti zs m},OnG w.params dc→zs.length≤k→(c6m w Q A Dd F H HD O os n rk x hf t0 t1 hs eh k dc ti zs m).H w:=by
 have hl:=b9v hos
 intro j
 induction j with
 | zero=>
  intro k hk dc ti zs m hdc hz
  exact Ctr.p0 (rn (VT (vl [])) (a0r 4947802587201) (al1 (a3f (fun e:Of=>.ref e.a) os (sk0 hk))) fun _ _=>.ret [1,2,3,4,5] [0] ⟨dc,zs,m⟩ ⟨hdc,by rw [List.drop_of_length_le (by simp;omega)];exact (List.append_nil _).symm⟩) rfl (by kernel_rfl)
 | succ j ih=>
  intro k hk dc ti zs m hdc hz
  obtain ⟨e,he⟩:=a1u hk
  have hval:Ey2 fun y t=>An3 (a5p (htR t0 t1 hs) e.s= .int y t) (e.s∈a1m (htR t0 t1 hs)) ((rk.map (fun r=>hf r.1 + r.2.2)++[x]).drop k=(y + e.x)::(rk.map (fun r=>hf r.1 + r.2.2)++[x]).drop (k + 1)):=by
   rcases c7x hos he with ⟨r,hr,hs',hx⟩ | ⟨hkr,hs',hx⟩
   ·obtain ⟨en,hen,hev⟩:=List.mem_map.mp (hin r (List.mem_of_getElem? hr))
    refine ⟨en.h,en.th,?_,?_,?_⟩
    ·rw [hs',←hev];exact b1d ho hen
    ·rw [a7m,hs'];exact .inr ⟨en,hen,by rw [hev]⟩
    ·have h1:(rk.map (fun r=>hf r.1 + r.2.2)++[x])[k]?=some (hf r.1 + r.2.2):=by
      rw [List.getElem?_append_left (by rw [List.length_map];exact (List.getElem?_eq_some_iff.mp hr).1),List.getElem?_map,hr];rfl
     rw [a1b h1,ho.h en hen,hev,hx]
   ·refine ⟨0,t1,?_,?_,?_⟩
    ·rw [hs'];exact d5a
    ·rw [a7m,hs'];exact .inl rfl
    ·subst hkr
     rw [List.drop_append_of_le_length (by simp),List.drop_of_length_le (by simp),List.drop_of_length_le (by simp)]
     simp [hx]
  obtain ⟨y,ty,hv1,hv2,hv3⟩:=hval
  exact Ctr.p1 (rw' [] [0] (a1q (a8m he)) <| shp (a:=Dd) 3 hdc (⟨fun tk=>onD w.params ⟨fun i=>match i with | 0=>Nat.succ (tk 1) | 1=>e.ts | 2=>Nat.succ (tk 2) | _=>e.tx,e.s,e.x⟩,fun _=>.inr ⟨_,rfl⟩⟩:Sh (OnG w.params)) (fun z=>⟨fun _=>onD w.params ⟨a0q (a0q z.a 1 e.ts) 3 e.tx,e.s,e.x⟩,fun _=>.inr ⟨_,rfl⟩⟩) fun d=>
   rn (VT (vl [.ref e.a,.int y ty])) (a0r 528527534788779539373542230354297667754813834942088687452228385300298048991633271955587) (al (p:=(inA zs).size≤1000000) (by rw [a6m];omega) (al (a5f w.params (by have:=ho.len;simp [htR];exact Nat.le_trans this (by decide)) hv2 hv1) (al1 (a4q (fun e:Of=>.ref e.a) he)))) fun _ tk=>
   rw' [4] [] (c2z (fun p:Int×Tok=>Value.int p.1 p.2) zs (y + e.x,Nat.succ (tk 4)) (a:=A) (n:=m + 1)) <| rw' [2] [0] (a1j (a8m he)) <|
   agn [2,3,1,0,4,5] [0] (ih (k + 1) (sk1 hk) (dc:=d.d tk) (ti:=0) (zs:=zs++[(y + e.x,Nat.succ (tk 4))]) (m:=m + 1) (d.ok tk) (by simp;omega)) [0,1,2,3,4] [0] (fun y=>y) fun q hq=>⟨hq.1,by rw [hq.2,hv3,List.map_append,List.append_assoc];rfl⟩) rfl (by kernel_rfl)
theorem c7k {os:List Of} {rk:List Rk} {x:Int} (hos:os.map Of.key=a9o rk x) (hlen:rk.length≤100) {n eh:Nat} {hs:List Ht} (ho:a9z hf hs) (hin:∀r∈rk,r.1∈hs.map (·.v)):(d7u w Q A Dd F H HD O os n rk x hf t0 t1 hs eh).H w:=
 Ctr.p2 (rnb (VT (vl [])) (fun b2=>hzB b2 1 17043521) al0 fun _ _=>agn [0,1,2,3,4,5] [0] (b8u (Q:=Q) (A:=A) (Dd:=Dd) (F:=F) (H:=H) (HD:=HD) (O:=O) (t0:=t0) (t1:=t1) (eh:=eh) hos hlen ho hin (n:=n) os.length 0 rfl (dc:=dob w.params [] 0) (ti:=0) (zs:=[]) (m:=0) (.inl rfl) (Nat.le_refl _)) [0,1,2,3,4] [0] (fun y=>y) fun _ h=>h) rfl (by kernel_rfl)
theorem a9z.add {hs:List Ht} (ho:a9z hf hs) {e:Ht} (h1:e.v < 5) (h2:e.h=hf e.v) (h3:e.v∉hs.map (·.v)):a9z hf (hs++[e]):=by
 refine ⟨fun x hx=>?_,fun x hx=>?_,?_⟩
 ·rcases List.mem_append.mp hx with hx | hx
  ·exact ho.lt x hx
  ·rw [List.mem_singleton] at hx;subst hx;exact h1
 ·rcases List.mem_append.mp hx with hx | hx
  ·exact ho.h x hx
  ·rw [List.mem_singleton] at hx;subst hx;exact h2
 ·rw [List.map_append,List.nodup_append]
  refine ⟨ho.nd,List.nodup_cons.mpr ⟨List.not_mem_nil,List.nodup_nil⟩,fun a ha b hb=>?_⟩
  have:b=e.v:=by simpa using hb
  rintro rfl
  rw [this] at ha
  exact h3 ha
theorem c9q (P:Params) (a:Addr) (n:Nat) (hs:List Ht) (e:Ht):([(a,a8d (c6g P ⟨a0k P (htR t0 t1 hs)⟩ (nm e.v) e.tv (.int e.h e.th)) n)]++gl []).Perm ([(a,dob P (htR t0 t1 (hs++[e])) n)]++gl []):=a0u (by rw [a3y,d3f])
theorem c1q {rkf:Nat→List Rk} {own:Nat→Int} {vs:List Iv} (hv:c8d rkf own vs) (hleast:∀v,v < 5→a1d ((rkf v).map (fun r=>hf r.1 + r.2.2)++[own v]) (hf v)) {ps:List (Nat×Tok)} (hpv:∀p∈ps,p.1∈vs.map (·.j)) (hpn:(ps.map (·.1)).Nodup) {sl:Array (Option Value)} {mi:Nat}:
  ∀j k,j + k=ps.length→∀{t s ti hs eh},a9z hf hs→(∀p∈ps.drop k,p.1∉hs.map (·.v))→(∀p∈ps.drop k,∀r∈rkf p.1,r.1∈hs.map (·.v))→(d3j w F H HD Q I S T vs mi hf t0 t1 ps sl k t s ti hs eh).H w:=by
 have hvl:=hv.len
 intro j
 induction j with
 | zero=>
  intro k hk t s ti hs eh ho hni hin
  exact Ctr.p0 (rn (VU (vl [])) (a0r 4947802853442) (al1 (a3f (fun p:Nat×Tok=>.str (nm p.1) p.2) ps (sk0 hk))) fun _ _=>.ret [0,2,3,4,5] [0] ⟨t,s,hs,eh⟩ ⟨ho,by rw [List.drop_of_length_le (sk0 hk)];exact (List.append_nil _).symm⟩) rfl (by kernel_rfl)
 | succ j ih=>
  intro k hk t s ti hs eh ho hni hin
  obtain ⟨p,hp⟩:=a1u hk
  have hdk:=a1b hp
  have hpm:p∈ps.drop k:=by rw [hdk];exact .head _
  obtain ⟨v,hvm,hvj⟩:=List.mem_map.mp (hpv p (List.mem_of_getElem? hp))
  have hv5:=hv.lt v hvm
  obtain ⟨X,hX⟩:=c3l hvm
  have hzl:∀{zs:List (Int×Tok)},zs.map (·.1)=(rkf v.j).map (fun r=>hf r.1 + r.2.2)++[own v.j]→zs.length≤1000000∧zs≠[]:=fun {zs} a=>⟨by
   have:=congrArg List.length a
   simp only [List.length_map,List.length_append,List.length_cons,List.length_nil] at this
   have:=hv.rl v.j
   omega,by rintro rfl;simp at a⟩
  have hnv:v.j∉hs.map (·.v):=by rw [hvj];exact hni p hpm
  have hne:¬a3m ⟨a0k w.params (htR t0 t1 hs)⟩ (nm v.j):=fun z=>by
   rcases a7m.mp ((a0l _ _ _).mp z) with h | ⟨e,he,h⟩
   ·exact c9s h
   ·exact hnv (List.mem_map.mpr ⟨e,he,(a2u hv5 (ho.lt e he) h).symm⟩)
  have hnd':=hpn
  rw [←List.take_append_drop k ps,List.map_append,hdk,List.map_cons,List.nodup_append] at hnd'
  have hp':ps[k]?=some (v.j,p.2):=by rw [hp,hvj]
  exact Ctr.p1 (rw' [] [0] (a2g hX) <| rn (VU (vl [.str (nm v.j) p.2,.ref v.O])) (a0r 6126432926599389775110357040275382870147)
    (al (a5f w.params (by rw [List.length_map];exact Nat.le_trans hvl (by decide)) (by unfold a1m;rw [List.map_map];exact List.mem_map.mpr ⟨v,hvm,rfl⟩) (b5m hv.lt hv.nd hvm)) (al1 (a4q (fun p:Nat×Tok=>.str (nm p.1) p.2) hp'))) fun fr tk=>
   us [7,0,9,8,5,6] [0] (c7k (Q:=fr 0) (A:=fr 1) (Dd:=fr 2) (F:=F) (H:=H) (HD:=HD) (O:=v.O) (t0:=t0) (t1:=t1) (n:=v.m) (eh:=eh) (hv.os v hvm) (by have:=hv.rl v.j;exact Nat.le_trans this (by decide)) ho (fun r hr=>hin p hpm r (by rw [←hvj];exact hr))) fun y hy=>
   shp (a:=fr 2) 1 hy.1 4161 (fun _=>68736516161) fun hh=>rn (VU (vl [])) (a0r hh) al0 fun _ _=>
   us [2] [] (c8r (l:=fr 1) (zs:=y.b) (m:=y.c) (hzl hy.2).1 (hzl hy.2).2) fun mn hmn=>
   rn (VU (vl [])) (a0r 69861659012) (al (f0e (t0:=t0) (t1:=t1) ho w.params) (al1 hne)) fun _ _=>
   rw' [4] [] (c9q (t0:=t0) (t1:=t1) w.params HD (eh + 1) hs ⟨v.j,p.2,mn.a,mn.b⟩) <| rw' [3] [0,1] (a2g hX).symm <|
   agn [4,5,6,7,3,0] [0] (ih (k + 1) (sk1 hk) (t:=a0q t 3 p.2) (s:=nm v.j) (ti:=0) (hs:=hs++[⟨v.j,p.2,mn.a,mn.b⟩]) (eh:=eh + 1) (ho.add hv5 ((by have h:a1d (List.map (·.1) (show Q3 Obj (List (Int×Tok)) Nat from y).b) mn.a:=hmn;rw [hy.2] at h;exact h:a1d _ mn.a).uniq (hleast v.j hv5)) hnv)
    (fun q hq hm=>by
     rw [List.map_append] at hm
     rcases List.mem_append.mp hm with hm | hm
     ·exact hni q (by rw [hdk];exact .tail _ hq) hm
     ·have:q.1=v.j:=by simpa using hm
      exact (List.nodup_cons.mp hnd'.2.1).1 (List.mem_map.mpr ⟨q,hq,by rw [this,hvj]⟩))
    (fun q hq r hr=>by rw [List.map_append];exact List.mem_append_left _ (hin q (by rw [hdk];exact .tail _ hq) r hr))) [0,1,2,3,4] [0] (fun y=>y) fun q hq=>⟨hq.1,by rw [hq.2,hdk,List.map_append,List.append_assoc];show _++([v.j]++_)=_;rw [hvj];rfl⟩) rfl (by kernel_rfl)
end
theorem Ctr.ofDoesF {w:World} {C:Ctr} {es:List Env} {R:a6i} (he:C.eo=some es) (h:∀b1 b2,b2s (W w b1 b2) C.d C.u es C.c (C.L++gl C.G) R) (hR:∀r L,R r L→∃y,C.ok y∧r=C.r y∧a2i (C.L' y++gl (C.G' y)) L):C.H w:=fun b1 b2 A s hA S=>
 codeAny_mono (h b1 b2 A s ⟨hA.1,hA.2 _ he⟩ S) fun r s' q=>a1p (.refl _) q fun r L' _ hr=>by
  obtain ⟨y,h1,h2,h3⟩:=hR r L' hr
  exact ⟨_,h3,y,h1,h2,rfl⟩
theorem d8j (a:Addr) (o:Obj) (G:Led):([(a,o)]++gl [G]).Perm ([]++gl [(a,o)::G]):=.refl _
theorem c1a {a:Addr} {o:Obj} {G G':Led} (h:G'=(a,o)::G):([]++gl [G']).Perm ([(a,o)]++gl [G]):=by rw [h];exact .refl _
theorem b5n {P:Params} {rows:List Row} {n:Nat} {sl:Array (Option Value)} {a:Addr} {G G':Led} (h:a4p ((a,a1k P rows n sl)::G) G'):∃z:Q2 (Array (Option Value)) Led,G'=(a,a1k P rows n z.a)::z.b∧a4p G z.b:=by
 cases h with
 | cons _ _ sl h=>exact ⟨⟨sl,_⟩,rfl,h⟩
abbrev SeZ:Type:=Q3 (Array (Int×Value)) Nat SetTable
noncomputable abbrev sez (z:SeZ):Obj:=e5q z.a z.b z.c
noncomputable def e6a (w:World) (a:Addr) (z:SeZ) (s:Str) (t:Tok) (b:Bool):Ctr where
 eo:=none
 d:=600
 u:=9799
 c:=.call (.builtin "set.__contains__") ⟨[.ref a,.str s t],[]⟩
 L:=[(a,sez z)]
 G:=[]
 Y:=Unit
 ok:=fun _=>True
 r:=fun _=>.ok (.ret (.bool b))
 L':=fun _=>[(a,sez z)]
 G':=fun _=>[]
noncomputable def e9q (w:World) (a:Addr) (z:SeZ) (Sf:Str→Bool) (n:Nat) (s:Str) (t:Tok):Ctr where
 eo:=none
 d:=600
 u:=9799
 c:=.call (.builtin "set.add") ⟨[.ref a,.str s t],[]⟩
 L:=[(a,sez z)]
 G:=[]
 Y:=SeZ
 ok:=fun y=>a6r w (sez y) (fun k=>Sf k || decide (k=s)) (n + 1)
 r:=fun _=>.ok (.ret .none)
 L':=fun y=>[(a,sez y)]
 G':=fun _=>[]
structure FcZ where
 st:List Kf
 t:Nat→Tok
 s:Str
 sl:Array (Option Value)
 ea:Nat
 eb:Nat
 ed:Nat
 G:Led
noncomputable abbrev b7t (P:Params) (F S NI A B C DD:Addr) (z:FcZ):Led:=[(F,a1k P (a5u z.t S NI A B C DD z.s) 7 z.sl),(A,a0a (kA z.st) z.ea),(B,a0a (kB z.st) z.eb),(DD,dob P (kD z.st) z.ed)]
structure FcN (ns:List Nd) (M0 v:Nat) (z:FcZ):Prop where
 ok:b1l ns z.st
 m:kM z.st < M0
 v5:v < 5
 vn:v∈ns.map (·.v)
 lt:∀k∈z.st,k.n.v < v
 s:z.s=nm v
noncomputable def e6r (w:World) (es:List Env) (F S NI A B C DD:Addr) (ns:List Nd) (M0:Nat) (z:FcZ):Ctr where
 eo:=some (a1x F::es)
 d:=480
 u:=7800
 c:=f3r F
 L:=b7t w.params F S NI A B C DD z
 G:=[kL z.st,ndL ns,z.G]
 Y:=Q2 Bool FcZ
 ok:=fun y=>a4p z.G y.b.G∧match y.a with
  | true=>y.b.st=[]
  | false=>∃v,FcN ns M0 v y.b
 r:=fun y=>.ok (match y.a with | true=>.brk | false=>.next)
 L':=fun y=>b7t w.params F S NI A B C DD y.b
 G':=fun y=>[kL y.b.st,ndL ns,y.b.G]
noncomputable abbrev f2x (F:Addr):Code:=.whileLoop (lpT fcW) (lpB fcW) (lpO fcW) (a1x F)
structure FcO where
 z:FcZ
 q:SeZ
 Sf:Str→Bool
 n:Nat
noncomputable def d7l (w:World) (es:List Env) (F S NI A B C DD:Addr) (ns:List Nd) (m K:Nat) (z:FcZ) (q:SeZ):Ctr where
 eo:=some (a1x F::es)
 d:=470
 u:=7700
 c:=f2x F
 L:=[(C,sez q),(NI,dob w.params (ns.map Nd.row) m)]++b7t w.params F S NI A B C DD z
 G:=[kL z.st,ndL ns,z.G]
 Y:=FcO
 ok:=fun y=>a4p z.G y.z.G∧a6r w (sez y.q) y.Sf y.n∧y.n + kU ns y.Sf≤K∧y.z.st=[]
 r:=fun _=>.ok .next
 L':=fun y=>[(C,sez y.q),(NI,dob w.params (ns.map Nd.row) m)]++b7t w.params F S NI A B C DD y.z
 G':=fun y=>[ndL ns,y.z.G]
noncomputable def FcG (P:Params) (S NI A B C DD:Addr) (fo:Obj):Prop:=(∃z:Q2 (Nat→Tok) (Array (Option Value)),fo=a1k P (e8n z.a S NI A B C DD) 6 z.b)∨∃z:Q3 (Nat→Tok) Str (Array (Option Value)),fo=a1k P (a5u z.a S NI A B C DD z.b) 7 z.c
noncomputable def e2g (w:World) (es:List Env) (F Q S NI A B C DD:Addr) (ns:List Nd) (m:Nat) (sz:Int) (k:Nat) (fo:Obj) (q:SeZ) (ea eb ed:Nat) (G:Led):Ctr where
 eo:=some (a1x F::es)
 d:=460
 u:=7600
 c:=fcC Q F
 L:=[(Q,b6d NI k sz m),(F,fo),(C,sez q),(NI,dob w.params (ns.map Nd.row) m),(A,a0a (kA []) ea),(B,a0a (kB []) eb),(DD,dob w.params (kD []) ed)]
 G:=[ndL ns,G]
 Y:=Led
 ok:=fun y=>a4p G y
 r:=fun _=>.ok .next
 L':=fun _=>[(NI,dob w.params (ns.map Nd.row) m)]
 G':=fun y=>[ndL ns,y]
noncomputable def e7n (w:World) (es:List Env) (G:Led) (S Sd NI:Addr) (u:Nat→Tok) (rd:Value) (po fi:Int) (ee m:Nat) (ns:List Nd):Ctr where
 eo:=some es
 d:=450
 u:=7500
 c:=e0q S
 L:=toL w.params S Sd u NI rd po fi ee (ns.map Nd.row) m
 G:=[ndL ns,G]
 Y:=Led
 ok:=fun y=>a4p G y
 r:=fun _=>.ok (.ret .none)
 L':=fun _=>toL w.params S Sd u NI rd po fi ee (ns.map Nd.row) m
 G':=fun y=>[ndL ns,y]
noncomputable def icD (P:Params) (z:Q2 Tok Addr):Obj:=dob P [(s_i,z.a,.ref z.b)] 1
noncomputable def IcG (P:Params) (o:Obj):Prop:=o=dob P [] 0∨∃z,o=icD P z
noncomputable def d4g (w:World) (F Q NI A Dd:Addr) (ns:List Nd) (m:Nat) (sz:Int) (k:Nat) (dc:Obj) (zs:List (Nat×Tok)) (ea:Nat):Ctr where
 eo:=none
 d:=460
 u:=7600
 c:=ppC Q A Dd F
 L:=[(Q,f1l NI k sz m),(NI,dob w.params (ns.map Nd.row) m),(Dd,dc),(A,a0a (suV zs) ea)]
 G:=[ndL ns]
 Y:=Q3 Obj (List (Nat×Tok)) Nat
 ok:=fun y=>IcG w.params y.a∧y.b=zs++rd0 (ns.drop k)
 r:=fun _=>.ok .next
 L':=fun y=>[(NI,dob w.params (ns.map Nd.row) m),(Dd,y.a),(A,a0a (suV y.b) y.c)]
 G':=fun _=>[ndL ns]
noncomputable def e9d (w:World) (F Q NI A Dd:Addr) (ns:List Nd) (m:Nat) (sz:Int):Ctr where
 eo:=none
 d:=450
 u:=7500
 c:=ppS Q A Dd F
 L:=[(Q,f1l NI 0 sz m),(NI,dob w.params (ns.map Nd.row) m),(Dd,dob w.params [] 0),(A,a0a (suV []) 0)]
 G:=[ndL ns]
 Y:=Q3 Obj (List (Nat×Tok)) Nat
 ok:=fun y=>IcG w.params y.a∧y.b=rd0 ns
 r:=fun _=>.ok .next
 L':=fun y=>[(NI,dob w.params (ns.map Nd.row) m),(Dd,y.a),(A,a0a (suV y.b) y.c)]
 G':=fun _=>[ndL ns]
noncomputable def e7d (w:World) (es:List Env) (G:Led) (S Sd NI:Addr) (u:Nat→Tok) (po fi:Int) (ee m:Nat) (ns:List Nd):Ctr where
 eo:=some es
 d:=440
 u:=7400
 c:=d8b S
 L:=toL w.params S Sd u NI .none po fi ee (ns.map Nd.row) m
 G:=[ndL ns,G]
 Y:=Q3 Addr Nat Led
 ok:=fun y=>a4p G y.c
 r:=fun _=>.ok (.ret .none)
 L':=fun y=>toL w.params S Sd u NI (.ref y.a) po fi ee (ns.map Nd.row) m++[(y.a,a0a (suV (rd0 ns)) y.b)]
 G':=fun y=>[ndL ns,y.c]
section
variable {w:World} {F Q S Sd NI A B C DD Dd:Addr} {es:List Env} {G:Led} {ns:List Nd}
theorem e5r (w:World) (b1 b2:Bool):a6r (W w b1 b2)=a6r w:=by kernel_rfl
theorem a8i {a:Addr} {z:SeZ} {s:Str} {t:Tok} {Sf:Str→Bool} {n:Nat} (h:a6r w (sez z) Sf n) (hn:n < 4096) {b:Bool} (hb:Sf s=b):(e6a w a z s t b).H w:=
 Ctr.ofDoes (fun b1 b2=>c3m (w:=W w b1 b2) (by rw [e5r];exact h) hn) fun r L h=>by
  obtain ⟨rfl,rfl⟩:=h
  exact ⟨(),trivial,by rw [hb];rfl,.refl _⟩
theorem c5j {a:Addr} {z:SeZ} {s:Str} {t:Tok} {Sf:Str→Bool} {n:Nat} (h:a6r w (sez z) Sf n) (hn:n + 1 < 4096) (hb:Sf s=false):(e9q w a z Sf n s t).H w:=
 Ctr.ofDoes (R:=fun r L=>r= .ok (.ret .none)∧∃o',a6r w o' (fun k=>Sf k || decide (k=s)) (n + 1)∧L=[(a,o')]) (fun b1 b2=>(c1f (w:=W w b1 b2) (a:=a) (by rw [e5r];exact h) hn).mono (.refl _) fun r L' _ hr=>⟨L',.refl _,by
  obtain ⟨h1,o,h2,h3⟩:=hr
  rw [hb,e5r] at h2
  exact ⟨h1,o,h2,h3⟩⟩) fun r L hr=>by
  obtain ⟨rfl,o,h1,rfl⟩:=hr
  obtain ⟨e,p,t,rfl⟩:=c4x h1
  exact ⟨⟨e,p,t⟩,h1,rfl,.refl _⟩
theorem e9t (w:World) (b1 b2:Bool):b7l (W w b1 b2).params=b7l w.params:=by kernel_rfl
theorem e9z (w:World) (b1 b2:Bool) {t:Nat→Tok} {s:Str} {sl:Array (Option Value)} {st:List Kf} {ea eb ed:Nat}:fcL (W w b1 b2).params F t S NI A B C DD s sl st ea eb ed=fcL w.params F t S NI A B C DD s sl st ea eb ed:=by kernel_rfl
theorem c2q {z:FcZ} {M0:Nat} (hG:b1c es z.G) (u:b9c ns) (h:b1l ns z.st) (hm:kM z.st≤M0):(e6r w es F S NI A B C DD ns M0 z).H w:=
 Ctr.ofDoesF (es:=a1x F::es) (R:=b7l w.params F S NI A B C DD z.G ns M0) rfl (fun b1 b2=>by
  have h:=c4j (w:=w) (b1:=b1) (b2:=b2) (D:=480) (U:=7800) (F:=F) (S:=S) (NI:=NI) (A:=A) (B:=B) (C:=C) (DD:=DD) (by decide) hG u M0 (t:=z.t) (s:=z.s) (sl:=z.sl) (ea:=z.ea) (eb:=z.eb) (ed:=z.ed) h hm
  rw [e9t,e9z] at h
  exact h.mono (.of_perm (by exact lpp [_,_,_,_] [2,3,4,5,1,0,0,0,0] [2,3,0,4,0,5,0] rfl)) fun r L' _ hr=>⟨L',.refl _,hr⟩) fun r L hr=>by
  rcases hr with ⟨rfl,t,s,sl,ea,eb,ed,G',h1,rfl⟩ | ⟨rfl,st,t,v,sl,ea,eb,ed,G',h1,h2,h3,h4,h5,h6,rfl⟩
  ·exact ⟨⟨true,[],t,s,sl,ea,eb,ed,G'⟩,⟨h1,rfl⟩,rfl,by exact ltt [_,_,_,_] [2,3,4,5,1,0,0,0,0] [2,3,0,4,0,5,0] rfl⟩
  ·exact ⟨⟨false,st,t,nm v,sl,ea,eb,ed,G'⟩,⟨h1,v,h2,h3,h4,h5,h6,rfl⟩,rfl,by exact ltt [_,_,_,_] [2,3,4,5,1,0,0,0,0] [2,3,0,4,0,5,0] rfl⟩
theorem d3e (st:List Kf) (k:Kf):([(k.w,wob k.ia),(k.ia,a0z (.ref k.n.la) k.pos k.tp)]++gl [kL st]).Perm ([]++gl [kL (st++[k])]):=by
 rw [b4b,b3t]
 exact lpp [[_],[_],_] [2,3,4,1,0,0,0] [4,2,3,0,0,1,0] rfl
theorem d1b {st:List Kf} {k:Kf} {v:Nat} (h:b1l ns st) (hn:k.n∈ns) (hv:k.n.v=v) (hp:k.pos=0) (hlt:∀j∈st,j.n.v < v):b1l ns (st++[k]):=by
 refine ⟨fun j hj=>?_,fun j hj=>?_,?_⟩
 ·rcases List.mem_append.mp hj with hj | hj
  ·exact h.mem j hj
  ·rw [List.mem_singleton] at hj;subst hj;exact hn
 ·rcases List.mem_append.mp hj with hj | hj
  ·exact h.pos j hj
  ·rw [List.mem_singleton] at hj;subst hj;rw [hp];exact Nat.zero_le _
 ·rw [List.map_append,List.pairwise_append]
  refine ⟨h.lt,by simp,fun a ha b hb=>?_⟩
  obtain ⟨j,hj,rfl⟩:=List.mem_map.mp ha
  have:b=k.n.v:=by simpa using hb
  rw [this,hv];exact hlt j hj
theorem e1c {ns:List Nd} {M0:Nat} {z:FcZ}:∀y:Q2 Bool FcZ,(a4p z.G y.b.G∧match y.a with | true=>y.b.st=[] | false=>∃v,FcN ns M0 v y.b)→(∃q:FcZ,y=⟨true,q⟩)∨∃q:FcZ,y=⟨false,q⟩
 | ⟨true,q⟩,_=>.inl ⟨q,rfl⟩
 | ⟨false,q⟩,_=>.inr ⟨q,rfl⟩
theorem c4i (u:b9c ns) {m K:Nat} (hK:K≤4000):∀j {z:FcZ} {q:SeZ} {Sf:Str→Bool} {n v:Nat},kU ns Sf + kM z.st=j→b1c es z.G→a6r w (sez q) Sf n→b1l ns z.st→n + kU ns Sf≤K→v < 5→v∈ns.map (·.v)→(∀k∈z.st,k.n.v < v)→z.s=nm v→(d7l w es F S NI A B C DD ns m K z q).H w:=by
 intro j
 induction j using Nat.strongRecOn with
 | ind j ih=>
  intro z q Sf n v hj hG hq hst hle hv5 hvn hlt hzs
  have hlen:=hst.len u
  have hn1:n < 4096:=by omega
  have hwd:dWf w.params ⟨a0k w.params (kD z.st)⟩:=a1f _ (by simp [kD];exact Nat.le_trans hlen (by decide))
  have hnot:¬a3m ⟨a0k w.params (kD z.st)⟩ z.s:=fun h=>by
   rw [hzs] at h
   obtain ⟨k,hk,e⟩:=List.mem_map.mp ((c8l u hst hv5).mp ((a0l _ _ _).mp h))
   have:=hlt k hk
   omega
  cases hs:Sf z.s with
  | true=>
   exact Ctr.p1 (rn (VU (vl [])) (a0r 17043651) al0 fun _ _=>us [0] [] (a8i (a:=C) (z:=q) (s:=z.s) (t:=z.t 7) hq hn1 hs) fun _ _=>
    rn (VU (vl [])) (a0r 68804960451) (al hwd (al1 hnot)) fun _ _=>
    uu2 [2,3,4,5] [0,1,2] (c2q (F:=F) (S:=S) (NI:=NI) (A:=A) (B:=B) (C:=C) (DD:=DD) hG u hst (Nat.le_refl _)) (fun z2=>⟨true,z2⟩) (fun z2=>⟨false,z2⟩) e1c
     (fun z2 h=>rn (VU (vl [])) [] al0 fun _ _=>.ret [4,5,0,1,2,3] [1,2] ⟨z2,q,Sf,n⟩ ⟨h.1,hq,hle,h.2⟩)
     (fun z2 h=>.ex Nat (fun v=>FcN ns (kM z.st) v z2) h.2 fun v2 h2=>rn (VU (vl [])) [] al0 fun _ _=>
      agn [4,5,0,1,2,3] [0,1,2] (ih (kU ns Sf + kM z2.st) (by have:=h2.m;omega) rfl (hG.slEq h.1) hq h2.ok hle h2.v5 h2.vn h2.lt h2.s) [0,1,2,3,4,5] [0,1] (fun y=>y) fun y hy=>⟨h.1.trans hy.1,hy.2⟩)) rfl (by kernel_rfl)
  | false=>
   obtain ⟨nd,hnd,hnv⟩:=List.mem_map.mp hvn
   obtain ⟨i,hi⟩:=List.mem_iff_getElem?.mp hnd
   have hs':Sf (nm nd.v)=false:=by rw [hnv,←hzs];exact hs
   have hkadd:=e0h hnd hs'
   rw [hnv,←hzs] at hkadd
   exact Ctr.p1 (rw' [] [1] (a4g hi) <| rn (VU (vl [])) (a0r 17576261) al0 fun _ _=>us [2] [] (a8i (a:=C) (z:=q) (s:=z.s) (t:=z.t 7) hq hn1 hs) fun _ _=>
    rn (VU (vl [])) (a0r 74105229381) al0 fun _ _=>
    us [0] [] (c5j (a:=C) (z:=q) (s:=z.s) (t:=z.t 7) hq (by omega) hs) fun q2 hq2=>
    rn (VU (vl [.ref nd.a])) (a0r 45665490558317793961774175310869110801494311179061316430261404535399863242828230379511454349708774134446691944926300017029573) (al (p:=(kA z.st).size≤1000000) (by rw [a7h];exact Nat.le_trans hlen (by decide)) (al hwd (al hnot (al (p:=(kA z.st).size≤1000000) (by rw [a7h];omega) (al (p:=(kB z.st).size≤1000000) (by rw [a6e];omega) (al1 (by rw [hzs];exact c2o w.params u.ns hnd hnv:a3t [a5x ⟨a0k w.params (ns.map Nd.row)⟩ z.s= .ref nd.a,dWf w.params ⟨a0k w.params (ns.map Nd.row)⟩,a3m ⟨a0k w.params (ns.map Nd.row)⟩ z.s]))))))) fun fr tk=>
    rw' [5] [] (a1o (a:=A) (n:=z.ea + 1) (xs:=(kA z.st).push (.str z.s (z.t 7))) (ys:=kA (z.st++[⟨nd,z.t 7,.int (kA z.st).size (Nat.succ (tk 4)),fr 1,fr 0,0,0⟩])) (by rw [hzs];simp [kA,hnv])) <|
    rw' [6] [] (a1o (a:=B) (n:=z.eb + 1) (xs:=(kB z.st).push (.ref (fr 1))) (ys:=kB (z.st++[⟨nd,z.t 7,.int (kA z.st).size (Nat.succ (tk 4)),fr 1,fr 0,0,0⟩])) (by simp [kB])) <|
    rw' [7] [] (a0u (a:=DD) (o:=a8d (c6g w.params ⟨a0k w.params (kD z.st)⟩ z.s (z.t 7) (.int (kA z.st).size (Nat.succ (tk 4)))) (z.ed + 1)) (o':=dob w.params (kD (z.st++[⟨nd,z.t 7,.int (kA z.st).size (Nat.succ (tk 4)),fr 1,fr 0,0,0⟩])) (z.ed + 1)) (by rw [a3y,hzs];simp [kD,hnv])) <|
    rw' [9,8] [1] (d3e z.st ⟨nd,z.t 7,.int (kA z.st).size (Nat.succ (tk 4)),fr 1,fr 0,0,0⟩) <| rw' [4,5] [1] (a4g hi).symm <|
    uu2 [5,2,1,0] [1,0,2] (c2q (F:=F) (S:=S) (NI:=NI) (A:=A) (B:=B) (C:=C) (DD:=DD) (z:=⟨z.st++[⟨nd,z.t 7,.int (kA z.st).size (Nat.succ (tk 4)),fr 1,fr 0,0,0⟩],z.t,z.s,z.sl,z.ea + 1,z.eb + 1,z.ed + 1,z.G⟩) (M0:=kM z.st + (nd.su.length + 1)) hG u (d1b hst hnd hnv rfl hlt) (by rw [c2e];simp [kM])) (fun z2=>⟨true,z2⟩) (fun z2=>⟨false,z2⟩) e1c
     (fun z2 h=>rn (VU (vl [])) [] al0 fun _ _=>.ret [4,5,0,1,2,3] [1,2] ⟨z2,q2,fun k=>Sf k || decide (k=z.s),n + 1⟩ ⟨h.1,hq2,by show n + 1 + kU ns (fun k=>Sf k || decide (k=z.s))≤K;omega,h.2⟩)
     (fun z2 h=>.ex Nat (fun v=>FcN ns (kM z.st + (nd.su.length + 1)) v z2) h.2 fun v2 h2=>rn (VU (vl [])) [] al0 fun _ _=>
      agn [4,5,0,1,2,3] [0,1,2] (ih (kU ns (fun k=>Sf k || decide (k=z.s)) + kM z2.st) (by have:=h2.m;omega) rfl (hG.slEq h.1) hq2 h2.ok (by omega) h2.v5 h2.vn h2.lt h2.s) [0,1,2,3,4,5] [0,1] (fun y=>y) fun y hy=>⟨h.1.trans hy.1,hy.2⟩)) rfl (by kernel_rfl)
theorem c5m (hG0:b1c es G) (u:b9c ns) {m K:Nat} (hK:K≤4000) {sz:Int} (hsz:sz=ns.length):
  ∀j k,j + k=ns.length→∀{fo q Sf n ea eb ed G'},FcG w.params S NI A B C DD fo→a6r w (sez q) Sf n→n + kU ns Sf≤K→a4p G G'→(e2g w es F Q S NI A B C DD ns m sz k fo q ea eb ed G').H w:=by
 have hns:=u.ns.len
 have hsz':sz=((⟨a0k w.params (ns.map Nd.row)⟩:Array DictEntry).size:Int):=by rw [a0t,List.length_map];exact hsz
 intro j
 induction j with
 | zero=>
  intro k hk fo q Sf n ea eb ed G' hfo hq hle hsl
  exact Ctr.p0 (a9t (a:=F) 1 hfo (fun _=>()) (fun _=>()) fun _=>rn (VU (vl [])) (a0r 5016522592322) (al1 (p:=a3t [0≤(k:Int),((⟨a0k w.params (ns.map Nd.row)⟩:Array DictEntry).size:Int)≤(k:Int),sz=((⟨a0k w.params (ns.map Nd.row)⟩:Array DictEntry).size:Int),(m:Int)=(m:Int)]) ⟨Int.natCast_nonneg k,by rw [a0t,List.length_map];omega,hsz',rfl,trivial⟩)
   fun _ _=>.ret [3] [0,1] G' (a4p.refl _)) rfl (by kernel_rfl)
 | succ j ih=>
  intro k hk fo q Sf n ea eb ed G' hfo hq hle hsl
  obtain ⟨nd,hnd⟩:=a1u hk
  have hmem:=List.mem_of_getElem? hnd
  have hv5:=u.lt _ hmem
  have hG:=hG0.slEq hsl
  have ob:a3t [a9d ⟨a0k w.params (ns.map Nd.row)⟩ (k:Int)= .str (nm nd.v) nd.tk,0≤(k:Int),(k:Int) < ((⟨a0k w.params (ns.map Nd.row)⟩:Array DictEntry).size:Int),sz=((⟨a0k w.params (ns.map Nd.row)⟩:Array DictEntry).size:Int),(m:Int)=(m:Int)]:=⟨c3h hnd,Int.natCast_nonneg k,by rw [a0t,List.length_map];omega,hsz',rfl,trivial⟩
  cases hs:Sf (nm nd.v) with
  | true=>
   exact Ctr.p0 (a9t (a:=F) 1 hfo (fun z=>(⟨fun tk=>a0q (a0q z.a 6 (Nat.succ (tk 1))) 7 nd.tk,z.b⟩:Q2 ((Nat→Tok)→Nat→Tok) (Array (Option Value)))) (fun z=>⟨fun _=>a0q z.a 7 nd.tk,z.c⟩) fun d=>
    rn (VU (vl [.str (nm nd.v) nd.tk])) (a0r 4947204472210203611266) (al1 ob) fun _ tk=>us [2] [] (a8i (a:=C) (z:=q) (s:=nm nd.v) (t:=nd.tk) hq (by omega) hs) fun _ _=>
    rn (VU (vl [])) [] al0 fun _ _=>agn [2,1,0,3,4,5,6] [0,1] (ih (k + 1) (sk1 hk) (fo:=a1k w.params (a5u (d.a tk) S NI A B C DD (nm nd.v)) 7 d.b) (ea:=ea) (eb:=eb) (ed:=ed) (.inr ⟨⟨_,_,_⟩,rfl⟩) hq hle hsl) [0] [0,1] (fun y=>y) fun _ h=>h) rfl (by kernel_rfl)
  | false=>
   exact Ctr.p0 (a9t (a:=F) 1 hfo (fun z=>(⟨fun tk=>a0q (a0q z.a 6 (Nat.succ (tk 1))) 7 nd.tk,z.b⟩:Q2 ((Nat→Tok)→Nat→Tok) (Array (Option Value)))) (fun z=>⟨fun _=>a0q z.a 7 nd.tk,z.c⟩) fun d=>
    rn (VU (vl [.str (nm nd.v) nd.tk])) (a0r 4947204472210203611266) (al1 ob) fun _ tk=>us [2] [] (a8i (a:=C) (z:=q) (s:=nm nd.v) (t:=nd.tk) hq (by omega) hs) fun _ _=>
    rn (VU (vl [])) [] al0 fun _ _=>rw' [] [] (d5r (kL [])) <|
    us [0,3,1,4,5,6] [0,1,2] (c4i (es:=es) (F:=F) (S:=S) (NI:=NI) (A:=A) (B:=B) (C:=C) (DD:=DD) (ns:=ns) u hK (kU ns Sf + kM []) (z:=⟨[],d.a tk,nm nd.v,d.b,ea,eb,ed,G'⟩) (q:=q) (m:=m) rfl hG hq ⟨fun _ h=>(nomatch h),fun _ h=>(nomatch h),List.Pairwise.nil⟩ hle hv5 (List.mem_map.mpr ⟨nd,hmem,rfl⟩) (fun _ h=>(nomatch h)) rfl) fun y hy=>
    rn (VU (vl [])) [] al0 fun _ _=>rw' [3] [] (a0u (a:=A) (congrArg (fun l=>a0a (kA l) y.z.ea) hy.2.2.2)) <| rw' [4] [] (a0u (a:=B) (congrArg (fun l=>a0a (kB l) y.z.eb) hy.2.2.2)) <| rw' [5] [] (a0u (a:=DD) (congrArg (fun l=>dob w.params (kD l) y.z.ed) hy.2.2.2)) <|
    agn [6,5,3,4,2,1,0] [0,1] (ih (k + 1) (sk1 hk) (fo:=a1k w.params (a5u y.z.t S NI A B C DD y.z.s) 7 y.z.sl) (ea:=y.z.ea) (eb:=y.z.eb) (ed:=y.z.ed) (.inr ⟨⟨_,_,_⟩,rfl⟩) hy.2.1 hy.2.2.1 (hsl.trans hy.1)) [0] [0,1] (fun y=>y) fun g h=>hy.1.trans h) rfl (by kernel_rfl)
theorem d3h (hG:b1c es G) (u:b9c ns) {uu:Nat→Tok} {rd:Value} {po fi:Int} {ee m:Nat}:(e7n w es G S Sd NI uu rd po fi ee m ns).H w:=
 have hb:=c5s u (fun _=>false)
 have hns:=u.ns.len
 Ctr.c1 (rn (VU (vl [])) (a0r 2016193194113846243031109532335434200712793797656760660192180255991808000) al0 fun fr tk=>
  us [8,3,6,2,4,5,7] [0,1] (c5m (F:=fr 0) (Q:=fr 5) (A:=fr 1) (B:=fr 2) (C:=fr 3) (DD:=fr 4) (G:=G) hG u (m:=m) (K:=102 * ns.length) (by omega) (sz:=((⟨a0k w.params (ns.map Nd.row)⟩:Array DictEntry).size:Int)) (by rw [a0t,List.length_map]) ns.length 0 rfl (fo:=a1k w.params (e8n (fun i=>match i with | 0=>Nat.succ (tk 0) | 1=>Nat.succ (tk 2) | 2=>Nat.succ (tk 3) | 3=>Nat.succ (tk 4) | 4=>Nat.succ (tk 5) | _=>Nat.succ (tk 6)) S NI (fr 1) (fr 2) (fr 3) (fr 4)) 6 ⟨[]⟩) (q:=⟨#[],0,SetTable.fresh 0 0 (!(w.params.followText "set-order"))⟩) (ea:=0) (eb:=0) (ed:=0) (G':=G) (.inl ⟨⟨_,_⟩,rfl⟩) (c0r w 0 0 (!(w.params.followText "set-order"))) (by omega) (a4p.refl _)) fun y hy=>
  rn (VU (vl [])) [] al0 fun _ _=>.ret [1,2,0] [0,1] y hy) rfl (by kernel_rfl)
theorem c2k (hns:ns.length≤5) {m:Nat} {sz:Int} (hsz:sz=ns.length):∀j k,j + k=ns.length→∀{dc zs ea},IcG w.params dc→zs.length≤k→(d4g w F Q NI A Dd ns m sz k dc zs ea).H w:=by
 have hsz':sz=((⟨a0k w.params (ns.map Nd.row)⟩:Array DictEntry).size:Int):=by rw [a0t,List.length_map];exact hsz
 intro j
 induction j with
 | zero=>
  intro k hk dc zs ea hdc hz
  exact Ctr.p0 (rn (VU (vl [])) (a0r 4810363633729) (al1 (p:=a3t [0≤(k:Int),((⟨a0k w.params (ns.map Nd.row)⟩:Array DictEntry).size:Int)≤(k:Int),sz=((⟨a0k w.params (ns.map Nd.row)⟩:Array DictEntry).size:Int),(m:Int)=(m:Int)]) ⟨Int.natCast_nonneg k,by rw [a0t,List.length_map];omega,hsz',rfl,trivial⟩)
   fun _ _=>.ret [1,2,3] [0] ⟨dc,zs,ea⟩ ⟨hdc,by rw [List.drop_of_length_le (sk0 hk)];exact (List.append_nil _).symm⟩) rfl (by kernel_rfl)
 | succ j ih=>
  intro k hk dc zs ea hdc hz
  obtain ⟨nd,hnd⟩:=a1u hk
  obtain ⟨i,hi⟩:∃i,ns[i]?=some nd:=⟨k,hnd⟩
  have hks:(k:Int) < ((⟨a0k w.params (ns.map Nd.row)⟩:Array DictEntry).size:Int):=by rw [a0t,List.length_map];omega
  have ob:a3t [e4t ⟨a0k w.params (ns.map Nd.row)⟩ (k:Int)= .ref nd.a,0≤(k:Int),(k:Int) < ((⟨a0k w.params (ns.map Nd.row)⟩:Array DictEntry).size:Int),sz=((⟨a0k w.params (ns.map Nd.row)⟩:Array DictEntry).size:Int),(m:Int)=(m:Int)]:=⟨c5n hnd,Int.natCast_nonneg k,hks,hsz',rfl,trivial⟩
  have hd0:nd.np=0→rd0 (ns.drop k)=[(nd.v,nd.tv)]++rd0 (ns.drop (k + 1)):=fun h=>by rw [a1b hnd];simp [rd0,h]
  have hd1:¬nd.np=0→rd0 (ns.drop k)=rd0 (ns.drop (k + 1)):=fun h=>by rw [a1b hnd];simp [rd0,h]
  exact Ctr.p1 (rw' [] [0] (a4g hi) <| shp (a:=Dd) 4 hdc (⟨fun tk=>icD w.params ⟨Nat.succ (tk 1),nd.a⟩,fun _=>.inr ⟨_,rfl⟩⟩:Sh (IcG w.params)) (fun z=>⟨fun _=>icD w.params ⟨z.a,nd.a⟩,fun _=>.inr ⟨_,rfl⟩⟩) fun d=>.or (nd.np=0)
   (fun h=>rn (VU (vl [.ref nd.a])) (a0r 10375862277444103212538879800157848656703876673150931039486494338947780504840397859932940350371855128536248496260) (al (p:=(suV zs).size≤1000000) (by rw [a3d];exact Nat.le_trans hz (Nat.le_trans (Nat.le_of_lt (a9q hk)) (Nat.le_trans hns (by decide)))) (al h (al1 ob))) fun _ tk=>
    rw' [5] [] (c2z (fun p:Nat×Tok=>Value.str (nm p.1) p.2) zs (nd.v,nd.tv) (a:=A) (n:=ea + 1)) <| rw' [2,3] [0] (a4g hi).symm <|
    agn [2,3,1,0] [0] (ih (k + 1) (sk1 hk) (dc:=d.d tk) (zs:=zs++[(nd.v,nd.tv)]) (ea:=ea + 1) (d.ok tk) (by simp;omega)) [0,1,2] [0] (fun y=>y) fun y hy=>⟨hy.1,by rw [hy.2,hd0 h,List.append_assoc]⟩)
   fun h=>rn (VU (vl [.ref nd.a])) (a0r 1646308222502764770981009418883860323640748872174186827353174148) (al h (al1 ob)) fun _ tk=>rw' [1,2] [0] (a4g hi).symm <|
    agn [1,2,0,3] [0] (ih (k + 1) (sk1 hk) (dc:=d.d tk) (zs:=zs) (ea:=ea) (d.ok tk) (Nat.le_succ_of_le hz)) [0,1,2] [0] (fun y=>y) fun y hy=>⟨hy.1,by rw [hy.2,hd1 h]⟩) rfl (by kernel_rfl)
theorem d0q (hns:ns.length≤5) {m:Nat} {sz:Int} (hsz:sz=ns.length):(e9d w F Q NI A Dd ns m sz).H w:=
 Ctr.p2 (rnb (VU (vl [])) (fun b2=>hzB b2 1 17043521) al0 fun _ _=>agn [0,1,2,3] [0] (c2k (F:=F) (Q:=Q) (NI:=NI) (A:=A) (Dd:=Dd) hns (m:=m) hsz ns.length 0 rfl (dc:=dob w.params [] 0) (zs:=[]) (ea:=0) (.inl rfl) (Nat.le_refl _)) [0,1,2] [0] (fun y=>y) fun _ h=>h) rfl (by kernel_rfl)
theorem d2u {u:Nat→Tok} {po fi:Int} {ee m:Nat} (hG:b1c es G) (up:b9c ns):(e7d w es G S Sd NI u po fi ee m ns).H w:=
 Ctr.c1 (rn (VU (vl [])) (a0r 7920860403388166769757386408279608919710076002372504190548411150897578262528) al0 fun fr tk=>
  us [5,2,7,6] [0] (d0q (F:=fr 0) (Q:=fr 2) (NI:=NI) (A:=fr 3) (Dd:=fr 4) up.ns.len (m:=m) (sz:=((⟨a0k w.params (ns.map Nd.row)⟩:Array DictEntry).size:Int)) (by rw [a0t,List.length_map])) fun yp hyp=>
  shp (a:=fr 4) 1 hyp.1 105442453650143661488002756443975599934674817158342374903408247169 (fun _=>431892290150988437454859290394524057332428051080570367604360180400193) fun hh=>
  rn (VU (vl [])) (a0r hh) al0 fun _ _=>rw' [5] [1] (d8j (fr 0) (fob w.params (e6y (fun _=>Nat.succ (tk 0)) S) 1) G) <|
  us [3,4,1] [1,0] (d3h (es:=c3k (fr 0)::es) (G:=(fr 0,fob w.params (e6y (fun _=>Nat.succ (tk 0)) S) 1)::G) (S:=S) (Sd:=Sd) (NI:=NI) (.cons _ _ _ (c4y _) rfl (by intro vs;simp [fob]) hG) up (uu:=u) (rd:=.ref (fr 3)) (po:=po) (fi:=fi) (ee:=ee) (m:=m)) fun g hg=>
  .ex (Q2 (Array (Option Value)) Led) (fun q=>g=(fr 0,a1k w.params (e6y (fun _=>Nat.succ (tk 0)) S) 1 q.a)::q.b∧a4p G q.b) (b5n (sl:=⟨[]⟩) hg) fun q hq=>rw' [] [1] (c1a hq.1) <|
  rn (VU (vl [])) (a0r 266241) al0 fun _ _=>rw' [5] [] (a1o (a:=fr 3) (n:=yp.c) (congrArg suV hyp.2)) <| .ret [2,3,4,0] [1,0] ⟨fr 3,yp.c,q.b⟩ hq.2) rfl (by kernel_rfl)
end
noncomputable def c6d (w:World) (es:List Env) (G:Led) (I:Addr) (vs:List Iv) (mi:Nat) (hf:Nat→Int):Ctr where
 eo:=some es
 d:=420
 u:=7200
 c:=e1t I
 L:=[(I,dob w.params (vs.map Iv.row) mi)]
 G:=[ivL vs,G]
 Y:=Q4 (Q2 Addr Nat) (Q2 Tok Tok) (List Ht) Led
 ok:=fun y=>a9z hf y.c∧(∀u,u < 5→u∈y.c.map (·.v))∧a4p G y.d
 r:=fun y=>.ok (.ret (.ref y.a.a))
 L':=fun y=>[(y.a.a,dob w.params (htR y.b.a y.b.b y.c) y.a.b)]
 G':=fun y=>[y.d]
section
variable {w:World} {F H HD I S Sd NI R:Addr} {rkf:Nat→List Rk} {own:Nat→Int} {vs:List Iv} {hf:Nat→Int} {og su:Nat→List Nat} {es m mi:Nat} {t0 t1:Tok}
theorem f0h (hv:c8d rkf own vs) (hvs:∀u,u < 5→u∈vs.map (·.j)) (hleast:∀v,v < 5→a1d ((rkf v).map (fun r=>hf r.1 + r.2.2)++[own v]) (hf v)) (g:Gr og su) (hog:∀v,v < 5→(rkf v).map (·.1)=og v):
  ∀n {fo hs eh u ns rd nr},n + hs.length=5→HwG w.params I S fo→a9z hf hs→b2k og su ns rd (hs.map (·.v))→(hwC w F H HD I S Sd NI R vs hf es m mi t0 t1 fo hs eh u ns rd nr).H w:=by
 intro n
 induction n using Nat.strongRecOn with
 | ind n ih=>
  intro fo hs eh u ns rd nr hn hfo hok hk
  have hrl:=hk.rlen
  have hps5:∀p∈rd,p.1 < 5:=fun p hp=>((hk.rd p.1).mp (List.mem_map_of_mem hp)).1
  cases hrd:rd with
  | nil=>
   subst hrd
   exact Ctr.p1 (a9t (a:=F) 0 hfo (fun z=>(⟨fun _=>a1k w.params (c2p z.a I S z.b) 3 z.c,fun _=>.inl ⟨z,rfl⟩⟩:Sh (HwG w.params I S))) (fun z=>⟨fun _=>a1k w.params (e1z z.a I S z.b z.c) 4 z.d,fun _=>.inr ⟨z,rfl⟩⟩) fun d=>rn (VU (vl [])) (a0r 5078126755214289129968100180289) al0 fun _ _=>
    us [4,5,7] [] (b4i (S:=S) (Sd:=Sd) (NI:=NI) (R:=R) (u:=u) (po:=(hs.length:Int)) (es:=es) (nr:=nr) (xs:=suV []) (b:=false) (Nat.zero_le _) rfl) fun _ _=>
    rn (VU (vl [])) (a0r 1) al0 fun _ tk=>.ret [3,4,5,6] [1] ⟨d.d tk,hs,eh⟩ ⟨d.ok tk,hok,hk.fin g⟩) rfl (by kernel_rfl)
  | cons p rd'=>
   have hsz:(suV rd).size≤1000000:=by rw [a3d];exact Nat.le_trans hrl (by decide)
   have hb:true=decide ((suV (p::rd')).size≠0):=rfl
   have hl4:rd'.length≤4:=by rw [hrd] at hrl;exact Nat.le_of_succ_le_succ hrl
   have hp1:∀{x:List (Nat×Tok)} {ns1},rd=p::x→a6x ns ((p::x).map (·.1)) ns1→a4l ns1∧(∀v x,x∈a2t ns1 v→x∈ns1.map (·.v))∧(∀v,(a2t ns1 v).length≤100)∧c6e ns1 (p::x):=fun {x ns1} e hp=>by
    rw [←e] at hp ⊢
    refine ⟨hp.ok,fun v x hx=>?_,fun v=>?_,hk.rn,hrl,fun q hq=>?_,fun q hq=>?_,hk.free g hp⟩
    ·rw [hp.su,hk.su] at hx
     rw [hp.vs];exact (hk.all x).mpr (g.sf v x hx).1
    ·rw [hp.su,hk.su];exact g.sl v
    ·rw [hp.vs];exact (hk.all _).mpr (hps5 q hq)
    ·rw [hp.np,if_pos (List.mem_map_of_mem hq)]
   have hst:∀{x:List (Nat×Tok)} {ns1 ns2 rd2 hs'},rd=p::x→a6x ns ((p::x).map (·.1)) ns1→a8b ns1 [] ((p::x).map (·.1)) ns2 rd2→a9z hf hs'→hs'.map (·.v)=hs.map (·.v)++((p::x).drop 0).map (·.1)→b2k og su ns2 rd2 (hs'.map (·.v))∧hs'.length=hs.length + (p::x).length∧n - (p::x).length < n∧(n - (p::x).length) + hs'.length=5:=fun {x ns1 ns2 rd2 hs'} e hp hd ho h=>by
    have hl:hs'.length=hs.length + (p::x).length:=by
     have:=congrArg List.length h
     simpa using this
    have:=ho.len
    have h1:0 < (p::x).length:=Nat.succ_pos _
    rw [←e] at hp hd
    refine ⟨?_,hl,by omega,by omega⟩
    rw [h,List.drop_zero,←e]
    exact hk.step g hp hd
   exact Ctr.p1 (a9t (a:=F) 0 hfo (fun z=>(⟨fun tk=>a0q z.a 4 (Nat.succ (tk 0)),z.b,z.c⟩:Q3 ((Nat→Tok)→Nat→Tok) Str (Array (Option Value)))) (fun z=>⟨fun _=>z.a,z.b,z.d⟩) fun d=>rn (VU (vl [])) (a0r 5078126755214289129968100180289) al0 fun _ _=>
    us [4,5,7] [] (b4i (S:=S) (Sd:=Sd) (NI:=NI) (R:=R) (u:=u) (po:=(hs.length:Int)) (es:=es) (nr:=nr) (xs:=suV (p::rd')) (b:=true) (hrd▸hsz) hb) fun _ _=>
    rn (VU (vl [])) (a0r 5073097623804620215002989592644) al0 fun _ _=>lc rd' 4 [] rd' rfl hl4 fun x hx=>rw' [2] [] (a1o (a:=R) (n:=nr) (congrArg (fun l=>suV (p::l)) hx)) <|
    us [1,2,7,0] [0] (c4e (S:=S) (Sd:=Sd) (NI:=NI) (R:=R) (u:=u) (po:=(hs.length:Int)) (fi:=(hs.length:Int)) (es:=es) (m:=m) (nr:=nr) hk.ok (ps:=p::x) (fun z=>nomatch z) (by rw [←hx,←hrd];exact hrl) (fun q hq=>(hk.all _).mpr (hps5 q (by rw [hrd,hx];exact hq)))) fun yr hyr=>
    rn (VU (vl [])) (a0r 5090695209286) al0 fun fr3 tk3=>
    us [5,9,4,6,7,8] [1] (c1q (F:=F) (H:=H) (HD:=HD) (Q:=fr3 0) (I:=I) (S:=S) (T:=yr.a) (t0:=t0) (t1:=t1) hv hleast (ps:=p::x) (fun q hq=>hvs q.1 (hps5 q (by rw [hrd,hx];exact hq))) (by rw [←hx,←hrd];exact hk.rn) (sl:=d.c) (mi:=mi) (p::x).length 0 rfl (t:=d.a tk3) (s:=d.b) (ti:=0) (hs:=hs) (eh:=eh) hok
     (fun q hq=>((hk.rd q.1).mp (List.mem_map_of_mem (by rw [hrd,hx];simpa using hq))).2.1) (fun q hq r hr=>by
      have h1:=(hk.rd q.1).mp (List.mem_map_of_mem (show q∈rd by rw [hrd,hx];simpa using hq))
      refine h1.2.2 r.1 ?_
      rw [←hog q.1 h1.1]
      exact List.mem_map_of_mem hr)) fun y4 hy4=>
    rn (VC (vl [])) (a0r 432696055348288999806560645579715356912713547645313) (al1 (p:=(suV (p::x)).size≤1000000) (by rw [←hx,←hrd];exact hsz)) fun _ _=>
    uu [5,6,7,8] [1] (d1l (S:=S) (Sd:=Sd) (NI:=NI) (R:=R) (u:=yr.b) (po:=(hs.length:Int) + ((p::x).length:Int)) (fi:=(hs.length:Int)) (es:=es) (m:=m) (nr:=yr.d) (ns:=yr.c) (hp1 (by rw [hrd,hx]) hyr).1 (hp1 (by rw [hrd,hx]) hyr).2.1 (hp1 (by rw [hrd,hx]) hyr).2.2.1 (ps:=p::x) (fun z=>nomatch z) (hp1 (by rw [hrd,hx]) hyr).2.2.2) fun yd hyd=>
    rn (VU (vl [])) [] al0 fun _ _=>rw' [1] [] (a0u (a:=Sd) (congrArg (fun i=>dob w.params (toR yd.d NI (.ref R) i i) es) (show (hs.length:Int) + ((p::x).length:Int)=(y4.c.length:Int) by rw [(hst (by rw [hrd,hx]) hyr hyd hy4.1 hy4.2).2.1];rfl))) <|
    agn [4,6,7,8,1,0,2,3] [0,1] (ih (n - (p::x).length) (hst (by rw [hrd,hx]) hyr hyd hy4.1 hy4.2).2.2.1 (fo:=a1k w.params (e1z y4.a I S y4.b yr.a) 4 d.c) (hs:=y4.c) (eh:=y4.d) (u:=yd.d) (ns:=yd.a) (rd:=yd.b) (nr:=yd.c) (hst (by rw [hrd,hx]) hyr hyd hy4.1 hy4.2).2.2.2 (.inr ⟨⟨_,_,_,_⟩,rfl⟩) hy4.1 (hst (by rw [hrd,hx]) hyr hyd hy4.1 hy4.2).1) [0,1,2,3] [0] (fun y=>y) fun _ h=>h) rfl (by kernel_rfl)
theorem b1m (hv:c8d rkf own vs) (hvj:vs.map (·.j)=[4,3,2,1,0]) (hup:∀j,j < 5→∀r∈rkf j,r.1 < j) {ns:List Nd} (hb:a4a (b8w rkf vs) ns):Gr (fun v=>(rkf v).map (·.1)) (a2t ns)∧b2k (fun v=>(rkf v).map (·.1)) (a2t ns) ns (rd0 ns) []∧b9c ns:=by
 have hvl:=hv.len
 have hdn:(b8w rkf vs).map (·.1)=[4,3,2,1,0]:=by rw [←hvj];simp [b8w]
 have hdo:∀p∈b8w rkf vs,p.2=(rkf p.1).map (·.1):=fun p hp=>by
  obtain ⟨v,hv',rfl⟩:=List.mem_map.mp hp
  rfl
 have hdj:∀p∈b8w rkf vs,p.1 < 5:=fun p hp=>by
  obtain ⟨v,hv',rfl⟩:=List.mem_map.mp hp
  exact hv.lt v hv'
 have hsu:∀u x,x∈a2t ns u→x < 5∧u < x:=fun u x hx=>by
  rw [hb.su,List.mem_flatMap] at hx
  obtain ⟨p,hp,hx⟩:=hx
  obtain ⟨h1,h2⟩:=List.mem_replicate.mp hx
  subst h2
  have h3:=hdj p hp
  refine ⟨h3,?_⟩
  have h4:0 < p.2.count u:=by omega
  rw [hdo p hp] at h4
  obtain ⟨r,hr,rfl⟩:=List.mem_map.mp (List.count_pos_iff.mp h4)
  exact hup p.1 h3 r hr
 have hsl:∀u,(a2t ns u).length≤100:=fun u=>by
  have h1:=hb.len (fun p hp=>by rw [hdo p hp,List.length_map];exact hv.rl _) u
  have h2:(b8w rkf vs).length≤5:=by simp [b8w];exact hvl
  omega
 have hg:Gr (fun v=>(rkf v).map (·.1)) (a2t ns):=by
  refine ⟨fun u p hu hp=>?_,fun u hu x hx=>?_,hsl,hsu⟩
  ·rw [hb.su]
   have:∀l:List (Nat×List Nat),(l.map (·.1)).Nodup→(∀q∈l,q.2=(rkf q.1).map (·.1))→(l.flatMap fun q=>List.replicate (q.2.count p) q.1).count u=if u∈l.map (·.1) then ((rkf u).map (·.1)).count p else 0:=by
    intro l
    induction l with
    | nil=>intro _ _;rfl
    | cons a l ih=>
     intro hn ho
     rw [List.map_cons] at hn
     rw [List.nodup_cons] at hn
     rw [List.flatMap_cons,List.count_append,ih hn.2 fun q hq=>ho q (.tail _ hq),List.count_replicate,List.map_cons]
     by_cases hu:a.1=u
     ·rw [if_pos (by simpa using hu),if_neg (by rw [←hu];exact hn.1),if_pos (by rw [hu];exact List.mem_cons_self ..),ho a (.head _),hu];simp +arith
     ·rw [if_neg (by simpa using hu)]
      by_cases hm:u∈l.map (·.1)
      ·rw [if_pos hm,if_pos (List.mem_cons_of_mem _ hm)];simp +arith
      ·rw [if_neg hm,if_neg (by simp only [List.mem_cons,not_or];exact ⟨fun z=>hu z.symm,hm⟩)]
   rw [this _ (by rw [hdn];decide) hdo,if_pos]
   rw [hdn]
   have:u=0∨u=1∨u=2∨u=3∨u=4:=lt5 (by first | assumption | omega)
   rcases this with rfl | rfl | rfl | rfl | rfl <;> simp
  ·obtain ⟨r,hr,rfl⟩:=List.mem_map.mp hx
   exact hup u hu r hr
 have hk0:b2k (fun v=>(rkf v).map (·.1)) (a2t ns) ns (rd0 ns) []:=b2k.start hb hdn hdo (fun u x hx=>by
  obtain ⟨r,hr,rfl⟩:=List.mem_map.mp hx
  exact hv.rf u r hr) fun _=>rfl
 have hup':b9c ns:=by
  refine ⟨hb.ok.lt,hb.ok.nd,fun n hn p hp=>?_,fun n hn=>?_⟩
  ·have h1:p.1∈a2t ns n.v:=by
    unfold a2t
    rw [a2s hb.ok hn]
    exact List.mem_map_of_mem hp
   have h2:=hsu n.v p.1 h1
   exact ⟨h2.2,h2.1,(hk0.all p.1).mpr h2.1⟩
  ·have h1:=hsl n.v
   unfold a2t at h1
   rw [a2s hb.ok hn] at h1
   simpa using h1
 exact ⟨hg,hk0,hup'⟩
theorem b8h {es:List Env} {G:Led} (hG:b1c es G) (hv:c8d rkf own vs) (hvj:vs.map (·.j)=[4,3,2,1,0]) (hleast:∀v,v < 5→a1d ((rkf v).map (fun r=>hf r.1 + r.2.2)++[own v]) (hf v)) (hup:∀j,j < 5→∀r∈rkf j,r.1 < j):(c6d w es G I vs mi hf).H w:=
 have hvs5:∀u,u < 5→u∈vs.map (·.j):=fun u hu=>by
  rw [hvj]
  have:u=0∨u=1∨u=2∨u=3∨u=4:=lt5 (by first | assumption | omega)
  rcases this with rfl | rfl | rfl | rfl | rfl <;> simp
 have hv0:vs.length≠0:=by
  have:=congrArg List.length hvj
  rw [List.length_map] at this
  rw [this];decide
 Ctr.c1 (rn (VU (vl [])) (a0r 1626637644765181779387954459025268063089695448774277126683321343871902117212846602281283249134433017273390182316010417830127384153074495167522043485378056325219094450313746326745649160291467058946993703848390786463608086528) al0 fun fr tk=>
  rw' [] [] e2y <|
  us [7,1,0,4,3,6] [0,1] (c5v (F:=fr 0) (H:=fr 1) (Q:=fr 6) (S:=fr 3) (Sd:=fr 2) (NI:=fr 5) (mi:=mi) (u:=hhU tk) (es:=4) hv (sz:=((⟨a0k w.params (vs.map Iv.row)⟩:Array DictEntry).size:Int)) (by rw [a0t,List.length_map]) vs.length 0 rfl (fo:=fob w.params (e9r (hhT tk) I (fr 3)) 2) (ns:=[]) (m:=0) (.inl ⟨_,rfl⟩) a4a.nil) fun yf hyf=>
  .ex (Q2 (Nat→Tok) Str) (fun z=>yf.a=fob w.params (c2p z.a I (fr 3) z.b) 3) (hyf.1.elim id fun h=>absurd h.1.symm hv0) fun z hz=>rw' [0] [] (a0u (a:=fr 0) hz) <|
  rn (VU (vl [])) (a0r 5075612189509454672485544886465) al0 fun _ _=>
  rw' [0] [2] (d8j (fr 0) (fob w.params (c2p z.a I (fr 3) z.b) 3) G) <|
  us [1,2,3] [1,0] (d2u (es:=b0b (fr 0) (fr 1)::es) (G:=(fr 0,fob w.params (c2p z.a I (fr 3) z.b) 3)::G) (S:=fr 3) (Sd:=fr 2) (NI:=fr 5) (u:=hhU tk) (po:=0) (fi:=0) (ee:=4) (m:=yf.c) (ns:=yf.b) (.cons _ _ _ (c4u _ _) rfl (by intro vs;simp [fob]) hG) (b1m hv hvj hup hyf.2).2.2) fun yp hyp=>
  .ex (Q2 (Array (Option Value)) Led) (fun q=>yp.c=(fr 0,a1k w.params (c2p z.a I (fr 3) z.b) 3 q.a)::q.b∧a4p G q.b) (b5n (sl:=⟨[]⟩) hyp) fun q hq=>rw' [] [1] (c1a hq.1) <|
  rn (VU (vl [])) (a0r 75281760841) al0 fun fr3 tk3=>
  us [0,5,6,8,1,2,3,4] [1,2] (f0h (F:=fr 0) (H:=fr 1) (HD:=fr3 0) (S:=fr 3) (Sd:=fr 2) (NI:=fr 5) (R:=yp.a) (es:=4) (m:=yf.c) (mi:=mi) (t0:=Nat.succ (tk3 0)) (t1:=Nat.succ (tk3 1)) hv hvs5 hleast (b1m hv hvj hup hyf.2).1 (fun _ _=>rfl) 5 (fo:=a1k w.params (c2p z.a I (fr 3) z.b) 3 q.a) (hs:=[]) (eh:=1) (u:=hhU tk) (ns:=yf.b) (rd:=rd0 yf.b) (nr:=yp.b) rfl (.inl ⟨⟨_,_,_⟩,rfl⟩) ⟨fun _ h=>(nomatch h),fun _ h=>(nomatch h),List.nodup_nil⟩ (b1m hv hvj hup hyf.2).2.1) fun yw hyw=>
  a9t (a:=fr 0) 0 hyw.1 (fun _=>()) (fun _=>()) fun _=>rn (VU (vl [])) (a0r 67) al0 fun _ _=>.ret [3] [1] ⟨⟨fr3 0,yw.c⟩,⟨Nat.succ (tk3 0),Nat.succ (tk3 1)⟩,yw.b,q.b⟩ ⟨hyw.2.1,hyw.2.2,hq.2⟩) rfl (by kernel_rfl)
end
noncomputable def roB (P:Params) (S N R:Addr) (z:Q4 (Nat→Tok) Int Int Int):Obj:=fob P (f3p z.a S N R z.b z.c z.d) 6
noncomputable def RoG (P:Params) (S N R:Addr) (fo:Obj):Prop:=(∃t,fo=fob P (f0d t S N R) 3)∨∃z,fo=roB P S N R z
noncomputable def d7k (w:World) (F Q S N R:Addr) (xs:List (Int×Tok)) (es:Nat) (u:Nat→Tok) (en k:Nat) (fo:Obj) (ti:Tok) (rs:List Rd) (er:Nat):Ctr where
 eo:=none
 d:=440
 u:=7400
 c:=b4o e5u (.ref Q) (e7m F)
 L:=[(F,fo),(Q,a0z (.ref S) k ti),(S,a0a (a0w xs) es),(N,a0a (nmA u) en),(R,a0a (rdr rs) er)]
 G:=[rs.map Rd.ob]
 Y:=Q3 Obj (List Rd) Nat
 ok:=fun y=>RoG w.params S N R y.a∧y.b.map Rd.key=rs.map Rd.key++((xs.drop k).map (·.1)).filterMap a2z
 r:=fun _=>.ok .next
 L':=fun y=>[(F,y.a),(S,a0a (a0w xs) es),(N,a0a (nmA u) en),(R,a0a (rdr y.b) y.c)]
 G':=fun y=>[y.b.map Rd.ob]
noncomputable def d9m (w:World) (S N:Addr) (xs:List (Int×Tok)) (es:Nat) (u:Nat→Tok) (en:Nat):Ctr where
 eo:=none
 d:=430
 u:=7300
 c:=.call (.ref 204) ⟨[.ref S,.ref N],[]⟩
 L:=[(S,a0a (a0w xs) es),(N,a0a (nmA u) en)]
 G:=[]
 Y:=Q3 Addr (List Rd) Nat
 ok:=fun y=>y.b.map Rd.key=(xs.map (·.1)).filterMap a2z
 r:=fun y=>.ok (.ret (.ref y.a))
 L':=fun y=>[(S,a0a (a0w xs) es),(N,a0a (nmA u) en),(y.a,a0a (rdr y.b) y.c)]
 G':=fun y=>[y.b.map Rd.ob]
section
variable {w:World} {F Q S N R:Addr} {u:Nat→Tok} {es en:Nat}
theorem d8p (u:Nat→Tok) {a:Int} (h:0≤a∧a < 5):a3t [nth (nmA u) a= .str (nm a.toNat) (u a.toNat),0≤a,a < (nmA u).size,(nmA u).size≤1000000]:=
 ⟨c2w u h.1 h.2,h.1,h.2,(by show 5≤1000000;decide),trivial⟩
noncomputable def b8t (u:Nat→Tok) (i j:Nat) (x:Int) (fr:Nat→Addr) (tk:Nat→Tok):Rd:=⟨fr 14,i,u i,j,u j,x.fdiv 25,Nat.succ (tk 16)⟩
theorem c7m {xs:List (Int×Tok)} (hxl:xs.length≤1000):
  ∀n k,n + k=xs.length→∀{fo ti rs er},RoG w.params S N R fo→rs.length + n≤2000→(d7k w F Q S N R xs es u en k fo ti rs er).H w:=by
 intro n
 induction n with
 | zero=>
  intro k hk fo ti rs er hfo hlen
  exact Ctr.p0 (rn (VT (vl [])) (a0r 4879083376706) (al1 (a3f (fun e:Int×Tok=>.int e.1 e.2) xs (sk0 hk))) fun _ _=>.ret [0,2,3,4] [0] ⟨fo,rs,er⟩ ⟨hfo,by rw [List.drop_of_length_le (sk0 hk)];exact (List.append_nil _).symm⟩) rfl (by kernel_rfl)
 | succ n ih=>
  intro k hk fo ti rs er hfo hlen
  obtain ⟨⟨x,tx⟩,hx⟩:=a1u hk
  have hd:=a1b hx
  have hrz:(rdr rs).size≤1000000:=by rw [c7h];omega
  have h0:=a4q (fun e:Int×Tok=>.int e.1 e.2) hx
  have h1:=d8p u (c9o x)
  have h2:=d8p u (c8i x)
  have nx:∀(o:Option (Nat×Nat×Int)),a2z x=o→((xs.drop k).map (·.1)).filterMap a2z=o.toList++((xs.drop (k + 1)).map (·.1)).filterMap a2z:=fun o ho=>by
   rw [hd,List.map_cons,List.filterMap_cons,ho]
   cases o <;> rfl
  exact Ctr.p1 (a9t (a:=F) 0 hfo (fun t=>(⟨fun tk=>roB w.params S N R ⟨a0q (a0q (a0q (a0q (a0q (a0q t 3 (Nat.succ (tk 1))) 4 tx) 5 (Nat.succ (tk 8))) 6 (Nat.succ (tk 7))) 7 (Nat.succ (tk 9))) 8 (Nat.succ (tk 3)),x,a7q x,a7v x⟩,fun _=>.inr ⟨_,rfl⟩⟩:Sh (RoG w.params S N R)))
   (fun z:Q4 (Nat→Tok) Int Int Int=>⟨fun tk=>roB w.params S N R ⟨a0q (a0q (a0q z.a 4 tx) 6 (Nat.succ (tk 7))) 8 (Nat.succ (tk 3)),x,a7q x,a7v x⟩,fun _=>.inr ⟨_,rfl⟩⟩) fun d2=>
   .or (a7q x=a7v x) (fun he=>rn (VT (vl [.int x tx])) (a0r 29650124956157107347158747622348662920620130510759715504717278922996336067874946) (al (p:=¬a7q x≠a7v x) (fun z=>z he) (al1 h0)) fun fr tk=>
     agn [0,1,2,3,4] [0] (ih (k + 1) (sk1 hk) (ti:=0) (rs:=rs) (er:=er) (d2.ok tk) (lp0 hlen)) [0,1,2,3] [0] (fun y=>y) fun y h=>⟨h.1,by rw [h.2,nx none (if_pos he)];rfl⟩)
    fun he=>.or (a7q x < a7v x)
     (fun hl=>rn (VT (vl [.int x tx,.str (nm (a7q x).toNat) (u (a7q x).toNat),.str (nm (a7v x).toNat) (u (a7v x).toNat)])) (a0r 2193132867009270460887916015539625701641053158229685302293835843949957649241552898125230063889635952570882625702490808600861193627064543383258932953732502439194593779803412736858905759499465181770585474885390410845966929070916314425491923295068587627813666877019263106)
      (al hrz (al h2 (al (p:=a7v x > a7q x) hl (al h1 (al (p:=¬a7v x < a7q x) (by omega) (al he (al1 h0))))))) fun fr tk=>rw' [4,19] [0] (d3q (fun e:Rd=>.ref e.a) Rd.ob R (er + 1) rs (b8t u (a7q x).toNat (a7v x).toNat x fr tk)) <|
       agn [1,2,3,4,0] [0] (ih (k + 1) (sk1 hk) (ti:=0) (rs:=rs++[b8t u (a7q x).toNat (a7v x).toNat x fr tk]) (er:=er + 1) (d2.ok tk) (lp1 hlen)) [0,1,2,3] [0] (fun y=>y) fun y h=>⟨h.1,by rw [h.2,nx (some _) (by unfold a2z;rw [if_neg he,if_pos hl])];simp [Rd.key,b8t]⟩)
     fun hl=>rn (VT (vl [.int x tx,.str (nm (a7v x).toNat) (u (a7v x).toNat),.str (nm (a7q x).toNat) (u (a7q x).toNat)])) (a0r 2193132867009270460887916015539625701228281881806709677216067820785189802332850842677643678212784558310396417336761242089809219333703865989392945929835549214879879307751748951330313551648130163156785581310501085459521495855339493981973642253710930660706367558881120386)
      (al hrz (al h1 (al (p:=¬a7v x > a7q x) hl (al h2 (al (p:=a7v x < a7q x) (by omega) (al he (al1 h0))))))) fun fr tk=>rw' [4,19] [0] (d3q (fun e:Rd=>.ref e.a) Rd.ob R (er + 1) rs (b8t u (a7v x).toNat (a7q x).toNat x fr tk)) <|
       agn [1,2,3,4,0] [0] (ih (k + 1) (sk1 hk) (ti:=0) (rs:=rs++[b8t u (a7v x).toNat (a7q x).toNat x fr tk]) (er:=er + 1) (d2.ok tk) (lp1 hlen)) [0,1,2,3] [0] (fun y=>y) fun y h=>⟨h.1,by rw [h.2,nx (some _) (by unfold a2z;rw [if_neg he,if_neg hl])];simp [Rd.key,b8t]⟩)
   rfl (by kernel_rfl)
theorem c1b {xs:List (Int×Tok)} (hxl:xs.length≤1000):(d9m w S N xs es u en).H w:=
 Ctr.c1 (rn (VT (vl [])) (a0r 325918246083632854216704) al0 fun fr tk=>rw' [] [] (e4m Rd.ob) <|
  us [2,4,0,1,3] [0] (c7m (F:=fr 0) (Q:=fr 2) (S:=S) (N:=N) (R:=fr 1) (u:=u) (es:=es) (en:=en) hxl xs.length 0 rfl (fo:=fob w.params (f0d (fun i=>Nat.succ (tk i)) S N (fr 1)) 3) (ti:=0) (rs:=[]) (er:=0) (.inl ⟨_,rfl⟩) (by simp;exact Nat.le_trans hxl (by decide))) fun y hy=>
   a9t (a:=fr 0) 0 hy.1 (fun _=>()) (fun _=>()) fun _=>rn (VT (vl [])) (a0r 65) al0 fun _ _=>.ret [1,2,3] [0] ⟨fr 1,y.b,y.c⟩ hy.2) rfl (by kernel_rfl)
end
section
variable {w:World} {b1 b2:Bool} {D U:Nat} {S:Addr} {m:Nat}
theorem d2b (sc:List (Int×Tok)):∃ts,slicePick (a0w sc) (some 4) (some 9) none=a0w ts∧ts.length≤5:=by
 rw [slicePick_plain]
 refine ⟨(sc.drop (clipAt sc.length 4)).take (clipAt sc.length 9 - clipAt sc.length 4),?_,?_⟩
 ·simp [a0w,List.map_take,List.map_drop]
 ·have h1:=clipAt_nat sc.length 4
  have h2:=clipAt_nat sc.length 9
  have e1:clipAt sc.length (4:Int)=min 4 sc.length:=h1
  have e2:clipAt sc.length (9:Int)=min 9 sc.length:=h2
  rw [List.length_take,e1,e2]
  omega
end
noncomputable def f3k (w:World) (S:Addr) (m:Nat) (sc:List (Int×Tok)):Ctr where
 eo:=some []
 d:=400
 u:=7000
 c:=d9r S
 L:=[(S,a0a (a0w sc) m),(23,a1v [])]
 G:=[]
 Y:=List Value
 ok:=fun _=>True
 r:=fun _=>.ok (.ret (.bool true))
 L':=fun y=>[(S,a0a (a0w sc) m),(23,a1v y)]
 G':=fun _=>[]
noncomputable abbrev owE:Expr:=d2p (lwS 3)
noncomputable abbrev owS (Q A D F c1 c3:Addr):Code:=.compStart owE 0 (.ref Q) (.ref A) (a7r owE D (a1y F []) [(b8a,c1),(c0l,c3)])
noncomputable abbrev f2u:Obj:=⟨.type "range_iterator",none,.fields ⟨[.int 0 0,.int 5 0,.int 1 0]⟩,⟨[]⟩⟩
noncomputable abbrev owL (ow:Nat→Ow):List Ow:=[ow 0,ow 1,ow 2,ow 3,ow 4]
noncomputable def d6i (w:World) (Q A Dd F c1 c3 N M:Addr) (u:Nat→Tok) (ys:List (Int×Tok)):Ctr where
 eo:=none
 d:=440
 u:=7400
 c:=owS Q A Dd F c1 c3
 L:=[(Q,f2u),(A,a0a ⟨[]⟩ 0),(Dd,dob w.params [] 0),(c1,a0n (.ref N)),(N,a0a (nmA u) 0),(c3,a0n (.ref M)),(M,a0a (a0w ys) 0)]
 G:=[]
 Y:=Q2 (Nat→Ow) (Q2 Tok Tok)
 ok:=fun y=>∀k,(y.a k).v=k
 r:=fun _=>.ok .next
 L':=fun y=>[(A,a0a (owR (owL y.a)) 5),(Dd,dob w.params [(⟨⟨[107]⟩⟩,y.b.a,.int 4 y.b.b)] 1),(c1,a0n (.ref N)),(N,a0a (nmA u) 0),(c3,a0n (.ref M))]
 G':=fun y=>[(owL y.a).map Ow.ob]
noncomputable def otD (P:Params) (z:Q4 (Nat→Tok) Str Str Int):Obj:=dob P [(a3p,z.a 0,.str z.b (z.a 1)),(d4y,z.a 2,.str z.c (z.a 3)),(b1x,z.a 4,.int z.d (z.a 5))] 3
noncomputable def OtG (P:Params) (o:Obj):Prop:=o=dob P [] 0∨∃z,o=otD P z
noncomputable def c9z (w:World) (Q A Dd F R:Addr) (rs:List Rd) (n k:Nat) (dc:Obj) (ti:Tok) (es:List Of) (m:Nat):Ctr where
 eo:=none
 d:=450
 u:=7500
 c:=rwC Q A Dd F
 L:=[(Q,a0z (.ref R) k ti),(R,a0a (rdr rs) n),(Dd,dc),(A,a0a (ofr es) m)]
 G:=[rs.map Rd.ob,es.map Of.ob]
 Y:=Q3 Obj (List Of) Nat
 ok:=fun y=>((∃z,y.a=otD w.params z)∨(k=rs.length∧y.a=dc))∧y.b.map Of.key=es.map Of.key++(rs.drop k).map (fun r=>(a4u r.i r.j,r.c))
 r:=fun _=>.ok .next
 L':=fun y=>[(R,a0a (rdr rs) n),(Dd,y.a),(A,a0a (ofr y.b) y.c)]
 G':=fun y=>[rs.map Rd.ob,y.b.map Of.ob]
noncomputable def e6n (w:World) (Q A Dd F R:Addr) (rs:List Rd) (n:Nat):Ctr where
 eo:=none
 d:=440
 u:=7400
 c:=rwS Q A Dd F
 L:=[(Q,a0z (.ref R) 0 0),(R,a0a (rdr rs) n),(Dd,dob w.params [] 0),(A,a0a (ofr []) 0)]
 G:=[rs.map Rd.ob]
 Y:=Q3 Obj (List Of) Nat
 ok:=fun y=>(∃z,y.a=otD w.params z)∧y.b.map Of.key=rs.map (fun r=>(a4u r.i r.j,r.c))
 r:=fun _=>.ok .next
 L':=fun y=>[(R,a0a (rdr rs) n),(Dd,y.a),(A,a0a (ofr y.b) y.c)]
 G':=fun y=>[rs.map Rd.ob,y.b.map Of.ob]
noncomputable def e2d (w:World) (tag:Value) (x:Int) (tx:Tok):Ctr where
 eo:=none
 d:=460
 u:=7600
 c:=.call (.ref 211) ⟨[tag,.int x tx],[]⟩
 L:=[]
 G:=[]
 Y:=Tg
 ok:=fun g=>g.tag=tag∧g.x=x
 r:=fun g=>.ok (.ret (.ref g.a))
 L':=fun _=>[]
 G':=fun g=>[g.led w.params]
noncomputable def tnD (P:Params) (z:Q3 (Nat→Tok) Value Int):Obj:=dob P [(c6y,z.a 0,z.b),(b1n,z.a 1,.int z.c (z.a 2))] 2
noncomputable def TnG (P:Params) (o:Obj):Prop:=o=dob P [] 0∨∃z,o=tnD P z
noncomputable def d1q (w:World) (Q A Dd F R:Addr) (ws:List Rw) (n k:Nat) (dc:Obj) (ti:Tok) (gs:List Tg) (m:Nat):Ctr where
 eo:=none
 d:=450
 u:=7500
 c:=thC Q A Dd F
 L:=[(Q,a0z (.ref R) k ti),(R,a0a (rwr ws) n),(Dd,dc),(A,a0a (tgr gs) m)]
 G:=[ws.map Rw.ob,TL w.params gs]
 Y:=Q3 Obj (List Tg) Nat
 ok:=fun y=>((∃z,y.a=tnD w.params z)∨(k=ws.length∧y.a=dc))∧y.b.map (fun g=>(g.tag,g.x))=gs.map (fun g=>(g.tag,g.x))++(ws.drop k).map (fun e=>(e.tag,e.x))
 r:=fun _=>.ok .next
 L':=fun y=>[(R,a0a (rwr ws) n),(Dd,y.a),(A,a0a (tgr y.b) y.c)]
 G':=fun y=>[ws.map Rw.ob,TL w.params y.b]
noncomputable def e4y (w:World) (Q A Dd F R:Addr) (ws:List Rw) (n:Nat):Ctr where
 eo:=none
 d:=440
 u:=7400
 c:=thS Q A Dd F
 L:=[(Q,a0z (.ref R) 0 0),(R,a0a (rwr ws) n),(Dd,dob w.params [] 0),(A,a0a (tgr []) 0)]
 G:=[ws.map Rw.ob]
 Y:=Q3 Obj (List Tg) Nat
 ok:=fun y=>(∃z,y.a=tnD w.params z)∧y.b.map (fun g=>(g.tag,g.x))=ws.map (fun e=>(e.tag,e.x))
 r:=fun _=>.ok .next
 L':=fun y=>[(Dd,y.a),(A,a0a (tgr y.b) y.c)]
 G':=fun y=>[ws.map Rw.ob,TL w.params y.b]
section
variable {w:World} {Q A Dd F R N M c1 c3:Addr}
theorem al5 {k:Nat} (h:k < 5):a3t [0≤(k:Int),(k:Int) < ((5:Nat):Int),(5:Nat)≤1000000]:=⟨Int.natCast_nonneg k,by exact Int.ofNat_lt.mpr (by assumption),by decide,trivial⟩
theorem e7z {ys:List (Int×Tok)} {k:Nat} {p:Int×Tok} (h:ys[k]?=some p) (hl:ys.length≤1000000):a3t [nth (a0w ys) (k:Int)= .int p.1 p.2,0≤(k:Int),(k:Int) < ((a0w ys).size:Int),(a0w ys).size≤1000000]:=
 ⟨a7p (f:=fun e:Int×Tok=>Value.int e.1 e.2) h,Int.natCast_nonneg k,by have:=(List.getElem?_eq_some_iff.mp h).1;simp [a0w];omega,by simpa [a0w] using hl,trivial⟩
noncomputable def owN (z:Nat→Int×Tok) (u:Nat→Tok) (fr:Nat→Addr) (tk:Nat→Tok) (k:Nat):Ow:=⟨fr (2 * k + 1),k,u k,e0y k + (z k).1,Nat.succ (tk (13 * k + 11))⟩
theorem d6m {u:Nat→Tok} {ys:List (Int×Tok)} {z:Nat→Int×Tok} (hz:∀k,k < 5→ys[k]?=some (z k)) (hl:ys.length≤1000000):(d6i w Q A Dd F c1 c3 N M u ys).H w:=
 have ob:∀{k:Nat} {l:List Prop},k < 5→a3t l→a3t ((k≤1000000)::a3t [nth (a0w ys) (k:Int)= .int (z k).1 (z k).2,0≤(k:Int),(k:Int) < ((a0w ys).size:Int),(a0w ys).size≤1000000]::a3t [0≤(k:Int),(k:Int) < ((5:Nat):Int),(5:Nat)≤1000000]::a3t [0≤(k:Int),(k:Int) < ((5:Nat):Int),(5:Nat)≤1000000]::l):=fun {k l} h a=>al (by exact Nat.le_trans (Nat.le_of_lt h) (by decide)) (al (e7z (hz k h) hl) (al (al5 h) (al (al5 h) a)))
 Ctr.p2 (rnb (VS (vl [.int (z 0).1 (z 0).2,.int (z 1).1 (z 1).2,.int (z 2).1 (z 2).2,.int (z 3).1 (z 3).2,.int (z 4).1 (z 4).2])) (fun b2=>hzB b2 73898615246154072205434496402215752675385298502726678128631737157854471481627398253196169648996532138693548504413054362409078796433912024235152528346961724047925082684458795717519332314476485430858868937588245047841505051357609742992533866049876870109611448070378651188468920112660224322177499979730171967515365999899228991155132954841152 1239813030085620038670170919991196561237517036204722067926530438752550564613102892011894828573859002941803621065014766257879395328791771755590388761023099788084433464015025058852696822415751922994372309681608506228567264011717711901890227058033851023232894940349525832777599782016844918061625507499928716816150278699365343018071755092088253059137)
  (ob (k:=4) (by decide) (ob (k:=3) (by decide) (ob (k:=2) (by decide) (ob (k:=1) (by decide) (ob (k:=0) (by decide) al0))))) fun fr tk=>rw' [8,10,12,14,16] [] (d5r ((owL (owN z u fr tk)).map Ow.ob)) <|
  .ret [1,2,3,4,5] [0] ⟨owN z u fr tk,⟨Nat.succ (tk 1),Nat.succ (tk 52)⟩⟩ fun _=>rfl) rfl (by kernel_rfl)
theorem c1u {rs:List Rd} (hrs:∀r∈rs,r.i < 5∧r.j < 5) (hlen:rs.length≤100) {n:Nat}:∀j k,j + k=rs.length→∀{dc ti es m},OtG w.params dc→es.length≤k→(c9z w Q A Dd F R rs n k dc ti es m).H w:=by
 intro j
 induction j with
 | zero=>
  intro k hk dc ti es m hdc hz
  exact Ctr.p0 (rn (VT (vl [])) (a0r 4810363633729) (al1 (a3f (fun e:Rd=>.ref e.a) rs (sk0 hk))) fun _ _=>.ret [1,2,3] [0,1] ⟨dc,es,m⟩ ⟨.inr ⟨by omega,rfl⟩,by rw [List.drop_of_length_le (sk0 hk)];exact (List.append_nil _).symm⟩) rfl (by kernel_rfl)
 | succ j ih=>
  intro k hk dc ti es m hdc hz
  obtain ⟨r,hr⟩:=a1u hk
  obtain ⟨hi,hj⟩:=hrs r (List.mem_of_getElem? hr)
  have ho:=d3i ⟨r.i,hi⟩ ⟨r.j,hj⟩
  have het:lb++nm r.i++rb++nm r.j=a4u r.i r.j:=d5n ⟨r.i,hi⟩ ⟨r.j,hj⟩
  have hX:=b3a Rd.ob hr
  exact Ctr.p1 (rw' [] [0] (a1q hX) <| shp (a:=Dd) 3 hdc (⟨fun tk=>otD w.params ⟨fun i=>match i with | 0=>Nat.succ (tk 1) | 1=>r.ti | 2=>Nat.succ (tk 2) | 3=>r.tj | 4=>Nat.succ (tk 3) | _=>r.tc,nm r.i,nm r.j,r.c⟩,fun _=>⟨_,rfl⟩⟩:Sh (fun o=>∃z,o=otD w.params z)) (fun z=>⟨fun _=>otD w.params ⟨a0q (a0q (a0q z.a 1 r.ti) 3 r.tj) 5 r.tc,nm r.i,nm r.j,r.c⟩,fun _=>⟨_,rfl⟩⟩) fun d=>
   rn (VT (vl [.ref r.a])) (a0r 36320125347058286363380599517915155356029235413892142432775637238834273084890526531883773635338371)
    (al (p:=(ofr es).size≤1000000) (by rw [b7u];exact Nat.le_trans hz (Nat.le_trans (Nat.le_of_lt (a9q hk)) (Nat.le_trans hlen (by decide)))) (al ho.2.2.1 (al ho.2.2.2.1 (al ho.2.2.2.2 (al ho.2.1.1 (al ho.2.1.2.1 (al ho.2.1.2.2 (al ho.1.1 (al ho.1.2.1 (al ho.1.2.2 (al1 (a4q (fun e:Rd=>.ref e.a) hr)))))))))))) fun fr tk=>
   rw' [8] [] (a0u (a:=fr 3) (congrArg (fun s=>tob [.str s (Nat.succ (tk 8)),.int r.c r.tc]) het)) <| rw' [5,0] [1] (d3q (fun e:Of=>.ref e.a) Of.ob A (m + 1) es ⟨fr 3,a4u r.i r.j,Nat.succ (tk 8),r.c,r.tc⟩) <| rw' [2] [1] (a1j hX) <|
   agn [2,3,1,0] [0,1] (ih (k + 1) (sk1 hk) (dc:=d.d tk) (ti:=0) (es:=es++[⟨fr 3,a4u r.i r.j,Nat.succ (tk 8),r.c,r.tc⟩]) (m:=m + 1) (.inr (d.ok tk)) (by simp;omega)) [0,1,2] [0,1] (fun y=>y) fun q hq=>⟨.inl (hq.1.elim id fun h=>(d.ok tk).imp fun _ e=>h.2.trans e),by rw [hq.2,a1b hr,List.map_append,List.append_assoc];rfl⟩) rfl (by kernel_rfl)
theorem d1j {rs:List Rd} (hrs:∀r∈rs,r.i < 5∧r.j < 5) (hlen:rs.length≤100) (h0:rs≠[]) {n:Nat}:(e6n w Q A Dd F R rs n).H w:=
 have h0':¬0=rs.length:=fun h=>h0 (List.length_eq_zero_iff.mp h.symm)
 Ctr.p2 (rnb (VT (vl [])) (fun b2=>hzB b2 1 17043521) al0 fun _ _=>rw' [] [] (e4m Of.ob) <| agn [0,1,2,3] [1,0] (c1u (Q:=Q) (A:=A) (Dd:=Dd) (F:=F) (R:=R) hrs hlen (n:=n) rs.length 0 rfl (dc:=dob w.params [] 0) (ti:=0) (es:=[]) (m:=0) (.inl rfl) (Nat.le_refl _)) [0,1,2] [0,1] (fun y=>y) fun y hy=>⟨hy.1.elim id fun h=>absurd h.1 h0',hy.2⟩) rfl (by kernel_rfl)
theorem c5e {tag:Value} {x:Int} {tx:Tok} (h:NsV tag):(e2d w tag x tx).H w:=
 Ctr.ofDoes (R:=fun r L=>∃g:Tg,g.tag=tag∧g.x=x∧r= .ok (.ret (.ref g.a))∧L=g.led w.params) (fun b1 b2=>(b8i (show 460≤550 by decide) tag h x tx).mono (.refl _) fun r L' _ h=>⟨L',.refl _,by
  obtain ⟨g,h1,h2,h3,h4⟩:=h
  exact ⟨g,h1,h2,h3,h4.trans (by kernel_rfl)⟩⟩) fun r L h=>by
  obtain ⟨g,h1,h2,rfl,rfl⟩:=h
  exact ⟨g,⟨h1,h2⟩,rfl,.of_perm (by show ([]++(g.led w.params++[])).Perm _;rw [List.append_nil];exact .refl _)⟩
noncomputable abbrev tgv {C0:Ctr} (e:Rw) (he:NsV e.tag) (rest:(v:Value)→NsV v→e.tag=v→a2d w C0):a2d w C0:=
 .or (e.tag= .none) (fun h=>rw' [0] [] (a0u (a:=e.a) (congrArg (fun v=>tob [v,.int e.x e.tx]) h)) (rest .none (.inl rfl) h)) fun h=>.ex (Q2 Str Tok) (fun z=>e.tag= .str z.a z.b) (he.elim (fun q=>absurd q h) fun ⟨p,t,q⟩=>⟨⟨p,t⟩,q⟩) fun z hz=>
  rw' [0] [] (a0u (a:=e.a) (congrArg (fun v=>tob [v,.int e.x e.tx]) hz)) (rest (.str z.a z.b) (.inr ⟨_,_,rfl⟩) hz)
theorem d7n (P:Params) (gs:List Tg) (g:Tg):([]++gl [g.led P,TL P gs]).Perm ([]++gl [TL P (gs++[g])]):=by
 have e1:TL P [g]=g.led P:=by simp [TL]
 rw [c7u,e1]
 exact lpp [_,_] [2,3,1,0,0] [3,2,0,1,0] rfl
theorem c2x {ws:List Rw} (hws:∀e∈ws,NsV e.tag) (hlen:ws.length≤100) {n:Nat}:∀j k,j + k=ws.length→∀{dc ti gs m},TnG w.params dc→gs.length≤k→(d1q w Q A Dd F R ws n k dc ti gs m).H w:=by
 intro j
 induction j with
 | zero=>
  intro k hk dc ti gs m hdc hz
  exact Ctr.p0 (rn (VT (vl [])) (a0r 4810363633729) (al1 (a3f (fun e:Rw=>.ref e.a) ws (sk0 hk))) fun _ _=>.ret [1,2,3] [0,1] ⟨dc,gs,m⟩ ⟨.inr ⟨by omega,rfl⟩,by rw [List.drop_of_length_le (sk0 hk)];exact (List.append_nil _).symm⟩) rfl (by kernel_rfl)
 | succ j ih=>
  intro k hk dc ti gs m hdc hz
  obtain ⟨e,he⟩:=a1u hk
  have hX:=b3a Rw.ob he
  exact Ctr.p1 (rw' [] [0] (a1q hX) <| tgv e (hws e (List.mem_of_getElem? he)) fun v hv hev=>shp (a:=Dd) 3 hdc (⟨fun tk=>tnD w.params ⟨fun i=>match i with | 0=>Nat.succ (tk 1) | 1=>Nat.succ (tk 2) | _=>e.tx,v,e.x⟩,fun _=>⟨_,rfl⟩⟩:Sh (fun o=>∃z,o=tnD w.params z)) (fun z=>⟨fun _=>tnD w.params ⟨a0q z.a 2 e.tx,v,e.x⟩,fun _=>⟨_,rfl⟩⟩) fun d=>
   rn (VT (vl [.ref e.a])) (a0r 7238800031487769009088471355752545269260365907107220562419237352830176862339) (al1 (a4q (fun e:Rw=>.ref e.a) he)) fun _ tk=>
   us [] [] (c5e (tag:=v) (x:=e.x) (tx:=e.tx) hv) fun (g:Tg) hg=>
   rn (VT (vl [])) (a0r 68) (al1 (p:=(tgr gs).size≤1000000) (by rw [a6l];exact Nat.le_trans hz (Nat.le_trans (Nat.le_of_lt (a9q hk)) (Nat.le_trans hlen (by decide))))) fun _ _=>
   rw' [4] [] (c2z (fun g:Tg=>Value.ref g.a) gs g (a:=A) (n:=m + 1)) <| rw' [2] [] (a0u (a:=e.a) (congrArg (fun v=>tob [v,.int e.x e.tx]) hev.symm)) <| rw' [0] [1] (a1j hX) <| rw' [] [1,2] (d7n w.params gs g) <|
   agn [2,3,1,0] [1,0] (ih (k + 1) (sk1 hk) (dc:=d.d tk) (ti:=0) (gs:=gs++[g]) (m:=m + 1) (.inr (d.ok tk)) (by simp;omega)) [0,1,2] [0,1] (fun y=>y) fun q hq=>⟨.inl (hq.1.elim id fun h=>(d.ok tk).imp fun _ e=>h.2.trans e),by rw [hq.2,a1b he,List.map_append,List.append_assoc];show _++((g.tag,g.x)::_)=_++((e.tag,e.x)::_);rw [hg.1,hg.2,hev];rfl⟩) rfl (by kernel_rfl)
theorem d0d {ws:List Rw} (hws:∀e∈ws,NsV e.tag) (hlen:ws.length≤100) (h0:ws≠[]) {n:Nat}:(e4y w Q A Dd F R ws n).H w:=
 have h0':¬0=ws.length:=fun h=>h0 (List.length_eq_zero_iff.mp h.symm)
 Ctr.p2 (rnb (VT (vl [])) (fun b2=>hzB b2 1 17043521) al0 fun _ _=>rw' [] [] e2y <| agn [0,1,2,3] [1,0] (c2x (Q:=Q) (A:=A) (Dd:=Dd) (F:=F) (R:=R) hws hlen (n:=n) ws.length 0 rfl (dc:=dob w.params [] 0) (ti:=0) (gs:=[]) (m:=0) (.inl rfl) (Nat.le_refl _)) [1,2] [0,1] (fun y=>y) fun y hy=>⟨hy.1.elim id fun h=>absurd h.1 h0',hy.2⟩) rfl (by kernel_rfl)
end
noncomputable def lsA (P:Params) (st:Str) (R M G:Addr) (p:Str) (x:Int) (t:Nat→Tok):Obj:=fob P (f0s t st R M G p x) 6
noncomputable def lsB (P:Params) (st:Str) (R M G:Addr) (p:Str) (x:Int) (z:Q4 (Nat→Tok) Str Str Int):Obj:=fob P (f5x z.a st R M G p x z.b z.c z.d) 9
noncomputable def LsG (P:Params) (st:Str) (R M G:Addr) (p:Str) (x:Int) (fo:Obj):Prop:=(∃t,fo=lsA P st R M G p x t)∨∃z,fo=lsB P st R M G p x z
noncomputable def d7f (w:World) (F Q M G R:Addr) (st:Str) (x:Int) (u:Nat) (rs:List Rd) (er k:Nat) (fo:Obj) (ti:Tok) (gs:List Gi) (eg:Nat):Ctr where
 eo:=none
 d:=460
 u:=7600
 c:=b4o e6j (.ref Q) (b8f F)
 L:=[(F,fo),(Q,a0z (.ref R) k ti),(R,a0a (rdr rs) er),(G,a0a (gir gs) eg)]
 G:=[rs.map Rd.ob,gs.map Gi.ob]
 Y:=Q3 Obj (List Gi) Nat
 ok:=fun y=>LsG w.params st R M G (nm u) x y.a∧y.b.map Gi.kv=gs.map Gi.kv++(rdE (rs.drop k) u).map (fun r=>(r.1,x + r.2))
 r:=fun _=>.ok .next
 L':=fun y=>[(F,y.a),(R,a0a (rdr rs) er),(G,a0a (gir y.b) y.c)]
 G':=fun y=>[rs.map Rd.ob,y.b.map Gi.ob]
noncomputable def lsC (F:Addr):Code:=.whileLoop lsT (lpB b0h) [] (b8f F)
noncomputable def LsH (P:Params) (st:Str) (R M G:Addr) (fo:Obj):Prop:=(∃t,fo=fob P (e5c t st R M G) 4)∨(∃q:Q3 Str Int (Nat→Tok),fo=lsA P st R M G q.a q.b q.c)∨∃q:Q3 Str Int (Q4 (Nat→Tok) Str Str Int),fo=lsB P st R M G q.a q.b q.c
theorem LsG.h {P:Params} {st:Str} {R M G:Addr} {p:Str} {x:Int} {fo:Obj} (h:LsG P st R M G p x fo):LsH P st R M G fo:=.inr (h.imp (fun ⟨t,e⟩=>⟨⟨p,x,t⟩,e⟩) fun ⟨z,e⟩=>⟨⟨p,x,z⟩,e⟩)
noncomputable def d3a (w:World) (F M G R:Addr) (st:Str) (s:Nat) (rs:List Rd) (er:Nat) (fo:Obj) (gs:List Gi) (eg:Nat) (kn:List Kn) (em:Nat):Ctr where
 eo:=none
 d:=450
 u:=7500
 c:=lsC F
 L:=[(F,fo),(G,a0a (gir gs) eg),(M,dob w.params (knR kn) em),(R,a0a (rdr rs) er)]
 G:=[rs.map Rd.ob,gs.map Gi.ob]
 Y:=Q3 Obj (List Kn) Nat
 ok:=fun y=>LsH w.params st R M G y.a∧DF (rdE rs) s [] (y.b.map Kn.p)
 r:=fun _=>.ok .next
 L':=fun y=>[(F,y.a),(M,dob w.params (knR y.b) y.c),(R,a0a (rdr rs) er)]
 G':=fun y=>[rs.map Rd.ob]
noncomputable def e2p (w:World) (R:Addr) (s:Nat) (t0:Tok) (rs:List Rd) (er:Nat):Ctr where
 eo:=none
 d:=440
 u:=7400
 c:=.call (.ref 247) ⟨[.str (nm s) t0,.ref R],[]⟩
 L:=[(R,a0a (rdr rs) er)]
 G:=[rs.map Rd.ob]
 Y:=Q3 Addr (List Kn) Nat
 ok:=fun y=>DF (rdE rs) s [] (y.b.map Kn.p)
 r:=fun y=>.ok (.ret (.ref y.a))
 L':=fun y=>[(y.a,dob w.params (knR y.b) y.c),(R,a0a (rdr rs) er)]
 G':=fun y=>[rs.map Rd.ob]
theorem d0x {kn:List Kn} {u:Nat} {x:Int} {t tx:Tok} (hm:u∉kn.map (·.v)):Upd (kn.map Kn.p) u x (List.map Kn.p (kn++[⟨u,t,x,tx⟩])):=by
 rw [List.map_append]
 refine ⟨⟨x,List.mem_append_right _ (.head _),Int.le_refl _⟩,fun v y h=>⟨y,List.mem_append_left _ h,Int.le_refl _⟩,fun v y h=>?_,fun nd=>?_⟩
 ·rcases List.mem_append.mp h with h | h
  ·exact .inl h
  ·cases List.mem_singleton.mp h;exact .inr ⟨rfl,rfl⟩
 ·rw [List.map_append,List.nodup_append]
  refine ⟨nd,List.nodup_cons.mpr ⟨List.not_mem_nil,List.nodup_nil⟩,fun a ha b hb=>?_⟩
  cases List.mem_singleton.mp hb
  rintro rfl
  rw [List.map_map] at ha
  exact hm ha
theorem d7e {kn:List Kn} {e:Kn} {x:Int} {tx:Tok} (hnd:(kn.map (·.v)).Nodup) (he:e∈kn) (h:x < e.x):Upd (kn.map Kn.p) e.v x ((a7o e.v x tx kn).map Kn.p):=by
 refine ⟨⟨x,b0w _ x _ kn (List.mem_map_of_mem he),Int.le_refl _⟩,b3j _ x _ kn fun e' h1 h2=>?_,b2w _ x _ kn,fun _=>?_⟩
 ·rw [b1i hnd h1 he h2];exact Int.le_of_lt h
 ·rw [List.map_map]
  exact (b0r e.v x tx kn).symm▸hnd
theorem d6j {kn:List Kn} {e:Kn} {x:Int} (he:e∈kn) (h:¬x < e.x):Upd (kn.map Kn.p) e.v x (kn.map Kn.p):=
 ⟨⟨e.x,List.mem_map.mpr ⟨e,he,rfl⟩,Int.not_lt.mp h⟩,fun v y h=>⟨y,h,Int.le_refl _⟩,fun v y h=>.inl h,id⟩
theorem b8b {rs:List Rd} {k:Nat} {r:Rd} (h:rs[k]?=some r) (u:Nat):rdE (rs.drop k) u=(if r.i=u then [(r.j,r.c)] else [])++rdE (rs.drop (k + 1)) u:=by
 rw [a1b h]
 unfold rdE
 rw [List.filter_cons]
 by_cases e:r.i=u <;> simp [e]
section
variable {w:World} {F Q M G R:Addr} {st:Str} {x:Int} {u er s:Nat} {rs:List Rd}
noncomputable def d3m (r:Rd) (x:Int) (fr:Nat→Addr) (tk:Nat→Tok):Gi:=⟨fr 3,r.j,r.tj,x + r.c,Nat.succ (tk 5)⟩
theorem c4h (hu:u < 5) (hrs:∀r∈rs,r.i < 5) (hrl:rs.length≤1000):
  ∀n k,n + k=rs.length→∀{fo ti gs eg},LsG w.params st R M G (nm u) x fo→gs.length + n≤999999→(d7f w F Q M G R st x u rs er k fo ti gs eg).H w:=by
 intro n
 induction n with
 | zero=>
  intro k hk fo ti gs eg hfo hlen
  exact Ctr.p0 (rn (VT (vl [])) (a0r 4810363899970) (al1 (a3f (fun e:Rd=>.ref e.a) rs (sk0 hk))) fun _ _=>.ret [0,2,3] [0,1] ⟨fo,gs,eg⟩ ⟨hfo,by rw [List.drop_of_length_le (sk0 hk)];exact (List.append_nil _).symm⟩) rfl (by kernel_rfl)
 | succ n ih=>
  intro k hk fo ti gs eg hfo hlen
  obtain ⟨r,hr⟩:=a1u hk
  have hX:=b3a Rd.ob hr
  have h0:=a4q (fun e:Rd=>.ref e.a) hr
  have hgz:(gir gs).size≤1000000:=by rw [b7f];omega
  exact Ctr.p1 (rw' [] [0] (a1q hX) <| a9t (a:=F) 1 hfo (fun t=>(⟨fun tk=>lsB w.params st R M G (nm u) x ⟨a0q (a0q (a0q (a0q (a0q (a0q t 9 (Nat.succ (tk 1))) 10 r.ti) 11 (Nat.succ (tk 2))) 12 r.tj) 13 (Nat.succ (tk 3))) 14 r.tc,nm r.i,nm r.j,r.c⟩,fun _=>.inr ⟨_,rfl⟩⟩:Sh (LsG w.params st R M G (nm u) x)))
   (fun z=>⟨fun tk=>lsB w.params st R M G (nm u) x ⟨a0q (a0q (a0q z.a 10 r.ti) 12 r.tj) 14 r.tc,nm r.i,nm r.j,r.c⟩,fun _=>.inr ⟨_,rfl⟩⟩) fun d2=>
   .or (nm r.i=nm u) (fun e=>rn (VT (vl [.ref r.a])) (a0r 38998577795688356896252729981384418412230754455461285070371506403902248973041974889990144394215574198820995) (al hgz (al e (al1 h0))) fun fr tk=>
     rw' [4,8] [1] (d3q (fun e:Gi=>.ref e.a) Gi.ob G (eg + 1) gs (d3m r x fr tk)) <| rw' [2] [1] (a1j hX) <|
     agn [1,2,3,0] [0,1] (ih (k + 1) (sk1 hk) (ti:=0) (gs:=gs++[d3m r x fr tk]) (eg:=eg + 1) (d2.ok tk) (lp1 hlen)) [0,1,2] [0,1] (fun y=>y) fun y h=>⟨h.1,by rw [h.2,b8b hr,if_pos (a2u (hrs r (List.mem_of_getElem? hr)) hu e)];simp [Gi.kv,d3m]⟩)
    fun e=>rn (VT (vl [.ref r.a])) (a0r 2037541072144065661601648426842982412559389045819590671992016446177708966051357424337297539) (al e (al1 h0)) fun fr tk=>rw' [1] [0] (a1j hX) <|
     agn [0,1,2,3] [0,1] (ih (k + 1) (sk1 hk) (ti:=0) (gs:=gs) (eg:=eg) (d2.ok tk) (lp0 hlen)) [0,1,2] [0,1] (fun y=>y) fun y h=>⟨h.1,by rw [h.2,b8b hr,if_neg fun z=>e (congrArg nm z)];rfl⟩) rfl (by kernel_rfl)
theorem e6i {P:Params} {fo:Obj} (hf:LsH P st R M G fo) (e:P=w.params):∀b1 b2,a0b (W w b1 b2) 600 9799 (eval (b6u lsT) (b8f F)) [(F,fo)] (fun v L=>v= .ref G∧L=[(F,fo)]):=fun b1 b2=>by
 subst e
 refine a0b.run b3n (y:=a2r (b6u lsT) (b8f F)) (by rw [a1i]) (Nat.le_refl _) 100 [1] (fun _ _=>.ref G) (fun _ _=>[(F,fo)]) (fun _ _=>[]) (fun fr tk=>?_) (fun _ _=>a0e) (fun _ _ _=>⟨_,.refl _,rfl,rfl⟩)
 rcases hf with ⟨t,rfl⟩ | ⟨z,rfl⟩ | ⟨z,rfl⟩ <;> kernel_rfl
theorem e6h:∀b1 b2,a0b (W w b1 b2) 600 9799 (eval (b3c lsT) (b8f F)) [] (fun v L=>∃E,v= .ref E∧L=[(E,a0a #[] 0)]):=fun b1 b2=>
 a0b.run b3n (y:=a2r (b3c lsT) (b8f F)) (by rw [a1i]) (Nat.le_refl _) 100 [] (fun fr _=>.ref (fr 0)) (fun fr _=>[(fr 0,a0a #[] 0)]) (fun _ _=>[]) (fun fr tk=>by kernel_rfl) (fun _ _=>a0e) (fun _ _ _=>⟨_,.refl _,_,rfl,rfl⟩)
structure LsT (w:World) (st:Str) (R M G:Addr) (g:Gi) (kn:List Kn) where
 fo:Obj
 hf:LsG w.params st R M G (nm g.v) g.x fo
 fr:Nat→Addr
 kn':List Kn
 em:Nat
 hu:Upd (kn.map Kn.p) g.v g.x (kn'.map Kn.p)
theorem c1s (hr:c5d rs):∀N,∀{fo gs eg kn em},LsH w.params st R M G fo→DF (rdE rs) s (gs.map Gi.kv) (kn.map Kn.p)→b9e rs gs≤N→N≤200000→(d3a w F M G R st s rs er fo gs eg kn em).H w:=by
 intro N
 induction N with
 | zero=>
  intro fo gs eg kn em hfo df hN _
  have:gs=[]:=List.length_eq_zero_iff.mp (Nat.le_zero.mp (Nat.le_trans (b1e rs gs) hN))
  subst this
  exact Ctr.while_0 (pos:=c3z lsT) (body:=lpB b0h) (by kernel_rfl) (by kernel_rfl) rfl rfl rfl (fun _=>⟨_,rfl⟩) (e6i hfo rfl) e6h rfl (.ret [0,2,3] [0] ⟨fo,kn,em⟩ ⟨hfo,df⟩) (by kernel_rfl)
 | succ N ih=>
  intro fo gs eg kn em hfo df hN hM
  rcases List.eq_nil_or_concat gs with rfl | ⟨init,g,rfl⟩
  ·exact Ctr.while_0 (pos:=c3z lsT) (body:=lpB b0h) (by kernel_rfl) (by kernel_rfl) rfl rfl rfl (fun _=>⟨_,rfl⟩) (e6i hfo rfl) e6h rfl (.ret [0,2,3] [0] ⟨fo,kn,em⟩ ⟨hfo,df⟩) (by kernel_rfl)
  ·rw [List.concat_eq_append] at df hN ⊢
   have hsz:(gir (init++[g])).size=init.length + 1:=by rw [b7f];simp
   rw [List.map_append] at df
   have df:DF (rdE rs) s (init.map Gi.kv++[(g.v,g.x)]) (kn.map Kn.p):=df
   have hv5:g.v < 5:=(df.stack g.v g.x (List.mem_append_right _ (.head _))).1
   have hk5:∀e∈kn,e.v < 5:=fun e he=>(df.least e.v e.x (List.mem_map_of_mem he)).1
   have hnd:(kn.map (·.v)).Nodup:=by have:=df.nd;rw [List.map_map] at this;exact this
   have hkl:(knR kn).length≤1000000:=by
    have:=a6h 5 (kn.map (·.v)) hnd fun x hx=>by
     obtain ⟨e,he,rfl⟩:=List.mem_map.mp hx
     exact hk5 e he
    rw [List.length_map] at this
    unfold knR;rw [List.length_map];exact Nat.le_trans this (by decide)
   have hw:=a1f w.params hkl
   rw [c6z] at hN
   have hlast:b9e rs [g]=Wn (rdE rs) g.v:=Nat.add_zero _
   rw [hlast] at hN
   have hil:=b1e rs init
   have hrl:=hr.len
   have hup:∀q∈rdE rs g.v,g.v < q.1∧q.1 < 5:=fun q hq=>by
    obtain ⟨r,hr',hi,rfl⟩:=d0t hq
    have:=hr.up r hr'
    exact ⟨by show g.v < r.j;exact Nat.lt_of_le_of_lt (Nat.le_of_eq hi.symm) this.1,this.2⟩
   have hW:=c6a (rdE rs) hv5 fun q hq=>(hup q hq).1
   have hW1:1≤Wn (rdE rs) g.v:=Nat.le_trans (Nat.le_add_left 1 _) hW
   have hpop:a3t [nth (gir (init++[g])) (((gir (init++[g])).size:Int) - 1)= .ref g.a,0 < (gir (init++[g])).size,(gir (init++[g])).size≤1000000]:=by
    refine ⟨?_,by omega,by omega,trivial⟩
    have:(((gir (init++[g])).size:Int) - 1)=((init.length:Nat):Int):=by rw [hsz];simp +arith
    rw [this];exact a7p (f:=fun e:Gi=>.ref e.a) (by simp)
   have key:∀{gs':List Gi},gs'.map Gi.kv=init.map Gi.kv++(rdE (rs.drop 0) g.v).map (fun r=>(r.1,g.x + r.2))→b9e rs gs'≤N:=fun {gs'} e=>by
    rw [b9s,e,List.map_append,b1o,←b9s,List.map_map]
    show b9e rs init + b0i ((rdE rs g.v).map fun q=>Wn (rdE rs) q.1)≤N
    omega
   refine Ctr.while_1 (pos:=c3z lsT) (body:=lpB b0h) (by kernel_rfl) (by kernel_rfl) rfl rfl rfl (fun _=>⟨_,rfl⟩) (e6i hfo rfl) e6h (by rw [hsz];exact Nat.succ_ne_zero _) (rw' [] [1] (c4f Gi.ob init g) <|
    tl9 (α:=LsT w st R M G g kn) (fun a=>us [2,8,4,1] [1,0] (c4h (F:=F) (Q:=a.fr 3) (er:=er) hv5 (fun r h=>Nat.lt_trans (hr.up r h).1 (hr.up r h).2) (Nat.le_trans hrl (by decide)) rs.length 0 rfl (ti:=0) (gs:=init) (eg:=eg + 1) a.hf (by omega)) fun y hy=>
      rn (VT (vl [])) (a0r 1) al0 fun _ _=>agn [0,2,3,1] [0,1] (ih (fo:=y.a) (gs:=y.b) (eg:=y.c) (kn:=a.kn') (em:=a.em) hy.1.h (by rw [hy.2];exact df.turn a.hu fun q hq=>(hup q hq).2) (key hy.2) (by omega)) [0,1,2] [0] (fun y=>y) fun y h=>h) fun tail=>
    d1p (a:=F) 1 hfo (fun t=>(⟨fun tk=>lsA w.params st R M G (nm g.v) g.x (a0q (a0q (a0q (a0q t 5 (Nat.succ (tk 1))) 6 g.tv) 7 (Nat.succ (tk 2))) 8 g.tx),fun _=>.inl ⟨_,rfl⟩⟩:Sh (LsG w.params st R M G (nm g.v) g.x)))
     (fun z=>⟨fun tk=>lsA w.params st R M G (nm g.v) g.x (a0q (a0q z.c 6 g.tv) 8 g.tx),fun _=>.inl ⟨_,rfl⟩⟩) (fun z=>⟨fun tk=>lsB w.params st R M G (nm g.v) g.x ⟨a0q (a0q z.c.a 6 g.tv) 8 g.tx,z.c.b,z.c.c,z.c.d⟩,fun _=>.inr ⟨_,rfl⟩⟩) fun d=>
    .or (g.v∈kn.map (·.v)) (fun hm=>.ex Kn _ (c5p hk5 hv5 hm) fun e he=>.or (g.x < e.x)
      (fun hl=>rn (VT (vl [.ref g.a,.int e.x e.tx])) (a0r 11794323808693907872668976592408705636803960734590029943425881309858733750872061676859054137545429767099299289022797197505) (al hw (al ((a0l w.params _ _).mpr ((a3e hk5 hv5).mpr hm)) (al hl (al (a5f w.params hkl ((a3e hk5 hv5).mpr hm) he.2.2) (al hw (al ((a0l w.params _ _).mpr ((a3e hk5 hv5).mpr hm)) (al1 hpop))))))) fun fr tk=>rw' [2] [] (a1o (a:=G) (n:=eg + 1) (b4q init g)) <| rw' [3] [] (a0u (a:=M) (o:=a8d (d6d ⟨a0k w.params (knR kn)⟩ (nm g.v) (.int g.x g.tx)) em) (o':=dob w.params (knR (a7o g.v g.x g.tx kn)) em) (by rw [c1i,b6v hv5 _ _ hk5])) <|
       tail ⟨d.d tk,d.ok tk,fr,_,em,he.2.1▸d7e (tx:=g.tx) hnd he.1 hl⟩)
      fun hl=>rn (VT (vl [.ref g.a,.int e.x e.tx])) (a0r 2681718753748742756868431699462210870538536412885478017625684993345688330042010686024146504258315614176424129) (al hl (al (a5f w.params hkl ((a3e hk5 hv5).mpr hm) he.2.2) (al hw (al ((a0l w.params _ _).mpr ((a3e hk5 hv5).mpr hm)) (al1 hpop))))) fun fr tk=>rw' [2] [] (a1o (a:=G) (n:=eg + 1) (b4q init g)) <| rw' [3] [] (a0u (a:=M) (o:=dob w.params (knR kn) em) rfl) <|
       tail ⟨d.d tk,d.ok tk,fr,_,em,he.2.1▸d6j he.1 hl⟩)
     fun hm=>have hn:¬a3m ⟨a0k w.params (knR kn)⟩ (nm g.v):=(fun z=>hm ((a3e hk5 hv5).mp ((a0l w.params _ _).mp z)))
      rn (VT (vl [.ref g.a])) (a0r 10229945197237125425650310564569530207753643919052548934552659489474329863023969671827566442591778779329) (al hw (al hn (al hw (al hn (al1 hpop))))) fun fr tk=>rw' [2] [] (a1o (a:=G) (n:=eg + 1) (b4q init g)) <| rw' [3] [] (f2l w.params (a:=M) (n:=em + 1) (knR kn) (nm g.v) g.tv (.int g.x g.tx)) <| rw' [0] [] (a0u (a:=M) (o':=dob w.params (knR (kn++[⟨g.v,g.tv,g.x,g.tx⟩])) (em + 1)) (by rw [show knR (kn++[⟨g.v,g.tv,g.x,g.tx⟩])=knR kn++[(nm g.v,g.tv,.int g.x g.tx)] from List.map_append])) <|
       tail ⟨d.d tk,d.ok tk,fr,_,em + 1,d0x (t:=g.tv) (tx:=g.tx) hm⟩) (by kernel_rfl)
theorem c4o (hr:c5d rs) (hs:s < 5) {t0:Tok}:(e2p w R s t0 rs er).H w:=
 Ctr.c0 (rn (VT (vl [])) (a0r 74976494083010469888) al0 fun fr tk=>rw' [3] [] (f0u Gi.ob ⟨fr 2,s,t0,0,Nat.succ (tk 3)⟩) <|
  us [1,3,2,0] [1,0] (c1s (F:=fr 0) (M:=fr 1) (G:=fr 3) (R:=R) (st:=nm s) (er:=er) hr 200000 (fo:=fob w.params (e5c (a0q (fun i=>match i with | 3=>Nat.succ (tk 2) | 4=>Nat.succ (tk 4) | 2=>Nat.succ (tk 1) | _=>Nat.succ (tk 0)) 1 t0) (nm s) R (fr 1) (fr 3)) 4) (gs:=[⟨fr 2,s,t0,0,Nat.succ (tk 3)⟩]) (eg:=0) (kn:=[]) (em:=0) (.inl ⟨_,rfl⟩) (DF.init hs) (Nat.le_trans (Nat.le_of_eq (Nat.add_zero _)) (Nat.le_trans (e6u (rdE rs) (d4t hr) s) (by decide))) (Nat.le_refl _)) fun y hy=>
   d1p (a:=fr 0) 0 hy.1 (fun _=>()) (fun _=>()) (fun _=>()) fun _=>rn (VT (vl [])) (a0r 65) al0 fun _ _=>.ret [1,2] [0] ⟨fr 1,y.b,y.c⟩ hy.2) rfl (by kernel_rfl)
end
noncomputable def e5t (w:World) (H:Addr) (es:List It) (ep:Nat) (e:It):Ctr where
 eo:=none
 d:=480
 u:=7800
 c:=.call (.ref 176) ⟨[.ref H,.ref e.a],[]⟩
 L:=[(H,a0a (a0p es) ep),e.ob]
 G:=[es.map It.ob]
 Y:=Q2 (List It) Nat
 ok:=fun y=>y.a.Perm (es++[e])∧a4b y.a
 r:=fun _=>.ok (.ret .none)
 L':=fun y=>[(H,a0a (a0p y.a) y.b)]
 G':=fun y=>[y.a.map It.ob]
theorem d2g {w:World} {H:Addr} {es:List It} {ep:Nat} {e:It} (hz:es.length < 1000000) (hx:a4b es):(e5t w H es ep e).H w:=by
 refine Ctr.ofDoes (fun b1 b2=>(b2c (ep:=ep) (show 480≤570 by decide) (show 7800 < 9500 by decide) hz e hx).mono (.of_perm ?_) fun r L' _ h=>⟨L',.refl _,h⟩) fun r L h=>?_
 ·exact lpp [[_],[_],_] [2,3,0,4,1,0,0] [2,4,0,3,0] rfl
 ·obtain ⟨rfl,es',ep',h1,h2,rfl⟩:=h
  exact ⟨⟨es',ep'⟩,⟨h1,h2⟩,rfl,by exact ltt [[_],_] [2,3,1,0,0] [2,3,0] rfl⟩
noncomputable def f5h (w:World) (H:Addr) (es:List It) (ep:Nat):Ctr where
 eo:=none
 d:=470
 u:=7700
 c:=.call (.ref 183) ⟨[.ref H],[]⟩
 L:=[(H,a0a (a0p es) ep)]
 G:=[es.map It.ob]
 Y:=Q3 It (List It) Nat
 ok:=fun y=>es.Perm (y.a::y.b)∧a4b y.b∧∀x∈y.b,y.a.x≤x.x
 r:=fun y=>.ok (.ret (.ref y.a.a))
 L':=fun y=>[(H,a0a (a0p y.b) y.c),(y.a.a,tob [.int y.a.x y.a.tx,.str y.a.p y.a.tp])]
 G':=fun y=>[y.b.map It.ob]
theorem d3k {w:World} {H:Addr} {es:List It} {ep:Nat} (hz:es.length≤1000000) (hx:a4b es) (hne:es≠[]):(f5h w H es ep).H w:=by
 refine Ctr.ofDoes (fun b1 b2=>(b2r (ep:=ep) (show 470≤560 by decide) (show 7700 < 9400 by decide) hz hx hne).mono (.of_perm ?_) fun r L' _ h=>⟨L',.refl _,h⟩) fun r L h=>?_
 ·exact lpp [[_],_] [2,3,1,0,0] [2,3,0] rfl
 ·obtain ⟨e,es',ep',rfl,h1,h2,h3,rfl⟩:=h
  exact ⟨⟨e,es',ep'⟩,⟨h1,h2,h3⟩,rfl,by exact ltt [[_],[_],_] [2,3,0,4,1,0,0] [2,4,0,3,0] rfl⟩
noncomputable def gnA (P:Params) (st:Str) (O N H T K:Addr) (x:Int) (p:Str) (t:Nat→Tok):Obj:=fob P (f1u t st O N H T K x p) 8
noncomputable def gnB (P:Params) (st:Str) (O N H T K:Addr) (x:Int) (p:Str) (z:Q3 (Nat→Tok) Str Int):Obj:=fob P (f0g z.a st O N H T K x p z.b z.c) 10
noncomputable def GnG (P:Params) (st:Str) (O N H T K:Addr) (x:Int) (p:Str) (fo:Obj):Prop:=(∃t,fo=gnA P st O N H T K x p t)∨∃z,fo=gnB P st O N H T K x p z
noncomputable def GnH (P:Params) (st:Str) (O N H T K:Addr) (fo:Obj):Prop:=(∃t,fo=fob P (e7k t st O N H T K) 6)∨(∃q:Q3 Int Str (Nat→Tok),fo=gnA P st O N H T K q.a q.b q.c)∨∃q:Q3 Int Str (Q3 (Nat→Tok) Str Int),fo=gnB P st O N H T K q.a q.b q.c
theorem GnG.h {P:Params} {st:Str} {O N H T K:Addr} {x:Int} {p:Str} {fo:Obj} (h:GnG P st O N H T K x p fo):GnH P st O N H T K fo:=.inr (h.imp (fun ⟨t,e⟩=>⟨⟨x,p,t⟩,e⟩) fun ⟨z,e⟩=>⟨⟨x,p,z⟩,e⟩)
noncomputable def e2u (w:World) (F R H O N T K Oi:Addr) (st:Str) (x:Int) (u:Nat) (hl:List Row) (eh:Nat) (h:Nat→Int) (os:List Ot) (eo k:Nat) (fo:Obj) (ti:Tok) (es:List It) (ep:Nat):Ctr where
 eo:=none
 d:=460
 u:=7600
 c:=b4o e6z (.ref R) (b8y F)
 L:=[(F,fo),(R,a0z (.ref Oi) k ti),(Oi,a0a (otr os) eo),(N,dob w.params hl eh),(H,a0a (a0p es) ep)]
 G:=[os.map Ot.ob,es.map It.ob]
 Y:=Q3 Obj (List It) Nat
 ok:=fun y=>GnG w.params st O N H T K x (nm u) y.a∧a4b y.b∧(y.b.map It.kv).Perm (es.map It.kv++(os.drop k).map fun o=>(x + o.c + h u - h o.v,nm o.v))
 r:=fun _=>.ok .next
 L':=fun y=>[(F,y.a),(Oi,a0a (otr os) eo),(N,dob w.params hl eh),(H,a0a (a0p y.b) y.c)]
 G':=fun y=>[os.map Ot.ob,y.b.map It.ob]
noncomputable def a4r.ats (d:a4r):Led:=d.at 0++d.at 1++d.at 2++d.at 3++d.at 4
noncomputable def gnC (F:Addr):Code:=.whileLoop gnT (lpB b0j) [] (b8y F)
noncomputable def d5j (w:World) (F H N T K:Addr) (st:Str) (hl:List Row) (eh:Nat) (h:Nat→Int) (d:a4r) (s B:Nat) (fo:Obj) (es:List It) (ep:Nat) (ts:List (Int×Tok)) (et:Nat) (kn:List Kn) (ek:Nat):Ctr where
 eo:=none
 d:=450
 u:=7500
 c:=gnC F
 L:=[(F,fo),(H,a0a (a0p es) ep),(T,a0a (a0w ts) et),(K,dob w.params (knR kn) ek),(N,dob w.params hl eh),(d.O,dob w.params d.ol d.eo)]
 G:=[es.map It.ob,d.ats]
 Y:=Q5 Obj (List (Int×Tok)) Nat (List Kn) Nat
 ok:=fun y=>GnH w.params st d.O N H T K y.a∧DJ d.E h s [] (y.d.map Kn.p) (y.b.map (·.1))∧y.b.length≤B
 r:=fun _=>.ok .next
 L':=fun y=>[(F,y.a),(T,a0a (a0w y.b) y.c),(K,dob w.params (knR y.d) y.e),(N,dob w.params hl eh),(d.O,dob w.params d.ol d.eo)]
 G':=fun y=>[d.ats]
noncomputable def e5v (w:World) (N:Addr) (hl:List Row) (eh:Nat) (h:Nat→Int) (d:a4r) (s:Nat) (t0:Tok):Ctr where
 eo:=none
 d:=440
 u:=7400
 c:=.call (.ref 240) ⟨[.str (nm s) t0,.ref d.O,.ref N],[]⟩
 L:=[(N,dob w.params hl eh),(d.O,dob w.params d.ol d.eo)]
 G:=[d.ats]
 Y:=Q5 (Q3 Addr Addr Addr) (List (Int×Tok)) Nat (List Kn) Nat
 ok:=fun y=>DJ d.E h s [] (y.d.map Kn.p) (y.b.map (·.1))∧y.b.length≤1 + b7g d []
 r:=fun y=>.ok (.ret (.ref y.a.a))
 L':=fun y=>[(y.a.a,tob [.ref y.a.b,.ref y.a.c]),(y.a.b,a0a (a0w y.b) y.c),(y.a.c,dob w.params (knR y.d) y.e),(N,dob w.params hl eh),(d.O,dob w.params d.ol d.eo)]
 G':=fun y=>[d.ats]
theorem a4r.opens (d:a4r) {u:Nat} (hu:u < 5):∃X,d.ats.Perm ((d.oa u,a0a (otr (d.OL u)) (d.eu u))::((d.OL u).map Ot.ob++X)):=by
 have h:u=0∨u=1∨u=2∨u=3∨u=4:=lt5 (by first | assumption | omega)
 rcases h with rfl | rfl | rfl | rfl | rfl
 ·exact ⟨_,by exact lpp [d.at 0,d.at 1,d.at 2,d.at 3,d.at 4] [2,3,0,4,0,5,0,6,0] [2,3,4,5,6,0,0,0,0] rfl⟩
 ·exact ⟨_,by exact lpp [d.at 0,d.at 1,d.at 2,d.at 3,d.at 4] [2,3,0,4,0,5,0,6,0] [3,2,4,5,6,0,0,0,0] rfl⟩
 ·exact ⟨_,by exact lpp [d.at 0,d.at 1,d.at 2,d.at 3,d.at 4] [2,3,0,4,0,5,0,6,0] [4,2,3,5,6,0,0,0,0] rfl⟩
 ·exact ⟨_,by exact lpp [d.at 0,d.at 1,d.at 2,d.at 3,d.at 4] [2,3,0,4,0,5,0,6,0] [5,2,3,4,6,0,0,0,0] rfl⟩
 ·exact ⟨_,by exact lpp [d.at 0,d.at 1,d.at 2,d.at 3,d.at 4] [2,3,0,4,0,5,0,6,0] [6,2,3,4,5,0,0,0,0] rfl⟩
structure f2t (P:Params) (st:Str) (O N H T K:Addr) where
 d:Int→Str→Tok→Tok→(Nat→Tok)→Obj
 ok:∀x p t1 t2 tk,GnG P st O N H T K x p (d x p t1 t2 tk)
theorem b9a {es es':List It} {e:It} {hp:List (Int×Nat)} (hk:(es.map It.kv).Perm (hpS hp)) (hp1:es.Perm (e::es')) (hmin:∀x∈es',e.x≤x.x):
  ∃q:Nat×List (Int×Nat),e.p=nm q.1∧hp.Perm ((e.x,q.1)::q.2)∧(es'.map It.kv).Perm (hpS q.2)∧∀x∈q.2,e.x≤x.1:=by
 obtain ⟨v,hp',h1,h2,h3,h4⟩:=c2t hk hp1 hmin
 exact ⟨(v,hp'),h1,h2,h3,h4⟩
theorem d4l {d:a4r} {h:Nat→Int} {s v:Nat} {hp hp':List (Int×Nat)} {kn:List Kn} {ts:List (Int×Tok)} {x:Int} {t:Tok} (dj:DJ d.E h s hp (kn.map Kn.p) (ts.map (·.1))) (h1:hp.Perm ((x,v)::hp')) (h2:∀q∈hp',x≤q.1) (hk:v∈kn.map (·.v)):DJ d.E h s hp' (kn.map Kn.p) ((ts++[(x,t)]).map (·.1)):=by
 rw [List.map_append]
 obtain ⟨k,hm,rfl⟩:=List.mem_map.mp hk
 exact dj.old h1 h2 ⟨k.x,List.mem_map.mpr ⟨k,hm,rfl⟩⟩
theorem d0b {d:a4r} {h:Nat→Int} {s v:Nat} {hp hp':List (Int×Nat)} {kn:List Kn} {ts:List (Int×Tok)} {x:Int} {t t' t'':Tok} (dj:DJ d.E h s hp (kn.map Kn.p) (ts.map (·.1))) (hd:d.Ok) (hn:∀u,u < 5→∀q∈d.E u,0≤q.2 + h u - h q.1) (h1:hp.Perm ((x,v)::hp')) (h2:∀q∈hp',x≤q.1) (hv:v < 5) (hk:v∉kn.map (·.v)):
  DJ d.E h s (hp'++(d.E v).map fun q=>(x + q.2 + h v - h q.1,q.1)) ((kn++[⟨v,t',x,t''⟩]:List Kn).map Kn.p) ((ts++[(x,t)]).map (·.1)):=by
 rw [List.map_append,List.map_append]
 exact dj.new h1 h2 (by rw [List.map_map];exact hk) (fun q hq=>by
  obtain ⟨o,ho,rfl⟩:=List.mem_map.mp hq
  exact hd.tgt v hv o ho) (hn v hv)
theorem e8f {d:a4r} {h:Nat→Int} {v:Nat} {x:Int} {es es2:List It} {hp':List (Int×Nat)} (h1:(es.map It.kv).Perm (hpS hp')) (h2:(es2.map It.kv).Perm (es.map It.kv++(d.OL v).map fun o=>(x + o.c + h v - h o.v,nm o.v))):
  (es2.map It.kv).Perm (hpS (hp'++(d.E v).map fun q=>(x + q.2 + h v - h q.1,q.1))):=by
 unfold hpS a4r.E
 rw [List.map_append,List.map_map,List.map_map]
 exact h2.trans (h1.append_right _)
section
variable {w:World} {F R H O N T K Oi:Addr} {st:Str} {x:Int} {u eo eh:Nat} {hl:List Row} {h:Nat→Int}
theorem f0l (P:Params) (hH:isH hl h) {v:Nat} (hv:v < 5):∃t,a3t [a5x ⟨a0k P hl⟩ (nm v)= .int (h v) t,dWf P ⟨a0k P hl⟩,a3m ⟨a0k P hl⟩ (nm v)]:=by
 obtain ⟨h1,t,h2⟩:=hH.2 v hv
 exact ⟨t,a5f P (Nat.le_trans hH.1 (by decide)) h1 h2⟩
theorem c4l (hH:isH hl h) (hu:u < 5) {os:List Ot} (hos:∀o∈os,o.v < 5):
  ∀n k,n + k=os.length→∀{fo ti es ep},GnG w.params st O N H T K x (nm u) fo→a4b es→es.length + n≤100000→(e2u w F R H O N T K Oi st x u hl eh h os eo k fo ti es ep).H w:=by
 intro n
 induction n with
 | zero=>
  intro k hk fo ti es ep hfo hes hlen
  exact Ctr.p0 (rn (VT (vl [])) (a0r 4879083376706) (al1 (a3f (fun e:Ot=>.ref e.a) os (sk0 hk))) fun _ _=>.ret [0,2,3,4] [0,1] ⟨fo,es,ep⟩ ⟨hfo,hes,by rw [List.drop_of_length_le (sk0 hk),List.map_nil,List.append_nil]⟩) rfl (by kernel_rfl)
 | succ n ih=>
  intro k hk fo ti es ep hfo hes hlen
  obtain ⟨o,ho⟩:=a1u hk
  have hX:=b3a Ot.ob ho
  obtain ⟨t1,h1⟩:=f0l w.params hH hu
  obtain ⟨t2,h2⟩:=f0l w.params hH (hos o (List.mem_of_getElem? ho))
  exact Ctr.p1 (rw' [] [0] (a1q hX) <| a9t (a:=F) 1 hfo (fun t=>(⟨fun tk=>gnB w.params st O N H T K x (nm u) ⟨a0q (a0q (a0q (a0q t 11 (Nat.succ (tk 1))) 12 o.tv) 13 (Nat.succ (tk 2))) 14 o.tc,nm o.v,o.c⟩,fun _=>.inr ⟨_,rfl⟩⟩:Sh (GnG w.params st O N H T K x (nm u))))
   (fun z=>⟨fun tk=>gnB w.params st O N H T K x (nm u) ⟨a0q (a0q z.a 12 o.tv) 14 o.tc,nm o.v,o.c⟩,fun _=>.inr ⟨_,rfl⟩⟩) fun d2=>
   rn (VT (vl [.ref o.a,.int (h u) t1,.int (h o.v) t2])) (a0r 2349116526286609986925204596765726519173088744441582094202129163725483281786961458539432965319527609767043203) (al h2 (al h1 (al1 (a4q (fun e:Ot=>.ref e.a) ho)))) fun fr tk=>
   us [5,9] [1] (d2g (H:=H) (ep:=ep) (e:=⟨fr 3,x + o.c + h u - h o.v,Nat.succ (tk 7),nm o.v,o.tv⟩) (by omega) hes) fun y hy=>rn (VT (vl [])) (a0r 1) al0 fun _ _=>rw' [2] [1] (a1j hX) <|
   agn [1,2,3,4,0] [0,1] (ih (k + 1) (sk1 hk) (ti:=0) (es:=y.a) (ep:=y.b) (d2.ok tk) hy.2 (by rw [hy.1.length_eq];exact lp1 hlen)) [0,1,2,3] [0,1] (fun y=>y) fun z hz=>⟨hz.1,hz.2.1,hz.2.2.trans (by
    rw [a1b ho,List.map_cons]
    refine ((hy.1.map It.kv).append_right _).trans ?_
    rw [List.map_append,List.append_assoc]
    exact .refl _)⟩) rfl (by kernel_rfl)
theorem e6p {O:Addr} {P:Params} {fo:Obj} (hf:GnH P st O N H T K fo) (e:P=w.params):∀b1 b2,a0b (W w b1 b2) 600 9799 (eval (b6u gnT) (b8y F)) [(F,fo)] (fun v L=>v= .ref H∧L=[(F,fo)]):=fun b1 b2=>by
 subst e
 refine a0b.run b3n (y:=a2r (b6u gnT) (b8y F)) (by rw [a1i]) (Nat.le_refl _) 100 [1] (fun _ _=>.ref H) (fun _ _=>[(F,fo)]) (fun _ _=>[]) (fun fr tk=>?_) (fun _ _=>a0e) (fun _ _ _=>⟨_,.refl _,rfl,rfl⟩)
 rcases hf with ⟨t,rfl⟩ | ⟨z,rfl⟩ | ⟨z,rfl⟩ <;> kernel_rfl
theorem e9a:∀b1 b2,a0b (W w b1 b2) 600 9799 (eval (b3c gnT) (b8y F)) [] (fun v L=>∃E,v= .ref E∧L=[(E,a0a #[] 0)]):=fun b1 b2=>
 a0b.run b3n (y:=a2r (b3c gnT) (b8y F)) (by rw [a1i]) (Nat.le_refl _) 100 [] (fun fr _=>.ref (fr 0)) (fun fr _=>[(fr 0,a0a #[] 0)]) (fun _ _=>[]) (fun fr tk=>by kernel_rfl) (fun _ _=>a0e) (fun _ _ _=>⟨_,.refl _,_,rfl,rfl⟩)
theorem c3o {d:a4r} {s B:Nat} (hB:B≤600) (hH:isH hl h) (hd:d.Ok) (hn:∀u,u < 5→∀q∈d.E u,0≤q.2 + h u - h q.1):
  ∀n,∀{fo es ep kn ek ts et} (hp:List (Int×Nat)),GnH w.params st d.O N H T K fo→a4b es→(es.map It.kv).Perm (hpS hp)→DJ d.E h s hp (kn.map Kn.p) (ts.map (·.1))→hp.length + b7g d kn=n→ts.length + n≤B→kn.length≤ts.length→
   (d5j w F H N T K st hl eh h d s B fo es ep ts et kn ek).H w:=by
 intro n
 induction n with
 | zero=>
  intro fo es ep kn ek ts et hp hfo hes hkv dj hm hts hkt
  have hp0:hp=[]:=List.length_eq_zero_iff.mp (by omega)
  subst hp0
  have:es=[]:=List.map_eq_nil_iff.mp hkv.eq_nil
  subst this
  exact Ctr.while_0 (pos:=c3z gnT) (body:=lpB b0j) (by kernel_rfl) (by kernel_rfl) rfl rfl rfl (fun _=>⟨_,rfl⟩) (e6p hfo rfl) e9a rfl (.ret [0,2,3,4,5] [1] ⟨fo,ts,et,kn,ek⟩ ⟨hfo,dj,hts⟩) (by kernel_rfl)
 | succ n ih=>
  intro fo es ep kn ek ts et hp hfo hes hkv dj hm hts hkt
  have hlen:es.length=hp.length:=by have:=hkv.length_eq;simpa [hpS] using this
  by_cases hne:es=[]
  ·subst hne
   have hp0:hp=[]:=List.length_eq_zero_iff.mp hlen.symm
   subst hp0
   exact Ctr.while_0 (pos:=c3z gnT) (body:=lpB b0j) (by kernel_rfl) (by kernel_rfl) rfl rfl rfl (fun _=>⟨_,rfl⟩) (e6p hfo rfl) e9a rfl (.ret [0,2,3,4,5] [1] ⟨fo,ts,et,kn,ek⟩ ⟨hfo,dj,Nat.le_trans (Nat.le_add_right _ _) hts⟩) (by kernel_rfl)
  ·have htz:(a0w ts).size≤1000000:=by simp [a0w];omega
   have hkz:(knR kn).length≤1000000:=by simp [knR];omega
   have hw:=a1f w.params hkz
   have hk5:∀k∈kn,k.v < 5:=fun k hk=>(dj.known k.v k.x (List.mem_map_of_mem hk)).1
   refine Ctr.while_1 (pos:=c3z gnT) (body:=lpB b0j) (by kernel_rfl) (by kernel_rfl) rfl rfl rfl (fun _=>⟨_,rfl⟩) (e6p hfo rfl) e9a (by rw [a0m];exact fun z=>hne (List.length_eq_zero_iff.mp z))
    (d1p (a:=F) 0 hfo (fun t=>(⟨fun x p t1 t2 tk=>gnA w.params st d.O N H T K x p (a0q (a0q (a0q (a0q t 7 (Nat.succ (tk 0))) 8 t1) 9 (Nat.succ (tk 1))) 10 t2),fun _ _ _ _ _=>.inl ⟨_,rfl⟩⟩:f2t w.params st d.O N H T K))
     (fun z=>⟨fun x p t1 t2 tk=>gnA w.params st d.O N H T K x p (a0q (a0q z.c 8 t1) 10 t2),fun _ _ _ _ _=>.inl ⟨_,rfl⟩⟩) (fun z=>⟨fun x p t1 t2 tk=>gnB w.params st d.O N H T K x p ⟨a0q (a0q z.c.a 8 t1) 10 t2,z.c.b,z.c.c⟩,fun _ _ _ _ _=>.inr ⟨_,rfl⟩⟩) fun d2=>
    rn (VT (vl [])) (a0r 262208) al0 fun _ _=>us [1] [0] (d3k (H:=H) (ep:=ep) (by omega) hes hne) fun y hy=>.ex (Nat×List (Int×Nat)) _ (b9a hkv hy.1 hy.2.2) fun q hq=>
    have hv5:q.1 < 5:=(dj.heap y.a.x q.1 (hq.2.1.mem_iff.mpr (.head _))).1
    rw' [1] [] (a0u (a:=y.a.a) (o:=tob [.int y.a.x y.a.tx,.str y.a.p y.a.tp]) (o':=tob [.int y.a.x y.a.tx,.str (nm q.1) y.a.tp]) (by rw [hq.1])) <|
    .or (q.1∈kn.map (·.v)) (fun hk=>
     rn (VT (vl [])) (a0r 30135465533443169018771436176303440733934624148833993746190644704540647292670017) (al hw (al ((a0l w.params _ _).mpr ((a3e hk5 hv5).mpr hk)) (al1 htz))) fun _ tk=>rw' [3] [] (a1o (a:=T) (n:=et + 1) (b3q ts y.a.x y.a.tx)) <|
      agn [3,2,0,4,5,6] [0,1] (ih (fo:=d2.d y.a.x (nm q.1) y.a.tx y.a.tp tk) (es:=y.b) (ep:=y.c) (kn:=kn) (ek:=ek) (ts:=ts++[(y.a.x,y.a.tx)]) (et:=et + 1) q.2 (d2.ok _ _ _ _ _).h hy.2.1 hq.2.2.1 (d4l dj hq.2.1 hq.2.2.2 hk) (by have:=hq.2.1.length_eq;simp at this;omega) (by simp;omega) (by simp;exact Nat.le_succ_of_le hkt)) [0,1,2,3,4] [0] (fun y=>y) fun _ h=>h)
     fun hk=>.ex Led _ (d.opens hv5) fun X hX=>rw' [] [1] (b3v hX) <|
     have hn':¬a3m ⟨a0k w.params (knR kn)⟩ (nm q.1):=fun z=>hk ((a3e hk5 hv5).mp ((a0l w.params _ _).mp z))
     rn (VT (vl [.ref (d.oa q.1)])) (a0r 731244603874031940101802908962367526872583508704442485496609301482739821668363940947275350280779800648108055470210) (al (a5f w.params (Nat.le_trans hd.len (by decide)) (hd.key _ hv5) (hd.val _ hv5)) (al hw (al hn' (al hw (al hn' (al1 htz)))))) fun fr tk=>
     us [3,11,0,6,2] [0,2] (c4l (F:=F) (R:=fr 3) (O:=d.O) (N:=N) (T:=T) (K:=K) (Oi:=d.oa q.1) (st:=st) (eo:=d.eu q.1) (eh:=eh) (ep:=y.c) hH hv5 (hd.tgt _ hv5) (d.OL q.1).length 0 rfl (fo:=d2.d y.a.x (nm q.1) y.a.tx y.a.tp tk) (ti:=0) (es:=y.b) (d2.ok _ _ _ _ _) hy.2.1 (by have:=hd.sz _ hv5;have:=hq.2.1.length_eq;have:=hy.1.length_eq;simp at *;omega)) fun z hz=>
     rn (VT (vl [])) (a0r 1) al0 fun _ _=>rw' [5] [] (a1o (a:=T) (n:=et + 1) (b3q ts y.a.x y.a.tx)) <| rw' [6] [] (a0u (a:=K) (o:=a8d (c6g w.params ⟨a0k w.params (knR kn)⟩ (nm q.1) y.a.tp (.int y.a.x y.a.tx)) (ek + 1)) (o':=dob w.params (knR (kn++[⟨q.1,y.a.tp,y.a.x,y.a.tx⟩])) (ek + 1)) (by rw [a3y,show knR (kn++[⟨q.1,y.a.tp,y.a.x,y.a.tx⟩])=knR kn++[(nm q.1,y.a.tp,.int y.a.x y.a.tx)] from List.map_append])) <|
     rw' [3] [0,2] (b3v hX).symm <|
      agn [2,4,1,0,3,6] [1,0] (ih (fo:=z.a) (es:=z.b) (ep:=z.c) (kn:=kn++[⟨q.1,y.a.tp,y.a.x,y.a.tx⟩]) (ek:=ek + 1) (ts:=ts++[(y.a.x,y.a.tx)]) (et:=et + 1) (q.2++(d.E q.1).map fun p=>(y.a.x + p.2 + h q.1 - h p.1,p.1)) hz.1.h hz.2.1 (e8f hq.2.2.1 hz.2.2) (d0b dj hd hn hq.2.1 hq.2.2.2 hv5 hk) (by have:=c7b d kn ⟨q.1,y.a.tp,y.a.x,y.a.tx⟩ hv5 hk;have:=hq.2.1.length_eq;simp [a4r.E] at *;omega) (by simp;omega) (by simp;omega)) [0,1,2,3,4] [0] (fun y=>y) fun _ h=>h) (by kernel_rfl)
noncomputable def f2v (t0:Tok) (tk:Nat→Tok):Nat→Tok:=fun i=>match i with | 1=>t0 | 0=>Nat.succ (tk 0) | 2=>Nat.succ (tk 1) | 3=>Nat.succ (tk 2) | i=>Nat.succ (tk i)
theorem d5q {d:a4r} {s:Nat} {t0:Tok} (hH:isH hl h) (hd:d.Ok) (hn:∀u,u < 5→∀q∈d.E u,0≤q.2 + h u - h q.1) (hs:s < 5):(e5v w N hl eh h d s t0).H w:=
 Ctr.c1 (rn (VT (vl [])) (a0r 7468519125863815478989101161216607418600476169041602171866883123335139962880) al0 fun fr tk=>rw' [3] [] (f0u It.ob ⟨fr 1,0,Nat.succ (tk 3),nm s,t0⟩) <|
  us [2,3,4,5,0,1] [0,1] (c3o (F:=fr 0) (H:=fr 2) (T:=fr 3) (K:=fr 4) (st:=nm s) (eh:=eh) (B:=1 + b7g d []) (by have:=d2c hd [];omega) hH hd hn (1 + b7g d []) (fo:=fob w.params (e7k (f2v t0 tk) (nm s) d.O N (fr 2) (fr 3) (fr 4)) 6) (es:=[⟨fr 1,0,Nat.succ (tk 3),nm s,t0⟩]) (ep:=0) (kn:=[]) (ek:=0) (ts:=[]) (et:=0) [(0,s)] (.inl ⟨_,rfl⟩) (fun i h0 h1=>absurd h1 (by simp;omega)) (.refl _) (DJ.init hs) rfl (Nat.le_of_eq (Nat.zero_add _)) (Nat.le_refl _)) fun y hy=>
   d1p (a:=fr 0) 0 hy.1 (fun _=>()) (fun _=>()) (fun _=>()) fun _=>rn (VT (vl [])) (a0r 4161) al0 fun fr2 _=>.ret [9,1,2,3,4] [0] ⟨⟨fr2 0,fr 3,fr 4⟩,y.b,y.c,y.d,y.e⟩ hy.2) rfl (by kernel_rfl)
end
section
variable {w:World} {b1 b2:Bool} {D U:Nat} {F Q N R A Dd c2:Addr}
theorem b1p (w:World) (b1 b2:Bool) {l:List Row} {n:Nat}:dob (W w b1 b2).params l n=dob w.params l n:=by kernel_rfl
theorem d8a (w:World) (b1 b2:Bool) {zs:List Lz}:lzL (W w b1 b2).params zs=lzL w.params zs:=by kernel_rfl
theorem d0s (hD:D≤439) (hU:U≤7390) {rs:List Rd} {er:Nat} (hr:c5d rs) {s:Nat} (hs:s < 5) {t t':Tok}:a0b (W w b1 b2) D U (eval (dcV leE) (b1u Dd F c2)) ([(Dd,dob (W w b1 b2).params [(a3p,t',.str (nm s) t)] 1),(c2,a0n (.ref R)),(R,a0a (rdr rs) er)]++rs.map Rd.ob)
  (fun v L=>Ey3 fun M kn em=>An3 (v= .ref M) (DF (rdE rs) s [] (kn.map Kn.p)) (L=[(M,dob (W w b1 b2).params (knR kn) em),(Dd,dob (W w b1 b2).params [(a3p,t',.str (nm s) t)] 1),(c2,a0n (.ref R)),(R,a0a (rdr rs) er)]++rs.map Rd.ob)):=by
 refine a0b.runs b3n (y:=a2r (dcV leE) (b1u Dd F c2)) (by rw [a1i]) ?_
 refine a0x.execCallT a1a (L:=[(Dd,dob (W w b1 b2).params [(a3p,t',.str (nm s) t)] 1),(c2,a0n (.ref R))]) (F:=[(R,a0a (rdr rs) er)]++rs.map Rd.ob)
  (fun _ _ r L=>Ey3 fun M kn em=>An3 (r= .ok (.ret (.ref M))) (DF (rdE rs) s [] (kn.map Kn.p)) (L=[(M,dob (W w b1 b2).params (knR kn) em),(R,a0a (rdr rs) er)]++rs.map Rd.ob++[(Dd,dob (W w b1 b2).params [(a3p,t',.str (nm s) t)] 1),(c2,a0n (.ref R))]))
  (by exact lpp [[_],[_],[_],_] [2,3,4,0,0,5,0] [2,3,0,4,5,0,0] rfl) (by exact lb0 hD rfl) a3u [0,1,2,0] [1,1] (fun _ _=>[(Dd,dob (W w b1 b2).params [(a3p,t',.str (nm s) t)] 1),(c2,a0n (.ref R))]) (fun _ _=>[]) (d:=1) (k:=0) (fun _ _=>.call (.ref 247) ⟨[.str (nm s) t,.ref R],[]⟩) (fun fr tk=>by kernel_rfl) (fun _ _=>a0e) (fun fr tk ok=>?_) (fun fr tk o1 ho1 r L₁ ok hr' hf=>?_)
 ·refine ((c4o (er:=er) hr hs (t0:=t)).does (D:=D + 1) (U:=U + 10 * (0 + 1)) (show D + 1≤440 by omega) (show U + 10 * (0 + 1)≤7400 by omega) rfl).use (F:=[(Dd,dob (W w b1 b2).params [(a3p,t',.str (nm s) t)] 1),(c2,a0n (.ref R))]) (by exact lpp [[_],[_],[_],_] [2,3,0,4,5,0,0] [4,5,1,0,0,2,3,0,0] rfl) fun r L₁ _ hr=>?_
  obtain ⟨y,h1,rfl,rfl⟩:=hr
  exact ⟨_,.of_perm (by
   show List.Perm (([(y.a,dob w.params (knR y.b) y.c),(R,a0a (rdr rs) er)]++gl [rs.map Rd.ob])++[(Dd,dob (W w b1 b2).params [(a3p,t',.str (nm s) t)] 1),(c2,a0n (.ref R))]) _
   rw [←b1p w b1 b2]
   exact lpp [[_],[_],_,[_],[_]] [2,3,0,4,1,0,0,5,6,0,0] [2,3,0,4,0,5,6,0,0] rfl),y.a,y.b,y.c,rfl,h1,rfl⟩
 ·obtain ⟨M,kn,em,rfl,h1,rfl⟩:=hr'
  refine a0x.execEndT a1a (L:=[]) (F:=[(M,dob (W w b1 b2).params (knR kn) em),(R,a0a (rdr rs) er)]++rs.map Rd.ob++[(Dd,dob (W w b1 b2).params [(a3p,t',.str (nm s) t)] 1),(c2,a0n (.ref R))]) (.refl _) (by exact lb0 hD rfl) hf [] [] (fun _ _=>.ok (.ret (.ref M))) (fun _ _=>[]) (fun _ _=>[]) (fun fr2 tk2=>by exact sbo ho1 (by kernel_rfl)) (fun _ _=>a0e) (fun fr2 tk2 ok=>?_)
  refine ⟨_,a0c fun q=>?_,.ref M,rfl,M,kn,em,rfl,h1,rfl⟩
  exact lu [[_],[_],[_],[_],_] [2,3,4,5,0,0,0,6,0] [1,2,5,0,6,0,3,4,0,0,0] rfl
noncomputable abbrev LeI (w:World) (b1 b2:Bool) (Q N R A Dd c2:Addr) (rs:List Rd) (er:Nat) (u:Nat→Tok) (en:Nat) (n:Nat) (L:Led):Prop:=Ey5 fun k ti dc zs m=>An5 (n + k=5) (OeF (W w b1 b2).params dc) (zs.map (·.v)=List.range k) ((∀z∈zs,DF (rdE rs) z.v [] (z.kn.map Kn.p))) (L=[(Q,a0z (.ref N) (k:Nat) ti),(N,a0a (nmA u) en),(Dd,dc),(A,dob (W w b1 b2).params (zs.map Lz.row) m),(c2,a0n (.ref R)),(R,a0a (rdr rs) er)]++rs.map Rd.ob++lzL (W w b1 b2).params zs)
noncomputable abbrev LeR (w:World) (b1 b2:Bool) (Q N R A Dd c2:Addr) (rs:List Rd) (er:Nat) (u:Nat→Tok) (en:Nat):a6i:=fun r L=>r= .ok .next∧Ey3 fun dc' zs' m'=>An4 (OeF (W w b1 b2).params dc') (zs'.map (·.v)=List.range 5) ((∀z∈zs',DF (rdE rs) z.v [] (z.kn.map Kn.p))) (L=[(N,a0a (nmA u) en),(Dd,dc'),(A,dob (W w b1 b2).params (zs'.map Lz.row) m'),(c2,a0n (.ref R)),(R,a0a (rdr rs) er)]++rs.map Rd.ob++lzL (W w b1 b2).params zs')
theorem c6u (hD:D≤439) (hU:U≤7390) {rs:List Rd} {er:Nat} (hr:c5d rs) {u:Nat→Tok} {en:Nat}:
  ∀{k:Nat} {ti:Tok} {dc:Obj} {zs:List Lz} {m:Nat},k≤5→OeF (W w b1 b2).params dc→zs.map (·.v)=List.range k→(∀z∈zs,DF (rdE rs) z.v [] (z.kn.map Kn.p))→
   a0y (W w b1 b2) D U (leC Q A Dd F c2) ([(Q,a0z (.ref N) k ti),(N,a0a (nmA u) en),(Dd,dc),(A,dob (W w b1 b2).params (zs.map Lz.row) m),(c2,a0n (.ref R)),(R,a0a (rdr rs) er)]++rs.map Rd.ob++lzL (W w b1 b2).params zs)
    (LeR w b1 b2 Q N R A Dd c2 rs er u en):=by
 intro k ti dc zs m hk hdc hz hdf
 have hcode:leC Q A Dd F c2= .compLoop (.DictComp (dcK leE) (dcV leE) [⟨dcT leE,dcI leE,[],0⟩] (dcS leE) (dcP leE)) 0 (.ref Q) (.ref A) (b1u Dd F c2):=by
  show Code.compLoop leE 0 (.ref Q) (.ref A) (b1u Dd F c2)=_
  rw [←e3d]
 rw [hcode]
 refine a0y.dcomp (fun n L=>LeI w b1 b2 Q N R A Dd c2 rs er u en n L) (fun n L ok hI=>?_) (5 - k) ⟨k,ti,dc,zs,m,by exact Nat.sub_add_cancel (by assumption),hdc,hz,hdf,rfl⟩
 clear hk hdc hz hdf m zs dc ti k
 obtain ⟨k,ti,dc,zs,m,hn,hdc,hz,hdf,rfl⟩:=hI
 by_cases hk:k=5
 ·subst hk
  refine (c9k (by exact lb0 hD rfl) (ti:=ti) (u:=u) (en:=en)).use (F:=[(Dd,dc),(A,dob (W w b1 b2).params (zs.map Lz.row) m),(c2,a0n (.ref R)),(R,a0a (rdr rs) er)]++rs.map Rd.ob++lzL (W w b1 b2).params zs) (by exact lpp [[_],[_],[_],[_],[_],[_],_,_] [2,3,4,5,6,7,0,0,0,0,0,8,0,9,0] [2,3,0,4,5,6,7,0,0,0,8,0,9,0,0] rfl) fun r L₁ _ hr=>?_
  obtain ⟨rfl,rfl⟩:=hr
  refine ⟨_,a0c fun q=>?_,rfl,dc,zs,m,hdc,hz,hdf,rfl⟩
  exact lu [[_],[_],[_],[_],[_],_,_] [2,3,4,5,6,0,0,0,0,7,0,8,0] [2,3,4,5,6,0,0,0,7,0,8,0,0] rfl
 ·have hk5:k < 5:=by exact d3w (by assumption) (by assumption)
  have hcast:((k:Int) + 1)=((k + 1:Nat):Int):=by simp +arith
  refine (c2b (by exact lb0 hD rfl) (ti:=ti) (u:=u) (en:=en) hk5).use (F:=[(Dd,dc),(A,dob (W w b1 b2).params (zs.map Lz.row) m),(c2,a0n (.ref R)),(R,a0a (rdr rs) er)]++rs.map Rd.ob++lzL (W w b1 b2).params zs) (by exact lpp [[_],[_],[_],[_],[_],[_],_,_] [2,3,4,5,6,7,0,0,0,0,0,8,0,9,0] [2,3,0,4,5,6,7,0,0,0,8,0,9,0,0] rfl) fun r L₁ _ hr=>?_
  obtain ⟨rfl,rfl⟩:=hr
  refine ⟨_,.refl _,?_⟩
  refine (e1n (Dd:=Dd) (c2:=c2) (by exact lb0 hD rfl) hdc (s:=nm k) (t:=u k)).use (F:=[(Q,a0z (.ref N) (k + 1) 0),(N,a0a (nmA u) en),(A,dob (W w b1 b2).params (zs.map Lz.row) m),(c2,a0n (.ref R)),(R,a0a (rdr rs) er)]++rs.map Rd.ob++lzL (W w b1 b2).params zs) (by exact lpp [[_],[_],[_],[_],[_],[_],_,_] [2,3,0,4,5,6,7,0,0,0,8,0,9,0,0] [4,2,3,5,6,7,0,0,0,0,8,0,9,0,0] rfl) fun _ L₁ _ hr=>?_
  obtain ⟨t',rfl⟩:=hr
  refine ⟨_,.refl _,?_⟩
  refine (e3b (Dd:=Dd) (c2:=c2) (by exact lb0 hD rfl) (s:=nm k) (t:=u k) (t':=t')).use (.refl _) fun kv L₁ _ hr=>?_
  obtain ⟨rfl,rfl⟩:=hr
  refine ⟨_,.refl _,?_⟩
  refine (d0s (Dd:=Dd) (c2:=c2) (er:=er) hD hU hr (s:=k) hk5 (t:=u k) (t':=t')).use (F:=[(Q,a0z (.ref N) (k + 1) 0),(N,a0a (nmA u) en),(A,dob (W w b1 b2).params (zs.map Lz.row) m)]++lzL (W w b1 b2).params zs) (by exact lpp [[_],[_],[_],[_],[_],[_],_,_] [2,3,4,5,6,7,0,0,0,0,8,0,9,0,0] [2,6,7,0,0,8,0,3,4,5,0,0,9,0,0] rfl) fun vv L₁ _ hr=>?_
  obtain ⟨M,kn,em,rfl,hdfk,rfl⟩:=hr
  refine ⟨_,.refl _,?_⟩
  have hzl:zs.length=k:=by
   have:=congrArg List.length hz
   simpa using this
  have hnot:nm k∉a1m (zs.map Lz.row):=fun z=>by
   unfold a1m at z
   rw [List.map_map] at z
   obtain ⟨y,hy,hyv⟩:=List.mem_map.mp z
   have h1:y.v∈List.range k:=by rw [←hz];exact List.mem_map_of_mem hy
   have h2:=List.mem_range.mp h1
   have:=a2u (by exact Nat.lt_of_lt_of_le h2 (Nat.le_of_lt hk5)) hk5 hyv
   omega
  refine (b3i (w:=W w b1 b2) (a:=A) (rows:=zs.map Lz.row) (n:=m) (k:=nm k) (t:=u k) (v:=.ref M) (by rw [List.length_map];exact Nat.le_trans (Nat.le_of_eq hzl) (Nat.le_trans (Nat.le_of_lt hk5) (by decide))) hnot).use (F:=[(M,dob (W w b1 b2).params (knR kn) em),(Dd,dob (W w b1 b2).params [(a3p,t',.str (nm k) (u k))] 1),(c2,a0n (.ref R)),(R,a0a (rdr rs) er)]++rs.map Rd.ob++([(Q,a0z (.ref N) (k + 1) 0),(N,a0a (nmA u) en)]++lzL (W w b1 b2).params zs)) (by exact lpp [[_],[_],[_],[_],_,[_],[_],[_],_] [2,3,4,5,0,0,0,6,0,7,8,9,0,0,10,0,0] [9,2,3,4,5,0,0,0,6,0,7,8,0,10,0,0,0] rfl) fun _ L₁ _ hr=>?_
  subst hr
  refine ⟨_,a0c fun q=>?_,n - 1,by exact c3u (by assumption) (by assumption),k + 1,0,_,zs++[⟨k,u k,M,kn,em⟩],m + 1,by exact d0z (by assumption) (by assumption),.inr ⟨fun i=>match i with | 0=>t' | _=>u k,nm k,rfl⟩,?_,fun z hz'=>?_,rfl⟩
  ·have e1:(zs++[(⟨k,u k,M,kn,em⟩:Lz)]).map Lz.row=zs.map Lz.row++[(nm k,u k,.ref M)]:=by simp [Lz.row]
   have e2:lzL (W w b1 b2).params (zs++[(⟨k,u k,M,kn,em⟩:Lz)])=lzL (W w b1 b2).params zs++[(M,dob (W w b1 b2).params (knR kn) em)]:=by simp [lzL]
   rw [e1,e2,←hcast]
   exact lu [[_],[_],[_],[_],[_],[_],_,_,[_],[]] [2,3,4,5,6,7,0,0,0,0,0,8,0,9,10,0,0] [5,10,4,6,7,0,0,0,8,0,2,3,0,9,0,0,0] rfl
  ·rw [List.map_append,hz,List.range_succ];rfl
  ·rcases List.mem_append.mp hz' with h | h
   ·exact hdf z h
   ·rw [List.mem_singleton] at h;subst h;exact hdfk
end
noncomputable def oeD (P:Params) (z:Q2 (Nat→Tok) Str):Obj:=dob P [(a3p,z.a 0,.str z.b (z.a 1))] 1
noncomputable def e9y (w:World) (Q A Dd F c2 N R:Addr) (u:Nat→Tok) (en:Nat) (rs:List Rd) (er:Nat):Ctr where
 eo:=none
 d:=430
 u:=7300
 c:=leS Q A Dd F c2
 L:=[(Q,a0z (.ref N) 0 0),(N,a0a (nmA u) en),(Dd,dob w.params [] 0),(A,dob w.params [] 0),(c2,a0n (.ref R)),(R,a0a (rdr rs) er)]
 G:=[rs.map Rd.ob]
 Y:=Q3 Obj (List Lz) Nat
 ok:=fun y=>(y.a=dob w.params [] 0∨∃z,y.a=oeD w.params z)∧y.b.map (·.v)=List.range 5∧∀z∈y.b,DF (rdE rs) z.v [] (z.kn.map Kn.p)
 r:=fun _=>.ok .next
 L':=fun y=>[(N,a0a (nmA u) en),(Dd,y.a),(A,dob w.params (y.b.map Lz.row) y.c),(c2,a0n (.ref R)),(R,a0a (rdr rs) er)]
 G':=fun y=>[rs.map Rd.ob,lzL w.params y.b]
theorem d0w {w:World} {Q A Dd F c2 N R:Addr} {u:Nat→Tok} {en:Nat} {rs:List Rd} {er:Nat} (hr:c5d rs):(e9y w Q A Dd F c2 N R u en rs er).H w:=
 Ctr.ofDoes (R:=fun r L=>r= .ok .next∧Ey3 fun dc' zs' m'=>An4 (OeF w.params dc') (zs'.map (·.v)=List.range 5) ((∀z∈zs',DF (rdE rs) z.v [] (z.kn.map Kn.p))) (L=[(N,a0a (nmA u) en),(Dd,dc'),(A,dob w.params (zs'.map Lz.row) m'),(c2,a0n (.ref R)),(R,a0a (rdr rs) er)]++rs.map Rd.ob++lzL w.params zs')) (fun b1 b2=>by
  have h:=c6l (X:=N) (show 430≤600 by decide) (.refl _) (c6u (w:=w) (b1:=b1) (b2:=b2) (D:=430) (U:=7300) (F:=F) (Q:=Q) (N:=N) (R:=R) (A:=A) (Dd:=Dd) (c2:=c2) (by decide) (by decide) hr (er:=er) (u:=u) (en:=en) (k:=0) (ti:=0) (dc:=dob w.params [] 0) (zs:=[]) (m:=0) (by decide) (.inl (b1p w b1 b2).symm) rfl (fun z hz=>nomatch hz))
  unfold LeR at h
  unfold OeF at h ⊢
  simp only [b1p,d8a] at h
  exact h.mono (.of_perm (by exact lpp [[_],[_],[_],[_],[_],[_],_] [2,3,4,5,6,7,0,0,0,0,0,8,0,1,0] [2,3,4,5,6,7,0,0,0,0,0,8,1,0,0] rfl)) fun r L' _ h=>⟨L',.refl _,h⟩) fun r L h=>by
  obtain ⟨rfl,dc,zs,m,h1,h2,h3,rfl⟩:=h
  exact ⟨⟨dc,zs,m⟩,⟨h1.imp id fun ⟨t,p,e⟩=>⟨⟨t,p⟩,e⟩,h2,h3⟩,rfl,by exact ltt [_,_,_] [2,3,4,1,0,0,0] [2,3,0,4,0] rfl⟩
noncomputable def owD (P:Params) (z:Q3 (Nat→Tok) Str Int):Obj:=dob P [(a3p,z.a 0,.str z.b (z.a 1)),(b1n,z.a 2,.int z.c (z.a 3))] 2
noncomputable def OwG (P:Params) (o:Obj):Prop:=o=dob P [] 0∨∃z,o=owD P z
noncomputable abbrev f1V (zs:List Lz) (v:Nat) (e:Ow):Option Int:=(d6g zs e.v v).map (e.x + ·)
noncomputable def d2q (w:World) (Q A Dd F c6 c4 O LD:Addr) (ow:List Ow) (n:Nat) (zs:List Lz) (lm v:Nat) (tn:Tok) (k:Nat) (dc:Obj) (ti:Tok) (ps:List (Int×Tok)) (m:Nat):Ctr where
 eo:=none
 d:=440
 u:=7400
 c:=f1C Q A Dd F c6 c4
 L:=[(Q,a0z (.ref O) k ti),(O,a0a (owR ow) n),(Dd,dc),(A,a0a (inA ps) m),(c6,a0n (.str (nm v) tn)),(c4,a0n (.ref LD)),(LD,dob w.params (zs.map Lz.row) lm)]
 G:=[ow.map Ow.ob,lzL w.params zs]
 Y:=Q3 Obj (List (Int×Tok)) Nat
 ok:=fun y=>OwG w.params y.a∧y.b.map (·.1)=ps.map (·.1)++(ow.drop k).filterMap (f1V zs v)
 r:=fun _=>.ok .next
 L':=fun y=>[(O,a0a (owR ow) n),(Dd,y.a),(A,a0a (inA y.b) y.c),(c6,a0n (.str (nm v) tn)),(c4,a0n (.ref LD)),(LD,dob w.params (zs.map Lz.row) lm)]
 G':=fun y=>[ow.map Ow.ob,lzL w.params zs]
noncomputable def e6g (w:World) (Q A Dd F c6 c4 O LD:Addr) (ow:List Ow) (n:Nat) (zs:List Lz) (lm v:Nat) (tn:Tok):Ctr where
 eo:=none
 d:=430
 u:=7300
 c:=f1S Q A Dd F c6 c4
 L:=[(Q,a0z (.ref O) 0 0),(O,a0a (owR ow) n),(Dd,dob w.params [] 0),(A,a0a (inA []) 0),(c6,a0n (.str (nm v) tn)),(c4,a0n (.ref LD)),(LD,dob w.params (zs.map Lz.row) lm)]
 G:=[ow.map Ow.ob,lzL w.params zs]
 Y:=Q3 Obj (List (Int×Tok)) Nat
 ok:=fun y=>OwG w.params y.a∧y.b.map (·.1)=ow.filterMap (f1V zs v)
 r:=fun _=>.ok .next
 L':=fun y=>[(O,a0a (owR ow) n),(Dd,y.a),(A,a0a (inA y.b) y.c),(c6,a0n (.str (nm v) tn)),(c4,a0n (.ref LD)),(LD,dob w.params (zs.map Lz.row) lm)]
 G':=fun y=>[ow.map Ow.ob,lzL w.params zs]
noncomputable def d7y (w:World) (F Q N O S T A HD LD:Addr) (c:Nat→Addr) (t:Nat→Tok) (sl:Array (Option Value)) (u:Nat→Tok) (en eh n lm:Nat) (ow:List Ow) (zs:List Lz) (t0 t1:Tok) (hs:List Ht) (k:Nat) (ti:Tok) (ov:Option Value):Ctr where
 eo:=none
 d:=410
 u:=7100
 c:=f5o Q F c
 L:=[(F,a1k w.params (d5y t S O T A) 4 sl),(Q,a0z (.ref N) k ti),(N,a0a (nmA u) en),(c 6,c8x ov),(c 5,a0n (.ref HD)),(HD,dob w.params (htR t0 t1 hs) eh),(O,a0a (owR ow) n),(c 4,a0n (.ref LD)),(LD,dob w.params (zs.map Lz.row) lm)]
 G:=[ow.map Ow.ob,lzL w.params zs]
 Y:=Unit
 ok:=fun _=>True
 r:=fun _=>.ok .next
 L':=fun _=>[(F,a1k w.params (d5y t S O T A) 4 sl),(N,a0a (nmA u) en),(c 5,a0n (.ref HD)),(HD,dob w.params (htR t0 t1 hs) eh),(c 4,a0n (.ref LD)),(LD,dob w.params (zs.map Lz.row) lm)]
 G':=fun _=>[lzL w.params zs]
section
variable {w:World} {F Q N O S T A Dd HD LD c6 c4:Addr}
theorem b9o {ow:List Ow} (how:∀e∈ow,e.v < 5) (hlen:ow.length≤100) {zs:List Lz} (hz:b8o zs) {n lm v:Nat} (hv:v < 5) {tn:Tok}:
  ∀j k,j + k=ow.length→∀{dc ti ps m},OwG w.params dc→ps.length≤k→(d2q w Q A Dd F c6 c4 O LD ow n zs lm v tn k dc ti ps m).H w:=by
 intro j
 induction j with
 | zero=>
  intro k hk dc ti ps m hdc hp
  exact Ctr.p0 (rn (VT (vl [])) (a0r 5016522063937) (al1 (p:=a3t [0≤(k:Int),((owR ow).size:Int)≤(k:Int)]) ⟨Int.natCast_nonneg k,by rw [c5r];omega,trivial⟩) fun _ _=>.ret [1,2,3,4,5,6] [0,1] ⟨dc,ps,m⟩ ⟨hdc,by rw [List.drop_of_length_le (sk0 hk)];exact (List.append_nil _).symm⟩) rfl (by kernel_rfl)
 | succ j ih=>
  intro k hk dc ti ps m hdc hp
  obtain ⟨e,he⟩:=a1u hk
  have he5:=how e (List.mem_of_getElem? he)
  obtain ⟨z,hzs,hzv⟩:=hz.at he5
  have hzm:=List.mem_of_getElem? hzs
  have hX:=b3a Ow.ob he
  have hY:=b2b (P:=w.params) hzs
  have hzl:zs.length=5:=by have:=congrArg List.length hz.vs;simpa using this
  have hg:=hz.get hzs
  have hkl:=hz.len z hzm
  have hlw:d6g zs e.v v=b9d z.kn v:=by unfold d6g;rw [hzs];rfl
  have a1:=a5f w.params (l:=zs.map Lz.row) (by rw [List.length_map];exact Nat.le_trans (Nat.le_of_eq hzl) (by decide)) hg.2 hg.1
  rw [hzv] at a1
  have a2:a3t [nth (owR ow) (k:Int)= .ref e.a,0≤(k:Int),(k:Int) < ((owR ow).size:Int)]:=a4q (fun r:Rw=>Value.ref r.a) (l:=ow.map Ow.rw) (k:=k) (e:=e.rw) (by rw [List.getElem?_map,he];rfl)
  have wk:dWf w.params ⟨a0k w.params (knR z.kn)⟩:=a1f _ (by simp [knR];exact Nat.le_trans hkl (by decide))
  cases hk2:b9d z.kn v with
  | none=>
   have hno:¬a3m ⟨a0k w.params (knR z.kn)⟩ (nm v):=fun q=>b2o (hz.kn z hzm) hv hk2 ((a0l _ _ _).mp q)
   exact Ctr.p1 (rw' [] [0] (a1q hX) <| rw' [] [1] (a1q hY) <| shp (a:=Dd) 4 hdc (⟨fun tk=>owD w.params ⟨fun i=>match i with | 0=>Nat.succ (tk 1) | 1=>e.tv | 2=>Nat.succ (tk 2) | _=>e.tx,nm e.v,e.x⟩,fun _=>.inr ⟨_,rfl⟩⟩:Sh (OwG w.params)) (fun q=>⟨fun _=>owD w.params ⟨a0q (a0q q.a 1 e.tv) 3 e.tx,nm e.v,e.x⟩,fun _=>.inr ⟨_,rfl⟩⟩) fun d=>
    rn (VT (vl [.ref e.a,.ref z.M,.none])) (a0r 130403141375631556958400485099906578101945839213851803581509411493964088098625264300764180612) (al wk (al hno (al a1 (al1 a2)))) fun _ tk=>
    rw' [1] [0] (a1j hY) <| rw' [1] [1] (a1j hX) <|
    agn [1,2,0,3,4,5,6] [0,1] (ih (k + 1) (sk1 hk) (dc:=d.d tk) (ti:=0) (ps:=ps) (m:=m) (d.ok tk) (Nat.le_succ_of_le hp)) [0,1,2,3,4,5] [0,1] (fun y=>y) fun q hq=>⟨hq.1,by rw [hq.2,a1b he,List.filterMap_cons];unfold f1V;rw [hlw,hk2];rfl⟩) rfl (by kernel_rfl)
  | some y=>
   obtain ⟨hin,ty,hget⟩:=b2m (hz.kn z hzm) hv hk2
   exact Ctr.p1 (rw' [] [0] (a1q hX) <| rw' [] [1] (a1q hY) <| shp (a:=Dd) 4 hdc (⟨fun tk=>owD w.params ⟨fun i=>match i with | 0=>Nat.succ (tk 1) | 1=>e.tv | 2=>Nat.succ (tk 2) | _=>e.tx,nm e.v,e.x⟩,fun _=>.inr ⟨_,rfl⟩⟩:Sh (OwG w.params)) (fun q=>⟨fun _=>owD w.params ⟨a0q (a0q q.a 1 e.tv) 3 e.tx,nm e.v,e.x⟩,fun _=>.inr ⟨_,rfl⟩⟩) fun d=>
    rn (VT (vl [.ref e.a,.ref z.M,.int y ty])) (a0r 712703646939277137908859329863200497504939088452464475614240870224109447936057746891111071078087726832412571030110394658948) (al (p:=(inA ps).size≤1000000) (by rw [a6m];exact Nat.le_trans hp (Nat.le_trans (Nat.le_of_lt (a9q hk)) (Nat.le_trans hlen (by decide)))) (al (a5f w.params (by simp [knR];omega) hin hget) (al a1 (al wk (al ((a0l w.params _ _).mpr hin) (al a1 (al1 a2))))))) fun _ tk=>
    rw' [5] [] (c2z (fun p:Int×Tok=>Value.int p.1 p.2) ps (e.x + y,Nat.succ (tk 7)) (a:=A) (n:=m + 1)) <| rw' [2] [0] (a1j hY) <| rw' [2] [1] (a1j hX) <|
    agn [2,3,1,0,4,5,6] [0,1] (ih (k + 1) (sk1 hk) (dc:=d.d tk) (ti:=0) (ps:=ps++[(e.x + y,Nat.succ (tk 7))]) (m:=m + 1) (d.ok tk) (by simp;omega)) [0,1,2,3,4,5] [0,1] (fun y=>y) fun q hq=>⟨hq.1,by rw [hq.2,a1b he,List.filterMap_cons];unfold f1V;rw [hlw,hk2,List.map_append,List.append_assoc];rfl⟩) rfl (by kernel_rfl)
theorem d1u {ow:List Ow} (how:∀e∈ow,e.v < 5) (hlen:ow.length≤100) {zs:List Lz} (hz:b8o zs) {n lm v:Nat} (hv:v < 5) {tn:Tok}:(e6g w Q A Dd F c6 c4 O LD ow n zs lm v tn).H w:=
 Ctr.p2 (rnb (VT (vl [])) (fun b2=>hzB b2 1 17043521) al0 fun _ _=>agn [0,1,2,3,4,5,6] [0,1] (b9o (Q:=Q) (A:=A) (Dd:=Dd) (F:=F) (O:=O) (LD:=LD) (c6:=c6) (c4:=c4) how hlen hz (n:=n) (lm:=lm) hv (tn:=tn) ow.length 0 rfl (dc:=dob w.params [] 0) (ti:=0) (ps:=[]) (m:=0) (.inl rfl) (Nat.le_refl _)) [0,1,2,3,4,5] [0,1] (fun y=>y) fun _ h=>h) rfl (by kernel_rfl)
theorem c4k {c:Nat→Addr} {ow:List Ow} (how:∀e∈ow,e.v < 5) (hlen:ow.length≤100) {zs:List Lz} (hz:b8o zs) {hf:Nat→Int} {hs:List Ht} {t0 t1:Tok} (hh:a9z hf hs) (hh5:∀u,u < 5→u∈hs.map (·.v))
  (hmin:∀v,v < 5→a1d (ow.filterMap (f1V zs v)) (hf v)) {t:Nat→Tok} {sl:Array (Option Value)} {u:Nat→Tok} {en eh n lm:Nat}:
  ∀j k:Nat,j + k=5→∀{ti ov},(d7y w F Q N O S T A HD LD c t sl u en eh n lm ow zs t0 t1 hs k ti ov).H w:=by
 intro j
 induction j with
 | zero=>
  intro k hk ti ov
  obtain rfl:k=5:=by omega
  exact Ctr.p0 (rn (VT (vl [])) (a0r 5153961283650) (al1 (p:=a3t [0≤((5:Nat):Int),((nmA u).size:Int)≤((5:Nat):Int)]) ⟨by decide,Int.le_refl _,trivial⟩) fun _ _=>.ret [0,2,4,5,7,8] [1] () trivial) rfl (by kernel_rfl)
 | succ j ih=>
  intro k hk ti ov
  have hk5:k < 5:=by exact a9q hk
  obtain ⟨e,he,hev⟩:=List.mem_map.mp (hh5 k hk5)
  have hps:∀{ps:List (Int×Tok)},ps.map (·.1)=ow.filterMap (f1V zs k)→ps.length≤1000000∧ps≠[]:=fun {ps} h=>⟨by
   have h1:=congrArg List.length h
   rw [List.length_map] at h1
   have h2:=List.length_filterMap_le (f1V zs k) ow
   exact Nat.le_trans (Nat.le_of_eq h1) (Nat.le_trans h2 (Nat.le_trans hlen (by decide))),by
   rintro rfl
   have:=(hmin k hk5).mem
   rw [←h] at this
   exact nomatch this⟩
  have hu:∀{ps:List (Int×Tok)} {x:Int},ps.map (·.1)=ow.filterMap (f1V zs k)→a1d (ps.map (·.1)) x→¬hf k≠x:=fun {ps x} h hx=>by rw [h] at hx;exact fun q=>q ((hmin k hk5).uniq hx)
  exact Ctr.p1 (rn (VT (vl [.str (nm k) (u k),.int (hf k) e.th])) (a0r 25823953080403533163298913755263486021603458) (al (a5f w.params (l:=htR t0 t1 hs) (s:=nm k) (v:=.int (hf k) e.th) (by have:=hh.len;simp [htR];exact Nat.le_trans this (by decide)) (a7m.mpr (.inr ⟨e,he,by rw [hev]⟩)) (by rw [←hev,b1d hh he,hh.h e he])) (al1 (c9a u hk5))) fun fr tk=>
   us [9,6,11,10,3,7,8] [0,1] (d1u (Q:=fr 0) (A:=fr 1) (Dd:=fr 2) (F:=F) (O:=O) (LD:=LD) (c6:=c 6) (c4:=c 4) how hlen hz (n:=n) (lm:=lm) hk5 (tn:=u k)) fun y hy=>
   shp (a:=fr 2) 1 hy.1 4161 (fun _=>68736516161) fun hh=>rn (VT (vl [])) (a0r hh) al0 fun _ _=>
   us [2] [] (c8r (l:=fr 1) (zs:=y.b) (m:=y.c) (hps hy.2).1 (hps hy.2).2) fun mn hmn=>
   rn (VT (vl [])) (a0r 64) (al1 (hu hy.2 hmn)) fun _ _=>
   agn [6,7,8,3,9,10,2,4,5] [0,1] (ih (k + 1) (sk1 hk) (ti:=0) (ov:=some (.str (nm k) (u k)))) [0,1,2,3,4,5] [0] (fun y=>y) fun _ h=>h) rfl (by kernel_rfl)
end
section
variable {w:World} {b1 b2:Bool} {D U:Nat} {F Q N O S T A I HD LD K X Y:Addr} {c:Nat→Addr}
theorem c4g (hD:D≤430) (hU:U≤7300) {fo:Obj} {d:a4r} (h:LwF (W w b1 b2).params S O T A d.O fo) {hl:List Row} {eh:Nat} {hf:Nat→Int} (hH:isH hl hf) (hd:d.Ok) (hn:∀u,u < 5→∀q∈d.E u,0≤q.2 + hf u - hf q.1) {s:Nat} (hs:s < 5) {ts:Tok}:
  a0b (W w b1 b2) D U (execs ((lpB a3v).take 1) (a1y F (a8k c))) ([(F,fo),(c 7,a0n (.str (nm s) ts)),(c 5,a0n (.ref HD)),(HD,dob (W w b1 b2).params hl eh)]++d.led (W w b1 b2).params)
   (fun f L=>f= .next∧Ey8 fun t sl X Y tt kn et ek=>An3 (DJ d.E hf s [] (kn.map Kn.p) (tt.map (·.1))) (tt.length≤1 + b7g d []) (L=[(F,a1k (W w b1 b2).params (a9v t S O T A d.O X Y) 7 sl),(c 7,a0n (.str (nm s) ts)),(c 5,a0n (.ref HD)),(X,a0a (a0w tt) et),(Y,dob (W w b1 b2).params (knR kn) ek),(HD,dob (W w b1 b2).params hl eh)]++d.led (W w b1 b2).params)):=by
 obtain ⟨ev1,t',sl,ev2⟩:=b8g (I:=d.O) (HD:=HD) rfl h (s:=nm s) (ts:=ts)
 refine a0b.runs b8l (y:=a2q ((lpB a3v).take 1) (a1y F (a8k c))) (by rw [a2l]) ?_
 refine a0x.execCallT a1a (L:=[(F,fo),(c 7,a0n (.str (nm s) ts)),(c 5,a0n (.ref HD))]) (F:=[(HD,dob (W w b1 b2).params hl eh)]++d.led (W w b1 b2).params)
  (fun _ _ r L=>Ey7 fun R X Y tt kn et ek=>An4 (r= .ok (.ret (.ref R))) (DJ d.E hf s [] (kn.map Kn.p) (tt.map (·.1))) (tt.length≤1 + b7g d []) (L=[(F,fo),(R,tob [.ref X,.ref Y])]++([(c 7,a0n (.str (nm s) ts)),(c 5,a0n (.ref HD)),(X,a0a (a0w tt) et),(Y,dob (W w b1 b2).params (knR kn) ek),(HD,dob (W w b1 b2).params hl eh)]++d.led (W w b1 b2).params)))
  (.refl _) (by exact lb0 hD rfl) a3u [0,2,1,3,0] [1,1,1] _ _ (fun _ _=>.call (.ref 240) ⟨[.str (nm s) ts,.ref d.O,.ref HD],[]⟩) ev1 (fun _ _=>a0e) (fun fr tk ok=>?_) (fun fr tk o1 ho1 r L₁ ok hr' hfr=>?_)
 ·refine ((d5q (N:=HD) (eh:=eh) (t0:=ts) hH hd hn hs).does (D:=D + 1) (U:=U + 10 * (0 + 1)) (show D + 1≤440 by omega) (show U + 10 * (0 + 1)≤7400 by omega) rfl).use (F:=[(F,fo),(c 7,a0n (.str (nm s) ts)),(c 5,a0n (.ref HD))]) (by
    show List.Perm ([(F,fo),(c 7,a0n (.str (nm s) ts)),(c 5,a0n (.ref HD))]++([(HD,dob (W w b1 b2).params hl eh)]++([(d.O,dob (W w b1 b2).params d.ol d.eo)]++d.ats))) _
    rw [b1p,b1p]
    exact lpp [[_],[_],[_],[_],[_],_] [2,3,4,0,0,5,6,7,0,0,0] [5,6,0,7,1,0,0,2,3,4,0,0,0] rfl) fun r L₁ _ hr=>?_
  obtain ⟨y,⟨h1,h2⟩,rfl,rfl⟩:=hr
  refine ⟨_,.of_perm ?_,y.a.a,y.a.b,y.a.c,y.b,y.d,y.c,y.e,rfl,h1,h2,rfl⟩
  show List.Perm (([(y.a.a,tob [.ref y.a.b,.ref y.a.c]),(y.a.b,a0a (a0w y.b) y.c),(y.a.c,dob w.params (knR y.d) y.e),(HD,dob w.params hl eh),(d.O,dob w.params d.ol d.eo)]++gl [d.ats])++[(F,fo),(c 7,a0n (.str (nm s) ts)),(c 5,a0n (.ref HD))]) ([(F,fo),(y.a.a,tob [.ref y.a.b,.ref y.a.c])]++([(c 7,a0n (.str (nm s) ts)),(c 5,a0n (.ref HD)),(y.a.b,a0a (a0w y.b) y.c),(y.a.c,dob (W w b1 b2).params (knR y.d) y.e),(HD,dob (W w b1 b2).params hl eh)]++([(d.O,dob (W w b1 b2).params d.ol d.eo)]++d.ats)))
  rw [b1p,b1p,b1p]
  exact lpp [[_],[_],[_],[_],[_],_,[_],[_],[_]] [2,3,4,5,6,0,0,0,0,7,1,0,0,8,9,10,0,0,0] [8,2,0,9,10,3,4,5,0,0,0,0,6,7,0,0,0] rfl
 ·obtain ⟨R,X,Y,tt,kn,et,ek,rfl,h1,h2,rfl⟩:=hr'
  refine a0x.execEndT a1a (L:=[(F,fo),(R,tob [.ref X,.ref Y])]) (F:=[(c 7,a0n (.str (nm s) ts)),(c 5,a0n (.ref HD)),(X,a0a (a0w tt) et),(Y,dob (W w b1 b2).params (knR kn) ek),(HD,dob (W w b1 b2).params hl eh)]++d.led (W w b1 b2).params) (.refl _) (by exact lb0 hD rfl) hfr f0j [1] (fun _ _=>.ok .next) (fun _ tk2=>[(F,a1k (W w b1 b2).params (a9v (t' tk2) S O T A d.O X Y) 7 sl)]) (fun _ _=>[]) (fun fr2 tk2=>by exact sbo ho1 (ev2 R X Y fr tk fr2 tk2)) (fun _ _=>a0e) (fun fr2 tk2 ok=>?_)
  exact ⟨_,by exact ltt [[_],[_],[_],[_],[_],[_],_] [2,3,4,5,6,7,0,0,0,0,0,8,0] [2,3,4,5,6,7,0,0,0,0,8,0,0] rfl,.next,rfl,rfl,t' tk2,sl,X,Y,tt,kn,et,ek,h1,h2,rfl⟩
end
section
variable {w:World} {b1 b2:Bool} {D U:Nat} {F Q N O S T A I HD LD K X Y:Addr} {c:Nat→Addr}
noncomputable abbrev f5s (w:World) (b1 b2:Bool) (F Q N O S T A HD LD:Addr) (c:Nat→Addr) (zs:List Lz) (hs:List Ht) (t0 t1:Tok) (d:a4r) (u:Nat→Tok) (en lm eh:Nat) (n:Nat) (L:Led):Prop:=Ey4 fun k ti fo ov=>An3 (n + k=5) (LwF (W w b1 b2).params S O T A d.O fo) (L=[(F,fo),(Q,a0z (.ref N) (k:Nat) ti),(N,a0a (nmA u) en),(c 7,c8x ov),(c 5,a0n (.ref HD)),(HD,dob (W w b1 b2).params (htR t0 t1 hs) eh),(c 4,a0n (.ref LD)),(LD,dob (W w b1 b2).params (zs.map Lz.row) lm)]++lzL (W w b1 b2).params zs++d.led (W w b1 b2).params)
theorem d3u (hD:D≤430) (hU:U≤7300) {zs:List Lz} (hz:b8o zs) {hf:Nat→Int} {hs:List Ht} {t0 t1:Tok} (hh:a9z hf hs) (hh5:∀u,u < 5→u∈hs.map (·.v)) {d:a4r} (hd:d.Ok) (hn:∀u,u < 5→∀q∈d.E u,0≤q.2 + hf u - hf q.1) (hleft:b7g d []≤60)
  {E2:Nat→List (Nat×Int)} (hE:∀u,u < 5→∀q,q∈d.E u↔q∈E2 u) (hdf:∀z∈zs,DF E2 z.v [] (z.kn.map Kn.p)) {u:Nat→Tok} {en lm eh:Nat} {fo:Obj} (hfo:LwF (W w b1 b2).params S O T A d.O fo) {ti:Tok} {ov:Option Value}:
  a0y (W w b1 b2) D U (f1f Q F c) ([(F,fo),(Q,a0z (.ref N) 0 ti),(N,a0a (nmA u) en),(c 7,c8x ov),(c 5,a0n (.ref HD)),(HD,dob (W w b1 b2).params (htR t0 t1 hs) eh),(c 4,a0n (.ref LD)),(LD,dob (W w b1 b2).params (zs.map Lz.row) lm)]++lzL (W w b1 b2).params zs++d.led (W w b1 b2).params)
   (fun r L=>r= .ok .next∧L=[]):=by
 have hnd:∀z∈zs,(z.kn.map (·.v)).Nodup:=fun z hzm=>by
  have:=(hdf z hzm).nd
  rw [List.map_map] at this
  exact this
 have htg:∀u,u < 5→∀q∈d.E u,q.1 < 5:=fun u hu q hq=>by
  obtain ⟨o,ho,rfl⟩:=List.mem_map.mp hq
  exact hd.tgt u hu o ho
 show a0y (W w b1 b2) D U (.forLoop (e3r a3v) (.ref Q) (lpB a3v) [] (a1y F (a8k c))) _ _
 refine a0y.for (fun n L=>f5s w b1 b2 F Q N O S T A HD LD c zs hs t0 t1 d u en lm eh n L) (fun n L ok hI=>?_) 5 ⟨0,ti,fo,ov,rfl,hfo,rfl⟩
 clear hfo fo ti ov
 obtain ⟨k,ti,fo,ov,hk,hfo,rfl⟩:=hI
 by_cases hk5:k=5
 ·subst hk5
  refine (c9k (by exact lb0 hD rfl) (ti:=ti) (u:=u) (en:=en)).use (F:=[(F,fo),(c 7,c8x ov),(c 5,a0n (.ref HD)),(HD,dob (W w b1 b2).params (htR t0 t1 hs) eh),(c 4,a0n (.ref LD)),(LD,dob (W w b1 b2).params (zs.map Lz.row) lm)]++lzL (W w b1 b2).params zs++d.led (W w b1 b2).params) (by exact lpp [[_],[_],[_],[_],[_],[_],[_],[_],_,_] [2,3,4,5,6,7,8,9,0,0,0,0,0,0,0,10,0,11,0] [3,4,0,2,5,6,7,8,9,0,0,0,0,0,10,0,11,0,0] rfl) fun r L₁ _ hr=>?_
  obtain ⟨rfl,rfl⟩:=hr
  refine ⟨[],by exact ltt [[_],[_],[_],[_],[_],[_],[_],_,_] [1] [2,3,4,5,6,7,8,0,0,0,0,0,9,0,10,0,0] rfl,?_⟩
  show a0b _ _ _ (PySem.execs [] _) _ _
  rw [execs_nil]
  exact a0b.pure ⟨rfl,rfl⟩
 ·have hk':k < 5:=by exact d3w (by assumption) (by assumption)
  have hcast:((k:Int) + 1)=((k + 1:Nat):Int):=by simp +arith
  obtain ⟨z,hzs,hzv⟩:=hz.at hk'
  have hzm:=List.mem_of_getElem? hzs
  refine (c2b (by exact lb0 hD rfl) (ti:=ti) (u:=u) (en:=en) hk').use (F:=[(F,fo),(c 7,c8x ov),(c 5,a0n (.ref HD)),(HD,dob (W w b1 b2).params (htR t0 t1 hs) eh),(c 4,a0n (.ref LD)),(LD,dob (W w b1 b2).params (zs.map Lz.row) lm)]++lzL (W w b1 b2).params zs++d.led (W w b1 b2).params) (by exact lpp [[_],[_],[_],[_],[_],[_],[_],[_],_,_] [2,3,4,5,6,7,8,9,0,0,0,0,0,0,0,10,0,11,0] [3,4,0,2,5,6,7,8,9,0,0,0,0,0,10,0,11,0,0] rfl) fun r L₁ _ hr=>?_
  obtain ⟨rfl,rfl⟩:=hr
  refine ⟨_,.refl _,?_⟩
  rw [hcast]
  refine (e0b (by exact lb0 hD rfl) (ov:=ov) (s:=nm k) (t:=u k)).use (F:=[(Q,a0z (.ref N) ((k + 1:Nat):Int) 0),(N,a0a (nmA u) en),(F,fo),(c 5,a0n (.ref HD)),(HD,dob (W w b1 b2).params (htR t0 t1 hs) eh),(c 4,a0n (.ref LD)),(LD,dob (W w b1 b2).params (zs.map Lz.row) lm)]++lzL (W w b1 b2).params zs++d.led (W w b1 b2).params) (by exact lpp [[_],[_],[_],[_],[_],[_],[_],[_],_,_] [2,3,0,4,5,6,7,8,9,0,0,0,0,0,10,0,11,0,0] [5,2,3,4,6,7,8,9,0,0,0,0,0,0,10,0,11,0,0] rfl) fun _ L₁ _ hr=>?_
  subst hr
  refine ⟨_,.refl _,?_⟩
  refine a0b.execs 1 ?_
  refine (c4g (HD:=HD) (by exact lb0 hD rfl) (by omega) hfo (e1w (t0:=t0) (t1:=t1) hh hh5) hd hn hk' (ts:=u k) (eh:=eh)).use (F:=[(Q,a0z (.ref N) ((k + 1:Nat):Int) 0),(N,a0a (nmA u) en),(c 4,a0n (.ref LD)),(LD,dob (W w b1 b2).params (zs.map Lz.row) lm)]++lzL (W w b1 b2).params zs) (by exact lpp [[_],[_],[_],[_],[_],[_],[_],[_],_,_] [2,3,4,5,6,7,8,9,0,0,0,0,0,0,10,0,11,0,0] [5,2,6,7,0,0,0,11,0,3,4,8,9,0,0,0,10,0,0] rfl) fun f L₁ _ hr=>?_
  obtain ⟨rfl,t,sl,X,Y,tt,kn,et,ek,dj,htt,rfl⟩:=hr
  refine ⟨_,.refl _,?_⟩
  show a0b (W w b1 b2) D U (PySem.execs ((lpB a3v).drop 1) (a1y F (a8k c))) _ _
  refine a0b.execs 1 ?_
  show a0b (W w b1 b2) D U (PySem.execs [PySem.Stmt.If (.Compare (b6u (lpT b0y)) [.NotEq] [b3c (lpT b0y)] (c3z (lpT b0y))) (lpB b0y) [] (c6n b0y)] (a1y F (a8k c))) _ _
  refine a0b.single (a0b.if (a0b.compare ?_ (by kernel_rfl)))
  refine (d4d (I:=d.O) (X:=X) (Y:=Y) (by exact lb0 hD rfl)).use (F:=[(c 7,a0n (.str (nm k) (u k))),(c 5,a0n (.ref HD)),(X,a0a (a0w tt) et),(Y,dob (W w b1 b2).params (knR kn) ek),(HD,dob (W w b1 b2).params (htR t0 t1 hs) eh)]++d.led (W w b1 b2).params++([(Q,a0z (.ref N) ((k + 1:Nat):Int) 0),(N,a0a (nmA u) en),(c 4,a0n (.ref LD)),(LD,dob (W w b1 b2).params (zs.map Lz.row) lm)]++lzL (W w b1 b2).params zs)) (by exact lpp [[_],[_],[_],[_],[_],[_],_,[_],[_],[_],[_],_] [2,3,4,5,6,7,0,0,0,0,0,8,0,9,10,11,12,0,0,0,13,0,0] [2,3,4,5,6,7,0,0,0,0,8,0,9,10,11,12,0,0,0,13,0,0,0] rfl) fun v L₁ _ hr=>?_
  obtain ⟨rfl,rfl⟩:=hr
  refine ⟨_,.refl _,?_⟩
  refine (c0a (I:=d.O) (X:=X) (Y:=Y) (by exact lb0 hD rfl) (ts:=tt) (et:=et) (by omega) dj.sorted).use (F:=[(c 7,a0n (.str (nm k) (u k))),(c 5,a0n (.ref HD)),(Y,dob (W w b1 b2).params (knR kn) ek),(HD,dob (W w b1 b2).params (htR t0 t1 hs) eh)]++d.led (W w b1 b2).params++([(Q,a0z (.ref N) ((k + 1:Nat):Int) 0),(N,a0a (nmA u) en),(c 4,a0n (.ref LD)),(LD,dob (W w b1 b2).params (zs.map Lz.row) lm)]++lzL (W w b1 b2).params zs)) (by exact lpp [[_],[_],[_],[_],[_],[_],_,[_],[_],[_],[_],_] [2,3,4,5,6,7,0,0,0,0,8,0,9,10,11,12,0,0,0,13,0,0,0] [2,5,0,3,4,6,7,0,0,0,8,0,9,10,11,12,0,0,0,13,0,0,0] rfl) fun v L₁ _ hr=>?_
  obtain ⟨X',ts',et',rfl,hts,rfl⟩:=hr
  refine ⟨_,.refl _,?_⟩
  refine (a8t (w:=W w b1 b2) (by exact Nat.lt_of_le_of_lt hU (by decide)) (H:=X) (E:=X') (ts:=tt) (ts':=ts') (n:=et) (m:=et') hts).use (F:=[(F,a1k (W w b1 b2).params (a9v t S O T A d.O X Y) 7 sl),(c 7,a0n (.str (nm k) (u k))),(c 5,a0n (.ref HD)),(Y,dob (W w b1 b2).params (knR kn) ek),(HD,dob (W w b1 b2).params (htR t0 t1 hs) eh)]++d.led (W w b1 b2).params++([(Q,a0z (.ref N) ((k + 1:Nat):Int) 0),(N,a0a (nmA u) en),(c 4,a0n (.ref LD)),(LD,dob (W w b1 b2).params (zs.map Lz.row) lm)]++lzL (W w b1 b2).params zs)) (by exact lpp [[_],[_],[_],[_],[_],[_],[_],_,[_],[_],[_],[_],_] [2,3,4,0,0,5,6,7,8,0,0,0,9,0,10,11,12,13,0,0,0,14,0,0,0] [3,4,0,2,5,6,7,8,0,0,0,0,9,0,10,11,12,13,0,0,0,14,0,0,0] rfl) fun v L₁ _ hr=>?_
  obtain ⟨rfl,rfl⟩:=hr
  refine ⟨_,.refl _,false,rfl,?_⟩
  rw [if_neg Bool.false_ne_true,execs_nil]
  refine a0b.pure ?_
  show a0b (W w b1 b2) D U (PySem.execs (((lpB a3v).drop 1).drop 1) (a1y F (a8k c))) _ _
  show a0b (W w b1 b2) D U (PySem.execs [PySem.Stmt.If (.Compare (b6u (lpT a9w)) [.NotEq] [b3c (lpT a9w)] (c3z (lpT a9w))) (lpB a9w) [] (c6n a9w)] (a1y F (a8k c))) _ _
  refine a0b.single (a0b.if (a0b.compare ?_ (by kernel_rfl)))
  refine (c5i (I:=d.O) (X:=X) (Y:=Y) (by exact lb0 hD rfl)).use (F:=[(X,a0a (a0w tt) et),(X',a0a (a0w ts') et'),(c 7,a0n (.str (nm k) (u k))),(c 5,a0n (.ref HD)),(Y,dob (W w b1 b2).params (knR kn) ek),(HD,dob (W w b1 b2).params (htR t0 t1 hs) eh)]++d.led (W w b1 b2).params++([(Q,a0z (.ref N) ((k + 1:Nat):Int) 0),(N,a0a (nmA u) en),(c 4,a0n (.ref LD)),(LD,dob (W w b1 b2).params (zs.map Lz.row) lm)]++lzL (W w b1 b2).params zs)) (by exact lpp [[_],[_],[_],[_],[_],[_],[_],_,[_],[_],[_],[_],_] [2,3,0,4,5,6,7,8,0,0,0,0,9,0,10,11,12,13,0,0,0,14,0,0,0] [4,2,3,5,6,7,8,0,0,0,0,0,9,0,10,11,12,13,0,0,0,14,0,0,0] rfl) fun v L₁ _ hr=>?_
  obtain ⟨rfl,rfl⟩:=hr
  refine ⟨_,.refl _,?_⟩
  refine (d3d (LD:=LD) (HD:=HD) (by exact lb0 hD rfl) hz hh hh5 hk' hzs (hnd z hzm) (ts:=u k) (lm:=lm) (eh:=eh) (t0:=t0) (t1:=t1)).use (F:=[(F,a1k (W w b1 b2).params (a9v t S O T A d.O X Y) 7 sl),(Y,dob (W w b1 b2).params (knR kn) ek)]++d.led (W w b1 b2).params++[(X,a0a (a0w tt) et),(X',a0a (a0w ts') et'),(Q,a0z (.ref N) ((k + 1:Nat):Int) 0),(N,a0a (nmA u) en)]) (by exact lpp [[_],[_],[_],[_],[_],[_],[_],_,[_],[_],[_],[_],_] [2,3,4,5,6,7,8,0,0,0,0,0,9,0,10,11,12,13,0,0,0,14,0,0,0] [5,12,13,6,8,0,0,0,0,14,0,2,7,0,9,0,3,4,10,11,0,0,0,0,0] rfl) fun v L₁ _ hr=>?_
  obtain ⟨R,kk,m,rfl,hkk,rfl⟩:=hr
  refine ⟨_,.refl _,?_⟩
  have hdfz:=hdf z hzm
  rw [hzv] at hdfz
  obtain ⟨hlen,hmem⟩:=b8e hk' hE htg dj hdfz
  have hkl:=hz.len z hzm
  have hlk:=congrArg List.length hkk
  simp only [List.length_map] at hlen hlk
  have hkv:kk.map (·.v)=z.kn.map (·.v):=by
   have:=congrArg (List.map Prod.fst) hkk
   rw [List.map_map,List.map_map] at this
   exact this
  have hk5':∀x∈kk,x.v < 5:=fun x hx=>by
   have:x.v∈z.kn.map (·.v):=by rw [←hkv];exact List.mem_map_of_mem hx
   obtain ⟨y,hy,hyv⟩:=List.mem_map.mp this
   rw [←hyv];exact hz.kn z hzm y hy
  have hkn5:∀x∈kn,x.v < 5:=fun x hx=>(dj.known x.v x.x (List.mem_map_of_mem hx)).1
  refine (a8z (w:=W w b1 b2) (by exact Nat.lt_of_le_of_lt hU (by decide)) (K:=Y) (E:=R) (kr:=knR kn) (kr2:=knR kk) (n:=ek) (m:=m) (by simp [knR];exact Nat.le_antisymm (Nat.le_trans (Nat.le_of_eq hlen) (Nat.le_of_eq hlk.symm)) (Nat.le_trans (Nat.le_of_eq hlk) (Nat.le_of_eq hlen.symm))) (by simp [knR];exact Nat.le_trans (Nat.le_of_eq hlen) (Nat.le_trans hkl (by decide))) (fun r hr=>?_)).use (F:=[(c 7,a0n (.str (nm k) (u k))),(c 4,a0n (.ref LD)),(LD,dob (W w b1 b2).params (zs.map Lz.row) lm),(c 5,a0n (.ref HD)),(HD,dob (W w b1 b2).params (htR t0 t1 hs) eh)]++lzL (W w b1 b2).params zs++([(F,a1k (W w b1 b2).params (a9v t S O T A d.O X Y) 7 sl)]++d.led (W w b1 b2).params++[(X,a0a (a0w tt) et),(X',a0a (a0w ts') et'),(Q,a0z (.ref N) ((k + 1:Nat):Int) 0),(N,a0a (nmA u) en)])) (by exact lpp [[_],[_],[_],[_],[_],[_],_,[_],[_],_,[_],[_],[_],[_]] [2,3,4,5,6,7,0,0,0,0,0,8,0,9,10,0,11,0,12,13,14,15,0,0,0,0,0] [10,2,0,3,4,5,6,7,0,0,0,0,8,0,9,11,0,12,13,14,15,0,0,0,0,0,0] rfl) fun v L₁ _ hr=>?_
  ·obtain ⟨e,he,rfl⟩:=List.mem_map.mp hr
   have h1:(e.v,e.x - hf k + hf e.v)∈z.kn.map Kn.p:=hmem e.v e.x (List.mem_map_of_mem he)
   obtain ⟨e2,he2,hp⟩:=List.mem_map.mp h1
   have h2:(e2.v,e2.x + hf k - hf e2.v)∈kk.map Kn.p:=by rw [hkk];exact List.mem_map.mpr ⟨e2,he2,rfl⟩
   obtain ⟨e3,he3,hp3⟩:=List.mem_map.mp h2
   have q1:e2.v=e.v:=congrArg Prod.fst hp
   have q2:e2.x=e.x - hf k + hf e.v:=congrArg Prod.snd hp
   have q3:e3.v=e2.v:=congrArg Prod.fst hp3
   have q4:e3.x=e2.x + hf k - hf e2.v:=congrArg Prod.snd hp3
   have q5:e3.v=e.v:=q3.trans q1
   have q6:e3.x=e.x:=by rw [q4,q2,q1];simp +arith
   have hg:=c3i hk5' (by rw [hkv];exact hnd z hzm) he3
   rw [q5,q6] at hg
   refine ⟨e.x,e.tx,e3.tx,rfl,(a3e hk5' (hkn5 e he)).mpr (List.mem_map.mpr ⟨e3,he3,q5⟩),hg⟩
  ·obtain ⟨rfl,rfl⟩:=hr
   refine ⟨[(F,a1k (W w b1 b2).params (a9v t S O T A d.O X Y) 7 sl),(Q,a0z (.ref N) ((k + 1:Nat):Int) 0),(N,a0a (nmA u) en),(c 7,c8x (some (.str (nm k) (u k)))),(c 5,a0n (.ref HD)),(HD,dob (W w b1 b2).params (htR t0 t1 hs) eh),(c 4,a0n (.ref LD)),(LD,dob (W w b1 b2).params (zs.map Lz.row) lm)]++lzL (W w b1 b2).params zs++d.led (W w b1 b2).params,a0c fun q=>?_,false,rfl,?_⟩
   ·exact lu [[_],[_],[_],[_],[_],[_],[_],[_],_,_,[_],[_],[_],[_]] [2,3,4,5,6,7,8,9,0,0,0,0,0,0,0,10,0,11,0] [12,13,0,5,8,9,6,7,0,0,0,0,10,0,2,11,0,14,15,3,4,0,0,0,0,0,0] rfl
   ·rw [if_neg Bool.false_ne_true,execs_nil]
    exact a0b.pure ⟨n - 1,by exact c3u (by assumption) (by assumption),k + 1,0,_,some (.str (nm k) (u k)),by exact d0z (by assumption) (by assumption),.inr ⟨t,sl,X,Y,rfl⟩,rfl⟩
end
noncomputable def e1d (w:World) (F Q N S O T A HD LD:Addr) (c:Nat→Addr) (u:Nat→Tok) (en eh lm:Nat) (zs:List Lz) (t0 t1:Tok) (hs:List Ht) (d:a4r) (fo:Obj) (ov:Option Value):Ctr where
 eo:=none
 d:=410
 u:=7100
 c:=f1f Q F c
 L:=[(F,fo),(Q,a0z (.ref N) 0 0),(N,a0a (nmA u) en),(c 7,c8x ov),(c 5,a0n (.ref HD)),(HD,dob w.params (htR t0 t1 hs) eh),(c 4,a0n (.ref LD)),(LD,dob w.params (zs.map Lz.row) lm),(d.O,dob w.params d.ol d.eo)]
 G:=[lzL w.params zs,d.ats]
 Y:=Unit
 ok:=fun _=>True
 r:=fun _=>.ok .next
 L':=fun _=>[]
 G':=fun _=>[]
theorem c6x {w:World} {F Q N S O T A HD LD:Addr} {c:Nat→Addr} {zs:List Lz} (hz:b8o zs) {hf:Nat→Int} {hs:List Ht} {t0 t1:Tok} (hh:a9z hf hs) (hh5:∀u,u < 5→u∈hs.map (·.v)) {d:a4r} (hd:d.Ok) (hn:∀u,u < 5→∀q∈d.E u,0≤q.2 + hf u - hf q.1) (hleft:b7g d []≤60)
  {E2:Nat→List (Nat×Int)} (hE:∀u,u < 5→∀q,q∈d.E u↔q∈E2 u) (hdf:∀z∈zs,DF E2 z.v [] (z.kn.map Kn.p)) {u:Nat→Tok} {en lm eh:Nat} {t:Nat→Tok} {sl:Array (Option Value)} {ov:Option Value}:(e1d w F Q N S O T A HD LD c u en eh lm zs t0 t1 hs d (a1k w.params (e4d t S O T A d.O) 5 sl) ov).H w:=
 Ctr.ofDoes (R:=fun r L=>r= .ok .next∧L=[]) (fun b1 b2=>by
  have h:=d3u (w:=w) (b1:=b1) (b2:=b2) (D:=410) (U:=7100) (F:=F) (Q:=Q) (N:=N) (S:=S) (O:=O) (T:=T) (A:=A) (HD:=HD) (LD:=LD) (c:=c) (by decide) (by decide) hz hh hh5 hd hn hleft hE hdf (u:=u) (en:=en) (lm:=lm) (eh:=eh) (t0:=t0) (t1:=t1) (fo:=a1k w.params (e4d t S O T A d.O) 5 sl) (.inl ⟨t,sl,by kernel_rfl⟩) (ti:=0) (ov:=ov)
  unfold a4r.led at h
  simp only [b1p,d8a] at h
  exact h.mono (.of_perm (by exact lpp [[_],[_],[_],[_],[_],[_],[_],[_],[_],_,_] [2,3,4,5,6,7,8,9,10,0,0,0,0,0,0,0,0,11,12,1,0,0,0] [2,3,4,5,6,7,8,9,0,0,0,0,0,0,0,11,0,10,12,0,0] rfl)) fun r L' _ h=>⟨L',.refl _,h⟩) fun r L h=>by
  obtain ⟨rfl,rfl⟩:=h
  exact ⟨(),trivial,rfl,.of_perm (.refl _)⟩
noncomputable abbrev c6q (it:Rw) (es:List Of) (ow:Nat→Ow):List Rw:=it::(es.map Of.rw++[ow 4,ow 3,ow 2,ow 1,ow 0].map Ow.rw)
theorem c9n:∀{gs:List Tg} {es:List Of} {rk:List Rk},gs.map (fun g=>(g.tag,g.x))=(es.map Of.rw).map (fun e=>(e.tag,e.x))→es.map Of.key=rk.map (fun r=>(a4u r.1 r.2.1,r.2.2))→∃rs:List RdT,rs.map RdT.tg=gs∧rs.map RdT.key=rk
 | [],[],[],_,_=>⟨[],rfl,rfl⟩
 | [],[],_::_,_,h=>nomatch h
 | _,_::_,[],_,h=>nomatch h
 | [],_::_,_,h,_=>nomatch h
 | _::_,[],_,h,_=>nomatch h
 | g::gs,e::es,r::rk,h1,h2=>by
  rw [List.map_cons,List.map_cons,List.map_cons,List.cons.injEq] at h1
  rw [List.map_cons,List.map_cons,List.cons.injEq] at h2
  obtain ⟨rs,a,b⟩:=c9n h1.2 h2.2
  have a1:g.tag= .str e.s e.ts:=congrArg Prod.fst h1.1
  have a2:g.x=e.x:=congrArg Prod.snd h1.1
  have a3:e.s=a4u r.1 r.2.1:=congrArg Prod.fst h2.1
  have a4:e.x=r.2.2:=congrArg Prod.snd h2.1
  refine ⟨⟨g.a,g.d,r.1,r.2.1,e.ts,g.x,g.tx,g.t1,g.t2⟩::rs,?_,?_⟩
  ·rw [List.map_cons,a]
   congr 1
   show Tg.mk g.a g.d (.str (a4u r.1 r.2.1) e.ts) g.x g.tx g.t1 g.t2=g
   rw [←a3,←a1]
  ·rw [List.map_cons,b]
   congr 1
   show (r.1,r.2.1,g.x)=r
   rw [a2,a4]
theorem b2x {g:Tg} {o:Ow} {k:Nat} (hk:o.v=k) (h:(g.tag,g.x)=(o.rw.tag,o.rw.x)):∃p:PlT,p.tg=g∧p.j=k∧p.x=o.x:=by
 have a1:g.tag= .str (nm o.v) o.tv:=congrArg Prod.fst h
 have a2:g.x=o.x:=congrArg Prod.snd h
 refine ⟨⟨g.a,g.d,o.v,o.tv,g.x,g.tx,g.t1,g.t2⟩,?_,hk,a2⟩
 show Tg.mk g.a g.d (.str (nm o.v) o.tv) g.x g.tx g.t1 g.t2=g
 rw [←a1]
theorem d2m {gs:List Tg} {es:List Of} {rk:List Rk} {ow:Nat→Ow} {it:Rw} (up:∀r∈rk,r.1 < r.2.1∧r.2.1 < 5) (hlen:rk.length≤10) (hit:it.tag= .none) (how:∀k,(ow k).v=k) (hes:es.map Of.key=rk.map (fun r=>(a4u r.1 r.2.1,r.2.2)))
  (h:gs.map (fun g=>(g.tag,g.x))=(c6q it es ow).map (fun e=>(e.tag,e.x))):∃th:ThN,th.all=gs∧a4n th rk (fun k=>(ow k).x):=by
 unfold c6q at h
 rw [List.map_cons,List.map_append,List.map_map] at h
 obtain ⟨g0,g1,rfl,h0,h1⟩:=List.map_eq_cons_iff.mp h
 obtain ⟨gr,g2,rfl,h2,h3⟩:=List.map_eq_append_iff.mp h1
 obtain ⟨p4,p3,p2,p1,p0,rfl,e4,e3,e2,e1,e0⟩:=d8o h3
 obtain ⟨rs,rfl,hk⟩:=c9n (h2.trans (List.map_map ..).symm) hes
 obtain ⟨q0,rfl,j0,x0⟩:=b2x (how 0) e0
 obtain ⟨q1,rfl,j1,x1⟩:=b2x (how 1) e1
 obtain ⟨q2,rfl,j2,x2⟩:=b2x (how 2) e2
 obtain ⟨q3,rfl,j3,x3⟩:=b2x (how 3) e3
 obtain ⟨q4,rfl,j4,x4⟩:=b2x (how 4) e4
 refine ⟨⟨g0,rs,fun k=>match k with | 0=>q0 | 1=>q1 | 2=>q2 | 3=>q3 | _=>q4⟩,rfl,⟨?_,hk,fun g hg=>?_,fun k hk=>?_,fun k hk=>?_,?_⟩⟩
 ·have:=congrArg Prod.fst h0
  rw [hit] at this
  exact this
 ·have h4:g.key∈rk:=by rw [←hk];exact List.mem_map_of_mem hg
  have h5:=up _ h4
  have h6:g.i < g.j∧g.j < 5:=h5
  omega
 ·have:k=0∨k=1∨k=2∨k=3∨k=4:=lt5 (by first | assumption | omega)
  rcases this with rfl | rfl | rfl | rfl | rfl <;> assumption
 ·have:k=0∨k=1∨k=2∨k=3∨k=4:=lt5 (by first | assumption | omega)
  rcases this with rfl | rfl | rfl | rfl | rfl <;> assumption
 ·have:=congrArg List.length hk
  rw [List.length_map] at this
  show rs.length≤100
  exact Nat.le_trans (Nat.le_of_eq this) (Nat.le_trans hlen (by decide))
theorem e7u (it:Rw) (es:List Of) (ow:Nat→Ow):(c6q it es ow).map Rw.ob=it.ob::(es.map Of.ob++[(ow 4).ob,(ow 3).ob,(ow 2).ob,(ow 1).ob,(ow 0).ob]):=by
 unfold c6q
 rw [List.map_cons,List.map_append,d9g,d6p];rfl
theorem f1m (it:Rw) (es:List Of) (ow:Nat→Ow):([it.ob]++gl [es.map Of.ob,(owL ow).map Ow.ob]).Perm ([]++gl [(c6q it es ow).map Rw.ob]):=by
 rw [e7u]
 exact lpp [[_],_,[_],[_],[_],[_],[_]] [2,3,4,5,6,7,8,1,0,0,0,0,0,1,0,0,0] [2,3,8,7,6,5,4,1,0,0,0,0,0,0,0,1,0] rfl
theorem e5m (it:Rw) (es:List Of) (ow:Nat→Ow):([]++gl [(c6q it es ow).map Rw.ob]).Perm ([it.ob]++gl [es.map Of.ob,(owL ow).map Ow.ob]):=(f1m it es ow).symm
theorem e4u (it:Rw) (es:List Of) (ow:Nat→Ow):((⟨[.ref it.a]⟩:Array Value)++ofr es)++⟨[.ref (ow 4).a,.ref (ow 3).a,.ref (ow 2).a,.ref (ow 1).a,.ref (ow 0).a]⟩=rwr (c6q it es ow):=by
 simp [c6q,rwr,ofr,Of.rw,Ow.rw]
theorem e2w (P:Params) {vs:List Ov} {O:Addr} {mo:Nat} {rk:List Rk} (h:e7f rk vs) (hlen:rk.length≤10):([]++gl [ovL vs]).Perm ([]++gl [(mkD O mo vs).ats]):=by
 show (ovL vs++[]).Perm ((mkD O mo vs).ats++[])
 rw [List.append_nil,List.append_nil]
 refine a0h fun q=>?_
 have h1:one q (O,dob P (vs.map Ov.row) mo) + cnt q (mkD O mo vs).ats=one q (O,dob P (vs.map Ov.row) mo) + cnt q (ovL vs):=(c1h h hlen O mo).2.2.2 P q
 exact (Nat.add_left_cancel h1).symm
noncomputable abbrev d9e (tk tk3 tk4 tk5:Nat→Tok):Nat→Tok:=a0q (a0q (a0q (fun _=>Nat.succ (tk 0)) 1 (Nat.succ (tk3 0))) 2 (Nat.succ (tk4 4))) 3 (Nat.succ (tk5 0))
theorem a1h {rs:List Rd} {tk:Nat→Tok} {sc:List (Int×Tok)} (h:rs.map Rd.key=((c3x tk++sc.take 4).map (·.1)).filterMap a2z):c5d rs∧rs≠[]:=by
 refine ⟨c7a h (by simp;omega),?_⟩
 rintro rfl
 have e:((c3x tk++sc.take 4).map (·.1)).filterMap a2z=(a2z (-45)).toList++(([35,116, -58,23,46]++(sc.take 4).map (fun p:Int×Tok=>p.1)).filterMap a2z):=rfl
 rw [e] at h
 have:(a2z (-45)).toList≠[]:=by decide
 cases h1:(a2z (-45)).toList with
 | nil=>exact this h1
 | cons a l=>rw [h1] at h;cases h
theorem a2f {rs:List Rd} (h:c5d rs):(∀r∈rs.map Rd.key,r.1 < r.2.1∧r.2.1 < 5)∧(rs.map Rd.key).length≤10:=⟨fun r hr=>by
  obtain ⟨x,hx,rfl⟩:=List.mem_map.mp hr
  exact h.up x hx,by rw [List.length_map];exact h.len⟩
theorem a9b {rk:List Rk} (up:∀r∈rk,r.1 < r.2.1∧r.2.1 < 5) {vs:List Ov} (h:vs.map (fun v=>(v.i,v.os.map Ot.key))=[0,1,2,3,4].map (fun i=>(i,(rkO rk i).map (fun r=>(r.2.1,r.2.2))))):e7f rk vs:=by
 refine ⟨h,fun v hv o ho=>?_⟩
 have h1:(v.i,v.os.map Ot.key)∈vs.map (fun v=>(v.i,v.os.map Ot.key)):=List.mem_map_of_mem (f:=fun v:Ov=>(v.i,v.os.map Ot.key)) hv
 rw [h] at h1
 obtain ⟨i,_,e⟩:=List.mem_map.mp h1
 have e2:(rkO rk i).map (fun r=>(r.2.1,r.2.2))=v.os.map Ot.key:=congrArg Prod.snd e
 have h2:o.key∈v.os.map Ot.key:=List.mem_map_of_mem ho
 rw [←e2] at h2
 obtain ⟨r,hr,hro⟩:=List.mem_map.mp h2
 have h3:=(up r (b4v.mp hr).1).2
 have h4:r.2.1=o.v:=congrArg Prod.fst hro
 exact Nat.lt_of_le_of_lt (Nat.le_of_eq h4.symm) h3
theorem d9f {B:Led} (h:TbO 1 B):∃z:Q2 (List Value) Led,([]++gl [B]).Perm ([(23,a1v z.a)]++gl [z.b]):=by
 obtain ⟨c2,c3,c4,v,t,r,rfl⟩:=h
 exact ⟨⟨_,[(c4,a5l v t r)]⟩,.swap ..⟩
theorem b5p (ow:Nat→Ow) (h:∀k,(ow k).v=k):(∀e∈owL ow,e.v < 5∧e.x=(ow e.v).x)∧∀u,u < 5→∃e∈owL ow,e.v=u:=by
 refine ⟨fun e he=>?_,fun u hu=>?_⟩
 ·simp only [List.mem_cons,List.not_mem_nil,or_false] at he
  rcases he with rfl | rfl | rfl | rfl | rfl <;> exact ⟨by rw [h];exact Nat.le_add_left _ _,by rw [h]⟩
 ·have:u=0∨u=1∨u=2∨u=3∨u=4:=lt5 (by first | assumption | omega)
  exact ⟨ow u,by rcases this with rfl | rfl | rfl | rfl | rfl <;> simp,h u⟩
theorem e2i {w:World} {S:Addr} {m:Nat} {sc:List (Int×Tok)} (hl:sc.length≤2 ^ 20):(f3k w S m sc).H w:=by
 obtain ⟨ts,hts,htl⟩:=d2b sc
 have hsc:(a0w sc).size≤2000000:=by simp [a0w];omega
 exact Ctr.c1 (rn (VS (vl [])) (a0r 85157943966099993954605444918122393600) (al (p:=6 + (slicePick (a0w sc) none (some 4) none).size≤1000000) (by rw [c0c];simp [a0w];omega) (al1 hsc)) fun fr tk=>
  rw' [14] [] (a1o (a:=fr 12) (n:=0) (xs:=a0w (c3x tk)++slicePick (a0w sc) none (some 4) none) (ys:=a0w (c3x tk++sc.take 4)) (by rw [c0c];simp [a0w])) <|
  us [0,11] [] (c1b (S:=fr 12) (N:=fr 8) (es:=0) (u:=lwU tk) (en:=0) (xs:=c3x tk++sc.take 4) (by simp;omega)) fun yr hyr=>
  rn (VS (vl [])) (a0r 32301134853862729029417543614714763328709213293666760) (al (p:=(slicePick (a0w sc) (some 4) (some 9) none).size + 5≤1000000) (by rw [hts];simp [a0w];exact Nat.le_trans htl (by decide)) (al1 hsc)) fun fr2 tk2=>
  rw' [19] [] (a1o (a:=fr2 3) (n:=0) (xs:=slicePick (a0w sc) (some 4) (some 9) none++⟨[.int 0 (Nat.succ (tk2 3)),.int 0 (Nat.succ (tk2 4)),.int 0 (Nat.succ (tk2 5)),.int 0 (Nat.succ (tk2 6)),.int 0 (Nat.succ (tk2 7))]⟩) (ys:=a0w (ts++[(0,Nat.succ (tk2 3)),(0,Nat.succ (tk2 4)),(0,Nat.succ (tk2 5)),(0,Nat.succ (tk2 6)),(0,Nat.succ (tk2 7))])) (by rw [hts];simp [a0w])) <|
  us [21,22,23,7,2,9,0] [] (d6m (Q:=fr2 5) (A:=fr2 6) (Dd:=fr2 7) (F:=fr 0) (c1:=fr 1) (c3:=fr 3) (N:=fr 8) (M:=fr2 3) (u:=lwU tk) (ys:=ts++[(0,Nat.succ (tk2 3)),(0,Nat.succ (tk2 4)),(0,Nat.succ (tk2 5)),(0,Nat.succ (tk2 6)),(0,Nat.succ (tk2 7))]) (z:=fun k=>(ts++[(0,Nat.succ (tk2 3)),(0,Nat.succ (tk2 4)),(0,Nat.succ (tk2 5)),(0,Nat.succ (tk2 6)),(0,Nat.succ (tk2 7))]).getD k (0,0)) (fun k hk=>by
   rw [List.getD_eq_getElem?_getD,List.getElem?_eq_getElem (by simp;omega)];rfl) (by simp;omega)) fun yo hyo=>
  rn (VS (vl [])) (a0r 1605283071371256394) al0 fun fr3 tk3=>
  us [24,6,26,25] [1] (d1j (Q:=fr3 2) (A:=fr3 3) (Dd:=fr3 4) (F:=fr 0) (R:=yr.a) (n:=yr.c) (fun r hr=>by have:=(a1h hyr).1.up r hr;omega) (by have:=(a1h hyr).1.len;exact Nat.le_trans this (by decide)) (a1h hyr).2) fun yw hyw=>
  .ex (Q4 (Nat→Tok) Str Str Int) (fun z=>yw.a=otD w.params z) hyw.1 fun zw hzw=>rw' [1] [] (a0u (a:=fr3 4) hzw) <|
  rn (VS (vl [])) (a0r 10054816303952313162310144252950767083202249786855088229266923716673) (al (p:=((⟨[.ref (fr3 0)]⟩:Array Value)++ofr yw.b).size + 5≤1000000) (by have h1:=congrArg List.length hyw.2;have h2:=(a1h hyr).1.len;simp only [List.length_map] at h1;simp [ofr];exact Nat.le_trans (Nat.le_of_eq h1) (Nat.le_trans h2 (by decide))) (al1 (p:=1 + (ofr yw.b).size≤1000000) (by have h1:=congrArg List.length hyw.2;have h2:=(a1h hyr).1.len;simp only [List.length_map] at h1;simp [ofr];omega))) fun fr4 tk4=>
  rw' [24] [1,2] (f1m ⟨fr3 0,.none,0,Nat.succ (tk3 1)⟩ yw.b yo.a) <| rw' [28] [] (a1o (a:=fr4 3) (n:=0) (e4u ⟨fr3 0,.none,0,Nat.succ (tk3 1)⟩ yw.b yo.a)) <|
  us [29,0,31,30] [0] (d0d (Q:=fr4 4) (A:=fr4 5) (Dd:=fr4 6) (F:=fr 0) (R:=fr4 3) (n:=0) (ws:=c6q ⟨fr3 0,.none,0,Nat.succ (tk3 1)⟩ yw.b yo.a) (fun e he=>by
   rcases List.mem_cons.mp he with rfl | he
   ·exact .inl rfl
   ·rcases List.mem_append.mp he with he | he
    ·obtain ⟨x,_,rfl⟩:=List.mem_map.mp he
     exact .inr ⟨_,_,rfl⟩
    ·obtain ⟨x,_,rfl⟩:=List.mem_map.mp he
     exact .inr ⟨_,_,rfl⟩) (by have h1:=congrArg List.length hyw.2;have h2:=(a1h hyr).1.len;simp only [List.length_map] at h1;simp;exact Nat.le_trans (Nat.le_of_eq h1) (Nat.le_trans h2 (by decide))) (fun z=>nomatch z)) fun yt hyt=>
  .ex (Q3 (Nat→Tok) Value Int) (fun z=>yt.a=tnD w.params z) hyt.1 fun zt hzt=>rw' [0] [] (a0u (a:=fr4 6) hzt) <| rw' [] [0] (e5m ⟨fr3 0,.none,0,Nat.succ (tk3 1)⟩ yw.b yo.a) <|
  .ex ThN (fun th=>th.all=yt.b∧a4n th (yr.b.map Rd.key) (fun k=>(yo.a k).x)) (d2m (a2f (a1h hyr).1).1 (a2f (a1h hyr).1).2 rfl hyo (by rw [hyw.2,List.map_map];rfl) hyt.2) fun th hth=>
  rw' [2] [2] (a:=[(fr4 5,a0a (tgr yt.b) yt.c)]) (b:=[TL w.params yt.b]) (a':=[(fr4 5,a0a (tgr th.all) yt.c)]) (b':=[TL w.params th.all]) (by rw [hth.1]) <|
  rn (VS (vl [])) (a0r 454096764019745783296911) al0 fun fr5 tk5=>
  us [31,9,33,32,15,4] [3] (d0w (Q:=fr5 0) (A:=fr5 1) (Dd:=fr5 2) (F:=fr 0) (c2:=fr 2) (N:=fr 8) (R:=yr.a) (u:=lwU tk) (en:=0) (rs:=yr.b) (er:=yr.c) (a1h hyr).1) fun yl hyl=>
  shp (a:=fr5 2) 1 hyl.1 4417373938881 (fun _=>18093563653652545) fun hh=>rn (VS (vl [])) (a0r hh) al0 fun _ _=>
  us [5,16] [2] (c9u (T:=fr4 5) (ep:=yt.c) hth.2) fun yi hyi=>
  rn (VS (vl [])) (a0r 64) al0 fun _ _=>
  .ex (Nat→Int) (fun hf=>∀v,v < 5→a1d (hfL (yr.b.map Rd.key) (fun k=>(yo.a k).x) hf v) (hf v)) (d7o (yr.b.map Rd.key) (fun k=>(yo.a k).x) (fun r hr=>((a2f (a1h hyr).1).1 r hr).1) 5) fun hf hhf=>
  rw' [17] [] (d5r [(fr 0,fob w.params (d5y (d9e tk tk3 tk4 tk5) S (fr2 6) (fr4 3) (fr4 5)) 4)]) <|
  us [0] [2,0] (b8h (I:=yi.a) (vs:=yi.b) (mi:=yi.c) (hf:=hf) (es:=[a1y (fr 0) (a8k fr)]) (G:=[(fr 0,fob w.params (d5y (d9e tk tk3 tk4 tk5) S (fr2 6) (fr4 3) (fr4 5)) 4)]) (.cons _ _ _ (c6s (fr 0) fr) rfl (fun vs h=>by cases h) .nil) (e0t hyi.1 (a2f (a1h hyr).1).2 (a2f (a1h hyr).1).1).1 (e0t hyi.1 (a2f (a1h hyr).1).2 (a2f (a1h hyr).1).1).2 hhf (fun j _ r hr=>by
   obtain ⟨h1,h2⟩:=a7k.mp hr
   have:=((a2f (a1h hyr).1).1 r h1).1
   exact Nat.lt_of_lt_of_le this (Nat.le_of_eq h2))) fun yh hyh=>
  .ex (Q2 (Array (Option Value)) Led) (fun q=>yh.d=(fr 0,a1k w.params (d5y (d9e tk tk3 tk4 tk5) S (fr2 6) (fr4 3) (fr4 5)) 4 q.a)::q.b∧a4p [] q.b) (b5n (sl:=⟨[]⟩) hyh.2.2) fun q hq=>rw' [] [0] (c1a hq.1) <|
  rn (VS (vl [])) (a0r 6739962688724) al0 fun fr8 _=>
  us [0,33,4,20,19,1,12,18,5] [6,4] (c4k (F:=fr 0) (Q:=fr8 0) (N:=fr 8) (O:=fr2 6) (S:=S) (T:=fr4 3) (A:=fr4 5) (HD:=yh.a.a) (LD:=fr5 1) (c:=fr) (ow:=owL yo.a) (fun e he=>((b5p yo.a hyo).1 e he).1) (show 5≤100 by decide) (zs:=yl.b) (d3x hyl.2.1 hyl.2.2) (hf:=hf) (hs:=yh.c) (t0:=yh.b.a) (t1:=yh.b.b) hyh.1 hyh.2.1 (fun v hv=>d7i hhf (E:=rdE yr.b) (fun u q=>c3r) (a2f (a1h hyr).1).1 (d3x hyl.2.1 hyl.2.2) hyl.2.2 (b5p yo.a hyo).1 (b5p yo.a hyo).2 hv) (t:=d9e tk tk3 tk4 tk5) (sl:=q.a) (u:=lwU tk) (en:=0) (eh:=yh.a.b) (n:=5) (lm:=yl.c) 5 0 rfl (ti:=0) (ov:=none)) fun _ _=>
  rn (VS (vl [])) (a0r 16842816) al0 fun _ _=>
  us [1,6] [2,3] (d6o (T:=fr4 5) (N:=fr 8) (u:=lwU tk) (en:=0) (ep:=yt.c) hth.2 (B:=yi.d) hyi.2) fun yq hyq=>
  rn (VS (vl [])) (a0r 6598160613507) al0 fun fr10 tk10=>
  rw' [] [0] (e2w w.params (O:=yq.a) (mo:=yq.c) (a9b (a2f (a1h hyr).1).1 hyq.1) (a2f (a1h hyr).1).2) <|
  us [2,31,0,19,3,4,5,6,1] [2,0] (c6x (F:=fr 0) (Q:=fr10 0) (N:=fr 8) (O:=fr2 6) (S:=S) (T:=fr4 3) (A:=fr4 5) (HD:=yh.a.a) (LD:=fr5 1) (c:=fr) (zs:=yl.b) (d3x hyl.2.1 hyl.2.2) (hf:=hf) (hs:=yh.c) (t0:=yh.b.a) (t1:=yh.b.b) hyh.1 hyh.2.1 (d:=mkD yq.a yq.c yq.b) (c1h (a9b (a2f (a1h hyr).1).1 hyq.1) (a2f (a1h hyr).1).2 yq.a yq.c).1 (fun u hu q hq=>by
    have h1:=((c1h (a9b (a2f (a1h hyr).1).1 hyq.1) (a2f (a1h hyr).1).2 yq.a yq.c).2.2.1 u hu q).mp hq
    have h2:=(a2f (a1h hyr).1).1 _ h1
    have h3:hf u + q.2∈hfL (yr.b.map Rd.key) (fun k=>(yo.a k).x) hf q.1:=List.mem_append_left _ (List.mem_map.mpr ⟨(u,q.1,q.2),a7k.mpr ⟨h1,rfl⟩,rfl⟩)
    have:=(hhf q.1 h2.2).le _ h3
    omega) (Nat.le_trans (c1h (a9b (a2f (a1h hyr).1).1 hyq.1) (a2f (a1h hyr).1).2 yq.a yq.c).2.1 (by decide)) (E2:=rdE yr.b) (fun u hu q=>((c1h (a9b (a2f (a1h hyr).1).1 hyq.1) (a2f (a1h hyr).1).2 yq.a yq.c).2.2.1 u hu q).trans c3r.symm) hyl.2.2 (u:=lwU tk) (en:=0) (lm:=yl.c) (eh:=yh.a.b) (t:=a0q (d9e tk tk3 tk4 tk5) 4 (Nat.succ (tk10 0))) (sl:=q.a) (ov:=none)) fun _ _=>
  rn (VS (vl [])) [] al0 fun _ _=>
  .ex (Q2 (List Value) Led) (fun z=>([]++gl [yq.d]).Perm ([(23,a1v z.a)]++gl [z.b])) (d9f hyq.2) fun z hz=>rw' [] [0] hz <| .ret [12,0] [] z.a trivial) rfl (by kernel_rfl)
noncomputable def c8w (o:Option Obj):Bool:=match o with
 | some ⟨.type T,_,.fields ⟨vs⟩,_⟩=>match Nat.beq (PySem.W.S.codeS T) (PySem.W.S.codeS "code") with
  | true=>match (vs:List Value)[11]? with
   | some (Value.ref a)=>Nat.beq a 23
   | _=>false
  | false=>false
 | _=>false
theorem d3s (P:Params):c8w (KK P 27)=true:=by kernel_rfl
theorem c1k {P:Params} {h:Heap} (hK:∀a o,KK P a=some o→h.get? a=some o):isCodeTable h 23:=by
 have e:=d3s P
 unfold c8w at e
 split at e
 ·rename_i T d vs sl ho
  split at e
  ·rename_i hb
   split at e
   ·rename_i a hv
    have ha:a=23:=Nat.eq_of_beq_eq_true e
    subst ha
    refine ⟨27,_,⟨vs⟩,hK 27 _ ho,?_,rfl,by simpa using hv⟩
    show Value.type T= .type "code"
    rw [b2g (id:="code") hb (PySem.W.S.code_S _)]
   ·cases e
  ·cases e
 ·cases e
theorem c2m {w:World} {s₁:Shared} (sc:List (Int×Tok)) (hS:s₁.heap.get? 253=some (a0a (a0w sc) 0)) (h23:s₁.heap.get? 23=some (a1v [])) (hK:∀a o,KK w.params a=some o→s₁.heap.get? a=some o) (htok:1≤s₁.toks) (hg:s₁.gens= #[]) (hl:sc.length≤2 ^ 20):
  wpAny (model prog w) callerA (call (.ref 252) [.ref 253]) (fun v s'=>v= .bool true∧OldK s₁.heap s'.heap∧s'.os=s₁.os∧AllBare s'.gens) (fun _ _=>False) s₁:=by
 have key:=e2i (w:=w) (S:=253) (m:=0) hl (w.params.followText "special-get-raises") (w.params.followText "comprehension-iter-twice")
 rw [←f3s w] at key
 have sat:a4s w [(253,a0a (a0w sc) 0),(23,a1v [])] s₁:=by
  refine ⟨fun q hq=>?_,by simp,hK,fun q hq=>?_,htok⟩
  ·rcases List.mem_cons.mp hq with rfl | hq
   ·exact hS
   ·rw [List.mem_singleton] at hq;subst hq;exact h23
  ·rcases List.mem_cons.mp hq with rfl | hq
   ·show KK w.params 253=none
    kernel_rfl
   ·rw [List.mem_singleton] at hq;subst hq
    show KK w.params 23=none
    kernel_rfl
 have fit:c9g 400 7000 (some []) callerA:=⟨⟨by show 1 + claimMargin≤400;decide,by show 4≤7000;decide,rfl⟩,fun es h=>h⟩
 refine wpAny_call (codeAny_mono (key callerA s₁ fit sat) fun r s' hr=>?_)
 obtain ⟨L',⟨(y:List Value),_,rfl,rfl⟩,S',E',_⟩:=hr
 have S':a4s w [(253,a0a (a0w sc) 0),(23,a1v y)] s':=S'
 have E':a4j [(253,a0a (a0w sc) 0),(23,a1v [])] s₁ s':=E'
 refine ⟨rfl,⟨fun b o hb=>?_,fun b o hb=>?_⟩,E'.os,E'.gens (by rw [hg];exact AllBare.empty)⟩
 ·by_cases h1:b=253
  ·subst h1
   rw [hS] at hb;cases hb
   exact .inl (S'.led (253,a0a (a0w sc) 0) (.head _))
  ·by_cases h2:b=23
   ·subst h2
    rw [h23] at hb;cases hb
    refine .inr (.inl ⟨c1k hK,rfl, #[],⟨y⟩,rfl,?_⟩)
    have:=S'.led (23,a1v y) (.tail _ (.head _))
    simpa using this
   ·exact .inl (E'.keep b o hb (by simp [h1,h2]))
 ·by_cases h1:b=253
  ·subst h1
   exact ⟨_,S'.led (253,a0a (a0w sc) 0) (.head _)⟩
  ·by_cases h2:b=23
   ·subst h2
    exact ⟨_,S'.led (23,a1v y) (.tail _ (.head _))⟩
   ·exact ⟨o,E'.keep b o hb (by simp [h1,h2])⟩

theorem b4e : ∀ {l : List (Nat × Obj)} {a : Nat} {o : Obj}, klook l a = some o → (a, o) ∈ l
  | [], _, _, h => by cases h
  | q :: l, a, o, h => by
    unfold klook at h
    split at h
    · rename_i e
      cases h
      have := Nat.eq_of_beq_eq_true e
      subst this
      exact .head _
    · exact .tail _ (b4e h)
theorem c3p {α β : Type} {f g : α → β} : ∀ {l : List α}, l.map f = l.map g → ∀ x ∈ l, f x = g x
  | [], _, _, h => by cases h
  | y :: l, e, x, h => by
    rw [List.map_cons, List.map_cons] at e
    injection e with e1 e2
    rcases List.mem_cons.mp h with rfl | h
    · exact e1
    · exact c3p e2 x h
abbrev tbo0 : Obj := ⟨.none, none, .fields ⟨[]⟩, ⟨[]⟩⟩
abbrev hAs : List Addr := [0, 1, 2, 3, 4, 5, 20, 21, 27, 28, 41, 42, 44, 45, 46, 47, 63, 64, 67, 68, 69, 70, 71, 82, 83, 84, 94, 100, 101, 107, 108, 114, 115, 119, 120, 126, 127, 133, 134, 140, 141, 147, 148, 154, 155, 161, 162, 164, 165, 166, 167, 175, 176, 182, 183, 189, 190, 196, 197, 203, 204, 210, 211, 215, 216, 222, 223, 227, 228, 232, 233, 239, 240, 246, 247, 251, 252, 23]
theorem rowSaid : PySem.Challenge.rw_oh0064_01.row.wellSaid = true := by
  rw [PySem.W.Fast.te17960256430627541270]
  kernel_rfl
theorem lawSaid : PySem.Challenge.rw_oh0064_01.wellSaid = true := by
  unfold OpenLaw.wellSaid
  rw [rowSaid]
  kernel_rfl
set_option maxHeartbeats 0 in
theorem foo5 : PySem.Challenge.rw_oh0064_01.Holds := by
  w_on; refine holds_law lawSaid fun said => ?_
  refine holds_openX (q := PySem.Challenge.pw_oh0064_01) (loose := [Str.ofString "_SelectorContext", Str.ofString "_NodeInfo"]) (Xt := fun s => xlAt PySem.Challenge.pw_oh0064_01 [] s && recOk (RowW.records PySem.Challenge.rw_oh0064_01.row.toRowW) s) (XP := XL PySem.Challenge.pw_oh0064_01 []) (Yf := fun s => (hAs.map s.heap.get?, s.heap.objs.size, s.toks)) (Ya := fun w => ((KL w.params).map (fun p => some p.2) ++ [some tbo0], 253, 557)) (N := 3616) ?hl (fun s e => xl_of s (Bool.and_eq_true_iff.mp e).1) XL.keeps (by rfl) (by rfl) (by rfl) (fun s e => recFacts_of (Bool.and_eq_true_iff.mp e).2) (by rfl) (by first | assumption | decide +kernel) (by decide +kernel) ⟨rfl, rfl, rfl, rfl, rfl, by decide +kernel⟩ ?hw ?hc
  case hl =>
    intro w
    unfold openEnds topFrom
    rw [PySem.W.Fast.te14082659384304107361, PySem.W.Fast.te14364793385576792824, PySem.W.Fast.te4187177175401517315]
    kernel_rfl
  case hw => w_witness2
  case hc =>
    intro w s₀ s₁ mg mb G y a o pm cd doc dV kV ho hd hcd hD hmg hg args vals as L hpre hlay hrd hwl hlo
    have y1 : hAs.map s₀.heap.get? = (KL w.params).map (fun p => some p.2) ++ [some tbo0] := congrArg Prod.fst y
    have yN : s₀.heap.objs.size = 253 := congrArg (fun x => x.2.1) y
    have yT : s₀.toks = 557 := congrArg (fun x => x.2.2) y
    have e0 : hAs = (KL w.params ++ [(23, tbo0)]).map (fun p : Nat × Obj => p.1) := by kernel_rfl
    have y2 : hAs.map s₀.heap.get? = (KL w.params ++ [(23, tbo0)]).map (fun p : Nat × Obj => some p.2) := by rw [y1, List.map_append]; rfl
    have hI : Frag.In (KL w.params ++ [(23, tbo0)]) s₁.heap := (Frag.in_of e0 y2).keeps L.keeps
    have hall : ∀ p ∈ KL w.params ++ [(23, tbo0)], s₁.heap.get? p.1 = some p.2 := fun p hp => by
      rw [e0, List.map_map] at y2
      exact L.keeps _ _ (c3p y2 p hp)
    have hK : ∀ a o, KK w.params a = some o → s₁.heap.get? a = some o := fun a o e => hall (a, o) (List.mem_append_left _ (b4e e))
    have h23 : s₁.heap.get? 23 = some (a1v []) := hall (23, tbo0) (List.mem_append_right _ (.head _))
    have fa := mg_of hI G.T.g (n := Str.ofString "law") (v := .ref 252) (by kernel_rfl)
    have ea : a = 252 := Value.ref.inj (Option.some.inj (hmg.symm.trans fa))
    subst ea
    wrow_args hpre hlay hrd hwl hlo
    obtain ⟨hat, hsz⟩ := script_at L
    have htk := script_toks L yT
    rw [yN] at hat hsz
    subst hat
    all_lens
    rename IntsAre _ _ => hI'
    rename Heap.IsList _ _ _ => hLs
    rename _ ∧ _ ≤ 2 ^ 20 => hB
    have hS := script_obj L hLs
    obtain ⟨sc, hsc, hns⟩ := b4g hI'
    have hl : sc.length ≤ 2 ^ 20 := by
      have h1 := hB.1
      have h2 := hB.2
      rw [hsc, List.length_map] at h1
      omega
    rw [hsc] at hS
    show wpAny _ callerA (call (.ref 252) [.ref 253]) _ _ s₁
    refine wpAny_mono (c2m sc hS h23 hK (Nat.le_trans (by decide) htk) hg hl) (fun v s' h => ?_) (fun _ _ h => h.elim)
    obtain ⟨rfl, hO, hos, hb⟩ := h
    exact ⟨.inl ⟨_, _, [], rfl, fun _ => rfl, ReadsW.bool true, by first | rfl | wrow_post, fun _ => ⟨List.nodup_nil, fun _ hm => (nomatch hm)⟩⟩, hO, hos, hb⟩
end
end Mine
theorem PySem.Challenge.cw_oh0064_01_holds : PySem.Challenge.rw_oh0064_01.Holds :=
  Mine.foo5
