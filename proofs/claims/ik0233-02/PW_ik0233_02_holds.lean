import PyProof.Rows.All
import PyProof.Parts
import PyProof.Conv_bool
import PyProof.NeData
import PyProof.ExcStrCall
import PyProof.NsDelKeeps
import PyProof.Rows.RuleIs
import Wide.Loose
import KE.KDictIter
import KE.KItemsList
import KE.KStar
import Wide.FinOn
import OpenK.AllK
import Wide.All
import PySem.Challenge.RW_ik0233_02
set_option linter.all false
set_option genSizeOf false
set_option compiler.extract_closed false
set_option Elab.async false
set_option autoImplicit false
set_option maxRecDepth 100000
set_option maxHeartbeats 4000000
open PySem PySem.W PySem.Calls PyProof.Rows
section
namespace V
theorem c02 {A B:Prop} {Q:Prop} (h:A∧B) (k:A→B→Q):Q:=by
 obtain⟨h0,h1⟩:=h
 exact k h0 h1
theorem c03 {A B C:Prop} {Q:Prop} (h:A∧B∧C) (k:A→B→C→Q):Q:=by
 obtain⟨h0,h1,h2⟩:=h
 exact k h0 h1 h2
theorem c04 {A B C D:Prop} {Q:Prop} (h:A∧B∧C∧D) (k:A→B→C→D→Q):Q:=by
 obtain⟨h0,h1,h2,h3⟩:=h
 exact k h0 h1 h2 h3
theorem c05 {A B C D E:Prop} {Q:Prop} (h:A∧B∧C∧D∧E) (k:A→B→C→D→E→Q):Q:=by
 obtain⟨h0,h1,h2,h3,h4⟩:=h
 exact k h0 h1 h2 h3 h4
theorem c06 {A B C D E F:Prop} {Q:Prop} (h:A∧B∧C∧D∧E∧F) (k:A→B→C→D→E→F→Q):Q:=by
 obtain⟨h0,h1,h2,h3,h4,h5⟩:=h
 exact k h0 h1 h2 h3 h4 h5
theorem c07 {A B C D E F G:Prop} {Q:Prop} (h:A∧B∧C∧D∧E∧F∧G) (k:A→B→C→D→E→F→G→Q):Q:=by
 obtain⟨h0,h1,h2,h3,h4,h5,h6⟩:=h
 exact k h0 h1 h2 h3 h4 h5 h6
theorem c08 {A B C D E F G H:Prop} {Q:Prop} (h:A∧B∧C∧D∧E∧F∧G∧H) (k:A→B→C→D→E→F→G→H→Q):Q:=by
 obtain⟨h0,h1,h2,h3,h4,h5,h6,h7⟩:=h
 exact k h0 h1 h2 h3 h4 h5 h6 h7
theorem c09 {A B C D E F G H I:Prop} {Q:Prop} (h:A∧B∧C∧D∧E∧F∧G∧H∧I) (k:A→B→C→D→E→F→G→H→I→Q):Q:=by
 obtain⟨h0,h1,h2,h3,h4,h5,h6,h7,h8⟩:=h
 exact k h0 h1 h2 h3 h4 h5 h6 h7 h8
theorem c11 {α:Sort _} {A:α→Prop} {Q:Prop} (h: ∃a,A a) (k: ∀a,A a→Q):Q:=by
 obtain⟨a,h0⟩:=h
 exact k a h0
theorem c12 {α:Sort _} {A B:α→Prop} {Q:Prop} (h: ∃a,A a∧B a) (k: ∀a,A a→B a→Q):Q:=by
 obtain⟨a,h0,h1⟩:=h
 exact k a h0 h1
theorem c13 {α:Sort _} {A B C:α→Prop} {Q:Prop} (h: ∃a,A a∧B a∧C a) (k: ∀a,A a→B a→C a→Q):Q:=by
 obtain⟨a,h0,h1,h2⟩:=h
 exact k a h0 h1 h2
theorem c14 {α:Sort _} {A B C D:α→Prop} {Q:Prop} (h: ∃a,A a∧B a∧C a∧D a) (k: ∀a,A a→B a→C a→D a→Q):Q:=by
 obtain⟨a,h0,h1,h2,h3⟩:=h
 exact k a h0 h1 h2 h3
theorem c18 {α:Sort _} {A B C D E F G H:α→Prop} {Q:Prop} (h: ∃a,A a∧B a∧C a∧D a∧E a∧F a∧G a∧H a) (k: ∀a,A a→B a→C a→D a→E a→F a→G a→H a→Q):Q:=by
 obtain⟨a,h0,h1,h2,h3,h4,h5,h6,h7⟩:=h
 exact k a h0 h1 h2 h3 h4 h5 h6 h7
theorem c21 {α:Sort _} {β:Sort _} {A:α→β→Prop} {Q:Prop} (h: ∃a b,A a b) (k: ∀a b,A a b→Q):Q:=by
 obtain⟨a,b,h0⟩:=h
 exact k a b h0
theorem c22 {α:Sort _} {β:Sort _} {A B:α→β→Prop} {Q:Prop} (h: ∃a b,A a b∧B a b) (k: ∀a b,A a b→B a b→Q):Q:=by
 obtain⟨a,b,h0,h1⟩:=h
 exact k a b h0 h1
theorem c23 {α:Sort _} {β:Sort _} {A B C:α→β→Prop} {Q:Prop} (h: ∃a b,A a b∧B a b∧C a b) (k: ∀a b,A a b→B a b→C a b→Q):Q:=by
 obtain⟨a,b,h0,h1,h2⟩:=h
 exact k a b h0 h1 h2
theorem c24 {α:Sort _} {β:Sort _} {A B C D:α→β→Prop} {Q:Prop} (h: ∃a b,A a b∧B a b∧C a b∧D a b) (k: ∀a b,A a b→B a b→C a b→D a b→Q):Q:=by
 obtain⟨a,b,h0,h1,h2,h3⟩:=h
 exact k a b h0 h1 h2 h3
theorem c25 {α:Sort _} {β:Sort _} {A B C D E:α→β→Prop} {Q:Prop} (h: ∃a b,A a b∧B a b∧C a b∧D a b∧E a b) (k: ∀a b,A a b→B a b→C a b→D a b→E a b→Q):Q:=by
 obtain⟨a,b,h0,h1,h2,h3,h4⟩:=h
 exact k a b h0 h1 h2 h3 h4
theorem c31 {α:Sort _} {β:Sort _} {γ:Sort _} {A:α→β→γ→Prop} {Q:Prop} (h: ∃a b c,A a b c) (k: ∀a b c,A a b c→Q):Q:=by
 obtain⟨a,b,c,h0⟩:=h
 exact k a b c h0
theorem c32 {α:Sort _} {β:Sort _} {γ:Sort _} {A B:α→β→γ→Prop} {Q:Prop} (h: ∃a b c,A a b c∧B a b c) (k: ∀a b c,A a b c→B a b c→Q):Q:=by
 obtain⟨a,b,c,h0,h1⟩:=h
 exact k a b c h0 h1
theorem c33 {α:Sort _} {β:Sort _} {γ:Sort _} {A B C:α→β→γ→Prop} {Q:Prop} (h: ∃a b c,A a b c∧B a b c∧C a b c) (k: ∀a b c,A a b c→B a b c→C a b c→Q):Q:=by
 obtain⟨a,b,c,h0,h1,h2⟩:=h
 exact k a b c h0 h1 h2
theorem c34 {α:Sort _} {β:Sort _} {γ:Sort _} {A B C D:α→β→γ→Prop} {Q:Prop} (h: ∃a b c,A a b c∧B a b c∧C a b c∧D a b c) (k: ∀a b c,A a b c→B a b c→C a b c→D a b c→Q):Q:=by
 obtain⟨a,b,c,h0,h1,h2,h3⟩:=h
 exact k a b c h0 h1 h2 h3
theorem c35 {α:Sort _} {β:Sort _} {γ:Sort _} {A B C D E:α→β→γ→Prop} {Q:Prop} (h: ∃a b c,A a b c∧B a b c∧C a b c∧D a b c∧E a b c) (k: ∀a b c,A a b c→B a b c→C a b c→D a b c→E a b c→Q):Q:=by
 obtain⟨a,b,c,h0,h1,h2,h3,h4⟩:=h
 exact k a b c h0 h1 h2 h3 h4
theorem c36 {α:Sort _} {β:Sort _} {γ:Sort _} {A B C D E F:α→β→γ→Prop} {Q:Prop} (h: ∃a b c,A a b c∧B a b c∧C a b c∧D a b c∧E a b c∧F a b c) (k: ∀a b c,A a b c→B a b c→C a b c→D a b c→E a b c→F a b c→Q):Q:=by
 obtain⟨a,b,c,h0,h1,h2,h3,h4,h5⟩:=h
 exact k a b c h0 h1 h2 h3 h4 h5
theorem c41 {α:Sort _} {β:Sort _} {γ:Sort _} {δ:Sort _} {A:α→β→γ→δ→Prop} {Q:Prop} (h: ∃a b c d,A a b c d) (k: ∀a b c d,A a b c d→Q):Q:=by
 obtain⟨a,b,c,d,h0⟩:=h
 exact k a b c d h0
theorem c42 {α:Sort _} {β:Sort _} {γ:Sort _} {δ:Sort _} {A B:α→β→γ→δ→Prop} {Q:Prop} (h: ∃a b c d,A a b c d∧B a b c d) (k: ∀a b c d,A a b c d→B a b c d→Q):Q:=by
 obtain⟨a,b,c,d,h0,h1⟩:=h
 exact k a b c d h0 h1
theorem c43 {α:Sort _} {β:Sort _} {γ:Sort _} {δ:Sort _} {A B C:α→β→γ→δ→Prop} {Q:Prop} (h: ∃a b c d,A a b c d∧B a b c d∧C a b c d) (k: ∀a b c d,A a b c d→B a b c d→C a b c d→Q):Q:=by
 obtain⟨a,b,c,d,h0,h1,h2⟩:=h
 exact k a b c d h0 h1 h2
theorem c44 {α:Sort _} {β:Sort _} {γ:Sort _} {δ:Sort _} {A B C D:α→β→γ→δ→Prop} {Q:Prop} (h: ∃a b c d,A a b c d∧B a b c d∧C a b c d∧D a b c d) (k: ∀a b c d,A a b c d→B a b c d→C a b c d→D a b c d→Q):Q:=by
 obtain⟨a,b,c,d,h0,h1,h2,h3⟩:=h
 exact k a b c d h0 h1 h2 h3
theorem c45 {α:Sort _} {β:Sort _} {γ:Sort _} {δ:Sort _} {A B C D E:α→β→γ→δ→Prop} {Q:Prop} (h: ∃a b c d,A a b c d∧B a b c d∧C a b c d∧D a b c d∧E a b c d) (k: ∀a b c d,A a b c d→B a b c d→C a b c d→D a b c d→E a b c d→Q):Q:=by
 obtain⟨a,b,c,d,h0,h1,h2,h3,h4⟩:=h
 exact k a b c d h0 h1 h2 h3 h4
theorem c52 {α:Sort _} {β:Sort _} {γ:Sort _} {δ:Sort _} {ε:Sort _} {A B:α→β→γ→δ→ε→Prop} {Q:Prop} (h: ∃a b c d e,A a b c d e∧B a b c d e) (k: ∀a b c d e,A a b c d e→B a b c d e→Q):Q:=by
 obtain⟨a,b,c,d,e,h0,h1⟩:=h
 exact k a b c d e h0 h1
theorem c54 {α:Sort _} {β:Sort _} {γ:Sort _} {δ:Sort _} {ε:Sort _} {A B C D:α→β→γ→δ→ε→Prop} {Q:Prop} (h: ∃a b c d e,A a b c d e∧B a b c d e∧C a b c d e∧D a b c d e) (k: ∀a b c d e,A a b c d e→B a b c d e→C a b c d e→D a b c d e→Q):Q:=by
 obtain⟨a,b,c,d,e,h0,h1,h2,h3⟩:=h
 exact k a b c d e h0 h1 h2 h3
theorem c63 {α:Sort _} {β:Sort _} {γ:Sort _} {δ:Sort _} {ε:Sort _} {ζ:Sort _} {A B C:α→β→γ→δ→ε→ζ→Prop} {Q:Prop} (h: ∃a b c d e f,A a b c d e f∧B a b c d e f∧C a b c d e f) (k: ∀a b c d e f,A a b c d e f→B a b c d e f→C a b c d e f→Q):Q:=by
 obtain⟨a,b,c,d,e,f,h0,h1,h2⟩:=h
 exact k a b c d e f h0 h1 h2
end V
end
open Lean in
local macro_rules
  | `(tactic| obtain ⟨$ps,*⟩ := $e:term) => do
    let ps0 := ps
    let ps := ps.getElems
    let n := ps.size
    if n < 2 then Macro.throwUnsupported
    if n > 9 then
      let y := mkIdent `ζ
      let p := ps[0]!.raw
      let q := p.setArg 0 (p[0].setArg 0 (mkNullNode #[mkNode ``Parser.Tactic.rcasesPat.one #[y]]))
      let a := (ps.extract 0 8).push ⟨q⟩
      let b := ps.extract 8 n
      return ← `(tactic| first | (obtain ⟨$a,*⟩ := $e:term; obtain ⟨$b,*⟩ := $y:ident) | rcases $e:term with ⟨$ps0,*⟩)
    let mut ids : Array Term := #[]
    let gone ← if e.raw.isIdent then `(tactic| try clear $(⟨e.raw⟩):ident) else `(tactic| skip)
    let mut post : Array (TSyntax `tactic) := #[gone]
    for i in [0:n] do
      let p := ps[i]!
      let y := mkIdent (.mkSimple s!"ζ{i}")
      let med := p.raw[0]
      if med[0].getNumArgs != 1 || p.raw[1].getNumArgs != 0 then Macro.throwUnsupported
      let one := med[0][0]
      if one.isOfKind ``Parser.Tactic.rcasesPat.one then
        if one[0].getId == `rfl then
          ids := ids.push y
          post := post.push (← `(tactic| rcases $y:ident with $(⟨p.raw⟩)))
        else ids := ids.push ⟨one[0]⟩
      else if one.isOfKind ``Parser.Tactic.rcasesPat.tuple then
        ids := ids.push y
        post := post.push (← `(tactic| obtain $(⟨med⟩) := $y:ident))
      else if one.isOfKind ``Parser.Tactic.rcasesPat.ignore then ids := ids.push (← `(_))
      else Macro.throwUnsupported
    post := post.insertIdx! 1 (← `(tactic| intro $ids*))
    let mut alts : Array (TSyntax `Lean.Parser.Tactic.tacticSeq) := #[]
    for i in [0:7] do
      let j := n - i
      if i < n && j ≤ 9 then
        let f := mkIdent (.mkStr `V (s!"c{i}{j}"))
        alts := alts.push (← `(Lean.Parser.Tactic.tacticSeq| refine $f $e ?_))
    alts := alts.push (← `(Lean.Parser.Tactic.tacticSeq| fail))
    `(tactic| first | ((first $[| $alts]*); $[$post:tactic];*) | rcases $e:term with ⟨$ps,*⟩)
  | `(tactic| rcases $e:term with $p:rcasesPatLo) => do
    let med := p.raw[0]
    if med[0].getNumArgs != 3 || p.raw[1].getNumArgs != 0 then Macro.throwUnsupported
    let y := mkIdent `ζ
    let gone ← if e.raw.isIdent then `(tactic| try clear $(⟨e.raw⟩):ident) else `(tactic| skip)
    let side (one : Syntax) : MacroM (Ident × TSyntax `tactic) := do
      if one.isOfKind ``Parser.Tactic.rcasesPat.one then
        if one[0].getId == `rfl then return (y, ← `(tactic| rcases $y:ident with $(⟨p.raw.setArg 0 (med.setArg 0 (mkNullNode #[one]))⟩)))
        return (⟨one[0]⟩, ← `(tactic| skip))
      if one.isOfKind ``Parser.Tactic.rcasesPat.tuple then
        let m : Syntax := (med.setArg 0 (mkNullNode #[one]))
        return (y, ← `(tactic| obtain $(⟨m⟩) := $y:ident))
      Macro.throwUnsupported
    let (a, s) ← side med[0][0]
    let (b, t) ← side med[0][2]
    `(tactic| first | ((refine Or.elim $e ?orl ?orr); (case' orr => ($gone:tactic; intro $b:ident; $t:tactic)); (case' orl => ($gone:tactic; intro $a:ident; $s:tactic))) | obtain $(⟨med⟩) := $e:term)
section
namespace V
theorem Rt {M:Model} {Γ:Ctx} {p:Pos} {t:Sem Fin} {fs:List Frame} {s:Shared} {e:End} {s':Shared} (h:Runs M Γ p t fs s e s'):s.toks≤s'.toks:=by
 induction h
 all_goals first
  | exact Nat.le_refl _
  | assumption
  | (rename_i ih;exact Nat.le_trans (Nat.le_succ _) ih)
  | (rename_i ih1 ih2;exact Nat.le_trans ih1 ih2)
  | (simp only [Shared.setGen]at *;omega)
theorem Wt {M:Model} {Γ:Ctx} {p:Pos} {g:Nat} {r:Resume} {s:Shared} {res:GenResult} {s':Shared} (h:Wakes M Γ p g r s res s'):s.toks≤s'.toks:=by
 unfold Wakes at h
 split at h
 ·exact h.elim
 ·split at h
  ·obtain⟨e₁,s₁,h1,_,_,rfl⟩:=h
   have z:=Rt h1;exact z
  ·rw [h.2];exact Nat.le_refl _
  ·rw [h.2];exact Nat.le_refl _
 ·obtain⟨e₁,s₁,h1,_,_,rfl⟩:=h
  have z:=Rt h1;exact z
 ·rw [h.2];exact Nat.le_refl _
 ·rw [h.2];exact Nat.le_refl _
theorem wp_toks {α:Type} {M:Model} {Γ:Ctx} {t:Sem α} {n:Nat}: ∀{Q Q':α→Pos→Shared→Prop} {E E':Value→Pos→Shared→Prop} {p:Pos} {s:Shared},n≤s.toks→(∀a p s',Q a p s'→n≤s'.toks→Q' a p s')→(∀a p s',E a p s'→n≤s'.toks→E' a p s')→
  Sem.wp M Γ t Q E p s→Sem.wp M Γ t Q' E' p s:=by
 induction t with
 | pure a=>intro Q Q' E E' p s hn hQ hE h;rw [Sem.wp]at h⊢;exact hQ _ _ _ h hn
 | raise e=>intro Q Q' E E' p s hn hQ hE h;rw [Sem.wp]at h⊢;exact hE _ _ _ h hn
 | load a part k ih=>intro Q Q' E E' p s hn hQ hE h;rw [Sem.wp]at h⊢;obtain⟨o,h1,h2⟩:=h;exact⟨o,h1,ih o hn hQ hE h2⟩
 | update a part f k ih=>intro Q Q' E E' p s hn hQ hE h;rw [Sem.wp]at h⊢;exact⟨h.1,ih () (s:={s with heap:=s.heap.update a f}) hn hQ hE h.2⟩
 | choose src m k ih=>intro Q Q' E E' p s hn hQ hE h;rw [Sem.wp]at h⊢;exact⟨h.1,ih _ (s:={s with drawn:=s.drawn.bump src}) hn hQ hE h.2⟩
 | genState g k ih=>intro Q Q' E E' p s hn hQ hE h;rw [Sem.wp]at h⊢;obtain⟨o,h1,h2⟩:=h;exact⟨o,h1,ih _ hn hQ hE h2⟩
 | call c hd g l k ih=>
  intro Q Q' E E' p s hn hQ hE h
  rw [Sem.wp]at h⊢
  obtain⟨r,s',h1,h2⟩:=h
  exact⟨r,s',h1,ih _ (Nat.le_trans hn (Rt h1)) hQ hE h2⟩
 | resume g r l k ih=>
  intro Q Q' E E' p s hn hQ hE h
  rw [Sem.wp]at h⊢
  obtain⟨res,s',h1,h2⟩:=h
  exact⟨res,s',h1,ih _ (Nat.le_trans hn (Wt h1)) hQ hE h2⟩
 | fresh k ih=>intro Q Q' E E' p s hn hQ hE h;rw [Sem.wp]at h⊢;exact ih _ (s:={s with toks:=s.toks+1}) (Nat.le_succ_of_le hn) hQ hE h
 | _=>
  intro Q Q' E E' p s hn hQ hE h
  rw [Sem.wp]at h⊢
  first
   | exact h
   | (rename_i ih;exact ih _ (by exact hn) hQ hE h)
theorem wA {α:Type} {M:Model} {A:Around} {t:Sem α} {Q:α→Shared→Prop} {E:Value→Shared→Prop} {s:Shared} (h:wpAny M A t (fun r s'=>s.toks≤s'.toks→Q r s') E s):wpAny M A t Q E s:=
 fun Γ p hΓ=>wp_toks (Nat.le_refl _) (fun u v w q l=>q l) (fun u v w q g=>q) (h Γ p hΓ)
end V
end
section
namespace V
structure Loc where
 tag:Nat
 key:Str
 deriving DecidableEq
inductive AV where
 | none | any
 | bool (b:Bool)
 | int (i:Int)
 | str (s:Str)
 | bytes (b:Array UInt8)
 | ty (n:String)
 | bi (id:String)
 | ext (a:Addr)
 | loc (l:Loc)
 | mw (id:String) (l:Loc)
 | bm (f:Addr) (l:Loc)
 | slc (a b c:AV)
 | fld (n:String) (xs:List AV)
 | tup (xs:List AV)
 | lst (xs:List AV)
inductive AO where
 | list (xs:List AV)
 | dict (es:List (Str×AV))
 | map (es:List (Str×AV)) (n:Nat)
 | set (xs:List Str)
 | inst (C:Addr) (d:Loc)
 | slots (C:Addr) (d:Loc) (vs:List (Option AV))
 | junk
 | exc (n:String) (xs:List AV)
 | iter (l:Loc) (i:Nat)
structure Wd where
 ρ:Loc→Option Addr
 fz:Addr→Option Obj
noncomputable def Wd.le (W W':Wd):Prop:=(∀l a,W.ρ l=some a→W'.ρ l=some a)∧(∀a o,W.fz a=some o→W'.fz a=some o)
theorem Wd.le.refl (W:Wd):W.le W:=⟨fun u v h=>h,fun u v h=>h⟩
theorem Wd.le.trans {W W' W'':Wd} (a:W.le W') (b:W'.le W''):W.le W'':=⟨fun l x h=>b.1 _ _ (a.1 l x h),fun l x h=>b.2 _ _ (a.2 l x h)⟩
noncomputable def fzc (n:String):Bool:=(["range","dict_items","dict_values","dict_keys"]:List String).contains n
mutual
noncomputable def VR (W:Wd):AV→Value→Prop
 | .none,v=>v= .none
 | .any,_=>True
 | .bool b,v=>v= .bool b
 | .int i,v=> ∃t,v= .int i t
 | .str s,v=> ∃t,v= .str s t
 | .bytes b,v=> ∃t,v= .bytes b t
 | .ty n,v=>v= .type n
 | .bi n,v=>v= .builtin n
 | .ext a,v=>v= .ref a
 | .loc l,v=> ∃a,W.ρ l=some a∧v= .ref a
 | .mw id l,v=> ∃a b o,W.ρ l=some a∧v= .ref b∧W.fz b=some o∧o.cls= .type "method-wrapper"∧o.data= .fields #[.builtin id,.ref a]
 | .bm f l,v=> ∃a b o,W.ρ l=some a∧v= .ref b∧W.fz b=some o∧o.cls= .type "method"∧o.data= .fields #[.ref f,.ref a]
 | .slc x y z,v=> ∃b o vx vy vz,v= .ref b∧W.fz b=some o∧o.cls= .type "slice"∧o.data= .fields #[vx,vy,vz]∧VR W x vx∧VR W y vy∧VR W z vz
 | .fld n xs,v=>fzc n=true∧ ∃b o vs,v= .ref b∧W.fz b=some o∧o={cls:= .type n,data:= .fields (List.toArray vs)}∧VRe W xs vs
 | .tup xs,v=> ∃a o vs n,v= .ref a∧W.fz a=some o∧o.cls= .type "tuple"∧o={cls:= .type "tuple",data:= .seq (List.toArray vs) n}∧VRe W xs vs
 | .lst xs,v=> ∃a o vs n,v= .ref a∧W.fz a=some o∧o.cls= .type "list"∧o={cls:= .type "list",data:= .seq (List.toArray vs) n}∧VRe W xs vs
noncomputable def VRe (W:Wd):List AV→List Value→Prop
 | [],vs=>vs= []
 | x::xs,vs=> ∃v r,vs=v::r∧VR W x v∧VRe W xs r
end
mutual
theorem VR.mono {W W':Wd} (h:W.le W'): ∀{x:AV} {v:Value},VR W x v→VR W' x v
 | .none,_,q=>q
 | .any,_,_=>by unfold VR;trivial
 | .bool _,_,q=>by unfold VR at q⊢;exact q
 | .int _,_,q=>by unfold VR at q⊢;exact q
 | .str _,_,q=>by unfold VR at q⊢;exact q
 | .bytes _,_,q=>by unfold VR at q⊢;exact q
 | .ty _,_,q=>by unfold VR at q⊢;exact q
 | .bi _,_,q=>by unfold VR at q⊢;exact q
 | .ext _,_,q=>by unfold VR at q⊢;exact q
 | .loc _,_,q=>by
  unfold VR at q⊢
  obtain⟨a,e,r⟩:=q
  exact⟨a,h.1 _ _ e,r⟩
 | .mw _ _,_,q=>by
  unfold VR at q⊢
  obtain⟨a,b,o,e,r,f,z⟩:=q
  exact⟨a,b,o,h.1 _ _ e,r,h.2 _ _ f,z⟩
 | .bm _ _,_,q=>by
  unfold VR at q⊢
  obtain⟨a,b,o,e,r,f,z⟩:=q
  exact⟨a,b,o,h.1 _ _ e,r,h.2 _ _ f,z⟩
 | .slc _ _ _,_,q=>by
  unfold VR at q⊢
  obtain⟨b,o,vx,vy,vz,r,f,z1,z2,k1,k2,k3⟩:=q
  exact⟨b,o,vx,vy,vz,r,h.2 _ _ f,z1,z2,VR.mono h k1,VR.mono h k2,VR.mono h k3⟩
 | .fld _ _,_,q=>by
  unfold VR at q⊢
  obtain⟨c,b,o,vs,r,f,z,k⟩:=q
  exact⟨c,b,o,vs,r,h.2 _ _ f,z,VRe.mono h k⟩
 | .tup _,_,q=>by
  unfold VR at q⊢
  obtain⟨a,o,vs,n,r,f,z1,z2,k⟩:=q
  exact⟨a,o,vs,n,r,h.2 _ _ f,z1,z2,VRe.mono h k⟩
 | .lst _,_,q=>by
  unfold VR at q⊢
  obtain⟨a,o,vs,n,r,f,z1,z2,k⟩:=q
  exact⟨a,o,vs,n,r,h.2 _ _ f,z1,z2,VRe.mono h k⟩
theorem VRe.mono {W W':Wd} (h:W.le W'): ∀{x:List AV} {v:List Value},VRe W x v→VRe W' x v
 | [],_,q=>by unfold VRe at q⊢;exact q
 | _::_,_,q=>by
  unfold VRe at q⊢
  obtain⟨v,r,e,k,ks⟩:=q
  exact⟨v,r,e,VR.mono h k,VRe.mono h ks⟩
end
theorem VRe.length {W:Wd}: ∀{xs:List AV} {vs:List Value},VRe W xs vs→vs.length=xs.length
 | [],_,q=>by unfold VRe at q;subst q;rfl
 | _::_,_,q=>by
  obtain⟨v,r,rfl,_,ks⟩:=q
  simp [VRe.length ks]
theorem VRe.get {W:Wd}: ∀{xs:List AV} {vs:List Value} {i:Nat} {x:AV},VRe W xs vs→xs[i]? =some x→ ∃v,vs[i]? =some v∧VR W x v
 | [],_,i,x,q,e=>by simp at e
 | y::ys,_,i,x,q,e=>by
  obtain⟨v,r,rfl,k,ks⟩:=q
  cases i with
  | zero=>simp at e;subst e;exact⟨v,by simp,k⟩
  | succ i=>simp at e;obtain⟨u,hu,z⟩:=VRe.get ks e;exact⟨u,by simpa using hu,z⟩
theorem VRe.append {W:Wd}: ∀{xs ys:List AV} {vs us:List Value},VRe W xs vs→VRe W ys us→VRe W (xs++ys) (vs++us)
 | [],_,_,_,q,z=>by unfold VRe at q;subst q;exact z
 | _::_,_,_,_,q,z=>by
  obtain⟨v,r,rfl,k,ks⟩:=q
  show VRe W (_::(_++_)) _
  exact⟨v,r++_,rfl,k,VRe.append ks z⟩
theorem VRe.nil {W:Wd}:VRe W [] []:=by unfold VRe;rfl
theorem VRe.cons {W:Wd} {x:AV} {xs:List AV} {v:Value} {vs:List Value} (a:VR W x v) (b:VRe W xs vs):VRe W (x::xs) (v::vs):=by
 unfold VRe;exact⟨v,vs,rfl,a,b⟩
end V
end
section
namespace V
structure Cx where
 prog:Program
 w:World
 K:Frag
 h₀:Heap
 os:OsState
 mg:Str→Option Value
 mb:Str→Option Value
 hx:Option Addr
 lb:Nat
structure Cx.Ok (C:Cx):Prop where
 kin:C.K.In C.h₀
 g:C.h₀.Ns mainGlobals C.mg
 b:C.h₀.Ns builtinsNs C.mb
 boot: ∀x:Str,x≠"__name__"→C.mb x=bootBuiltins x
 nolimit:C.h₀.NoLimit
noncomputable abbrev Cx.M (C:Cx):Model:=model C.prog C.w
noncomputable def DR (C:Cx) (W:Wd):List (Str×AV)→List DictEntry→Prop
 | [],ds=>ds= []
 | (k,x)::r,ds=> ∃t v ds',ds=⟨PyData.keyHash C.w.params k,.str k t,v⟩::ds'∧VR W x v∧DR C W r ds'
noncomputable def SRe (W:Wd):List (Option AV)→List (Option Value)→Prop
 | [],vs=>vs= []
 | none::r,vs=> ∃vs',vs=none::vs'∧SRe W r vs'
 | some x::r,vs=> ∃v vs',vs=some v::vs'∧VR W x v∧SRe W r vs'
noncomputable def ORe (C:Cx) (W:Wd):AO→Obj→Prop
 | .list xs,ob=>ob.cls= .type "list"∧ ∃vs n,ob={cls:= .type "list",data:= .seq (List.toArray vs) n}∧VRe W xs vs
 | .dict es,ob=> ∃ds n,ob={cls:= .type "dict",data:= .dict (List.toArray ds) n}∧DR C W es ds
 | .map es n,ob=> ∃ds,ob={cls:= .type "dict",data:= .dict (List.toArray ds) n}∧DR C W es ds
 | .set xs,ob=>ob.SetObjOf (PySem.strKind C.prog C.w) (fun k=>decide (k∈xs)) xs.length
 | .inst c d,ob=> ∃dx,W.ρ d=some dx∧ob=instObj c dx
 | .slots c d vs,ob=> ∃dx sl,W.ρ d=some dx∧ob={cls:= .ref c,dict:=some dx,data:= .plain,slots:=List.toArray sl}∧SRe W vs sl
 | .junk,_=>True
 | .exc n xs,ob=>(n=="frame")=false∧ob.cls= .type n∧ ∃vs t,ob.data= .fields vs∧vs[0]? =some (.ref t)∧VR W (.tup xs) (.ref t)
 | .iter l i,ob=> ∃a,W.ρ l=some a∧ob={cls:= .type "list_iterator",data:= .fields #[.ref a,.int i 0]}
theorem DR.mono {C:Cx} {W W':Wd} (h:W.le W'): ∀{es:List (Str×AV)} {ds:List DictEntry},DR C W es ds→DR C W' es ds
 | [],_,q=>q
 | (_,_)::_,_,q=>by
  unfold DR at q⊢
  obtain⟨t,v,ds',e,k,ks⟩:=q
  exact⟨t,v,ds',e,VR.mono h k,DR.mono h ks⟩
theorem SRe.mono {W W':Wd} (h:W.le W'): ∀{es:List (Option AV)} {ds:List (Option Value)},SRe W es ds→SRe W' es ds
 | [],_,q=>q
 | none::_,_,q=>by
  unfold SRe at q⊢
  obtain⟨ds',e,ks⟩:=q
  exact⟨ds',e,SRe.mono h ks⟩
 | some _::_,_,q=>by
  unfold SRe at q⊢
  obtain⟨v,ds',e,k,ks⟩:=q
  exact⟨v,ds',e,VR.mono h k,SRe.mono h ks⟩
theorem ORe.mono {C:Cx} {W W':Wd} (h:W.le W') {o:AO} {ob:Obj} (q:ORe C W o ob):ORe C W' o ob:=by
 cases o with
 | list xs=>obtain⟨a,vs,n,b,c⟩:=q;exact⟨a,vs,n,b,c.mono h⟩
 | dict es=>obtain⟨ds,n,e,r⟩:=q;exact⟨ds,n,e,r.mono h⟩
 | map es n=>obtain⟨ds,e,r⟩:=q;exact⟨ds,e,r.mono h⟩
 | set xs=>exact q
 | inst c d=>obtain⟨dx,e,r⟩:=q;exact⟨dx,h.1 _ _ e,r⟩
 | slots c d vs=>obtain⟨dx,sl,ed,e,r⟩:=q;exact⟨dx,sl,h.1 _ _ ed,e,r.mono h⟩
 | junk=>trivial
 | exc n xs=>obtain⟨hn,c,vs,t,d,z,q⟩:=q;exact⟨hn,c,vs,t,d,z,q.mono h⟩
 | iter l i=>obtain⟨a,e,r⟩:=q;exact⟨a,h.1 _ _ e,r⟩
noncomputable abbrev St:=Loc→Option AO
noncomputable def St.set (σ:St) (l:Loc) (o:AO):St:=fun x=>if x=l then some o else σ x
noncomputable def St.del (σ:St) (l:Loc):St:=fun x=>if x=l then none else σ x
noncomputable def Up (o o':Obj):Prop:=o'=o∨(o.cls= .type "frame"∧ ∃sl,o'={o with slots:=sl})
theorem Up.refl (o:Obj):Up o o:= .inl rfl
theorem Up.exact {o o':Obj} (u:Up o o') (h:o.cls≠ .type "frame"):o'=o:=u.elim id fun x=>absurd x.1 h
theorem Up.trans {o o' o'':Obj} (u:Up o o') (v:Up o' o''):Up o o'':=by
 rcases u with rfl | ⟨c,sl,rfl⟩
 ·exact v
 ·rcases v with rfl | ⟨c',sl',rfl⟩
  ·exact .inr ⟨c,sl,rfl⟩
  ·exact .inr ⟨c,sl',rfl⟩
structure Inv (C:Cx) (W:Wd) (σ:St) (s:Shared):Prop where
 dom: ∀l,(W.ρ l).isSome=(σ l).isSome
 inj: ∀l l' a,W.ρ l=some a→W.ρ l'=some a→l=l'
 obj: ∀l a o,W.ρ l=some a→σ l=some o→ ∃ob,s.heap.get? a=some ob∧ORe C W o ob
 apart: ∀l a,W.ρ l=some a→W.fz a=none
 fz: ∀a o,W.fz a=some o→ ∃o',s.heap.get? a=some o'∧Up o o'
 kept: ∀a o,C.h₀.get? a=some o→s.heap.get? a=some o
 base: ∀a o,C.h₀.get? a=some o→W.fz a=some o
 gens:s.gens= #[]
 os:s.os=C.os
 pos:C.lb≤s.toks
 high:(∃o,C.h₀.get? mainGlobals=some o)∧ ∀l a,W.ρ l=some a→2<a
theorem Inv.frozen {C:Cx} {W:Wd} {σ:St} {s:Shared} (I:Inv C W σ s) {a:Addr} {o:Obj} (e:W.fz a=some o) (h:o.cls≠ .type "frame"):s.heap.get? a=some o:=
 let ⟨_,h1,u⟩:=I.fz a o e;u.exact h▸h1
theorem Inv.fOl {C:Cx} {W:Wd} {σ:St} {s:Shared} (I:Inv C W σ s) {a:Addr} (e:W.fz a=none):C.h₀.get? a=none:=by
 cases q:C.h₀.get? a with
 | none=>rfl
 | some o=>rw [I.base a o q]at e;cases e
theorem Inv.at {C:Cx} {W:Wd} {σ:St} {s:Shared} (I:Inv C W σ s) {l:Loc} {o:AO} (e:σ l=some o): ∃a ob,W.ρ l=some a∧s.heap.get? a=some ob∧ORe C W o ob:=by
 have d:=I.dom l
 rw [e]at d
 cases q:W.ρ l with
 | none=>rw [q]at d;cases d
 | some a=>obtain⟨ob,h1,h2⟩:=I.obj l a o q e;exact⟨a,ob,rfl,h1,h2⟩
theorem Inv.same {C:Cx} {W:Wd} {σ:St} {s:Shared} (I:Inv C W σ s) {h:Heap} {t:Nat} {d:Drawn}
  (k: ∀b o,s.heap.get? b=some o→h.get? b=some o) (ht:s.toks≤t:=by first | exact Nat.le_refl _ | assumption | exact Nat.le_succ _ | omega | (dsimp only;omega)):Inv C W σ ⟨h,s.gens,d,t,s.os⟩:=
 ⟨I.dom,I.inj,fun l a o e q=>let ⟨ob,h1,h2⟩:=I.obj l a o e q;⟨ob,k _ _ h1,h2⟩,I.apart,fun a o e=>let ⟨o',h1,u⟩:=I.fz a o e;⟨o',k _ _ h1,u⟩,fun a o e=>k _ _ (I.kept a o e),I.base,I.gens,I.os,Nat.le_trans I.pos ht,I.high⟩
theorem Inv.but {C:Cx} {W:Wd} {σ:St} {s:Shared} (I:Inv C W σ s) {h:Heap} {t:Nat} {d:Drawn} {a:Addr} (n1:W.fz a=none) (n2: ∀l,W.ρ l≠some a)
  (k: ∀b o,b≠a→s.heap.get? b=some o→h.get? b=some o) (ht:s.toks≤t:=by first | exact Nat.le_refl _ | assumption | exact Nat.le_succ _ | omega | (dsimp only;omega)):Inv C W σ ⟨h,s.gens,d,t,s.os⟩:=
 ⟨I.dom,I.inj,fun l x o e q=>let ⟨ob,h1,h2⟩:=I.obj l x o e q;⟨ob,k _ _ (fun z=>n2 l (z▸e)) h1,h2⟩,I.apart,
  fun x o e=>let ⟨o',h1,u⟩:=I.fz x o e;⟨o',k _ _ (fun z=>by rw [z,n1]at e;cases e) h1,u⟩,fun x o e=>k _ _ (fun z=>by rw [z,I.fOl n1]at e;cases e) (I.kept x o e),I.base,I.gens,I.os,Nat.le_trans I.pos ht,I.high⟩
theorem Inv.upd {C:Cx} {W:Wd} {σ:St} {s:Shared} (I:Inv C W σ s) {h:Heap} {t:Nat} {d:Drawn} {l:Loc} {a:Addr} {o':AO} {ob':Obj} (e:W.ρ l=some a)
  (k: ∀b o,b≠a→s.heap.get? b=some o→h.get? b=some o) (g:h.get? a=some ob') (r:ORe C W o' ob') (ht:s.toks≤t:=by first | exact Nat.le_refl _ | assumption | exact Nat.le_succ _ | omega | (dsimp only;omega)):Inv C W (σ.set l o') ⟨h,s.gens,d,t,s.os⟩:=by
 refine⟨fun x=> ?_,I.inj,fun x b o ex q=> ?_,I.apart,fun x o ex=> ?_,fun x o ex=>k _ _ (fun z=>by rw [z,I.fOl (I.apart l a e)]at ex;cases ex) (I.kept x o ex),I.base,I.gens,I.os,Nat.le_trans I.pos ht,I.high⟩
 ·unfold St.set
  split
  ·rename_i z;subst z;rw [e];rfl
  ·exact I.dom x
 ·unfold St.set at q
  split at q
  ·rename_i z;subst z
   cases q
   rw [e]at ex;cases ex
   exact⟨ob',g,r⟩
  ·rename_i z
   obtain⟨ob,h1,h2⟩:=I.obj x b o ex q
   exact⟨ob,k _ _ (fun y=>z (I.inj x l a (y▸ex) e)) h1,h2⟩
 ·obtain⟨o',h1,u⟩:=I.fz x o ex
  exact⟨o',k _ _ (fun z=>by rw [z,I.apart l a e]at ex;cases ex) h1,u⟩
noncomputable def Wd.name (W:Wd) (l:Loc) (a:Addr):Wd:=⟨fun x=>if x=l then some a else W.ρ x,W.fz⟩
noncomputable def Wd.freeze (W:Wd) (a:Addr) (o:Obj):Wd:=⟨W.ρ,fun x=>if x=a then some o else W.fz x⟩
theorem Inv.nY {C:Cx} {W:Wd} {σ:St} {s:Shared} (I:Inv C W σ s):W.fz s.heap.objs.size=none∧ ∀l,W.ρ l≠some s.heap.objs.size:=by
 refine⟨?_,fun l e=> ?_⟩
 ·cases q:W.fz s.heap.objs.size with
  | none=>rfl
  | some o=>obtain⟨o',h1,_⟩:=I.fz _ _ q;exact absurd (Heap.lt_size h1) (Nat.lt_irrefl _)
 ·have d:=I.dom l
  rw [e]at d
  cases q:σ l with
  | none=>rw [q]at d;cases d
  | some o=>obtain⟨ob,h1,_⟩:=I.obj l _ o e q;exact absurd (Heap.lt_size h1) (Nat.lt_irrefl _)
theorem Inv.none_of {C:Cx} {W:Wd} {σ:St} {s:Shared} (I:Inv C W σ s) {l:Loc} (e:σ l=none):W.ρ l=none:=by
 have d:=I.dom l
 rw [e]at d
 cases q:W.ρ l with
 | none=>rfl
 | some a=>rw [q]at d;cases d
theorem Inv.new {C:Cx} {W:Wd} {σ:St} {s:Shared} (I:Inv C W σ s) {h:Heap} {t:Nat} {d:Drawn} {l:Loc} {a:Addr} {o:AO} {ob:Obj} (e:σ l=none) (n1:W.fz a=none) (n2: ∀l,W.ρ l≠some a) (n3:2<a)
  (k: ∀b o,s.heap.get? b=some o→h.get? b=some o) (g:h.get? a=some ob) (r:ORe C (W.name l a) o ob) (ht:s.toks≤t:=by first | exact Nat.le_refl _ | assumption | exact Nat.le_succ _ | omega | (dsimp only;omega)):
  W.le (W.name l a)∧Inv C (W.name l a) (σ.set l o) ⟨h,s.gens,d,t,s.os⟩:=by
 have le:W.le (W.name l a):=⟨fun x b q=>by
  show(if x=l then some a else W.ρ x)=some b
  split
  ·rename_i z;subst z;rw [I.none_of e]at q;cases q
  ·exact q,fun _ _ q=>q⟩
 refine⟨le,fun x=> ?_,fun x y b p q=> ?_,fun x b o' p q=> ?_,fun x b p=> ?_,fun b o' p=>let ⟨o'',h1,u⟩:=I.fz b o' p;⟨o'',k _ _ h1,u⟩,fun b o' p=>k _ _ (I.kept b o' p),I.base,I.gens,I.os,Nat.le_trans I.pos ht,I.high.1,fun x b p=> ?_⟩
 ·show(if x=l then some a else W.ρ x).isSome=(if x=l then some o else σ x).isSome
  split
  ·rfl
  ·exact I.dom x
 ·have p:(if x=l then some a else W.ρ x)=some b:=p
  have q:(if y=l then some a else W.ρ y)=some b:=q
  split at p<;>split at q
  ·rename_i z1 z2;exact z1.trans z2.symm
  ·cases p;exact absurd q (n2 _)
  ·cases q;exact absurd p (n2 _)
  ·exact I.inj _ _ _ p q
 ·have p:(if x=l then some a else W.ρ x)=some b:=p
  have q:(if x=l then some o else σ x)=some o':=q
  split at p
  ·rename_i z;rw [if_pos z]at q;cases p;cases q;exact⟨ob,g,r⟩
  ·rename_i z;rw [if_neg z]at q
   obtain⟨ob',h1,h2⟩:=I.obj x b o' p q
   exact⟨ob',k _ _ h1,h2.mono le⟩
 ·have p:(if x=l then some a else W.ρ x)=some b:=p
  split at p
  ·cases p;exact n1
  ·exact I.apart _ _ p
 ·have p:(if x=l then some a else W.ρ x)=some b:=p
  split at p
  ·cases p;exact n3
  ·exact I.high.2 _ _ p
theorem Inv.big {C:Cx} {W:Wd} {σ:St} {s:Shared} (I:Inv C W σ s):2<s.heap.objs.size:=by
 obtain⟨o,h⟩:=I.high.1
 have:=Heap.lt_size (I.kept _ _ h)
 exact Nat.lt_trans (by decide) this
theorem Inv.nF {C:Cx} {W:Wd} {σ:St} {s:Shared} (I:Inv C W σ s) {h:Heap} {t:Nat} {d:Drawn} {a:Addr} {ob:Obj} (n1:W.fz a=none) (n2: ∀l,W.ρ l≠some a)
  (k: ∀b o,s.heap.get? b=some o→h.get? b=some o) (g:h.get? a=some ob) (ht:s.toks≤t:=by first | exact Nat.le_refl _ | assumption | exact Nat.le_succ _ | omega | (dsimp only;omega)):
  W.le (W.freeze a ob)∧Inv C (W.freeze a ob) σ ⟨h,s.gens,d,t,s.os⟩:=by
 have le:W.le (W.freeze a ob):=⟨fun _ _ q=>q,fun x b q=>by
  show(if x=a then some ob else W.fz x)=some b
  split
  ·rename_i z;subst z;rw [n1]at q;cases q
  ·exact q⟩
 refine⟨le,I.dom,I.inj,fun x b o' p q=> ?_,fun x b p=> ?_,fun b o' p=> ?_,fun b o' p=>k _ _ (I.kept b o' p),fun b o' p=>le.2 _ _ (I.base _ _ p),I.gens,I.os,Nat.le_trans I.pos ht,I.high⟩
 ·obtain⟨ob',h1,h2⟩:=I.obj x b o' p q
  exact⟨ob',k _ _ h1,h2.mono le⟩
 ·show(if b=a then some ob else W.fz b)=none
  split
  ·rename_i z;subst z;exact absurd p (n2 x)
  ·exact I.apart _ _ p
 ·by_cases z:b=a
  ·have q:some ob=some o':=by simpa [Wd.freeze,z]using p
   rw [z,←Option.some.inj q];exact⟨_,g,.refl _⟩
  ·have q:W.fz b=some o':=by simpa [Wd.freeze,z]using p
   obtain⟨o'',h1,u⟩:=I.fz _ _ q
   exact⟨o'',k _ _ h1,u⟩
theorem pke (h:Heap) (o:Obj): ∀b ob,h.get? b=some ob→(h.push o).get? b=some ob:=fun u v e=>Heap.get?_push_of_some o e
theorem uke (h:Heap) (a:Addr) (f:Obj→Obj): ∀b ob,b≠a→h.get? b=some ob→(h.update a f).get? b=some ob:=fun u v n e=>(Heap.get?_update_other h f (Ne.symm n)).trans e
end V
end
section
namespace V
noncomputable def Stk (C:Cx) (W:Wd) (outer:List Env):Prop:=
 ∀env∈outer,env.scope.kind≠ .module∧ ∃L o es n,env.frame=some L∧C.h₀.get? L=none∧W.fz L=some o∧o.cls= .type "frame"∧o.data= .dict es n
theorem Stk.mono {C:Cx} {W W':Wd} {l:List Env} (h:Stk C W l) (le:W.le W'):Stk C W' l:=fun env he=>
 let ⟨k,L,o,es,n,a,b,c,d⟩:=h env he;⟨k,L,o,es,n,a,b,le.2 _ _ c,d⟩
noncomputable def sO (sc:Scope):Bool:=sc.kind== .function && decide (sc.names.map (·.1)).Nodup && sc.names.all fun p=>p.2 != .free && (p.2== .globalImplicit || !(p.1==("__debug__":Str)))
theorem sO.kind {sc:Scope} (h:sO sc=true):sc.kind= .function:=by
 unfold sO at h;simp only [Bool.and_eq_true,beq_iff_eq]at h;exact h.1.1
theorem sO.nodup {sc:Scope} (h:sO sc=true):(sc.names.map (·.1)).Nodup:=by
 unfold sO at h;simp only [Bool.and_eq_true,decide_eq_true_eq]at h;exact h.1.2
theorem sO.all {sc:Scope} (h:sO sc=true): ∀p∈sc.names,p.2≠ .free∧(p.2≠ .globalImplicit→(p.1==("__debug__":Str))=false):=by
 unfold sO at h
 simp only [Bool.and_eq_true]at h
 intro p hp
 have:=List.all_eq_true.mp h.2 p hp
 simp only [Bool.and_eq_true,bne_iff_ne,ne_eq,Bool.or_eq_true,beq_iff_eq,Bool.not_eq_true']at this
 exact⟨this.1,fun n=>this.2.resolve_left n⟩
theorem lon {α:Type}: ∀{l:List (Str×α)} {i:Nat} {x:Str} {k:α},(l.map (·.1)).Nodup→l[i]? =some (x,k)→l.lookup x=some k
 | [],i,_,_,_,e=>by simp at e
 | (y,k')::r,i,x,k,h,e=>by
  rw [List.map_cons,List.nodup_cons]at h
  cases i with
  | zero=>simp at e;obtain⟨rfl,rfl⟩:=e;simp [List.lookup_cons]
  | succ i=>
   simp at e
   have hx:x∈r.map (·.1):=List.mem_map.mpr ⟨(x,k),List.mem_of_getElem? e,rfl⟩
   have ne:(x==y)=false:=by
    rw [beq_eq_false_iff_ne];intro q;subst q;exact h.1 hx
   rw [List.lookup_cons,ne]
   exact lon h.2 e
structure FRe (C:Cx) (sc:Scope) (A:Around) (W:Wd) (env:Env) (ms:List (Option AV)) (h:Heap):Prop where
 scope:env.scope=sc
 globals:env.globals=mainGlobals
 builtins:env.builtins=builtinsNs
 ok:sO sc=true
 ns: ∃mr,h.Ns env.locals mr∧ ∀(i:Nat) (x:Str) (v:AV),sc.names[i]? =some (x,NameKind.local)→ms[i]? =some (some v)→ ∃r,mr x=some r∧VR W v r
 cells: ∀(i:Nat) (x:Str),sc.names[i]? =some (x,NameKind.cell)→ ∃a ov,env.cells.lookup x=some a∧h.IsCell a ov∧ ∀v,ms[i]? =some (some v)→ ∃r,ov=some r∧VR W v r
 apL:W.fz env.locals=none∧ ∀l,W.ρ l≠some env.locals
 apC: ∀x a,(x,a)∈env.cells→W.fz a=none∧(∀l,W.ρ l≠some a)∧a≠env.locals∧ ∃ov o,h.get? a=some o∧o.data= .cell ov∧o.cls= .type "cell"
 injC: ∀x y a,(x,a)∈env.cells→(y,a)∈env.cells→x=y
 clsL: ∃o es n,h.get? env.locals=some o∧((o.cls= .type "frame"∧env.frame=some env.locals)∨o.cls= .type "dict")∧o.data= .dict es n
 stk: ∃fenv rest L,A.frames=some (fenv::rest)∧Stk C W rest∧fenv.scope.kind≠ .module∧fenv.frame=some L∧env.frame=some L∧C.h₀.get? L=none∧
  ((L=env.locals∧ ∃o es n,h.get? L=some o∧o.cls= .type "frame"∧o.data= .dict es n)∨(∃o es n,W.fz L=some o∧o.cls= .type "frame"∧o.data= .dict es n))
noncomputable def HOk (C:Cx) (A:Around):Prop:=C.hx=none→A.handled=none
noncomputable def Ro (C:Cx) (A:Around) (k:Nat):Prop:=A.depth+2 * k+2<recursionLimit∧A.units+10 * k+10<cLine∧HOk C A
theorem Ro.depth {C:Cx} {A:Around} {k:Nat} (h:Ro C A k):A.depth<recursionLimit:=by have:=h.1;omega
theorem Ro.units {C:Cx} {A:Around} {k:Nat} (h:Ro C A k):A.units<cLine:=by have:=h.2.1;omega
theorem Ro.none {C:Cx} {A:Around} {k:Nat} (h:Ro C A k) (h0:C.hx=none):A.handled= .none:=h.2.2 h0
theorem Ro.in1 {C:Cx} {A:Around} {k:Nat} (h:Ro C A (k+1)):Ro C A.in1 k:=⟨by have:=h.1;simp only [Around.in1_depth];omega,by have:=h.2.1;simp only [Around.in1_units];omega,h.2.2⟩
theorem Ro.deeper {C:Cx} {A:Around} {k:Nat} {env:Env} (h:Ro C A (k+1)):Ro C (A.deeper env) k:=⟨by have:=h.1;show A.depth+1+2 * k+2<_;omega,by have:=h.2.1;show A.units+3+10 * k+10<_;omega,h.2.2⟩
noncomputable abbrev No:Value→Shared→Prop:=fun _ _=>False
structure At (C:Cx) (sc:Scope) (A:Around) (W:Wd) (env:Env) (ms:List (Option AV)) (σ:St) (s:Shared):Prop where
 inv:Inv C W σ s
 fr:FRe C sc A W env ms s.heap
noncomputable def Pa {α:Type} (C:Cx) (sc:Scope) (A:Around) (W:Wd) (env:Env) (ms:List (Option AV)) (σ:St) (R:Wd→α→Prop) (r:α) (s:Shared):Prop:=
 ∃W',W.le W'∧At C sc A W' env ms σ s∧R W' r
noncomputable def Tr {α:Type} (C:Cx) (k:Nat) (sc:Scope) (ms:List (Option AV)) (σ:St) (t:Env→Sem α) (R:Wd→α→Prop) (ms':List (Option AV)) (σ':St):Prop:=
 ∀A W env s,Ro C A k→At C sc A W env ms σ s→wpAny C.M A (t env) (Pa C sc A W env ms' σ' R) No s
noncomputable def Op {α:Type} (C:Cx) (k:Nat) (W:Wd) (σ:St) (t:Sem α) (R:Wd→α→Prop) (σ':St):Prop:=
 ∀A s outer,Ro C A k→A.frames=some outer→Stk C W outer→Inv C W σ s→wpAny C.M A t (fun r s'=> ∃W',W.le W'∧Inv C W' σ' s'∧R W' r) No s
noncomputable def aside (W:Wd) (env:Env) (h:Heap):Wd:=⟨W.ρ,fun a=>if a=env.locals∨a∈env.cells.map (·.2)then h.get? a else W.fz a⟩
noncomputable def Jk (o:Obj):Prop:= ∀n,o.cls= .type n→(["tuple","list","method-wrapper","method","slice","range","dict_items","dict_values","dict_keys"]:List String).contains n=false
theorem Jk.ne {o:Obj} {n:String} (h:Jk o) (z:o.cls= .type n) (h1:(["tuple","list","method-wrapper","method","slice","range","dict_items","dict_values","dict_keys"]:List String).contains n=true):False:=by
 have:=h n z
 rw [h1]at this;cases this
theorem fj {n:String} (h:fzc n=true):(["tuple","list","method-wrapper","method","slice","range","dict_items","dict_values","dict_keys"]:List String).contains n=true:=by
 unfold fzc at h
 simp only [List.contains_cons,Bool.or_eq_true]at h⊢
 exact .inr (.inr (.inr (.inr (.inr h))))
open Classical in
noncomputable def Wd.minus (W:Wd) (X:Addr→Prop):Wd:=⟨W.ρ,fun a=>if X a then none else W.fz a⟩
theorem Wd.mii {W:Wd} {X:Addr→Prop} {a:Addr} (h:X a):(W.minus X).fz a=none:=by
 unfold Wd.minus;exact if_pos h
theorem Wd.mou {W:Wd} {X:Addr→Prop} {a:Addr} (h: ¬X a):(W.minus X).fz a=W.fz a:=by
 unfold Wd.minus;exact if_neg h
theorem Wd.mof {W:Wd} {X:Addr→Prop} {a:Addr} {o:Obj} (e:(W.minus X).fz a=some o): ¬X a∧W.fz a=some o:=by
 by_cases h:X a
 ·rw [Wd.mii h]at e;cases e
 ·rw [Wd.mou h]at e;exact⟨h,e⟩
noncomputable abbrev Own (env:Env) (a:Addr):Prop:=a=env.locals∨a∈env.cells.map (·.2)
noncomputable abbrev taken (W:Wd) (env:Env):Wd:=W.minus (Own env)
section
variable {C:Cx} {sc:Scope} {A:Around} {W:Wd} {env:Env} {ms:List (Option AV)} {σ σ':St} {s s':Shared}
noncomputable def FCl (o:Obj):Prop:=o.cls= .type "frame"∨o.cls= .type "dict"∨o.cls= .type "cell"
theorem FCl.jk {o:Obj} (h:FCl o):Jk o:=fun n z=>by
 rcases h with h | h | h<;>rw [h]at z<;>cases Value.type.inj z<;>decide
theorem FRe.own {h:Heap} (F:FRe C sc A W env ms h) {a:Addr} (q:a=env.locals∨a∈env.cells.map (·.2)):W.fz a=none∧(∀l,W.ρ l≠some a)∧ ∃o,h.get? a=some o∧FCl o:=by
 rcases q with rfl | q
 ·obtain⟨o,_,_,h1,h2,_⟩:=F.clsL
  exact⟨F.apL.1,F.apL.2,o,h1,h2.elim (fun z=> .inl z.1) fun z=> .inr (.inl z)⟩
 ·obtain⟨⟨x,b⟩,hm,rfl⟩:=List.mem_map.mp q
  obtain⟨h1,h2,_,ov,o,h3,h4,h5⟩:=F.apC x b hm
  exact⟨h1,h2,o,h3,.inr (.inr h5)⟩
theorem ale {h:Heap} (F:FRe C sc A W env ms h):W.le (aside W env h):=⟨fun _ _ e=>e,fun a o e=>by
 show(if a=env.locals∨a∈env.cells.map (·.2)then h.get? a else W.fz a)=some o
 split
 ·rename_i q;rw [(F.own q).1]at e;cases e
 ·exact e⟩
theorem ain (I:Inv C W σ s) (F:FRe C sc A W env ms s.heap):Inv C (aside W env s.heap) σ s:=by
 have le:=ale F
 refine⟨I.dom,I.inj,fun l a o e q=>let ⟨ob,h1,h2⟩:=I.obj l a o e q;⟨ob,h1,h2.mono le⟩,fun l a e=> ?_,fun a o e=> ?_,I.kept,fun a o e=>le.2 _ _ (I.base a o e),I.gens,I.os,I.pos,I.high⟩
 ·show(if a=env.locals∨a∈env.cells.map (·.2)then s.heap.get? a else W.fz a)=none
  split
  ·rename_i q;exact absurd e ((F.own q).2.1 l)
  ·exact I.apart l a e
 ·have e:(if a=env.locals∨a∈env.cells.map (·.2)then s.heap.get? a else W.fz a)=some o:=e
  split at e
  ·exact⟨o,e,.refl _⟩
  ·exact I.fz a o e
theorem ass (F:FRe C sc A W env ms s.heap): ∃outer,A.frames=some outer∧Stk C (aside W env s.heap) outer:=by
 obtain⟨fenv,rest,L,h1,h2,h3,h4,h5,h6,h7⟩:=F.stk
 refine⟨_,h1,fun e he=> ?_⟩
 rcases List.mem_cons.mp he with rfl | he
 ·refine⟨h3,L,?_⟩
  rcases h7 with⟨rfl,o,es,n,a,b,c⟩ | ⟨o,es,n,a,b,c⟩
  ·refine⟨o,es,n,h4,h6,?_,b,c⟩
   show(if _ then _ else _)=_
   rw [if_pos (.inl rfl)];exact a
  ·exact⟨o,es,n,h4,h6,(ale F).2 _ _ a,b,c⟩
 ·exact(h2.mono (ale F)) e he
mutual
theorem VR.taken {W':Wd} {X:Addr→Prop} (hc: ∀a o,X a→W'.fz a=some o→Jk o):
  ∀{x:AV} {v:Value},VR W' x v→VR (W'.minus X) x v
 | .none,_,q=>q
 | .any,_,_=>by unfold VR;trivial
 | .bool _,_,q=>by unfold VR at q⊢;exact q
 | .int _,_,q=>by unfold VR at q⊢;exact q
 | .str _,_,q=>by unfold VR at q⊢;exact q
 | .bytes _,_,q=>by unfold VR at q⊢;exact q
 | .ty _,_,q=>by unfold VR at q⊢;exact q
 | .bi _,_,q=>by unfold VR at q⊢;exact q
 | .ext _,_,q=>by unfold VR at q⊢;exact q
 | .loc _,_,q=>by unfold VR at q⊢;exact q
 | .mw _ _,_,q=>by
  unfold VR at q⊢
  obtain⟨a,b,o,e,r,f,z,y⟩:=q
  refine⟨a,b,o,e,r,?_,z,y⟩
  rw [Wd.mou fun w=>(hc b o w f).ne z (by decide)];exact f
 | .bm _ _,_,q=>by
  unfold VR at q⊢
  obtain⟨a,b,o,e,r,f,z,y⟩:=q
  refine⟨a,b,o,e,r,?_,z,y⟩
  rw [Wd.mou fun w=>(hc b o w f).ne z (by decide)];exact f
 | .slc _ _ _,_,q=>by
  unfold VR at q⊢
  obtain⟨b,o,vx,vy,vz,r,f,z,y,k1,k2,k3⟩:=q
  refine⟨b,o,vx,vy,vz,r,?_,z,y,VR.taken hc k1,VR.taken hc k2,VR.taken hc k3⟩
  rw [Wd.mou fun w=>(hc b o w f).ne z (by decide)];exact f
 | .fld n _,_,q=>by
  unfold VR at q⊢
  obtain⟨c,b,o,vs,r,f,z,k⟩:=q
  refine⟨c,b,o,vs,r,?_,z,VRe.taken hc k⟩
  rw [Wd.mou fun w=>(hc b o w f).ne (by rw [z]) (fj c)];exact f
 | .tup _,_,q=>by
  unfold VR at q⊢
  obtain⟨a,o,vs,n,r,f,z1,z2,k⟩:=q
  refine⟨a,o,vs,n,r,?_,z1,z2,VRe.taken hc k⟩
  rw [Wd.mou fun w=>(hc a o w f).ne z1 (by decide)];exact f
 | .lst _,_,q=>by
  unfold VR at q⊢
  obtain⟨a,o,vs,n,r,f,z1,z2,k⟩:=q
  refine⟨a,o,vs,n,r,?_,z1,z2,VRe.taken hc k⟩
  rw [Wd.mou fun w=>(hc a o w f).ne z1 (by decide)];exact f
theorem VRe.taken {W':Wd} {X:Addr→Prop} (hc: ∀a o,X a→W'.fz a=some o→Jk o):
  ∀{x:List AV} {v:List Value},VRe W' x v→VRe (W'.minus X) x v
 | [],_,q=>by unfold VRe at q⊢;exact q
 | _::_,_,q=>by
  unfold VRe at q⊢
  obtain⟨v,r,e,k,ks⟩:=q
  exact⟨v,r,e,VR.taken hc k,VRe.taken hc ks⟩
end
theorem DR.taken {W':Wd} {X:Addr→Prop} (hc: ∀a o,X a→W'.fz a=some o→Jk o):
  ∀{es:List (Str×AV)} {ds:List DictEntry},DR C W' es ds→DR C (W'.minus X) es ds
 | [],_,q=>q
 | (_,_)::_,_,q=>by
  unfold DR at q⊢
  obtain⟨t,v,ds',e,k,ks⟩:=q
  exact⟨t,v,ds',e,VR.taken hc k,DR.taken hc ks⟩
theorem SRe.taken {W':Wd} {X:Addr→Prop} (hc: ∀a o,X a→W'.fz a=some o→Jk o):
  ∀{es:List (Option AV)} {ds:List (Option Value)},SRe W' es ds→SRe (W'.minus X) es ds
 | [],_,q=>q
 | none::_,_,q=>by
  unfold SRe at q⊢
  obtain⟨ds',e,ks⟩:=q
  exact⟨ds',e,SRe.taken hc ks⟩
 | some _::_,_,q=>by
  unfold SRe at q⊢
  obtain⟨v,ds',e,k,ks⟩:=q
  exact⟨v,ds',e,VR.taken hc k,SRe.taken hc ks⟩
theorem ORe.taken {W':Wd} {X:Addr→Prop} (hc: ∀a o,X a→W'.fz a=some o→Jk o)
  {o:AO} {ob:Obj} (q:ORe C W' o ob):ORe C (W'.minus X) o ob:=by
 cases o with
 | list xs=>obtain⟨a,vs,n,b,c⟩:=q;exact⟨a,vs,n,b,c.taken hc⟩
 | dict es=>obtain⟨ds,n,e,r⟩:=q;exact⟨ds,n,e,r.taken hc⟩
 | map es n=>obtain⟨ds,e,r⟩:=q;exact⟨ds,e,r.taken hc⟩
 | set xs=>exact q
 | inst c d=>obtain⟨dx,e,r⟩:=q;exact⟨dx,e,r⟩
 | slots c d vs=>obtain⟨dx,sl,ed,e,r⟩:=q;exact⟨dx,sl,ed,e,r.taken hc⟩
 | junk=>trivial
 | exc n xs=>obtain⟨hn,c,vs,t,d,z,q⟩:=q;exact⟨hn,c,vs,t,d,z,q.taken hc⟩
 | iter l i=>obtain⟨a,e,r⟩:=q;exact⟨a,e,r⟩
theorem Up.data {o o':Obj} (u:Up o o'):o'.data=o.data:=by rcases u with rfl | ⟨_,_,rfl⟩<;>rfl
theorem Up.cls {o o':Obj} (u:Up o o'):o'.cls=o.cls:=by rcases u with rfl | ⟨_,_,rfl⟩<;>rfl
theorem FRe.back {W':Wd} (I:Inv C W σ s) (F:FRe C sc A W env ms s.heap) (le:(aside W env s.heap).le W') (I':Inv C W' σ' s'):
  W.le (taken W' env)∧Inv C (taken W' env) σ' s'∧FRe C sc A (taken W' env) env ms s'.heap∧(∀{v:AV} {r:Value},VR W' v r→VR (taken W' env) v r)∧(∀{v:List AV} {r:List Value},VRe W' v r→VRe (taken W' env) v r):=by
 have own: ∀a,(a=env.locals∨a∈env.cells.map (·.2))→ ∃o,s.heap.get? a=some o∧W'.fz a=some o∧FCl o:=fun a q=>by
  obtain⟨_,_,o,h1,h2⟩:=F.own q
  refine⟨o,h1,le.2 _ _ ?_,h2⟩
  show(if _ then _ else _)=_
  rw [if_pos q];exact h1
 have hc: ∀a o,(a=env.locals∨a∈env.cells.map (·.2))→W'.fz a=some o→Jk o:=fun a o q e=>by
  obtain⟨o',_,h2,h3⟩:=own a q
  rw [h2]at e;obtain rfl:=Option.some.inj e;exact h3.jk
 have heap: ∀a o,(a=env.locals∨a∈env.cells.map (·.2))→s.heap.get? a=some o→ ∃o',s'.heap.get? a=some o'∧Up o o':=fun a o q e=>by
  obtain⟨o',h1,h2,_⟩:=own a q
  rw [h1]at e;obtain rfl:=Option.some.inj e
  exact I'.fz a _ h2
 have tk: ∀a o,¬(a=env.locals∨a∈env.cells.map (·.2))→W'.fz a=some o→(taken W' env).fz a=some o:=fun a o q e=>by
  rw [Wd.mou q];exact e
 have le2:W.le (taken W' env):=⟨fun l a e=>le.1 l a e,fun a o e=>tk a o (fun q=>by rw [(F.own q).1]at e;cases e) (le.2 _ _ ((ale F).2 _ _ e))⟩
 have vr: ∀{v:AV} {r:Value},VR W' v r→VR (taken W' env) v r:=fun q=>q.taken hc
 refine⟨le2,⟨I'.dom,I'.inj,fun l a o e q=>let ⟨ob,h1,h2⟩:=I'.obj l a o e q;⟨ob,h1,h2.taken hc⟩,fun l a e=> ?_,fun a o e=>I'.fz a o (Wd.mof e).2,I'.kept,fun a o e=>le2.2 _ _ (I.base a o e),I'.gens,I'.os,I'.pos,I'.high⟩,?_,vr,fun q=>q.taken hc⟩
 ·by_cases q:Own env a
  ·exact Wd.mii q
  ·rw [Wd.mou q];exact I'.apart l a e
 ·obtain⟨mr,hn,hv⟩:=F.ns
  have hρ: ∀a,(a=env.locals∨a∈env.cells.map (·.2))→ ∀l,W'.ρ l≠some a:=fun a q l e=>by
   obtain⟨o,_,h2,_⟩:=own a q
   rw [I'.apart l a e]at h2;cases h2
  have mem: ∀x a,(x,a)∈env.cells→(a=env.locals∨a∈env.cells.map (·.2)):=fun x a h=> .inr (List.mem_map.mpr ⟨(x,a),h,rfl⟩)
  refine⟨F.scope,F.globals,F.builtins,F.ok,⟨mr,?_,fun i x v h1 h2=>let ⟨r,e,q⟩:=hv i x v h1 h2;⟨r,e,q.mono le2⟩⟩,fun i x hx=> ?_,⟨?_,fun l=>hρ _ (.inl rfl) l⟩,fun x a hx=> ?_,F.injC,?_,?_⟩
  ·obtain⟨o,es,ep,ho,hd,hk,hm⟩:=hn
   obtain⟨o',ho',u⟩:=heap _ o (.inl rfl) ho
   exact⟨o',es,ep,ho',u.data▸hd,hk,hm⟩
  ·obtain⟨a,ov,h1,⟨o,ho,hd⟩,h3⟩:=F.cells i x hx
   obtain⟨o',ho',u⟩:=heap a o (mem x a (mem_of_lookup h1)) ho
   exact⟨a,ov,h1,⟨o',ho',u.data▸hd⟩,fun v hv=>let ⟨r,e,q⟩:=h3 v hv;⟨r,e,q.mono le2⟩⟩
  ·exact Wd.mii (.inl rfl)
  ·obtain⟨h1,h2,h3,ov,o,ho,hd,hcl⟩:=F.apC x a hx
   obtain⟨o',ho',u⟩:=heap a o (mem x a hx) ho
   exact⟨Wd.mii (mem x a hx),hρ _ (mem x a hx),h3,ov,o',ho',u.data▸hd,u.cls▸hcl⟩
  ·obtain⟨o,es,n,ho,hc1,hd⟩:=F.clsL
   obtain⟨o',ho',u⟩:=heap _ o (.inl rfl) ho
   exact⟨o',es,n,ho',u.cls▸hc1,u.data▸hd⟩
  ·obtain⟨fenv,rest,L,h1,h2,h3,h4,h5,h6,h7⟩:=F.stk
   refine⟨fenv,rest,L,h1,h2.mono le2,h3,h4,h5,h6,?_⟩
   rcases h7 with⟨rfl,o,es,n,ho,hc1,hd⟩ | ⟨o,es,n,ho,hc1,hd⟩
   ·obtain⟨o',ho',u⟩:=heap _ o (.inl rfl) ho
    exact .inl ⟨rfl,o',es,n,ho',u.cls▸hc1,u.data▸hd⟩
   ·exact .inr ⟨o,es,n,le2.2 _ _ ho,hc1,hd⟩
theorem Inv.minus {X:Addr→Prop} (I:Inv C W σ s) (hc: ∀a o,X a→W.fz a=some o→Jk o) (hb: ∀a,X a→C.h₀.get? a=none):Inv C (W.minus X) σ s:=by
 refine⟨I.dom,I.inj,fun l a o e q=>let ⟨ob,h1,h2⟩:=I.obj l a o e q;⟨ob,h1,h2.taken hc⟩,fun l a e=> ?_,fun a o e=>I.fz a o (Wd.mof e).2,I.kept,fun a o e=> ?_,I.gens,I.os,I.pos,I.high⟩
 ·by_cases q:X a
  ·exact Wd.mii q
  ·rw [Wd.mou q];exact I.apart l a e
 ·rw [Wd.mou fun q=>by rw [hb a q]at e;cases e];exact I.base a o e
theorem At.freeze {it:Addr} {ob:Obj} (H:At C sc A W env ms σ s) (g:s.heap.get? it=some ob) (n1:W.fz it=none) (n2: ∀l,W.ρ l≠some it) (n3: ¬Own env it):W.le (W.freeze it ob)∧At C sc A (W.freeze it ob) env ms σ s:=by
 obtain⟨le,I⟩:=H.inv.nF (h:=s.heap) (t:=s.toks) (d:=s.drawn) n1 n2 (fun u w e=>e) g
 refine⟨le,I,?_⟩
 have F:=H.fr
 obtain⟨mr,hn,hv⟩:=F.ns
 have fz: ∀a,a≠it→(W.freeze it ob).fz a=W.fz a:=fun a n=>by
  show(if a=it then some ob else W.fz a)=_
  exact if_neg n
 refine⟨F.scope,F.globals,F.builtins,F.ok,⟨mr,hn,fun i x v h1 h2=>let ⟨r,e,q⟩:=hv i x v h1 h2;⟨r,e,q.mono le⟩⟩,fun i x hx=> ?_,⟨?_,F.apL.2⟩,fun x a hx=> ?_,F.injC,F.clsL,?_⟩
 ·obtain⟨a,ov,h1,h2,h3⟩:=F.cells i x hx
  exact⟨a,ov,h1,h2,fun v hv=>let ⟨r,e,q⟩:=h3 v hv;⟨r,e,q.mono le⟩⟩
 ·rw [fz _ fun z=>n3 (.inl z.symm)];exact F.apL.1
 ·obtain⟨h1,h2⟩:=F.apC x a hx
  refine⟨?_,h2⟩
  rw [fz _ fun z=>n3 (.inr (z▸List.mem_map.mpr ⟨(x,a),hx,rfl⟩))];exact h1
 ·obtain⟨fenv,rest,L,h1,h2,h3,h4,h5,h6,h7⟩:=F.stk
  refine⟨fenv,rest,L,h1,h2.mono le,h3,h4,h5,h6,?_⟩
  rcases h7 with z | ⟨o,es,n,z⟩
  ·exact .inl z
  ·exact .inr ⟨o,es,n,le.2 _ _ z.1,z.2⟩
theorem At.thaw {it:Addr} {ob:Obj} (H:At C sc A W env ms σ s) (g:W.fz it=some ob) (hj:Jk ob) (hf:ob.cls≠ .type "frame") (hb:C.h₀.get? it=none):
  At C sc A (W.minus (· =it)) env ms σ s∧ ∃ob',s.heap.get? it=some ob∧ob'=ob:=by
 have hc: ∀a o,a=it→W.fz a=some o→Jk o:=fun a o e q=>by
  subst e;rw [g]at q;cases q;exact hj
 refine⟨⟨H.inv.minus hc (fun a e=>e▸hb),?_⟩,ob,H.inv.frozen g hf,rfl⟩
 have F:=H.fr
 obtain⟨mr,hn,hv⟩:=F.ns
 have out: ∀a,W.fz a=none→(W.minus (· =it)).fz a=none:=fun a e=>by
  by_cases q:a=it
  ·exact Wd.mii (X:=(· =it)) q
  ·rw [Wd.mou (X:=(· =it)) q];exact e
 have stays: ∀L o,W.fz L=some o→o.cls= .type "frame"→(W.minus (· =it)).fz L=some o:=fun L o e c=>by
  rw [Wd.mou (X:=(· =it)) fun z=>by
   have z:L=it:=z
   subst z;rw [g]at e;cases e;exact hf c]
  exact e
 refine⟨F.scope,F.globals,F.builtins,F.ok,⟨mr,hn,fun i x v h1 h2=>let ⟨r,e,q⟩:=hv i x v h1 h2;⟨r,e,q.taken hc⟩⟩,fun i x hx=> ?_,⟨out _ F.apL.1,F.apL.2⟩,fun x a hx=> ?_,F.injC,F.clsL,?_⟩
 ·obtain⟨a,ov,h1,h2,h3⟩:=F.cells i x hx
  exact⟨a,ov,h1,h2,fun v hv=>let ⟨r,e,q⟩:=h3 v hv;⟨r,e,q.taken hc⟩⟩
 ·obtain⟨h1,h2⟩:=F.apC x a hx
  exact⟨out _ h1,h2⟩
 ·obtain⟨fenv,rest,L,h1,h2,h3,h4,h5,h6,h7⟩:=F.stk
  refine⟨fenv,rest,L,h1,fun e he=> ?_,h3,h4,h5,h6,?_⟩
  ·obtain⟨k1,L',o,es,n,k2,k3,k4,k5,k6⟩:=h2 e he
   exact⟨k1,L',o,es,n,k2,k3,stays _ _ k4 k5,k5,k6⟩
  ·rcases h7 with z | ⟨o,es,n,z1,z2,z3⟩
   ·exact .inl z
   ·exact .inr ⟨o,es,n,stays _ _ z1 z2,z2,z3⟩
theorem Op.in {α:Type} {k:Nat} {t:Sem α} {R:Wd→α→Prop} {R':α→Shared→Prop} {X:Wd} (hX:X=aside W env s.heap) (h:Op C k X σ t R σ') (hr:Ro C A k) (H:At C sc A W env ms σ s)
  (q: ∀W' r s',W.le (taken W' env)→At C sc A (taken W' env) env ms σ' s'→R W' r→(∀{v:AV} {r:Value},VR W' v r→VR (taken W' env) v r)→(∀{v:List AV} {r:List Value},VRe W' v r→VRe (taken W' env) v r)→R' r s'):wpAny C.M A t R' No s:=by
 subst hX
 obtain⟨outer,ho,hs⟩:=ass H.fr
 refine wpAny_mono (h A s outer hr ho hs (ain H.inv H.fr)) (fun r s' ⟨W',le,I',hR⟩=> ?_) fun u w h=>h
 obtain⟨l2,I2,F2,v1,v2⟩:=FRe.back H.inv H.fr le I'
 exact q W' r s' l2 ⟨I2,F2⟩ hR v1 v2
end
end V
end
section
namespace V
section
variable {C:Cx} {k:Nat} {sc:Scope} {A:Around} {W:Wd} {env:Env} {ms ms₁ ms₂ ms':List (Option AV)} {σ σ₁ σ₂ σ':St} {s:Shared}
theorem pg {α:Type} {t:Sem α} {R:Wd→α→Prop} {Q:α→Shared→Prop} (h:wpAny C.M A t (Pa C sc A W env ms₁ σ₁ R) No s)
  (g: ∀W₁ r s₁,W.le W₁→At C sc A W₁ env ms₁ σ₁ s₁→R W₁ r→Q r s₁):wpAny C.M A t Q No s:=
 wpAny_mono h (fun r s₁ ⟨W₁,le,H,q⟩=>g W₁ r s₁ le H q) fun u v x=>x
theorem pbi {α β:Type} {t:Sem α} {f:α→Sem β} {R:Wd→α→Prop} {Q:β→Shared→Prop} (h:wpAny C.M A t (Pa C sc A W env ms₁ σ₁ R) No s)
  (g: ∀W₁ r s₁,W.le W₁→At C sc A W₁ env ms₁ σ₁ s₁→R W₁ r→wpAny C.M A (f r) Q No s₁):wpAny C.M A (t>>=f) Q No s:=
 wpAny_bind (pg h g)
theorem ph {α:Type} {R:Wd→α→Prop} {r:α} {W':Wd} (le:W.le W') (H:At C sc A W' env ms' σ' s) (q:R W' r):Pa C sc A W env ms' σ' R r s:=⟨W',le,H,q⟩
theorem At.tok (H:At C sc A W env ms σ s) (t:Nat) (ht:s.toks≤t:=by first | exact Nat.le_refl _ | assumption | exact Nat.le_succ _ | omega | (dsimp only;omega)):At C sc A W env ms σ {s with toks:=t}:=⟨H.inv.same (fun u v e=>e) ht,H.fr⟩
noncomputable def Ev (C:Cx) (k:Nat) (sc:Scope) (ms:List (Option AV)) (σ:St) (e:Expr) (v:AV) (ms':List (Option AV)) (σ':St):Prop:=
 Tr C k sc ms σ (eval e) (fun W r=>VR W v r) ms' σ'
noncomputable def Tv (C:Cx) (k:Nat) (sc:Scope) (ms:List (Option AV)) (σ:St) (e:Expr) (b:Bool) (ms':List (Option AV)) (σ':St):Prop:=
 Tr C k sc ms σ (fun env=>isTrue e env (eval e env)) (fun _ r=>r=b) ms' σ'
noncomputable def Es (C:Cx) (k:Nat) (sc:Scope) (ms:List (Option AV)) (σ:St) (pos:Pos) (es:List Expr) (vs:List AV) (ms':List (Option AV)) (σ':St):Prop:=
 Tr C k sc ms σ (fun env=>spliced (backTo pos (starEach es env))) (fun W r=>VRe W vs r) ms' σ'
inductive AF where
 | next | brk | cont
 | ret (v:AV)
noncomputable def Fl (W:Wd):AF→Flow→Prop
 | .next,f=>f= .next
 | .brk,f=>f= .brk
 | .cont,f=>f= .cont
 | .ret v,f=> ∃r,f= .ret r∧VR W v r
noncomputable def Ex (C:Cx) (k:Nat) (sc:Scope) (ms:List (Option AV)) (σ:St) (ss:List Stmt) (f:AF) (ms':List (Option AV)) (σ':St):Prop:=
 Tr C k sc ms σ (fun env=>execs ss env) (fun W r=>Fl W f r) ms' σ'
noncomputable def X1 (C:Cx) (k:Nat) (sc:Scope) (ms:List (Option AV)) (σ:St) (st:Stmt) (f:AF) (ms':List (Option AV)) (σ':St):Prop:=
 Tr C k sc ms σ (fun env=>exec st env) (fun W r=>Fl W f r) ms' σ'
noncomputable def As (C:Cx) (k:Nat) (sc:Scope) (ms:List (Option AV)) (σ:St) (t:Expr) (v:AV) (ms':List (Option AV)) (σ':St):Prop:=
 ∀A W env s r,Ro C A k→At C sc A W env ms σ s→VR W v r→wpAny C.M A (assign t env r) (Pa C sc A W env ms' σ' fun _ _=>True) No s
noncomputable def Op1 {α:Type} (C:Cx) (k:Nat) (σ:St) (f:Value→Sem α) (a:AV) (R:Wd→α→Prop) (σ':St):Prop:=
 ∀W ra,VR W a ra→Op C k W σ (f ra) R σ'
noncomputable def Op2 {α:Type} (C:Cx) (k:Nat) (σ:St) (f:Value→Value→Sem α) (a b:AV) (R:Wd→α→Prop) (σ':St):Prop:=
 ∀W ra rb,VR W a ra→VR W b rb→Op C k W σ (f ra rb) R σ'
noncomputable def Op3 {α:Type} (C:Cx) (k:Nat) (σ:St) (f:Value→Value→Value→Sem α) (a b c:AV) (R:Wd→α→Prop) (σ':St):Prop:=
 ∀W ra rb rc,VR W a ra→VR W b rb→VR W c rc→Op C k W σ (f ra rb rc) R σ'
noncomputable def KR (W:Wd):List (Str×AV)→List (Str×Value)→Prop
 | [],ks=>ks= []
 | (n,x)::r,ks=> ∃v ks',ks=(n,v)::ks'∧VR W x v∧KR W r ks'
theorem KR.mono {W W':Wd} (h:W.le W'): ∀{xs:List (Str×AV)} {vs:List (Str×Value)},KR W xs vs→KR W' xs vs
 | [],_,q=>q
 | (_,_)::_,_,q=>by
  unfold KR at q⊢
  obtain⟨v,ks',e,a,b⟩:=q
  exact⟨v,ks',e,a.mono h,b.mono h⟩
noncomputable def Ca (C:Cx) (k:Nat) (σ:St) (f:AV) (as:List AV) (kw:List (Str×AV)) (v:AV) (σ':St):Prop:=
 ∀W rf ras rkw,VR W f rf→VRe W as ras→KR W kw rkw→Op C k W σ (call rf ras rkw) (fun W r=>VR W v r) σ'
theorem ELo {i:Nat} {x:Str} {v:AV} {pos:Pos} (hi:sc.names[i]? =some (x,NameKind.local)) (hv:ms[i]? =some (some v)):Ev C k sc ms σ (.Name x pos) v ms σ:=by
 intro A W env s hr H
 obtain⟨mr,hn,hm⟩:=H.fr.ns
 obtain⟨r,e,q⟩:=hm i x v hi hv
 have hl:env.kindOf x=some .local:=by
  unfold Env.kindOf;rw [H.fr.scope];exact lon (sO.nodup H.fr.ok) hi
 exact wpAny_Name (wpAny_loadName_local (by rw [H.fr.scope];exact sO.kind H.fr.ok) hl hn e (ph (.refl W) H q)) ((sO.all H.fr.ok _ (List.mem_of_getElem? hi)).2 (fun z=>nomatch z))
theorem ECe {i:Nat} {x:Str} {v:AV} {pos:Pos} (hi:sc.names[i]? =some (x,NameKind.cell)) (hv:ms[i]? =some (some v)):Ev C k sc ms σ (.Name x pos) v ms σ:=by
 intro A W env s hr H
 obtain⟨a,ov,hc,hcell,hm⟩:=H.fr.cells i x hi
 obtain⟨r,rfl,q⟩:=hm v hv
 have hl:env.kindOf x=some .cell:=by
  unfold Env.kindOf;rw [H.fr.scope];exact lon (sO.nodup H.fr.ok) hi
 exact wpAny_Name (wpAny_loadName_cell (by rw [H.fr.scope];exact sO.kind H.fr.ok) hl hc hcell (ph (.refl W) H q)) ((sO.all H.fr.ok _ (List.mem_of_getElem? hi)).2 (fun z=>nomatch z))
noncomputable def Glob (C:Cx) (x:Str) (v:AV):Prop:=(x==("__debug__":Str))=false∧ ∃r,(C.mg x=some r∨(C.mg x=none∧C.mb x=some r))∧ ∀W,VR W v r
theorem EGl {i:Nat} {x:Str} {v:AV} {pos:Pos} (O:C.Ok) (hi:sc.names[i]? =some (x,NameKind.globalImplicit)) (g:Glob C x v):Ev C k sc ms σ (.Name x pos) v ms σ:=by
 intro A W env s hr H
 obtain⟨hd,r,hg,q⟩:=g
 have hl:env.kindOf x=some .globalImplicit:=by
  unfold Env.kindOf;rw [H.fr.scope];exact lon (sO.nodup H.fr.ok) hi
 have hG:s.heap.Ns env.globals C.mg:=by rw [H.fr.globals];exact O.g.keeps H.inv.kept
 refine Name_function_global (by rw [H.fr.scope];exact sO.kind H.fr.ok) hl ?_ hd
 rcases hg with hg | ⟨hg,hb⟩
 ·exact loadGlobal_global hG hg (ph (.refl W) H (q W))
 ·have hB:s.heap.Ns env.builtins C.mb:=by rw [H.fr.builtins];exact O.b.keeps H.inv.kept
  exact loadGlobal_builtin hG hg hB hb (ph (.refl W) H (q W))
theorem ENo {x pos}:Ev C k sc ms σ (.Constant .none x pos) .none ms σ:=fun A W env s hr H=>by
 rw [arm_eval_Constant];exact wpAny_pure (ph (.refl W) H (by unfold VR;rfl))
theorem EBo {b:Bool} {x pos}:Ev C k sc ms σ (.Constant (.bool b) x pos) (.bool b) ms σ:=fun A W env s hr H=>by
 rw [arm_eval_Constant];exact wpAny_pure (ph (.refl W) H (by unfold VR;rfl))
theorem EIn {i:Int} {x pos}:Ev C k sc ms σ (.Constant (.int i) x pos) (.int i) ms σ:=fun A W env s hr H=>by
 rw [arm_eval_Constant];exact wpAny_mkInt (ph (.refl W) (H.tok _) (by unfold VR;exact⟨_,rfl⟩))
theorem ESt {t:Str} {x pos}:Ev C k sc ms σ (.Constant (.str t) x pos) (.str t) ms σ:=fun A W env s hr H=>by
 rw [arm_eval_Constant];exact wpAny_mkText (ph (.refl W) (H.tok _) (by unfold VR;exact⟨_,rfl⟩))
theorem EBO {l r:Expr} {op:Operator} {pos:Pos} {a b c:AV} (h1:Ev C k sc ms σ l a ms₁ σ₁) (h2:Ev C k sc ms₁ σ₁ r b ms₂ σ₂)
  (h3:Op2 C k σ₂ (binaryOp op) a b (fun W r=>VR W c r) σ'):Ev C k sc ms σ (.BinOp l op r pos) c ms₂ σ':=by
 intro A W env s hr H
 refine wpAny_BinOp (pg (h1 A W env s hr H) fun W₁ ra s₁ le₁ H₁ qa=>pg (h2 A W₁ env s₁ hr H₁) fun W₂ rb s₂ le₂ H₂ qb=> ?_)
 have as:=ale H₂.fr
 exact Op.in rfl (h3 _ ra rb ((qa.mono le₂).mono as) (qb.mono as)) hr H₂ fun W₃ r s₃ le₃ H₃ q tk u=>ph (le₁.trans (le₂.trans le₃)) H₃ (tk q)
theorem EUO {x:Expr} {op:UnaryOp} {pos:Pos} {a c:AV} (h1:Ev C k sc ms σ x a ms₁ σ₁)
  (h3:Op1 C k σ₁ (unaryOp op) a (fun W r=>VR W c r) σ'):Ev C k sc ms σ (.UnaryOp op x pos) c ms₁ σ':=by
 intro A W env s hr H
 refine wpAny_UnaryOp (pg (h1 A W env s hr H) fun W₁ ra s₁ le₁ H₁ qa=> ?_)
 exact Op.in rfl (h3 _ ra (qa.mono (ale H₁.fr))) hr H₁ fun W₃ r s₃ le₃ H₃ q tk u=>ph (le₁.trans le₃) H₃ (tk q)
theorem ECo {l r:Expr} {op:CmpOp} {pos:Pos} {a b c:AV} (h1:Ev C k sc ms σ l a ms₁ σ₁) (h2:Ev C k sc ms₁ σ₁ r b ms₂ σ₂)
  (h3:Op2 C k σ₂ (compareOp op) a b (fun W r=>VR W c r) σ') (hm:behindInMarks op r=false):Ev C k sc ms σ (.Compare l [op] [r] pos) c ms₂ σ':=by
 intro A W env s hr H
 refine wpAny_Compare1 (pg (h1 A W env s hr H) fun W₁ ra s₁ le₁ H₁ qa=>pg (h2 A W₁ env s₁ hr H₁) fun W₂ rb s₂ le₂ H₂ qb=> ?_) hm
 have as:=ale H₂.fr
 exact Op.in rfl (h3 _ ra rb ((qa.mono le₂).mono as) (qb.mono as)) hr H₂ fun W₃ r s₃ le₃ H₃ q tk u=>ph (le₁.trans (le₂.trans le₃)) H₃ (tk q)
theorem EEx {test x y:Expr} {pos:Pos} {b:Bool} {v:AV} (h1:Tv C k sc ms σ test b ms₁ σ₁) (h2:Ev C k sc ms₁ σ₁ (if b then x else y) v ms' σ'):Ev C k sc ms σ (.IfExp test x y pos) v ms' σ':=by
 intro A W env s hr H
 refine wpAny_IfExp (pg (h1 A W env s hr H) fun W₁ rb s₁ le₁ H₁ qb=> ?_)
 subst qb
 have h:=h2 A W₁ env s₁ hr H₁
 cases rb
 ·exact pg h fun W₂ r s₂ le₂ H₂ q=>ph (le₁.trans le₂) H₂ q
 ·exact pg h fun W₂ r s₂ le₂ H₂ q=>ph (le₁.trans le₂) H₂ q
theorem ENa {target value:Expr} {pos:Pos} {v:AV} (h1:Ev C k sc ms σ value v ms₁ σ₁) (h2:As C k sc ms₁ σ₁ target v ms' σ'):Ev C k sc ms σ (.NamedExpr target value pos) v ms' σ':=by
 intro A W env s hr H
 refine wpAny_NamedExpr (pg (h1 A W env s hr H) fun W₁ r s₁ le₁ H₁ q=>pg (h2 A W₁ env s₁ r hr H₁ q) fun W₂ u s₂ le₂ H₂ w=>ph (le₁.trans le₂) H₂ (q.mono le₂))
theorem Tva {e:Expr} {v:AV} {b:Bool} (h1:Ev C k sc ms σ e v ms₁ σ₁) (h2:Op1 C k σ₁ truthy v (fun u r=>r=b) σ')
  (he: ∀env whole,isTrue e env whole=(do let v←whole;standAt e.pos;holding [v] (truthy v))):Tv C k sc ms σ e b ms₁ σ':=by
 intro A W env s hr H
 refine wpAny_isTrue_value (pg (h1 A W env s hr H) fun W₁ r s₁ le₁ H₁ q=> ?_) (he _ _)
 exact Op.in rfl (h2 _ r (q.mono (ale H₁.fr))) hr H₁ fun W₃ r s₃ le₃ H₃ q tk u=>ph (le₁.trans le₃) H₃ q
theorem TCo {l r:Expr} {op:CmpOp} {pos:Pos} {a b:AV} {c:Bool} (h1:Ev C k sc ms σ l a ms₁ σ₁) (h2:Ev C k sc ms₁ σ₁ r b ms₂ σ₂)
  (h3:Op2 C k σ₂ (compareOp op) a b (fun W r=>VR W (.bool c) r) σ') (hm:behindInMarks op r=false):Tv C k sc ms σ (.Compare l [op] [r] pos) c ms₂ σ':=by
 intro A W env s hr H
 refine wpAny_isTrue_Compare1 (pg (h1 A W env s hr H) fun W₁ ra s₁ le₁ H₁ qa=>pg (h2 A W₁ env s₁ hr H₁) fun W₂ rb s₂ le₂ H₂ qb=> ?_) hm
 have as:=ale H₂.fr
 refine Op.in rfl (h3 _ ra rb ((qa.mono le₂).mono as) (qb.mono as)) hr H₂ fun W₃ r s₃ le₃ H₃ q tk u=> ?_
 unfold VR at q;subst q
 exact wpAny_truthy_bool (ph (le₁.trans (le₂.trans le₃)) H₃ rfl)
theorem TNo {x:Expr} {pos:Pos} {b:Bool} (h:Tv C k sc ms σ x b ms' σ'):Tv C k sc ms σ (.UnaryOp .Not x pos) (!b) ms' σ':=by
 intro A W env s hr H
 exact wpAny_isTrue_Not (pg (h A W env s hr H) fun W₁ r s₁ le₁ H₁ q=>ph le₁ H₁ (by rw [q]))
noncomputable def Tvs (C:Cx) (k:Nat) (sc:Scope) (ms:List (Option AV)) (σ:St) (op:BoolOp) (es:List Expr) (b:Bool) (ms':List (Option AV)) (σ':St):Prop:=
 Tr C k sc ms σ (fun env=>allTrue op es env) (fun _ r=>r=b) ms' σ'
theorem TBO {op:BoolOp} {es:List Expr} {pos:Pos} {b:Bool} (h:Tvs C k sc ms σ op es b ms' σ'):Tv C k sc ms σ (.BoolOp op es pos) b ms' σ':=
 fun A W env s hr H=>wpAny_isTrue_BoolOp (h A W env s hr H)
theorem TAn:Tvs C k sc ms σ .And [] true ms σ:=fun u W v w g H=>wpAny_allTrue_And_nil (ph (.refl W) H rfl)
theorem Tn:Tvs C k sc ms σ .Or [] false ms σ:=fun u W v w g H=>wpAny_allTrue_Or_nil (ph (.refl W) H rfl)
theorem TAs {x:Expr} {rest:List Expr} (h:Tv C k sc ms σ x false ms' σ'):Tvs C k sc ms σ .And (x::rest) false ms' σ':=
 fun A W env s hr H=>wpAny_allTrue_And_cons (pg (h A W env s hr H) fun W₁ r s₁ le₁ H₁ q=>by subst q;exact ph le₁ H₁ rfl)
theorem TAo {x:Expr} {rest:List Expr} {b:Bool} (h:Tv C k sc ms σ x true ms₁ σ₁) (h2:Tvs C k sc ms₁ σ₁ .And rest b ms' σ'):Tvs C k sc ms σ .And (x::rest) b ms' σ':=
 fun A W env s hr H=>wpAny_allTrue_And_cons (pg (h A W env s hr H) fun W₁ r s₁ le₁ H₁ q=>by
  subst q;exact pg (h2 A W₁ env s₁ hr H₁) fun W₂ r s₂ le₂ H₂ q=>ph (le₁.trans le₂) H₂ q)
theorem TOs {x:Expr} {rest:List Expr} (h:Tv C k sc ms σ x true ms' σ'):Tvs C k sc ms σ .Or (x::rest) true ms' σ':=
 fun A W env s hr H=>wpAny_allTrue_Or_cons (pg (h A W env s hr H) fun W₁ r s₁ le₁ H₁ q=>by subst q;exact ph le₁ H₁ rfl)
theorem TOo {x:Expr} {rest:List Expr} {b:Bool} (h:Tv C k sc ms σ x false ms₁ σ₁) (h2:Tvs C k sc ms₁ σ₁ .Or rest b ms' σ'):Tvs C k sc ms σ .Or (x::rest) b ms' σ':=
 fun A W env s hr H=>wpAny_allTrue_Or_cons (pg (h A W env s hr H) fun W₁ r s₁ le₁ H₁ q=>by
  subst q;exact pg (h2 A W₁ env s₁ hr H₁) fun W₂ r s₂ le₂ H₂ q=>ph (le₁.trans le₂) H₂ q)
theorem En {pos:Pos}:Es C k sc ms σ pos [] [] ms σ:=fun u W v w g H=>spliced_nil (ph (.refl W) H .nil)
theorem Eco {pos:Pos} {e:Expr} {rest:List Expr} {v:AV} {vs:List AV} (h1:Ev C k sc ms σ e v ms₁ σ₁) (h2:Es C k sc ms₁ σ₁ pos rest vs ms' σ')
  (he: ∀env,starEach (e::rest) env=(false,eval e env)::starEach rest env):Es C k sc ms σ pos (e::rest) (v::vs) ms' σ':=by
 intro A W env s hr H
 show wpAny C.M A (spliced (backTo pos (starEach (e::rest) env))) _ _ _
 rw [he]
 refine spliced_cons (pg (t:=eval e env) (h1 A W env s hr H) fun W₁ r s₁ le₁ H₁ q=> ?_)
 exact pg (h2 A W₁ env s₁ hr H₁) fun W₂ rs s₂ le₂ H₂ qs=>ph (le₁.trans le₂) H₂ (.cons (q.mono le₂) qs)
theorem Eni:Ex C k sc ms σ [] .next ms σ:=fun u W v w g H=>wpAny_execs_nil (ph (.refl W) H rfl)
theorem Eca {st:Stmt} {rest:List Stmt} {f:AF} (h1:X1 C k sc ms σ st .next ms₁ σ₁) (h2:Ex C k sc ms₁ σ₁ rest f ms' σ'):Ex C k sc ms σ (st::rest) f ms' σ':=
 fun A W env s hr H=>wpAny_execs_cons (pg (h1 A W env s hr H) fun W₁ r s₁ le₁ H₁ q=>by
  unfold Fl at q;subst q
  exact pg (h2 A W₁ env s₁ hr H₁) fun W₂ r s₂ le₂ H₂ q=>ph (le₁.trans le₂) H₂ q)
theorem Est {st:Stmt} {rest:List Stmt} {f:AF} (h1:X1 C k sc ms σ st f ms' σ') (hf:f≠ .next):Ex C k sc ms σ (st::rest) f ms' σ':=
 fun A W env s hr H=>wpAny_execs_cons (pg (h1 A W env s hr H) fun W₁ r s₁ le₁ H₁ q=>by
  cases f with
  | next=>exact absurd rfl hf
  | brk=>unfold Fl at q;subst q;exact ph le₁ H₁ rfl
  | cont=>unfold Fl at q;subst q;exact ph le₁ H₁ rfl
  | ret v=>unfold Fl at q;obtain⟨x,rfl,q⟩:=q;exact ph le₁ H₁ ⟨x,rfl,q⟩)
theorem X1B {pos:Pos}:X1 C k sc ms σ (.Break pos) .brk ms σ:=fun u W v w g H=>wpAny_Break (ph (.refl W) H rfl)
theorem XCo {pos:Pos}:X1 C k sc ms σ (.Continue pos) .cont ms σ:=fun u W v w g H=>wpAny_Continue (ph (.refl W) H rfl)
theorem XR {e:Expr} {pos:Pos} {v:AV} (h:Ev C k sc ms σ e v ms' σ'):X1 C k sc ms σ (.Return (some e) pos) (.ret v) ms' σ':=
 fun A W env s hr H=>wpAny_Return_some (pg (h A W env s hr H) fun W₁ r s₁ le₁ H₁ q=>ph le₁ H₁ ⟨r,rfl,q⟩)
theorem X1E {e:Expr} {pos:Pos} {v:AV} (h:Ev C k sc ms σ e v ms' σ') (hs: ∀env:Env,env.scope.kind= .function→swapsWith e none pos.line env=pure false):X1 C k sc ms σ (.Expr e pos) .next ms' σ':=by
 intro A W env s hr H
 have hk:env.scope.kind= .function:=by rw [H.fr.scope];exact sO.kind H.fr.ok
 show wpAny C.M A (exec (.Expr e pos) env) _ _ _
 rw [exec_Expr env e pos (by unfold interactive;rw [hk];rfl) (hs env hk)]
 refine wpAny_bind (wpAny_standAt (pbi (h A W env s hr H) fun W₁ r s₁ le₁ H₁ q=> ?_))
 have fin:Pa C sc A W env ms' σ' (fun W r=>Fl W .next r) .next s₁:=ph le₁ H₁ rfl
 unfold dropValue
 split
 ·exact wpAny_pure fin
 ·exact wpAny_bind (wpAny_standAt (wpAny_bind (wpAny_runValue (codeAny_builtin entry_let_go (show wpAny _ _ (ret .none) _ _ _ from wpAny_pure (wpAny_pure fin))))))
 ·exact wpAny_pure fin
theorem X1A {t value:Expr} {pos:Pos} {v:AV} (h1:Ev C k sc ms σ value v ms₁ σ₁) (h2:As C k sc ms₁ σ₁ t v ms' σ')
  (hs: ∀env,swapsWithSole [t] value pos.line env=pure false) (hw: ∀env,swappedStores [t] value env=pure none) (ht: ∀env,(assignEach [t] env).map (·.2)= [assign t env]):
  X1 C k sc ms σ (.Assign [t] value pos) .next ms' σ':=by
 intro A W env s hr H
 refine wpAny_Assign_stores (pg (h1 A W env s hr H) fun W₁ r s₁ le₁ H₁ q=> ?_) (hs env) (hw env)
 rw [ht]
 exact pg (h2 A W₁ env s₁ r hr H₁ q) fun W₂ u s₂ le₂ H₂ w=>ph (le₁.trans le₂) H₂ rfl
end
end V
end
section
namespace V
section
variable {M:Model} {A:Around} {E:Value→Shared→Prop} {s:Shared}
theorem wC {a:Addr} {m:Str→Option Value} {o:Obj} {name:Str} {v:Value} {Q:Unit→Shared→Prop} (hn:s.heap.Ns a m) (ho':s.heap.get? a=some o)
  (hQ: ∀h' o' es n,h'.Ns a (fun x=>if x=name then some v else m x)→Heap.SameBut a s.heap h'→h'.get? a=some o'→o'.cls=o.cls→o'.data= .dict es n→Q () {s with heap:=h',toks:=s.toks+1}):
  wpAny M A (nsSet a name v) Q E s:=fun Γ p u=>by
 obtain⟨o₁,es,ep,ho,hd,hk,hm⟩:=hn
 rw [ho]at ho';obtain rfl:=Option.some.inj ho'
 simp only [nsSet,strHash,Sem.wp_bind',Sem.wp_cmd_ask,Sem.wp_pure',Sem.wp_cmd_mkText]
 rw [Sem.wp_loadPart_of M Γ _ p {s with toks:=s.toks+1} (o:=o₁) _ ho]
 have hany:es.any (·.refKey)=false:=by
  rw [Array.any_eq_false'];intro e he;obtain⟨n,t,h⟩:=hk e he;simp [DictEntry.refKey,h]
 simp only [hd,aRefKeyMayBeTheName_eq,aRefKeyMayBeTheNameByArray,hany,Bool.and_false,Bool.false_eq_true,if_false,Sem.wp_cmd_updatePart]
 refine⟨by rw [ho];rfl,?_⟩
 obtain⟨c,d,dt,sl⟩:=o₁
 subst hd
 cases hi:es.findIdx? (·.key.isStr name)with
 | some i=>
  have g:=Heap.get?_update_self (Obj.putName name (PyData.keyHash M.w.params name) (.str name s.toks) v) ho (by simp only [Obj.putName_eq,Obj.putNameByArray,hi];rfl)
  have e:Obj.putName name (PyData.keyHash M.w.params name) (.str name s.toks) v ⟨c,d,.dict es ep,sl⟩=⟨c,d,.dict (es.modify i fun e=>{e with val:=v}) ep,sl⟩:=by
   simp only [Obj.putName_eq,Obj.putNameByArray,hi]
  rw [e]at g
  refine hQ _ _ _ _ ⟨_,_,ep,g,rfl,hk.modify _ _,fun x=> ?_⟩ (Heap.SameBut.update ..) g rfl rfl
  show _=if x=name then some v else m x
  rw [←hm];exact findBy_modify (fun n v=>v.isStr n) Value.isStr_inj es name x v i hi
 | none=>
  have g:=Heap.get?_update_self (Obj.putName name (PyData.keyHash M.w.params name) (.str name s.toks) v) ho (by simp only [Obj.putName_eq,Obj.putNameByArray,hi];rfl)
  have e:Obj.putName name (PyData.keyHash M.w.params name) (.str name s.toks) v ⟨c,d,.dict es ep,sl⟩=⟨c,d,.dict (es.push ⟨PyData.keyHash M.w.params name,.str name s.toks,v⟩) (ep+1),sl⟩:=by
   simp only [Obj.putName_eq,Obj.putNameByArray,hi]
  rw [e]at g
  refine hQ _ _ _ _ ⟨_,_,ep+1,g,rfl,hk.push _ _ _ _,fun x=> ?_⟩ (Heap.SameBut.update ..) g rfl rfl
  show _=if x=name then some v else m x
  rw [←hm]
  exact findBy_push (fun n v=>v.isStr n) es name x _ _ v (fun y=>by
   show(name==y)=decide (y=name)
   by_cases h:y=name
   ·subst h;simp
   ·have: ¬name=y:=fun e=>h e.symm
    simp [h,this]) hi
end
section
variable {C:Cx} {k:Nat} {sc:Scope} {A:Around} {W:Wd} {env:Env} {ms ms₁ ms₂ ms':List (Option AV)} {σ σ₁ σ₂ σ':St} {s:Shared}
theorem nai: ∀{l:List (Str×NameKind)} {i j:Nat} {x:Str} {a b:NameKind},(l.map (·.1)).Nodup→l[i]? =some (x,a)→l[j]? =some (x,b)→i=j
 | [],i,j,x,a,b,_,hi,_=>by simp at hi
 | y::r,i,j,x,a,b,h,hi,hj=>by
  rw [List.map_cons,List.nodup_cons]at h
  have no: ∀(m:Nat) (c d:NameKind),r[m]? =some (x,c)→y=(x,d)→False:=fun m c d e e2=>
   h.1 (List.mem_map.mpr ⟨(x,c),List.mem_of_getElem? e,by rw [e2]⟩)
  cases i with
  | zero=>cases j with
   | zero=>rfl
   | succ j=>simp at hi hj;exact(no j b a hj hi).elim
  | succ i=>cases j with
   | zero=>simp at hi hj;exact(no i a b hi hj).elim
   | succ j=>simp at hi hj;rw [nai h.2 hi hj]
theorem slo {A':Around} {i:Nat} {x:Str} {v:AV} {r:Value} {Q:Unit→Shared→Prop} (hi:sc.names[i]? =some (x,NameKind.local)) (H:At C sc A W env ms σ s) (q:VR W v r)
  (h: ∀s',At C sc A W env (ms.set i (some v)) σ s'→Q () s'):wpAny C.M A' (storeName env x r) Q No s:=by
 obtain⟨mr,hn,hm⟩:=H.fr.ns
 obtain⟨o,es,n,ho,hcl,hd⟩:=H.fr.clsL
 have hk:env.scope.kind= .function:=by rw [H.fr.scope];exact sO.kind H.fr.ok
 have hl:env.kindOf x=some .local:=by
  unfold Env.kindOf;rw [H.fr.scope];exact lon (sO.nodup H.fr.ok) hi
 rw [storeName_local hl (by rw [hk];rfl)]
 refine wC hn ho fun h' o' es' n' hn' hs' hg hc' hd'=>h _ ⟨?_,?_⟩
 ·exact H.inv.but H.fr.apL.1 H.fr.apL.2 (fun b ob nb e=>(hs'.2 b nb).trans e)
 ·have oth: ∀b ob,b≠env.locals→s.heap.get? b=some ob→h'.get? b=some ob:=fun b ob nb e=>(hs'.2 b nb).trans e
  refine⟨H.fr.scope,H.fr.globals,H.fr.builtins,H.fr.ok,⟨_,hn',fun j y u hj hu=> ?_⟩,fun j y hj=> ?_,H.fr.apL,fun y a hy=> ?_,H.fr.injC,⟨o',es',n',hg,hc'▸hcl,hd'⟩,?_⟩
  ·by_cases hy:y=x
   ·subst hy
    have ij:=nai (sO.nodup H.fr.ok) hi hj
    subst ij
    rw [if_pos rfl]
    rw [List.getElem?_set_self']at hu
    refine⟨r,rfl,?_⟩
    cases z:ms[i]? with
    | none=>rw [z]at hu;cases hu
    | some _=>rw [z]at hu;simp at hu;subst hu;exact q
   ·rw [if_neg hy]
    have ij:i≠j:=fun e=>by
     subst e;rw [hi]at hj;cases hj;exact hy rfl
    rw [List.getElem?_set_ne ij]at hu
    exact hm j y u hj hu
  ·obtain⟨a,ov,h1,⟨oc,h2,h3⟩,h4⟩:=H.fr.cells j y hj
   refine⟨a,ov,h1,⟨oc,oth a oc (H.fr.apC y a (mem_of_lookup h1)).2.2.1 h2,h3⟩,fun u hu=>h4 u ?_⟩
   have ij:i≠j:=fun e=>by
    subst e;rw [hi]at hj;cases hj
   rwa [List.getElem?_set_ne ij]at hu
  ·obtain⟨h1,h2,h3,ov,oc,h4,h5,h6⟩:=H.fr.apC y a hy
   exact⟨h1,h2,h3,ov,oc,oth a oc h3 h4,h5,h6⟩
  ·obtain⟨fenv,rest,L,h1,h2,h3,h4,h5,h6,h7⟩:=H.fr.stk
   refine⟨fenv,rest,L,h1,h2,h3,h4,h5,h6,?_⟩
   rcases h7 with⟨rfl,o₂,es₂,n₂,g2,c2,_⟩ | z
   ·rw [ho]at g2;cases g2
    exact .inl ⟨rfl,o',es',n',hg,hc'.trans c2,hd'⟩
   ·exact .inr z
theorem sce {A':Around} {i:Nat} {x:Str} {v:AV} {r:Value} {Q:Unit→Shared→Prop} (hi:sc.names[i]? =some (x,NameKind.cell)) (H:At C sc A W env ms σ s) (q:VR W v r)
  (h: ∀s',At C sc A W env (ms.set i (some v)) σ s'→Q () s'):wpAny C.M A' (storeName env x r) Q No s:=by
 obtain⟨a,ov,hc,⟨o,ho,hd⟩,hm⟩:=H.fr.cells i x hi
 obtain⟨ap1,ap2,ap3,ov',o₂,ho2,hd2,hcl2⟩:=H.fr.apC x a (mem_of_lookup hc)
 rw [ho]at ho2;obtain rfl:=Option.some.inj ho2
 have hk:env.scope.kind= .function:=by rw [H.fr.scope];exact sO.kind H.fr.ok
 have hl:env.kindOf x=some .cell:=by
  unfold Env.kindOf;rw [H.fr.scope];exact lon (sO.nodup H.fr.ok) hi
 unfold storeName
 simp only [hl,hk]
 refine wpAny_bind (wpAny_cellOf hc ?_)
 refine wpAny_bind (wpAny_load ho ?_)
 rw [hd]
 refine wpAny_update ho (h _ ⟨?_,?_⟩)
 ·exact H.inv.but ap1 ap2 (fun b ob nb e=>(Heap.get?_update_other _ _ (Ne.symm nb)).trans e)
 ·have oth: ∀b ob,b≠a→s.heap.get? b=some ob→(s.heap.update a fun o=>{o with data:= .cell (some r)}).get? b=some ob:=fun b ob nb e=>(Heap.get?_update_other _ _ (Ne.symm nb)).trans e
  have here:(s.heap.update a fun o=>{o with data:= .cell (some r)}).get? a=some {o with data:= .cell (some r)}:=Heap.get?_update_self (fun o=>{o with data:= .cell (some r)}) ho rfl
  obtain⟨mr,⟨oL,es,ep,h1,h2,h3,h4⟩,hv⟩:=H.fr.ns
  refine⟨H.fr.scope,H.fr.globals,H.fr.builtins,H.fr.ok,⟨mr,⟨oL,es,ep,oth _ _ (Ne.symm ap3) h1,h2,h3,h4⟩,fun j y u hj hu=>hv j y u hj ?_⟩,fun j y hj=> ?_,H.fr.apL,fun y b hy=> ?_,H.fr.injC,?_,?_⟩
  ·have ij:i≠j:=fun e=>by
    subst e;rw [hi]at hj;cases hj
   rwa [List.getElem?_set_ne ij]at hu
  ·obtain⟨b,ob,g1,⟨oc,g2,g3⟩,g4⟩:=H.fr.cells j y hj
   by_cases hy:y=x
   ·subst hy
    have ij:=nai (sO.nodup H.fr.ok) hi hj
    subst ij
    refine⟨a,some r,hc,⟨_,here,rfl⟩,fun u hu=>⟨r,rfl,?_⟩⟩
    rw [List.getElem?_set_self']at hu
    cases z:ms[i]? with
    | none=>rw [z]at hu;cases hu
    | some _=>rw [z]at hu;simp at hu;subst hu;exact q
   ·have nb:b≠a:=fun e=>hy (H.fr.injC y x a (e▸mem_of_lookup g1) (mem_of_lookup hc))
    refine⟨b,ob,g1,⟨oc,oth _ _ nb g2,g3⟩,fun u hu=>g4 u ?_⟩
    have ij:i≠j:=fun e=>by
     subst e;rw [hi]at hj;cases hj;exact hy rfl
    rwa [List.getElem?_set_ne ij]at hu
  ·obtain⟨g1,g2,g3,ov2,oc,g4,g5,g6⟩:=H.fr.apC y b hy
   by_cases nb:b=a
   ·subst nb
    rw [ho]at g4;cases g4
    exact⟨g1,g2,g3,some r,_,here,rfl,g6⟩
   ·exact⟨g1,g2,g3,ov2,oc,oth _ _ nb g4,g5,g6⟩
  ·obtain⟨oL,es,n,g1,g2,g3⟩:=H.fr.clsL
   exact⟨oL,es,n,oth _ _ (Ne.symm ap3) g1,g2,g3⟩
  ·obtain⟨fenv,rest,L,g1,g2,g3,g4,g5,g6,g7⟩:=H.fr.stk
   refine⟨fenv,rest,L,g1,g2,g3,g4,g5,g6,?_⟩
   rcases g7 with⟨rfl,o₂,es₂,n₂,e1,e2,e3⟩ | z
   ·exact .inl ⟨rfl,o₂,es₂,n₂,oth _ _ (Ne.symm ap3) e1,e2,e3⟩
   ·exact .inr z
theorem ALo {i:Nat} {x:Str} {v:AV} {pos:Pos} (hi:sc.names[i]? =some (x,NameKind.local)):As C k sc ms σ (.Name x pos) v (ms.set i (some v)) σ:=by
 intro A W env s r hr H q
 rw [arm_assign_Name]
 exact wpAny_bind (wpAny_standAt (wpAny_bindName (slo hi H q fun s' H'=>ph (.refl W) H' trivial)))
theorem ACe {i:Nat} {x:Str} {v:AV} {pos:Pos} (hi:sc.names[i]? =some (x,NameKind.cell)):As C k sc ms σ (.Name x pos) v (ms.set i (some v)) σ:=by
 intro A W env s r hr H q
 rw [arm_assign_Name]
 exact wpAny_bind (wpAny_standAt (wpAny_bindName (sce hi H q fun s' H'=>ph (.refl W) H' trivial)))
end
end V
end
section
namespace V
mutual
noncomputable def AV.In (D:Loc→Prop):AV→Prop
 | .loc l=>D l
 | .mw _ l=>D l
 | .bm _ l=>D l
 | .slc a b c=>AV.In D a∧AV.In D b∧AV.In D c
 | .fld _ xs=>AV.Ins D xs
 | .tup xs=>AV.Ins D xs
 | .lst xs=>AV.Ins D xs
 | _=>True
noncomputable def AV.Ins (D:Loc→Prop):List AV→Prop
 | []=>True
 | x::xs=>AV.In D x∧AV.Ins D xs
end
noncomputable def AO.In (D:Loc→Prop):AO→Prop
 | .list xs=>AV.Ins D xs
 | .dict es=> ∀p∈es,AV.In D p.2
 | .map es _=> ∀p∈es,AV.In D p.2
 | .set _=>True
 | .inst _ d=>D d
 | .slots _ d vs=>D d∧ ∀x,some x∈vs→AV.In D x
 | .junk=>True
 | .exc _ xs=>AV.Ins D xs
 | .iter l _=>D l
mutual
theorem VR.iD {W:Wd}: ∀{x:AV} {v:Value},VR W x v→x.In fun l=>(W.ρ l).isSome=true
 | .none,_,_=>trivial
 | .any,_,_=>trivial
 | .bool _,_,_=>trivial
 | .int _,_,_=>trivial
 | .str _,_,_=>trivial
 | .bytes _,_,_=>trivial
 | .ty _,_,_=>trivial
 | .bi _,_,_=>trivial
 | .ext _,_,_=>trivial
 | .loc _,_,q=>by
  unfold VR at q;obtain⟨a,e,_⟩:=q
  show(W.ρ _).isSome=true
  rw [e];rfl
 | .mw _ _,_,q=>by
  unfold VR at q;obtain⟨a,_,_,e,_⟩:=q
  show(W.ρ _).isSome=true
  rw [e];rfl
 | .bm _ _,_,q=>by
  unfold VR at q;obtain⟨a,_,_,e,_⟩:=q
  show(W.ρ _).isSome=true
  rw [e];rfl
 | .slc _ _ _,_,q=>by unfold VR at q;obtain⟨_,_,_,_,_,_,_,_,_,k1,k2,k3⟩:=q;unfold AV.In;exact⟨VR.iD k1,VR.iD k2,VR.iD k3⟩
 | .fld _ _,_,q=>by unfold VR at q;obtain⟨_,_,_,_,_,_,_,k⟩:=q;unfold AV.In;exact VRe.iD k
 | .tup _,_,q=>by unfold VR at q;obtain⟨_,_,_,_,_,_,_,_,k⟩:=q;unfold AV.In;exact VRe.iD k
 | .lst _,_,q=>by unfold VR at q;obtain⟨_,_,_,_,_,_,_,_,k⟩:=q;unfold AV.In;exact VRe.iD k
theorem VRe.iD {W:Wd}: ∀{x:List AV} {v:List Value},VRe W x v→AV.Ins (fun l=>(W.ρ l).isSome=true) x
 | [],_,_=>by unfold AV.Ins;trivial
 | _::_,_,q=>by
  unfold VRe at q;obtain⟨_,_,_,a,b⟩:=q
  unfold AV.Ins;exact⟨VR.iD a,VRe.iD b⟩
end
mutual
theorem AV.In.mono {D D':Loc→Prop} (h: ∀l,D l→D' l): ∀{x:AV},x.In D→x.In D'
 | .none,_=>trivial
 | .any,_=>trivial
 | .bool _,_=>trivial
 | .int _,_=>trivial
 | .str _,_=>trivial
 | .bytes _,_=>trivial
 | .ty _,_=>trivial
 | .bi _,_=>trivial
 | .ext _,_=>trivial
 | .loc l,q=>h l q
 | .mw _ l,q=>h l q
 | .bm _ l,q=>h l q
 | .slc _ _ _,q=>by unfold AV.In at q⊢;exact⟨AV.In.mono h q.1,AV.In.mono h q.2.1,AV.In.mono h q.2.2⟩
 | .fld _ _,q=>by unfold AV.In at q⊢;exact AV.Ins.mono h q
 | .tup _,q=>by unfold AV.In at q⊢;exact AV.Ins.mono h q
 | .lst _,q=>by unfold AV.In at q⊢;exact AV.Ins.mono h q
theorem AV.Ins.mono {D D':Loc→Prop} (h: ∀l,D l→D' l): ∀{x:List AV},AV.Ins D x→AV.Ins D' x
 | [],_=>by unfold AV.Ins;trivial
 | _::_,q=>by unfold AV.Ins at q⊢;exact⟨AV.In.mono h q.1,AV.Ins.mono h q.2⟩
end
structure Cut (W W':Wd) (D:Loc→Prop):Prop where
 ρ: ∀l a,D l→W.ρ l=some a→W'.ρ l=some a
 fz: ∀a o,W.fz a=some o→W'.fz a=some o
mutual
theorem VR.cut {W W':Wd} {D:Loc→Prop} (h:Cut W W' D): ∀{x:AV} {v:Value},VR W x v→x.In D→VR W' x v
 | .none,_,q,_=>q
 | .any,_,_,_=>by unfold VR;trivial
 | .bool _,_,q,_=>by unfold VR at q⊢;exact q
 | .int _,_,q,_=>by unfold VR at q⊢;exact q
 | .str _,_,q,_=>by unfold VR at q⊢;exact q
 | .bytes _,_,q,_=>by unfold VR at q⊢;exact q
 | .ty _,_,q,_=>by unfold VR at q⊢;exact q
 | .bi _,_,q,_=>by unfold VR at q⊢;exact q
 | .ext _,_,q,_=>by unfold VR at q⊢;exact q
 | .loc _,_,q,d=>by
  unfold VR at q⊢
  obtain⟨a,e,r⟩:=q
  exact⟨a,h.1 _ _ d e,r⟩
 | .mw _ _,_,q,d=>by
  unfold VR at q⊢
  obtain⟨a,b,o,e,r,f,z⟩:=q
  exact⟨a,b,o,h.1 _ _ d e,r,h.2 _ _ f,z⟩
 | .bm _ _,_,q,d=>by
  unfold VR at q⊢
  obtain⟨a,b,o,e,r,f,z⟩:=q
  exact⟨a,b,o,h.1 _ _ d e,r,h.2 _ _ f,z⟩
 | .slc _ _ _,_,q,d=>by
  unfold VR at q⊢
  unfold AV.In at d
  obtain⟨b,o,vx,vy,vz,r,f,z,y,k1,k2,k3⟩:=q
  exact⟨b,o,vx,vy,vz,r,h.2 _ _ f,z,y,VR.cut h k1 d.1,VR.cut h k2 d.2.1,VR.cut h k3 d.2.2⟩
 | .fld _ _,_,q,d=>by
  unfold VR at q⊢
  unfold AV.In at d
  obtain⟨c,b,o,vs,r,f,z,k⟩:=q
  exact⟨c,b,o,vs,r,h.2 _ _ f,z,VRe.cut h k d⟩
 | .tup _,_,q,d=>by
  unfold VR at q⊢
  unfold AV.In at d
  obtain⟨a,o,vs,n,r,f,z1,z2,k⟩:=q
  exact⟨a,o,vs,n,r,h.2 _ _ f,z1,z2,VRe.cut h k d⟩
 | .lst _,_,q,d=>by
  unfold VR at q⊢
  unfold AV.In at d
  obtain⟨a,o,vs,n,r,f,z1,z2,k⟩:=q
  exact⟨a,o,vs,n,r,h.2 _ _ f,z1,z2,VRe.cut h k d⟩
theorem VRe.cut {W W':Wd} {D:Loc→Prop} (h:Cut W W' D): ∀{x:List AV} {v:List Value},VRe W x v→AV.Ins D x→VRe W' x v
 | [],_,q,_=>by unfold VRe at q⊢;exact q
 | _::_,_,q,d=>by
  unfold VRe at q⊢
  unfold AV.Ins at d
  obtain⟨v,r,e,k,ks⟩:=q
  exact⟨v,r,e,VR.cut h k d.1,VRe.cut h ks d.2⟩
end
theorem DR.cut {C:Cx} {W W':Wd} {D:Loc→Prop} (h:Cut W W' D): ∀{es:List (Str×AV)} {ds:List DictEntry},DR C W es ds→(∀p∈es,AV.In D p.2)→DR C W' es ds
 | [],_,q,_=>q
 | (_,_)::_,_,q,d=>by
  unfold DR at q⊢
  obtain⟨t,v,ds',e,k,ks⟩:=q
  exact⟨t,v,ds',e,VR.cut h k (d _ (.head _)),DR.cut h ks fun p hp=>d p (.tail _ hp)⟩
theorem SRe.cut {W W':Wd} {D:Loc→Prop} (h:Cut W W' D): ∀{es:List (Option AV)} {ds:List (Option Value)},SRe W es ds→(∀x,some x∈es→AV.In D x)→SRe W' es ds
 | [],_,q,_=>q
 | none::_,_,q,d=>by
  unfold SRe at q⊢
  obtain⟨ds',e,ks⟩:=q
  exact⟨ds',e,SRe.cut h ks fun x hx=>d x (.tail _ hx)⟩
 | some _::_,_,q,d=>by
  unfold SRe at q⊢
  obtain⟨v,ds',e,k,ks⟩:=q
  exact⟨v,ds',e,VR.cut h k (d _ (.head _)),SRe.cut h ks fun x hx=>d x (.tail _ hx)⟩
theorem ORe.cut {C:Cx} {W W':Wd} {D:Loc→Prop} (h:Cut W W' D) {o:AO} {ob:Obj} (q:ORe C W o ob) (d:o.In D):ORe C W' o ob:=by
 cases o with
 | list xs=>obtain⟨a,vs,n,b,c⟩:=q;exact⟨a,vs,n,b,c.cut h d⟩
 | dict es=>obtain⟨ds,n,e,r⟩:=q;exact⟨ds,n,e,r.cut h d⟩
 | map es n=>obtain⟨ds,e,r⟩:=q;exact⟨ds,e,r.cut h d⟩
 | set xs=>exact q
 | inst c l=>obtain⟨dx,e,r⟩:=q;exact⟨dx,h.1 _ _ d e,r⟩
 | slots c l vs=>obtain⟨dx,sl,ed,e,r⟩:=q;exact⟨dx,sl,h.1 _ _ d.1 ed,e,r.cut h d.2⟩
 | junk=>trivial
 | exc n xs=>obtain⟨hn,c,vs,t,dd,z,q⟩:=q;exact⟨hn,c,vs,t,dd,z,q.cut h (by unfold AV.In;exact d)⟩
 | iter l i=>obtain⟨a,e,r⟩:=q;exact⟨a,h.1 _ _ d e,r⟩
theorem DR.iD {C:Cx} {W:Wd}: ∀{es:List (Str×AV)} {ds:List DictEntry},DR C W es ds→ ∀p∈es,AV.In (fun l=>(W.ρ l).isSome=true) p.2
 | (_,_)::_,_,q,p,hp=>by
  obtain⟨t,v,ds',e,k,ks⟩:=q
  cases hp with
  | head=>exact k.iD
  | tail _ hp=>exact DR.iD ks p hp
theorem SRe.iD {W:Wd}: ∀{es:List (Option AV)} {ds:List (Option Value)},SRe W es ds→ ∀x,some x∈es→AV.In (fun l=>(W.ρ l).isSome=true) x
 | none::_,_,q,x,hx=>by
  obtain⟨ds',e,ks⟩:=q
  cases hx with
  | tail _ hx=>exact SRe.iD ks x hx
 | some _::_,_,q,x,hx=>by
  obtain⟨v,ds',e,k,ks⟩:=q
  cases hx with
  | head=>exact k.iD
  | tail _ hx=>exact SRe.iD ks x hx
theorem ORe.iD {C:Cx} {W:Wd} {o:AO} {ob:Obj} (q:ORe C W o ob):o.In fun l=>(W.ρ l).isSome=true:=by
 cases o with
 | list xs=>obtain⟨_,_,_,_,c⟩:=q;exact c.iD
 | dict es=>obtain⟨_,_,_,r⟩:=q;exact r.iD
 | map es n=>obtain⟨_,_,r⟩:=q;exact r.iD
 | set xs=>trivial
 | inst c l=>obtain⟨dx,e,_⟩:=q;show(W.ρ l).isSome=true;rw [e];rfl
 | slots c l vs=>obtain⟨dx,_,e,_,r⟩:=q;exact⟨by show(W.ρ l).isSome=true;rw [e];rfl,r.iD⟩
 | junk=>trivial
 | exc n xs=>obtain⟨hn,c,vs,t,d,z,q⟩:=q;have:=q.iD;unfold AV.In at this;exact this
 | iter l i=>obtain⟨a,e,_⟩:=q;show(W.ρ l).isSome=true;rw [e];rfl
noncomputable def Wd.only (W:Wd) (τ:St):Wd:=⟨fun l=>if(τ l).isSome then W.ρ l else none,W.fz⟩
theorem Wd.ocu (W:Wd) (τ:St):Cut W (W.only τ) fun l=>(τ l).isSome=true:=⟨fun l a d e=>by
 show(if(τ l).isSome then W.ρ l else none)=some a
 rw [if_pos d];exact e,fun u v e=>e⟩
theorem Wd.leo {W W':Wd} {τ:St} (le:W.le W') (h: ∀l,(W.ρ l).isSome=true→(τ l).isSome=true):W.le (W'.only τ):=
 ⟨fun l a e=>(W'.ocu τ).1 l a (h l (by rw [e];rfl)) (le.1 _ _ e),fun a o e=>le.2 _ _ e⟩
theorem Inv.only {C:Cx} {W:Wd} {σ τ:St} {s:Shared} (I:Inv C W σ s) (hs: ∀l o,τ l=some o→σ l=some o) (hc: ∀l o,τ l=some o→o.In fun l=>(τ l).isSome=true):Inv C (W.only τ) τ s:=by
 have sub: ∀{l a},(W.only τ).ρ l=some a→W.ρ l=some a∧(τ l).isSome=true:=fun{l a} e=>by
  have e:(if(τ l).isSome then W.ρ l else none)=some a:=e
  split at e
  ·rename_i h;exact⟨e,h⟩
  ·cases e
 refine⟨fun l=> ?_,fun l l' a e e'=>I.inj l l' a (sub e).1 (sub e').1,fun l a o e q=> ?_,fun l a e=>I.apart l a (sub e).1,I.fz,I.kept,I.base,I.gens,I.os,I.pos,I.high.1,fun l a e=>I.high.2 _ _ (sub e).1⟩
 ·show(if(τ l).isSome then W.ρ l else none).isSome=(τ l).isSome
  cases q:τ l with
  | none=>rfl
  | some o=>simp only [Option.isSome_some,if_true];rw [I.dom l,hs l o q];rfl
 ·obtain⟨ob,h1,h2⟩:=I.obj l a o (sub e).1 (hs l o q)
  exact⟨ob,h1,h2.cut (W.ocu τ) (hc l o q)⟩
theorem Inv.freeze {C:Cx} {W:Wd} {σ τ:St} {s:Shared} {l:Loc} {xs:List AV} (I:Inv C W σ s) (hl:σ l=some (.list xs)) (ht:τ l=none) (hs: ∀l o,τ l=some o→σ l=some o)
  (hc: ∀l o,τ l=some o→o.In fun l=>(τ l).isSome=true) (hx:AV.Ins (fun l=>(τ l).isSome=true) xs) {v:Value} (hv:VR W (.loc l) v):
  ∃W',Cut W W' (fun l=>(τ l).isSome=true)∧Inv C W' τ s∧VR W' (.lst xs) v:=by
 have I':=I.only hs hc
 obtain⟨a,e,rfl⟩:=hv
 obtain⟨ob,h1,h2⟩:=I.obj l a _ e hl
 obtain⟨c1,vs,n,c2,c3⟩:=h2
 have n2: ∀x,(W.only τ).ρ x≠some a:=fun x q=>by
  have q:(if(τ x).isSome then W.ρ x else none)=some a:=q
  split at q
  ·rename_i h
   have:=I.inj x l a q e
   subst this
   rw [ht]at h;cases h
  ·cases q
 have n1:(W.only τ).fz a=none:=I.apart l a e
 obtain⟨le,I2⟩:=I'.nF (h:=s.heap) (t:=s.toks) (d:=s.drawn) n1 n2 (fun _ _ q=>q) h1
 have cut:Cut W ((W.only τ).freeze a ob) (fun l=>(τ l).isSome=true):=⟨fun x b d q=>(W.ocu τ).1 x b d q,fun x o q=>le.2 _ _ q⟩
 refine⟨_,cut,I2,?_⟩
 refine⟨a,ob,vs,n,rfl,?_,c1,c2,c3.cut cut hx⟩
 show(if a=a then some ob else _)=_
 rw [if_pos rfl]
theorem pig: ∀(n:Nat) (l:List Nat),l.Nodup→(∀a∈l,a<n)→l.length≤n
 | 0,[],_,_=>Nat.le_refl _
 | 0,a::_,_,h=>absurd (h a (.head _)) (Nat.not_lt_zero _)
 | n+1,l,hn,h=>by
  by_cases hm:n∈l
  ·have:=pig n (l.erase n) (hn.erase n) fun a ha=>by
    have h1:=h a (List.mem_of_mem_erase ha)
    have h2:a≠n:=fun e=>by
     subst e;exact(List.Nodup.not_mem_erase hn) ha
    omega
   rw [List.length_erase_of_mem hm]at this
   omega
  ·have:=pig n l hn fun a ha=>by
    have h1:=h a ha
    have h2:a≠n:=fun e=>hm (e▸ha)
    omega
   omega
theorem Inv.free {C:Cx} {W:Wd} {σ:St} {s:Shared} (I:Inv C W σ s): ∃n,∀l:Loc,n≤l.tag→σ l=none:=by
 apply Classical.byContradiction
 intro h
 have h: ∀n,∃l:Loc,n≤l.tag∧(σ l).isSome=true:=fun n=>Classical.byContradiction fun q=>h ⟨n,fun l hl=>by
  cases z:σ l with
  | none=>rfl
  | some o=>exact(q ⟨l,hl,by rw [z];rfl⟩).elim⟩
 have many: ∀m,∃ls:List Loc,ls.length=m∧ls.Nodup∧ ∀l∈ls,(σ l).isSome=true:=by
  intro m
  induction m with
  | zero=>exact⟨[],rfl,List.nodup_nil,fun u h=>(nomatch h)⟩
  | succ m ih=>
   obtain⟨ls,h1,h2,h3⟩:=ih
   obtain⟨l,h4,h5⟩:=h ((ls.map (·.tag)).sum+1)
   refine⟨l::ls,by simp [h1],List.nodup_cons.mpr ⟨fun hm=> ?_,h2⟩,fun x hx=> ?_⟩
   ·have:l.tag≤(ls.map (·.tag)).sum:=by
     clear h1 h2 h3 h4 h5
     induction ls with
     | nil=>cases hm
     | cons y r ih=>
      rw [List.map_cons,List.sum_cons]
      cases hm with
      | head=>omega
      | tail _ hm=>have:=ih hm;omega
    omega
   ·cases hx with
    | head=>exact h5
    | tail _ hx=>exact h3 x hx
 obtain⟨ls,h1,h2,h3⟩:=many (s.heap.objs.size+1)
 have addr: ∀l∈ls,∃a,W.ρ l=some a∧a<s.heap.objs.size:=fun l hl=>by
  have d:=I.dom l
  rw [h3 l hl]at d
  obtain⟨a,e⟩:=Option.isSome_iff_exists.mp d
  obtain⟨o,q⟩:=Option.isSome_iff_exists.mp (h3 l hl)
  obtain⟨ob,z,_⟩:=I.obj l a o e q
  exact⟨a,e,Heap.lt_size z⟩
 have inj:((ls.map fun l=>(W.ρ l).getD 0)).Nodup:=by
  clear h1
  induction ls with
  | nil=>exact List.nodup_nil
  | cons y r ih=>
   rw [List.nodup_cons]at h2
   rw [List.map_cons,List.nodup_cons]
   refine⟨fun hm=> ?_,ih h2.2 (fun l hl=>h3 l (.tail _ hl)) (fun l hl=>addr l (.tail _ hl))⟩
   obtain⟨z,hz,e⟩:=List.mem_map.mp hm
   obtain⟨a,ea,_⟩:=addr y (.head _)
   obtain⟨b,eb,_⟩:=addr z (.tail _ hz)
   rw [ea,eb]at e
   have e:b=a:=e
   subst e
   exact h2.1 (I.inj y z b ea eb▸hz)
 have:=pig s.heap.objs.size _ inj fun a ha=>by
  obtain⟨l,hl,rfl⟩:=List.mem_map.mp ha
  obtain⟨b,eb,lt⟩:=addr l hl
  rw [eb];exact lt
 rw [List.length_map,h1]at this
 omega
end V
end
section
namespace V
section
variable {C:Cx} {k:Nat} {sc:Scope} {A:Around} {W:Wd} {env:Env} {ms ms₁ ms₂ ms':List (Option AV)} {σ σ₁ σ₂ σ':St} {s:Shared}
theorem getElem?_replicate_none {n i:Nat} {v:AV} (h:(List.replicate n (none:Option AV))[i]? =some (some v)):False:=by
 rw [List.getElem?_replicate]at h
 split at h<;>cases h
theorem pC: ∀(names:List (Str×NameKind)) (h:Heap) (acc:List (Str×Addr)) (x:Str) (a:Addr),
  (x,a)∈cellsFrom h.objs.size names acc→(x,a)∈acc∨(h.objs.size≤a∧(pushCells h names).get? a=some {cls:= .type "cell",data:= .cell none})
 | [],_,_,_,_,hm=> .inl hm
 | (n,kind)::r,h,acc,x,a,hm=>by
  unfold cellsFrom at hm
  unfold pushCells
  split at hm
  ·rename_i hk
   rw [if_pos hk]
   have e:(h.push {cls:= .type "cell",data:= .cell none}).objs.size=h.objs.size+1:=Heap.size_push ..
   rw [←e]at hm
   rcases pC r _ _ x a hm with q | ⟨q1,q2⟩
   ·rcases List.mem_cons.mp q with q | q
    ·cases q
     exact .inr ⟨Nat.le_refl _,pushCells_keeps r _ _ _ (Heap.get?_push_size _ rfl)⟩
    ·exact .inl q
   ·exact .inr ⟨by omega,q2⟩
  ·rename_i hk
   rw [if_neg hk]
   exact pC r h acc x a hm
theorem nen {A':Around} {binds:List (Str×Value)} {bs:List (Str×AV)} {qual:Str} {fa:Addr} {code:Value} {outer:List Env} (hok:sO sc=true) (I:Inv C W σ s) (hA:A.frames=some outer) (hS:Stk C W outer)
  (hb:KR W bs binds) (hms:(sc.names.take bs.length).map (·.1)=bs.map (·.1)) (hkind: ∀p∈sc.names.take bs.length,p.2= .local∨p.2= .cell) {Q:Env→Shared→Prop}
  (hQ: ∀env s',At C sc (A.deeper env) W env (bs.map (fun p=>some p.2)++List.replicate (sc.names.length - bs.length) none) σ s'→Q env s'):
  wpAny C.M A' (newFunctionEnv sc mainGlobals [] binds qual (some fa) code none builtinsNs) Q No s:=by
 simp only [newFunctionEnv,Option.isSome_none,Bool.false_eq_true,if_false]
 refine wpAny_bind (wpAny_alloc ?_)
 refine wpAny_bind (wpAny_layCells _ (fun name kind cells=>by cases hkc:kind==NameKind.cell<;>simp [hkc]) _ _ _ _ ?_)
 generalize hfr:({cls:= .type "frame",data:= .dict #[]}:Obj)=fo
 have ok:=cellsFrom_ok sc.names (s.heap.push fo) (s.heap.objs.size+1) [] ⟨fun w g hm=>(nomatch hm),List.Pairwise.nil⟩ (by rw [Heap.size_push];exact Nat.le_refl _)
 have cls:=pC sc.names (s.heap.push fo) []
 have none_:=cellsFrom_names
 dsimp only
 generalize hcells:cellsFrom (s.heap.push fo).objs.size sc.names []=cells at ok cls⊢
 have keep: ∀b o,s.heap.get? b=some o→(pushCells (s.heap.push fo) sc.names).get? b=some o:=fun b o e=>pushCells_keeps _ _ b o (Heap.get?_push_of_some _ e)
 have hL:(pushCells (s.heap.push fo) sc.names).get? s.heap.objs.size=some fo:=pushCells_keeps _ _ _ _ (Heap.get?_push_size _ (by rw [←hfr];rfl))
 generalize henv:({scope:=sc,locals:=s.heap.objs.size,globals:=mainGlobals,cells:=cells,qual:=qual,func:=some fa,code:=code,frame:=some s.heap.objs.size,builtins:=builtinsNs}:Env)=env
 have above: ∀b,s.heap.objs.size≤b→W.fz b=none∧ ∀l,W.ρ l≠some b:=fun b hb=>by
  refine⟨?_,fun l e=> ?_⟩
  ·cases q:W.fz b with
   | none=>rfl
   | some o=>obtain⟨o',z,_⟩:=I.fz b o q;exact absurd (Nat.lt_of_lt_of_le (Heap.lt_size z) hb) (Nat.lt_irrefl _)
  ·have d:=I.dom l
   rw [e]at d
   cases q:σ l with
   | none=>rw [q]at d;cases d
   | some o=>obtain⟨ob,z,_⟩:=I.obj l b o e q;exact absurd (Nat.lt_of_lt_of_le (Heap.lt_size z) hb) (Nat.lt_irrefl _)
 have hlook: ∀(x:Str),(x,NameKind.cell)∈sc.names→ ∃a,cells.lookup x=some a:=fun x hx=>by
  have:=cellsFrom_some (x:=x) sc.names (s.heap.push fo).objs.size [] (.inl (by
   obtain⟨i,hi⟩:=List.getElem?_of_mem hx
   exact lon (sO.nodup hok) hi))
  rw [hcells]at this
  exact Option.isSome_iff_exists.mp this
 have start:At C sc (A.deeper env) W env (List.replicate sc.names.length none) σ {s with heap:=pushCells (s.heap.push fo) sc.names}:=by
  refine⟨I.same keep,?_⟩
  subst henv
  refine⟨rfl,rfl,rfl,hok,⟨fun w=>none,?_,fun i x v w h=>(getElem?_replicate_none h).elim⟩,fun i x hx=> ?_,above _ (Nat.le_refl _),fun x a hm=> ?_,fun x y a hx hy=>name_of_addr ok.apart hx hy,⟨fo,#[],0,hL,.inl ⟨by rw [←hfr],rfl⟩,by rw [←hfr]⟩,?_⟩
  ·subst hfr
   exact(Heap.Ns.new s.heap (.type "frame")).keeps (pushCells_keeps _ _)
  ·obtain⟨a,ha⟩:=hlook x (List.mem_of_getElem? hx)
   exact⟨a,none,ha,(ok.empty x a (mem_of_lookup ha)).1,fun v h=>(getElem?_replicate_none h).elim⟩
  ·rcases cls x a (hcells▸hm)with q | ⟨q1,q2⟩
   ·cases q
   ·rw [Heap.size_push]at q1
    obtain⟨u1,u2⟩:=above a (Nat.le_of_succ_le q1)
    exact⟨u1,u2,fun(z:a=s.heap.objs.size)=>absurd (z▸q1) (Nat.not_succ_le_self _),none,_,q2,rfl,rfl⟩
  ·refine⟨_,outer,s.heap.objs.size,(?_:_=some ({scope:=sc,locals:=s.heap.objs.size,globals:=mainGlobals,cells:=cells,qual:=qual,func:=some fa,code:=code,frame:=some s.heap.objs.size,builtins:=builtinsNs}::outer)),hS,?_,rfl,rfl,?_,.inl ⟨rfl,fo,#[],0,hL,by rw [←hfr],by rw [←hfr]⟩⟩
   ·show A.frames.map _=_
    rw [hA];rfl
   ·show sc.kind≠ .module
    rw [sO.kind hok];decide
   ·exact I.fOl (above _ (Nat.le_refl _)).1
 refine wpAny_bind ?_
 have go: ∀(j:Nat) (b:List (Str×AV)) (r:List (Str×Value)) (s':Shared) (ms:List (Option AV)),KR W b r→ms.length=sc.names.length→(∀(i:Nat) (y:Str×AV),b[i]? =some y→ ∃kd,sc.names[j+i]? =some (y.1,kd)∧(kd= .local∨kd= .cell))→
   At C sc (A.deeper env) W env ms σ s'→ ∀(f:Str×Value→PUnit→Sem (ForInStep PUnit)),(∀n v u,f (n,v) u=(do storeName env n v;pure (.yield ⟨⟩)))→
   ∀(P:PUnit→Shared→Prop),(∀s'',At C sc (A.deeper env) W env (ms.take j++b.map (fun p=>some p.2)++ms.drop (j+b.length)) σ s''→P ⟨⟩ s'')→wpAny C.M A' (forIn r ⟨⟩ f) P No s':=by
  intro j b
  induction b generalizing j with
  | nil=>
   intro r s' ms hb hl hk H f hf P hP
   unfold KR at hb;subst hb
   rw [List.forIn_nil]
   refine wpAny_pure (hP _ ?_)
   simpa using H
  | cons y b ih=>
   intro r s' ms hb hl hk H f hf P hP
   obtain⟨n,x⟩:=y
   obtain⟨v,r',rfl,hx,hb'⟩:=hb
   rw [List.forIn_cons,hf]
   obtain⟨kd,hj,hkd⟩:=hk 0 (n,x) rfl
   have hj:sc.names[j]? =some (n,kd):=hj
   have hjl:j<ms.length:=by rw [hl];exact(List.getElem?_eq_some_iff.mp hj).1
   have next: ∀s'',At C sc (A.deeper env) W env (ms.set j (some x)) σ s''→wpAny C.M A' (forIn r' ⟨⟩ f) P No s'':=fun s'' H''=>by
    refine ih (j+1) r' s'' (ms.set j (some x)) hb' (by rw [List.length_set];exact hl) (fun i y hy=> ?_) H'' f hf P fun s₃ H₃=>hP s₃ ?_
    ·obtain⟨kd',e,z⟩:=hk (i+1) y hy
     exact⟨kd',by rw [←e];congr 1;omega,z⟩
    ·have e1:(ms.set j (some x)).take (j+1)=ms.take j++ [some x]:=by
      rw [List.take_add_one,List.take_set_of_le (Nat.le_refl _),List.getElem?_set_self hjl];rfl
     have e2:(ms.set j (some x)).drop (j+1+b.length)=ms.drop (j+(b.length+1)):=by
      rw [List.drop_set_of_lt (by omega)];congr 1;omega
     rw [e1,e2]at H₃
     simpa [List.append_assoc]using H₃
   rcases hkd with rfl | rfl
   ·exact wpAny_bind (wpAny_bind (slo hj H hx fun s'' H''=>wpAny_pure (next s'' H'')))
   ·exact wpAny_bind (wpAny_bind (sce hj H hx fun s'' H''=>wpAny_pure (next s'' H'')))
 refine go 0 bs binds _ _ hb (by rw [List.length_replicate]) (fun i y hy=> ?_) start _ (fun w g m=>by rw [←henv]) _ fun s'' H''=> ?_
 ·have hlen:i<bs.length:=(List.getElem?_eq_some_iff.mp hy).1
  have e:((sc.names.take bs.length).map (·.1))[i]? =some y.1:=by rw [hms,List.getElem?_map,hy];rfl
  rw [List.getElem?_map,List.getElem?_take_of_lt hlen]at e
  cases q:sc.names[i]? with
  | none=>rw [q]at e;cases e
  | some p=>
   rw [q]at e
   have e:p.1=y.1:=Option.some.inj e
   refine⟨p.2,by rw [Nat.zero_add,q,←e],hkind p ?_⟩
   have:(sc.names.take bs.length)[i]? =some p:=by rw [List.getElem?_take_of_lt hlen];exact q
   exact List.mem_of_getElem? this
 ·refine wpAny_pure (hQ env s'' ?_)
  have e:List.drop (0+bs.length) (List.replicate sc.names.length (none:Option AV))=List.replicate (sc.names.length - bs.length) none:=by
   rw [Nat.zero_add,List.drop_replicate]
  rw [e]at H''
  simpa using H''
noncomputable def Bd (C:Cx) (k:Nat) (fd:FuncData) (σ:St) (as:List AV) (kw:List (Str×AV)) (bs:List (Str×AV)) (σ':St):Prop:=
 ∀W ras rkw,VRe W as ras→KR W kw rkw→Op C k W σ (bindArgs fd ⟨ras,rkw⟩) (fun W r=>KR W bs r) σ'
noncomputable def Exit (σ σf:St) (f:AF) (v:AV) (σ':St):Prop:=
 (∀l o,σ' l=some o→σf l=some o)∧(∀l,(σ l).isSome=true→(σ' l).isSome=true)∧(∀l o,σ' l=some o→σ l=some o∨o.In fun l=>(σ' l).isSome=true)∧
 ((f= .ret v∧v.In fun l=>(σ' l).isSome=true)∨(∃l xs,f= .ret (.loc l)∧v= .lst xs∧σf l=some (.list xs)∧σ' l=none∧AV.Ins (fun l=>(σ' l).isSome=true) xs)∨(f= .next∧v= .none))
noncomputable def outOf:Flow→Value
 | .ret r=>r
 | _=> .none
theorem Exit.go {W₀:Wd} {s₀:Shared} {σf:St} {f:AF} {v:AV} {fl:Flow} (ex:Exit σ σf f v σ') (I₀:Inv C W₀ σ s₀) (le:W₀.le W) (I:Inv C W σf s) (hf:Fl W f fl):
  ∃W',W₀.le W'∧Inv C W' σ' s∧VR W' v (outOf fl):=by
 obtain⟨h1,h2,h3,h4⟩:=ex
 have closed: ∀l o,σ' l=some o→o.In fun l=>(σ' l).isSome=true:=fun l o e=>by
  rcases h3 l o e with q | q
  ·obtain⟨a,ob,e1,e2,e3⟩:=I₀.at q
   have:=e3.iD
   exact(show∀{o:AO},(o.In fun l=>(W₀.ρ l).isSome=true)→o.In fun l=>(σ' l).isSome=true from fun{o} z=>by
    have m: ∀l,(W₀.ρ l).isSome=true→(σ' l).isSome=true:=fun l q=>h2 l (by rw [←I₀.dom l];exact q)
    cases o with
    | list xs=>exact AV.Ins.mono m z
    | dict es=>exact fun p hp=>(z p hp).mono m
    | map es n=>exact fun p hp=>(z p hp).mono m
    | set xs=>trivial
    | inst c d=>exact m d z
    | slots c d vs=>exact⟨m d z.1,fun x hx=>(z.2 x hx).mono m⟩
    | junk=>trivial
    | exc n xs=>exact AV.Ins.mono m z
    | iter l i=>exact m l z) this
  ·exact q
 have dom: ∀l,(W₀.ρ l).isSome=true→(σ' l).isSome=true:=fun l q=>h2 l (by rw [←I₀.dom l];exact q)
 rcases h4 with⟨rfl,hv⟩ | ⟨l,xs,rfl,rfl,hl,hn,hx⟩ | ⟨rfl,rfl⟩
 ·obtain⟨r,rfl,q⟩:=hf
  exact⟨W.only σ',Wd.leo le dom,I.only h1 closed,q.cut (W.ocu σ') hv⟩
 ·obtain⟨r,rfl,q⟩:=hf
  obtain⟨W',cut,I',z⟩:=I.freeze hl hn h1 closed hx q
  exact⟨W',⟨fun l a e=>cut.1 l a (dom l (by rw [e];rfl)) (le.1 _ _ e),fun a o e=>cut.2 _ _ (le.2 _ _ e)⟩,I',z⟩
 ·unfold Fl at hf;subst hf
  exact⟨W.only σ',Wd.leo le dom,I.only h1 closed,by unfold VR;rfl⟩
structure Fn (C:Cx) (fa:Addr) (fd:FuncData) (body:List Stmt):Prop where
 here: ∃oc od osl,C.K.lookup fa=some ⟨oc,od,.func fd,osl⟩
 globals:fd.globals=mainGlobals
 builtins:fd.builtins=builtinsNs
 closure:fd.closure= []
 body:fd.body= .stmts body
 code:codeIn C.K fd.code fd.qualname=true
 co:fd.scope.isCoroutine=false
 gen:fd.scope.isGenerator=false
 ok:sO fd.scope=true
noncomputable def mOf (sc:Scope) (bs:List (Str×AV)):List (Option AV):=bs.map (fun p=>some p.2)++List.replicate (sc.names.length - bs.length) none
theorem Cde {fa:Addr} {fd:FuncData} {body:List Stmt} {as:List AV} {kw:List (Str×AV)} {v:AV} (O:C.Ok) (hF:Fn C fa fd body)
  (h: ∀n,(∀l:Loc,n≤l.tag→σ l=none)→ ∃bs σ₁ f ms' σf,Bd C k fd σ as kw bs σ₁∧(fd.scope.names.take bs.length).map (·.1)=bs.map (·.1)∧(∀p∈fd.scope.names.take bs.length,p.2= .local∨p.2= .cell)∧
   Ex C k fd.scope (mOf fd.scope bs) σ₁ body f ms' σf∧Exit σ σf f v σ'):Ca C (k+1) σ (.ext fa) as kw v σ':=by
 intro W rf ras rkw hf has hkw A s outer hr hA hS I
 unfold VR at hf;subst hf
 obtain⟨n,hn⟩:=I.free
 obtain⟨bs,σ₁,f,ms',σf,hb,hms,hkind,hx,ex⟩:=h n hn
 obtain⟨oc,od,osl,hK⟩:=hF.here
 have ho:=I.kept _ _ (O.kin _ _ hK)
 refine wpAny_call (codeAny_call_function (fd:=fd) hr.depth ho rfl hF.co hF.gen hF.body (codeRec_of (O.kin.keeps I.kept) hF.code) ?_)
 refine wpAny_mono (hb W ras rkw has hkw A.in1 s outer hr.in1 hA hS I) (fun binds s₁ ⟨W₁,le₁,I₁,hb₁⟩=> ?_) fun u w h=>h.elim
 rw [hF.globals,hF.builtins,hF.closure]
 refine wpAny_mono (nen (A:=A) hF.ok I₁ hA (hS.mono le₁) hb₁ hms hkind (Q:=fun env s'=>At C fd.scope (A.deeper env) W₁ env (mOf fd.scope bs) σ₁ s') fun env s' H=>H) (fun env s₂ H=> ?_) fun u w h=>h.elim
 refine⟨O.nolimit.keeps H.inv.kept,codeAny_func ?_⟩
 refine wpAny_mono (hx (A.deeper env) W₁ env s₂ hr.deeper H) (fun fl s' ⟨W₂,le₂,H₂,hf⟩=> ?_) fun u w h=>h.elim
 obtain⟨W₃,le₃,I₃,q⟩:=ex.go I (le₁.trans le₂) H₂.inv hf
 cases fl<;>exact⟨W₃,le₃,I₃,q⟩
theorem Bpu {fd:FuncData} {as:List AV} {kw:List (Str×AV)} {bs:List (Str×AV)} (h: ∀W ras rkw,VRe W as ras→KR W kw rkw→ ∃r,bindArgs fd ⟨ras,rkw⟩=pure r∧KR W bs r):Bd C k fd σ as kw bs σ:=
 fun W ras rkw ha hk A s outer hr hA hS I=>by
  obtain⟨r,e,q⟩:=h W ras rkw ha hk
  rw [e];exact wpAny_pure ⟨W,.refl W,I,q⟩
end
end V
end
section
namespace V
section
variable {M:Model} {A:Around} {E:Value→Shared→Prop} {s:Shared} {Q:Value→Shared→Prop}
theorem cW {f:Value} {first:List Value} {pos:Pos} {args:List (Bool×Sem Value)} {kws:List (Option Str×Sem Value)}
  (h:wpAny M A (evalArgs f true args kws) (fun a s₁=>(∃k,Looks M s₁.heap (keeperOf f) k)∧wpAny M A (call f (first++a.pos) a.kw) Q E s₁) E s):wpAny M A (callWith pos f first args kws) Q E s:=by
 refine wpAny_bind (wpAny_holding (wpAny_mono h (fun a s₁ h₁=>wpAny_bind (wpAny_standAt ?_)) fun u v x=>x))
 obtain⟨⟨k,L⟩,hc⟩:=h₁
 have tail: ∀{t:Sem Value},wpAny M A t Q E s₁→wpAny M A (t>>=fun r=>holding [r] point>>=fun u=>pure r) Q E s₁:=
  fun ht=>wpAny_bind (wpAny_mono ht (fun r s₂ hr=>wpAny_bind (wpAny_holding (wpAny_point (wpAny_pure hr)))) fun u v x=>x)
 have marked (mk:Value):wpAny M A (callMarked mk f (first++a.pos) a.kw) Q E s₁:=by unfold callMarked;exact Calls.wpAny_keep hc
 generalize (args.any (·.1) || kws.any (·.1.isNone))=st
 refine wpAny_bind (L.here ?_)
 cases k<;>cases st<;>dsimp only<;>first
  | exact tail (marked _)
  | exact tail hc
  | exact tail (wpAny_operating hc)
  | (split<;>first | exact tail hc | exact tail (marked _))
  | (refine wpAny_ite ?_;split<;>first | exact tail hc | exact tail (marked _))
theorem nof {l:List (Bool×Sem Value)} (h:l.any (·.1)=false): ∀x,l≠ [(true,x)]:=fun x e=>by rw [e]at h;cases h
theorem evalArgs_kw {f:Value} {args:List (Bool×Sem Value)} {kws:List (Option Str×Sem Value)} {Q:Args→Shared→Prop} (hne: ∀x,args≠ [(true,x)]) (hn:kws.all (·.1.isSome)=true)
  (h:wpAny M A (spliced args) (fun vs s'=>wpAny M A (evalAll (kws.map (·.2))) (fun ks s''=>Q ⟨vs,(kws.filterMap (·.1)).zip ks⟩ s'') E s') E s):wpAny M A (evalArgs f true args kws) Q E s:=by
 have fin: ∀vs s',wpAny M A (evalAll (kws.map (·.2))) (fun ks s''=>Q ⟨vs,(kws.filterMap (·.1)).zip ks⟩ s'') E s'→
   wpAny M A (evalAll (kws.map (·.2))>>=fun ks=>(pure vs:Sem (List Value))>>=fun p=>pure (⟨p,(kws.filterMap (·.1)).zip ks⟩:Args)) Q E s':=fun vs s' h'=>
  wpAny_bind (wpAny_mono h' (fun ks s'' h''=>wpAny_bind (wpAny_pure (wpAny_pure h''))) fun u v x=>x)
 rcases args with _ | ⟨⟨b,x⟩,r⟩
 ·show wpAny M A (spliced []>>=_) Q E s
  refine wpAny_bind (wpAny_mono h (fun vs s' h'=>wpAny_bind (wpAny_pure (wpAny_holding ?_))) fun u v x=>x)
  simp only [hn,if_true]
  exact fin vs s' h'
 ·cases b with
  | false=>
   show wpAny M A (spliced ((false,x)::r)>>=_) Q E s
   refine wpAny_bind (wpAny_mono h (fun vs s' h'=>wpAny_bind (wpAny_pure (wpAny_holding ?_))) fun u v x=>x)
   simp only [hn,if_true]
   exact fin vs s' h'
  | true=>
   rcases r with _ | ⟨y,r⟩
   ·exact absurd rfl (hne x)
   ·show wpAny M A (spliced ((true,x)::y::r)>>=_) Q E s
    refine wpAny_bind (wpAny_mono h (fun vs s' h'=>wpAny_bind (wpAny_pure (wpAny_holding ?_))) fun u v x=>x)
    simp only [hn,if_true]
    exact fin vs s' h'
theorem eAp {f:Value} {args:List (Bool×Sem Value)} {Q:Args→Shared→Prop} (hne: ∀x,args≠ [(true,x)]) (h:wpAny M A (spliced args) (fun vs s'=>Q ⟨vs,[]⟩ s') E s):wpAny M A (evalArgs f true args []) Q E s:=
 evalArgs_kw hne rfl (wpAny_mono h (fun u v h'=>wpAny_pure h') fun u v x=>x)
end
section
variable {C:Cx} {k:Nat} {sc:Scope} {A:Around} {W:Wd} {env:Env} {ms ms₁ ms₂ ms₃ ms':List (Option AV)} {σ σ₁ σ₂ σ₃ σ':St} {s:Shared}
noncomputable def Kp (C:Cx) (f:AV):Prop:= ∀W σ s rf,Inv C W σ s→VR W f rf→ ∃k,Looks C.M s.heap (keeperOf rf) k
theorem Kbi {id:String}:Kp C (.bi id):=fun u v w g m q=>by unfold VR at q;subst q;exact⟨_,Looks.of_pure rfl⟩
theorem Kty {n:String}:Kp C (.ty n):=fun u v w g m q=>by unfold VR at q;subst q;exact⟨_,Looks.of_pure rfl⟩
theorem Ke {a:Addr} (O:C.Ok) (h:keepIn C.K (.ref a)=true):Kp C (.ext a):=fun W σ s rf I q=>by
 unfold VR at q;subst q
 obtain⟨k,_,L⟩:=looks_keep (M:=C.M) h (O.kin.keeps I.kept)
 exact⟨k,L⟩
theorem Kp_bm {f:Addr} {l:Loc} (O:C.Ok) (h: ∃oc od fd osl,C.K.lookup f=some ⟨oc,od,.func fd,osl⟩):Kp C (.bm f l):=fun W σ s rf I q=>by
 obtain⟨a,b,o,e,rfl,f1,z,y⟩:=q
 obtain⟨oc,od,fd,osl,hK⟩:=h
 have ho:=I.frozen f1 (by rw [z];decide)
 have hf:=I.kept _ _ (O.kin _ _ hK)
 refine⟨.boundFrame,fun A Q E s' k' q=> ?_⟩
 refine wpAny_bind (wpAny_load (k' _ _ ho) ?_)
 rw [y,z]
 exact wpAny_bind (wpAny_load (k' _ _ hf) (wpAny_pure q))
theorem Km {id:String} {l:Loc}:Kp C (.mw id l):=fun W σ s rf I q=>by
 obtain⟨a,b,o,e,rfl,f1,z,y⟩:=q
 have ho:=I.frozen f1 (by rw [z];decide)
 refine⟨.machine,fun A Q E s' k' q=> ?_⟩
 refine wpAny_bind (wpAny_load (k' _ _ ho) ?_)
 rw [y,z]
 exact wpAny_pure q
noncomputable def Ks (C:Cx) (k:Nat) (sc:Scope) (ms:List (Option AV)) (σ:St) (pos:Pos) (kws:List Keyword) (vs:List (Str×AV)) (ms':List (Option AV)) (σ':St):Prop:=
 Tr C k sc ms σ (fun env=>evalAll ((backToKw pos (keywordEach kws env)).map (·.2))) (fun W r=>VRe W (vs.map (·.2)) r) ms' σ'
theorem Kni {pos:Pos}:Ks C k sc ms σ pos [] [] ms σ:=fun u W v w g H=>wpAny_pure (ph (.refl W) H .nil)
theorem Kc {pos p:Pos} {n:Str} {e:Expr} {rest:List Keyword} {v:AV} {vs:List (Str×AV)} (h1:Ev C k sc ms σ e v ms₁ σ₁) (h2:Ks C k sc ms₁ σ₁ pos rest vs ms' σ'):
  Ks C k sc ms σ pos (⟨some n,e,p⟩::rest) ((n,v)::vs) ms' σ':=by
 intro A W env s hr H
 show wpAny C.M A (evalAll ((do let v←eval e env;standAt pos;pure v)::(backToKw pos (keywordEach rest env)).map (·.2))) _ _ _
 rw [evalAll]
 refine wpAny_bind (wpAny_bind (pg (h1 A W env s hr H) fun W₁ r s₁ le₁ H₁ q=>wpAny_bind (wpAny_standAt (wpAny_pure ?_))))
 exact wpAny_bind (wpAny_holding (pg (h2 A W₁ env s₁ hr H₁) fun W₂ rs s₂ le₂ H₂ qs=>wpAny_pure (ph (le₁.trans le₂) H₂ (.cons (q.mono le₂) qs))))
theorem KR.nil:KR W [] []:=rfl
theorem Kz: ∀{vs:List (Str×AV)} {rs:List Value},VRe W (vs.map (·.2)) rs→KR W vs ((vs.map (·.1)).zip rs)
 | [],_,_=>rfl
 | (n,x)::r,rs,q=>by
  rw [List.map_cons]at q
  obtain⟨v,rs',rfl,a,b⟩:=q
  exact⟨v,_,rfl,a,Kz b⟩
theorem Ca.in {f:AV} {as:List AV} {kw:List (Str×AV)} {v:AV} {rf:Value} {ras:List Value} {rkw:List (Str×Value)} {R:Value→Shared→Prop} (h:Ca C k σ f as kw v σ') (hr:Ro C A k) (H:At C sc A W env ms σ s)
  (qf:VR W f rf) (qa:VRe W as ras) (qk:KR W kw rkw) (g: ∀W' r s',W.le W'→At C sc A W' env ms σ' s'→VR W' v r→R r s'):wpAny C.M A (call rf ras rkw) R No s:=by
 have le:=ale H.fr
 exact Op.in rfl (h _ rf ras rkw (qf.mono le) (qa.mono le) (qk.mono le)) hr H fun W' r s' le' H' q tk u=>g _ r s' le' H' (tk q)
theorem ECa {fn:Expr} {args:List Expr} {pos:Pos} {f v:AV} {as:List AV} (h1:Ev C k sc ms σ fn f ms₁ σ₁) (h2:Es C k sc ms₁ σ₁ pos args as ms₂ σ₂) (hk:Kp C f) (h3:Ca C k σ₂ f as [] v σ')
  (hs: ∀env,(backTo pos (starEach args env)).any (·.1)=false)
  (he: ∀env,eval (.Call fn args [] pos) env=(do callWith pos (←eval fn env) [] (backTo pos (starEach args env)) (backToKw pos (keywordEach [] env)))):Ev C k sc ms σ (.Call fn args [] pos) v ms₂ σ':=by
 intro A W env s hr H
 show wpAny C.M A (eval (.Call fn args [] pos) env) _ _ _
 rw [he]
 refine pbi (h1 A W env s hr H) fun W₁ rf s₁ le₁ H₁ qf=>cW (eAp (nof (hs env)) (pg (h2 A W₁ env s₁ hr H₁) fun W₂ ras s₂ le₂ H₂ qa=>⟨hk _ _ _ _ H₂.inv (qf.mono le₂),?_⟩))
 exact h3.in hr H₂ (qf.mono le₂) qa .nil fun W₃ r s₃ le₃ H₃ q=>ph (le₁.trans (le₂.trans le₃)) H₃ q
noncomputable def Mt (C:Cx) (k:Nat) (σ:St) (o:AV) (name:Str) (f:AV):Prop:=
 ∀W ro pl,VR W o ro→Op C k W σ (getMethod ro name pl) (fun W r=>VR W f r.1∧r.2= [ro]) σ
theorem eMC (o:Expr) (name:Str) (apos:Pos) (args:List Expr) (kws:List Keyword) (pos:Pos) (env:Env):eval (.Call (.Attribute o name apos) args kws pos) env=(do
  let ov←attributeBase o name env (eval o env)
  standAt apos.atName
  methodCall o name apos pos env ov (args.length+kws.length) (backTo pos (starEach args env)) (backToKw pos (keywordEach kws env))):=rfl
theorem EKw {o:Expr} {name:Str} {apos pos:Pos} {args:List Expr} {kws:List Keyword} {ov f v:AV} {as:List AV} {ks:List (Str×AV)} (h1:Ev C k sc ms σ o ov ms₁ σ₁) (hm:Mt C k σ₁ ov name f) (h2:Es C k sc ms₁ σ₁ pos args as ms₂ σ₂)
  (h2':Ks C k sc ms₂ σ₂ pos kws ks ms₃ σ₃) (hk:Kp C f) (h3:Ca C k σ₃ f (ov::as) ks v σ')
  (hb: ∀env t,attributeBase o name env t=t) (hf: ∀env,methodCallForm (args.length+kws.length) (backTo pos (starEach args env)) (backToKw pos (keywordEach kws env))=true) (hl:(apos.endLine==pos.line)=true)
  (hs: ∀env,(backTo pos (starEach args env)).any (·.1)=false) (hn: ∀env,(backToKw pos (keywordEach kws env)).all (·.1.isSome)=true) (hn': ∀env,(backToKw pos (keywordEach kws env)).filterMap (·.1)=ks.map (·.1)):
  Ev C k sc ms σ (.Call (.Attribute o name apos) args kws pos) v ms₃ σ':=by
 intro A W env s hr H
 rw [eMC,hb]
 refine pbi (h1 A W env s hr H) fun W₁ ro s₁ le₁ H₁ qo=>wpAny_bind (wpAny_standAt ?_)
 unfold methodCall
 rw [hf env]
 refine wpAny_bind (wpAny_holding ?_)
 refine Op.in rfl (hm _ ro _ (qo.mono (ale H₁.fr))) hr H₁ fun W₂ r s₂ le₂ H₂ q tk u=> ?_
 obtain⟨rf,first⟩:=r
 obtain⟨q1,q2⟩:=q
 dsimp only at q1 q2
 subst q2
 replace q1:=tk q1
 have hp:methodCallPos true o env apos pos=pure pos:=by unfold methodCallPos;simp [hl]
 refine wpAny_bind (wpAny_of_eq hp ?_)
 refine cW (evalArgs_kw (nof (hs env)) (hn env) (pg (h2 A _ env s₂ hr H₂) fun W₃ ras s₃ le₃ H₃ qa=>pg (h2' A _ env s₃ hr H₃) fun W₄ rks s₄ le₄ H₄ qk=>⟨hk _ _ _ _ H₄.inv ((q1.mono le₃).mono le₄),?_⟩))
 rw [hn' env]
 exact h3.in hr H₄ ((q1.mono le₃).mono le₄) (.cons (((qo.mono le₂).mono le₃).mono le₄) (qa.mono le₄)) (Kz qk) fun W₅ r s₅ le₅ H₅ q=>ph (le₁.trans (le₂.trans (le₃.trans (le₄.trans le₅)))) H₅ q
theorem EMC {o:Expr} {name:Str} {apos pos:Pos} {args:List Expr} {ov f v:AV} {as:List AV} (h1:Ev C k sc ms σ o ov ms₁ σ₁) (hm:Mt C k σ₁ ov name f) (h2:Es C k sc ms₁ σ₁ pos args as ms₂ σ₂) (hk:Kp C f) (h3:Ca C k σ₂ f (ov::as) [] v σ')
  (hb: ∀env t,attributeBase o name env t=t) (hf: ∀env,methodCallForm args.length (backTo pos (starEach args env)) []=true) (hl:(apos.endLine==pos.line)=true)
  (hs: ∀env,(backTo pos (starEach args env)).any (·.1)=false):
  Ev C k sc ms σ (.Call (.Attribute o name apos) args [] pos) v ms₂ σ':=
 EKw h1 hm h2 Kni hk h3 hb (fun env=>hf env) hl hs (fun u=>rfl) (fun u=>rfl)
theorem EAt {o:Expr} {name:Str} {pos:Pos} {ov v:AV} (h1:Ev C k sc ms σ o ov ms₁ σ₁) (h2:Op1 C k σ₁ (fun x=>getAttr x name true) ov (fun W r=>VR W v r) σ') (hb: ∀env t,attributeBase o name env t=t):
  Ev C k sc ms σ (.Attribute o name pos) v ms₁ σ':=by
 intro A W env s hr H
 rw [arm_eval_Attribute,hb]
 refine pbi (h1 A W env s hr H) fun W₁ ro s₁ le₁ H₁ qo=>wpAny_bind (wpAny_standAt (wpAny_bind (wpAny_holding ?_)))
 refine Op.in rfl (h2 _ ro (qo.mono (ale H₁.fr))) hr H₁ fun W₂ r s₂ le₂ H₂ q tk u=> ?_
 exact wpAny_bind (wpAny_letTemporaryGo (wpAny_pure (ph (le₁.trans le₂) H₂ (tk q))))
theorem AAt {o:Expr} {name:Str} {pos:Pos} {ov v:AV} (h1:Ev C k sc ms σ o ov ms₁ σ₁) (h2:Op2 C k σ₁ (fun x y=>setAttr x name y) ov v (fun u w=>True) σ'):As C k sc ms σ (.Attribute o name pos) v ms₁ σ':=by
 intro A W env s r hr H qv
 rw [arm_assign_Attribute]
 refine wpAny_bind (wpAny_holding (pg (h1 A W env s hr H) fun W₁ ro s₁ le₁ H₁ qo=>wpAny_bind (wpAny_standAt (wpAny_bind (wpAny_holding ?_)))))
 have le:=ale H₁.fr
 refine Op.in rfl (h2 _ ro r (qo.mono le) ((qv.mono le₁).mono le)) hr H₁ fun W₂ u s₂ le₂ H₂ w g m=> ?_
 exact fun Γ p u=>by rw [Sem.wp_release];exact ph (le₁.trans le₂) H₂ trivial
noncomputable def Bg (C:Cx) (σ:St) (o:AV):Prop:= ∀W s ro,Inv C W σ s→VR W o ro→Looks C.M s.heap (getitemInPython ro) false
theorem ESu {o i:Expr} {pos:Pos} {ov iv v:AV} (h1:Ev C k sc ms σ o ov ms₁ σ₁) (h2:Ev C k sc ms₁ σ₁ i iv ms₂ σ₂) (hb:Bg C σ₂ ov) (h3:Op2 C k σ₂ getItem ov iv (fun W r=>VR W v r) σ'):
  Ev C k sc ms σ (.Subscript o i pos) v ms₂ σ':=by
 intro A W env s hr H
 rw [arm_eval_Subscript]
 refine pbi (h1 A W env s hr H) fun W₁ ro s₁ le₁ H₁ qo=>wpAny_bind (wpAny_holding (pg (h2 A W₁ env s₁ hr H₁) fun W₂ ri s₂ le₂ H₂ qi=>wpAny_bind (wpAny_standAt (wpAny_bind ((hb _ _ _ H₂.inv (qo.mono le₂)).here ?_)))))
 have le:=ale H₂.fr
 have key:wpAny C.M A (getItem ro ri) (fun r s₃=> ∃W₃,W₂.le W₃∧At C sc A W₃ env ms₂ σ' s₃∧VR W₃ v r) No s₂:=
  Op.in rfl (h3 _ ro ri ((qo.mono le₂).mono le) (qi.mono le)) hr H₂ fun W₃ r s₃ le₃ H₃ q tk _=>⟨_,le₃,H₃,tk q⟩
 have key':wpAny C.M A (subscripted i false ro ri) (fun r s₃=> ∃W₃,W₂.le W₃∧At C sc A W₃ env ms₂ σ' s₃∧VR W₃ v r) No s₂:=by
  unfold subscripted
  split
  ·exact wpAny_operating key
  ·rename_i h;cases h
  ·exact wpAny_operating key
 refine wpAny_bind (wpAny_mono key' (fun r s₃ ⟨W₃,le₃,H₃,q⟩=> ?_) fun _ _ x=>x)
 exact wpAny_bind (wpAny_letTemporaryGo (wpAny_pure (ph (le₁.trans (le₂.trans le₃)) H₃ q)))
theorem ASu {o i:Expr} {pos:Pos} {ov iv v:AV} (h1:Ev C k sc ms σ o ov ms₁ σ₁) (h2:Ev C k sc ms₁ σ₁ i iv ms₂ σ₂) (h3:Op3 C k σ₂ setItem ov iv v (fun u w=>True) σ'):As C k sc ms σ (.Subscript o i pos) v ms₂ σ':=by
 intro A W env s r hr H qv
 rw [arm_assign_Subscript]
 refine wpAny_bind (wpAny_holding (pg (h1 A W env s hr H) fun W₁ ro s₁ le₁ H₁ qo=>wpAny_bind (wpAny_holding (pg (h2 A W₁ env s₁ hr H₁) fun W₂ ri s₂ le₂ H₂ qi=>wpAny_bind (wpAny_standAt (wpAny_bind (wpAny_holding ?_)))))))
 have le:=ale H₂.fr
 refine Op.in rfl (h3 _ ro ri r ((qo.mono le₂).mono le) (qi.mono le) (((qv.mono le₁).mono le₂).mono le)) hr H₂ fun W₃ u s₃ le₃ H₃ w g m=> ?_
 exact fun Γ p u=>by rw [Sem.wp_release];exact ph (le₁.trans (le₂.trans le₃)) H₃ trivial
theorem OnT {xs:List AV} {vs:List Value} (q:VRe W xs vs) (hz:xs.length≤sizeLine):Op C k W σ (newTuple vs) (fun W r=>VR W (.tup xs) r) σ:=by
 intro A s outer hr hA hS I
 obtain⟨n1,n2⟩:=I.nY
 refine wpAny_newObj_type ?_ (by show vs.toArray.size≤sizeLine;rw [List.size_toArray,q.length];exact hz)
 have g:(s.heap.push {cls:= .type "tuple",data:= .seq vs.toArray}).get? s.heap.objs.size=some {cls:= .type "tuple",data:= .seq vs.toArray}:=Heap.get?_push_size _ rfl
 obtain⟨le,I'⟩:=I.nF (t:=s.toks) (d:=s.drawn) n1 n2 (pke _ _) g
 refine⟨_,le,I',?_⟩
 exact⟨_,_,vs,0,rfl,by show(if _ then _ else _)=_;rw [if_pos rfl],rfl,rfl,q.mono le⟩
theorem OLs {xs:List AV} {vs:List Value} (q:VRe W xs vs) (hz:xs.length≤sizeLine):Op C k W σ (newList vs) (fun W r=>VR W (.lst xs) r) σ:=by
 intro A s outer hr hA hS I
 obtain⟨n1,n2⟩:=I.nY
 refine wpAny_newObj_type ?_ (by show vs.toArray.size≤sizeLine;rw [List.size_toArray,q.length];exact hz)
 have g:(s.heap.push {cls:= .type "list",data:= .seq vs.toArray}).get? s.heap.objs.size=some {cls:= .type "list",data:= .seq vs.toArray}:=Heap.get?_push_size _ rfl
 obtain⟨le,I'⟩:=I.nF (t:=s.toks) (d:=s.drawn) n1 n2 (pke _ _) g
 refine⟨_,le,I',?_⟩
 exact⟨_,_,vs,0,rfl,by show(if _ then _ else _)=_;rw [if_pos rfl],rfl,rfl,q.mono le⟩
theorem OnL {xs:List AV} {vs:List Value} {l:Loc} (q:VRe W xs vs) (hz:xs.length≤sizeLine) (hl:σ l=none):Op C k W σ (newList vs) (fun W r=>VR W (.loc l) r) (σ.set l (.list xs)):=by
 intro A s outer hr hA hS I
 obtain⟨n1,n2⟩:=I.nY
 refine wpAny_newObj_type ?_ (by show vs.toArray.size≤sizeLine;rw [List.size_toArray,q.length];exact hz)
 have g:(s.heap.push {cls:= .type "list",data:= .seq vs.toArray}).get? s.heap.objs.size=some {cls:= .type "list",data:= .seq vs.toArray}:=Heap.get?_push_size _ rfl
 have le0:W.le (W.name l s.heap.objs.size):=⟨fun x b e=>by
  show(if x=l then _ else W.ρ x)=some b
  split
  ·rename_i z;subst z;rw [I.none_of hl]at e;cases e
  ·exact e,fun _ _ e=>e⟩
 obtain⟨le,I'⟩:=I.new (t:=s.toks) (d:=s.drawn) (o:= .list xs) hl n1 n2 I.big (pke _ _) g ⟨rfl,vs,0,rfl,q.mono le0⟩
 refine⟨_,le,I',?_⟩
 exact⟨_,by show(if _ then _ else _)=_;rw [if_pos rfl],rfl⟩
theorem ETu {es:List Expr} {x pos} {vs:List AV} (h:Es C k sc ms σ pos es vs ms' σ') (hz:vs.length≤sizeLine):Ev C k sc ms σ (.Tuple es x pos) (.tup vs) ms' σ':=by
 intro A W env s hr H
 rw [arm_eval_Tuple]
 refine wpAny_bind (wpAny_standAt (pbi (h A W env s hr H) fun W₁ rs s₁ le₁ H₁ q=> ?_))
 exact Op.in rfl (OnT (q.mono (ale H₁.fr)) hz) hr H₁ fun W₂ r s₂ le₂ H₂ q tk u=>ph (le₁.trans le₂) H₂ (tk q)
theorem ELs {es:List Expr} {pos} {vs:List AV} (h:Es C k sc ms σ pos es vs ms' σ') (hz:vs.length≤sizeLine):Ev C k sc ms σ (.List es pos) (.lst vs) ms' σ':=by
 intro A W env s hr H
 rw [arm_eval_List]
 refine wpAny_bind (wpAny_standAt (pbi (h A W env s hr H) fun W₁ rs s₁ le₁ H₁ q=> ?_))
 exact Op.in rfl (OLs (q.mono (ale H₁.fr)) hz) hr H₁ fun W₂ r s₂ le₂ H₂ q tk u=>ph (le₁.trans le₂) H₂ (tk q)
theorem ELi {es:List Expr} {pos} {vs:List AV} (l:Loc) (h:Es C k sc ms σ pos es vs ms' σ') (hz:vs.length≤sizeLine) (hl:σ' l=none):Ev C k sc ms σ (.List es pos) (.loc l) ms' (σ'.set l (.list vs)):=by
 intro A W env s hr H
 rw [arm_eval_List]
 refine wpAny_bind (wpAny_standAt (pbi (h A W env s hr H) fun W₁ rs s₁ le₁ H₁ q=> ?_))
 exact Op.in rfl (OnL (q.mono (ale H₁.fr)) hz hl) hr H₁ fun W₂ r s₂ le₂ H₂ q tk u=>ph (le₁.trans le₂) H₂ (tk q)
end
end V
end
section
namespace V
section
variable {C:Cx} {k:Nat} {sc:Scope} {A:Around} {W:Wd} {env:Env} {ms ms₁ ms₂ ms₃ ms':List (Option AV)} {σ σ₁ σ₂ σ₃ σ':St} {s:Shared}
noncomputable def Fre (W:Wd) (a:Addr):Prop:=W.fz a=none∧ ∀l,W.ρ l≠some a
structure Itr (C:Cx) (k:Nat) (ok:St→Prop) (v:AV) (xs:List AV) (src:AV) (Sh:Nat→Value→Obj→Prop):Prop where
 jk: ∀i rv ob,Sh i rv ob→Jk ob∧ob.cls≠ .type "frame"
 start: ∀W σ rv A s outer,ok σ→Ro C A k→A.frames=some outer→Stk C W outer→Inv C W σ s→VR W v rv→
  wpAny C.M A (pyIter rv) (fun r s'=> ∃W' it ob rs,W.le W'∧Inv C W' σ s'∧r= .ref it∧s'.heap.get? it=some ob∧Fre W' it∧VR W' src rs∧Sh 0 rs ob) No s
 self: ∀i rs ob it A s E (Q:Value→Shared→Prop),s.heap.get? it=some ob→Sh i rs ob→Q (.ref it) s→wpAny C.M A (pyIter (.ref it)) Q E s
 next: ∀i x W σ rs ob it A s outer,xs[i]? =some x→ok σ→Ro C A k→A.frames=some outer→Stk C W outer→Inv C W σ s→s.heap.get? it=some ob→Fre W it→VR W src rs→Sh i rs ob→
  wpAny C.M A (pyNext (.ref it)) (fun r s'=> ∃W' rx ob',W.le W'∧Inv C W' σ s'∧r=some rx∧VR W' x rx∧s'.heap.get? it=some ob'∧Fre W' it∧Sh (i+1) rs ob') No s
 stop: ∀W σ rs ob it A s outer,ok σ→Ro C A k→A.frames=some outer→Stk C W outer→Inv C W σ s→s.heap.get? it=some ob→Fre W it→VR W src rs→Sh xs.length rs ob→
  wpAny C.M A (pyNext (.ref it)) (fun r s'=> ∃W',W.le W'∧Inv C W' σ s'∧r=none) No s
 letgo: ∀i W σ rs rx ob it A s (tgt:Expr),Inv C W σ s→s.heap.get? it=some ob→Fre W it→Sh i rs ob→
  wpAny C.M A (letOwnedTupleGo tgt (.ref it) rx) (fun _ s'=> ∃ob',Inv C W σ s'∧s'.heap.get? it=some ob'∧Sh i rs ob'∧ ∀b o,b≠it→s.heap.get? b=some o→s'.heap.get? b=some o) No s
inductive Lr (C:Cx) (k:Nat) (sc:Scope) (ok:St→Prop) (tgt:Expr) (body:List Stmt):List AV→List (Option AV)→St→AF→List (Option AV)→St→Prop
 | nil {ms:List (Option AV)} {σ:St} (h:ok σ):Lr C k sc ok tgt body [] ms σ .next ms σ
 | cons {x:AV} {xs:List AV} {ms ms₁ ms₂ ms':List (Option AV)} {σ σ₁ σ₂ σ':St} {f₁ f:AF} (h:ok σ) (ha:As C k sc ms σ tgt x ms₁ σ₁) (hx:Ex C k sc ms₁ σ₁ body f₁ ms₂ σ₂) (hf:f₁= .next∨f₁= .cont)
   (hr:Lr C k sc ok tgt body xs ms₂ σ₂ f ms' σ'):Lr C k sc ok tgt body (x::xs) ms σ f ms' σ'
 | stop {x:AV} {xs:List AV} {ms ms₁ ms':List (Option AV)} {σ σ₁ σ':St} {f:AF} (h:ok σ) (ha:As C k sc ms σ tgt x ms₁ σ₁) (hx:Ex C k sc ms₁ σ₁ body f ms' σ') (hf:f= .brk∨ ∃v,f= .ret v):
   Lr C k sc ok tgt body (x::xs) ms σ f ms' σ'
noncomputable def AF.after:AF→AF
 | .ret v=> .ret v
 | _=> .next
theorem mark_none (A:Around):A.mark none=A:=by cases A;rfl
theorem FRe.keep {h h':Heap} {it:Addr} (F:FRe C sc A W env ms h) (n1: ¬Own env it) (n2:W.fz it=none) (n3:env.frame≠some it) (k: ∀b o,b≠it→h.get? b=some o→h'.get? b=some o):FRe C sc A W env ms h':=by
 obtain⟨mr,⟨o,es,ep,ho,hr⟩,hv⟩:=F.ns
 have nl:env.locals≠it:=fun z=>n1 (.inl z.symm)
 refine⟨F.scope,F.globals,F.builtins,F.ok,⟨mr,⟨o,es,ep,k _ _ nl ho,hr⟩,hv⟩,fun i x hx=> ?_,F.apL,fun x a hx=> ?_,F.injC,?_,?_⟩
 ·obtain⟨a,ov,h1,⟨oc,h2,h3⟩,h4⟩:=F.cells i x hx
  exact⟨a,ov,h1,⟨oc,k _ _ (fun z=>n1 (.inr (z▸List.mem_map.mpr ⟨(x,a),mem_of_lookup h1,rfl⟩))) h2,h3⟩,h4⟩
 ·obtain⟨h1,h2,h3,ov,oc,h4,h5⟩:=F.apC x a hx
  exact⟨h1,h2,h3,ov,oc,k _ _ (fun z=>n1 (.inr (z▸List.mem_map.mpr ⟨(x,a),hx,rfl⟩))) h4,h5⟩
 ·obtain⟨o,es,n,h1,h2⟩:=F.clsL
  exact⟨o,es,n,k _ _ nl h1,h2⟩
 ·obtain⟨fenv,rest,L,h1,h2,h3,h4,h5,h6,h7⟩:=F.stk
  refine⟨fenv,rest,L,h1,h2,h3,h4,h5,h6,?_⟩
  rcases h7 with⟨rfl,o,es,n,e1,e2⟩ | z
  ·exact .inl ⟨rfl,o,es,n,k _ _ nl e1,e2⟩
  ·exact .inr z
theorem FRe.fne {h:Heap} {it:Addr} (F:FRe C sc A W env ms h) (n1: ¬Own env it) (n2:W.fz it=none):env.frame≠some it:=fun e=>by
 obtain⟨fenv,rest,L,h1,h2,h3,h4,h5,h6,h7⟩:=F.stk
 rw [h5]at e;cases e
 rcases h7 with⟨rfl,_⟩ | ⟨o,_,_,z,_⟩
 ·exact n1 (.inl rfl)
 ·rw [n2]at z;cases z
theorem ona {h:Heap} {it:Addr} {W':Wd} (F:FRe C sc A W env ms h) (le:(aside W env h).le W') (n:W'.fz it=none): ¬Own env it:=fun q=>by
 obtain⟨_,_,o,h1,_⟩:=F.own q
 have:(aside W env h).fz it=some o:=by
  show(if _ then _ else _)=_
  rw [if_pos q];exact h1
 rw [le.2 _ _ this]at n;cases n
structure Ho (C:Cx) (W:Wd) (env:Env) (src:AV) (Sh:Nat→Value→Obj→Prop) (i:Nat) (it:Addr) (s:Shared):Prop where
 ex: ∃ob rs,s.heap.get? it=some ob∧VR W src rs∧Sh i rs ob
 fresh:Fre W it
 own: ¬Own env it
 new:C.h₀.get? it=none
theorem ist {ok:St→Prop} {v:AV} {xs:List AV} {src:AV} {Sh:Nat→Value→Obj→Prop} {rv:Value} {Q:Value→Shared→Prop} (I:Itr C k ok v xs src Sh) (hok:ok σ) (hr:Ro C A k) (H:At C sc A W env ms σ s) (q:VR W v rv)
  (g: ∀W' it s',W.le W'→At C sc A W' env ms σ s'→Ho C W' env src Sh 0 it s'→Q (.ref it) s'):wpAny C.M A (pyIter rv) Q No s:=by
 obtain⟨outer,ho,hs⟩:=ass H.fr
 refine wpAny_mono (I.start _ σ rv A s outer hok hr ho hs (ain H.inv H.fr) (q.mono (ale H.fr))) (fun r s' hh=> ?_) fun u w h=>h
 obtain⟨W',it,ob,rs,le,I',rfl,hg,hf,hv,hsh⟩:=hh
 obtain⟨l2,I2,F2,v1,_⟩:=FRe.back H.inv H.fr le I'
 have no:=ona H.fr le hf.1
 refine g _ it s' l2 ⟨I2,F2⟩ ⟨⟨ob,rs,hg,v1 hv,hsh⟩,⟨?_,hf.2⟩,no,?_⟩
 ·rw [Wd.mou no];exact hf.1
 ·exact I'.fOl hf.1
theorem ine {ok:St→Prop} {v:AV} {xs:List AV} {src:AV} {Sh:Nat→Value→Obj→Prop} {i:Nat} {x:AV} {it:Addr} {Q:Option Value→Shared→Prop} (I:Itr C k ok v xs src Sh) (hx:xs[i]? =some x) (hok:ok σ) (hr:Ro C A k)
  (H:At C sc A W env ms σ s) (K:Ho C W env src Sh i it s)
  (g: ∀W' rx s',W.le W'→At C sc A W' env ms σ s'→Ho C W' env src Sh (i+1) it s'→VR W' x rx→Q (some rx) s'):wpAny C.M A (pyNext (.ref it)) Q No s:=by
 obtain⟨outer,ho,hs⟩:=ass H.fr
 obtain⟨ob,rs,hg,hv,hsh⟩:=K.ex
 have fa:Fre (aside W env s.heap) it:=⟨by
  show(if _ then _ else _)=_
  rw [if_neg K.own];exact K.fresh.1,K.fresh.2⟩
 refine wpAny_mono (I.next i x _ σ rs ob it A s outer hx hok hr ho hs (ain H.inv H.fr) hg fa (hv.mono (ale H.fr)) hsh) (fun r s' hh=> ?_) fun u w h=>h
 obtain⟨W',rx,ob',le,I',rfl,hx',hg',hf,hsh'⟩:=hh
 obtain⟨l2,I2,F2,v1,_⟩:=FRe.back H.inv H.fr le I'
 exact g _ rx s' l2 ⟨I2,F2⟩ ⟨⟨ob',rs,hg',hv.mono l2,hsh'⟩,⟨by rw [Wd.mou K.own];exact hf.1,hf.2⟩,K.own,K.new⟩ (v1 hx')
theorem isa {ok:St→Prop} {v:AV} {xs:List AV} {src:AV} {Sh:Nat→Value→Obj→Prop} {it:Addr} {Q:Option Value→Shared→Prop} (I:Itr C k ok v xs src Sh) (hok:ok σ) (hr:Ro C A k)
  (H:At C sc A W env ms σ s) (K:Ho C W env src Sh xs.length it s)
  (g: ∀W' s',W.le W'→At C sc A W' env ms σ s'→Q none s'):wpAny C.M A (pyNext (.ref it)) Q No s:=by
 obtain⟨outer,ho,hs⟩:=ass H.fr
 obtain⟨ob,rs,hg,hv,hsh⟩:=K.ex
 have fa:Fre (aside W env s.heap) it:=⟨by
  show(if _ then _ else _)=_
  rw [if_neg K.own];exact K.fresh.1,K.fresh.2⟩
 refine wpAny_mono (I.stop _ σ rs ob it A s outer hok hr ho hs (ain H.inv H.fr) hg fa (hv.mono (ale H.fr)) hsh) (fun r s' hh=> ?_) fun u w h=>h
 obtain⟨W',le,I',rfl⟩:=hh
 obtain⟨l2,I2,F2,_,_⟩:=FRe.back H.inv H.fr le I'
 exact g _ s' l2 ⟨I2,F2⟩
theorem il {ok:St→Prop} {v:AV} {xs:List AV} {src:AV} {Sh:Nat→Value→Obj→Prop} {i:Nat} {tgt:Expr} {rx:Value} {it:Addr} {Q:Unit→Shared→Prop} (I:Itr C k ok v xs src Sh)
  (H:At C sc A W env ms σ s) (K:Ho C W env src Sh i it s) (g: ∀s',At C sc A W env ms σ s'→Ho C W env src Sh i it s'→Q () s'):wpAny C.M A (letOwnedTupleGo tgt (.ref it) rx) Q No s:=by
 obtain⟨ob,rs,hg,hv,hsh⟩:=K.ex
 refine wpAny_mono (I.letgo i W σ rs rx ob it A s tgt H.inv hg K.fresh hsh) (fun _ s' ⟨ob',I',hg',hsh',hk⟩=> ?_) fun u w h=>h
 exact g s' ⟨I',H.fr.keep K.own K.fresh.1 (H.fr.fne K.own K.fresh.1) hk⟩ ⟨⟨ob',rs,hg',hv,hsh'⟩,K.fresh,K.own,K.new⟩
theorem hoh {α:Type} {ok:St→Prop} {v:AV} {xs:List AV} {src:AV} {Sh:Nat→Value→Obj→Prop} {i:Nat} {it:Addr} {t:Sem α} {R:Wd→α→Prop} {Q:α→Shared→Prop} (I:Itr C k ok v xs src Sh)
  (H:At C sc A W env ms σ s) (K:Ho C W env src Sh i it s)
  (h: ∀W₁,W.le W₁→At C sc A W₁ env ms σ s→wpAny C.M A t (Pa C sc A W₁ env ms' σ' R) No s)
  (hR: ∀W₁ (X:Addr→Prop) r,(∀a o,X a→W₁.fz a=some o→Jk o)→R W₁ r→R (W₁.minus X) r)
  (g: ∀W' r s',W.le W'→At C sc A W' env ms' σ' s'→Ho C W' env src Sh i it s'→R W' r→Q r s'):wpAny C.M A t Q No s:=by
 obtain⟨ob,rs,hg,hv,hsh⟩:=K.ex
 obtain⟨jk,nf⟩:=I.jk i rs ob hsh
 obtain⟨le1,H1⟩:=H.freeze hg K.fresh.1 K.fresh.2 K.own
 refine wpAny_mono (h _ le1 H1) (fun r s' ⟨W',le,H',hr⟩=> ?_) fun u w h=>h
 have e:W'.fz it=some ob:=le.2 _ _ (by show(if _ then _ else _)=_;rw [if_pos rfl])
 obtain⟨H2,ob',hg',rfl⟩:=H'.thaw e jk nf K.new
 have hc: ∀a o,a=it→W'.fz a=some o→Jk o:=fun a o z q=>by
  subst z;rw [e]at q;cases q;exact jk
 have le2:W.le (W'.minus (· =it)):=⟨fun l a q=>le.1 _ _ (le1.1 _ _ q),fun a o q=>by
  rw [Wd.mou (X:=(· =it)) fun z=>by
   have z:a=it:=z
   subst z;rw [K.fresh.1]at q;cases q]
  exact le.2 _ _ (le1.2 _ _ q)⟩
 refine g _ r s' le2 H2 ⟨⟨ob',rs,hg',hv.mono le2,hsh⟩,⟨Wd.mii (X:=(· =it)) rfl,fun l q=> ?_⟩,K.own,K.new⟩ (hR _ _ _ hc hr)
 have:=H'.inv.apart l it q
 rw [e]at this;cases this
theorem Fl.minus {f:AF}: ∀W₁ (X:Addr→Prop) (r:Flow),(∀a o,X a→W₁.fz a=some o→Jk o)→Fl W₁ f r→Fl (W₁.minus X) f r:=fun W₁ X r hc q=>by
 cases f with
 | ret v=>obtain⟨x,e,q⟩:=q;exact⟨x,e,q.taken hc⟩
 | _=>exact q
theorem fol {ok:St→Prop} {v:AV} {full:List AV} {src:AV} {Sh:Nat→Value→Obj→Prop} {tgt:Expr} {body:List Stmt} (I:Itr C k ok v full src Sh) {xs:List AV} {f:AF}
  (L:Lr C k sc ok tgt body xs ms σ f ms' σ'): ∀(i:Nat) (A:Around) (W:Wd) (env:Env) (s:Shared) (it:Addr),full.drop i=xs→i≤full.length→Ro C A k→At C sc A W env ms σ s→Ho C W env src Sh i it s→
  codeAny C.M A (.forLoop tgt (.ref it) body [] env) (fun r s'=>match r with | .ok fl=>Pa C sc A W env ms' σ' (fun W r=>Fl W f.after r) fl s' | .error _=>False) s:=by
 induction L with
 | nil hok=>
  intro i A W env s it hd hi hr H K
  have hlen:i=full.length:=by
   have:=congrArg List.length hd
   rw [List.length_drop]at this
   simp at this;omega
  subst hlen
  refine codeAny_of_tree ?_
  rw [Around.under_of_weight (A:=A) (c:= .forLoop tgt (.ref it) body [] env) rfl]
  show wpAny C.M A ((forTurn tgt (.ref it) body [] env).onRaise _) _ _ s
  refine wpAny_onRaise (wpAny_mono ?_ (fun u w h=>h) (fun _ _ (h:False)=>h.elim))
  refine wpAny_bind (wpAny_standAt (wpAny_bind (wpAny_onRaise (wpAny_mono (isa (Q:=fun r s'=>r=none∧ ∃W',W.le W'∧At C sc A W' env _ _ s') I hok hr H K fun W' s' le H'=>⟨rfl,W',le,H'⟩) (fun r s' hh=> ?_) fun u w h=>h.elim))))
  obtain⟨rfl,W',le,H'⟩:=hh
  refine wpAny_pure ⟨rfl,codeAny_of_tree ?_⟩
  rw [Around.under_of_weight (A:=A) (c:= .block [] env) rfl]
  show wpAny C.M A (do return Fin.done (←(execs [] env).onRaise _)) _ _ s'
  exact wpAny_bind (wpAny_onRaise (wpAny_execs_nil (wpAny_pure (ph le H' rfl))))
 | @cons x xs' ms0 ms1 ms2 ms3 σ0 σ1 σ2 σ3 f₁ f hok ha hx hf hl ih=>
  intro i A W env s it hd hi hr H K
  have hx0:full[i]? =some x:=by
   have e:(full.drop i)[0]? =some x:=by rw [hd];rfl
   rw [List.getElem?_drop]at e;simpa using e
  have hd':full.drop (i+1)=xs':=by
   rw [←List.drop_drop,hd];rfl
  have hi':i+1≤full.length:=(List.getElem?_eq_some_iff.mp hx0).1
  refine codeAny_of_tree ?_
  rw [Around.under_of_weight (A:=A) (c:= .forLoop tgt (.ref it) body [] env) rfl]
  show wpAny C.M A ((forTurn tgt (.ref it) body [] env).onRaise _) _ _ s
  refine wpAny_onRaise (wpAny_mono ?_ (fun u w h=>h) (fun _ _ (h:False)=>h.elim))
  refine wpAny_bind (wpAny_standAt (wpAny_bind (wpAny_onRaise (wpAny_mono (ine (Q:=fun r s'=> ∃W' rx,r=some rx∧W.le W'∧At C sc A W' env _ _ s'∧Ho C W' env src Sh (i+1) it s'∧VR W' x rx) I hx0 hok hr H K
   fun W' rx s' le H' K' q=>⟨W',rx,rfl,le,H',K',q⟩) (fun r s' hh=> ?_) fun u w h=>h.elim))))
  obtain⟨W',rx,rfl,le,H',K',q⟩:=hh
  refine wpAny_bind (il I H' K' fun s₁ H₁ K₁=> ?_)
  refine wpAny_bind (hoh I H₁ K₁ (fun W₂ l2 H₂=>ha A W₂ env s₁ rx hr H₂ (q.mono l2)) (fun u w g m y=>trivial) fun W₂ u s₂ le₂ H₂ K₂ w=> ?_)
  refine wpAny_bind (hoh I H₂ K₂ (fun W₃ l3 H₃=>hx A W₃ env s₂ hr H₃) Fl.minus fun W₃ r s₃ le₃ H₃ K₃ hfl=> ?_)
  have le':=le.trans (le₂.trans le₃)
  have go:=ih (i+1) A W₃ env s₃ it hd' hi' hr H₃ K₃
  have go':codeAny C.M A (.forLoop tgt (.ref it) body [] env) (fun r s'=>match r with | .ok fl=>Pa C sc A W env ms3 σ3 (fun W r=>Fl W f.after r) fl s' | .error _=>False) s₃:=
   codeAny_mono go fun r s' hh=>by
    cases r with
    | ok fl=>obtain⟨W',l,z⟩:=hh;exact⟨W',le'.trans l,z⟩
    | error e=>exact hh
  rcases hf with rfl | rfl<;>(unfold Fl at hfl;subst hfl;exact wpAny_pure ⟨rfl,go'⟩)
 | @stop x xs' ms0 ms1 ms3 σ0 σ1 σ3 f hok ha hx hf=>
  intro i A W env s it hd hi hr H K
  have hx0:full[i]? =some x:=by
   have e:(full.drop i)[0]? =some x:=by rw [hd];rfl
   rw [List.getElem?_drop]at e;simpa using e
  refine codeAny_of_tree ?_
  rw [Around.under_of_weight (A:=A) (c:= .forLoop tgt (.ref it) body [] env) rfl]
  show wpAny C.M A ((forTurn tgt (.ref it) body [] env).onRaise _) _ _ s
  refine wpAny_onRaise (wpAny_mono ?_ (fun u w h=>h) (fun _ _ (h:False)=>h.elim))
  refine wpAny_bind (wpAny_standAt (wpAny_bind (wpAny_onRaise (wpAny_mono (ine (Q:=fun r s'=> ∃W' rx,r=some rx∧W.le W'∧At C sc A W' env _ _ s'∧Ho C W' env src Sh (i+1) it s'∧VR W' x rx) I hx0 hok hr H K
   fun W' rx s' le H' K' q=>⟨W',rx,rfl,le,H',K',q⟩) (fun r s' hh=> ?_) fun u w h=>h.elim))))
  obtain⟨W',rx,rfl,le,H',K',q⟩:=hh
  refine wpAny_bind (il I H' K' fun s₁ H₁ K₁=> ?_)
  refine wpAny_bind (hoh I H₁ K₁ (fun W₂ l2 H₂=>ha A W₂ env s₁ rx hr H₂ (q.mono l2)) (fun u w g m y=>trivial) fun W₂ u s₂ le₂ H₂ K₂ w=> ?_)
  refine wpAny_bind (pg (hx A W₂ env s₂ hr H₂) fun W₃ r s₃ le₃ H₃ hfl=> ?_)
  have le':=le.trans (le₂.trans le₃)
  rcases hf with rfl | ⟨v,rfl⟩
  ·unfold Fl at hfl;subst hfl
   exact wpAny_pure (ph le' H₃ rfl)
  ·obtain⟨x,rfl,z⟩:=hfl
   exact wpAny_pure (ph le' H₃ ⟨x,rfl,z⟩)
theorem XF {tgt iter:Expr} {body:List Stmt} {pos:Pos} {v:AV} {ok:St→Prop} {xs:List AV} {src:AV} {Sh:Nat→Value→Obj→Prop} {f:AF}
  (h1:Ev C k sc ms σ iter v ms₁ σ₁) (I:Itr C k ok v xs src Sh) (hok:ok σ₁) (L:Lr C k sc ok tgt body xs ms₁ σ₁ f ms' σ')
  (hs: ∀env x,foldedSetIterable iter env x=pure x):X1 C k sc ms σ (.For tgt iter body [] pos) f.after ms' σ':=by
 intro A W env s hr H
 show wpAny C.M A (exec (.For tgt iter body [] pos) env) _ _ _
 rw [arm_exec_For]
 refine wpAny_bind (wpAny_standAt (pbi (h1 A W env s hr H) fun W₁ rv s₁ le₁ H₁ q=>wpAny_bind (wpAny_of_eq (hs _ _) (wpAny_bind (wpAny_standAt (wpAny_bind (wpAny_holding ?_)))))))
 refine ist I hok hr H₁ q fun W₂ it s₂ le₂ H₂ K₂=> ?_
 refine wpAny_runOwn (h:=none) ?_
 rw [mark_none]
 refine codeAny_mono (fol I L 0 A W₂ env s₂ it rfl (Nat.zero_le _) hr H₂ K₂) fun r s' hh=> ?_
 cases r with
 | ok fl=>obtain⟨W',l,z⟩:=hh;exact⟨W',le₁.trans (le₂.trans l),z⟩
 | error e=>exact hh.elim
end
end V
end
section
namespace V
noncomputable def eTr (e:Expr) (acc:Value) (env:Env):Sem Unit:=match e with
 | .ListComp elt _ _ _=>do let _←call (.builtin "list.append") [acc,←eval elt env]
 | .DictComp k v _ _ _=>do
  let kv←eval k env
  let vv←holding [kv] (eval v env)
  match acc with
  | .ref d=>do
   standAt {k.pos with endLine:=v.pos.endLine,endCol:=v.pos.endCol}
   holding [kv,vv] (dictSet d kv vv)
  | _=>unsupported "internal:dictcomp"
 | _=>unsupported "internal:not-a-comprehension"
noncomputable def gOf:Expr→Option (List Comprehension)
 | .ListComp _ gens _ _=>some gens
 | _=>none
theorem gca {e:Expr} {gens:List Comprehension} (he:gOf e=some gens): ∃a b c,e= .ListComp a gens b c:=by
 unfold gOf at he
 split at he
 ·cases he;exact⟨_,_,_,rfl⟩
 ·cases he
noncomputable def iT (e:Expr) (gens:List Comprehension) (depth:Nat) (acc:Value) (env:Env):Sem Unit:=
 match gens[depth]? with
 | some g'=>do
  let x←eval g'.iter env
  standAt g'.iter.pos
  let x←if g'.is_async !=0 then foldedIterable g'.iter x else foldedSetIterable g'.iter env x
  let _←runOwn (.compStart e depth (←holding [x] (if g'.is_async !=0 then asyncIter x else pyIter x)) acc env) env
  pure ()
 | none=>eTr e acc env
section
variable {C:Cx} {k:Nat} {sc:Scope} {A:Around} {W:Wd} {env:Env} {ms ms₁ ms₂ ms₃ ms':List (Option AV)} {σ σ₁ σ₂ σ₃ σ':St} {s:Shared}
theorem cTn {e:Expr} {gens:List Comprehension} {g:Comprehension} {depth:Nat} {it acc:Value} {E:Value→Shared→Prop} {Q:Fin→Shared→Prop} (he:gOf e=some gens) (hg:gens[depth]? =some g) (ha:g.is_async=0)
  (h:wpAny C.M A (pyNext it) (fun r s'=>r=none∧Q (.done .next) s') E s):wpAny C.M A (compTurn e depth it acc env) Q E s:=by
 rcases gca he with⟨_,_,_,rfl⟩
 all_goals
  unfold compTurn
  dsimp only
  rw [hg]
  simp only [ha,bne_self_eq_false,Bool.false_eq_true,if_false]
  refine wpAny_bind (wpAny_standAt (wpAny_bind (wpAny_mono h (fun r s' hh=> ?_) fun u v x=>x)))
  obtain⟨rfl,q⟩:=hh
  exact wpAny_pure q
theorem wAa {α:Type} {M:Model} {t t':Sem α} {Q:α→Shared→Prop} {E:Value→Shared→Prop} (e:t=t') (h:wpAny M A t' Q E s):wpAny M A t Q E s:=e▸h
theorem cTs {e:Expr} {gens:List Comprehension} {g:Comprehension} {depth:Nat} {it acc:Value} {E:Value→Shared→Prop} {Q:Fin→Shared→Prop} (he:gOf e=some gens) (hg:gens[depth]? =some g) (ha: ∀g∈gens,g.is_async=0)
  (hi:g.ifs= []∨ ∃c,g.ifs= [c])
  (h:wpAny C.M A (pyNext it) (fun r s'=> ∃v,r=some v∧wpAny C.M A (letOwnedTupleGo g.target it v) (fun u s₁=>wpAny C.M A (assign g.target env v) (fun u s₂=>
   wpAny C.M A (match g.ifs with | c::_=>isTrue c env (eval c env) | []=>pure true) (fun b s₃=>if b then wpAny C.M A (iT e gens (depth+1) acc env) (fun u s₄=>Q (.again (.compLoop e depth it acc env)) s₄) E s₃ else Q (.again (.compLoop e depth it acc env)) s₃) E s₂) E s₁) E s') E s):
  wpAny C.M A (compTurn e depth it acc env) Q E s:=by
 have ha0:=ha g (List.mem_of_getElem? hg)
 have fin: ∀s',wpAny C.M A (iT e gens (depth+1) acc env) (fun u s₄=>Q (.again (.compLoop e depth it acc env)) s₄) E s'→
   wpAny C.M A (iT e gens (depth+1) acc env>>=fun u=>again (.compLoop e depth it acc env)) Q E s':=fun s' z=>wpAny_bind (wpAny_mono z (fun u s₄ z=>wpAny_pure z) fun u w x=>x)
 rcases gca he with⟨_,_,_,rfl⟩
 all_goals
  unfold compTurn
  dsimp only
  rw [hg]
  simp only [ha0,bne_self_eq_false,Bool.false_eq_true,if_false]
  refine wpAny_bind (wpAny_standAt (wpAny_bind (wpAny_mono h (fun r s' hh=> ?_) fun u w x=>x)))
  obtain⟨v,rfl,q⟩:=hh
  dsimp only
  refine wpAny_bind (wpAny_mono q (fun u s₁ q=>wpAny_bind (wpAny_mono q (fun u s₂ q=> ?_) fun u w x=>x)) fun u w x=>x)
  rcases hi with hi | ⟨c,hi⟩
  ·rw [hi]at q⊢
   dsimp only at q
   rw [List.forIn_nil]
   refine wpAny_bind (wpAny_pure ?_)
   simp only [if_true]
   ·refine wAa ?_ (fin _ (fun Γ p hΓ=>(q Γ p hΓ:wpAny _ _ _ _ _ _) Γ p hΓ))
    unfold iT
    cases hn:gens[depth+1]? with
    | none=>rfl
    | some g'=>
     have ha':=ha g' (List.mem_of_getElem? hn)
     simp only [ha',bne_self_eq_false,Bool.false_eq_true,if_false,bind_assoc,pure_bind]
  ·rw [hi]at q⊢
   dsimp only at q
   rw [List.forIn_cons]
   refine wpAny_bind (wpAny_bind (wpAny_bind (wpAny_mono q (fun b s₃ z=> ?_) fun u w x=>x)))
   refine wpAny_pure (wpAny_pure ?_)
   cases b with
   | true=>
    refine wAa ?_ (fin _ (by simpa using z))
    unfold iT
    cases hn:gens[depth+1]? with
    | none=>rfl
    | some g'=>
     have ha':=ha g' (List.mem_of_getElem? hn)
     simp only [ha',bne_self_eq_false,Bool.false_eq_true,if_false,bind_assoc,pure_bind]
     rfl
   | false=>exact wpAny_pure z
theorem cqu {e:Expr} {gens:List Comprehension} {depth:Nat} {it acc:Value} (he:gOf e=some gens):(Code.compLoop e depth it acc env).quiet=true:=by
 rcases gca he with⟨_,_,_,rfl⟩<;>rfl
theorem cL {e:Expr} {gens:List Comprehension} {depth:Nat} {it acc:Value} {R:Result→Shared→Prop} (he:gOf e=some gens)
  (h:wpAny C.M A (compTurn e depth it acc env) (fun fin s'=>match fin with | .done f=>R (.ok f) s' | .again c'=>c'.quiet=true∧codeAny C.M A c' R s') No s):codeAny C.M A (.compLoop e depth it acc env) R s:=by
 rcases gca he with⟨_,_,_,rfl⟩
 all_goals
  refine codeAny_of_tree ?_
  rw [Around.under_of_weight (A:=A) rfl]
  show wpAny C.M A ((compTurn _ depth it acc env).onRaise _) _ _ s
  exact wpAny_onRaise (wpAny_mono h (fun u v h=>h) (fun _ _ (h:False)=>h.elim))
theorem cSc {e:Expr} {gens:List Comprehension} {g:Comprehension} {depth:Nat} {it acc:Value} {R:Result→Shared→Prop} (he:gOf e=some gens) (hg:gens[depth]? =some g) (ha:g.is_async=0)
  (hit: ∀(Q:Value→Shared→Prop),Q it s→wpAny C.M A (pyIter it) Q No s) (h:codeAny C.M A (.compLoop e depth it acc env) R s):codeAny C.M A (.compStart e depth it acc env) R s:=by
 have hc:clausesOf e=gens:=by
  rcases gca he with⟨_,_,_,rfl⟩
  all_goals rfl
 have key:wpAny C.M A (compStart e depth it acc env) (fun fin s'=>match fin with | .done f=>R (.ok f) s' | .again c'=>c'.quiet=true∧codeAny C.M A c' R s') No s:=by
  have q:(Code.compLoop e depth it acc env).quiet=true:=cqu he
  unfold compStart
  rw [hc,hg]
  simp only [Option.elim_some,ha,bne_self_eq_false,Bool.false_eq_true,if_false]
  refine wpAny_bind (wpAny_askSetting (wpAny_ite ?_))
  split
  ·first
    | exact wpAny_bind (wpAny_pure (wpAny_pure ⟨q,h⟩))
    | exact wpAny_pure ⟨q,h⟩
  ·refine wpAny_bind (wpAny_rule ?_)
   first
    | exact wpAny_bind (wpAny_standAt (wpAny_bind (hit _ (wpAny_pure ⟨q,h⟩))))
    | exact wpAny_bind (wpAny_bind (wpAny_standAt (wpAny_pure (wpAny_bind (hit _ (wpAny_pure ⟨q,h⟩))))))
 rcases gca he with⟨_,_,_,rfl⟩
 all_goals
  refine codeAny_of_tree ?_
  rw [Around.under_of_weight (A:=A) rfl]
  show wpAny C.M A ((compStart _ depth it acc env).onRaise _) _ _ s
  exact wpAny_onRaise (wpAny_mono key (fun u v h=>h) (fun _ _ (h:False)=>h.elim))
noncomputable def Em (C:Cx) (k:Nat) (sc:Scope) (la:Loc) (e:Expr) (ms:List (Option AV)) (σ:St) (ms':List (Option AV)) (σ':St):Prop:=
 ∀A W env s racc,Ro C A k→At C sc A W env ms σ s→VR W (.loc la) racc→wpAny C.M A (eTr e racc env) (Pa C sc A W env ms' σ' fun _ _=>True) No s
noncomputable def Con (C:Cx) (k:Nat) (sc:Scope) (ms:List (Option AV)) (σ:St) (ifs:List Expr) (ms':List (Option AV)) (σ':St):Prop:=
 (ifs= []∧ms'=ms∧σ'=σ)∨ ∃c,ifs= [c]∧Tv C k sc ms σ c true ms' σ'
mutual
inductive CB (C:Cx) (k:Nat) (sc:Scope) (la:Loc) (e:Expr):List Comprehension→List (Option AV)→St→List (Option AV)→St→Prop
 | emit {ms ms':List (Option AV)} {σ σ':St} (h:Em C k sc la e ms σ ms' σ'):CB C k sc la e [] ms σ ms' σ'
 | gen {g:Comprehension} {gs:List Comprehension} {v src:AV} {xs:List AV} {ok:St→Prop} {Sh:Nat→Value→Obj→Prop} {ms ms₁ ms':List (Option AV)} {σ σ₁ σ':St}
   (h1:Ev C k sc ms σ g.iter v ms₁ σ₁) (I:Itr C k ok v xs src Sh) (hok:ok σ₁) (hs: ∀env x,foldedSetIterable g.iter env x=pure x) (hl:CL C k sc la e ok g gs xs ms₁ σ₁ ms' σ'):CB C k sc la e (g::gs) ms σ ms' σ'
inductive CL (C:Cx) (k:Nat) (sc:Scope) (la:Loc) (e:Expr):(St→Prop)→Comprehension→List Comprehension→List AV→List (Option AV)→St→List (Option AV)→St→Prop
 | nil {ok:St→Prop} {g:Comprehension} {gs:List Comprehension} {ms:List (Option AV)} {σ:St} (h:ok σ):CL C k sc la e ok g gs [] ms σ ms σ
 | skip {ok:St→Prop} {g:Comprehension} {gs:List Comprehension} {x:AV} {xs:List AV} {ms ms₁ ms₂ ms':List (Option AV)} {σ σ₁ σ₂ σ':St} {c:Expr} (h:ok σ) (ha:As C k sc ms σ g.target x ms₁ σ₁) (hi:g.ifs= [c])
   (ht:Tv C k sc ms₁ σ₁ c false ms₂ σ₂) (hl:CL C k sc la e ok g gs xs ms₂ σ₂ ms' σ'):CL C k sc la e ok g gs (x::xs) ms σ ms' σ'
 | take {ok:St→Prop} {g:Comprehension} {gs:List Comprehension} {x:AV} {xs:List AV} {ms ms₁ ms₂ ms₃ ms':List (Option AV)} {σ σ₁ σ₂ σ₃ σ':St} (h:ok σ) (ha:As C k sc ms σ g.target x ms₁ σ₁) (hc:Con C k sc ms₁ σ₁ g.ifs ms₂ σ₂)
   (hb:CB C k sc la e gs ms₂ σ₂ ms₃ σ₃) (hl:CL C k sc la e ok g gs xs ms₃ σ₃ ms' σ'):CL C k sc la e ok g gs (x::xs) ms σ ms' σ'
end
theorem Con.shape {ifs:List Expr} (h:Con C k sc ms σ ifs ms' σ'):ifs= []∨ ∃c,ifs= [c]:=by
 rcases h with⟨h,_⟩ | ⟨c,h,_⟩
 ·exact .inl h
 ·exact .inr ⟨c,h⟩
theorem Con.run {ifs:List Expr} (h:Con C k sc ms σ ifs ms' σ') (hr:Ro C A k) (H:At C sc A W env ms σ s):
  wpAny C.M A (match ifs with | c::_=>isTrue c env (eval c env) | []=>pure true) (Pa C sc A W env ms' σ' fun u b=>b=true) No s:=by
 rcases h with⟨rfl,rfl,rfl⟩ | ⟨c,rfl,h⟩
 ·exact wpAny_pure (ph (.refl W) H rfl)
 ·exact h A W env s hr H
theorem sit {full:List AV} {x:AV} {xs:List AV} {i:Nat} (hd:full.drop i=x::xs):full[i]? =some x∧full.drop (i+1)=xs∧i+1≤full.length:=by
 have hx0:full[i]? =some x:=by
  have e:(full.drop i)[0]? =some x:=by rw [hd];rfl
  rw [List.getElem?_drop]at e;simpa using e
 exact⟨hx0,by rw [←List.drop_drop,hd];rfl,(List.getElem?_eq_some_iff.mp hx0).1⟩
noncomputable def SnB (C:Cx) (k:Nat) (sc:Scope) (la:Loc) (e:Expr) (gens gs:List Comprehension) (ms:List (Option AV)) (σ:St) (ms':List (Option AV)) (σ':St):Prop:=
 ∀(depth:Nat) (A:Around) (W:Wd) (env:Env) (s:Shared) (racc:Value),gens.drop depth=gs→Ro C A k→At C sc A W env ms σ s→VR W (.loc la) racc→
  wpAny C.M A (iT e gens depth racc env) (Pa C sc A W env ms' σ' fun _ _=>True) No s
noncomputable def SnL (C:Cx) (k:Nat) (sc:Scope) (la:Loc) (e:Expr) (gens:List Comprehension) (ok:St→Prop) (g:Comprehension) (gs:List Comprehension) (xs:List AV) (ms:List (Option AV)) (σ:St) (ms':List (Option AV)) (σ':St):Prop:=
 ∀(v src:AV) (full:List AV) (Sh:Nat→Value→Obj→Prop),Itr C k ok v full src Sh→ ∀(i depth:Nat) (A:Around) (W:Wd) (env:Env) (s:Shared) (racc:Value) (it:Addr),full.drop i=xs→i≤full.length→
  gens[depth]? =some g→gens.drop (depth+1)=gs→Ro C A k→At C sc A W env ms σ s→Ho C W env src Sh i it s→VR W (.loc la) racc→
  codeAny C.M A (.compLoop e depth (.ref it) racc env) (fun r s'=>match r with | .ok fl=>Pa C sc A W env ms' σ' (fun _ _=>True) fl s' | .error _=>False) s
section
variable {la:Loc} {e:Expr} {gens gs:List Comprehension} {g:Comprehension} {ok:St→Prop} {x:AV} {xs:List AV}
theorem sem (h:Em C k sc la e ms σ ms' σ'):SnB C k sc la e gens [] ms σ ms' σ':=by
 intro depth A W env s racc hd hr H q
 have hn:gens[depth]? =none:=by
  have:=congrArg List.length hd
  rw [List.length_drop]at this
  simp at this
  exact List.getElem?_eq_none (by omega)
 unfold iT
 rw [hn]
 exact h A W env s racc hr H q
theorem sge (he:gOf e=some gens) (hall: ∀g∈gens,g.is_async=0) {v src:AV} {Sh:Nat→Value→Obj→Prop} (h1:Ev C k sc ms σ g.iter v ms₁ σ₁) (I:Itr C k ok v xs src Sh) (hok:ok σ₁) (hs: ∀env x,foldedSetIterable g.iter env x=pure x)
  (ih:SnL C k sc la e gens ok g gs xs ms₁ σ₁ ms' σ'):SnB C k sc la e gens (g::gs) ms σ ms' σ':=by
 intro depth A W env s racc hd hr H q
 have hg:gens[depth]? =some g:=by
  have e:(gens.drop depth)[0]? =some g:=by rw [hd];rfl
  rw [List.getElem?_drop]at e;simpa using e
 have hd':gens.drop (depth+1)=gs:=by rw [←List.drop_drop,hd];rfl
 have ha:=hall g (List.mem_of_getElem? hg)
 unfold iT
 rw [hg]
 simp only [ha,bne_self_eq_false,Bool.false_eq_true,if_false]
 refine pbi (h1 A W env s hr H) fun W₁ rv s₁ le₁ H₁ q₁=>wpAny_bind (wpAny_standAt (wpAny_bind (wpAny_of_eq (hs _ _) (wpAny_bind (wpAny_holding ?_)))))
 refine ist I hok hr H₁ q₁ fun W₂ it s₂ le₂ H₂ K₂=>wpAny_bind (wpAny_runOwn (h:=none) ?_)
 rw [mark_none]
 obtain⟨ob,rs,hob,_,hsh⟩:=K₂.ex
 refine cSc he hg ha (fun Q z=>I.self 0 rs ob it A s₂ No Q hob hsh z) ?_
 refine codeAny_mono (ih _ _ _ _ I 0 depth A W₂ env s₂ racc it rfl (Nat.zero_le _) hg hd' hr H₂ K₂ ((q.mono le₁).mono le₂)) fun r s' hh=> ?_
 cases r with
 | ok fl=>obtain⟨W',l,z,_⟩:=hh;exact wpAny_pure (ph (le₁.trans (le₂.trans l)) z trivial)
 | error e=>exact hh.elim
theorem sni (he:gOf e=some gens) (hall: ∀g∈gens,g.is_async=0) (hok:ok σ):SnL C k sc la e gens ok g gs [] ms σ ms σ:=by
 intro v src full Sh I i depth A W env s racc it hd hi hg hgs hr H K q
 have hlen:i=full.length:=by
  have:=congrArg List.length hd
  rw [List.length_drop]at this
  simp at this;omega
 subst hlen
 refine cL he (cTn he hg (hall _ (List.mem_of_getElem? hg)) ?_)
 exact wpAny_mono (isa (Q:=fun r s'=>r=none∧ ∃W',W.le W'∧At C sc A W' env _ _ s') I hok hr H K fun W' s' le H'=>⟨rfl,W',le,H'⟩) (fun r s' hh=>by
  obtain⟨rfl,W',le,H'⟩:=hh
  exact⟨rfl,W',le,H',trivial⟩) fun u w h=>h.elim
theorem ssk (he:gOf e=some gens) (hall: ∀g∈gens,g.is_async=0) {c:Expr} (hok:ok σ) (ha:As C k sc ms σ g.target x ms₁ σ₁) (hif:g.ifs= [c]) (ht:Tv C k sc ms₁ σ₁ c false ms₂ σ₂)
  (ih:SnL C k sc la e gens ok g gs xs ms₂ σ₂ ms' σ'):SnL C k sc la e gens ok g gs (x::xs) ms σ ms' σ':=by
 intro v src full Sh I i depth A W env s racc it hd hi hg hgs hr H K q
 obtain⟨hx0,hd',hi'⟩:=sit hd
 refine cL he (cTs he hg hall (.inr ⟨c,hif⟩) ?_)
 refine wpAny_mono (ine (Q:=fun r s'=> ∃W' rx,r=some rx∧W.le W'∧At C sc A W' env _ _ s'∧Ho C W' env src Sh (i+1) it s'∧VR W' _ rx) I hx0 hok hr H K fun W' rx s' le H' K' q=>⟨W',rx,rfl,le,H',K',q⟩) (fun r s' hh=> ?_) fun u w h=>h.elim
 obtain⟨W',rx,rfl,le,H',K',qx⟩:=hh
 refine⟨rx,rfl,il I H' K' fun s₁ H₁ K₁=> ?_⟩
 refine hoh I H₁ K₁ (fun W₂ l2 H₂=>ha A W₂ env s₁ rx hr H₂ (qx.mono l2)) (fun u w m y t=>trivial) fun W₂ u s₂ le₂ H₂ K₂ w=> ?_
 rw [hif]
 refine hoh I H₂ K₂ (fun W₃ l3 H₃=>ht A W₃ env s₂ hr H₃) (fun u w m y q=>q) fun W₃ b s₃ le₃ H₃ K₃ hb=> ?_
 subst hb
 have le':=le.trans (le₂.trans le₃)
 refine⟨cqu he,codeAny_mono (ih _ _ _ _ I (i+1) depth A W₃ env s₃ racc it hd' hi' hg hgs hr H₃ K₃ (q.mono le')) fun r s' hh=> ?_⟩
 cases r with
 | ok fl=>obtain⟨W',l,z⟩:=hh;exact⟨W',le'.trans l,z⟩
 | error e=>exact hh
theorem snt (he:gOf e=some gens) (hall: ∀g∈gens,g.is_async=0) (hok:ok σ) (ha:As C k sc ms σ g.target x ms₁ σ₁) (hc:Con C k sc ms₁ σ₁ g.ifs ms₂ σ₂) (ihb:SnB C k sc la e gens gs ms₂ σ₂ ms₃ σ₃)
  (ih:SnL C k sc la e gens ok g gs xs ms₃ σ₃ ms' σ'):SnL C k sc la e gens ok g gs (x::xs) ms σ ms' σ':=by
 intro v src full Sh I i depth A W env s racc it hd hi hg hgs hr H K q
 obtain⟨hx0,hd',hi'⟩:=sit hd
 refine cL he (cTs he hg hall hc.shape ?_)
 refine wpAny_mono (ine (Q:=fun r s'=> ∃W' rx,r=some rx∧W.le W'∧At C sc A W' env _ _ s'∧Ho C W' env src Sh (i+1) it s'∧VR W' _ rx) I hx0 hok hr H K fun W' rx s' le H' K' q=>⟨W',rx,rfl,le,H',K',q⟩) (fun r s' hh=> ?_) fun u w h=>h.elim
 obtain⟨W',rx,rfl,le,H',K',qx⟩:=hh
 refine⟨rx,rfl,il I H' K' fun s₁ H₁ K₁=> ?_⟩
 refine hoh I H₁ K₁ (fun W₂ l2 H₂=>ha A W₂ env s₁ rx hr H₂ (qx.mono l2)) (fun u w m y t=>trivial) fun W₂ u s₂ le₂ H₂ K₂ w=> ?_
 refine hoh I H₂ K₂ (fun W₃ l3 H₃=>hc.run hr H₃) (fun u w m y q=>q) fun W₃ b s₃ le₃ H₃ K₃ hb'=> ?_
 subst hb'
 refine hoh I H₃ K₃ (fun W₄ l4 H₄=>ihb (depth+1) A W₄ env s₃ racc hgs hr H₄ ((q.mono (le.trans (le₂.trans le₃))).mono l4)) (fun u w m y t=>trivial) fun W₄ u s₄ le₄ H₄ K₄ w=> ?_
 have le':=le.trans (le₂.trans (le₃.trans le₄))
 refine⟨cqu he,codeAny_mono (ih _ _ _ _ I (i+1) depth A W₄ env s₄ racc it hd' hi' hg hgs hr H₄ K₄ (q.mono le')) fun r s' hh=> ?_⟩
 cases r with
 | ok fl=>obtain⟨W',l,z⟩:=hh;exact⟨W',le'.trans l,z⟩
 | error e=>exact hh
theorem cso (he:gOf e=some gens) (hall: ∀g∈gens,g.is_async=0) (h:CL C k sc la e ok g gs xs ms σ ms' σ'):SnL C k sc la e gens ok g gs xs ms σ ms' σ':=
 CL.rec (motive_1:=fun gs ms σ ms' σ' u=>SnB C k sc la e gens gs ms σ ms' σ') (motive_2:=fun ok g gs xs ms σ ms' σ' u=>SnL C k sc la e gens ok g gs xs ms σ ms' σ')
  (fun h=>sem h) (fun h1 I hok hs u ih=>sge he hall h1 I hok hs ih) (fun hok=>sni he hall hok) (fun hok ha hif ht u ih=>ssk he hall hok ha hif ht ih)
  (fun hok ha hc u v ihb ih=>snt he hall hok ha hc ihb ih) h
end
end
end V
end
section
namespace V
noncomputable def uc (scope:Scope):Scope:={scope with names:=scope.names.map fun p=>if p.2== .free then(p.1,.cell)else p}
noncomputable def fId (scope:Scope):List Nat:=(List.range scope.names.length).filter fun j=>(scope.names[j]?).any fun p=>p.2== .free
section
variable {M:Model} {A:Around} {E:Value→Shared→Prop} {s:Shared}
theorem cFr {scope:Scope} {env:Env} {Q:List (Str×Addr)→Shared→Prop} (hf: ∀x,(x,NameKind.free)∈scope.names→ ∃a,env.cells.lookup x=some a)
  (h: ∀cs,(∀x a,(x,a)∈cs→(x,NameKind.free)∈scope.names∧env.cells.lookup x=some a)→(∀x,(x,NameKind.free)∈scope.names→cs.lookup x=env.cells.lookup x)→Q cs s):wpAny M A (closureFor scope env) Q E s:=by
 suffices go: ∀(names:List (Str×NameKind)) (acc:List (Str×Addr)),(∀x,(x,NameKind.free)∈names→ ∃a,env.cells.lookup x=some a)→
   ∀(Q:List (Str×Addr)→Shared→Prop) (f:Str×NameKind→List (Str×Addr)→Sem (ForInStep (List (Str×Addr)))),
    (∀n kd cs,f (n,kd) cs=if(kd== .free)=true then(do let a←cellOf env n;pure (.yield ((n,a)::cs)))else pure (.yield cs))→
   (∀cs,(∀x a,(x,a)∈cs→(x,a)∈acc∨((x,NameKind.free)∈names∧env.cells.lookup x=some a))→(∀x,(x,NameKind.free)∈names→cs.lookup x=env.cells.lookup x)→(∀x,(x,NameKind.free)∉names→cs.lookup x=acc.lookup x)→Q cs s)→
   wpAny M A (forIn names acc f) Q E s by
  refine wpAny_bind (go scope.names [] hf _ _ (fun n kd cs=>by cases hk:kd==NameKind.free<;>simp [hk]) fun cs h1 h2 u=>wpAny_pure (h cs (fun x a hm=> ?_) h2))
  rcases h1 x a hm with q | q
  ·cases q
  ·exact q
 intro names
 induction names with
 | nil=>
  intro acc u Q f v h
  rw [List.forIn_nil]
  exact wpAny_pure (h acc (fun x a hm=> .inl hm) (fun x hm=>by cases hm) fun u v=>rfl)
 | cons y r ih=>
  intro acc hf Q f hfe h
  obtain⟨n,kd⟩:=y
  rw [List.forIn_cons,hfe]
  have hr: ∀x,(x,NameKind.free)∈r→ ∃a,env.cells.lookup x=some a:=fun x hx=>hf x (.tail _ hx)
  by_cases hk:kd=NameKind.free
  ·subst hk
   obtain⟨a,ha⟩:=hf n (.head _)
   refine wpAny_bind (wpAny_bind (wpAny_cellOf ha (wpAny_pure (ih ((n,a)::acc) hr Q f hfe fun cs h1 h2 h3=>h cs (fun x b hm=> ?_) (fun x hx=> ?_) fun x hx=> ?_))))
   ·rcases h1 x b hm with q | ⟨q1,q2⟩
    ·cases q with
     | head=>exact .inr ⟨.head _,ha⟩
     | tail _ q=>exact .inl q
    ·exact .inr ⟨.tail _ q1,q2⟩
   ·by_cases hx':(x,NameKind.free)∈r
    ·exact h2 x hx'
    ·rw [h3 x hx']
     cases hx with
     | head=>rw [List.lookup_cons_self,ha]
     | tail _ q=>exact absurd q hx'
   ·have hx':(x,NameKind.free)∉r:=fun q=>hx (.tail _ q)
    have hn:x≠n:=fun q=>hx (q▸ .head _)
    rw [h3 x hx',List.lookup_cons,beq_eq_false_iff_ne.mpr hn]
  ·have hb:(kd==NameKind.free)=false:=by simpa using hk
   simp only [hb,Bool.false_eq_true,if_false]
   refine wpAny_bind (wpAny_pure (ih acc hr Q f hfe fun cs h1 h2 h3=>h cs (fun x b hm=> ?_) (fun x hx=> ?_) fun x hx=> ?_))
   ·rcases h1 x b hm with q | ⟨q1,q2⟩
    ·exact .inl q
    ·exact .inr ⟨.tail _ q1,q2⟩
   ·cases hx with
    | head=>exact absurd rfl hk
    | tail _ q=>exact h2 x q
   ·exact h3 x fun q=>hx (.tail _ q)
theorem nC {scope:Scope} {outer:Env} {globals:Addr} {closure:List (Str×Addr)} {qual:Str} {Q:Env→Shared→Prop}
  (h:Q {scope,locals:=s.heap.objs.size,globals,cells:=cellsFrom (s.heap.objs.size+1) scope.names closure,qual,func:=none,code:=outer.code,frame:=outer.frame,builtins:=outer.builtins}
   {s with heap:=pushCells (s.heap.push {cls:= .type "dict",data:= .dict #[]}) scope.names}):
  wpAny M A (newFunctionEnv scope globals closure [] qual none .none (some outer)) Q E s:=by
 simp only [newFunctionEnv,Option.isSome_some,if_true]
 refine wpAny_bind (wpAny_alloc ?_)
 refine wpAny_bind (wpAny_layCells _ (fun name kind cells=>by cases hkc:kind==NameKind.cell<;>simp [hkc]) _ _ _ _ ?_)
 refine wpAny_bind ?_
 rw [List.forIn_nil]
 refine wpAny_pure (wpAny_pure ?_)
 rw [show({s with heap:=s.heap.push {cls:= .type "dict",data:= .dict #[]}}:Shared).heap.objs.size=s.heap.objs.size+1 from Heap.size_push ..]
 exact h
end
theorem cFm: ∀(names:List (Str×NameKind)) (n:Nat) (acc:List (Str×Addr)) (x:Str) (a:Addr),(x,a)∈cellsFrom n names acc→(x,a)∈acc∨((x,NameKind.cell)∈names∧n≤a)
 | [],_,_,_,_,h=> .inl h
 | (y,kd)::r,n,acc,x,a,h=>by
  unfold cellsFrom at h
  split at h
  ·rename_i hk
   rcases cFm r (n+1) _ x a h with q | ⟨q1,q2⟩
   ·cases q with
    | head=>exact .inr ⟨by rw [←beq_iff_eq.mp hk];exact .head _,Nat.le_refl _⟩
    | tail _ q=>exact .inl q
   ·exact .inr ⟨.tail _ q1,Nat.le_of_succ_le q2⟩
  ·rcases cFm r n acc x a h with q | ⟨q1,q2⟩
   ·exact .inl q
   ·exact .inr ⟨.tail _ q1,q2⟩
theorem cF: ∀(names:List (Str×NameKind)) (n:Nat) (acc:List (Str×Addr)) (x:Str),(x,NameKind.cell)∉names→(cellsFrom n names acc).lookup x=acc.lookup x
 | [],_,_,_,_=>rfl
 | (y,kd)::r,n,acc,x,h=>by
  have hr:(x,NameKind.cell)∉r:=fun q=>h (.tail _ q)
  unfold cellsFrom
  split
  ·rename_i hk
   have hn:x≠y:=fun q=>h (by rw [q,←beq_iff_eq.mp hk];exact .head _)
   rw [cF r _ _ x hr,List.lookup_cons,beq_eq_false_iff_ne.mpr hn]
  ·exact cF r n acc x hr
theorem cFa: ∀(names:List (Str×NameKind)) (n:Nat) (acc:List (Str×Addr)) (p:Str×Addr),p∈acc→p∈cellsFrom n names acc
 | [],_,_,_,h=>h
 | (y,kd)::r,n,acc,p,h=>by
  unfold cellsFrom
  split
  ·exact cFa r _ _ p (.tail _ h)
  ·exact cFa r _ _ p h
theorem cFn: ∀(names:List (Str×NameKind)) (h:Heap) (acc:List (Str×Addr)) (x y:Str) (a:Addr),(∀z b,(z,b)∈acc→b<h.objs.size)→(∀z u b,(z,b)∈acc→(u,b)∈acc→z=u)→
  (x,a)∈cellsFrom h.objs.size names acc→(y,a)∈cellsFrom h.objs.size names acc→x=y
 | [],_,_,x,y,a,_,hi,hx,hy=>hi x y a hx hy
 | (z,kd)::r,h,acc,x,y,a,hl,hi,hx,hy=>by
  unfold cellsFrom at hx hy
  split at hx
  ·rename_i hk
   rw [if_pos hk]at hy
   have e:(h.push {cls:= .type "cell",data:= .cell none}).objs.size=h.objs.size+1:=Heap.size_push ..
   rw [←e]at hx hy
   refine cFn r _ _ x y a (fun u b hm=> ?_) (fun u v b hu hv=> ?_) hx hy
   ·rw [e]
    cases hm with
    | head=>exact Nat.lt_succ_self _
    | tail _ hm=>exact Nat.lt_succ_of_lt (hl u b hm)
   ·cases hu with
    | head=>cases hv with
     | head=>rfl
     | tail _ hv=>exact absurd (hl v _ hv) (Nat.lt_irrefl _)
    | tail _ hu=>cases hv with
     | head=>exact absurd (hl u _ hu) (Nat.lt_irrefl _)
     | tail _ hv=>exact hi u v b hu hv
  ·rename_i hk
   rw [if_neg hk]at hy
   exact cFn r h acc x y a hl hi hx hy
open Classical in
noncomputable def Wd.plus (W:Wd) (X:Addr→Prop) (h:Heap):Wd:=⟨W.ρ,fun a=>if X a then h.get? a else W.fz a⟩
theorem Wd.pli {W:Wd} {X:Addr→Prop} {h:Heap} {a:Addr} (q:X a):(W.plus X h).fz a=h.get? a:=by unfold Wd.plus;exact if_pos q
theorem Wd.pou {W:Wd} {X:Addr→Prop} {h:Heap} {a:Addr} (q: ¬X a):(W.plus X h).fz a=W.fz a:=by unfold Wd.plus;exact if_neg q
noncomputable def sMs (link:List (Nat×Nat)) (ms:List (Option AV)) (n:Nat):List (Option AV):=(List.range n).map fun j=>(link.find? fun p=>p.2==j).bind fun p=>(ms[p.1]?).join
theorem sMg {link:List (Nat×Nat)} {ms:List (Option AV)} {n j:Nat} {v:AV} (h:(sMs link ms n)[j]? =some (some v)): ∃i,(i,j)∈link∧ms[i]? =some (some v):=by
 unfold sMs at h
 rw [List.getElem?_map]at h
 cases q:(List.range n)[j]? with
 | none=>rw [q]at h;cases h
 | some j'=>
  rw [q]at h
  have hj:j'=j:=by
   obtain⟨h1,h2⟩:=List.getElem?_eq_some_iff.mp q
   rw [List.getElem_range]at h2;exact h2.symm
  subst hj
  have h:=Option.some.inj h
  obtain⟨p,hp,hv⟩:=Option.bind_eq_some_iff.mp h
  have h1:=List.mem_of_find?_eq_some hp
  have h2:=List.find?_some hp
  simp only [beq_iff_eq]at h2
  refine⟨p.1,by rw [←h2];exact h1,?_⟩
  cases z:ms[p.1]? with
  | none=>rw [z]at hv;cases hv
  | some o=>rw [z]at hv;simp at hv;rw [hv]
theorem jg {α:Type} {l:List (Option α)} {j:Nat} {v:α} (h:(l[j]?).join=some v):l[j]? =some (some v):=by
 cases z:l[j]? with
 | none=>rw [z]at h;cases h
 | some o=>rw [z]at h;simp at h;rw [h]
theorem fIm {scope:Scope} {j:Nat} {x:Str} (h:scope.names[j]? =some (x,NameKind.free)):j∈fId scope:=by
 refine List.mem_filter.mpr ⟨List.mem_range.mpr (List.getElem?_eq_some_iff.mp h).1,?_⟩
 rw [h];rfl
section
variable {C:Cx} {k:Nat} {sc:Scope} {A:Around} {W:Wd} {env:Env} {ms ms₁ ms₂ ms₃ ms':List (Option AV)} {σ σ₁ σ₂ σ₃ σ':St} {s:Shared}
theorem Inv.plus {X:Addr→Prop} (I:Inv C W σ s) (hX: ∀a,X a→W.fz a=none∧ ∀l,W.ρ l≠some a):W.le (W.plus X s.heap)∧Inv C (W.plus X s.heap) σ s:=by
 have le:W.le (W.plus X s.heap):=⟨fun u v e=>e,fun a o e=>by
  rw [Wd.pou fun q=>by rw [(hX a q).1]at e;cases e];exact e⟩
 refine⟨le,I.dom,I.inj,fun l a o e q=>let ⟨ob,h1,h2⟩:=I.obj l a o e q;⟨ob,h1,h2.mono le⟩,fun l a e=> ?_,fun a o e=> ?_,I.kept,fun a o e=>le.2 _ _ (I.base a o e),I.gens,I.os,I.pos,I.high⟩
 ·rw [Wd.pou fun q=>(hX a q).2 l e];exact I.apart l a e
 ·by_cases q:X a
  ·rw [Wd.pli q]at e;exact⟨o,e,.refl _⟩
  ·rw [Wd.pou q]at e;exact I.fz a o e
theorem cru {e:Expr} {scope:Scope} {pos:Pos} {g:Comprehension} {gs:List Comprehension} {link:List (Nat×Nat)} {v src:AV} {xs:List AV} {ok:St→Prop} {Sh:Nat→Value→Obj→Prop} {la:Loc} {o₀:AO} {ms2':List (Option AV)} {newAcc:Sem Value} {use:Option (Value→Sem Unit)}
  {Q:Value→Shared→Prop}
  (he:gOf e=some (g::gs)) (hall: ∀g'∈g::gs,g'.is_async=0) (hlink: ∀p∈link,∃x,sc.names[p.1]? =some (x,NameKind.cell)∧scope.names[p.2]? =some (x,NameKind.free)) (hfree:fId scope=link.map (·.2)) (hok2:sO (uc scope)=true)
  (h1:Ev C k sc ms σ g.iter v ms₁ σ₁) (I:Itr C k ok v xs src Sh) (hok:ok σ₁) (hs: ∀env x,foldedSetIterable g.iter env x=pure x)
  (hacc: ∀W,Op C k W σ₁ newAcc (fun W r=>VR W (.loc la) r) (σ₁.set la o₀))
  (hl:CL C k (uc scope) la e ok g gs xs (sMs link ms₁ scope.names.length) (σ₁.set la o₀) ms2' σ₂)
  (hend:(link.map fun p=>(ms2'[p.2]?).join)=link.map fun p=>(ms₁[p.1]?).join)
  (hr:Ro C A k) (H:At C sc A W env ms σ s)
  (hQ:match use with
   | none=> ∀W' acc s',W.le W'→At C sc A W' env ms₁ σ₂ s'→VR W' (.loc la) acc→Q acc s'
   | some u=> ∃ms₃ σ₃,(∀W' acc s',W.le W'→At C sc A W' env ms₁ σ₂ s'→VR W' (.loc la) acc→wpAny C.M A (u acc) (fun _ s''=> ∃W₅,W.le W₅∧(∀a o,W'.fz a=some o→W₅.fz a=some o)∧At C sc A W₅ env ms₃ σ₃ s'') No s')∧ ∀W' s',W.le W'→At C sc A W' env ms₃ σ₃ s'→Q .none s'):
  wpAny C.M A (comprehension e scope env pos newAcc false (eval g.iter env) use) Q No s:=by
 have hc:clausesOf e=g::gs:=by
  rcases gca he with⟨_,_,_,rfl⟩<;>rfl
 unfold comprehension
 rw [hc]
 refine pbi (h1 A W env s hr H) fun W₁ rv s₁ le₁ H₁ q₁=>wpAny_bind (wpAny_standAt (wpAny_bind (wpAny_of_eq (hs _ _) (wpAny_bind (wpAny_holding ?_)))))
 refine ist I hok hr H₁ q₁ fun W₂ it s₂ le₂ H₂ K₂=> ?_
 refine wpAny_standIf (wpAny_bind ?_)
 refine hoh I H₂ K₂ (t:=newAcc) (R:=fun W r=>VR W (.loc la) r) (fun W₃ l3 H₃=>Op.in rfl (hacc _) hr H₃ fun W₄ r s₄ le₄ H₄ q tk _=>ph le₄ H₄ (tk q)) (fun _ _ _ hj q=>q.taken hj) fun W₃ acc s₃ le₃ H₃ K₃ qacc=> ?_
 have F₃:=H₃.fr
 have cellIn: ∀{x:Str},(x,NameKind.free)∈scope.names→ ∃i j,(i,j)∈link∧sc.names[i]? =some (x,NameKind.cell)∧scope.names[j]? =some (x,NameKind.free):=fun{x} hx=>by
  obtain⟨j,hj⟩:=List.getElem?_of_mem hx
  have:=fIm hj
  rw [hfree]at this
  obtain⟨p,hp,e⟩:=List.mem_map.mp this
  obtain⟨y,h1,h2⟩:=hlink p hp
  rw [e,hj]at h2;cases h2
  exact⟨p.1,j,by rw [←e];exact hp,h1,hj⟩
 refine wpAny_bind (cFr (fun x hx=> ?_) fun closure hcl1 hcl2=>wpAny_bind (nC ?_))
 ·obtain⟨i,_,_,hi,_⟩:=cellIn hx
  obtain⟨a,ov,ha,_⟩:=F₃.cells i x hi
  exact⟨a,ha⟩
 generalize hcells:cellsFrom (s₃.heap.objs.size+1) scope.names closure=cells
 generalize hdo:({cls:= .type "dict",data:= .dict #[]}:Obj)=dobj
 have keep: ∀b o,s₃.heap.get? b=some o→(pushCells (s₃.heap.push dobj) scope.names).get? b=some o:=fun b o e=>pushCells_keeps _ _ b o (Heap.get?_push_of_some _ e)
 have hL:(pushCells (s₃.heap.push dobj) scope.names).get? s₃.heap.objs.size=some dobj:=pushCells_keeps _ _ _ _ (Heap.get?_push_size _ (by rw [←hdo];rfl))
 have above: ∀b,s₃.heap.objs.size≤b→W₃.fz b=none∧ ∀l,W₃.ρ l≠some b:=fun b hb=>by
  refine⟨?_,fun l e=> ?_⟩
  ·cases q:W₃.fz b with
   | none=>rfl
   | some o=>obtain⟨o',z,_⟩:=H₃.inv.fz b o q;exact absurd (Nat.lt_of_lt_of_le (Heap.lt_size z) hb) (Nat.lt_irrefl _)
  ·have d:=H₃.inv.dom l
   rw [e]at d
   cases q:(σ₁.set la o₀) l with
   | none=>rw [q]at d;cases d
   | some o=>obtain⟨ob,z,_⟩:=H₃.inv.obj l b o e q;exact absurd (Nat.lt_of_lt_of_le (Heap.lt_size z) hb) (Nat.lt_irrefl _)
 have ownLt: ∀a,Own env a→a<s₃.heap.objs.size:=fun a q=>by
  obtain⟨_,_,o,h,_⟩:=F₃.own q;exact Heap.lt_size h
 have clo: ∀x a,(x,a)∈closure→(x,a)∈env.cells:=fun x a hm=>mem_of_lookup (hcl1 x a hm).2
 have mem2: ∀x a,(x,a)∈cells→(x,a)∈closure∨((x,NameKind.cell)∈scope.names∧s₃.heap.objs.size+1≤a∧(pushCells (s₃.heap.push dobj) scope.names).get? a=some {cls:= .type "cell",data:= .cell none}):=fun x a hm=>by
  have hm':=hm
  rw [←hcells]at hm hm'
  rcases cFm _ _ _ x a hm with q | ⟨q1,q2⟩
  ·exact .inl q
  ·have hh:=pC scope.names (s₃.heap.push dobj) closure x a (by rw [Heap.size_push];exact hm')
   rcases hh with q | ⟨_,q⟩
   ·exact .inl q
   ·exact .inr ⟨q1,q2,q⟩
 have hkind:env.scope.kind= .function:=by rw [F₃.scope];exact sO.kind F₃.ok
 have hnames:(scope.names.map fun(x:Str×NameKind)=>match x with | (n,kd)=>if(kd== .free && env.scope.kind== .function && env.kindOf n==some .cell)=true then(n,NameKind.cell)else(n,kd))=(uc scope).names:=by
  refine List.map_congr_left fun p hp=> ?_
  obtain⟨n,kd⟩:=p
  by_cases hk:kd=NameKind.free
  ·subst hk
   obtain⟨i,_,_,hi,_⟩:=cellIn hp
   have hl:env.kindOf n=some .cell:=by
    unfold Env.kindOf;rw [F₃.scope];exact lon (sO.nodup F₃.ok) hi
   simp [hkind,hl]
  ·have hb:(kd==NameKind.free)=false:=by simpa using hk
   simp [hb]
 dsimp only
 rw [hnames]
 have hsc:({kind:=scope.kind,names:=(uc scope).names,isGenerator:=scope.isGenerator,isCoroutine:=scope.isCoroutine,more:=scope.more}:Scope)=uc scope:=rfl
 generalize hcenv:({scope:={kind:=scope.kind,names:=(uc scope).names,isGenerator:=scope.isGenerator,isCoroutine:=scope.isCoroutine,more:=scope.more},locals:=s₃.heap.objs.size,globals:=env.globals,cells:=cells,qual:=env.qual,func:=none,code:=env.code,frame:=env.frame,builtins:=env.builtins}:Env)=cenv
 have hloc2:cenv.locals=s₃.heap.objs.size:=by rw [←hcenv]
 have hcel2:cenv.cells=cells:=by rw [←hcenv]
 let Y:Addr→Prop:=fun a=>Own env a∧ ∀x,(x,a)∉closure
 have hY: ∀a,Y a→W₃.fz a=none∧ ∀l,W₃.ρ l≠some a:=fun a q=>⟨(F₃.own q.1).1,(F₃.own q.1).2.1⟩
 obtain⟨leY,IY⟩:=H₃.inv.plus hY
 have I₄:Inv C (W₃.plus Y s₃.heap) (σ₁.set la o₀) {s₃ with heap:=pushCells (s₃.heap.push dobj) scope.names}:=IY.same keep
 have unf: ∀{j:Nat} {x:Str},(uc scope).names[j]? =some (x,NameKind.cell)→scope.names[j]? =some (x,NameKind.cell)∨scope.names[j]? =some (x,NameKind.free):=fun{j x} h=>by
  unfold uc at h
  rw [List.getElem?_map]at h
  cases z:scope.names[j]? with
  | none=>rw [z]at h;cases h
  | some p=>
   rw [z]at h
   obtain⟨n,kd⟩:=p
   simp only [Option.map_some]at h
   split at h
   ·rename_i hk
    cases h
    simp only [beq_iff_eq]at hk
    rw [hk];exact .inr rfl
   ·have h:=Option.some.inj h;rw [h];exact .inl rfl
 have unfL: ∀{j:Nat} {x:Str},scope.names[j]? =some (x,NameKind.free)→(uc scope).names[j]? =some (x,NameKind.cell):=fun{j x} h=>by
  unfold uc
  rw [List.getElem?_map,h];rfl
 have noTwo: ∀{x:Str},(x,NameKind.free)∈scope.names→(x,NameKind.cell)∉scope.names:=fun{x} h1 h2=>by
  obtain⟨j,hj⟩:=List.getElem?_of_mem h1
  obtain⟨j',hj'⟩:=List.getElem?_of_mem h2
  have a1:=unfL hj
  have a2:(uc scope).names[j']? =some (x,NameKind.cell):=by
   unfold uc;rw [List.getElem?_map,hj'];rfl
  have:=nai (sO.nodup hok2) a1 a2
  subst this
  rw [hj]at hj';cases hj'
 have look2: ∀{x:Str},(x,NameKind.free)∈scope.names→cells.lookup x=env.cells.lookup x:=fun{x} hx=>by
  rw [←hcells,cF _ _ _ x (noTwo hx),hcl2 x hx]
 have H₄:At C (uc scope) A (W₃.plus Y s₃.heap) cenv (sMs link ms₁ scope.names.length) (σ₁.set la o₀) {s₃ with heap:=pushCells (s₃.heap.push dobj) scope.names}:=by
  refine⟨I₄,?_⟩
  subst hcenv
  refine⟨rfl,F₃.globals,F₃.builtins,hok2,⟨fun _=>none,?_,fun j x u hj hu=> ?_⟩,fun j x hj=> ?_,?_,fun x a hm=> ?_,fun x y a hx hy=> ?_,⟨dobj,#[],0,hL,.inr (by rw [←hdo]),by rw [←hdo]⟩,?_⟩
  ·subst hdo
   exact(Heap.Ns.new s₃.heap (.type "dict")).keeps (pushCells_keeps _ _)
  ·exfalso
   obtain⟨i,hij,_⟩:=sMg hu
   obtain⟨y,_,hy⟩:=hlink _ hij
   rw [unfL hy]at hj;cases hj
  ·rcases unf hj with hj' | hj'
   ·have:=cellsFrom_some (x:=x) scope.names (s₃.heap.objs.size+1) closure (.inl (by
     have nd:(scope.names.map (·.1)).Nodup:=by
      have:=sO.nodup hok2
      unfold uc at this
      rw [List.map_map]at this
      have e:(fun p:Str×NameKind=>p.1)=(fun p:Str×NameKind=>p.1) ∘ fun p=>if(p.2==NameKind.free)=true then(p.1,NameKind.cell)else p:=by
       funext p;simp only [Function.comp];split<;>rfl
      rw [e];exact this
     exact lon nd hj'))
    obtain⟨a,ha⟩:=Option.isSome_iff_exists.mp this
    rw [hcells]at ha
    rcases mem2 x a (mem_of_lookup ha)with q | ⟨_,q2,q3⟩
    ·exact absurd (List.mem_of_getElem? hj') (noTwo (hcl1 x a q).1)
    ·refine⟨a,none,ha,⟨_,q3,rfl⟩,fun u hu=> ?_⟩
     exfalso
     obtain⟨i,hij,_⟩:=sMg hu
     obtain⟨y,_,hy⟩:=hlink _ hij
     rw [hj']at hy;cases hy
   ·obtain⟨i,j',hij,hi,hjj⟩:=cellIn (List.mem_of_getElem? hj')
    obtain⟨a,ov,ha,⟨oc,hc1,hc2⟩,hv⟩:=F₃.cells i x hi
    refine⟨a,ov,by rw [look2 (List.mem_of_getElem? hj')];exact ha,⟨oc,keep _ _ hc1,hc2⟩,fun u hu=> ?_⟩
    obtain⟨i',hij',hu'⟩:=sMg hu
    obtain⟨y,hy1,hy2⟩:=hlink _ hij'
    rw [hj']at hy2;cases hy2
    have:=nai (sO.nodup F₃.ok) hi hy1
    have this:i=i':=this
    subst this
    obtain⟨r,e1,e2⟩:=hv u hu'
    exact⟨r,e1,e2.mono leY⟩
  ·have:=above s₃.heap.objs.size (Nat.le_refl _)
   refine⟨?_,this.2⟩
   rw [Wd.pou fun q=>absurd (ownLt _ q.1) (Nat.lt_irrefl _)];exact this.1
  ·rcases mem2 x a hm with q | ⟨_,q2,q3⟩
   ·obtain⟨z1,z2,z3,ov,oc,z4,z5,z6⟩:=F₃.apC x a (clo x a q)
    refine⟨?_,z2,fun z=> ?_,ov,oc,keep _ _ z4,z5,z6⟩
    ·rw [Wd.pou fun y=>y.2 x q];exact z1
    ·have:=Heap.lt_size z4
     exact absurd (z▸this) (Nat.lt_irrefl _)
   ·have:=above a (Nat.le_of_succ_le q2)
    refine⟨?_,this.2,fun z=> ?_,none,_,q3,rfl,rfl⟩
    ·rw [Wd.pou fun y=>absurd (Nat.lt_of_lt_of_le (ownLt _ y.1) (Nat.le_of_succ_le q2)) (Nat.lt_irrefl _)];exact this.1
    ·have z:a=s₃.heap.objs.size:=z
     rw [z]at q2;exact absurd q2 (Nat.not_succ_le_self _)
  ·have hx':=hcells▸hx
   have hy':=hcells▸hy
   refine cFn scope.names (s₃.heap.push dobj) closure x y a (fun z b hm=> ?_) (fun z u b hz hu=>F₃.injC z u b (clo z b hz) (clo u b hu)) (by rw [Heap.size_push];exact hx') (by rw [Heap.size_push];exact hy')
   rw [Heap.size_push]
   exact Nat.lt_succ_of_lt (ownLt b (.inr (List.mem_map.mpr ⟨(z,b),clo z b hm,rfl⟩)))
  ·obtain⟨fenv,rest,L,e1,e2,e3,e4,e5,e6,e7⟩:=F₃.stk
   refine⟨fenv,rest,L,e1,e2.mono leY,e3,e4,e5,e6,.inr ?_⟩
   rcases e7 with⟨rfl,o,es,n,f1,f2,f3⟩ | ⟨o,es,n,f1,f2,f3⟩
   ·refine⟨o,es,n,?_,f2,f3⟩
    rw [Wd.pli ⟨.inl rfl,fun x hx=>(F₃.apC x _ (clo x _ hx)).2.2.1 rfl⟩];exact f1
   ·exact⟨o,es,n,leY.2 _ _ f1,f2,f3⟩
 have K₄:Ho C (W₃.plus Y s₃.heap) cenv src Sh 0 it {s₃ with heap:=pushCells (s₃.heap.push dobj) scope.names}:=by
  obtain⟨ob,rs,z1,z2,z3⟩:=K₃.ex
  have lt:=Heap.lt_size z1
  refine⟨⟨ob,rs,keep _ _ z1,z2.mono leY,z3⟩,⟨?_,K₃.fresh.2⟩,fun q=> ?_,K₃.new⟩
  ·rw [Wd.pou fun q=>K₃.own q.1];exact K₃.fresh.1
  ·rcases q with q | q
   ·rw [hloc2]at q;rw [q]at lt;exact absurd lt (Nat.lt_irrefl _)
   ·rw [hcel2]at q
    obtain⟨⟨x,b⟩,hm,e⟩:=List.mem_map.mp q
    have e:b=it:=e
    subst e
    rcases mem2 x b hm with q | ⟨_,q2,_⟩
    ·exact K₃.own (.inr (List.mem_map.mpr ⟨(x,b),clo x b q,rfl⟩))
    ·exact absurd (Nat.lt_of_lt_of_le lt (Nat.le_of_succ_le q2)) (Nat.lt_irrefl _)
 have hrun:codeAny C.M A (.compStart e 0 (.ref it) acc cenv) (fun r s'=>match r with | .ok _=> ∃W',(W₃.plus Y s₃.heap).le W'∧At C (uc scope) A W' cenv ms2' σ₂ s' | .error _=>False) {s₃ with heap:=pushCells (s₃.heap.push dobj) scope.names}:=by
  obtain⟨ob,rs,hob,_,hsh⟩:=K₄.ex
  refine cSc he rfl (hall g (.head _)) (fun Q z=>I.self 0 rs ob it A _ No Q hob hsh z) ?_
  refine codeAny_mono (cso he hall hl _ _ _ _ I 0 0 A _ cenv _ acc it rfl (Nat.zero_le _) rfl rfl hr H₄ K₄ (qacc.mono leY)) fun r s' hh=> ?_
  cases r with
  | ok fl=>obtain⟨W',l,z,_⟩:=hh;exact⟨W',l,z⟩
  | error e=>exact hh
 have le03:W.le W₃:=le₁.trans (le₂.trans le₃)
 have back: ∀W' s',(W₃.plus Y s₃.heap).le W'→At C (uc scope) A W' cenv ms2' σ₂ s'→W₃.le (W'.minus Y)∧At C sc A (W'.minus Y) env ms₁ σ₂ s'∧Fre (W'.minus Y) cenv.locals∧ ¬Own env cenv.locals:=fun W' s' le' H'=>by
  have F':=H'.fr
  have yobj: ∀a,Y a→ ∃o o',s₃.heap.get? a=some o∧W'.fz a=some o∧s'.heap.get? a=some o'∧Up o o'∧FCl o:=fun a q=>by
   obtain⟨_,_,o,z1,z2⟩:=F₃.own q.1
   have z3:=le'.2 a o (by rw [Wd.pli q];exact z1)
   obtain⟨o',z4,z5⟩:=H'.inv.fz a o z3
   exact⟨o,o',z1,z3,z4,z5,z2⟩
  have hj: ∀a o,Y a→W'.fz a=some o→Jk o:=fun a o q e=>by
   obtain⟨o1,_,_,z,_,_,z2⟩:=yobj a q
   rw [z]at e;cases e;exact z2.jk
  have le3:W₃.le (W'.minus Y):=⟨fun l a e=>le'.1 _ _ (leY.1 _ _ e),fun a o e=>by
   rw [Wd.mou fun q=>by rw [(hY a q).1]at e;cases e]
   exact le'.2 _ _ (leY.2 _ _ e)⟩
  have nL: ¬Own env cenv.locals:=fun q=>absurd (hloc2▸ownLt _ q) (Nat.lt_irrefl _)
  have yL:Y env.locals:=⟨.inl rfl,fun x hx=>(F₃.apC x _ (clo x _ hx)).2.2.1 rfl⟩
  refine⟨le3,⟨H'.inv.minus hj fun a q=>H₃.inv.fOl (hY a q).1,?_⟩,⟨?_,F'.apL.2⟩,nL⟩
  ·obtain⟨mr,⟨oL,es,ep,g1,g2,g3,g4⟩,hv⟩:=F₃.ns
   obtain⟨o,oL',y1,y2,y3,y4,y5⟩:=yobj _ yL
   rw [g1]at y1;obtain rfl:=Option.some.inj y1
   have hρ: ∀a,Y a→ ∀l,W'.ρ l≠some a:=fun a q l e=>by
    obtain⟨_,_,_,z,_⟩:=yobj a q
    rw [H'.inv.apart l a e]at z;cases z
   have cl2: ∀x a,(x,a)∈closure→(x,a)∈cenv.cells:=fun x a hm=>by
    rw [hcel2,←hcells];exact cFa _ _ _ _ hm
   have own2: ∀x a,(x,a)∈env.cells→Y a∨ ∃x',(x',a)∈closure:=fun x a hm=>by
    by_cases q: ∃x',(x',a)∈closure
    ·exact .inr q
    ·exact .inl ⟨.inr (List.mem_map.mpr ⟨(x,a),hm,rfl⟩),fun x' hx'=>q ⟨x',hx'⟩⟩
   refine⟨F₃.scope,F₃.globals,F₃.builtins,F₃.ok,⟨mr,⟨oL',es,ep,y3,y4.data▸g2,g3,g4⟩,fun i x u hi hu=>let ⟨r,e1,e2⟩:=hv i x u hi hu;⟨r,e1,e2.mono le3⟩⟩,fun i x hi=> ?_,⟨Wd.mii yL,fun l=>hρ _ yL l⟩,fun x a hm=> ?_,F₃.injC,?_,?_⟩
   ·obtain⟨a,ov,ha,⟨oc,c1,c2⟩,c3⟩:=F₃.cells i x hi
    rcases own2 x a (mem_of_lookup ha)with q | ⟨x',hx'⟩
    ·obtain⟨o,o',z1,_,z3,z4,_⟩:=yobj a q
     rw [c1]at z1;obtain rfl:=Option.some.inj z1
     exact⟨a,ov,ha,⟨o',z3,z4.data▸c2⟩,fun u hu=>let ⟨r,e1,e2⟩:=c3 u hu;⟨r,e1,e2.mono le3⟩⟩
    ·have hxx:x'=x:=F₃.injC x' x a (clo x' a hx') (mem_of_lookup ha)
     subst hxx
     obtain⟨i',j,hij,hi',hj'⟩:=cellIn (hcl1 x' a hx').1
     have:=nai (sO.nodup F₃.ok) hi hi'
     subst this
     obtain⟨a2,ov2,ha2,hc2,hv2⟩:=F'.cells j x' (unfL hj')
     have ea:a2=a:=by
      rw [hcel2,look2 (hcl1 x' a hx').1,ha]at ha2
      exact(Option.some.inj ha2).symm
     subst ea
     refine⟨a2,ov2,ha,hc2,fun u hu=> ?_⟩
     have eq1:(ms2'[j]?).join=(ms₁[i]?).join:=by
      have hm: ∀(l:List (Nat×Nat)),(l.map fun p=>(ms2'[p.2]?).join)=(l.map fun p=>(ms₁[p.1]?).join)→(i,j)∈l→(ms2'[j]?).join=(ms₁[i]?).join:=by
       intro l
       induction l with
       | nil=>intro _ h;cases h
       | cons p r ih=>
        intro h hm
        rw [List.map_cons,List.map_cons,List.cons.injEq]at h
        cases hm with
        | head=>exact h.1
        | tail _ hm=>exact ih h.2 hm
      exact hm link hend hij
     rw [hu]at eq1
     obtain⟨r,e1,e2⟩:=hv2 u (jg eq1)
     exact⟨r,e1,e2.taken hj⟩
   ·rcases own2 x a hm with q | ⟨x',hx'⟩
    ·obtain⟨z1,z2,z3,ov,oc,z4,z5,z6⟩:=F₃.apC x a hm
     obtain⟨o,o',w1,_,w3,w4,_⟩:=yobj a q
     rw [z4]at w1;obtain rfl:=Option.some.inj w1
     exact⟨Wd.mii q,hρ a q,z3,ov,o',w3,w4.data▸z5,w4.cls▸z6⟩
    ·obtain⟨z1,z2,z3,ov,oc,z4,z5,z6⟩:=F'.apC x' a (cl2 x' a hx')
     refine⟨?_,z2,(F₃.apC x a hm).2.2.1,ov,oc,z4,z5,z6⟩
     rw [Wd.mou fun q=>q.2 x' hx'];exact z1
   ·obtain⟨o2,es2,n2,w1,w2,w3⟩:=F₃.clsL
    rw [g1]at w1;obtain rfl:=Option.some.inj w1
    exact⟨oL',es2,n2,y3,y4.cls▸w2,y4.data▸w3⟩
   ·obtain⟨fenv,rest,L,e1,e2,e3,e4,e5,e6,e7⟩:=F₃.stk
    refine⟨fenv,rest,L,e1,e2.mono le3,e3,e4,e5,e6,?_⟩
    rcases e7 with⟨rfl,o,es,n,f1,f2,f3⟩ | ⟨o,es,n,f1,f2,f3⟩
    ·rw [g1]at f1;obtain rfl:=Option.some.inj f1
     exact .inl ⟨rfl,oL',es,n,y3,y4.cls▸f2,y4.data▸f3⟩
    ·exact .inr ⟨o,es,n,le3.2 _ _ f1,f2,f3⟩
  ·rw [Wd.mou fun q=>nL q.1];exact F'.apL.1
 have hkind2:cenv.scope.kind= .function:=by rw [←hcenv];exact sO.kind hok2
 have hvars: ∀x∈scope.names,x.2= .local→cenv.kindOf x.1=some .local:=fun x hx hx2=>by
  obtain⟨j,hj⟩:=List.getElem?_of_mem hx
  have:(uc scope).names[j]? =some (x.1,NameKind.local):=by
   obtain⟨n,kd⟩:=x
   have hx2:kd=NameKind.local:=hx2
   subst hx2
   unfold uc;rw [List.getElem?_map,hj];rfl
  unfold Env.kindOf
  rw [←hcenv];exact lon (sO.nodup hok2) this
 have goes: ∀(vs:List (Str×NameKind)) (cellsOf:List (Str×NameKind)→List Value) (W':Wd) (msx:List (Option AV)) (σx:St) (s':Shared) (mr:Str→Option Value),(∀x∈vs,x.2= .local→cenv.kindOf x.1=some .local)→At C sc A W' env msx σx s'→Fre W' cenv.locals→ ¬Own env cenv.locals→s'.heap.Ns cenv.locals mr→
   ∀(P:Unit→Shared→Prop),(∀s'',At C sc A W' env msx σx s''→P () s'')→wpAny C.M A (comprehension.letGo cenv cellsOf vs) P No s':=fun vs cellsOf W' msx σx s' mr hvs H' hf hn hns P hP=>by
  refine wpAny_comp_letGo hkind2 vs s' mr hvs hns fun h' m' _ hs'=>hP _ ⟨H'.inv.but hf.1 hf.2 fun b o nb e=>(hs'.2 b nb).trans e,H'.fr.keep hn hf.1 (H'.fr.fne hn hf.1) fun b o nb e=>(hs'.2 b nb).trans e⟩
 refine wpAny_holding (wpAny_bind (wpAny_attempt (wpAny_holding (wpAny_run (h:=none) ?_))))
 rw [mark_none]
 refine codeAny_mono hrun fun r s' hh=> ?_
 cases r with
 | error e=>exact hh.elim
 | ok fl=>
  obtain⟨W',le',H'⟩:=hh
  obtain⟨leB,HB,hf,hn⟩:=back W' s' le' H'
  obtain⟨mr2,hns2,_⟩:=H'.fr.ns
  cases use with
  | none=>
   refine wpAny_bind (wpAny_holding (goes _ _ _ _ _ _ mr2 (fun x hx hx2=>hvars x (List.mem_filter.mp (List.mem_reverse.mp hx)).1 hx2) HB hf hn hns2 _ fun s'' H''=>wpAny_pure ?_))
   exact hQ _ acc s'' (le03.trans leB) H'' (qacc.mono leB)
  | some u=>
   obtain⟨ms₃,σ₃,hu,hQ⟩:=hQ
   refine wpAny_bind (wpAny_rule (wpAny_bind (wpAny_holding ?_)))
   obtain⟨oL,esL,epL,gL,dL,kL,fL⟩:=hns2
   obtain⟨oL2,es2,n2,gL2,cL2,_⟩:=H'.fr.clsL
   rw [gL]at gL2;obtain rfl:=Option.some.inj gL2
   obtain⟨leF,HF⟩:=HB.freeze gL hf.1 hf.2 hn
   refine wpAny_mono (hu _ acc s' (le03.trans (leB.trans leF)) HF ((qacc.mono leB).mono leF)) (fun _ s₅ ⟨W₅,le₅,fz₅,H₅⟩=> ?_) fun _ _ h=>h
   have e5:W₅.fz cenv.locals=some oL:=fz₅ _ _ (by show(if _ then _ else _)=_;rw [if_pos rfl])
   have hfr:oL.cls≠ .type "frame":=fun z=>by
    rcases cL2 with c | c
    ·have e1:cenv.frame=env.frame:=by rw [←hcenv]
     exact F₃.fne hn (above _ (Nat.le_of_eq hloc2.symm)).1 (e1▸c.2)
    ·rw [c]at z;exact absurd (Value.type.inj z) (by decide)
   have cD:oL.cls= .type "dict":=cL2.elim (fun c=>absurd c.1 hfr) id
   have hjL:Jk oL:=fun n z=>by rw [cD]at z;cases Value.type.inj z;decide
   obtain⟨HT,ob',gT,rfl⟩:=H₅.thaw e5 hjL hfr (H'.inv.fOl H'.fr.apL.1)
   have leT:W.le (W₅.minus (· =cenv.locals)):=⟨fun l a q=>le₅.1 _ _ q,fun a o q=>by
    rw [Wd.mou (X:=(· =cenv.locals)) fun z=>by
     have z:a=cenv.locals:=z
     subst z
     have:=le03.2 _ _ q
     rw [(above _ (Nat.le_of_eq hloc2.symm)).1]at this;cases this]
    exact le₅.2 _ _ q⟩
   refine wpAny_bind (goes _ _ _ _ _ _ mr2 (fun x hx hx2=> ?_) HT ⟨Wd.mii (X:=(· =cenv.locals)) rfl,fun l q=> ?_⟩ hn ⟨ob',esL,epL,gT,dL,kL,fL⟩ _ fun s'' H''=>wpAny_pure ?_)
   ·exact hvars x (List.mem_filter.mp (List.mem_reverse.mp ((List.mem_append.mp hx).elim (fun hx=>List.mem_of_mem_drop hx) (fun hx=>List.mem_of_mem_take hx)))).1 hx2
   ·have:=H₅.inv.apart l _ q
    rw [e5]at this;cases this
   ·exact hQ _ s'' leT H''
end
end V
end
section
namespace V
noncomputable def AV.Pur (x:AV):Prop:= ∀D,AV.In D x
noncomputable def AV.Pb (xs:List AV):Prop:= ∀D,AV.Ins D xs
theorem AV.Iif {D:Loc→Prop}: ∀{xs:List AV},AV.Ins D xs↔ ∀x∈xs,AV.In D x
 | []=>by unfold AV.Ins;simp
 | y::r=>by unfold AV.Ins;rw [AV.Iif (xs:=r)];simp
theorem Pof {xs:List AV} (h: ∀x∈xs,x.Pur):AV.Pb xs:=fun D=>AV.Iif.mpr fun x hx=>h x hx D
theorem Pst {s:Str}:(AV.str s).Pur:=fun u=>trivial
theorem Pui {i:Int}:(AV.int i).Pur:=fun u=>trivial
theorem Pls {xs:List AV} (h:AV.Pb xs):(AV.lst xs).Pur:=fun D=>by unfold AV.In;exact h D
theorem Ptu {xs:List AV} (h:AV.Pb xs):(AV.tup xs).Pur:=fun D=>by unfold AV.In;exact h D
theorem Pu {α:Type} {f:α→AV} {l:List α} (h: ∀x,(f x).Pur):AV.Pb (l.map f):=Pof fun x hx=>by
 obtain⟨y,_,rfl⟩:=List.mem_map.mp hx;exact h y
noncomputable def Cg (σ:St):Prop:= ∀l o,σ l=some o→o.In fun l=>(σ l).isSome=true
noncomputable def MIn (sc:Scope) (ms:List (Option AV)) (σ:St):Prop:=
 ∀(i:Nat) (x:Str) (kd:NameKind) (v:AV),sc.names[i]? =some (x,kd)→(kd= .local∨kd= .cell)→ms[i]? =some (some v)→v.In fun l=>(σ l).isSome=true
section
variable {C:Cx} {k:Nat} {sc:Scope} {A:Around} {W:Wd} {env:Env} {ms ms₁ ms₂ ms₃ ms':List (Option AV)} {σ σ₁ σ₂ σ₃ σ' τ:St} {s:Shared}
theorem AO.In.mono {D D':Loc→Prop} (m: ∀l,D l→D' l) {o:AO} (z:o.In D):o.In D':=by
 cases o with
 | list xs=>exact AV.Ins.mono m z
 | dict es=>exact fun p hp=>(z p hp).mono m
 | map es n=>exact fun p hp=>(z p hp).mono m
 | set xs=>trivial
 | inst c d=>exact m d z
 | slots c d vs=>exact⟨m d z.1,fun x hx=>(z.2 x hx).mono m⟩
 | junk=>trivial
 | exc n xs=>exact AV.Ins.mono m z
 | iter l i=>exact m l z
theorem Inv.closed (I:Inv C W σ s):Cg σ:=fun l o e=>by
 obtain⟨a,ob,_,_,h⟩:=I.at e
 exact h.iD.mono fun l q=>by rw [←I.dom l];exact q
theorem At.msIn (H:At C sc A W env ms σ s):MIn sc ms σ:=fun i x kd v hi hk hv=>by
 rcases hk with rfl | rfl
 ·obtain⟨mr,_,hm⟩:=H.fr.ns
  obtain⟨r,_,q⟩:=hm i x v hi hv
  exact q.iD.mono fun l q=>by rw [←H.inv.dom l];exact q
 ·obtain⟨a,ov,_,_,hm⟩:=H.fr.cells i x hi
  obtain⟨r,_,q⟩:=hm v hv
  exact q.iD.mono fun l q=>by rw [←H.inv.dom l];exact q
theorem FRe.cut {W':Wd} {D:Loc→Prop} {h:Heap} (F:FRe C sc A W env ms h) (c:Cut W W' D) (hm: ∀(i:Nat) (x:Str) (kd:NameKind) (v:AV),sc.names[i]? =some (x,kd)→(kd= .local∨kd= .cell)→ms[i]? =some (some v)→v.In D)
  (h1: ∀a,Own env a→W'.fz a=none) (h2: ∀l a,W'.ρ l=some a→W.ρ l=some a):FRe C sc A W' env ms h:=by
 obtain⟨mr,hn,hv⟩:=F.ns
 refine⟨F.scope,F.globals,F.builtins,F.ok,⟨mr,hn,fun i x v hi hu=>let ⟨r,e,q⟩:=hv i x v hi hu;⟨r,e,q.cut c (hm i x _ v hi (.inl rfl) hu)⟩⟩,fun i x hi=> ?_,⟨h1 _ (.inl rfl),fun l e=>F.apL.2 l (h2 _ _ e)⟩,fun x a hx=> ?_,F.injC,F.clsL,?_⟩
 ·obtain⟨a,ov,e1,e2,e3⟩:=F.cells i x hi
  exact⟨a,ov,e1,e2,fun v hu=>let ⟨r,e,q⟩:=e3 v hu;⟨r,e,q.cut c (hm i x _ v hi (.inr rfl) hu)⟩⟩
 ·obtain⟨_,e2,e3⟩:=F.apC x a hx
  exact⟨h1 _ (.inr (List.mem_map.mpr ⟨(x,a),hx,rfl⟩)),fun l e=>e2 l (h2 _ _ e),e3⟩
 ·obtain⟨fenv,rest,L,e1,e2,e3,e4,e5,e6,e7⟩:=F.stk
  refine⟨fenv,rest,L,e1,fun e he=> ?_,e3,e4,e5,e6,?_⟩
  ·obtain⟨k1,L',o,es,n,k2,k3,k4,k5,k6⟩:=e2 e he
   exact⟨k1,L',o,es,n,k2,k3,c.2 _ _ k4,k5,k6⟩
  ·rcases e7 with z | ⟨o,es,n,z1,z2⟩
   ·exact .inl z
   ·exact .inr ⟨o,es,n,c.2 _ _ z1,z2⟩
theorem At.fLi {l:Loc} {xs:List AV} {v:Value} (H:At C sc A W env ms σ s) (hl:σ l=some (.list xs)) (ht:τ l=none) (hs: ∀l o,τ l=some o→σ l=some o) (hc:Cg τ)
  (hx:AV.Ins (fun l=>(τ l).isSome=true) xs) (hm:MIn sc ms τ) (hv:VR W (.loc l) v): ∃W',Cut W W' (fun l=>(τ l).isSome=true)∧At C sc A W' env ms τ s∧VR W' (.lst xs) v:=by
 have I':=H.inv.only hs hc
 have hv':=hv
 obtain⟨a,e,rfl⟩:=hv
 obtain⟨ob,h1,h2⟩:=H.inv.obj l a _ e hl
 obtain⟨c1,vs,n,c2,c3⟩:=h2
 have sub: ∀{x b},(W.only τ).ρ x=some b→W.ρ x=some b∧(τ x).isSome=true:=fun{x b} q=>by
  have q:(if(τ x).isSome then W.ρ x else none)=some b:=q
  split at q
  ·rename_i h;exact⟨q,h⟩
  ·cases q
 have n2: ∀x,(W.only τ).ρ x≠some a:=fun x q=>by
  have:=H.inv.inj x l a (sub q).1 e
  have h:=(sub q).2
  rw [this,ht]at h;cases h
 have n1:(W.only τ).fz a=none:=H.inv.apart l a e
 obtain⟨le,I2⟩:=I'.nF (h:=s.heap) (t:=s.toks) (d:=s.drawn) n1 n2 (fun _ _ q=>q) h1
 have cut:Cut W ((W.only τ).freeze a ob) (fun l=>(τ l).isSome=true):=⟨fun x b d q=>(W.ocu τ).1 x b d q,fun x o q=>le.2 _ _ q⟩
 refine⟨_,cut,⟨I2,H.fr.cut cut hm (fun b q=> ?_) fun x b q=>(sub q).1⟩,?_⟩
 ·obtain⟨o1,o2,_⟩:=H.fr.own q
  show(if b=a then some ob else W.fz b)=none
  rw [if_neg fun z=>o2 l (by rw [z];exact e)];exact o1
 ·unfold VR
  refine⟨a,ob,vs,n,rfl,?_,c1,c2,c3.cut cut hx⟩
  show(if a=a then some ob else _)=_
  rw [if_pos rfl]
theorem Free2 (I:Inv C W σ s) {W₁:Wd} {s₁:Shared} (I₁:Inv C W₁ σ₁ s₁): ∃la:Loc,σ la=none∧σ₁ la=none:=by
 obtain⟨n,h⟩:=I.free
 obtain⟨m,h'⟩:=I₁.free
 exact⟨⟨n+m,Str.empty⟩,h _ (Nat.le_add_right _ _),h' _ (Nat.le_add_left _ _)⟩
theorem Cap {l:Loc} {xs:List AV} {x:AV} (hl:σ l=some (.list xs)) (hz:xs.length≤sizeLine):Ca C k σ (.bi "list.append") [.loc l,x] [] .none (σ.set l (.list (xs++ [x]))):=by
 intro W rf ras rkw hf ha hk A s outer hr hA hS I
 unfold VR at hf;subst hf
 obtain⟨v1,r1,rfl,q1,ha⟩:=ha
 obtain⟨v2,r2,rfl,q2,ha⟩:=ha
 unfold VRe at ha;subst ha
 unfold KR at hk;subst hk
 obtain⟨a,e,rfl⟩:=q1
 obtain⟨ob,h1,c1,vs,n,rfl,c3⟩:=I.obj l a _ e hl
 have hT:s.TypeIs (.ref a) "list":=⟨_,h1,rfl⟩
 refine wpAny_call_entry slot_list_append hT entry_list_append ?_ (args_list_append _ _)
 show wpAny _ _ (updateSeq a (·.push v2)>>=fun u=>ret .none) _ _ s
 have hzz:vs.toArray.size≤sizeLine:=by rw [List.size_toArray,c3.length];exact hz
 refine wpAny_bind (wpAny_updateSeq h1 rfl (wpAny_pure ⟨.none,rfl,?_⟩) hzz (by rw [Array.size_push];omega))
 refine⟨W,.refl W,I.upd e (uke _ _ _) (Heap.get?_update_self _ h1 rfl) ⟨rfl,vs++ [v2],_,by simp [Obj.mapSeq];rfl,c3.append (.cons q2 .nil)⟩,by unfold VR;rfl⟩
theorem El {la:Loc} {elt:Expr} {gens:List Comprehension} {scope:Scope} {pos:Pos} {v:AV} {out:List AV} (h:Ev C k sc ms σ elt v ms' σ₁) (ho:σ₁ la=some (.list out)) (hz:out.length≤sizeLine):
  Em C k sc la (.ListComp elt gens scope pos) ms σ ms' (σ₁.set la (.list (out++ [v]))):=by
 intro A W env s racc hr H q
 show wpAny C.M A (do let _←call (.builtin "list.append") [racc,←eval elt env]) _ _ _
 refine pbi (h A W env s hr H) fun W₁ rv s₁ le₁ H₁ q₁=>wpAny_bind ?_
 refine(Cap (k:=k) ho hz).in hr H₁ (by unfold VR;rfl) (.cons (q.mono le₁) (.cons q₁ .nil)) .nil fun W₂ r s₂ le₂ H₂ u=>wpAny_pure (ph (le₁.trans le₂) H₂ trivial)
structure CIn (C:Cx) (k:Nat) (sc:Scope) (ms:List (Option AV)) (σ:St) (scope:Scope) (link:List (Nat×Nat)) (g:Comprehension) (gs:List Comprehension) (ms₁:List (Option AV)) (σ₁:St) (v src:AV) (xs:List AV) (ok:St→Prop) (Sh:Nat→Value→Obj→Prop):Prop where
 sync: ∀g'∈g::gs,g'.is_async=0
 linked: ∀p∈link,∃x,sc.names[p.1]? =some (x,NameKind.cell)∧scope.names[p.2]? =some (x,NameKind.free)
 free:fId scope=link.map (·.2)
 ok2:sO (uc scope)=true
 first:Ev C k sc ms σ g.iter v ms₁ σ₁
 it:Itr C k ok v xs src Sh
 ok:ok σ₁
 fold: ∀env x,foldedSetIterable g.iter env x=pure x
theorem che {e:Expr} {scope:Scope} {pos:Pos} {g:Comprehension} {gs:List Comprehension} {v:AV} {newAcc:Sem Value} {use:Option (Value→Sem Unit)} {Q:Value→Shared→Prop} (he:gOf e=some (g::gs)) (h1:Ev C k sc ms σ g.iter v ms₁ σ₁) (hr:Ro C A k) (H:At C sc A W env ms σ s)
  (h:(∃la:Loc,σ la=none∧σ₁ la=none)→Cg σ₁→MIn sc ms₁ σ₁→wpAny C.M A (comprehension e scope env pos newAcc false (eval g.iter env) use) Q No s):wpAny C.M A (comprehension e scope env pos newAcc false (eval g.iter env) use) Q No s:=by
 by_cases q:(∃la:Loc,σ la=none∧σ₁ la=none)∧Cg σ₁∧MIn sc ms₁ σ₁
 ·exact h q.1 q.2.1 q.2.2
 ·unfold comprehension
  refine pbi (h1 A W env s hr H) fun W₁ rv s₁ le₁ H₁ q₁=>(q ⟨Free2 H.inv H₁.inv,H₁.inv.closed,H₁.msIn⟩).elim
theorem ssu {l:Loc} {o:AO} (h:σ l=none): ∀x y,σ x=some y→(σ.set l o) x=some y:=fun x y e=>by
 unfold St.set
 rw [if_neg fun z=>by rw [z,h]at e;cases e];exact e
theorem sdo {l:Loc} {o:AO} (x:Loc) (h:((σ.set l o) x).isSome=true) (n:x≠l):(σ x).isSome=true:=by
 unfold St.set at h
 rwa [if_neg n]at h
theorem cle {W' W'':Wd} {la:Loc} {o:AO} (I:Inv C W σ s) (hla:σ la=none) (le:W.le W') {s':Shared} (I':Inv C W' (σ₁.set la o) s') (c:Cut W' W'' fun l=>(σ₁ l).isSome=true):W.le W'':=
 ⟨fun l a e=>c.1 l a (sdo l (by rw [←I'.dom l,le.1 _ _ e];rfl) fun z=>by rw [z,I.none_of hla]at e;cases e) (le.1 _ _ e),fun a o e=>c.2 _ _ (le.2 _ _ e)⟩
theorem ELC {elt:Expr} {scope:Scope} {pos:Pos} {g:Comprehension} {gs:List Comprehension} {link:List (Nat×Nat)} {v src:AV} {xs out:List AV} {ok:St→Prop} {Sh:Nat→Value→Obj→Prop} {ms2':List (Option AV)}
  (K:CIn C k sc ms σ scope link g gs ms₁ σ₁ v src xs ok Sh)
  (hl: ∀la,σ₁ la=none→CL C k (uc scope) la (.ListComp elt (g::gs) scope pos) ok g gs xs (sMs link ms₁ scope.names.length) (σ₁.set la (.list [])) ms2' (σ₁.set la (.list out)))
  (hend:(link.map fun p=>(ms2'[p.2]?).join)=link.map fun p=>(ms₁[p.1]?).join) (hp:AV.Pb out):Ev C k sc ms σ (.ListComp elt (g::gs) scope pos) (.lst out) ms₁ σ₁:=by
 intro A W env s hr H
 obtain⟨tg,it,ifs,as⟩:=g
 have ha:as=0:=K.sync _ (.head _)
 subst ha
 show wpAny C.M A (comprehension _ scope env _ (newList []) false (eval it env)) _ _ _
 refine che (g:=⟨tg,it,ifs,0⟩) rfl K.first hr H fun⟨la,hla,hla1⟩ hcl hm=> ?_
 refine cru (g:=⟨tg,it,ifs,0⟩) (o₀:= .list []) (use:=none) rfl K.sync K.linked K.free K.ok2 K.first K.it K.ok K.fold (fun W=>OnL .nil (Nat.zero_le _) hla1) (hl la hla1) hend hr H ?_
 intro W' acc s' le H' q
 obtain⟨W'',c,H'',q''⟩:=H'.fLi (τ:=σ₁) (l:=la) (xs:=out) (by unfold St.set;rw [if_pos rfl]) hla1 (ssu hla1) hcl (hp _) hm q
 exact ph (cle H.inv hla le H'.inv c) H'' q''
theorem EvL {elt:Expr} {scope:Scope} {pos:Pos} {g:Comprehension} {gs:List Comprehension} {link:List (Nat×Nat)} {v src:AV} {xs out:List AV} {ok:St→Prop} {Sh:Nat→Value→Obj→Prop} {ms2':List (Option AV)} (la:Loc)
  (K:CIn C k sc ms σ scope link g gs ms₁ σ₁ v src xs ok Sh) (hla:σ₁ la=none)
  (hl:CL C k (uc scope) la (.ListComp elt (g::gs) scope pos) ok g gs xs (sMs link ms₁ scope.names.length) (σ₁.set la (.list [])) ms2' σ₂)
  (hend:(link.map fun p=>(ms2'[p.2]?).join)=link.map fun p=>(ms₁[p.1]?).join):Ev C k sc ms σ (.ListComp elt (g::gs) scope pos) (.loc la) ms₁ σ₂:=by
 intro A W env s hr H
 obtain⟨tg,it,ifs,as⟩:=g
 have ha:as=0:=K.sync _ (.head _)
 subst ha
 show wpAny C.M A (comprehension _ scope env _ (newList []) false (eval it env)) _ _ _
 refine cru (g:=⟨tg,it,ifs,0⟩) (o₀:= .list []) (use:=none) rfl K.sync K.linked K.free K.ok2 K.first K.it K.ok K.fold (fun W=>OnL .nil (Nat.zero_le _) hla) hl hend hr H ?_
 intro W' acc s' le H' q
 exact ph le H' q
theorem XC {t:Expr} {elt:Expr} {scope:Scope} {pos cpos:Pos} {g:Comprehension} {gs:List Comprehension} {link:List (Nat×Nat)} {v src:AV} {xs out:List AV} {ok:St→Prop} {Sh:Nat→Value→Obj→Prop} {ms2':List (Option AV)}
  (K:CIn C k sc ms σ scope link g gs ms₁ σ₁ v src xs ok Sh)
  (hl: ∀la,σ₁ la=none→CL C k (uc scope) la (.ListComp elt (g::gs) scope cpos) ok g gs xs (sMs link ms₁ scope.names.length) (σ₁.set la (.list [])) ms2' (σ₁.set la (.list out)))
  (hend:(link.map fun p=>(ms2'[p.2]?).join)=link.map fun p=>(ms₁[p.1]?).join) (hp:AV.Pb out)
  (hsw: ∀env,∃b,swapsWithSole [t] (.ListComp elt (g::gs) scope cpos) pos.line env=pure b) (hw: ∀env,swappedStores [t] (.ListComp elt (g::gs) scope cpos) env=pure none) (ht: ∀env,(assignEach [t] env).map (·.2)= [assign t env])
  (ha:As C k sc ms₁ σ₁ t (.lst out) ms' σ'):X1 C k sc ms σ (.Assign [t] (.ListComp elt (g::gs) scope cpos) pos) .next ms' σ':=by
 intro A W env s hr H
 show wpAny C.M A (exec _ env) _ _ _
 rw [exec_Assign_arm]
 refine wpAny_bind (wpAny_standAt ?_)
 obtain⟨b,hb⟩:=hsw env
 rw [hb]
 refine wpAny_bind (wpAny_pure ?_)
 cases b with
 | false=>
  refine pbi (ELC K hl hend hp A W env s hr H) fun W₁ r s₁ le₁ H₁ q=> ?_
  refine wpAny_bind (wpAny_of_eq (hw env) ?_)
  rw [ht]
  refine wpAny_bind (pg (ha A W₁ env s₁ r hr H₁ q) fun W₂ u s₂ le₂ H₂ w=>wpAny_pure (ph (le₁.trans le₂) H₂ rfl))
 | true=>
  simp only [if_true]
  obtain⟨tg,it,ifs,as⟩:=g
  have ha0:as=0:=K.sync _ (.head _)
  subst ha0
  rw [ht]
  rw [arm_evalThenUse_ListComp]
  refine wpAny_bind (wpAny_bind ?_)
  show wpAny C.M A (comprehension _ scope env _ (newList []) false (eval it env) (some _)) _ _ _
  refine che (g:=⟨tg,it,ifs,0⟩) rfl K.first hr H fun⟨la,hla,hla1⟩ hcl hm=> ?_
  refine cru (g:=⟨tg,it,ifs,0⟩) (o₀:= .list []) (use:=some _) rfl K.sync K.linked K.free K.ok2 K.first K.it K.ok K.fold (fun W=>OnL .nil (Nat.zero_le _) hla1) (hl la hla1) hend hr H ⟨ms',σ',fun W' acc s' le H' q=> ?_,fun W' s' le H'=>wpAny_pure (wpAny_pure (ph le H' rfl))⟩
  obtain⟨W'',c,H'',q''⟩:=H'.fLi (τ:=σ₁) (l:=la) (xs:=out) (by unfold St.set;rw [if_pos rfl]) hla1 (ssu hla1) hcl (hp _) hm q
  have cl:=cle H.inv hla le H'.inv c
  exact pg (ha A W'' env s' acc hr H'' q'') fun W₂ u s₂ le₂ H₂ w=>⟨W₂,cl.trans le₂,fun a o e=>le₂.2 _ _ (c.2 _ _ e),H₂⟩
end
end V
end
section
namespace V
open Builtin Builtin.Str
theorem Vi {W:Wd} {i:Int} {t:Tok}:VR W (.int i) (.int i t):=by unfold VR;exact⟨_,rfl⟩
theorem Vs {W:Wd} {x:Str} {t:Tok}:VR W (.str x) (.str x t):=by unfold VR;exact⟨_,rfl⟩
theorem Vb {W:Wd} {b:Bool}:VR W (.bool b) (.bool b):=by unfold VR;rfl
theorem Vn {W:Wd}:VR W .none .none:=by unfold VR;rfl
theorem Vo {W:Wd} {x:AV} {vs:List Value} (h:VRe W [x] vs): ∃v,vs= [v]∧VR W x v:=by
 unfold VRe at h;obtain⟨v,r,rfl,q,h⟩:=h;unfold VRe at h;subst h;exact⟨v,rfl,q⟩
theorem Vt {W:Wd} {x y:AV} {vs:List Value} (h:VRe W [x,y] vs): ∃v u,vs= [v,u]∧VR W x v∧VR W y u:=by
 unfold VRe at h;obtain⟨v,r,rfl,q,h⟩:=h;obtain⟨u,rfl,q2⟩:=Vo h;exact⟨v,u,rfl,q,q2⟩
theorem VRt {W:Wd} {x y z:AV} {vs:List Value} (h:VRe W [x,y,z] vs): ∃v u t,vs= [v,u,t]∧VR W x v∧VR W y u∧VR W z t:=by
 unfold VRe at h;obtain⟨v,r,rfl,q,h⟩:=h;obtain⟨u,t,rfl,q2,q3⟩:=Vt h;exact⟨v,u,t,rfl,q,q2,q3⟩
section
variable {C:Cx} {k:Nat} {W:Wd} {σ σ':St}
theorem Op.look {α:Type} {t:Sem α} {R:Wd→α→Prop} (h: ∀A s (Q:α→Shared→Prop),Ro C A k→Inv C W σ s→(∀r tk,R W r→Q r {s with toks:=tk})→wpAny C.M A t Q No s):Op C k W σ t R σ:=by
 intro A s outer hr hA hS I
 refine wA (h A s _ hr I fun r tk hR=> ?_)
 intro l
 exact⟨W,.refl W,I.same (fun u v e=>e) l,hR⟩
theorem O2 {α:Type} {f:Value→Value→Sem α} {a b:Int} {R:α→Prop} (h: ∀A s (Q:α→Shared→Prop) t u,Ro C A k→(∀r tk,R r→Q r {s with toks:=tk})→wpAny C.M A (f (.int a t) (.int b u)) Q No s):Op2 C k σ f (.int a) (.int b) (fun v r=>R r) σ:=by
 intro W ra rb ha hb
 obtain⟨t,rfl⟩:=ha
 obtain⟨u,rfl⟩:=hb
 exact Op.look fun A s Q hr I hq=>h A s Q t u hr hq
theorem O2s {α:Type} {f:Value→Value→Sem α} {a b:Str} {R:α→Prop} (h: ∀A s (Q:α→Shared→Prop) t u,Ro C A k→(∀r tk,R r→Q r {s with toks:=tk})→wpAny C.M A (f (.str a t) (.str b u)) Q No s):Op2 C k σ f (.str a) (.str b) (fun v r=>R r) σ:=by
 intro W ra rb ha hb
 obtain⟨t,rfl⟩:=ha
 obtain⟨u,rfl⟩:=hb
 exact Op.look fun A s Q hr I hq=>h A s Q t u hr hq
theorem Osi {α:Type} {f:Value→Value→Sem α} {a:Str} {b:Int} {R:α→Prop} (h: ∀A s (Q:α→Shared→Prop) t u,Ro C A k→(∀r tk,R r→Q r {s with toks:=tk})→wpAny C.M A (f (.str a t) (.int b u)) Q No s):Op2 C k σ f (.str a) (.int b) (fun v r=>R r) σ:=by
 intro W ra rb ha hb
 obtain⟨t,rfl⟩:=ha
 obtain⟨u,rfl⟩:=hb
 exact Op.look fun A s Q hr I hq=>h A s Q t u hr hq
theorem Op2.to {α:Type} {f:Value→Value→Sem α} {a b:AV} {R R':Wd→α→Prop} (h:Op2 C k σ f a b R σ') (g: ∀W r,R W r→R' W r):Op2 C k σ f a b R' σ':=by
 intro W ra rb ha hb A s outer hr hA hS I
 exact wpAny_mono (h W ra rb ha hb A s outer hr hA hS I) (fun r s' ⟨W',le,I',q⟩=>⟨W',le,I',g _ _ q⟩) fun u v x=>x
variable {a b c:Int}
theorem iad:Op2 C k σ (binaryOp .Add) (.int a) (.int b) (fun W r=>VR W (.int (a+b)) r) σ:=(O2 (R:=fun r=> ∃t,r= .int (a+b) t) fun A s Q t u hr h=>P.add_int (h _ _ ⟨_,rfl⟩)).to fun W r ⟨t,e⟩=>e▸Vi
theorem i_sub:Op2 C k σ (binaryOp .Sub) (.int a) (.int b) (fun W r=>VR W (.int (a - b)) r) σ:=(O2 (R:=fun r=> ∃t,r= .int (a - b) t) fun A s Q t u hr h=>P.sub_int (h _ _ ⟨_,rfl⟩)).to fun W r ⟨t,e⟩=>e▸Vi
theorem iia:Op2 C k σ (inplaceOp .Add) (.int a) (.int b) (fun W r=>VR W (.int (a+b)) r) σ:=(O2 (R:=fun r=> ∃t,r= .int (a+b) t) fun A s Q t u hr h=>P.iadd_int (h _ _ ⟨_,rfl⟩)).to fun W r ⟨t,e⟩=>e▸Vi
theorem iis:Op2 C k σ (inplaceOp .Sub) (.int a) (.int b) (fun W r=>VR W (.int (a - b)) r) σ:=(O2 (R:=fun r=> ∃t,r= .int (a - b) t) fun A s Q t u hr h=>P.isub_int (h _ _ ⟨_,rfl⟩)).to fun W r ⟨t,e⟩=>e▸Vi
theorem imo (hb:b≠0) (hc:a.fmod b=c):Op2 C k σ (binaryOp .Mod) (.int a) (.int b) (fun W r=>VR W (.int c) r) σ:=(O2 (R:=fun r=> ∃t,r= .int c t) fun A s Q t u hr h=>mod_int' hb (h _ _ ⟨_,by rw [hc]⟩)).to fun W r ⟨t,e⟩=>e▸Vi
theorem idi (hb:b≠0) (hc:a.fdiv b=c) (hp:Builtin.divisionGoesByPylong a b=false):Op2 C k σ (binaryOp .FloorDiv) (.int a) (.int b) (fun W r=>VR W (.int c) r) σ:=
 (O2 (R:=fun r=> ∃t,r= .int c t) fun A s Q t u hr h=>floordiv_int hb (h _ _ ⟨_,by rw [hc]⟩) (.inl hp)).to fun W r ⟨t,e⟩=>e▸Vi
theorem i_eq:Op2 C k σ (compareOp .Eq) (.int a) (.int b) (fun W r=>VR W (.bool (a==b)) r) σ:=(O2 (R:=fun r=>r= .bool (a==b)) fun A s Q t u hr h=>P.eq_int (h _ _ rfl)).to fun W r e=>e▸Vb
theorem i_ne:Op2 C k σ (compareOp .NotEq) (.int a) (.int b) (fun W r=>VR W (.bool (a !=b)) r) σ:=(O2 (R:=fun r=>r= .bool (a !=b)) fun A s Q t u hr h=>P.ne_int (h _ _ rfl)).to fun W r e=>e▸Vb
theorem i_lt:Op2 C k σ (compareOp .Lt) (.int a) (.int b) (fun W r=>VR W (.bool (decide (a<b))) r) σ:=(O2 (R:=fun r=>r= .bool (decide (a<b))) fun A s Q t u hr h=>P.lt_int (h _ _ rfl)).to fun W r e=>e▸Vb
theorem i_ge:Op2 C k σ (compareOp .GtE) (.int a) (.int b) (fun W r=>VR W (.bool (decide (a≥b))) r) σ:=(O2 (R:=fun r=>r= .bool (decide (a≥b))) fun A s Q t u hr h=>P.ge_int (h _ _ rfl)).to fun W r e=>e▸Vb
theorem ina:Op1 C k σ (unaryOp .USub) (.int a) (fun W r=>VR W (.int (-a)) r) σ:=by
 intro W ra ha
 unfold VR at ha;obtain⟨t,rfl⟩:=ha
 exact Op.look fun A s Q hr I h=>P.neg_int (h _ _ Vi)
theorem i_true:Op1 C k σ truthy (.int a) (fun u r=>r=(a !=0)) σ:=by
 intro W ra ha
 unfold VR at ha;obtain⟨t,rfl⟩:=ha
 exact Op.look fun A s Q hr I h=>P.truthy_int (h _ _ rfl)
theorem btr {b:Bool}:Op1 C k σ truthy (.bool b) (fun u r=>r=b) σ:=by
 intro W ra ha
 unfold VR at ha;subst ha
 exact Op.look fun A s Q hr I h=>wpAny_truthy_bool (h _ _ rfl)
theorem ntr:Op1 C k σ truthy .none (fun u r=>r=false) σ:=by
 intro W ra ha
 unfold VR at ha;subst ha
 exact Op.look fun A s Q hr I h=>truthy_none (h _ _ rfl)
variable {x y z:Str}
theorem s_add (hz:x.length+y.length≤sizeLine):Op2 C k σ (binaryOp .Add) (.str x) (.str y) (fun W r=>VR W (.str (x++y)) r) σ:=
 (O2s (R:=fun r=> ∃t,r= .str (x++y) t) fun A s Q t u hr h=>SB.add (fun v w=>h _ _ ⟨_,rfl⟩) hz).to fun W r ⟨t,e⟩=>e▸Vs
theorem sia (hz:x.length+y.length≤sizeLine):Op2 C k σ (inplaceOp .Add) (.str x) (.str y) (fun W r=>VR W (.str (x++y)) r) σ:=
 (O2s (R:=fun r=> ∃t,r= .str (x++y) t) fun A s Q t u hr h=>SB.iadd (fun v w=>h _ _ ⟨_,rfl⟩) hz).to fun W r ⟨t,e⟩=>e▸Vs
theorem s_eq {c:Bool} (hc:(x==y)=c):Op2 C k σ (compareOp .Eq) (.str x) (.str y) (fun W r=>VR W (.bool c) r) σ:=
 (O2s (R:=fun r=>r= .bool c) fun A s Q t u hr h=>eq_str (h _ _ (by rw [hc]))).to fun W r e=>e▸Vb
theorem sne {c:Bool} (hc:(x !=y)=c):Op2 C k σ (compareOp .NotEq) (.str x) (.str y) (fun W r=>VR W (.bool c) r) σ:=
 (O2s (R:=fun r=>r= .bool c) fun A s Q t u hr h=>ne_str (h _ _ (by rw [hc]))).to fun W r e=>e▸Vb
theorem sma {n:Int} (hn:n≤1000) (h0: -1000≤n) (hx:x.length≤1000):Op2 C k σ (binaryOp .Mult) (.str x) (.int n) (fun W r=>VR W (.str (Txt.mul x n)) r) σ:=by
 have ok:MulOk x n:=by
  refine⟨by simp only [Bool.or_eq_false_iff,decide_eq_false_iff_not];constructor<;>omega,fun h1 v=> ?_,fun h1 v=> ?_⟩
  ·have:(2 ^ 63 - 1:Int) / 1000≤(2 ^ 63 - 1) / n:=by
    rw [Int.le_ediv_iff_mul_le (by omega)]
    have:(2 ^ 63 - 1:Int) / 1000 * n≤(2 ^ 63 - 1:Int) / 1000 * 1000:=Int.mul_le_mul_of_nonneg_left hn (by decide)
    exact Int.le_trans this (by decide)
   have h2:(1000:Int)≤(2 ^ 63 - 1:Int) / 1000:=by decide
   omega
  ·have h2:x.length * n.toNat≤1000 * 1000:=Nat.mul_le_mul hx (by omega)
   have e:sizeLine=16777216:=rfl
   unfold tooLong
   rw [e]
   exact decide_eq_false (by omega)
 exact(Osi (R:=fun r=> ∃t,r= .str (Txt.mul x n) t) fun A s Q t u hr h=>SB.mul ok (fun v w=>h _ _ ⟨_,rfl⟩)).to fun W r ⟨t,e⟩=>e▸Vs
theorem s_true {c:Bool} (hz:x.length≤sizeLine) (hc:((x.length:Int) !=0)=c):Op1 C k σ truthy (.str x) (fun u r=>r=c) σ:=by
 intro W ra ha
 unfold VR at ha;obtain⟨t,rfl⟩:=ha
 exact Op.look fun A s Q hr I h=>P.truthy_str (by rw [sizeLine_eq]at hz;omega) (h _ _ hc)
theorem nis {v:AV} {b:Bool} (hv: ∀W r,VR W v r→(r==Value.none)=b):Op2 C k σ (compareOp .Is) v .none (fun W r=>VR W (.bool b) r) σ:=by
 intro W ra rb ha hb
 unfold VR at hb;subst hb
 refine Op.look fun A s Q hr I h=>is_none_gen ?_
 rw [hv _ _ ha];exact h _ _ Vb
theorem ni {v:AV} {b:Bool} (hv: ∀W r,VR W v r→(r==Value.none)=b):Op2 C k σ (compareOp .IsNot) v .none (fun W r=>VR W (.bool (!b)) r) σ:=by
 intro W ra rb ha hb
 unfold VR at hb;subst hb
 refine Op.look fun A s Q hr I h=>isnot_none_gen ?_
 rw [hv _ _ ha];exact h _ _ Vb
theorem nns: ∀W r,VR W (.str x) r→(r==Value.none)=false:=fun W r h=>by unfold VR at h;obtain⟨t,rfl⟩:=h;rfl
theorem nno: ∀W r,VR W .none r→(r==Value.none)=true:=fun W r h=>by unfold VR at h;subst h;rfl
theorem nnl {l:Loc}: ∀W r,VR W (.loc l) r→(r==Value.none)=false:=fun W r h=>by unfold VR at h;obtain⟨t,_,rfl⟩:=h;rfl
theorem Mst {name:Str} {id:String} (h: ∀(A:Around) (s:Shared) (t:Tok) (pl:Sem Bool) (Q:Value×List Value→Shared→Prop),Q (.builtin id,[.str x t]) s→wpAny C.M A (getMethod (.str x t) name pl) Q No s):Mt C k σ (.str x) name (.bi id):=by
 intro W ro pl ha
 unfold VR at ha;obtain⟨t,rfl⟩:=ha
 exact Op.look fun A s Q hr I hq=>h A s t pl Q (hq _ _ ⟨by unfold VR;rfl,rfl⟩)
theorem Mco:Mt C k σ (.str x) "count" (.bi "str.count"):=Mst fun u v w g m h=>GM.count h
theorem Mu:Mt C k σ (.str x) "upper" (.bi "str.upper"):=Mst fun u v w g m h=>GM.upper h
theorem Ml:Mt C k σ (.str x) "lower" (.bi "str.lower"):=Mst fun u v w g m h=>GM.lower h
theorem Mrf:Mt C k σ (.str x) "rfind" (.bi "str.rfind"):=Mst fun u v w g m h=>GM.rfind h
theorem Ms:Mt C k σ (.str x) "startswith" (.bi "str.startswith"):=Mst fun u v w g m h=>GM.startswith h
theorem Men:Mt C k σ (.str x) "endswith" (.bi "str.endswith"):=Mst fun u v w g m h=>GM.endswith h
theorem Mr:Mt C k σ (.str x) "rstrip" (.bi "str.rstrip"):=Mst fun u v w g m h=>GM.rstrip h
theorem Msp:Mt C k σ (.str x) "split" (.bi "str.split"):=Mst fun u v w g m h=>GM.split h
theorem Mj:Mt C k σ (.str x) "join" (.bi "str.join"):=Mst fun u v w g m h=>GM.join h
theorem Cs1 {id:String} {v:AV} (h: ∀A s (Q:Value→Shared→Prop) t,Ro C A k→(∀r tk,(∀W,VR W v r)→Q r {s with toks:=tk})→wpAny C.M A (call (.builtin id) [.str x t]) Q No s):Ca C k σ (.bi id) [.str x] [] v σ:=by
 intro W rf ras rkw hf ha hk
 unfold VR at hf;subst hf
 unfold KR at hk;subst hk
 obtain⟨r,rfl,q⟩:=Vo ha
 unfold VR at q;obtain⟨t,rfl⟩:=q
 exact Op.look fun A s Q hr I hq=>h A s Q t hr fun r tk hv=>hq r tk (hv W)
theorem Cs2 {id:String} {v:AV} (h: ∀A s (Q:Value→Shared→Prop) t u,Ro C A k→(∀r tk,(∀W,VR W v r)→Q r {s with toks:=tk})→wpAny C.M A (call (.builtin id) [.str x t,.str y u]) Q No s):Ca C k σ (.bi id) [.str x,.str y] [] v σ:=by
 intro W rf ras rkw hf ha hk
 unfold VR at hf;subst hf
 unfold KR at hk;subst hk
 obtain⟨r,r',rfl,q,q'⟩:=Vt ha
 unfold VR at q q';obtain⟨t,rfl⟩:=q;obtain⟨u,rfl⟩:=q'
 exact Op.look fun A s Q hr I hq=>h A s Q t u hr fun r tk hv=>hq r tk (hv W)
theorem Cco:Ca C k σ (.bi "str.count") [.str x,.str y] [] (.int (Txt.count x y)) σ:=Cs2 fun u v w g m q h=>SC.count (h _ _ fun u=>Vi)
theorem Crf:Ca C k σ (.bi "str.rfind") [.str x,.str y] [] (.int (Txt.rfind x y)) σ:=Cs2 fun u v w g m q h=>SC.rfind (h _ _ fun u=>Vi)
theorem Cst {c:Bool} (hc:Txt.startswith x y=c):Ca C k σ (.bi "str.startswith") [.str x,.str y] [] (.bool c) σ:=Cs2 fun u v w g m q h=>SC.startswith (h _ _ fun u=>hc▸Vb)
theorem Ce {c:Bool} (hc:Txt.endswith x y=c):Ca C k σ (.bi "str.endswith") [.str x,.str y] [] (.bool c) σ:=Cs2 fun u v w g m q h=>SC.endswith (h _ _ fun u=>hc▸Vb)
theorem Crs (hz:x.length≤sizeLine):Ca C k σ (.bi "str.rstrip") [.str x,.str y] [] (.str (Txt.rstripChars x y)) σ:=Cs2 fun u v w g m q h=>SC.rstripChars (fun u v=>h _ _ fun u=>Vs) hz
theorem Cu (hz:tooLong (Txt.upper x).length=false):Ca C k σ (.bi "str.upper") [.str x] [] (.str (Txt.upper x)) σ:=Cs1 fun u v w g m h=>SC.upper hz (h _ _ fun u=>Vs)
theorem Clo (hz:tooLong (Txt.lower x).length=false):Ca C k σ (.bi "str.lower") [.str x] [] (.str (Txt.lower x)) σ:=Cs1 fun u v w g m h=>SC.lower hz (h _ _ fun u=>Vs)
theorem CSt (hz:x.length≤sizeLine):Ca C k σ (.bi "len") [.str x] [] (.int x.length) σ:=Cs1 fun u v w g m h=>P.len_str (by rw [sizeLine_eq]at hz;omega) (h _ _ fun u=>Vi)
end
end V
end
section
namespace V
open Builtin Builtin.Str
section
variable {C:Cx} {k:Nat} {sc:Scope} {A:Around} {W:Wd} {env:Env} {ms ms₁ ms₂ ms₃ ms':List (Option AV)} {σ σ₁ σ₂ σ₃ σ':St} {s:Shared}
noncomputable def Ty (C:Cx) (o:AV) (T:String):Prop:= ∀W σ s ro,Inv C W σ s→VR W o ro→ ∀s':Shared,(∀b ob,s.heap.get? b=some ob→s'.heap.get? b=some ob)→s'.TypeIs ro T
theorem Tst {x:Str}:Ty C (.str x) "str":=fun W σ s ro I q s' h=>by unfold VR at q;obtain⟨t,rfl⟩:=q;exact typeIs_str _ _ _
theorem Tt {x:List AV}:Ty C (.tup x) "tuple":=fun W σ s ro I q s' h=>by
 unfold VR at q;obtain⟨a,o,vs,n,rfl,f,z1,z2,ks⟩:=q
 exact⟨o,h _ _ (I.frozen f (by rw [z1];decide)),z1⟩
noncomputable def TAt (C:Cx) (σ:St) (o:AV) (T:String):Prop:= ∀W s ro,Inv C W σ s→VR W o ro→s.TypeIs ro T
theorem Ty.at {o:AV} {T:String} (h:Ty C o T):TAt C σ o T:=fun W s ro I q=>h W σ s ro I q s fun u v e=>e
theorem Bof {o:AV} {T id:String} (ht:Ty C o T) (hl:typeLookup (.type T) "__getitem__"=pure (some (.builtin id))):Bg C σ o:=fun W s ro I q=>by
 intro A Q E s' hk hq
 have hT:s'.TypeIs ro T:=ht W σ s ro I q s' hk
 rw [getitemInPython_of_ne hT.not_modules]
 exact wpAny_bind (wpAny_specialOf hT hl (wpAny_pure hq))
theorem Bst {x:Str}:Bg C σ (.str x):=Bof Tst F.slot_str_getitem.lookup
theorem Bt {x:List AV}:Bg C σ (.tup x):=Bof Tt F.slot_tuple_getitem.lookup
noncomputable def Pt (C:Cx) (k:Nat) (sc:Scope) (ms:List (Option AV)) (σ:St) (e:Option Expr) (v:AV) (ms':List (Option AV)) (σ':St):Prop:=
 Tr C k sc ms σ (fun env=>evalPart e env) (fun W r=>VR W v r) ms' σ'
theorem Pn:Pt C k sc ms σ none .none ms σ:=fun u W v w g H=>wpAny_pure (ph (.refl W) H Vn)
theorem Pso {e:Expr} {v:AV} (h:Ev C k sc ms σ e v ms' σ'):Pt C k sc ms σ (some e) v ms' σ':=h
theorem Osa {x y z:AV} {vx vy vz:Value} (qx:VR W x vx) (qy:VR W y vy) (qz:VR W z vz):Op C k W σ (newFields "slice" [vx,vy,vz]) (fun W r=>VR W (.slc x y z) r) σ:=by
 intro A s outer hr hA hS I
 obtain⟨n1,n2⟩:=I.nY
 refine wpAny_newObj_type ?_
 have g:(s.heap.push {cls:= .type "slice",data:= .fields #[vx,vy,vz]}).get? s.heap.objs.size=some {cls:= .type "slice",data:= .fields #[vx,vy,vz]}:=Heap.get?_push_size _ rfl
 obtain⟨le,I'⟩:=I.nF (t:=s.toks) (d:=s.drawn) n1 n2 (pke _ _) g
 refine⟨_,le,I',?_⟩
 refine⟨_,{cls:= .type "slice",data:= .fields #[vx,vy,vz]},vx,vy,vz,rfl,?_,rfl,rfl,qx.mono le,qy.mono le,qz.mono le⟩
 show(if _ then _ else _)=_
 rw [if_pos rfl]
theorem ESl {l u st:Option Expr} {p:Pos} {x y z:AV} (h1:Pt C k sc ms σ l x ms₁ σ₁) (h2:Pt C k sc ms₁ σ₁ u y ms₂ σ₂) (h3:Pt C k sc ms₂ σ₂ st z ms' σ'):Ev C k sc ms σ (.Slice l u st p) (.slc x y z) ms' σ':=by
 intro A W env s hr H
 show wpAny C.M A (eval (.Slice l u st p) env) _ _ _
 rw [arm_eval_Slice]
 refine pbi (t:=valueOrNone (evalOpt l env)) (h1 A W env s hr H) fun W₁ r₁ s₁ le₁ H₁ q₁=> ?_
 refine wpAny_bind (wpAny_holding (pg (t:=valueOrNone (evalOpt u env)) (h2 A W₁ env s₁ hr H₁) fun W₂ r₂ s₂ le₂ H₂ q₂=> ?_))
 refine wpAny_bind (wpAny_holding (pg (t:=valueOrNone (evalOpt st env)) (h3 A W₂ env s₂ hr H₂) fun W₃ r₃ s₃ le₃ H₃ q₃=> ?_))
 have as:=ale H₃.fr
 exact Op.in rfl (Osa (((q₁.mono le₂).mono le₃).mono as) ((q₂.mono le₃).mono as) (q₃.mono as)) hr H₃ fun W₄ r s₄ le₄ H₄ q tk v=>ph (((le₁.trans le₂).trans le₃).trans le₄) H₄ (tk q)
inductive PtI:AV→Option Int→Prop
 | none:PtI .none none
 | int (i:Int):PtI (.int i) (some i)
theorem PtI.part {x:AV} {o:Option Int} (h:PtI x o) {W:Wd} {v:Value} (q:VR W x v): ∃p:Option (Int×Tok),v=partValue p∧p.map (·.1)=o:=by
 cases h with
 | none=>unfold VR at q;subst q;exact⟨Option.none,rfl,rfl⟩
 | int i=>unfold VR at q;obtain⟨t,rfl⟩:=q;exact⟨some (i,t),rfl,rfl⟩
theorem ssb {x:Str} {a b:AV} {l u:Option Int} (ha:PtI a l) (hb:PtI b u) (hz:x.length≤sizeLine):Op2 C k σ getItem (.str x) (.slc a b .none) (fun W r=>VR W (.str (Txt.slice x l u)) r) σ:=by
 intro W ra rb qa qb
 unfold VR at qa;obtain⟨t,rfl⟩:=qa
 unfold VR at qb;obtain⟨b',o,vx,vy,vz,rfl,f,z1,z2,k1,k2,k3⟩:=qb
 obtain⟨pl,rfl,e1⟩:=ha.part k1
 obtain⟨pu,rfl,e2⟩:=hb.part k2
 unfold VR at k3;subst k3
 refine Op.look fun A s Q hr I hq=> ?_
 refine wpAny_getItem_str_slice (l:=pl) (u:=pu) (st:=none) ⟨o,I.frozen f (by rw [z1];decide),z1,z2⟩ rfl ?_
 subst e1;subst e2
 exact post_val_or_str ⟨Nat.le_trans (Txt.slice_le x _ _) hz,fun t' k=>hq _ _ Vs⟩
theorem wea {M:Model} {Γ:Ctx} {Q:Flow→Pos→Shared→Prop} {E:Value→Pos→Shared→Prop} {xs ys:List Stmt}: ∀{p:Pos} {s:Shared},
  Sem.wp M Γ (execs (xs++ys) env) Q E p s→Sem.wp M Γ (execs xs env) (fun f p' s'=>Sem.wp M Γ (match f with | .next=>execs ys env | f=>pure f) Q E p' s') E p s:=by
 induction xs with
 | nil=>intro p s h;exact h
 | cons x xs ih=>
  intro p s h
  rw [List.cons_append,execs_cons,Sem.wp_bind']at h
  rw [execs_cons,Sem.wp_bind']
  refine Sem.wp_mono M Γ _ (fun f p' s' h'=> ?_) (fun u v w h'=>h') _ _ h
  cases f with
  | next=>exact ih h'
  | _=>exact h'
theorem EIf {test:Expr} {x y rest:List Stmt} {pos:Pos} {b:Bool} {f:AF} (h1:Tv C k sc ms σ test b ms₁ σ₁) (h2:Ex C k sc ms₁ σ₁ ((if b then x else y)++rest) f ms' σ'):Ex C k sc ms σ (.If test x y pos::rest) f ms' σ':=by
 intro A W env s hr H
 have key:wpAny C.M A (isTrue test env (eval test env)) (fun b s₁=>wpAny C.M A (execs ((if b then x else y)++rest) env) (Pa C sc A W env ms' σ' fun W r=>Fl W f r) No s₁) No s:=by
  refine pg (h1 A W env s hr H) fun W₁ rb s₁ le₁ H₁ qb=> ?_
  subst qb
  exact pg (h2 A W₁ env s₁ hr H₁) fun W₂ r s₂ le₂ H₂ q=>ph (le₁.trans le₂) H₂ q
 show wpAny C.M A (execs (.If test x y pos::rest) env) _ _ _
 intro Γ p hΓ
 rw [execs_cons,Sem.wp_bind',exec_If]
 simp only [Sem.wp_bind',Sem.wp_cmd_standAt]
 refine Sem.wp_mono C.M Γ _ (fun b p₂ s₂ h₂=> ?_) (fun u v w h'=>h') _ _ (key Γ _ hΓ)
 have h₂:=h₂ Γ p₂ hΓ
 cases b
 ·exact wea h₂
 ·exact wea h₂
end
end V
end
section
namespace V
open Builtin Builtin.Str
section
variable {C:Cx} {k:Nat} {sc:Scope} {A:Around} {W:Wd} {env:Env} {ms ms₁ ms₂ ms₃ ms':List (Option AV)} {σ σ₁ σ₂ σ₃ σ':St} {s:Shared}
theorem Esa {v:AV} (hv:v.In fun l=>(σ l).isSome=true):Exit σ σ (.ret v) v σ:=⟨fun u w e=>e,fun u e=>e,fun u w e=> .inl e,.inl ⟨rfl,hv⟩⟩
theorem al0 {α:Type} {P:α→Prop}: ∀x∈([]:List α),P x:=fun u h=>nomatch h
theorem allS {α:Type} {P:α→Prop} {a:α} {l:List α} (h:P a) (r: ∀x∈l,P x): ∀x∈a::l,P x:=fun x hx=>by
 rcases List.mem_cons.mp hx with rfl | hx
 ·exact h
 ·exact r x hx
theorem all1 {α:Type} {P:α→Prop} {a:α} (h:P a): ∀x∈ [a],P x:=allS h al0
theorem all2 {α:Type} {P:α→Prop} {a b:α} (h:P a) (g:P b): ∀x∈ [a,b],P x:=allS h (all1 g)
theorem len0 {α:Type} {P:List α→Prop} (h:P []): ∀l:List α,l.length=0→P l:=fun l e=>by rw [List.length_eq_zero_iff.mp e];exact h
theorem leS {α:Type} {P:List α→Prop} {n:Nat} (h: ∀a (l:List α),l.length=n→P (a::l)): ∀l:List α,l.length=n+1→P l:=fun l e=>by
 cases l with
 | nil=>cases e
 | cons a l=>exact h a l (Nat.succ.inj e)
theorem l1a {α:Type} {P:List α→Prop} (h: ∀a,P [a]): ∀l:List α,l.length=1→P l:=leS fun a=>len0 (h a)
theorem l2a {α:Type} {P:List α→Prop} (h: ∀a b,P [a,b]): ∀l:List α,l.length=2→P l:=leS fun a=>l1a (h a)
theorem l3a {α:Type} {P:List α→Prop} (h: ∀a b c,P [a,b,c]): ∀l:List α,l.length=3→P l:=leS fun a=>l2a (h a)
theorem le4 {α:Type} {P:List α→Prop} (h: ∀a b c d,P [a,b,c,d]): ∀l:List α,l.length=4→P l:=leS fun a=>l3a (h a)
noncomputable def Facts (sc:Scope):List (Str×NameKind)→Nat→Prop
 | [],_=>True
 | p::r,i=>sc.names[i]? =some p∧Facts sc r (i+1)
theorem ffr {sc:Scope}: ∀{l:List (Str×NameKind)} {i:Nat},sc.names.drop i=l→Facts sc l i
 | [],_,_=>trivial
 | p::r,i,h=>by
  have e:sc.names[i]? =some p:=by
   have:(sc.names.drop i)[0]? =some p:=by rw [h];rfl
   simpa using this
  refine⟨e,ffr ?_⟩
  have:(sc.names.drop i).drop 1=r:=by rw [h];rfl
  rwa [List.drop_drop]at this
theorem fof {sc:Scope} {l:List (Str×NameKind)} (h:sc.names=l):Facts sc l 0:=ffr (by rw [h];rfl)
theorem Cna {fa:Addr} {fd:FuncData} {body:List Stmt} {as:List AV} {kw:List (Str×AV)} {v:AV} (O:C.Ok) (hF:Fn C fa fd body) (names:List (Str×NameKind)) (hsc:fd.scope.names=names) (bs:List (Str×AV)) (σ₁:St)
  (hb:Bd C k fd σ as kw bs σ₁) (h1:(names.take bs.length).map (·.1)=bs.map (·.1)) (h2:((names.take bs.length).all fun p=>p.2== .local || p.2== .cell)=true)
  (h: ∀sc,Facts sc names 0→ ∀n,(∀l:Loc,n≤l.tag→σ l=none)→ ∃f ms' σf,Ex C k sc (bs.map (fun p=>some p.2)++List.replicate (names.length - bs.length) none) σ₁ body f ms' σf∧Exit σ σf f v σ'):Ca C (k+1) σ (.ext fa) as kw v σ':=by
 refine Cde O hF fun n hn=> ?_
 obtain⟨f,ms',σf,h3,h4⟩:=h fd.scope (fof hsc) n hn
 refine⟨bs,σ₁,f,ms',σf,hb,by rw [hsc];exact h1,fun p hp=> ?_,?_,h4⟩
 ·rw [hsc]at hp
  have:=List.all_eq_true.mp h2 p hp
  simpa using this
 ·unfold mOf;rw [hsc];exact h3
theorem AL' {i:Nat} {x:Str} {v:AV} {pos:Pos} (hi:sc.names[i]? =some (x,NameKind.local)) (hm:ms.set i (some v)=ms'):As C k sc ms σ (.Name x pos) v ms' σ:=hm▸ALo hi
theorem AC' {i:Nat} {x:Str} {v:AV} {pos:Pos} (hi:sc.names[i]? =some (x,NameKind.cell)) (hm:ms.set i (some v)=ms'):As C k sc ms σ (.Name x pos) v ms' σ:=hm▸ACe hi
theorem ie {a b:Int} {c:Bool} (h:(a==b)=c):Op2 C k σ (compareOp .Eq) (.int a) (.int b) (fun W r=>VR W (.bool c) r) σ:=h▸i_eq
theorem ink {a b:Int} {c:Bool} (h:(a !=b)=c):Op2 C k σ (compareOp .NotEq) (.int a) (.int b) (fun W r=>VR W (.bool c) r) σ:=h▸i_ne
theorem il' {a b:Int} {c:Bool} (h:decide (a<b)=c):Op2 C k σ (compareOp .Lt) (.int a) (.int b) (fun W r=>VR W (.bool c) r) σ:=h▸i_lt
theorem ig {a b:Int} {c:Bool} (h:decide (a≥b)=c):Op2 C k σ (compareOp .GtE) (.int a) (.int b) (fun W r=>VR W (.bool c) r) σ:=h▸i_ge
theorem itr {a:Int} {c:Bool} (h:(a !=0)=c):Op1 C k σ truthy (.int a) (fun u r=>r=c) σ:=h▸i_true
noncomputable def B (x:Str) (n:Nat):Prop:=x.length≤n
theorem Bc {x y:Str} {a b:Nat} (h1:B x a) (h2:B y b):B (x++y) (a+b):=by unfold B at *;rw [size_cat];omega
theorem Bl {x:Str} {n:Nat} (h:x.length=n):B x n:=Nat.le_of_eq h
theorem Bs {x:Str} {a:Nat} {l u:Option Int} (h1:B x a):B (Txt.slice x l u) a:=Nat.le_trans (Txt.slice_le x _ _) h1
theorem Bre {x:Str}: ∀{n:Nat} {acc:Array Nat},((List.replicate n x.cps).foldl (· ++ ·) acc).size=acc.size+n * x.length
 | 0,acc=>by simp
 | n+1,acc=>by
  rw [List.replicate_succ,List.foldl_cons,Bre,Array.size_append,Nat.succ_mul]
  show acc.size+x.length+_=_
  omega
theorem Bm {x:Str} {a:Nat} {m:Int} (h1:B x a) (hm:m≤1000):B (Txt.mul x m) (1000 * a):=by
 unfold B at *
 unfold Txt.mul
 split
 ·exact Nat.zero_le _
 ·split
  ·omega
  ·show((List.replicate m.toNat x.cps).foldl (· ++ ·) #[]).size≤_
   rw [Bre]
   have:m.toNat * x.length≤1000 * a:=Nat.mul_le_mul (by omega) h1
   simpa using this
theorem sa' {x y:Str} {a b:Nat} (h1:B x a) (h2:B y b) (h3:decide (a+b≤16777216)=true):Op2 C k σ (binaryOp .Add) (.str x) (.str y) (fun W r=>VR W (.str (x++y)) r) σ:=
 s_add (by have:=of_decide_eq_true h3;unfold B at *;rw [sizeLine_eq];omega)
theorem si' {x y:Str} {a b:Nat} (h1:B x a) (h2:B y b) (h3:decide (a+b≤16777216)=true):Op2 C k σ (inplaceOp .Add) (.str x) (.str y) (fun W r=>VR W (.str (x++y)) r) σ:=
 sia (by have:=of_decide_eq_true h3;unfold B at *;rw [sizeLine_eq];omega)
theorem smu {x:Str} {n:Int} {a:Nat} (h1:B x a) (h2:decide (a≤1000)=true) (hn:n≤1000) (h0: -1000≤n):Op2 C k σ (binaryOp .Mult) (.str x) (.int n) (fun W r=>VR W (.str (Txt.mul x n)) r) σ:=
 sma hn h0 (Nat.le_trans h1 (of_decide_eq_true h2))
theorem ssa {x:Str} {a b:AV} {l u:Option Int} {n:Nat} (ha:PtI a l) (hb:PtI b u) (h1:B x n) (h3:decide (n≤16777216)=true):Op2 C k σ getItem (.str x) (.slc a b .none) (fun W r=>VR W (.str (Txt.slice x l u)) r) σ:=
 ssb ha hb (Nat.le_trans h1 (sizeLine_eq▸of_decide_eq_true h3))
theorem sta {x:Str} {c:Bool} {n:Nat} (h1:B x n) (h3:decide (n≤16777216)=true) (hc:((x.length:Int) !=0)=c):Op1 C k σ truthy (.str x) (fun u r=>r=c) σ:=
 s_true (Nat.le_trans h1 (sizeLine_eq▸of_decide_eq_true h3)) hc
theorem Bp {fd:FuncData} {as:List AV} {bs:List (Str×AV)} (h: ∀ras:List Value,ras.length=as.length→bindArgs fd ⟨ras,[]⟩=pure ((bs.map (·.1)).zip ras)) (hb:bs.map (·.2)=as):Bd C k fd σ as [] bs σ:=by
 refine Bpu fun W ras rkw ha hk=> ?_
 unfold KR at hk;subst hk
 refine⟨_,h ras ha.length,Kz (by rw [hb];exact ha)⟩
end
end V
end
section
namespace V
open Builtin Builtin.Str
section
variable {C:Cx} {k:Nat} {sc:Scope} {A:Around} {W:Wd} {env:Env} {ms ms₁ ms₂ ms₃ ms':List (Option AV)} {σ σ₁ σ₂ σ₃ σ':St} {s:Shared}
theorem lG {M:Model} {E:Value→Shared→Prop} {Q:Unit→Shared→Prop} {tgt:Expr} {rx:Value} {it:Addr} {ob:Obj} {n:String} {vs:Array Value} (g:s.heap.get? it=some ob) (c:ob.cls= .type n) (d:ob.data= .fields vs)
  (hn:(["enumerate","zip","dict_itemiterator","dict_reverseitemiterator","odict_iterator","itertools.zip_longest","itertools.pairwise"]:List String).contains n=false) (h:Q () s):wpAny M A (letOwnedTupleGo tgt (.ref it) rx) Q E s:=by
 have key:wpAny M A (do
   let o←load it
   match o.cls,o.data with
   | .type n,.fields vs=>
    if ["enumerate","zip","dict_itemiterator","dict_reverseitemiterator","odict_iterator","itertools.zip_longest","itertools.pairwise"].contains n && vs[0]? ==some (rawInt it)then
     rule "for.unpacks-the-owned-tuple"
     updateField it 0 .none
   | _,_=>pure ()) Q E s∨True:= .inr trivial
 unfold letOwnedTupleGo
 split
 all_goals first
  | exact wpAny_pure h
  | (cases rx<;>first
    | exact wpAny_pure h
    | (refine wpAny_bind (wpAny_load g ?_);rw [c,d];simp only [hn,Bool.false_and];exact wpAny_pure h))
noncomputable def ShL (i:Nat) (rs:Value) (ob:Obj):Prop:= ∃la,rs= .ref la∧ob.cls= .type "list_iterator"∧ob.data= .fields #[.ref la,.int i 0]
theorem ShL.is {i:Nat} {la it:Addr} {ob:Obj} (h:ShL i (.ref la) ob) (g:s.heap.get? it=some ob):s.heap.IsListIter it la i:=by
 obtain⟨la',e,c,d⟩:=h
 cases e
 exact⟨ob,g,c,d⟩
theorem VR.isList {xs:List AV} {rv:Value} (q:VR W (.lst xs) rv) (I:Inv C W σ s): ∃la vs,rv= .ref la∧s.heap.IsList la (List.toArray vs)∧VRe W xs vs:=by
 obtain⟨a,o,vs,n,rfl,f,z1,z2,ks⟩:=q
 exact⟨a,vs,rfl,⟨o,I.frozen f (by rw [z1];decide),z1,n,by rw [z2]⟩,ks⟩
theorem Ils {xs:List AV} (h0:C.hx=none:=by assumption):Itr C k (fun u=>True) (.lst xs) xs (.lst xs) ShL where
 jk:=fun i rv ob ⟨la,_,c,_⟩=>⟨fun n z=>by rw [c]at z;cases z;decide,by rw [c];decide⟩
 start:=fun W σ rv A s outer u hr hA hS I q=>by
  obtain⟨la,vs,rfl,hl,ks⟩:=q.isList I
  refine wpAny_pyIter_list hl ⟨W,s.heap.objs.size,{cls:= .type "list_iterator",data:= .fields #[.ref la,.int 0 0]},.ref la,.refl W,I.same (pke _ _),rfl,Heap.get?_push_size _ rfl,I.nY,q,⟨la,rfl,rfl,rfl⟩⟩
 self:=fun i rs ob it A s E Q g h hq=>by
  obtain⟨la,rfl,c,d⟩:=h
  exact wpAny_pyIter_listiter (i:=i) ⟨ob,g,c,d⟩ hq
 next:=fun i x W σ rs ob it A s outer hx u hr hA hS I g hf q h=>by
  obtain⟨la,vs,rfl,hl,ks⟩:=q.isList I
  obtain⟨v,hv,qv⟩:=ks.get hx
  refine wpAny_pyNext_list_item (h.is g) hl (by simpa using hv) fun h' hi hs'=> ?_
  obtain⟨ob',g',c',d'⟩:=hi
  exact⟨W,v,ob',.refl W,I.but hf.1 hf.2 fun b o nb e=>(hs'.2 b nb).trans e,rfl,qv,g',hf,⟨la,rfl,c',d'⟩⟩
 stop:=fun W σ rs ob it A s outer u hr hA hS I g hf q h=>by
  obtain⟨la,vs,rfl,hl,ks⟩:=q.isList I
  refine wpAny_pyNext_list_end (hr.none h0) (h.is g) hl (by simp [ks.length]) fun h' hs'=> ?_
  exact⟨W,.refl W,I.but hf.1 hf.2 fun b o nb e=>hs' b o nb e,rfl⟩
 letgo:=fun i W σ rs rx ob it A s tgt I g hf ⟨la,e,c,d⟩=>lG g c d (by decide) ⟨ob,I,g,⟨la,e,c,d⟩,fun u w m z=>z⟩
end
end V
end
section
namespace V
open Builtin Builtin.Str
section
variable {C:Cx} {k:Nat} {sc:Scope} {A:Around} {W:Wd} {env:Env} {ms ms₁ ms₂ ms₃ ms':List (Option AV)} {σ σ₁ σ₂ σ₃ σ':St} {s:Shared}
inductive IsL (σ:St):AV→List AV→Prop
 | lst (xs:List AV):IsL σ (.lst xs) xs
 | loc {l:Loc} {xs:List AV} (h:σ l=some (.list xs)):IsL σ (.loc l) xs
theorem IsL.is {v:AV} {xs:List AV} {rv:Value} (h:IsL σ v xs) (q:VR W v rv) (I:Inv C W σ s): ∃la vs n,rv= .ref la∧s.heap.get? la=some {cls:= .type "list",data:= .seq (List.toArray vs) n}∧VRe W xs vs:=by
 cases h with
 | lst=>
  obtain⟨a,o,vs,n,rfl,f,z1,rfl,ks⟩:=q
  exact⟨a,vs,n,rfl,I.frozen f (by rw [z1];decide),ks⟩
 | loc h=>
  obtain⟨a,e,rfl⟩:=q
  obtain⟨ob,h1,c1,vs,n,rfl,c3⟩:=I.obj _ a _ e h
  exact⟨a,vs,n,rfl,h1,c3⟩
theorem IsL.list {v:AV} {xs:List AV} {rv:Value} (h:IsL σ v xs) (q:VR W v rv) (I:Inv C W σ s): ∃la vs,rv= .ref la∧s.heap.IsList la (List.toArray vs)∧VRe W xs vs:=by
 obtain⟨la,vs,n,e,h1,ks⟩:=h.is q I
 exact⟨la,vs,e,⟨_,h1,rfl,n,rfl⟩,ks⟩
theorem Il {v:AV} {xs:List AV} (h0:C.hx=none:=by assumption):Itr C k (fun σ=>IsL σ v xs) v xs v ShL where
 jk:=fun i rv ob ⟨la,_,c,_⟩=>⟨fun n z=>by rw [c]at z;cases z;decide,by rw [c];decide⟩
 start:=fun W σ rv A s outer ok hr hA hS I q=>by
  obtain⟨la,vs,rfl,hl,ks⟩:=ok.list q I
  refine wpAny_pyIter_list hl ⟨W,s.heap.objs.size,{cls:= .type "list_iterator",data:= .fields #[.ref la,.int 0 0]},.ref la,.refl W,I.same (pke _ _),rfl,Heap.get?_push_size _ rfl,I.nY,q,⟨la,rfl,rfl,rfl⟩⟩
 self:=fun i rs ob it A s E Q g h hq=>by
  obtain⟨la,rfl,c,d⟩:=h
  exact wpAny_pyIter_listiter (i:=i) ⟨ob,g,c,d⟩ hq
 next:=fun i x W σ rs ob it A s outer hx ok hr hA hS I g hf q h=>by
  obtain⟨la,vs,rfl,hl,ks⟩:=ok.list q I
  obtain⟨v,hv,qv⟩:=ks.get hx
  refine wpAny_pyNext_list_item (h.is g) hl (by simpa using hv) fun h' hi hs'=> ?_
  obtain⟨ob',g',c',d'⟩:=hi
  exact⟨W,v,ob',.refl W,I.but hf.1 hf.2 fun b o nb e=>(hs'.2 b nb).trans e,rfl,qv,g',hf,⟨la,rfl,c',d'⟩⟩
 stop:=fun W σ rs ob it A s outer ok hr hA hS I g hf q h=>by
  obtain⟨la,vs,rfl,hl,ks⟩:=ok.list q I
  refine wpAny_pyNext_list_end (hr.none h0) (h.is g) hl (by simp [ks.length]) fun h' hs'=> ?_
  exact⟨W,.refl W,I.but hf.1 hf.2 fun b o nb e=>hs' b o nb e,rfl⟩
 letgo:=fun i W σ rs rx ob it A s tgt I g hf ⟨la,e,c,d⟩=>lG g c d (by decide) ⟨ob,I,g,⟨la,e,c,d⟩,fun u w m z=>z⟩
theorem VR.isTup {xs:List AV} {rv:Value} (q:VR W (.tup xs) rv) (I:Inv C W σ s): ∃la vs n,rv= .ref la∧s.heap.get? la=some {cls:= .type "tuple",data:= .seq (List.toArray vs) n}∧VRe W xs vs:=by
 obtain⟨a,o,vs,n,rfl,f,z1,rfl,ks⟩:=q
 exact⟨a,vs,n,rfl,I.frozen f (by rw [z1];decide),ks⟩
noncomputable def ShT (i:Nat) (rs:Value) (ob:Obj):Prop:= ∃la,rs= .ref la∧ob.cls= .type "tuple_iterator"∧ob.data= .fields #[.ref la,.int i 0]
theorem ShT.is {i:Nat} {la it:Addr} {ob:Obj} (h:ShT i (.ref la) ob) (g:s.heap.get? it=some ob):s.heap.IsTupleIter it la i:=by
 obtain⟨la',e,c,d⟩:=h
 cases e
 exact⟨ob,g,c,d⟩
theorem Itu {xs:List AV} (h0:C.hx=none:=by assumption):Itr C k (fun u=>True) (.tup xs) xs (.tup xs) ShT where
 jk:=fun i rv ob ⟨la,_,c,_⟩=>⟨fun n z=>by rw [c]at z;cases z;decide,by rw [c];decide⟩
 start:=fun W σ rv A s outer u hr hA hS I q=>by
  obtain⟨la,vs,n,rfl,hl,ks⟩:=q.isTup I
  refine wpAny_pyIter_tuple ⟨_,hl,rfl,n,rfl⟩ ⟨W,s.heap.objs.size,{cls:= .type "tuple_iterator",data:= .fields #[.ref la,.int 0 0]},.ref la,.refl W,I.same (pke _ _),rfl,Heap.get?_push_size _ rfl,I.nY,q,⟨la,rfl,rfl,rfl⟩⟩
 self:=fun i rs ob it A s E Q g h hq=>by
  obtain⟨la,rfl,c,d⟩:=h
  exact wpAny_pyIter_tupleiter (i:=i) ⟨ob,g,c,d⟩ hq
 next:=fun i x W σ rs ob it A s outer hx u hr hA hS I g hf q h=>by
  obtain⟨la,vs,n,rfl,hl,ks⟩:=q.isTup I
  obtain⟨v,hv,qv⟩:=ks.get hx
  refine wpAny_pyNext_tuple_item (h.is g) ⟨_,hl,rfl,n,rfl⟩ (by simpa using hv) fun h' hi hs'=> ?_
  obtain⟨ob',g',c',d'⟩:=hi
  exact⟨W,v,ob',.refl W,I.but hf.1 hf.2 fun b o nb e=>(hs'.2 b nb).trans e,rfl,qv,g',hf,⟨la,rfl,c',d'⟩⟩
 stop:=fun W σ rs ob it A s outer u hr hA hS I g hf q h=>by
  obtain⟨la,vs,n,rfl,hl,ks⟩:=q.isTup I
  refine wpAny_pyNext_tuple_end (hr.none h0) (h.is g) ⟨_,hl,rfl,n,rfl⟩ (by simp [ks.length]) fun h' hs'=> ?_
  exact⟨W,.refl W,I.but hf.1 hf.2 fun b o nb e=>hs' b o nb e,rfl⟩
 letgo:=fun i W σ rs rx ob it A s tgt I g hf ⟨la,e,c,d⟩=>lG g c d (by decide) ⟨ob,I,g,⟨la,e,c,d⟩,fun u w m z=>z⟩
noncomputable def rng (a b:Int):List AV:=(List.range (b - a).toNat).map fun(i:Nat)=>AV.int (a+i)
theorem rge {a b:Int} {i:Nat} {x:AV} (h:(rng a b)[i]? =some x):x= .int (a+i)∧(i:Int)<b - a:=by
 unfold rng at h
 rw [List.getElem?_map]at h
 cases q:(List.range (b - a).toNat)[i]? with
 | none=>rw [q]at h;cases h
 | some j=>
  rw [q]at h
  have hi:i<(List.range (b - a).toNat).length:=(List.getElem?_eq_some_iff.mp q).1
  rw [List.length_range]at hi
  rw [List.getElem?_range hi]at q
  cases q
  cases h
  exact⟨rfl,by omega⟩
theorem rle {a b:Int}:(rng a b).length=(b - a).toNat:=by unfold rng;simp
noncomputable def ShR (a b:Int) (i:Nat) (rs:Value) (ob:Obj):Prop:=ob={cls:= .type "range_iterator",dict:=none,data:= .fields #[rawInt (a+i),rawInt (b - a - i),rawInt 1],slots:= #[]}
theorem smo {a b:Int} (h0: -1000000≤a) (h1:b≤1000000) (hab:a≤b):Builtin.Range.small a b 1=true:=by
 unfold Builtin.Range.small Builtin.Range.rangeFitsLong
 rw [rangeSize_one]
 have e:(if a<b then b - a else 0)=b - a:=by split<;>omega
 rw [e]
 simp only [Bool.and_eq_true,Bool.or_eq_true]
 refine⟨⟨⟨⟨?_,?_⟩,?_⟩,?_⟩,.inr ?_⟩<;>simp<;>omega
theorem Ir {a b:Int} (h0: -1000000≤a) (h1:b≤1000000) (hab:a≤b) (hx0:C.hx=none:=by assumption):Itr C k (fun w=>True) (.fld "range" [.int a,.int b,.int 1]) (rng a b) .none (ShR a b) where
 jk:=fun i rv ob e=>⟨fun n z=>by rw [e]at z;cases z;decide,by rw [e];intro z;have:=Value.type.inj z;revert this;decide⟩
 start:=fun W σ rv A s outer w hr hA hS I q=>by
  obtain⟨c,r,o,vs,rfl,f,rfl,ks⟩:=q
  obtain⟨v1,v2,v3,rfl,q1,q2,q3⟩:=VRt ks
  obtain⟨t,rfl⟩:=q1;obtain⟨u,rfl⟩:=q2;obtain⟨v,rfl⟩:=q3
  refine wpAny_pyIter_range (I.frozen f (by intro z;have:=Value.type.inj z;revert this;decide)) (smo h0 h1 hab) ?_
  have e:Builtin.Range.rangeSize a b 1=b - a:=by rw [rangeSize_one];split<;>omega
  rw [e]
  exact⟨W,s.heap.objs.size,{cls:= .type "range_iterator",data:= .fields #[rawInt a,rawInt (b - a),rawInt 1]},.none,.refl W,I.same (pke _ _),rfl,Heap.get?_push_size _ rfl,I.nY,Vn,by unfold ShR;simp⟩
 self:=fun i rs ob it A s E Q g h hq=>by
  unfold ShR at h;subst h
  exact wpAny_pyIter_rangeiter g hq
 next:=fun i x W σ rs ob it A s outer hx w hr hA hS I g hf q h=>by
  obtain⟨rfl,hi⟩:=rge hx
  unfold ShR at h;subst h
  refine wA (wpAny_pyNext_range_item g (by omega) fun h' hi' hs'=>fun l=> ?_)
  refine⟨W,_,_,.refl W,I.but hf.1 hf.2 (fun b o nb e=>(hs'.2 b nb).trans e),rfl,Vi,hi',hf,?_⟩
  unfold ShR
  have e1:a+(i:Int)+1=a+((i+1:Nat):Int):=by omega
  have e2:b - a - (i:Int) - 1=b - a - ((i+1:Nat):Int):=by omega
  rw [e1,e2]
 stop:=fun W σ rs ob it A s outer w hr hA hS I g hf q h=>by
  unfold ShR at h;subst h
  rw [rle]at g
  refine wpAny_pyNext_range_end (hr.none hx0) g (by omega) fun h' hs'=> ?_
  exact⟨W,.refl W,I.but hf.1 hf.2 fun b o nb e=>hs' b o nb e,rfl⟩
 letgo:=fun i W σ rs rx ob it A s tgt I g hf h=>by
  have h':=h
  unfold ShR at h
  exact lG g (by rw [h]) (by rw [h]) (by decide) ⟨ob,I,g,h',fun w m y z=>z⟩
theorem Cr {n:Int}:Ca C k σ (.ty "range") [.int n] [] (.fld "range" [.int 0,.int n,.int 1]) σ:=by
 intro W rf ras rkw hf ha hk A s outer hr hA hS I
 unfold VR at hf;subst hf
 unfold KR at hk;subst hk
 obtain⟨r,rfl,q⟩:=Vo ha
 unfold VR at q;obtain⟨t,rfl⟩:=q
 obtain⟨n1,n2⟩:=I.nY
 refine call_range_1 ?_
 have g:(s.heap.push {cls:= .type "range",data:= .fields #[.int 0 s.toks,.int n t,.int 1 (s.toks+1)]}).get? s.heap.objs.size=some {cls:= .type "range",data:= .fields #[.int 0 s.toks,.int n t,.int 1 (s.toks+1)]}:=Heap.get?_push_size _ rfl
 obtain⟨le,I'⟩:=I.nF (t:=s.toks+1+1) (d:=s.drawn) n1 n2 (pke _ _) g
 refine⟨_,le,I',?_⟩
 refine⟨by decide,_,{cls:= .type "range",data:= .fields #[.int 0 s.toks,.int n t,.int 1 (s.toks+1)]},[.int 0 s.toks,.int n t,.int 1 (s.toks+1)],rfl,?_,rfl,.cons Vi (.cons Vi (.cons Vi .nil))⟩
 show(if _ then _ else _)=_
 rw [if_pos rfl]
end
end V
end
section
namespace V
open Builtin Builtin.Str
section
variable {C:Cx} {k:Nat} {sc:Scope} {A:Around} {W:Wd} {env:Env} {ms ms₁ ms₂ ms₃ ms':List (Option AV)} {σ σ₁ σ₂ σ₃ σ':St} {s:Shared}
theorem Lia {v:AV} {xs:List AV} {i:Int} {x:AV} (h:IsL σ v xs) (h0:0≤i) (h1:i<1000000) (hx:xs[i.toNat]? =some x):Op2 C k σ getItem v (.int i) (fun W r=>VR W x r) σ:=by
 intro W ra rb qa qb
 unfold VR at qb;obtain⟨t,rfl⟩:=qb
 refine Op.look fun A s Q hr I hq=> ?_
 obtain⟨la,vs,rfl,hl,ks⟩:=h.list qa I
 obtain⟨y,hy,qy⟩:=ks.get hx
 exact wpAny_getItem_list hl h0 (by omega) (by simpa using hy) (hq _ _ qy)
theorem Li {v:AV} {xs:List AV} {i:Int} {x:AV} (h:IsL σ v xs) (h0:i<0) (h1: -(xs.length:Int)≤i) (h2: -1000000≤i) (hx:xs[(i+xs.length).toNat]? =some x):Op2 C k σ getItem v (.int i) (fun W r=>VR W x r) σ:=by
 intro W ra rb qa qb
 unfold VR at qb;obtain⟨t,rfl⟩:=qb
 refine Op.look fun A s Q hr I hq=> ?_
 obtain⟨la,vs,rfl,hl,ks⟩:=h.list qa I
 obtain⟨y,hy,qy⟩:=ks.get hx
 have e:(List.toArray vs).size=xs.length:=by simp [ks.length]
 exact wpAny_getItem_list_neg hl h0 (by rw [e];exact h1) (by omega) (by rw [e];simpa using hy) (hq _ _ qy)
theorem Ti {xs:List AV} {i:Int} {x:AV} (h0:0≤i) (h1:i<xs.length) (h2:i<1000000) (hx:xs[i.toNat]? =some x):Op2 C k σ getItem (.tup xs) (.int i) (fun W r=>VR W x r) σ:=by
 intro W ra rb qa qb
 unfold VR at qb;obtain⟨t,rfl⟩:=qb
 refine Op.look fun A s Q hr I hq=> ?_
 obtain⟨la,vs,n,rfl,hl,ks⟩:=qa.isTup I
 obtain⟨y,hy,qy⟩:=ks.get hx
 have e:(List.toArray vs).size=xs.length:=by simp [ks.length]
 refine PyProof.Rows.getItem_tuple (j:=i.toNat) ⟨_,hl,rfl,n,rfl⟩ (by omega) (by omega) ?_ (by simpa using hy) (hq _ _ qy)
 rw [e]
 unfold seqIndex?
 have: ¬i<0:=by omega
 simp [this]
 omega
theorem Inv.puL {xs:List AV} {vs:List Value} (I:Inv C W σ s) (ks:VRe W xs vs) {tk:Nat} (ht:s.toks≤tk):
  ∃W',W.le W'∧Inv C W' σ {s with heap:=s.heap.push {cls:= .type "list",data:= .seq (List.toArray vs)},toks:=tk}∧VR W' (.lst xs) (.ref s.heap.objs.size):=by
 obtain⟨n1,n2⟩:=I.nY
 have g:(s.heap.push {cls:= .type "list",data:= .seq (List.toArray vs)}).get? s.heap.objs.size=some {cls:= .type "list",data:= .seq (List.toArray vs)}:=Heap.get?_push_size _ rfl
 obtain⟨le,I'⟩:=I.nF (t:=tk) (d:=s.drawn) n1 n2 (pke _ _) g ht
 refine⟨_,le,I',?_⟩
 refine⟨_,{cls:= .type "list",data:= .seq (List.toArray vs)},vs,0,rfl,?_,rfl,rfl,ks.mono le⟩
 show(if _ then _ else _)=_
 rw [if_pos rfl]
theorem mSi (f:Array Value→Array Value) (a:Array Value) (n:Nat): ∃n',Obj.mapSeq f {cls:= .type "list",data:= .seq a n}={cls:= .type "list",data:= .seq (f a) n'}:=⟨_,rfl⟩
noncomputable def lpi {α:Type} (xs:List α) (lo hi st:Option Int):List α:=
 (sliceRange (sliceBounds lo hi st xs.length).1 (sliceBounds lo hi st xs.length).2.1 (sliceBounds lo hi st xs.length).2.2).filterMap (xs[·]?)
theorem VRe.pick {xs:List AV} {vs:List Value} (h:VRe W xs vs): ∀is:List Nat,VRe W (is.filterMap (xs[·]?)) (is.filterMap (vs[·]?))
 | []=> .nil
 | i::is=>by
  have ih:=VRe.pick h is
  cases q:xs[i]? with
  | none=>
   have q':vs[i]? =none:=by rw [List.getElem?_eq_none_iff]at q⊢;rw [h.length];exact q
   rw [List.filterMap_cons,List.filterMap_cons,q,q'];exact ih
  | some x=>
   obtain⟨v,hv,qv⟩:=h.get q
   rw [List.filterMap_cons,List.filterMap_cons,q,hv];exact .cons qv ih
theorem Ls {v a b c:AV} {xs ys:List AV} {lo hi st:Option Int} (h:IsL σ v xs) (ha:PtI a lo) (hb:PtI b hi) (hc:PtI c st) (h0:st≠some 0) (hz:xs.length≤sizeLine) (hy:lpi xs lo hi st=ys):Op2 C k σ getItem v (.slc a b c) (fun W r=>VR W (.lst ys) r) σ:=by
 subst hy
 intro W ra rb qa qb
 unfold VR at qb;obtain⟨b',o,vx,vy,vz,rfl,f,z1,z2,k1,k2,k3⟩:=qb
 intro A s outer hr hA hS I
 obtain⟨la,vs,rfl,hl,ks⟩:=h.list qa I
 have part: ∀{x:AV} {o:Option Int} {v:Value},PtI x o→VR W x v→IsPart v o:=fun hp q=>by
  cases hp with
  | none=>unfold VR at q;subst q;exact .none
  | int i=>unfold VR at q;obtain⟨t,rfl⟩:=q;exact .int i t
 have e:(List.toArray vs).size=xs.length:=by simp [ks.length]
 refine wpAny_getItem_list_slice (lo:=lo) (hi:=hi) (st:=st) hl ⟨o,I.frozen f (by rw [z1];decide),z1,z2⟩ (part ha k1) (part hb k2) (part hc k3) h0 ?_ (by rw [e];exact hz)
 have es:slicePick (List.toArray vs) lo hi st=((sliceRange (sliceBounds lo hi st xs.length).1 (sliceBounds lo hi st xs.length).2.1 (sliceBounds lo hi st xs.length).2.2).filterMap (vs[·]?)).toArray:=by
  unfold slicePick;rw [e];simp
 rw [es]
 obtain⟨W',le,I',q⟩:=I.puL (ks.pick (sliceRange (sliceBounds lo hi st xs.length).1 (sliceBounds lo hi st xs.length).2.1 (sliceBounds lo hi st xs.length).2.2)) (Nat.le_refl _)
 exact⟨W',le,I',q⟩
theorem ClL {v:AV} {xs:List AV} (h:IsL σ v xs) (hz:xs.length≤sizeLine):Ca C k σ (.bi "len") [v] [] (.int xs.length) σ:=by
 intro W rf ras rkw hf ha hk
 unfold VR at hf;subst hf
 unfold KR at hk;subst hk
 obtain⟨r,rfl,q⟩:=Vo ha
 refine Op.look fun A s Q hr I hq=> ?_
 obtain⟨la,vs,rfl,hl,ks⟩:=h.list q I
 have e:(List.toArray vs).size=xs.length:=by simp [ks.length]
 refine call_len_list hl (by rw [e];rw [sizeLine_eq]at hz;omega) (hq _ _ ?_)
 rw [e];exact Vi
theorem CT {xs:List AV} (hz:xs.length≤sizeLine):Ca C k σ (.bi "len") [.tup xs] [] (.int xs.length) σ:=by
 intro W rf ras rkw hf ha hk
 unfold VR at hf;subst hf
 unfold KR at hk;subst hk
 obtain⟨r,rfl,q⟩:=Vo ha
 refine Op.look fun A s Q hr I hq=> ?_
 obtain⟨la,vs,n,rfl,hl,ks⟩:=q.isTup I
 have e:(List.toArray vs).size=xs.length:=by simp [ks.length]
 refine PyProof.Rows.len_tuple ⟨_,hl,rfl,n,rfl⟩ (by rw [e];rw [sizeLine_eq]at hz;omega) (hq _ _ ?_)
 rw [e];exact Vi
theorem Io: ∀{ns:List Int} {vs:List Value},VRe W (ns.map .int) vs→IntsAre vs ns
 | [],vs,h=>by rw [List.map_nil]at h;unfold VRe at h;subst h;exact .nil
 | n::ns,vs,h=>by
  rw [List.map_cons]at h
  obtain⟨v,r,rfl,q,h⟩:=h
  obtain⟨t,rfl⟩:=q
  exact .cons n t (Io h)
theorem SAo: ∀{ns:List Str} {vs:List Value},VRe W (ns.map .str) vs→StrsAre vs ns
 | [],vs,h=>by rw [List.map_nil]at h;unfold VRe at h;subst h;exact .nil
 | n::ns,vs,h=>by
  rw [List.map_cons]at h
  obtain⟨v,r,rfl,q,h⟩:=h
  obtain⟨t,rfl⟩:=q
  exact .cons n t (SAo h)
theorem Ln {v:AV} {ns:List Str} {i:Str} {c:Bool} (h:IsL σ v (ns.map .str)) (hc:(!(ns.any (· ==i)))=c):Op2 C k σ (compareOp .NotIn) (.str i) v (fun W r=>VR W (.bool c) r) σ:=by
 intro W ra rb qa qb
 unfold VR at qa;obtain⟨t,rfl⟩:=qa
 refine Op.look fun A s Q hr I hq=> ?_
 obtain⟨la,vs,rfl,hl,ks⟩:=h.list qb I
 exact notin_list_strs hl (SAo ks) (hq _ _ (by rw [hc];exact Vb))
theorem La {v u:AV} {xs ys:List AV} (h1:IsL σ v xs) (h2:IsL σ u ys) (hz:xs.length+ys.length≤sizeLine):Op2 C k σ (binaryOp .Add) v u (fun W r=>VR W (.lst (xs++ys)) r) σ:=by
 intro W ra rb qa qb A s outer hr hA hS I
 obtain⟨la,vs,n,rfl,hl,ks⟩:=h1.is qa I
 obtain⟨lb,us,m,rfl,hl',ks'⟩:=h2.is qb I
 refine concat_meets ⟨_,hl,rfl⟩ ⟨_,hl',rfl⟩ noFill_list_add seq_list_add F.slot_list_add F.entry_list_add (F.args_list_add_2 _ _) (AutoSeq1.list___add___list_list_0 la _ n lb _ m (by simp [ks.length,ks'.length];exact hz)) ⟨hl,hl',?_⟩
 obtain⟨W',le,I',q⟩:=I.puL (ks.append ks') (Nat.le_refl _)
 refine⟨W',le,?_,q⟩
 have e:List.toArray (vs++us)=List.toArray vs++List.toArray us:=by simp
 rw [e]at I'
 exact I'
theorem Map {l:Loc} {xs:List AV} (h:σ l=some (.list xs)):Mt C k σ (.loc l) "append" (.bi "list.append"):=by
 intro W ro pl q
 refine Op.look fun A s Q hr I hq=> ?_
 obtain⟨la,vs,n,rfl,hl,ks⟩:=(IsL.loc h).is q I
 exact getMethod_builtin ⟨_,hl,rfl⟩ F.plainAttrs_list F.slot_list_append F.type_list_append (fun a e=>by cases e;exact⟨_,hl,rfl⟩) (hq _ _ ⟨by unfold VR;rfl,rfl⟩)
theorem Mp {l:Loc} {xs:List AV} (h:σ l=some (.list xs)):Mt C k σ (.loc l) "pop" (.bi "list.pop"):=by
 intro W ro pl q
 refine Op.look fun A s Q hr I hq=> ?_
 obtain⟨la,vs,n,rfl,hl,ks⟩:=(IsL.loc h).is q I
 exact getMethod_builtin ⟨_,hl,rfl⟩ F.plainAttrs_list F.slot_list_pop F.type_list_pop (fun a e=>by cases e;exact⟨_,hl,rfl⟩) (hq _ _ ⟨by unfold VR;rfl,rfl⟩)
theorem Mcl {l:Loc} {xs:List AV} (h:σ l=some (.list xs)):Mt C k σ (.loc l) "clear" (.bi "list.clear"):=by
 intro W ro pl q
 refine Op.look fun A s Q hr I hq=> ?_
 obtain⟨la,vs,n,rfl,hl,ks⟩:=(IsL.loc h).is q I
 exact getMethod_builtin ⟨_,hl,rfl⟩ F.plainAttrs_list F.slot_list_clear F.type_list_clear (fun a e=>by cases e;exact⟨_,hl,rfl⟩) (hq _ _ ⟨by unfold VR;rfl,rfl⟩)
theorem Ccl {l:Loc} {xs:List AV} (h:σ l=some (.list xs)) (hz:xs.length≤sizeLine):Ca C k σ (.bi "list.clear") [.loc l] [] .none (σ.set l (.list [])):=by
 intro W rf ras rkw hf ha hk A s outer hr hA hS I
 unfold VR at hf;subst hf
 unfold KR at hk;subst hk
 obtain⟨r,rfl,q⟩:=Vo ha
 obtain⟨a,e,rfl⟩:=q
 obtain⟨ob,h1,c1,vs,n,rfl,c3⟩:=I.obj l a _ e h
 refine call_meets F.slot_list_clear ⟨_,h1,rfl⟩ F.entry_list_clear (F.args_list_clear_1 _) (AutoSeq1.list_clear_list_0 a _ n (by simp [c3.length];exact hz)) ⟨h1,?_⟩
 obtain⟨n',en⟩:=mSi (fun u=> #[]) (List.toArray vs) n
 exact⟨W,.refl W,I.upd (t:=s.toks) (d:=s.drawn) e (uke _ _ _) (Heap.get?_update_self _ h1 rfl) ⟨rfl,[],n',en,.nil⟩,Vn⟩
theorem Cp {l:Loc} {xs:List AV} {x:AV} (h:σ l=some (.list (xs++ [x]))) (hz:xs.length+1≤sizeLine):Ca C k σ (.bi "list.pop") [.loc l] [] x (σ.set l (.list xs)):=by
 intro W rf ras rkw hf ha hk A s outer hr hA hS I
 unfold VR at hf;subst hf
 unfold KR at hk;subst hk
 obtain⟨r,rfl,q⟩:=Vo ha
 obtain⟨a,e,rfl⟩:=q
 obtain⟨ob,h1,c1,vs,n,rfl,c3⟩:=I.obj l a _ e h
 obtain⟨y,hy,qy⟩:=c3.get (i:=xs.length) (x:=x) (by simp)
 have hl:=c3.length
 rw [List.length_append,List.length_singleton]at hl
 have e1:vs.toArray.size - 1=xs.length:=by simp [hl]
 refine call_meets F.slot_list_pop ⟨_,h1,rfl⟩ F.entry_list_pop (F.args_list_pop_1 _) (MeetsSeq.list_pop_last a _ n y (by rw [e1];simpa using hy) (by simp [hl];exact hz)) ⟨h1,?_⟩
 obtain⟨n',en⟩:=mSi (fun xs=>xs.eraseIdxIfInBounds (vs.toArray.size - 1)) (List.toArray vs) n
 have cut: ∀{xs:List AV} {x:AV} {vs:List Value},VRe W (xs++ [x]) vs→VRe W xs (vs.take xs.length):=by
  intro xs
  induction xs with
  | nil=>intro x vs h;simp;exact .nil
  | cons y ys ih=>
   intro x vs h
   rw [List.cons_append]at h
   obtain⟨v,r,rfl,q,h⟩:=h
   rw [List.length_cons,List.take_succ_cons]
   exact .cons q (ih h)
 have this:vs.toArray.eraseIdxIfInBounds xs.length=(vs.take xs.length).toArray:=by
  have hb:xs.length<vs.toArray.size:=by simp [hl]
  rw [Array.eraseIdxIfInBounds,dif_pos hb]
  apply Array.ext'
  rw [Array.toList_eraseIdx]
  show vs.eraseIdx xs.length=vs.take xs.length
  rw [List.eraseIdx_eq_take_drop_succ,List.drop_eq_nil_of_le (by omega),List.append_nil]
 refine⟨W,.refl W,I.upd (t:=s.toks) (d:=s.drawn) (o':= .list xs) e (uke _ _ _) (Heap.get?_update_self _ h1 rfl) ⟨rfl,vs.take xs.length,n',?_,cut c3⟩,qy⟩
 rw [en,e1,this]
theorem Ltr {v:AV} {xs:List AV} {c:Bool} (h:IsL σ v xs) (hz:xs.length≤sizeLine) (hc:(!xs.isEmpty)=c):Op1 C k σ truthy v (fun u r=>r=c) σ:=by
 intro W ra q
 refine Op.look fun A s Q hr I hq=> ?_
 obtain⟨la,vs,rfl,hl,ks⟩:=h.list q I
 have e:(List.toArray vs).size=xs.length:=by simp [ks.length]
 refine wpAny_truthy_list hl (by rw [e];rw [sizeLine_eq]at hz;omega) (hq _ _ ?_)
 rw [←hc]
 cases xs with
 | nil=>unfold VRe at ks;subst ks;rfl
 | cons y ys=>unfold VRe at ks;obtain⟨v,r,rfl,_⟩:=ks;simp
theorem CtO {v:AV} {xs:List AV} (h:IsL σ v xs) (hz:xs.length≤sizeLine):Ca C k σ (.ty "tuple") [v] [] (.tup xs) σ:=by
 intro W rf ras rkw hf ha hk A s outer hr hA hS I
 unfold VR at hf;subst hf
 unfold KR at hk;subst hk
 obtain⟨r,rfl,q⟩:=Vo ha
 obtain⟨la,vs,rfl,hl,ks⟩:=h.list q I
 have e:(List.toArray vs).size=xs.length:=by simp [ks.length]
 refine call_tuple_list hl (fun h' hk'=> ?_) (by rw [e];exact hz)
 have I1:Inv C W σ {s with heap:=h'}:=I.same hk'
 obtain⟨n1,n2⟩:=I1.nY
 have g:(h'.push {cls:= .type "tuple",data:= .seq (List.toArray vs)}).get? h'.objs.size=some {cls:= .type "tuple",data:= .seq (List.toArray vs)}:=Heap.get?_push_size _ rfl
 obtain⟨le,I'⟩:=I1.nF (t:=s.toks) (d:=s.drawn) n1 n2 (pke _ _) g
 refine⟨_,le,I',?_⟩
 refine⟨_,{cls:= .type "tuple",data:= .seq (List.toArray vs)},vs,0,rfl,?_,rfl,rfl,ks.mono le⟩
 show(if _ then _ else _)=_
 rw [if_pos rfl]
end
end V
end
section
namespace V
open Builtin Builtin.Str
section
variable {C:Cx} {k:Nat} {sc:Scope} {A:Around} {W:Wd} {env:Env} {ms ms₁ ms₂ ms₃ ms':List (Option AV)} {σ σ₁ σ₂ σ₃ σ':St} {s:Shared}
theorem Er {e:Expr} {pos:Pos} {rest:List Stmt} {v:AV} (h:Ev C k sc ms σ e v ms' σ'):Ex C k sc ms σ (.Return (some e) pos::rest) (.ret v) ms' σ':=Est (XR h) (fun z=>by cases z)
theorem EIT {test:Expr} {x y rest:List Stmt} {pos:Pos} {f:AF} (h1:Tv C k sc ms σ test true ms₁ σ₁) (h2:Ex C k sc ms₁ σ₁ (x++rest) f ms' σ'):Ex C k sc ms σ (.If test x y pos::rest) f ms' σ':=EIf h1 h2
theorem EIF {test:Expr} {x y rest:List Stmt} {pos:Pos} {f:AF} (h1:Tv C k sc ms σ test false ms₁ σ₁) (h2:Ex C k sc ms₁ σ₁ (y++rest) f ms' σ'):Ex C k sc ms σ (.If test x y pos::rest) f ms' σ':=EIf h1 h2
theorem Ebr {pos:Pos} {rest:List Stmt}:Ex C k sc ms σ (.Break pos::rest) .brk ms σ:=Est X1B (fun z=>by cases z)
theorem Ecb {pos:Pos} {rest:List Stmt}:Ex C k sc ms σ (.Continue pos::rest) .cont ms σ:=Est XCo (fun z=>by cases z)
theorem XAu {i:Nat} {x:Str} {op:Operator} {value:Expr} {npos pos:Pos} {a b c:AV} (hi:sc.names[i]? =some (x,NameKind.local)) (hv:ms[i]? =some (some a)) (h1:Ev C k sc ms σ value b ms₁ σ₁)
  (h2:Op2 C k σ₁ (inplaceOp op) a b (fun W r=>VR W c r) σ₂) (hm:ms₁.set i (some c)=ms'):X1 C k sc ms σ (.AugAssign (.Name x npos) op value pos) .next ms' σ₂:=by
 subst hm
 intro A W env s hr H
 show wpAny C.M A (exec (.AugAssign (.Name x npos) op value pos) env) _ _ _
 rw [arm_exec_AugAssign]
 refine wpAny_bind (wpAny_standAt (wpAny_bind ?_))
 obtain⟨mr,hn,hmr⟩:=H.fr.ns
 obtain⟨r,e,q⟩:=hmr i x a hi hv
 have hl:env.kindOf x=some .local:=by
  unfold Env.kindOf;rw [H.fr.scope];exact lon (sO.nodup H.fr.ok) hi
 refine wpAny_loadName_local (by rw [H.fr.scope];exact sO.kind H.fr.ok) hl hn e ?_
 refine wpAny_bind (wpAny_holding (pg (h1 A W env s hr H) fun W₁ rb s₁ le₁ H₁ qb=> ?_))
 refine wpAny_bind (wpAny_standAt (wpAny_bind (wpAny_operating ?_)))
 have le:=ale H₁.fr
 refine Op.in rfl (h2 _ r rb ((q.mono le₁).mono le) (qb.mono le)) hr H₁ fun W₂ rc s₂ le₂ H₂ qc tk u=> ?_
 refine wpAny_bind (wpAny_standAt (wpAny_bind (wpAny_bindName (slo hi H₂ (tk qc) fun s₃ H₃=> ?_))))
 exact wpAny_pure (ph (le₁.trans le₂) H₃ rfl)
inductive Wr (C:Cx) (k:Nat) (sc:Scope) (test:Expr) (body orelse:List Stmt):List (Option AV)→St→AF→List (Option AV)→St→Prop
 | out {ms ms₁ ms':List (Option AV)} {σ σ₁ σ':St} {f:AF} (h:Tv C k sc ms σ test false ms₁ σ₁) (hx:Ex C k sc ms₁ σ₁ orelse f ms' σ'):Wr C k sc test body orelse ms σ f ms' σ'
 | brk {ms ms₁ ms':List (Option AV)} {σ σ₁ σ':St} (h:Tv C k sc ms σ test true ms₁ σ₁) (hx:Ex C k sc ms₁ σ₁ body .brk ms' σ'):Wr C k sc test body orelse ms σ .next ms' σ'
 | ret {ms ms₁ ms':List (Option AV)} {σ σ₁ σ':St} {v:AV} (h:Tv C k sc ms σ test true ms₁ σ₁) (hx:Ex C k sc ms₁ σ₁ body (.ret v) ms' σ'):Wr C k sc test body orelse ms σ (.ret v) ms' σ'
 | turn {ms ms₁ ms₂ ms':List (Option AV)} {σ σ₁ σ₂ σ':St} {f₁ f:AF} (h:Tv C k sc ms σ test true ms₁ σ₁) (hx:Ex C k sc ms₁ σ₁ body f₁ ms₂ σ₂) (hf:f₁= .next∨f₁= .cont)
   (hr:Wr C k sc test body orelse ms₂ σ₂ f ms' σ'):Wr C k sc test body orelse ms σ f ms' σ'
theorem wlo {test:Expr} {body orelse:List Stmt} {f:AF} (L:Wr C k sc test body orelse ms σ f ms' σ'): ∀(A:Around) (W:Wd) (env:Env) (s:Shared),Ro C A k→At C sc A W env ms σ s→
  codeAny C.M A (.whileLoop test body orelse env) (fun r s'=>match r with | .ok fl=>Pa C sc A W env ms' σ' (fun W r=>Fl W f r) fl s' | .error _=>False) s:=by
 have start: ∀{A:Around} {W:Wd} {env:Env} {s:Shared} {R:Result→Shared→Prop},wpAny C.M A (whileTurn test body orelse env) (fun fin s'=>match fin with | .done f=>R (.ok f) s' | .again c'=>c'.quiet=true∧codeAny C.M A c' R s') No s→
   codeAny C.M A (.whileLoop test body orelse env) R s:=fun{A W env s R} h=>by
  refine codeAny_of_tree ?_
  rw [Around.under_of_weight (A:=A) (c:= .whileLoop test body orelse env) rfl]
  show wpAny C.M A ((whileTurn test body orelse env).onRaise _) _ _ s
  exact wpAny_onRaise (wpAny_mono h (fun u w h=>h) (fun _ _ (h:False)=>h.elim))
 induction L with
 | @out ms0 ms1 ms2 σ0 σ1 σ2 f h hx=>
  intro A W env s hr H
  refine start (W:=W) ?_
  refine pbi (h A W env s hr H) fun W₁ b s₁ le₁ H₁ qb=> ?_
  subst qb
  exact pbi (hx A W₁ env s₁ hr H₁) fun W₂ r s₂ le₂ H₂ q=>wpAny_pure (ph (le₁.trans le₂) H₂ q)
 | @brk ms0 ms1 ms2 σ0 σ1 σ2 h hx=>
  intro A W env s hr H
  refine start (W:=W) ?_
  refine pbi (h A W env s hr H) fun W₁ b s₁ le₁ H₁ qb=> ?_
  subst qb
  refine pbi (hx A W₁ env s₁ hr H₁) fun W₂ r s₂ le₂ H₂ q=> ?_
  unfold Fl at q;subst q
  exact wpAny_pure (ph (le₁.trans le₂) H₂ rfl)
 | @ret ms0 ms1 ms2 σ0 σ1 σ2 v h hx=>
  intro A W env s hr H
  refine start (W:=W) ?_
  refine pbi (h A W env s hr H) fun W₁ b s₁ le₁ H₁ qb=> ?_
  subst qb
  refine pbi (hx A W₁ env s₁ hr H₁) fun W₂ r s₂ le₂ H₂ q=> ?_
  obtain⟨x,rfl,z⟩:=q
  exact wpAny_pure (ph (le₁.trans le₂) H₂ ⟨x,rfl,z⟩)
 | @turn ms0 ms1 ms2 ms3 σ0 σ1 σ2 σ3 f₁ f h hx hf hl ih=>
  intro A W env s hr H
  refine start (W:=W) ?_
  refine pbi (h A W env s hr H) fun W₁ b s₁ le₁ H₁ qb=> ?_
  subst qb
  refine pbi (hx A W₁ env s₁ hr H₁) fun W₂ r s₂ le₂ H₂ q=> ?_
  have go:codeAny C.M A (.whileLoop test body orelse env) (fun r s'=>match r with | .ok fl=>Pa C sc A W env ms3 σ3 (fun W r=>Fl W f r) fl s' | .error _=>False) s₂:=
   codeAny_mono (ih A W₂ env s₂ hr H₂) fun r s' hh=>by
    cases r with
    | ok fl=>obtain⟨W',l,z⟩:=hh;exact⟨W',(le₁.trans le₂).trans l,z⟩
    | error e=>exact hh
  rcases hf with rfl | rfl<;>(unfold Fl at q;subst q;exact wpAny_pure ⟨rfl,go⟩)
theorem X1W {test:Expr} {body orelse:List Stmt} {pos:Pos} {f:AF} (L:Wr C k sc test body orelse ms σ f ms' σ'):X1 C k sc ms σ (.While test body orelse pos) f ms' σ':=by
 intro A W env s hr H
 refine wpAny_While (codeAny_mono (wlo L A W env s hr H) fun r s' hh=> ?_)
 cases r with
 | ok fl=>exact hh
 | error e=>exact hh.elim
end
end V
end
section
namespace V
open Builtin Builtin.Str
section
variable {C:Cx} {k:Nat} {sc:Scope} {A:Around} {W:Wd} {env:Env} {ms ms₁ ms₂ ms₃ ms':List (Option AV)} {σ σ₁ σ₂ σ₃ σ':St} {s:Shared}
noncomputable def Asl (C:Cx) (k:Nat) (sc:Scope) (ms:List (Option AV)) (σ:St) (ts:List Expr) (xs:List AV) (ms':List (Option AV)) (σ':St):Prop:=
 ∀A W env s rs,Ro C A k→At C sc A W env ms σ s→VRe W xs rs→wpAny C.M A (assignInOrder ((assignEach ts env).map (·.2)) rs) (Pa C sc A W env ms' σ' fun _ _=>True) No s
theorem An:Asl C k sc ms σ [] [] ms σ:=fun A W env s rs hr H q=>by
 unfold VRe at q;subst q
 exact wpAny_pure (ph (.refl W) H trivial)
theorem Ac {t:Expr} {ts:List Expr} {x:AV} {xs:List AV} (h1:As C k sc ms σ t x ms₁ σ₁) (h2:Asl C k sc ms₁ σ₁ ts xs ms' σ') (he: ∀env,assignEach (t::ts) env=(false,assign t env)::assignEach ts env):Asl C k sc ms σ (t::ts) (x::xs) ms' σ':=by
 intro A W env s rs hr H q
 obtain⟨v,r,rfl,q1,q2⟩:=q
 rw [he]
 show wpAny C.M A (do holding r (assign t env v);assignInOrder ((assignEach ts env).map (·.2)) r) _ _ _
 refine wpAny_bind (wpAny_holding (pg (h1 A W env s v hr H q1) fun W₁ u s₁ le₁ H₁ w=> ?_))
 exact pg (h2 A W₁ env s₁ r hr H₁ (q2.mono le₁)) fun W₂ u s₂ le₂ H₂ w=>ph (le₁.trans le₂) H₂ trivial
theorem Ou {xs:List AV} {n:Nat} {rv:Value} (q:VR W (.tup xs) rv) (hn:xs.length=n) (h0:C.hx=none:=by assumption):Op C k W σ (unpackItems rv n none) (fun W r=>VRe W xs r) σ:=by
 subst hn
 intro A s outer hr hA hS I
 obtain⟨la,vs,n,rfl,hl,ks⟩:=q.isTup I
 have e:(List.toArray vs).size=xs.length:=by simp [ks.length]
 rw [←e]
 refine wpAny_unpackItems_tuple (hr.none h0) ⟨_,hl,rfl,n,rfl⟩ fun h' hs'=>⟨W,.refl W,?_,by simpa using ks⟩
 exact I.same fun b o e=>hs' b o (Nat.ne_of_lt (Heap.lt_size e)) e
theorem ATu {ts:List Expr} {x1:Nat} {pos:Pos} {xs:List AV} (h:Asl C k sc ms σ ts xs ms' σ') (hn:xs.length=ts.length) (hf: ∀env,(assignEach ts env).findIdx? (·.1)=none) (hl: ∀env,(assignEach ts env).length=ts.length) (h0:C.hx=none:=by assumption):
  As C k sc ms σ (.Tuple ts x1 pos) (.tup xs) ms' σ':=by
 intro A W env s r hr H q
 rw [arm_assign_Tuple]
 refine wpAny_bind (wpAny_standAt ?_)
 unfold unpack
 rw [hf,hl]
 refine wpAny_bind (wpAny_holding (Op.in rfl (Ou (k:=k) (q.mono (ale H.fr)) hn) hr H fun W₁ rs s₁ le₁ H₁ qs u tks=> ?_))
 exact pg (h A _ env s₁ rs hr H₁ (tks qs)) fun W₂ u s₂ le₂ H₂ v=>ph (le₁.trans le₂) H₂ trivial
theorem kof {i:Nat} {x:Str} {kd:NameKind} (H:FRe C sc A W env ms s.heap) (hi:sc.names[i]? =some (x,kd)):env.kindOf x=some kd:=by
 unfold Env.kindOf;rw [H.scope];exact lon (sO.nodup H.ok) hi
theorem bof (H:FRe C sc A W env ms s.heap):env.blockKind= .function:=by
 have h:env.scope.kind= .function:=by rw [H.scope];exact sO.kind H.ok
 unfold Env.blockKind
 rw [h]
 rfl
noncomputable def sy (e:Expr):Bool:=match e with | .Starred .. =>true | _=>false
noncomputable def nmF (env:Env) (line:Nat) (e:Expr):Option Str:=match e with
 | .Name nm pos=>if env.kindOf nm==some .local && pos.line==line then some nm else none
 | _=>none
theorem swap_eq {ts vs:List Expr} {n1 n2:Nat} {tp vp:Pos}:swappedStores [.Tuple ts n1 tp] (.Tuple vs n2 vp) env=(if(!(ts.length==2 || ts.length==3) || vs.length !=ts.length || env.blockKind != .function)=true then pure none else
  if vs.any sy=true then pure none else
  let names:=ts.filterMap (nmF env ((ts.head?.map (·.pos.line)).getD 0))
  if(names.length !=ts.length || names.eraseDups.length !=names.length)=true then pure none else
  if vs.all (foldedForSure 8)=true then pure none else
  if vs.all (constantsAlone 8)=true then(unsupported "assign.tuple-of-constant-expressions:order-of-the-stores">>=fun(_:Unit)=>pure (some names))else pure (some names)):=rfl
theorem nFl {x:Str} {p:Pos} {line:Nat} (h:env.kindOf x=some .local) (hp:(p.line==line)=true):nmF env line (.Name x p)=some x:=by
 unfold nmF;simp only [h,hp];rfl
theorem nFn {x:Str} {p:Pos} {line:Nat} (h:(env.kindOf x==some .local)=false):nmF env line (.Name x p)=none:=by
 unfold nmF;simp only [h];rfl
theorem swap2 {x y:Str} {p q tp vp:Pos} {n1 n2:Nat} {a b:Expr} (hk1:env.kindOf x=some .local) (hk2:env.kindOf y=some .local) (hb:env.blockKind= .function) (hp:(q.line==p.line)=true) (hxy: [x,y].eraseDups.length=2)
  (hs: [a,b].any sy=false) (hf: [a,b].all (foldedForSure 8)=false) (hc: [a,b].all (constantsAlone 8)=false):swappedStores [.Tuple [.Name x p,.Name y q] n1 tp] (.Tuple [a,b] n2 vp) env=pure (some [x,y]):=by
 rw [swap_eq,hb,hs,hf,hc]
 have e0: [Expr.Name x p,Expr.Name y q].filterMap (nmF env p.line)= [x,y]:=by
  rw [List.filterMap_cons,nFl hk1 (by simp),List.filterMap_cons,nFl hk2 hp];rfl
 have e: [Expr.Name x p,Expr.Name y q].filterMap (nmF env (([Expr.Name x p,Expr.Name y q].head?.map (·.pos.line)).getD 0))= [x,y]:=e0
 rw [e]
 simp only [hxy]
 rfl
theorem s2n {x y:Str} {p q tp vp:Pos} {n1 n2:Nat} {a b:Expr} (hk1:(env.kindOf x==some .local && env.kindOf y==some .local)=false) (hb:env.blockKind= .function) (hs: [a,b].any sy=false):swappedStores [.Tuple [.Name x p,.Name y q] n1 tp] (.Tuple [a,b] n2 vp) env=pure none:=by
 rw [swap_eq,hb,hs]
 have e:([Expr.Name x p,Expr.Name y q].filterMap (nmF env (([Expr.Name x p,Expr.Name y q].head?.map (·.pos.line)).getD 0))).length≤1:=by
  rw [List.filterMap_cons,List.filterMap_cons,List.filterMap_nil]
  cases h1:(env.kindOf x==some .local)
  ·rw [nFn h1]
   cases nmF env (([Expr.Name x p,Expr.Name y q].head?.map (·.pos.line)).getD 0) (Expr.Name y q)<;>simp
  ·rw [h1,Bool.true_and]at hk1
   rw [nFn hk1]
   cases nmF env (([Expr.Name x p,Expr.Name y q].head?.map (·.pos.line)).getD 0) (Expr.Name x p)<;>simp
 have e':(([Expr.Name x p,Expr.Name y q].filterMap (nmF env (([Expr.Name x p,Expr.Name y q].head?.map (·.pos.line)).getD 0))).length != [Expr.Name x p,Expr.Name y q].length)=true:=by
  rw [bne_iff_ne];simp only [List.length_cons,List.length_nil]at *;omega
 simp only [e',Bool.true_or]
 rfl
theorem swap3 {x y z:Str} {p q r tp vp:Pos} {n1 n2:Nat} {a b c:Expr} (hk1:env.kindOf x=some .local) (hk2:env.kindOf y=some .local) (hk3:env.kindOf z=some .local) (hb:env.blockKind= .function) (hp:(q.line==p.line)=true) (hp3:(r.line==p.line)=true) (hxy: [x,y,z].eraseDups.length=3)
  (hs: [a,b,c].any sy=false) (hf: [a,b,c].all (foldedForSure 8)=false) (hc: [a,b,c].all (constantsAlone 8)=false):swappedStores [.Tuple [.Name x p,.Name y q,.Name z r] n1 tp] (.Tuple [a,b,c] n2 vp) env=pure (some [x,y,z]):=by
 rw [swap_eq,hb,hs,hf,hc]
 have e0: [Expr.Name x p,Expr.Name y q,.Name z r].filterMap (nmF env p.line)= [x,y,z]:=by
  rw [List.filterMap_cons,nFl hk1 (by simp),List.filterMap_cons,nFl hk2 hp,List.filterMap_cons,nFl hk3 hp3];rfl
 have e: [Expr.Name x p,Expr.Name y q,.Name z r].filterMap (nmF env (([Expr.Name x p,Expr.Name y q,.Name z r].head?.map (·.pos.line)).getD 0))= [x,y,z]:=e0
 rw [e]
 simp only [hxy]
 rfl
theorem esw {M:Model} {E:Value→Shared→Prop} {targets:List Expr} {value:Expr} {pos:Pos} {names:List Str} {Q:Flow→Shared→Prop} (hw:swappedStores targets value env=pure (some names)) (hs:swapsWithSole targets value pos.line env=pure false)
  (h:wpAny M A (eval value env) (fun v s₁=>wpAny M A (unpackItems v names.length none) (fun items s₂=>wpAny M A (assignInOrder (names.reverse.map fun n=>bindName env n) items.reverse) (fun u=>Q .next) E s₂) E s₁) E s):wpAny M A (exec (.Assign targets value pos) env) Q E s:=by
 rw [arm_exec_Assign]
 refine wpAny_bind (wpAny_standAt ?_)
 rw [hs]
 refine wpAny_bind (wpAny_pure ?_)
 refine wpAny_bind (wpAny_mono h (fun v s₁ h₁=>wpAny_bind (wpAny_of_eq hw ?_)) fun u w x=>x)
 exact wpAny_bind (wpAny_rule (wpAny_bind (wpAny_mono h₁ (fun items s₂ h₂=>wpAny_bind (wpAny_mono h₂ (fun u s₃ h₃=>wpAny_pure h₃) fun u w x=>x)) fun u w x=>x)))
theorem X1S {x y:Str} {p q tp vp pos:Pos} {n1 n2 i j:Nat} {a b:Expr} {u v:AV} (hi:sc.names[i]? =some (x,NameKind.local)) (hj:sc.names[j]? =some (y,NameKind.local)) (h1:Ev C k sc ms σ (.Tuple [a,b] n2 vp) (.tup [u,v]) ms₁ σ₁) (hp:(q.line==p.line)=true) (hxy: [x,y].eraseDups.length=2)
  (hs: [a,b].any sy=false) (hf: [a,b].all (foldedForSure 8)=false) (hc: [a,b].all (constantsAlone 8)=false) (hm:(ms₁.set j (some v)).set i (some u)=ms') (h0:C.hx=none:=by assumption):
  X1 C k sc ms σ (.Assign [.Tuple [.Name x p,.Name y q] n1 tp] (.Tuple [a,b] n2 vp) pos) .next ms' σ₁:=by
 subst hm
 intro A W env s hr H
 refine esw (swap2 (kof H.fr hi) (kof H.fr hj) (bof H.fr) hp hxy hs hf hc) rfl ?_
 refine pg (h1 A W env s hr H) fun W₁ r s₁ le₁ H₁ qv=> ?_
 refine Op.in rfl (Ou (k:=k) (n:= [x,y].length) (qv.mono (ale H₁.fr)) rfl) hr H₁ fun W₂ rs s₂ le₂ H₂ qs w tks=> ?_
 obtain⟨ru,rv,rfl,qu,qv'⟩:=Vt (tks qs)
 show wpAny C.M A (do holding [ru] (bindName env y rv);assignInOrder [bindName env x] [ru]) _ _ _
 refine wpAny_bind (wpAny_holding (wpAny_bindName (slo hj H₂ qv' fun s₃ H₃=> ?_)))
 show wpAny C.M A (do holding [] (bindName env x ru);assignInOrder [] []) _ _ _
 exact wpAny_bind (wpAny_holding (wpAny_bindName (slo hi H₃ qu fun s₄ H₄=>wpAny_pure (ph (le₁.trans le₂) H₄ rfl))))
theorem X3 {x y z:Str} {p q r tp vp pos:Pos} {n1 n2 i j l:Nat} {a b c:Expr} {u v w:AV} (hi:sc.names[i]? =some (x,NameKind.local)) (hj:sc.names[j]? =some (y,NameKind.local)) (hk:sc.names[l]? =some (z,NameKind.local)) (h1:Ev C k sc ms σ (.Tuple [a,b,c] n2 vp) (.tup [u,v,w]) ms₁ σ₁) (hp:(q.line==p.line)=true) (hp3:(r.line==p.line)=true) (hxy: [x,y,z].eraseDups.length=3)
  (hs: [a,b,c].any sy=false) (hf: [a,b,c].all (foldedForSure 8)=false) (hc: [a,b,c].all (constantsAlone 8)=false) (hm:((ms₁.set l (some w)).set j (some v)).set i (some u)=ms') (h0:C.hx=none:=by assumption):
  X1 C k sc ms σ (.Assign [.Tuple [.Name x p,.Name y q,.Name z r] n1 tp] (.Tuple [a,b,c] n2 vp) pos) .next ms' σ₁:=by
 subst hm
 intro A W env s hr H
 refine esw (swap3 (kof H.fr hi) (kof H.fr hj) (kof H.fr hk) (bof H.fr) hp hp3 hxy hs hf hc) rfl ?_
 refine pg (h1 A W env s hr H) fun W₁ r s₁ le₁ H₁ qv=> ?_
 refine Op.in rfl (Ou (k:=k) (n:= [x,y,z].length) (qv.mono (ale H₁.fr)) rfl) hr H₁ fun W₂ rs s₂ le₂ H₂ qs g tks=> ?_
 obtain⟨ru,rv,rw',rfl,qu,qv',qw⟩:=VRt (tks qs)
 show wpAny C.M A (do holding [rv,ru] (bindName env z rw');assignInOrder [bindName env y,bindName env x] [rv,ru]) _ _ _
 refine wpAny_bind (wpAny_holding (wpAny_bindName (slo hk H₂ qw fun s₃ H₃=> ?_)))
 show wpAny C.M A (do holding [ru] (bindName env y rv);assignInOrder [bindName env x] [ru]) _ _ _
 refine wpAny_bind (wpAny_holding (wpAny_bindName (slo hj H₃ qv' fun s₄ H₄=> ?_)))
 show wpAny C.M A (do holding [] (bindName env x ru);assignInOrder [] []) _ _ _
 exact wpAny_bind (wpAny_holding (wpAny_bindName (slo hi H₄ qu fun s₅ H₅=>wpAny_pure (ph (le₁.trans le₂) H₅ rfl))))
theorem X1b {t value:Expr} {pos:Pos} {v:AV} (h1:Ev C k sc ms σ value v ms₁ σ₁) (h2:As C k sc ms₁ σ₁ t v ms' σ')
  (hs: ∀env,swapsWithSole [t] value pos.line env=pure false) (hw: ∀env:Env,(∀(i:Nat) (x:Str) (kd:NameKind),sc.names[i]? =some (x,kd)→env.kindOf x=some kd)→env.blockKind= .function→swappedStores [t] value env=pure none) (ht: ∀env,(assignEach [t] env).map (·.2)= [assign t env]):
  X1 C k sc ms σ (.Assign [t] value pos) .next ms' σ':=by
 intro A W env s hr H
 refine wpAny_Assign_stores (pg (h1 A W env s hr H) fun W₁ r s₁ le₁ H₁ q=> ?_) (hs env) (hw env (fun i x kd h=>kof H.fr h) (bof H.fr))
 rw [ht]
 exact pg (h2 A W₁ env s₁ r hr H₁ q) fun W₂ u s₂ le₂ H₂ w=>ph (le₁.trans le₂) H₂ rfl
theorem X1T {body:List Stmt} {handlers:List ExceptHandler} {pos:Pos} {f:AF} (h:Ex C k sc ms σ body f ms' σ'):X1 C k sc ms σ (.Try body handlers [] [] pos) f ms' σ':=by
 intro A W env s hr H
 show wpAny C.M A (exec (.Try body handlers [] [] pos) env) _ _ _
 rw [arm_exec_Try]
 refine wpAny_bind (wpAny_standAt ?_)
 unfold tryStmt
 refine wpAny_bind (wpAny_attempt (wpAny_mono (h A W env s hr H) (fun r s₁ hh=> ?_) fun u w x=>x.elim))
 obtain⟨W₁,le₁,H₁,q⟩:=hh
 cases f with
 | next=>unfold Fl at q;subst q;exact wpAny_execs_nil (ph le₁ H₁ rfl)
 | brk=>unfold Fl at q;subst q;exact wpAny_pure (ph le₁ H₁ rfl)
 | cont=>unfold Fl at q;subst q;exact wpAny_pure (ph le₁ H₁ rfl)
 | ret v=>obtain⟨x,rfl,z⟩:=q;exact wpAny_pure (ph le₁ H₁ ⟨x,rfl,z⟩)
end
end V
end
section
namespace V
open Builtin Builtin.Str
section
variable {prog:Program} {w:World} {A:Around} {E:Value→Shared→Prop} {s:Shared}
theorem iss {T:String} {k:Value} {dep:Int} {tk:Tok} {Q:Fin→Shared→Prop} (hk:k= .int dep tk) (hm:typeOf (.type T)=pure (.type "type")) (hs:isSubtype (.type T) (.type T)=pure true) (hq:Q (.done (.ret (.bool true))) s):
  wpAny (model prog w) A (Builtin.«issubclass.nested» ⟨[.type T,.type T,k],[]⟩) Q E s:=by
 subst hk
 repeat (any_goals (first | assumption | (rw [if_pos hm]) | (rw [hs]) | wp_step))
theorem itu {k:Value} {dep:Int} {tk:Tok} {a:Addr} {n:Nat} {Q:Fin→Shared→Prop} (hk:k= .int dep tk) (hd: ¬dep≥Builtins.nestingLimit) (ht:s.heap.get? a=some {cls:= .type "tuple",data:= .seq #[.type "str",.type "bytes"] n}) (hq:Q (.done (.ret (.bool true))) s):
  wpAny (model prog w) A (Builtin.«issubclass.nested» ⟨[.type "str",.ref a,k],[]⟩) Q E s:=by
 subst hk
 have hT:s.TypeIs (.ref a) "tuple":=⟨_,ht,rfl⟩
 unfold Builtin.«issubclass.nested»
 dsimp only
 refine wpAny_bind (wpAny_typeOf hT ?_)
 refine wpAny_bind (m:=Builtins.unionMembers (.ref a)) ?_
 unfold Builtins.unionMembers
 refine wpAny_bind (wpAny_typeOf hT ?_)
 refine wpAny_pure ?_
 refine wpAny_bind (wpAny_isInstance hT KPt.sub_tt ?_)
 rw [if_pos rfl,if_neg hd]
 refine wpAny_bind (wpAny_seqItems ht rfl ?_)
 have hsub:isSubtype (.type "str") (.type "str")=pure true:=by rw [isSubtype_type];kernel_rfl
 have hm:typeOf (.type "str")=pure (.type "type"):=by rfl
 have step: ∀(c:Value) (Q':Value→Shared→Prop),c= .type "str"→Q' (.bool true) s→wpAny (model prog w) A (call (.builtin "issubclass.nested") [.type "str",c,rawInt (dep+1)]) Q' E s:=fun c Q' hc h=>by
  subst hc
  refine call_function_entry (by decide+kernel) (by decide+kernel) F.entry_issubclass_nested (by unfold argsOk;kernel_rfl) ?_
  exact iss rfl hm hsub ⟨_,rfl,h⟩
 refine wpAny_bind ?_
 show wpAny _ _ (forIn (#[Value.type "str",Value.type "bytes"]:Array Value) _ _) _ _ _
 rw [←Array.forIn_toList,List.forIn_cons]
 refine wpAny_bind (wpAny_bind (step _ _ rfl ?_))
 refine wpAny_bind (wpAny_truthy_bool ?_)
 rw [if_pos rfl]
 refine wpAny_bind (wpAny_pure (wpAny_pure (wpAny_pure ?_)))
 exact wpAny_pure hq
theorem cit {a:Addr} {n:Nat} {Q:Value→Shared→Prop} (ht:s.heap.get? a=some {cls:= .type "tuple",data:= .seq #[.type "str",.type "bytes"] n}) (hq:Q (.bool true) s):
  wpAny (model prog w) A (call (.builtin "issubclass") [.type "str",.ref a]) Q E s:=
 call_issubclass (S:=fun u R s=>s.heap.get? a=some {cls:= .type "tuple",data:= .seq #[.type "str",.type "bytes"] n}∧R (.ok (.ret (.bool true))) s) (fun u v g m q hs=>issubclass_outer (itu rfl (by decide) hs.1 hs.2)) ⟨ht,hq⟩
end
section
variable {C:Cx} {k:Nat} {sc:Scope} {A:Around} {W:Wd} {env:Env} {ms ms₁ ms₂ ms₃ ms':List (Option AV)} {σ σ₁ σ₂ σ₃ σ':St} {s:Shared}
theorem Vty {n m:String} {vs:List Value} (h:VRe W [.ty n,.ty m] vs):vs= [.type n,.type m]:=by
 obtain⟨a,b,rfl,q1,q2⟩:=Vt h
 unfold VR at q1 q2;subst q1;subst q2;rfl
theorem Cis:Ca C k σ (.bi "issubclass") [.ty "str",.tup [.ty "str",.ty "bytes"]] [] (.bool true) σ:=by
 intro W rf ras rkw hf ha hk
 unfold VR at hf;subst hf
 unfold KR at hk;subst hk
 obtain⟨r,u,rfl,q,q'⟩:=Vt ha
 unfold VR at q;subst q
 refine Op.look fun A s Q hr I hq=> ?_
 obtain⟨la,vs,n,rfl,hl,ks⟩:=q'.isTup I
 have:=Vty ks
 subst this
 exact cit hl (hq _ _ Vb)
theorem Cty {v:AV} {T:String} (h:TAt C σ v T) (hn:(Value.type T==Value.type "builtin_function_or_method")=false):Ca C k σ (.ty "type") [v] [] (.ty T) σ:=by
 intro W rf ras rkw hf ha hk
 unfold VR at hf;subst hf
 unfold KR at hk;subst hk
 obtain⟨r,rfl,q⟩:=Vo ha
 exact Op.look fun A s Q hr I hq=>call_type_of (h _ _ _ I q) hn (hq _ _ (by unfold VR;rfl))
theorem Ci {x:Str}:Ca C k σ (.bi "isinstance") [.str x,.ty "bytes"] [] (.bool false) σ:=by
 intro W rf ras rkw hf ha hk
 unfold VR at hf;subst hf
 unfold KR at hk;subst hk
 obtain⟨r,u,rfl,q,q'⟩:=Vt ha
 unfold VR at q q';subst q';obtain⟨t,rfl⟩:=q
 exact Op.look fun A s Q hr I hq=>IsiPair.str_bytes (hq _ _ Vb)
theorem tis {n m:String} {c:Bool} (h:(Value.type n==Value.type m)=c) (hp:plainIs (.type n) (.type m)=true):Op2 C k σ (compareOp .Is) (.ty n) (.ty m) (fun W r=>VR W (.bool c) r) σ:=by
 intro W ra rb qa qb
 unfold VR at qa qb;subst qa;subst qb
 exact Op.look fun A s Q hr I hq=>wpAny_is_plain hp (hq _ _ (h▸Vb))
theorem tNo {n m:String} {c:Bool} (h:(!(Value.type n==Value.type m))=c) (hp:plainIs (.type n) (.type m)=true):Op2 C k σ (compareOp .IsNot) (.ty n) (.ty m) (fun W r=>VR W (.bool c) r) σ:=by
 intro W ra rb qa qb
 unfold VR at qa qb;subst qa;subst qb
 exact Op.look fun A s Q hr I hq=>wpAny_isNot_plain hp (hq _ _ (h▸Vb))
noncomputable def dictOf (o:Option Obj):Array DictEntry:=match o with
 | some ⟨_,_,.dict es _,_⟩=>es
 | _=> #[]
theorem mg_of (O:C.Ok) {o:Obj} {es:Array DictEntry} {n:Nat} (hk:C.K.lookup mainGlobals=some o) (hd:o.data= .dict es n) (x:Str):C.mg x=nsFind es x:=by
 obtain⟨o',es',n',h1,h2,_,h3⟩:=O.g
 have:=O.kin _ _ hk
 rw [h1]at this
 obtain rfl:=Option.some.inj this
 rw [hd]at h2
 cases h2
 exact(h3 x).symm
theorem Ge {x:Str} {a:Addr} (hd:(x==("__debug__":Str))=false) (h:C.mg x=some (.ref a)):Glob C x (.ext a):=⟨hd,_,.inl h,fun W=>by unfold VR;rfl⟩
theorem Gi {x:Str} {i:Int} {t:Tok} (hd:(x==("__debug__":Str))=false) (h:C.mg x=some (.int i t)):Glob C x (.int i):=⟨hd,_,.inl h,fun W=>Vi⟩
theorem Gb {x:Str} {n:String} (O:C.Ok) (hd:(x==("__debug__":Str))=false) (h:C.mg x=none) (hn:(x==("__name__":Str))=false) (hb:bootBuiltins x=some (.builtin n)):Glob C x (.bi n):=
 ⟨hd,_,.inr ⟨h,(O.boot x (fun e=>by rw [e]at hn;simp at hn)).trans hb⟩,fun W=>by unfold VR;rfl⟩
theorem Gl {x:Str} {n:String} (O:C.Ok) (hd:(x==("__debug__":Str))=false) (h:C.mg x=none) (hn:(x==("__name__":Str))=false) (hb:bootBuiltins x=some (.type n)):Glob C x (.ty n):=
 ⟨hd,_,.inr ⟨h,(O.boot x (fun e=>by rw [e]at hn;simp at hn)).trans hb⟩,fun W=>by unfold VR;rfl⟩
noncomputable def Go (C:Cx) (k:Nat) (sc:Scope) (ms:List (Option AV)) (σ:St) (ss:List Stmt) (f:AF) (σ':St):Prop:= ∃ms',Ex C k sc ms σ ss f ms' σ'
theorem Gco {st:Stmt} {rest:List Stmt} {f:AF} (h1:X1 C k sc ms σ st .next ms₁ σ₁) (h2:Go C k sc ms₁ σ₁ rest f σ'):Go C k sc ms σ (st::rest) f σ':=let ⟨_,h⟩:=h2;⟨_,Eca h1 h⟩
theorem Gs {st:Stmt} {rest:List Stmt} {f:AF} (h1:X1 C k sc ms σ st f ms' σ') (hf:f≠ .next):Go C k sc ms σ (st::rest) f σ':=⟨_,Est h1 hf⟩
theorem Gn:Go C k sc ms σ [] .next σ:=⟨_,Eni⟩
theorem Gre {e:Expr} {pos:Pos} {rest:List Stmt} {v:AV} (h:Ev C k sc ms σ e v ms' σ'):Go C k sc ms σ (.Return (some e) pos::rest) (.ret v) σ':=⟨_,Er h⟩
theorem GoT {test:Expr} {x y rest:List Stmt} {pos:Pos} {f:AF} (h1:Tv C k sc ms σ test true ms₁ σ₁) (h2:Go C k sc ms₁ σ₁ (x++rest) f σ'):Go C k sc ms σ (.If test x y pos::rest) f σ':=let ⟨_,h⟩:=h2;⟨_,EIT h1 h⟩
theorem GF {test:Expr} {x y rest:List Stmt} {pos:Pos} {f:AF} (h1:Tv C k sc ms σ test false ms₁ σ₁) (h2:Go C k sc ms₁ σ₁ (y++rest) f σ'):Go C k sc ms σ (.If test x y pos::rest) f σ':=let ⟨_,h⟩:=h2;⟨_,EIF h1 h⟩
theorem ogo {body:List Stmt} {f:AF} {v:AV} {ms} {σf:St} (h1:Go C k sc ms σ₁ body f σf) (h2:Exit σ σf f v σ'): ∃f ms' σf,Ex C k sc ms σ₁ body f ms' σf∧Exit σ σf f v σ':=let ⟨_,h⟩:=h1;⟨_,_,_,h,h2⟩
theorem opu {body:List Stmt} {v:AV} {ms} (hv:v.Pur) (h1:Go C k sc ms σ body (.ret v) σ): ∃f ms' σf,Ex C k sc ms σ body f ms' σf∧Exit σ σf f v σ:=ogo h1 (Esa (hv _))
theorem ou {body:List Stmt} {x:Str} {ms} (h1:Go C k sc ms σ body (.ret (.str x)) σ): ∃f ms' σf,Ex C k sc ms σ body f ms' σf∧Exit σ σf f (.str x) σ:=opu Pst h1
theorem obo {body:List Stmt} {x:Bool} {ms} (h1:Go C k sc ms σ body (.ret (.bool x)) σ): ∃f ms' σf,Ex C k sc ms σ body f ms' σf∧Exit σ σf f (.bool x) σ:=opu (fun u=>trivial) h1
theorem otu {body:List Stmt} {xs:List AV} {ms} (hv:AV.Pb xs) (h1:Go C k sc ms σ body (.ret (.tup xs)) σ): ∃f ms' σf,Ex C k sc ms σ body f ms' σf∧Exit σ σf f (.tup xs) σ:=opu (Ptu hv) h1
theorem ols {body:List Stmt} {xs:List AV} {ms} (hv:AV.Pb xs) (h1:Go C k sc ms σ body (.ret (.lst xs)) σ): ∃f ms' σf,Ex C k sc ms σ body f ms' σf∧Exit σ σf f (.lst xs) σ:=opu (Pls hv) h1
noncomputable def Bv (C:Cx) (k:Nat) (sc:Scope) (ms:List (Option AV)) (σ:St) (pos:Pos) (op:BoolOp) (es:List Expr) (v:AV) (ms':List (Option AV)) (σ':St):Prop:=
 Tr C k sc ms σ (fun env=>boolOp pos op (evalEach es env)) (fun W r=>VR W v r) ms' σ'
theorem EOp {op:BoolOp} {es:List Expr} {pos:Pos} {v:AV} (h:Bv C k sc ms σ pos op es v ms' σ'):Ev C k sc ms σ (.BoolOp op es pos) v ms' σ':=h
theorem Bla {op:BoolOp} {e:Expr} {pos:Pos} {v:AV} (h:Ev C k sc ms σ e v ms' σ'):Bv C k sc ms σ pos op [e] v ms' σ':=h
theorem Bor {e e2:Expr} {rest:List Expr} {pos:Pos} {u v:AV} (h1:Ev C k sc ms σ e u ms₁ σ₁) (h2:Op1 C k σ₁ truthy u (fun w r=>r=false) σ₂) (h3:Bv C k sc ms₁ σ₂ pos .Or (e2::rest) v ms' σ'):Bv C k sc ms σ pos .Or (e::e2::rest) v ms' σ':=by
 intro A W env s hr H
 show wpAny C.M A (do
  let v←eval e env
  standAt pos
  let t←holding [v] (truthy v)
  match BoolOp.Or,t with
  | .And,false | .Or,true=>pure v
  | _,_=>boolOp pos .Or (evalEach (e2::rest) env)) _ _ _
 refine pbi (h1 A W env s hr H) fun W₁ r s₁ le₁ H₁ q=>wpAny_bind (wpAny_standAt (wpAny_bind (wpAny_holding ?_)))
 refine Op.in rfl (h2 _ r (q.mono (ale H₁.fr))) hr H₁ fun W₂ b s₂ le₂ H₂ qb w g=> ?_
 subst qb
 exact pg (h3 A _ env s₂ hr H₂) fun W₃ r s₃ le₃ H₃ q=>ph ((le₁.trans le₂).trans le₃) H₃ q
theorem Bo {e e2:Expr} {rest:List Expr} {pos:Pos} {u:AV} (h1:Ev C k sc ms σ e u ms₁ σ₁) (h2:Op1 C k σ₁ truthy u (fun w r=>r=true) σ₂):Bv C k sc ms σ pos .Or (e::e2::rest) u ms₁ σ₂:=by
 intro A W env s hr H
 show wpAny C.M A (do
  let v←eval e env
  standAt pos
  let t←holding [v] (truthy v)
  match BoolOp.Or,t with
  | .And,false | .Or,true=>pure v
  | _,_=>boolOp pos .Or (evalEach (e2::rest) env)) _ _ _
 refine pbi (h1 A W env s hr H) fun W₁ r s₁ le₁ H₁ q=>wpAny_bind (wpAny_standAt (wpAny_bind (wpAny_holding ?_)))
 refine Op.in rfl (h2 _ r (q.mono (ale H₁.fr))) hr H₁ fun W₂ b s₂ le₂ H₂ qb w g=> ?_
 subst qb
 exact wpAny_pure (ph (le₁.trans le₂) H₂ (q.mono le₂))
end
end V
end
section
namespace V
open Builtin Builtin.Str
section
variable {C:Cx} {k:Nat} {sc:Scope} {A:Around} {W:Wd} {env:Env} {ms ms₁ ms₂ ms₃ ms':List (Option AV)} {σ σ₁ σ₂ σ₃ σ':St} {s:Shared}
theorem Bf {x:Str} {n:Nat} (h1:B x n) (h3:decide (n≤16777216)=true):x.length≤sizeLine:=Nat.le_trans h1 (sizeLine_eq▸of_decide_eq_true h3)
theorem ClS {x:Str} {n:Nat} (h1:B x n) (h3:decide (n≤16777216)=true):Ca C k σ (.bi "len") [.str x] [] (.int x.length) σ:=CSt (Bf h1 h3)
theorem Cr' {x y:Str} {n:Nat} (h1:B x n) (h3:decide (n≤16777216)=true):Ca C k σ (.bi "str.rstrip") [.str x,.str y] [] (.str (Txt.rstripChars x y)) σ:=Crs (Bf h1 h3)
theorem smL {x y:Str} {a b:Nat} (h1:B x a) (h2:B y b) (h3:decide (a≤1000)=true) (h4:decide (b≤1000)=true):Op2 C k σ (binaryOp .Mult) (.str x) (.int y.length) (fun W r=>VR W (.str (Txt.mul x y.length)) r) σ:=
 sma (by have:=of_decide_eq_true h4;unfold B at h2;omega) (by omega) (Nat.le_trans h1 (of_decide_eq_true h3))
theorem VRs: ∀(l:List (Str×Tok)),VRe W ((l.map (·.1)).map .str) (strValues l)
 | []=> .nil
 | (x,t)::l=> .cons Vs (VRs l)
theorem Csp {x y:Str} {n:Nat} {ys:List AV} (hy:(y.length==0)=false) (hx:B x n) (hn:decide (n≤16777216)=true) (hs:(partsBetween x (occurrences x y 0 x.length (x.length+1)) y.length).length≤sizeLine) (he:(Txt.split x y).map .str=ys):
  Ca C k σ (.bi "str.split") [.str x,.str y] [] (.lst ys) σ:=by
 subst he
 intro W rf ras rkw hf ha hk A s outer hr hA hS I
 unfold VR at hf;subst hf
 unfold KR at hk;subst hk
 obtain⟨r,r',rfl,q,q'⟩:=Vt ha
 unfold VR at q q';obtain⟨t,rfl⟩:=q;obtain⟨u,rfl⟩:=q'
 have hz:=Bf hx hn
 have one: ∀{ys:List Str},ys= [x]→ ∃W',W.le W'∧Inv C W' σ {s with heap:=s.heap.push {cls:= .type "list",data:= .seq #[.str x t]}}∧VR W' (.lst (ys.map .str)) (.ref s.heap.objs.size):=fun e=>by
  subst e
  exact I.puL (xs:= [.str x]) (vs:= [.str x t]) (.cons Vs .nil) (Nat.le_refl _)
 cases h1:(decide (x.length<y.length) || decide (strKind x<strKind y))
 ·cases hf:(occurrences x y 0 x.length (x.length+1)).isEmpty
  ·refine call_meets F.slot_str_split (typeIs_str _ _ _) F.entry_str_split (F.args_str_split_2 _ _) (meets_str_split_sep x y t u h1 hy hf hz hs) ?_
   have e:Txt.split x y=partsBetween x (occurrences x y 0 x.length (x.length+1)) y.length:=(if_neg (ne_true_of_eq_false h1)).trans (if_neg (ne_true_of_eq_false hf))
   rw [strsFrom_eq]
   have hv:=VRs (W:=W) (numbered s.toks (partsBetween x (occurrences x y 0 x.length (x.length+1)) y.length))
   rw [numbered_texts,←e]at hv
   obtain⟨W',le,I',q⟩:=I.puL hv (tk:=s.toks+(partsBetween x (occurrences x y 0 x.length (x.length+1)) y.length).length) (Nat.le_add_right _ _)
   rw [e]at I' q⊢
   exact⟨W',le,I',q⟩
  ·exact call_meets F.slot_str_split (typeIs_str _ _ _) F.entry_str_split (F.args_str_split_2 _ _) (meets_str_split_not_found x y t u h1 hy hf) (one ((if_neg (ne_true_of_eq_false h1)).trans (if_pos hf)))
 ·exact call_meets F.slot_str_split (typeIs_str _ _ _) F.entry_str_split (F.args_str_split_2 _ _) (meets_str_split_cannot_occur x y t u h1) (one (if_pos h1))
theorem sof: ∀{xs:List Str} {vs:List Value},VRe W (xs.map .str) vs→ ∃l:List (Str×Tok),vs=strValues l∧l.map (·.1)=xs
 | [],vs,h=>by rw [List.map_nil]at h;unfold VRe at h;subst h;exact⟨[],rfl,rfl⟩
 | x::xs,vs,h=>by
  rw [List.map_cons]at h
  obtain⟨v,r,rfl,q,h⟩:=h
  obtain⟨t,rfl⟩:=q
  obtain⟨l,rfl,e⟩:=sof h
  exact⟨(x,t)::l,rfl,by rw [List.map_cons,e]⟩
theorem Cj {x:Str} {v:AV} {xs:List Str} (h:IsL σ v (xs.map .str)) (hok:JoinOk x xs=true):Ca C k σ (.bi "str.join") [.str x,v] [] (.str (Txt.join x xs)) σ:=by
 intro W rf ras rkw hf ha hk
 unfold VR at hf;subst hf
 unfold KR at hk;subst hk
 obtain⟨r,r',rfl,q,q'⟩:=Vt ha
 unfold VR at q;obtain⟨t,rfl⟩:=q
 refine Op.look fun A s Q hr I hq=> ?_
 obtain⟨la,vs,rfl,hl,ks⟩:=h.list q' I
 obtain⟨l,rfl,e⟩:=sof ks
 exact SC.join hl e hok fun t' k=>hq _ _ Vs
theorem odr {body:List Stmt} {v:AV} {ms} {l:Loc} {o:AO} (hl:σ l=none) (hv:v.Pur) (h1:Go C k sc ms σ body (.ret v) (σ.set l o)): ∃f ms' σf,Ex C k sc ms σ body f ms' σf∧Exit σ σf f v σ:=
 ogo h1 ⟨ssu hl,fun u e=>e,fun u w e=> .inl e,.inl ⟨rfl,hv _⟩⟩
theorem set_same {l:Loc} {o:AO}:(σ.set l o) l=some o:=by unfold St.set;rw [if_pos rfl]
theorem set_set {l:Loc} {o o':AO}:(σ.set l o).set l o'=σ.set l o':=by funext x;unfold St.set;split<;>rfl
theorem sot {l l':Loc} {o:AO} (h:l'≠l):(σ.set l o) l'=σ l':=by unfold St.set;rw [if_neg h]
theorem Br {fd:FuncData} {as rest:List AV} {bs:List (Str×AV)} {x:Str} (h: ∀ras:List Value,ras.length=as.length→ ∀rr:List Value,rr.length=rest.length→bindArgs fd ⟨ras++rr,[]⟩=(do let t←newTuple rr;pure ((bs.map (·.1)).zip ras++ [(x,t)]))) (hb:bs.map (·.2)=as) (hz:rest.length≤sizeLine):
  Bd C k fd σ (as++rest) [] (bs++ [(x,.tup rest)]) σ:=by
 intro W ras rkw ha hk A s outer hr hA hS I
 unfold KR at hk;subst hk
 have cut: ∀{as:List AV} {vs:List Value},VRe W (as++rest) vs→ ∃v1 v2,vs=v1++v2∧VRe W as v1∧VRe W rest v2:=by
  intro as
  induction as with
  | nil=>intro vs h;exact⟨[],vs,rfl,.nil,h⟩
  | cons y ys ih=>
   intro vs h
   rw [List.cons_append]at h
   obtain⟨v,r,rfl,q,h⟩:=h
   obtain⟨v1,v2,rfl,h1,h2⟩:=ih h
   exact⟨v::v1,v2,rfl,.cons q h1,h2⟩
 obtain⟨v1,v2,rfl,h1,h2⟩:=cut ha
 rw [h v1 h1.length v2 h2.length]
 refine wpAny_bind (wpAny_mono (OnT (k:=k) h2 hz A s outer hr hA hS I) (fun r s' ⟨W',le,I',q⟩=>wpAny_pure ⟨W',le,I',?_⟩) fun u w x=>x)
 have kz:=Kz (W:=W') (vs:=bs) (by rw [hb];exact h1.mono le)
 have app: ∀{bs:List (Str×AV)} {ks:List (Str×Value)},KR W' bs ks→KR W' (bs++ [(x,.tup rest)]) (ks++ [(x,r)]):=by
  intro bs
  induction bs with
  | nil=>intro ks h;unfold KR at h;subst h;exact⟨r,[],rfl,q,rfl⟩
  | cons b bs ih=>
   intro ks h
   obtain⟨n,y⟩:=b
   obtain⟨v,ks',rfl,a,b⟩:=h
   exact⟨v,ks'++ [(x,r)],rfl,a,ih b⟩
 exact app kz
end
end V
end
section
namespace V
open Builtin Builtin.Str
section
variable {C:Cx} {k:Nat} {sc:Scope} {A:Around} {W:Wd} {env:Env} {ms ms₁ ms₂ ms₃ ms':List (Option AV)} {σ σ₁ σ₂ σ₃ σ':St} {s:Shared}
noncomputable def Turn (C:Cx) (k:Nat) (sc:Scope) (tgt:Expr) (body:List Stmt) (x:AV) (ms:List (Option AV)) (σ:St) (ms':List (Option AV)) (σ':St):Prop:=
 ∃ms₁ σ₁ f₁,As C k sc ms σ tgt x ms₁ σ₁∧Ex C k sc ms₁ σ₁ body f₁ ms' σ'∧(f₁= .next∨f₁= .cont)
theorem Tu {tgt:Expr} {body:List Stmt} {x:AV} (ha:As C k sc ms σ tgt x ms₁ σ₁) (hx:Ex C k sc ms₁ σ₁ body .next ms' σ'):Turn C k sc tgt body x ms σ ms' σ':=⟨_,_,_,ha,hx,.inl rfl⟩
theorem Tco {tgt:Expr} {body:List Stmt} {x:AV} (ha:As C k sc ms σ tgt x ms₁ σ₁) (hx:Ex C k sc ms₁ σ₁ body .cont ms' σ'):Turn C k sc tgt body x ms σ ms' σ':=⟨_,_,_,ha,hx,.inr rfl⟩
theorem Lf {α S:Type} {enc:α→AV} {M:S→List (Option AV)} {Sg:S→St} {step:S→α→S} {P:S→List α→Prop} {ok:St→Prop} {tgt:Expr} {body:List Stmt} (hok: ∀s xs,P s xs→ok (Sg s)) (hp: ∀s x xs,P s (x::xs)→P (step s x) xs)
  (h: ∀s x xs,P s (x::xs)→Turn C k sc tgt body (enc x) (M s) (Sg s) (M (step s x)) (Sg (step s x))): ∀(xs:List α) (s:S),P s xs→Lr C k sc ok tgt body (xs.map enc) (M s) (Sg s) .next (M (xs.foldl step s)) (Sg (xs.foldl step s))
 | [],s,hs=> .nil (hok s [] hs)
 | x::xs,s,hs=>by
  obtain⟨ms₁,σ₁,f₁,ha,hx,hf⟩:=h s x xs hs
  exact .cons (hok s _ hs) ha hx hf (Lf hok hp h xs (step s x) (hp s x xs hs))
theorem GFo {tgt iter:Expr} {body rest:List Stmt} {pos:Pos} {v:AV} {ok:St→Prop} {xs:List AV} {src:AV} {Sh:Nat→Value→Obj→Prop} {f:AF} (h1:Ev C k sc ms σ iter v ms₁ σ₁) (I:Itr C k ok v xs src Sh) (hok:ok σ₁) (L:Lr C k sc ok tgt body xs ms₁ σ₁ .next ms₂ σ₂)
  (hs: ∀env x,foldedSetIterable iter env x=pure x) (h2:Go C k sc ms₂ σ₂ rest f σ'):Go C k sc ms σ (.For tgt iter body [] pos::rest) f σ':=Gco (XF (f:= .next) h1 I hok L hs) h2
theorem Ma {l:Loc} {xs:List AV}:Mt C k (σ.set l (.list xs)) (.loc l) "append" (.bi "list.append"):=Map set_same
theorem Ca' {l:Loc} {xs:List AV} {x:AV} (hz:xs.length≤sizeLine):Ca C k (σ.set l (.list xs)) (.bi "list.append") [.loc l,x] [] .none (σ.set l (.list (xs++ [x]))):=by
 have:=Cap (C:=C) (k:=k) (σ:=σ.set l (.list xs)) (x:=x) set_same hz
 rwa [set_set]at this
theorem Mp' {l:Loc} {xs:List AV}:Mt C k (σ.set l (.list xs)) (.loc l) "pop" (.bi "list.pop"):=Mp set_same
theorem Cp' {l:Loc} {xs:List AV} {x:AV} (hz:xs.length+1≤sizeLine):Ca C k (σ.set l (.list (xs++ [x]))) (.bi "list.pop") [.loc l] [] x (σ.set l (.list xs)):=by
 have:=Cp (C:=C) (k:=k) (σ:=σ.set l (.list (xs++ [x]))) set_same hz
 rwa [set_set]at this
theorem Lt' {l:Loc} {xs:List AV} {c:Bool} (hz:xs.length≤sizeLine) (hc:(!xs.isEmpty)=c):Op1 C k (σ.set l (.list xs)) truthy (.loc l) (fun u r=>r=c) (σ.set l (.list xs)):=Ltr (.loc set_same) hz hc
theorem LiN {l:Loc} {xs:List AV} {i:Int} {x:AV} (h0:i<0) (h1: -(xs.length:Int)≤i) (h2: -1000000≤i) (hx:xs[(i+xs.length).toNat]? =some x):Op2 C k (σ.set l (.list xs)) getItem (.loc l) (.int i) (fun W r=>VR W x r) (σ.set l (.list xs)):=Li (.loc set_same) h0 h1 h2 hx
theorem BL {v:AV} {xs:List AV} (h:IsL σ v xs):Bg C σ v:=fun W s ro I q=>by
 intro A Q E s' hk hq
 obtain⟨la,vs,n,rfl,hl,ks⟩:=h.is q I
 have hT:s'.TypeIs (.ref la) "list":=⟨_,hk _ _ hl,rfl⟩
 rw [getitemInPython_of_ne hT.not_modules]
 exact wpAny_bind (wpAny_specialOf hT F.slot_list_getitem.lookup (wpAny_pure hq))
end
end V
end
section
namespace V
open Builtin Builtin.Str
section
variable {C:Cx} {k:Nat} {sc:Scope} {A:Around} {W:Wd} {env:Env} {ms ms₁ ms₂ ms₃ ms':List (Option AV)} {σ σ₁ σ₂ σ₃ σ':St} {s:Shared}
theorem fle (g:Nat): ∀(xs:List Str) (a:Nat),(∀y∈xs,y.length≤1000)→xs.foldl (fun n y=>n+y.length+g) a≤a+xs.length * (1000+g)
 | [],a,_=>by simp
 | x::xs,a,h=>by
  rw [List.foldl_cons,List.length_cons,Nat.succ_mul]
  have:=fle g xs (a+x.length+g) (fun y hy=>h y (.tail _ hy))
  have:=h x (.head _)
  omega
theorem Jo {x:Str} {xs:List Str} (hx:x.length≤10) (h: ∀y∈xs,y.length≤1000) (hl:xs.length≤1000):JoinOk x xs=true:=by
 unfold JoinOk tooLong
 rw [sizeLine_eq]
 have e:xs.toArray.foldl (fun n y=>n+y.length+x.length) 0≤0+xs.length * (1000+x.length):=by
  rw [←Array.foldl_toList];exact fle x.length xs 0 h
 have:xs.length * (1000+x.length)≤1000 * 1010:=Nat.mul_le_mul hl (by omega)
 rw [Bool.not_eq_true']
 exact decide_eq_false (by omega)
theorem glu (g:Array Nat): ∀(xs:List Str) (a:Array Nat),(xs.foldl (fun acc (p:Str)=>acc++g++p.cps) a).size=xs.foldl (fun n (p:Str)=>n+p.length+g.size) a.size
 | [],a=>rfl
 | x::xs,a=>by
  rw [List.foldl_cons,List.foldl_cons,glu g xs]
  congr 1
  rw [Array.size_append,Array.size_append]
  show _+_+x.length=_
  omega
theorem Bj {x:Str} {xs:List Str} (hx:x.length≤10) (h: ∀y∈xs,y.length≤1000) (hl:xs.length≤1000):B (Txt.join x xs) 1100000:=by
 unfold B Txt.join glued
 show((xs.drop 1).foldl (fun acc p=>acc++x.cps++p.cps) (xs.headD Str.empty).cps).size≤_
 rw [glu]
 have h1:=fle x.cps.size (xs.drop 1) (xs.headD Str.empty).cps.size (fun y hy=>h y (List.mem_of_mem_drop hy))
 have h2:(xs.headD Str.empty).cps.size≤1000:=by
  cases xs with
  | nil=>exact Nat.zero_le _
  | cons y ys=>exact h y (.head _)
 have h3:(xs.drop 1).length≤1000:=by rw [List.length_drop];omega
 have h4:(xs.drop 1).length * (1000+x.cps.size)≤1000 * 1010:=Nat.mul_le_mul h3 (by have:x.cps.size≤10:=hx;omega)
 omega
theorem split_len {x y:Str} {n:Nat} (h:B x n):(Txt.split x y).length≤n+2∧ ∀z∈Txt.split x y,z.length≤n:=by
 unfold B at h
 unfold Txt.split
 split
 ·exact⟨by simp,fun z hz=>by simp at hz;subst hz;exact h⟩
 ·split
  ·exact⟨by simp,fun z hz=>by simp at hz;subst hz;exact h⟩
  ·refine⟨?_,fun z hz=> ?_⟩
   ·rw [len_partsBetween]
    have:=StrLaws.occ_length_le x y 0 x.length (x.length+1)
    omega
   ·unfold partsBetween at hz
    obtain⟨⟨i,j⟩,_,rfl⟩:=List.mem_map.mp hz
    exact Nat.le_trans (len_strSub x i j) h
theorem pfi {x y:Str} {n:Nat} (h:B x n) (hn:decide (n≤1000)=true):(partsBetween x (occurrences x y 0 x.length (x.length+1)) y.length).length≤sizeLine:=by
 have:=of_decide_eq_true hn
 unfold B at h
 rw [len_partsBetween,sizeLine_eq]
 have:=StrLaws.occ_length_le x y 0 x.length (x.length+1)
 omega
theorem lof {n m:Nat} (h:n≤m) (hm:decide (m≤16777216)=true):n≤sizeLine:=Nat.le_trans h (sizeLine_eq▸of_decide_eq_true hm)
theorem lai {xs:List AV} {x:AV}:(xs++ [x])[((-1:Int)+((xs++ [x]).length:Int)).toNat]? =some x:=by
 have e:((-1:Int)+((xs++ [x]).length:Int)).toNat=xs.length:=by rw [List.length_append,List.length_singleton];omega
 rw [e];simp
end
noncomputable def nst (acc:List Str) (c:Str):List Str:=
 if((c.length:Int) !=0)=false then acc
 else if(c==Str.ofString ".")=true then acc
 else if(c !=Str.ofString "..")=true then acc++ [c]
 else if acc.isEmpty=true then acc
 else if((acc.getLast?.getD Str.empty)==Str.ofString "..")=true then acc++ [c]
 else acc.dropLast
theorem nsa (acc:List Str) (c:Str):(nst acc c).length≤acc.length+1∧ ∀z∈nst acc c,z∈acc∨z=c:=by
 unfold nst
 repeat' split
 all_goals first
  | exact⟨Nat.le_succ _,fun z hz=> .inl hz⟩
  | exact⟨by simp,fun z hz=>by simpa using hz⟩
  | exact⟨by rw [List.length_dropLast];omega,fun z hz=> .inl (List.dropLast_subset _ hz)⟩
theorem nsu: ∀(cs acc:List Str),(cs.foldl nst acc).length≤acc.length+cs.length∧ ∀z∈cs.foldl nst acc,z∈acc∨z∈cs
 | [],acc=>⟨by simp,fun z hz=> .inl hz⟩
 | c::cs,acc=>by
  rw [List.foldl_cons]
  obtain⟨h1,h2⟩:=nsu cs (nst acc c)
  obtain⟨h3,h4⟩:=nsa acc c
  refine⟨by rw [List.length_cons];omega,fun z hz=> ?_⟩
  rcases h2 z hz with h | h
  ·rcases h4 z h with h | rfl
   ·exact .inl h
   ·exact .inr (.head _)
  ·exact .inr (.tail _ h)
noncomputable def normp (p:Str):Str:=Str.ofString "/"++Txt.join (Str.ofString "/") ((Txt.split (Txt.slice p (some 1) none) (Str.ofString "/")).foldl nst [])
end V
end
section
namespace V
open Builtin Builtin.Str Builtin.Re
theorem ano {m:Sre.M} {ok:Nat→Bool} (hset: ∀c,ok c=true→ ∀seen,∃seen',Sre.inSet m.code c m.code.size 5 true seen= .ok (false,seen')):
  ∀(fuel s:Nat) (seen:Sre.Seen),(∀i,i<m.lim→ok (m.text.getD i 0)=true)→ ∃seen',Sre.M.admitted m fuel s seen= .ok (none,seen')
 | 0,s,seen,_=>⟨seen,rfl⟩
 | fuel+1,s,seen,h=>by
  unfold Sre.M.admitted
  by_cases hs:s≥m.lim
  ·rw [if_pos hs];exact⟨seen,rfl⟩
  ·rw [if_neg hs]
   obtain⟨seen',e⟩:=hset _ (h s (by omega)) seen
   rw [e]
   exact ano hset fuel (s+1) seen' h
theorem atn {m:Sre.M} {s:Nat} {first:Bool} {seen':Sre.Seen} (h1:m.hasFirstSet=true) (h2:Sre.M.admitted m (m.lim+1 - s) s m.seen= .ok (none,seen')):m.attemptFrom s first=({m with seen:=seen'}:Sre.M).say false:=by
 unfold Sre.M.attemptFrom
 rw [h1,h2]
 rfl
theorem fSn {code text:Array Nat} {ok:Nat→Bool} (hset: ∀c,ok c=true→ ∀seen,∃seen',Sre.inSet code c code.size 5 true seen= .ok (false,seen')) (ht: ∀i,i<text.size→ok (text.getD i 0)=true)
  (h0:Sre.ops[code.getD 0 0]? =some .INFO) (h2:code.getD 2 0=4): ∃m:Sre.M,Sre.forSearch code text 0 0 text.size false=m∧m.answer=some false∧m.frames= []∧m.outcome=none:=by
 have go: ∀m:Sre.M,m.code=code→m.text=text→m.lim=text.size→m.frames= []→m.outcome=none→ ∃m',m.attemptFrom 0 true=m'∧m'.answer=some false∧m'.frames= []∧m'.outcome=none:=fun m e1 e2 e3 e4 e5=>by
  have f:m.hasFirstSet=true:=by unfold Sre.M.hasFirstSet;rw [e1,h0,h2];rfl
  obtain⟨seen',e⟩:=ano (m:=m) (ok:=ok) (by rw [e1];exact hset) (m.lim+1 - 0) 0 m.seen (fun i hi=>by rw [e2];exact ht i (by rw [←e3];exact hi))
  exact⟨_,atn f e,rfl,e4,e5⟩
 unfold Sre.forSearch
 dsimp only
 split
 ·exact⟨_,rfl,rfl,rfl,rfl⟩
 ·exact go _ rfl rfl rfl rfl rfl
theorem ddo {m:Sre.M} (h1:m.answer=some false) (h2:m.frames= []) (h3:m.outcome=none):(m.runFor 4).outcome=some .failed:=by
 have e:m.step={m with outcome:=some .failed}:=by
  unfold Sre.M.step
  rw [h3,h1,h2]
  rfl
 have z: ∀n (m:Sre.M),m.outcome=some .failed→(m.runFor n).outcome=some .failed:=by
  intro n
  induction n with
  | zero=>intro m h;exact h
  | succ n ih=>intro m h;unfold Sre.M.runFor;rw [if_pos (by rw [h];rfl)];exact h
 show(if m.outcome.isSome then m else Sre.M.runFor 3 m.step).outcome=_
 rw [h3,if_neg (by decide),e]
 exact z 3 _ rfl
section
variable {prog:Program} {w:World} {A:Around} {E:Value→Shared→Prop} {s:Shared}
theorem rT {m:Sre.M} {Q:Option Sre.M→Shared→Prop} (h1:m.answer=some false) (h2:m.frames= []) (h3:m.outcome=none) (hq:Q none s):wpAny (model prog w) A (reRunToEnd m) Q E s:=by
 have e:=ddo h1 h2 h3
 have d:reDrive (2 ^ 64) m=pure (m.runFor reTurnSteps):=by
  show reDrive (2 ^ 64 - 1+1) m=_
  show(if(m.runFor reTurnSteps).outcome.isSome then pure (m.runFor reTurnSteps)else _)=_
  rw [if_pos (by show(m.runFor 4).outcome.isSome=true;rw [e];rfl)]
 refine wpAny_bind (wpAny_of_eq d ?_)
 refine wpAny_bind (wpAny_forIn_list _ (fun u v s'=>s'=s) _ (fun x rest b s' hs=> ?_) (fun b s' hs=> ?_) _ _ rfl)
 ·subst hs
  split
  ·exact wpAny_bind (wpAny_rule (wpAny_pure rfl))
  ·exact wpAny_pure rfl
 ·subst hs
  have e':(m.runFor reTurnSteps).outcome=some .failed:=e
  rw [e']
  exact wpAny_pure hq
theorem sno {a ct:Addr} {x:Str} {t:Tok} {o oc:Obj} {fs:Array Value} {items:Array Value} {n:Nat} {code:Array Nat} {ok:Nat→Bool} {Q:Fin→Shared→Prop} (ho:s.heap.get? a=some o) (hd:o.data= .fields fs) (h5:fs.getD 5 .none= .ref ct) (h6:reRawNat (fs.getD 6 .none)=0) (h2:reRawNat (fs.getD 2 .none)=0)
  (hc:s.heap.get? ct=some oc) (hcd:oc.data= .seq items n) (hcode:(items.map reRawOf).map (·.toNat)=code)
  (hset: ∀c,ok c=true→ ∀seen,∃seen',Sre.inSet code c code.size 5 true seen= .ok (false,seen')) (ht: ∀i,i<x.cps.size→ok (x.cps.getD i 0)=true)
  (hh0:Sre.ops[code.getD 0 0]? =some .INFO) (hh2:code.getD 2 0=4) (hx:x.length≤1000000) (hq:Q (.done (.ret .none)) s):wpAny (model prog w) A (Builtin.«re.Pattern.search» ⟨[.ref a,.str x t],[]⟩) Q E s:=by
 unfold Builtin.«re.Pattern.search» reTarget
 dsimp only
 have e1:reNamed "re.Pattern.search" "search" ["string","pos","endpos"] 1 [.str x t] []=pure [some (.str x t),none,none]:=by rfl
 refine wpAny_bind (wpAny_bind (wpAny_of_eq e1 ?_))
 dsimp only
 refine wpAny_bind (wpAny_pure ?_)
 refine wpAny_bind (wpAny_pure ?_)
 refine wpAny_bind (wpAny_fieldsOf ho hd ?_)
 refine wpAny_bind (m:=reTextOf (.str x t)) (wpAny_of_eq (a:=(x.cps,0)) (by rfl) ?_)
 rw [h6]
 rw [if_neg (show¬((((0:Nat)==0) && ((0:Nat)==1))=true) by decide),if_neg (show¬((((0:Nat)==1) && ((0:Nat)==0))=true) by decide)]
 refine wpAny_bind (m:=reNoCollectionInside (.str x t) 0) (wpAny_of_eq (a:=()) (by rfl) ?_)
 rw [h5,h2]
 refine wpAny_bind (m:=reRawItems (.ref ct)) ?_
 refine wpAny_bind (wpAny_seqItems hc hcd (wpAny_pure (wpAny_pure ?_)))
 have ec:Array.map (fun(x:Int)=>x.toNat) (((some items).getD #[]).map reRawOf)=code:=hcode
 rw [ec]
 have el:Min.min (2 ^ 63 - 1:Int).toNat x.cps.size=x.cps.size:=by
  have:x.cps.size≤1000000:=hx
  rw [Nat.min_def]
  split
  ·omega
  ·rfl
 dsimp only
 obtain⟨m,em,a1,a2,a3⟩:=fSn (code:=code) (text:=x.cps) (ok:=ok) hset ht hh0 hh2
 have ep:Min.min (0:Int).toNat x.cps.size=0:=Nat.zero_min _
 have em':Sre.forSearch code x.cps 0 (Min.min (0:Int).toNat x.cps.size) (Min.min (2 ^ 63 - 1:Int).toNat x.cps.size) false=m:=by rw [ep,el];exact em
 refine wpAny_bind ?_
 rw [em']
 refine rT a1 a2 a3 ?_
 exact wpAny_pure hq
end
end V
end
section
namespace V
open Builtin Builtin.Str Builtin.Re
theorem ppa:PlainAttrs "re.Pattern":=
 ⟨⟨"object.__getattribute__",by rw [typeLookup_type,builtinLookup_eq_fast];kernel_rfl,by decide+kernel⟩,by rw [typeLookup_type,builtinLookup_eq_fast];kernel_rfl⟩
theorem sse:Slot "re.Pattern" "search" "re.Pattern.search":=
 .of (owner:="re.Pattern") (n:="search") (by rw [typeLookup_type,builtinLookup_eq_fast];kernel_rfl) (by decide+kernel) (by decide+kernel) (by decide+kernel)
  (by first | exact .inl (by decide+kernel) | exact .inr (by decide+kernel)) (by rw [isSubtype_type];kernel_rfl)
theorem tsa:typeOf (.builtin "re.Pattern.search")=pure (.type "method_descriptor"):=by show builtinType _=_;rw [builtinType_eq_fast];kernel_rfl
theorem ese:entryFor table "re.Pattern.search"=some Builtin.«re.Pattern.search» :=entryFor_of_tree (by kernel_rfl)
theorem ase (a b:Value):argsOk "re.Pattern.search" ⟨[a,b],[]⟩:=by
 unfold argsOk;kernel_rfl
noncomputable def codeN:Array Nat:= #[14,10,4,1,1,22,0,31,16,127,0,13,7,22,0,31,16,127,0,1]
noncomputable def codeV:Array Nat:= #[14,14,4,1,1,9,4294966783,0,0,2147483648,0,0,0,0,0,13,11,9,4294966783,0,0,2147483648,0,0,0,0,0,1]
noncomputable def okC (c:Nat):Bool:=decide (32≤c) && (c !=127)
theorem setN (c:Nat) (h:okC c=true) (seen:Sre.Seen): ∃seen',Sre.inSet codeN c codeN.size 5 true seen= .ok (false,seen'):=by
 unfold okC at h
 rw [Bool.and_eq_true,decide_eq_true_eq,bne_iff_ne]at h
 refine⟨((seen.add 22).add 16).add 0,?_⟩
 show(if(decide (0≤c) && decide (c≤31))=true then Except.ok (true,seen.add 22)else(if(c==127)=true then Except.ok (true,(seen.add 22).add 16)else Except.ok (!true,((seen.add 22).add 16).add 0)))=_
 rw [if_neg (by rw [Bool.and_eq_true,decide_eq_true_eq,decide_eq_true_eq];omega),if_neg (by rw [beq_iff_eq];omega)]
 rfl
theorem bitsV: ∀c:Nat,c<256→okC c=true→((codeV.getD (5+(1+c / 32)) 0).testBit (c % 32))=false:=by decide+kernel
theorem setV (c:Nat) (h:okC c=true) (seen:Sre.Seen): ∃seen',Sre.inSet codeV c codeV.size 5 true seen= .ok (false,seen'):=by
 refine⟨(seen.add 9).add 0,?_⟩
 show(if(decide (c<256) && (codeV.getD (5+(1+c / 32)) 0).testBit (c % 32))=true then Except.ok (true,seen.add 9)else Except.ok (!true,(seen.add 9).add 0))=_
 rw [if_neg]
 ·rfl
 ·rw [Bool.and_eq_true,decide_eq_true_eq]
  intro z
  rw [bitsV c z.1 h]at z
  cases z.2
section
variable {C:Cx} {k:Nat} {W:Wd} {σ σ':St}
theorem Inv.ext {s:Shared} (I:Inv C W σ s) (O:C.Ok) {a:Addr} {o:Obj} (h:C.K.lookup a=some o):s.heap.get? a=some o:=I.kept _ _ (O.kin _ _ h)
theorem Mse (O:C.Ok) {a:Addr} {d:Data} (h:C.K.lookup a=some {cls:= .type "re.Pattern",data:=d}):Mt C k σ (.ext a) "search" (.bi "re.Pattern.search"):=by
 intro W ro pl q
 unfold VR at q;subst q
 refine Op.look fun A s Q hr I hq=> ?_
 have g:=I.ext O h
 exact getMethod_builtin ⟨_,g,rfl⟩ ppa sse tsa (fun b e=>by cases e;exact⟨_,g,rfl⟩) (hq _ _ ⟨by unfold VR;rfl,by rfl⟩)
theorem Cse (O:C.Ok) {a ct:Addr} {x:Str} {fs items:Array Value} {n:Nat} {code:Array Nat} (h:C.K.lookup a=some {cls:= .type "re.Pattern",data:= .fields fs}) (hc:C.K.lookup ct=some {cls:= .type "tuple",data:= .seq items n})
  (h5:fs.getD 5 .none= .ref ct) (h6:reRawNat (fs.getD 6 .none)=0) (h2:reRawNat (fs.getD 2 .none)=0) (hcode:(items.map reRawOf).map (·.toNat)=code) (hset: ∀c,okC c=true→ ∀seen,∃seen',Sre.inSet code c code.size 5 true seen= .ok (false,seen'))
  (hh0:Sre.ops[code.getD 0 0]? =some .INFO) (hh2:code.getD 2 0=4) (ht:x.cps.all okC=true) (hx:x.length≤1000000):Ca C k σ (.bi "re.Pattern.search") [.ext a,.str x] [] .none σ:=by
 intro W rf ras rkw hf ha hk
 unfold VR at hf;subst hf
 unfold KR at hk;subst hk
 obtain⟨r,r',rfl,q,q'⟩:=Vt ha
 unfold VR at q q';subst q;obtain⟨t,rfl⟩:=q'
 refine Op.look fun A s Q hr I hq=> ?_
 refine wpAny_call_entry sse ⟨_,I.ext O h,rfl⟩ ese ?_ (ase _ _)
 refine sno (I.ext O h) rfl h5 h6 h2 (I.ext O hc) rfl hcode hset (fun i hi=> ?_) hh0 hh2 hx ⟨_,rfl,hq _ _ Vn⟩
 have:=Array.all_eq_true.mp ht i hi
 rwa [Array.getD_eq_getD_getElem?,Array.getElem?_eq_getElem hi]
end
end V
end
section
namespace V
section
variable {C:Cx} {k:Nat} {sc:Scope} {A:Around} {W:Wd} {env:Env} {ms ms₁ ms₂ ms₃ ms':List (Option AV)} {σ σ₁ σ₂ σ₃ σ':St} {s:Shared}
theorem Bk1 {fd:FuncData} {x y z:AV} {a b c:Str} (h: ∀ra rb rc:Value,bindArgs fd ⟨[ra,rb],[(c,rc)]⟩=pure [(a,ra),(b,rb),(c,rc)]):Bd C k fd σ [x,y] [(c,z)] [(a,x),(b,y),(c,z)] σ:=by
 refine Bpu fun W ras rkw ha hk=> ?_
 obtain⟨ra,rb,rfl,q1,q2⟩:=Vt ha
 obtain⟨rc,ks,rfl,q3,hk⟩:=hk
 unfold KR at hk;subst hk
 exact⟨_,h ra rb rc,ra,_,rfl,q1,rb,_,rfl,q2,rc,_,rfl,q3,rfl⟩
end
end V
end
section
namespace V
open Builtin Builtin.Str
section
variable {C:Cx} {k:Nat} {sc:Scope} {A:Around} {W:Wd} {env:Env} {ms ms₁ ms₂ ms₃ ms':List (Option AV)} {σ σ₁ σ₂ σ₃ σ':St} {s:Shared}
end
end V
end
section
namespace V
open Builtin Builtin.Str
end V
end
section
namespace V
open Builtin Builtin.Str
section
variable {C:Cx} {k:Nat} {sc:Scope} {A:Around} {W:Wd} {env:Env} {ms ms₁ ms₂ ms₃ ms':List (Option AV)} {σ σ₁ σ₂ σ₃ σ':St} {s:Shared}
end
end V
end
section
namespace V
section
variable {C:Cx} {k:Nat} {sc:Scope} {A:Around} {W:Wd} {env:Env} {ms ms₁ ms₂ ms₃ ms':List (Option AV)} {σ σ₁ σ₂ σ₃ σ':St} {s:Shared}
theorem Bdf (O:C.Ok) {fd:FuncData} {da:Addr} {items:Array Value} {n:Nat} {as das:List AV} {dv:List Value} {bs:List (Str×AV)} (hK:C.K.lookup da=some {cls:= .type "tuple",data:= .seq items n})
  (h: ∀ras:List Value,ras.length=as.length→ ∃G,bindArgs fd ⟨ras,[]⟩=(seqItems? (.ref da)>>=G)∧G (some items)=pure ((bs.map (·.1)).zip (ras++dv))) (hb:bs.map (·.2)=as++das) (hd: ∀W,VRe W das dv):Bd C k fd σ as [] bs σ:=by
 intro W ras rkw ha hk
 unfold KR at hk;subst hk
 refine Op.look fun A s Q hr I hq=> ?_
 obtain⟨G,e1,e2⟩:=h ras ha.length
 rw [e1]
 refine wpAny_bind (wpAny_seqItems (I.ext O hK) rfl ?_)
 rw [e2]
 exact wpAny_pure (hq _ s.toks (Kz (by rw [hb];exact ha.append (hd W))))
end
end V
end
section
namespace V
section
variable {C:Cx} {k:Nat} {sc:Scope} {A:Around} {W:Wd} {env:Env} {ms ms₁ ms₂ ms₃ ms':List (Option AV)} {σ σ₁ σ₂ σ₃ σ':St} {s:Shared}
noncomputable def Jn (C:Cx) (k:Nat) (sc:Scope) (ms:List (Option AV)) (σ:St) (es:List Expr) (acc out:Str) (ms':List (Option AV)) (σ':St):Prop:=
 ∀A W env s (Q:Str→Shared→Prop),Ro C A k→At C sc A W env ms σ s→(∀W' s',W.le W'→At C sc A W' env ms' σ' s'→Q out s')→Joins C.M A No (evalEach es env) acc Q s
theorem Jni {acc:Str}:Jn C k sc ms σ [] acc acc ms σ:=fun A W env s Q hr H hq=>Joins_nil (hq W s (.refl W) H)
theorem Jc {e:Expr} {es:List Expr} {acc y out:Str} {n:Nat} (h1:Ev C k sc ms σ e (.str y) ms₁ σ₁) (hb:B (acc++y) n) (hn:decide (n≤16777216)=true) (h2:Jn C k sc ms₁ σ₁ es (acc++y) out ms' σ'):Jn C k sc ms σ (e::es) acc out ms' σ':=by
 intro A W env s Q hr H hq
 refine Joins_cons (pg (h1 A W env s hr H) fun W₁ r s₁ le₁ H₁ q=> ?_)
 unfold VR at q;obtain⟨t,rfl⟩:=q
 exact⟨y,t,rfl,Bf hb hn,h2 A W₁ env s₁ Q hr H₁ fun W' s' le H'=>hq W' s' (le₁.trans le) H'⟩
theorem EJo {e1 e2:Expr} {es:List Expr} {pos:Pos} {out:Str} {n:Nat} (h:Jn C k sc ms σ (e1::e2::es) Str.empty out ms' σ') (hb:B out n) (hn:decide (n≤16777216)=true):Ev C k sc ms σ (.JoinedStr (e1::e2::es) pos) (.str out) ms' σ':=by
 intro A W env s hr H
 refine wpAny_JoinedStr (h A W env s _ hr H fun W' s' le H'=>⟨Bf hb hn,?_⟩)
 exact ph le (H'.tok (s'.toks+1)) Vs
end
end V
end
section
namespace V
section
variable {C:Cx} {k:Nat} {sc:Scope} {A:Around} {W:Wd} {env:Env} {ms ms₁ ms₂ ms₃ ms':List (Option AV)} {σ σ₁ σ₂ σ₃ σ':St} {s:Shared}
noncomputable def rowsOf (P:Params):List Str→List (Tok×Value)→List DictEntry
 | k::ks,x::xs=>⟨PyData.keyHash P k,.str k x.1,x.2⟩::rowsOf P ks xs
 | _,_=> []
theorem DR.rows: ∀{es:List (Str×AV)} {ds:List DictEntry},DR C W es ds→ ∃xs:List (Tok×Value),xs.length=es.length∧ds=rowsOf C.w.params (es.map (·.1)) xs∧VRe W (es.map (·.2)) (xs.map (·.2))
 | [],_,q=>by unfold DR at q;subst q;exact⟨[],rfl,rfl,.nil⟩
 | (k,x)::r,_,q=>by
  obtain⟨t,v,ds',rfl,a,b⟩:=q
  obtain⟨xs,h1,rfl,h3⟩:=DR.rows b
  exact⟨(t,v)::xs,by simp [h1],rfl,.cons a h3⟩
theorem Do: ∀{es:List (Str×AV)} {xs:List (Tok×Value)},VRe W (es.map (·.2)) (xs.map (·.2))→DR C W es (rowsOf C.w.params (es.map (·.1)) xs)
 | [],[],_=>rfl
 | [],_::_,q=>by unfold VRe at q;cases q
 | (k,x)::r,[],q=>by
  rw [List.map_cons]at q
  obtain⟨v,r,e,_⟩:=q
  cases e
 | (k,x)::r,(t,v)::xs,q=>by
  rw [List.map_cons,List.map_cons]at q
  obtain⟨v',r',e,a,b⟩:=q
  cases e
  exact⟨t,v,_,rfl,a,Do b⟩
noncomputable def tabOf (P:Params) (ks:List Str) (xs:List (Tok×Value)) (n:Nat):Obj:={cls:= .type "dict",data:= .dict (rowsOf P ks xs).toArray n}
theorem Inv.inst {l d:Loc} {c:Addr} {es:List (Str×AV)} {rv:Value} (I:Inv C W σ s) (hl:σ l=some (.inst c d)) (hd:σ d=some (.dict es)) (q:VR W (.loc l) rv):
  ∃x dx xs n,rv= .ref x∧W.ρ d=some dx∧InstAt s.heap x (instObj c dx) c (some (tabOf C.w.params (es.map (·.1)) xs n))∧s.heap.get? dx=some (tabOf C.w.params (es.map (·.1)) xs n)∧xs.length=es.length∧VRe W (es.map (·.2)) (xs.map (·.2)):=by
 obtain⟨x,e,rfl⟩:=q
 obtain⟨ob,h1,dx,hdx,rfl⟩:=I.obj l x _ e hl
 obtain⟨od,h2,ds,n,rfl,hr⟩:=I.obj d dx _ hdx hd
 obtain⟨xs,e1,rfl,e3⟩:=hr.rows
 exact⟨x,dx,xs,n,rfl,hdx,⟨h1,rfl,rfl,h2⟩,h2,e1,e3⟩
theorem kno (O:C.Ok) (I:Inv C W σ s):C.K.In s.heap:=fun a o h=>I.kept _ _ (O.kin _ _ h)
theorem hoq {v:AV} {r:Value} (q:VR W v r) (hv: ∀id,v≠ .bi id) (ha:v≠ .any):handedIn r=true:=by
 cases v with
 | none=>unfold VR at q;subst q;rfl
 | any=>exact absurd rfl ha
 | bool b=>unfold VR at q;subst q;rfl
 | int i=>unfold VR at q;obtain⟨t,rfl⟩:=q;rfl
 | str i=>unfold VR at q;obtain⟨t,rfl⟩:=q;rfl
 | bytes i=>unfold VR at q;obtain⟨t,rfl⟩:=q;rfl
 | ty n=>unfold VR at q;subst q;rfl
 | bi n=>exact absurd rfl (hv n)
 | ext a=>unfold VR at q;subst q;rfl
 | loc l=>unfold VR at q;obtain⟨t,_,rfl⟩:=q;rfl
 | mw id l=>unfold VR at q;obtain⟨a,b,o,_,rfl,_⟩:=q;rfl
 | bm id l=>unfold VR at q;obtain⟨a,b,o,_,rfl,_⟩:=q;rfl
 | slc a b c=>unfold VR at q;obtain⟨b,o,vx,vy,vz,rfl,_⟩:=q;rfl
 | fld n xs=>unfold VR at q;obtain⟨_,b,o,vs,rfl,_⟩:=q;rfl
 | tup xs=>unfold VR at q;obtain⟨a,o,vs,n,rfl,_⟩:=q;rfl
 | lst xs=>unfold VR at q;obtain⟨a,o,vs,n,rfl,_⟩:=q;rfl
theorem Oa (O:C.Ok) {l d:Loc} {c:Addr} {es:List (Str×AV)} {name:Str} {v:AV} {i:Nat} (hl:σ l=some (.inst c d)) (hd:σ d=some (.dict es)) (hga:findIn C.K (.ref c) "__getattribute__"=some (some (.builtin "object.__getattribute__")))
  (hi:(es.map (·.2))[i]? =some v) (hf: ∀(xs:List (Tok×Value)) (n:Nat) (r:Value),xs.length=es.length→(xs.map (·.2))[i]? =some r→findObj C.K c (some (tabOf C.w.params (es.map (·.1)) xs n)) name=some (.value r)) (hv: ∀id,v≠ .bi id) (ha:v≠ .any):
  Op1 C k σ (fun x=>getAttr x name true) (.loc l) (fun W r=>VR W v r) σ:=by
 intro W ra q
 refine Op.look fun A s Q hr I hq=> ?_
 obtain⟨x,dx,xs,n,rfl,hdx,IA,_,hlen,hvs⟩:=I.inst hl hd q
 obtain⟨r,hr',qr⟩:=hvs.get hi
 exact get_value (kno O I) IA hga (hf xs n r hlen hr') (hoq qr hv ha) (hq _ _ qr)
theorem Mde (O:C.Ok) {l d:Loc} {c f:Addr} {es:List (Str×AV)} {name:Str} (hl:σ l=some (.inst c d)) (hd:σ d=some (.dict es)) (hga:findIn C.K (.ref c) "__getattribute__"=some (some (.builtin "object.__getattribute__"))) (hk:findIn C.K (.ref c) "__getattr__"=some none)
  (hf:findIn C.K (.ref c) name=some (some (.ref f))) (ht:typeIn C.K (.ref f)=some (.type "function")) (hs: ∀(xs:List (Tok×Value)) (n:Nat),xs.length=es.length→shadowIn (some (tabOf C.w.params (es.map (·.1)) xs n)) name=some false):Mt C k σ (.loc l) name (.ext f):=by
 intro W ro pl q
 refine Op.look fun A s Q hr I hq=> ?_
 obtain⟨x,dx,xs,n,rfl,hdx,IA,_,hlen,hvs⟩:=I.inst hl hd q
 exact method_fn (kno O I) IA hga hk hf ht (hs xs n hlen) (hq _ _ ⟨by unfold VR;rfl,rfl⟩)
end
end V
end
section
namespace V
section
variable {prog:Program} {w:World} {A:Around} {E:Value→Shared→Prop} {s:Shared} {K:Frag} {R:Result→Shared→Prop}
theorem sti {x c dx:Addr} {od od':Obj} {name:Str} {tk:Tok} {v:Value} {es:List DictEntry} {n:Nat} (X:K.In s.heap) (I:InstAt s.heap x (instObj c dx) c (some od)) (D:s.heap.get? dx=some od)
  (hp:plainOver K c=true) (ht:takerIn K c name=some none) (hh:(clsIn K c).any (·.hasDict)=true) (hl:(lookIn name od).isSome=true)
  (e:Obj.putName name (PyData.keyHash w.params name) (.str name s.toks) v od=od') (e':od'.data= .dict es.toArray n) (hz:es.length≤1000) (hf:od'.isFreed=false)
  (h:R (.ok (.ret .none)) {s with heap:=s.heap.update dx (Obj.putName name (PyData.keyHash w.params name) (.str name s.toks) v),toks:=s.toks+1}):
  codeAny (model prog w) A (.call (.builtin "object.__setattr__") ⟨[.ref x,.str name tk,v],[]⟩) R s:=by
 refine osa_open X I hp ht fun b=> ?_
 obtain⟨cd,hc⟩: ∃cd,clsIn K c=some cd:=by
  cases q:clsIn K c with
  | none=>rw [q]at hh;cases hh
  | some cd=>exact⟨cd,rfl⟩
 have hd':cd.hasDict=true:=by rw [hc]at hh;exact hh
 have hx:=I.at_
 have D':(s.heap.update dx (Obj.putName name (PyData.keyHash w.params name) (.str name s.toks) v)).get? dx=some od':=e▸Heap.get?_update_self _ D (e▸hf)
 refine wpAny_bind (wpAny_pure (wpAny_bind (wpAny_bind (wpAny_loadPart hx (wpAny_bind ((looks_clsIn X hc).here ?_))))))
 rw [hd']
 refine wpAny_pure (a:=some dx) (wpAny_bind (wpAny_pure (wpAny_bind ?_)))
 refine wpAny_bind (wpAny_bind (wpAny_askSetting (wpAny_pure (wpAny_bind (wpAny_mkText (wpAny_bind (wpAny_loadPart D ?_)))))))
 unfold lookIn at hl
 split at hl
 ·rename_i es₀ n₀ q
  rw [q]
  dsimp only
  have c0:(!es₀.any (·.key.isStr name) && es₀.any (·.refKey))=false:=by
   rw [←Array.any_toList,←Array.any_toList]
   split at hl
   ·rename_i en he
    rw [List.any_eq_true.mpr ⟨en,List.mem_of_find?_eq_some he,List.find?_some he⟩];rfl
   ·split at hl
    ·cases hl
    ·rename_i z;rw [Bool.not_eq_true]at z;rw [z,Bool.and_false]
  rw [aRefKeyMayBeTheName_at,c0]
  refine wpAny_updatePart D ?_
  refine wpAny_bind (wpAny_lookBehind D' (by rw [e'];exact pastItsLine_dict (by rw [List.size_toArray,sizeLine_eq];omega)) ?_)
  exact wpAny_pure h
 ·cases hl
end
section
variable {C:Cx} {k:Nat} {W:Wd} {σ σ':St}
theorem OsA (O:C.Ok) {l d:Loc} {c:Addr} {es es':List (Str×AV)} {name:Str} {v:AV} (hl:σ l=some (.inst c d)) (hd:σ d=some (.dict es)) (hs:findIn C.K (.ref c) "__setattr__"=some (some (.builtin "object.__setattr__")))
  (hp:plainOver C.K c=true) (ht:takerIn C.K c name=some none) (hh:(clsIn C.K c).any (·.hasDict)=true) (hz:es'.length≤1000)
  (hlook: ∀(xs:List (Tok×Value)) (n:Nat),xs.length=es.length→(lookIn name (tabOf C.w.params (es.map (·.1)) xs n)).isSome=true)
  (hput: ∀(W:Wd) (xs:List (Tok×Value)) (n:Nat) (tk:Tok) (r:Value),xs.length=es.length→VRe W (es.map (·.2)) (xs.map (·.2))→VR W v r→
   ∃xs' n',Obj.putName name (PyData.keyHash C.w.params name) (.str name tk) r (tabOf C.w.params (es.map (·.1)) xs n)=tabOf C.w.params (es'.map (·.1)) xs' n'∧xs'.length=es'.length∧VRe W (es'.map (·.2)) (xs'.map (·.2))):
  Op2 C k σ (fun x y=>setAttr x name y) (.loc l) v (fun u g=>True) (σ.set d (.dict es')):=by
 intro W ra rb q qv A s outer hr hA hS I
 obtain⟨x,dx,xs,n,rfl,hdx,IA,hdo,hlen,hvs⟩:=I.inst hl hd q
 obtain⟨xs',n',ep,el,ev⟩:=hput W xs n (s.toks+1) rb hlen hvs qv
 have len: ∀{ks:List Str} {xs:List (Tok×Value)},(rowsOf C.w.params ks xs).length≤ks.length:=by
  intro ks
  induction ks with
  | nil=>intro xs;exact Nat.le_refl _
  | cons k ks ih=>
   intro xs
   cases xs with
   | nil=>exact Nat.zero_le _
   | cons x xs=>exact Nat.succ_le_succ ih
 refine set_plain (kno O I) IA hs ?_
 refine sti (s:={s with toks:=s.toks+1}) (show C.K.In s.heap from kno O I) IA hdo hp ht hh (hlook xs n hlen) ep (es:=rowsOf C.w.params (es'.map (·.1)) xs') (n:=n') rfl (Nat.le_trans len (by rw [List.length_map];exact hz)) rfl ?_
 refine⟨W,.refl W,I.upd (t:=s.toks+1+1) (d:=s.drawn) hdx (uke _ _ _) (Heap.get?_update_self _ hdo (by rw [ep];rfl)) ⟨_,n',ep,Do ev⟩ (by omega),trivial⟩
end
end V
end
section
namespace V
open Builtin Builtin.Str
noncomputable def dge (es:List (Str×AV)) (k:Str):Option AV:=(es.find? fun e=>decide (e.1=k)).map (·.2)
noncomputable def dput (es:List (Str×AV)) (k:Str) (v:AV):List (Str×AV):=
 if es.any (fun e=>decide (e.1=k))then es.map (fun e=>if e.1=k then(e.1,v)else e)else es++ [(k,v)]
noncomputable def dde (es:List (Str×AV)) (k:Str):List (Str×AV):=es.filter fun e=>decide (e.1≠k)
noncomputable def DN (es:List (Str×AV)):Prop:=(es.map (·.1)).Nodup
section
variable {C:Cx} {k:Nat} {sc:Scope} {A:Around} {W:Wd} {env:Env} {ms ms₁ ms₂ ms₃ ms':List (Option AV)} {σ σ₁ σ₂ σ₃ σ':St} {s:Shared}
noncomputable abbrev sk (C:Cx):=PySem.strKind C.prog C.w
theorem KR.keys: ∀{es:List (Str×AV)} {kvs:List (Str×Value)},KR W es kvs→kvs.map (·.1)=es.map (·.1)
 | [],_,h=>by unfold KR at h;subst h;rfl
 | (n,x)::r,_,h=>by
  obtain⟨v,ks,rfl,_,h⟩:=h
  simp [KR.keys h]
theorem KR.length {es:List (Str×AV)} {kvs:List (Str×Value)} (h:KR W es kvs):kvs.length=es.length:=by
 have:=congrArg List.length h.keys
 simpa using this
theorem KR.find {key:Str}: ∀{es:List (Str×AV)} {kvs:List (Str×Value)},KR W es kvs→(dge es key=none∧valueAt kvs key=none)∨ ∃x v,dge es key=some x∧valueAt kvs key=some v∧VR W x v
 | [],_,h=>by unfold KR at h;subst h;exact .inl ⟨rfl,rfl⟩
 | (n,x)::r,_,h=>by
  unfold KR at h
  obtain⟨v,ks,rfl,q,h⟩:=h
  unfold dge valueAt
  by_cases e:n=key
  ·refine .inr ⟨x,v,?_,?_,q⟩<;>simp [e]
  ·have:=KR.find (key:=key) h
   unfold dge valueAt at this
   simpa [e]using this
theorem KR.any {key:Str}: ∀{es:List (Str×AV)} {kvs:List (Str×Value)},KR W es kvs→kvs.any (fun kv=>decide (kv.1=key))=es.any (fun e=>decide (e.1=key))
 | [],_,h=>by unfold KR at h;subst h;rfl
 | (n,x)::r,_,h=>by
  unfold KR at h
  obtain⟨v,ks,rfl,q,h⟩:=h
  simp only [List.any_cons]
  rw [KR.any h]
theorem KR.mPu {key:Str} {x:AV} {v:Value} (q:VR W x v): ∀{es:List (Str×AV)} {kvs:List (Str×Value)},KR W es kvs→KR W (es.map fun e=>if e.1=key then(e.1,x)else e) (kvs.map fun kv=>if kv.1=key then(kv.1,v)else kv)
 | [],_,h=>by unfold KR at h;subst h;rfl
 | (n,y)::r,_,h=>by
  unfold KR at h
  obtain⟨u,ks,rfl,q',h⟩:=h
  by_cases e:n=key
  ·simp only [List.map_cons,e,if_true];exact⟨v,_,rfl,q,KR.mPu q h⟩
  ·simp only [List.map_cons,e,if_false];exact⟨u,_,rfl,q',KR.mPu q h⟩
theorem KR.app {x:AV} {v:Value} {key:Str} (q:VR W x v): ∀{es:List (Str×AV)} {kvs:List (Str×Value)},KR W es kvs→KR W (es++ [(key,x)]) (kvs++ [(key,v)])
 | [],_,h=>by unfold KR at h;subst h;exact⟨v,[],rfl,q,rfl⟩
 | (n,y)::r,_,h=>by
  unfold KR at h
  obtain⟨u,ks,rfl,q',h⟩:=h
  exact⟨u,_,rfl,q',KR.app q h⟩
theorem KR.put {key:Str} {x:AV} {v:Value} {es:List (Str×AV)} {kvs:List (Str×Value)} (h:KR W es kvs) (q:VR W x v):KR W (dput es key x) (stored kvs key v):=by
 unfold dput stored
 rw [h.any]
 split
 ·exact h.mPu q
 ·exact h.app q
theorem KR.del {key:Str}: ∀{es:List (Str×AV)} {kvs:List (Str×Value)},KR W es kvs→KR W (dde es key) (without kvs key)
 | [],_,h=>by unfold KR at h;subst h;rfl
 | (n,y)::r,_,h=>by
  unfold KR at h
  obtain⟨u,ks,rfl,q',h⟩:=h
  have ih:=KR.del (key:=key) h
  unfold dde without at ih⊢
  by_cases e:n=key
  ·simpa [e]using ih
  ·simp only [List.filter_cons,e,ne_eq,not_false_eq_true,decide_true,if_true]
   exact⟨u,_,rfl,q',ih⟩
theorem mao {es:List (Str×AV)} {n:Nat} {a:Addr} {ob:Obj} {h:Heap} (hn:DN es) (q:ORe C W (.map es n) ob) (g:h.get? a=some ob): ∃kvs,h.DictAt (sk C) a kvs n∧KR W es kvs:=by
 obtain⟨ds,rfl,r⟩:=q
 have key: ∀{es:List (Str×AV)} {ds:List DictEntry},DR C W es ds→ ∃kvs,KR W es kvs∧Pairs (sk C) ds kvs∧ ∀e∈ds,∃k,(sk C).is k e.key=true∧e.hash=(sk C).hash k:=by
  intro es
  induction es with
  | nil=>intro ds r;unfold DR at r;subst r;exact⟨[],rfl,.nil,fun e he=>by cases he⟩
  | cons p es ih=>
   intro ds r
   obtain⟨n,x⟩:=p
   obtain⟨t,v,ds',rfl,a,b⟩:=r
   obtain⟨kvs,k1,k2,k3⟩:=ih b
   have hs:(sk C).is n (.str n t)=true:=strKind_is _ _ _ _
   refine⟨(n,v)::kvs,⟨v,kvs,rfl,a,k1⟩,.cons hs rfl k2,fun e he=> ?_⟩
   rcases List.mem_cons.mp he with rfl | he
   ·exact⟨n,hs,rfl⟩
   ·exact k3 e he
 obtain⟨kvs,k1,k2,k3⟩:=key r
 refine⟨kvs,⟨_,ds.toArray,g,⟨rfl,rfl,rfl⟩,rfl,fun e he=>k3 e (by simpa using he),by simpa using k2,by rw [k1.keys];exact hn⟩,k1⟩
theorem dof {es:List (Str×AV)} {a:Addr} {ob:Obj} {h:Heap} (hn:DN es) (q:ORe C W (.dict es) ob) (g:h.get? a=some ob): ∃kvs,h.DictOf (sk C) a kvs∧KR W es kvs:=by
 obtain⟨ds,n,e,r⟩:=q
 obtain⟨kvs,k1,k2⟩:=mao (n:=n) hn ⟨ds,e,r⟩ g
 exact⟨kvs,k1.dictOf,k2⟩
noncomputable def IsD (σ:St) (l:Loc) (es:List (Str×AV)):Prop:=σ l=some (.dict es)∨ ∃n,σ l=some (.map es n)
theorem IsD.obj {l:Loc} {es:List (Str×AV)} {a:Addr} (h:IsD σ l es) (I:Inv C W σ s) (e:W.ρ l=some a): ∃ob,s.heap.get? a=some ob∧ORe C W (.dict es) ob:=by
 rcases h with h | ⟨n,h⟩
 ·exact I.obj l a _ e h
 ·obtain⟨ob,h1,ds,h2,h3⟩:=I.obj l a _ e h
  exact⟨ob,h1,ds,n,h2,h3⟩
theorem ofd {es:List (Str×AV)} {a:Addr} {kvs:List (Str×Value)} {h:Heap} (hd:h.DictOf (sk C) a kvs) (q:KR W es kvs): ∃ob,h.get? a=some ob∧ORe C W (.dict es) ob:=by
 obtain⟨o,ds,ep,g,⟨e1,e2,e3⟩,e4,k3,k2,_⟩:=hd
 obtain⟨oc,od,dt,sl⟩:=o
 simp only at e1 e2 e3 e4
 subst e1 e2 e3 e4
 refine⟨_,g,ds.toList,ep,by simp,?_⟩
 have key: ∀{es:List (Str×AV)} {kvs:List (Str×Value)} {ds:List DictEntry},KR W es kvs→Pairs (sk C) ds kvs→(∀e∈ds,∃k,(sk C).is k e.key=true∧e.hash=(sk C).hash k)→DR C W es ds:=by
  intro es
  induction es with
  | nil=>intro kvs ds q p u;unfold KR at q;subst q;cases p;rfl
  | cons p es ih=>
   intro kvs ds q pp hk
   obtain⟨n,x⟩:=p
   obtain⟨v,ks,rfl,qv,q⟩:=q
   cases pp with
   | @cons e _ ds _ h1 h2 h3=>
    obtain⟨k',i1,i2⟩:=hk e (.head _)
    have ek:k'=n:=(sk C).inj _ _ _ i1 h1
    subst ek
    obtain⟨t,ht⟩:=Value.isStrOf_shape h1
    obtain⟨eh,ekk,ev⟩:=e
    simp only at ht i2 h2
    subst ht i2 h2
    exact⟨t,_,ds,rfl,qv,ih q h3 fun e he=>hk e (.tail _ he)⟩
 exact key q k2 fun e he=>k3 e (by simpa using he)
theorem Inv.nSy (I:Inv C W σ s) {l:Loc} {a:Addr} (e:W.ρ l=some a):(a==sysModules)=false:=by
 have:=I.high.2 l a e
 have h:a≠sysModules:=fun z=>by rw [z]at this;exact absurd this (by decide)
 simpa using h
theorem Inv.dict {l:Loc} {es:List (Str×AV)} {rv:Value} (I:Inv C W σ s) (h:IsD σ l es) (hn:DN es) (q:VR W (.loc l) rv):
  ∃a kvs,rv= .ref a∧W.ρ l=some a∧(a==sysModules)=false∧s.heap.DictOf (sk C) a kvs∧KR W es kvs:=by
 obtain⟨a,e,rfl⟩:=q
 obtain⟨ob,h1,h2⟩:=h.obj I e
 obtain⟨kvs,k1,k2⟩:=dof hn h2 h1
 exact⟨a,kvs,rfl,e,I.nSy e,k1,k2⟩
theorem Inv.dU {h':Heap} {t:Nat} {l:Loc} {a:Addr} {es:List (Str×AV)} {kvs:List (Str×Value)} (I:Inv C W σ s) (e:W.ρ l=some a) (hd:h'.DictOf (sk C) a kvs) (q:KR W es kvs) (hs:Heap.SameBut a s.heap h') (ht:s.toks≤t):Inv C W (σ.set l (.dict es)) {s with heap:=h',toks:=t}:=by
 obtain⟨ob,h1,h2⟩:=ofd hd q
 exact I.upd (d:=s.drawn) e (fun b o n z=>by rw [hs.2 b n];exact z) h1 h2 ht
theorem Dg {l:Loc} {es:List (Str×AV)} {key:Str} {x:AV} (h:IsD σ l es) (hn:DN es) (hx:dge es key=some x):Op2 C k σ getItem (.loc l) (.str key) (fun W r=>VR W x r) σ:=by
 intro W ra rb qa qb
 unfold VR at qb;obtain⟨t,rfl⟩:=qb
 refine Op.look fun A s Q hr I hq=> ?_
 obtain⟨a,kvs,rfl,e,ns,hd,hk⟩:=I.dict h hn qa
 rcases hk.find (key:=key)with⟨z,_⟩ | ⟨y,v,z1,z2,z3⟩
 ·rw [z]at hx;cases hx
 ·rw [z1]at hx;cases hx
  exact wpAny_getItem_of (knd:=sk C) (k:=key) (strKind_is _ _ _ _) hd.mapOf z2 (hq _ _ z3)
theorem Ds {l:Loc} {es:List (Str×AV)} {key:Str} {x:AV} (h:IsD σ l es) (hn:DN es) (hz:es.length≤sizeLine):Op3 C k σ setItem (.loc l) (.str key) x (fun u v=>True) (σ.set l (.dict (dput es key x))):=by
 intro W ra rb rc qa qb qc A s outer hr hA hS I
 unfold VR at qb;obtain⟨t,rfl⟩:=qb
 obtain⟨a,kvs,rfl,e,ns,hd,hk⟩:=I.dict h hn qa
 exact wpAny_setItem_pairs (knd:=sk C) (k:=key) (strKind_is _ _ _ _) hd (fun h' hd' hs=>⟨W,.refl W,I.dU e hd' (hk.put qc) hs (Nat.le_succ _),trivial⟩) (by rw [hk.length];exact hz)
theorem Di {l:Loc} {es:List (Str×AV)} {key:Str} {c:Bool} (h:IsD σ l es) (hn:DN es) (hc:(dge es key).isSome=c):Op2 C k σ (compareOp .In) (.str key) (.loc l) (fun W r=>VR W (.bool c) r) σ:=by
 intro W ra rb qa qb
 unfold VR at qa;obtain⟨t,rfl⟩:=qa
 refine Op.look fun A s Q hr I hq=> ?_
 obtain⟨a,kvs,rfl,e,ns,hd,hk⟩:=I.dict h hn qb
 refine wpAny_in_of (knd:=sk C) (k:=key) (strKind_is _ _ _ _) ns hd.mapOf (hq _ _ ?_)
 rcases hk.find (key:=key)with⟨z,z'⟩ | ⟨y,v,z1,z2,z3⟩
 ·rw [←hc,z,z'];rfl
 ·rw [←hc,z1,z2];rfl
theorem D_del {l:Loc} {es:List (Str×AV)} {key:Str} (h:IsD σ l es) (hn:DN es) (hz:es.length≤sizeLine) (hx:(dge es key).isSome=true):Op2 C k σ delItem (.loc l) (.str key) (fun u w=>True) (σ.set l (.dict (dde es key))):=by
 intro W ra rb qa qb A s outer hr hA hS I
 unfold VR at qb;obtain⟨t,rfl⟩:=qb
 obtain⟨a,kvs,rfl,e,ns,hd,hk⟩:=I.dict h hn qa
 have hv:(valueAt kvs key).isSome=true:=by
  rcases hk.find (key:=key)with⟨z,z'⟩ | ⟨y,v,z1,z2,z3⟩
  ·rw [z]at hx;cases hx
  ·rw [z2];rfl
 unfold delItem
 try with_reducible refine wpAny_holding ?_
 refine wpAny_bind (wpAny_sequenceKey hd.typeIs (by decide) ?_)
 refine wpAny_bind (wpAny_callSpecial?_slot (name:=Str.ofString "__delitem__") hd.typeIs PySem.F.slot_dict_delitem
  (call_meetsIn PySem.F.slot_dict_delitem hd.typeIs PySem.F.entry_dict_delitem (PySem.F.args_dict_delitem_2 _ _) (meets_dict_delitem_pairs (sk C) (k:=key) a (strKind_is _ _ _ _)) ⟨kvs,hd,(by rw [hk.length];exact hz),hv,fun h' hd' hs=> ?_⟩))
 exact wpAny_pure ⟨W,.refl W,I.dU e hd' hk.del hs (Nat.le_succ _),trivial⟩
theorem Mtd {l:Loc} {es:List (Str×AV)} {name:Str} {id:String} (h:IsD σ l es) (hg: ∀(A:Around) (s:Shared) (a:Addr) (pl:Sem Bool) (Q:Value×List Value→Shared→Prop) (kvs:List (Str×Value)),(s.TypeIs (.ref a) "dict"∧ ∀b,Value.ref a= .ref b→ ∃ob,s.heap.get? b=some ob∧ob.dict=none)→Q (.builtin id,[.ref a]) s→wpAny C.M A (getMethod (.ref a) name pl) Q No s):Mt C k σ (.loc l) name (.bi id):=by
 intro W ro pl q
 refine Op.look fun A s Q hr I hq=> ?_
 obtain⟨a,e,rfl⟩:=q
 obtain⟨ob,h1,ds,n,rfl,h2⟩:=h.obj I e
 exact hg A s a pl _ [] ⟨⟨_,h1,rfl⟩,fun b z=>by cases z;exact⟨_,h1,rfl⟩⟩ (hq (.builtin id,[.ref a]) s.toks ⟨by unfold VR;rfl,rfl⟩)
theorem Mdg {l:Loc} {es:List (Str×AV)} (h:IsD σ l es):Mt C k σ (.loc l) "get" (.bi "dict.get"):=
 Mtd h fun A s a pl Q kvs hh hq=>getMethod_builtin hh.1 F.plainAttrs_dict F.slot_dict_get F.type_dict_get hh.2 hq
theorem Mdi {l:Loc} {es:List (Str×AV)} (h:IsD σ l es):Mt C k σ (.loc l) "items" (.bi "dict.items"):=
 Mtd h fun A s a pl Q kvs hh hq=>getMethod_builtin hh.1 F.plainAttrs_dict F.slot_dict_items F.type_dict_items hh.2 hq
theorem Mdv {l:Loc} {es:List (Str×AV)} (h:IsD σ l es):Mt C k σ (.loc l) "values" (.bi "dict.values"):=
 Mtd h fun A s a pl Q kvs hh hq=>getMethod_builtin hh.1 F.plainAttrs_dict F.slot_dict_values F.type_dict_values hh.2 hq
theorem Cdg {l:Loc} {es:List (Str×AV)} {key:Str} {x:AV} (h:IsD σ l es) (hn:DN es) (hx:(dge es key).getD .none=x):Ca C k σ (.bi "dict.get") [.loc l,.str key] [] x σ:=by
 intro W rf ras rkw hf ha hk
 unfold VR at hf;subst hf
 unfold KR at hk;subst hk
 obtain⟨r1,r2,rfl,qa,qb⟩:=Vt ha
 unfold VR at qb;obtain⟨t,rfl⟩:=qb
 refine Op.look fun A s Q hr I hq=> ?_
 obtain⟨a,kvs,rfl,e,ns,hd,hk⟩:=I.dict h hn qa
 refine call_meetsIn F.slot_dict_get hd.typeIs F.entry_dict_get (F.args_dict_get_2 _ _) (meets_dict_get (sk C) (k:=key) a (strKind_is _ _ _ _) ns) ⟨_,hd.mapOf,?_⟩
 refine hq _ _ ?_
 rcases hk.find (key:=key)with⟨z,z'⟩ | ⟨y,v,z1,z2,z3⟩
 ·rw [z]at hx;rw [z',←hx];exact Vn
 ·rw [z1]at hx;rw [z2,←hx];exact z3
end
end V
end
section
namespace V
open Builtin Builtin.Str
section
variable {C:Cx} {k:Nat} {sc:Scope} {A:Around} {W:Wd} {env:Env} {ms ms₁ ms₂ ms₃ ms':List (Option AV)} {σ σ₁ σ₂ σ₃ σ':St} {s:Shared}
theorem Inv.map {l:Loc} {n:Nat} {es:List (Str×AV)} {rv:Value} (I:Inv C W σ s) (h:σ l=some (.map es n)) (hn:DN es) (q:VR W (.loc l) rv):
  ∃a kvs,rv= .ref a∧W.ρ l=some a∧(a==sysModules)=false∧s.heap.DictAt (sk C) a kvs n∧KR W es kvs:=by
 obtain⟨a,e,rfl⟩:=q
 obtain⟨ob,h1,h2⟩:=I.obj l a _ e h
 obtain⟨kvs,k1,k2⟩:=mao hn h2 h1
 exact⟨a,kvs,rfl,e,I.nSy e,k1,k2⟩
theorem KR.get {es:List (Str×AV)} {kvs:List (Str×Value)} (h:KR W es kvs): ∀{i:Nat} {key:Str} {x:AV},es[i]? =some (key,x)→ ∃v,kvs[i]? =some (key,v)∧VR W x v:=by
 induction es generalizing kvs with
 | nil=>intro i key x e;simp at e
 | cons p r ih=>
  intro i key x e
  obtain⟨n,y⟩:=p
  obtain⟨v,ks,rfl,q,h⟩:=h
  cases i with
  | zero=>simp at e;obtain⟨rfl,rfl⟩:=e;exact⟨v,by simp,q⟩
  | succ i=>simp at e;obtain⟨u,hu,z⟩:=ih h e;exact⟨u,by simpa using hu,z⟩
theorem Inv.count {l:Loc} {es:List (Str×AV)} (I:Inv C W σ s) (h:σ l=some (.dict es)): ∃n,Inv C W (σ.set l (.map es n)) s:=by
 obtain⟨a,ob,e,h1,ds,n,h2,h3⟩:=I.at h
 refine⟨n,?_⟩
 have:=I.upd (h:=s.heap) (t:=s.toks) (d:=s.drawn) (o':= .map es n) e (fun u v w z=>z) h1 ⟨ds,h2,h3⟩
 exact this
theorem Inv.unc {l:Loc} {n:Nat} {es:List (Str×AV)} (I:Inv C W σ s) (h:σ l=some (.map es n)):Inv C W (σ.set l (.dict es)) s:=by
 obtain⟨a,ob,e,h1,ds,h2,h3⟩:=I.at h
 have:=I.upd (h:=s.heap) (t:=s.toks) (d:=s.drawn) (o':= .dict es) e (fun u v w z=>z) h1 ⟨ds,n,h2,h3⟩
 exact this
theorem Tc {α:Type} {t:Env→Sem α} {R:Wd→α→Prop} {l:Loc} {es:List (Str×AV)} (h:σ l=some (.dict es)) (hτ:σ' l=some (.dict es))
  (g: ∀n,Tr C k sc ms (σ.set l (.map es n)) t R ms' (σ'.set l (.map es n))):Tr C k sc ms σ t R ms' σ':=by
 intro A W env s hr H
 obtain⟨n,I⟩:=H.inv.count h
 refine wpAny_mono (g n A W env s hr ⟨I,H.fr⟩) (fun r s' ⟨W',le,H',q⟩=>⟨W',le,⟨?_,H'.fr⟩,q⟩) fun _ _ x=>x
 have z:=H'.inv.unc (l:=l) (n:=n) (es:=es) (by unfold St.set;simp)
 have e:(σ'.set l (.map es n)).set l (.dict es)=σ':=by
  funext x
  unfold St.set
  split
  ·rename_i z;rw [z,hτ]
  ·rfl
 rw [e]at z
 exact z
noncomputable def ShK (l:Loc) (n m:Nat) (i:Nat) (rs:Value) (ob:Obj):Prop:= ∃a,rs= .ref a∧ob.cls= .type "dict_keyiterator"∧ob.data= .fields #[.ref a,.int i 0,.int m 0,.int n 0]
theorem Ik {l:Loc} {n:Nat} {es:List (Str×AV)} (hn:DN es) (h0:C.hx=none:=by assumption):Itr C k (fun σ=>σ l=some (.map es n)) (.loc l) (es.map fun p=> .str p.1) (.loc l) (ShK l n es.length) where
 jk:=fun i rv ob ⟨la,_,c,_⟩=>⟨fun n z=>by rw [c]at z;cases z;decide,by rw [c];decide⟩
 start:=fun W σ rv A s outer ok hr hA hS I q=>by
  obtain⟨a,kvs,rfl,e,ns,hd,hk⟩:=I.map ok hn q
  exact wpAny_pyIter_dict ns hd ⟨W,s.heap.objs.size,_,.ref a,.refl W,I.same (pke _ _),rfl,Heap.get?_push_size _ rfl,I.nY,q,⟨a,rfl,rfl,by rw [hk.length];rfl⟩⟩
 self:=fun i rs ob it A s E Q g h hq=>by
  obtain⟨la,rfl,c,d⟩:=h
  exact wpAny_pyIter_keyiter (i:=i) (n:=es.length) (ep:=n) ⟨ob,g,c,d⟩ hq
 next:=fun i x W σ rs ob it A s outer hx ok hr hA hS I g hf q h=>by
  obtain⟨a,kvs,rfl,e,ns,hd,hk⟩:=I.map ok hn q
  obtain⟨a',ea,c,d⟩:=h
  cases ea
  rw [List.getElem?_map]at hx
  cases hes:es[i]? with
  | none=>rw [hes]at hx;cases hx
  | some p=>
   obtain⟨key,y⟩:=p
   rw [hes]at hx;cases hx
   obtain⟨v,hv,qv⟩:=hk.get hes
   refine wpAny_pyNext_dict_item (i:=i) ⟨ob,g,c,by rw [d,hk.length]⟩ hd hv fun kv h' hkv hi' hs'=> ?_
   obtain⟨ob',g',c',d'⟩:=hi'
   obtain⟨t,rfl⟩:=Value.isStrOf_shape hkv
   exact⟨W,_,ob',.refl W,I.but hf.1 hf.2 (fun b o nb e=>(hs'.2 b nb).trans e),rfl,Vs,g',hf,⟨a,rfl,c',by rw [d',hk.length]⟩⟩
 stop:=fun W σ rs ob it A s outer ok hr hA hS I g hf q h=>by
  obtain⟨a,kvs,rfl,e,ns,hd,hk⟩:=I.map ok hn q
  obtain⟨a',ea,c,d⟩:=h
  cases ea
  refine wpAny_pyNext_dict_end (i:=es.length) (hr.none h0) ⟨ob,g,c,by rw [d,hk.length,List.length_map]⟩ hd (by rw [List.getElem?_eq_none_iff,hk.length];exact Nat.le_refl _) fun h' hs'=> ?_
  exact⟨W,.refl W,I.but hf.1 hf.2 fun b o nb e=>hs' b o nb e,rfl⟩
 letgo:=fun i W σ rs rx ob it A s tgt I g hf ⟨la,e,c,d⟩=>lG g c d (by decide) ⟨ob,I,g,⟨la,e,c,d⟩,fun u w m z=>z⟩
noncomputable def ShV (l:Loc) (n m:Nat) (i:Nat) (rs:Value) (ob:Obj):Prop:= ∃a,rs= .ref a∧ob.cls= .type "dict_valueiterator"∧ob.data= .fields #[.ref a,.int i 0,.int m 0,.int n 0]
theorem fvi {n:String} {l:Loc} {rv:Value} (q:VR W (.fld n [.loc l]) rv) (I:Inv C W σ s) (hn:fzc n=true) (hf:(n=="frame")=false): ∃v rd,rv= .ref v∧s.heap.get? v=some {cls:= .type n,data:= .fields #[rd]}∧VR W (.loc l) rd:=by
 obtain⟨_,b,o,vs,rfl,f,rfl,ks⟩:=q
 obtain⟨rd,rfl,qd⟩:=Vo ks
 refine⟨b,rd,rfl,I.frozen f ?_,qd⟩
 intro z
 have z:Value.type n= .type "frame":=z
 cases Value.type.inj z
 simp at hf
theorem Iv {l:Loc} {n:Nat} {es:List (Str×AV)} (hn:DN es) (h0:C.hx=none:=by assumption):Itr C k (fun σ=>σ l=some (.map es n)) (.fld "dict_values" [.loc l]) (es.map (·.2)) (.loc l) (ShV l n es.length) where
 jk:=fun i rv ob ⟨la,_,c,_⟩=>⟨fun n z=>by rw [c]at z;cases z;decide,by rw [c];decide⟩
 start:=fun W σ rv A s outer ok hr hA hS I q=>by
  obtain⟨v,rd,rfl,hv,qd⟩:=fvi q I (by decide) (by decide)
  obtain⟨a,kvs,rfl,e,ns,hd,hk⟩:=I.map ok hn qd
  exact wpAny_pyIter_values ⟨_,hv,rfl,rfl⟩ hd ⟨W,s.heap.objs.size,_,.ref a,.refl W,I.same (pke _ _),rfl,Heap.get?_push_size _ rfl,I.nY,qd,⟨a,rfl,rfl,by rw [hk.length];rfl⟩⟩
 self:=fun i rs ob it A s E Q g h hq=>by
  obtain⟨la,rfl,c,d⟩:=h
  exact wpAny_pyIter_valiter (i:=i) (n:=es.length) (ep:=n) ⟨ob,g,c,d⟩ hq
 next:=fun i x W σ rs ob it A s outer hx ok hr hA hS I g hf q h=>by
  obtain⟨a,kvs,rfl,e,ns,hd,hk⟩:=I.map ok hn q
  obtain⟨a',ea,c,d⟩:=h
  cases ea
  rw [List.getElem?_map]at hx
  cases hes:es[i]? with
  | none=>rw [hes]at hx;cases hx
  | some p=>
   obtain⟨key,y⟩:=p
   rw [hes]at hx;cases hx
   obtain⟨v,hv,qv⟩:=hk.get hes
   refine wpAny_pyNext_values_item (i:=i) ⟨ob,g,c,by rw [d,hk.length]⟩ hd hv fun h' hi' hs'=> ?_
   obtain⟨ob',g',c',d'⟩:=hi'
   exact⟨W,_,ob',.refl W,I.but hf.1 hf.2 (fun b o nb e=>(hs'.2 b nb).trans e),rfl,qv,g',hf,⟨a,rfl,c',by rw [d',hk.length]⟩⟩
 stop:=fun W σ rs ob it A s outer ok hr hA hS I g hf q h=>by
  obtain⟨a,kvs,rfl,e,ns,hd,hk⟩:=I.map ok hn q
  obtain⟨a',ea,c,d⟩:=h
  cases ea
  refine wpAny_pyNext_values_end (i:=es.length) (hr.none h0) ⟨ob,g,c,by rw [d,hk.length,List.length_map]⟩ hd (by rw [List.getElem?_eq_none_iff,hk.length];exact Nat.le_refl _) fun h' hs'=> ?_
  exact⟨W,.refl W,I.but hf.1 hf.2 fun b o nb e=>hs' b o nb e,rfl⟩
 letgo:=fun i W σ rs rx ob it A s tgt I g hf ⟨la,e,c,d⟩=>lG g c d (by decide) ⟨ob,I,g,⟨la,e,c,d⟩,fun u w m z=>z⟩
theorem Cv {l:Loc} {es:List (Str×AV)} {id n:String} (h:IsD σ l es) (hn:DN es) (hf:fzc n=true)
  (hc: ∀(A:Around) (s:Shared) (a:Addr) (kvs:List (Str×Value)) (Q:Value→Shared→Prop),(a==sysModules)=false→s.heap.DictOf (sk C) a kvs→Q (.ref s.heap.objs.size) {s with heap:=s.heap.push {cls:= .type n,data:= .fields #[.ref a]}}→wpAny C.M A (call (.builtin id) [.ref a]) Q No s):
  Ca C k σ (.bi id) [.loc l] [] (.fld n [.loc l]) σ:=by
 intro W rf ras rkw hf' ha hk A s outer hr hA hS I
 unfold VR at hf';subst hf'
 unfold KR at hk;subst hk
 obtain⟨r,rfl,q⟩:=Vo ha
 obtain⟨a,kvs,rfl,e,ns,hd,hk⟩:=I.dict h hn q
 refine hc A s a kvs _ ns hd ?_
 obtain⟨n1,n2⟩:=I.nY
 have g:(s.heap.push {cls:= .type n,data:= .fields #[.ref a]}).get? s.heap.objs.size=some {cls:= .type n,data:= .fields #[.ref a]}:=Heap.get?_push_size _ rfl
 obtain⟨le,I'⟩:=I.nF (t:=s.toks) (d:=s.drawn) n1 n2 (pke _ _) g
 refine⟨_,le,I',?_⟩
 refine⟨hf,_,{cls:= .type n,data:= .fields #[.ref a]},[.ref a],rfl,?_,rfl,.cons (q.mono le) .nil⟩
 show(if _ then _ else _)=_
 rw [if_pos rfl]
theorem Cdv {l:Loc} {es:List (Str×AV)} (h:IsD σ l es) (hn:DN es):Ca C k σ (.bi "dict.values") [.loc l] [] (.fld "dict_values" [.loc l]) σ:=
 Cv h hn (by decide) fun A s a kvs Q ns hd hq=>call_meetsIn F.slot_dict_values hd.typeIs F.entry_dict_values (F.args_dict_values_1 _) (meets_dict_values (sk C) a ns) ⟨⟨kvs,hd⟩,hq⟩
theorem Cdi {l:Loc} {es:List (Str×AV)} (h:IsD σ l es) (hn:DN es):Ca C k σ (.bi "dict.items") [.loc l] [] (.fld "dict_items" [.loc l]) σ:=
 Cv h hn (by decide) fun A s a kvs Q ns hd hq=>call_meetsIn F.slot_dict_items hd.typeIs F.entry_dict_items (F.args_dict_items_1 _) (meets_dict_items (sk C) a ns) ⟨⟨kvs,hd⟩,hq⟩
noncomputable def ShI (n m:Nat) (i:Nat) (rs:Value) (ob:Obj):Prop:= ∃a ok ov,rs= .ref a∧ob={cls:= .type "dict_itemiterator",dict:=none,data:= .fields #[.none,.bool false,.ref a,.int i 0,.int m 0,.int n 0,ok,ov],slots:= #[]}
end
end V
end
section
namespace V
open Builtin Builtin.Str
section
variable {C:Cx} {k:Nat} {sc:Scope} {A:Around} {W:Wd} {env:Env} {ms ms₁ ms₂ ms₃ ms':List (Option AV)} {σ σ₁ σ₂ σ₃ σ':St} {s:Shared}
structure ItP (C:Cx) (k:Nat) (ok:St→Prop) (v:AV) (xs:List AV) (src:AV) (Sh:Nat→Value→Obj→Prop) (Md:Nat→Value→Value→Obj→Prop):Prop where
 jk: ∀i rv ob,Sh i rv ob→Jk ob∧ob.cls≠ .type "frame"
 start: ∀W σ rv A s outer,ok σ→Ro C A k→A.frames=some outer→Stk C W outer→Inv C W σ s→VR W v rv→
  wpAny C.M A (pyIter rv) (fun r s'=> ∃W' it ob rs,W.le W'∧Inv C W' σ s'∧r= .ref it∧s'.heap.get? it=some ob∧Fre W' it∧VR W' src rs∧Sh 0 rs ob) No s
 next: ∀i x W σ rs ob it A s outer,xs[i]? =some x→ok σ→Ro C A k→A.frames=some outer→Stk C W outer→Inv C W σ s→s.heap.get? it=some ob→Fre W it→VR W src rs→Sh i rs ob→
  wpAny C.M A (pyNext (.ref it)) (fun r s'=> ∃W' rx ob',W.le W'∧Inv C W' σ s'∧r=some rx∧VR W' x rx∧s'.heap.get? it=some ob'∧Fre W' it∧Md (i+1) rx rs ob') No s
 stop: ∀W σ rs ob it A s outer,ok σ→Ro C A k→A.frames=some outer→Stk C W outer→Inv C W σ s→s.heap.get? it=some ob→Fre W it→VR W src rs→Sh xs.length rs ob→
  wpAny C.M A (pyNext (.ref it)) (fun r s'=> ∃W',W.le W'∧Inv C W' σ s'∧r=none) No s
 letgo: ∀i W σ rs rx ob it A s elts x1 pos,Inv C W σ s→s.heap.get? it=some ob→Fre W it→Md i rx rs ob→
  wpAny C.M A (letOwnedTupleGo (.Tuple elts x1 pos) (.ref it) rx) (fun _ s'=> ∃ob',Inv C W σ s'∧s'.heap.get? it=some ob'∧Sh i rs ob'∧ ∀b o,b≠it→s.heap.get? b=some o→s'.heap.get? b=some o) No s
theorem isb {ok:St→Prop} {v:AV} {xs:List AV} {src:AV} {Sh:Nat→Value→Obj→Prop} {Md:Nat→Value→Value→Obj→Prop} {rv:Value} {Q:Value→Shared→Prop} (I:ItP C k ok v xs src Sh Md) (hok:ok σ) (hr:Ro C A k) (H:At C sc A W env ms σ s) (q:VR W v rv)
  (g: ∀W' it s',W.le W'→At C sc A W' env ms σ s'→Ho C W' env src Sh 0 it s'→Q (.ref it) s'):wpAny C.M A (pyIter rv) Q No s:=by
 obtain⟨outer,ho,hs⟩:=ass H.fr
 refine wpAny_mono (I.start _ σ rv A s outer hok hr ho hs (ain H.inv H.fr) (q.mono (ale H.fr))) (fun r s' hh=> ?_) fun u w h=>h
 obtain⟨W',it,ob,rs,le,I',rfl,hg,hf,hv,hsh⟩:=hh
 obtain⟨l2,I2,F2,v1,_⟩:=FRe.back H.inv H.fr le I'
 have no:=ona H.fr le hf.1
 refine g _ it s' l2 ⟨I2,F2⟩ ⟨⟨ob,rs,hg,v1 hv,hsh⟩,⟨?_,hf.2⟩,no,?_⟩
 ·rw [Wd.mou no];exact hf.1
 ·exact I'.fOl hf.1
theorem itn {ok:St→Prop} {v:AV} {xs:List AV} {src:AV} {Sh:Nat→Value→Obj→Prop} {Md:Nat→Value→Value→Obj→Prop} {i:Nat} {x:AV} {it:Addr} {Q:Option Value→Shared→Prop} (I:ItP C k ok v xs src Sh Md) (hx:xs[i]? =some x) (hok:ok σ) (hr:Ro C A k)
  (H:At C sc A W env ms σ s) (K:Ho C W env src Sh i it s)
  (g: ∀W' rx s',W.le W'→At C sc A W' env ms σ s'→Ho C W' env src (fun i rs ob=>Md i rx rs ob) (i+1) it s'→VR W' x rx→Q (some rx) s'):wpAny C.M A (pyNext (.ref it)) Q No s:=by
 obtain⟨outer,ho,hs⟩:=ass H.fr
 obtain⟨ob,rs,hg,hv,hsh⟩:=K.ex
 have fa:Fre (aside W env s.heap) it:=⟨by
  show(if _ then _ else _)=_
  rw [if_neg K.own];exact K.fresh.1,K.fresh.2⟩
 refine wpAny_mono (I.next i x _ σ rs ob it A s outer hx hok hr ho hs (ain H.inv H.fr) hg fa (hv.mono (ale H.fr)) hsh) (fun r s' hh=> ?_) fun u w h=>h
 obtain⟨W',rx,ob',le,I',rfl,hx',hg',hf,hsh'⟩:=hh
 obtain⟨l2,I2,F2,v1,_⟩:=FRe.back H.inv H.fr le I'
 exact g _ rx s' l2 ⟨I2,F2⟩ ⟨⟨ob',rs,hg',hv.mono l2,hsh'⟩,⟨by rw [Wd.mou K.own];exact hf.1,hf.2⟩,K.own,K.new⟩ (v1 hx')
theorem isc {ok:St→Prop} {v:AV} {xs:List AV} {src:AV} {Sh:Nat→Value→Obj→Prop} {Md:Nat→Value→Value→Obj→Prop} {it:Addr} {Q:Option Value→Shared→Prop} (I:ItP C k ok v xs src Sh Md) (hok:ok σ) (hr:Ro C A k)
  (H:At C sc A W env ms σ s) (K:Ho C W env src Sh xs.length it s)
  (g: ∀W' s',W.le W'→At C sc A W' env ms σ s'→Q none s'):wpAny C.M A (pyNext (.ref it)) Q No s:=by
 obtain⟨outer,ho,hs⟩:=ass H.fr
 obtain⟨ob,rs,hg,hv,hsh⟩:=K.ex
 have fa:Fre (aside W env s.heap) it:=⟨by
  show(if _ then _ else _)=_
  rw [if_neg K.own];exact K.fresh.1,K.fresh.2⟩
 refine wpAny_mono (I.stop _ σ rs ob it A s outer hok hr ho hs (ain H.inv H.fr) hg fa (hv.mono (ale H.fr)) hsh) (fun r s' hh=> ?_) fun u w h=>h
 obtain⟨W',le,I',rfl⟩:=hh
 obtain⟨l2,I2,F2,_,_⟩:=FRe.back H.inv H.fr le I'
 exact g _ s' l2 ⟨I2,F2⟩
theorem ile {ok:St→Prop} {v:AV} {xs:List AV} {src:AV} {Sh:Nat→Value→Obj→Prop} {Md:Nat→Value→Value→Obj→Prop} {i:Nat} {elts:List Expr} {x1:Nat} {pos:Pos} {rx:Value} {it:Addr} {Q:Unit→Shared→Prop} (I:ItP C k ok v xs src Sh Md)
  (H:At C sc A W env ms σ s) (K:Ho C W env src (fun i rs ob=>Md i rx rs ob) i it s) (g: ∀s',At C sc A W env ms σ s'→Ho C W env src Sh i it s'→Q () s'):wpAny C.M A (letOwnedTupleGo (.Tuple elts x1 pos) (.ref it) rx) Q No s:=by
 obtain⟨ob,rs,hg,hv,hsh⟩:=K.ex
 refine wpAny_mono (I.letgo i W σ rs rx ob it A s elts x1 pos H.inv hg K.fresh hsh) (fun _ s' ⟨ob',I',hg',hsh',hk⟩=> ?_) fun u w h=>h
 exact g s' ⟨I',H.fr.keep K.own K.fresh.1 (H.fr.fne K.own K.fresh.1) hk⟩ ⟨⟨ob',rs,hg',hv,hsh'⟩,K.fresh,K.own,K.new⟩
theorem hoj {α:Type} {src:AV} {Sh:Nat→Value→Obj→Prop} {i:Nat} {it:Addr} {t:Sem α} {R:Wd→α→Prop} {Q:α→Shared→Prop} (jk: ∀i rv ob,Sh i rv ob→Jk ob∧ob.cls≠ .type "frame")
  (H:At C sc A W env ms σ s) (K:Ho C W env src Sh i it s)
  (h: ∀W₁,W.le W₁→At C sc A W₁ env ms σ s→wpAny C.M A t (Pa C sc A W₁ env ms' σ' R) No s)
  (hR: ∀W₁ (X:Addr→Prop) r,(∀a o,X a→W₁.fz a=some o→Jk o)→R W₁ r→R (W₁.minus X) r)
  (g: ∀W' r s',W.le W'→At C sc A W' env ms' σ' s'→Ho C W' env src Sh i it s'→R W' r→Q r s'):wpAny C.M A t Q No s:=by
 obtain⟨ob,rs,hg,hv,hsh⟩:=K.ex
 obtain⟨jk,nf⟩:=jk i rs ob hsh
 obtain⟨le1,H1⟩:=H.freeze hg K.fresh.1 K.fresh.2 K.own
 refine wpAny_mono (h _ le1 H1) (fun r s' ⟨W',le,H',hr⟩=> ?_) fun u v h=>h
 have e:W'.fz it=some ob:=le.2 _ _ (by show(if _ then _ else _)=_;rw [if_pos rfl])
 obtain⟨H2,ob',hg',rfl⟩:=H'.thaw e jk nf K.new
 have hc: ∀a o,a=it→W'.fz a=some o→Jk o:=fun a o z q=>by
  subst z;rw [e]at q;cases q;exact jk
 have le2:W.le (W'.minus (· =it)):=⟨fun l a q=>le.1 _ _ (le1.1 _ _ q),fun a o q=>by
  rw [Wd.mou (X:=(· =it)) fun z=>by
   have z:a=it:=z
   subst z;rw [K.fresh.1]at q;cases q]
  exact le.2 _ _ (le1.2 _ _ q)⟩
 refine g _ r s' le2 H2 ⟨⟨ob',rs,hg',hv.mono le2,hsh⟩,⟨Wd.mii (X:=(· =it)) rfl,fun l q=> ?_⟩,K.own,K.new⟩ (hR _ _ _ hc hr)
 have:=H'.inv.apart l it q
 rw [e]at this;cases this
inductive LrP (C:Cx) (k:Nat) (sc:Scope) (ok:St→Prop) (tgt:Expr) (body:List Stmt):List AV→List (Option AV)→St→List (Option AV)→St→Prop
 | nil {ms:List (Option AV)} {σ:St} (h:ok σ):LrP C k sc ok tgt body [] ms σ ms σ
 | cons {x:AV} {xs:List AV} {ms ms₁ ms₂ ms':List (Option AV)} {σ σ₁ σ₂ σ':St} (h:ok σ) (ha:As C k sc ms σ tgt x ms₁ σ₁) (hx:Ex C k sc ms₁ σ₁ body .next ms₂ σ₂)
   (hr:LrP C k sc ok tgt body xs ms₂ σ₂ ms' σ'):LrP C k sc ok tgt body (x::xs) ms σ ms' σ'
theorem flo {ok:St→Prop} {v:AV} {full:List AV} {src:AV} {Sh:Nat→Value→Obj→Prop} {Md:Nat→Value→Value→Obj→Prop} {elts:List Expr} {x1:Nat} {tpos:Pos} {body:List Stmt} (I:ItP C k ok v full src Sh Md) {xs:List AV}
  (L:LrP C k sc ok (.Tuple elts x1 tpos) body xs ms σ ms' σ'): ∀(i:Nat) (A:Around) (W:Wd) (env:Env) (s:Shared) (it:Addr),full.drop i=xs→i≤full.length→Ro C A k→At C sc A W env ms σ s→Ho C W env src Sh i it s→
  codeAny C.M A (.forLoop (.Tuple elts x1 tpos) (.ref it) body [] env) (fun r s'=>match r with | .ok fl=>Pa C sc A W env ms' σ' (fun W r=>Fl W .next r) fl s' | .error _=>False) s:=by
 induction L with
 | nil hok=>
  intro i A W env s it hd hi hr H K
  have hlen:i=full.length:=by
   have:=congrArg List.length hd
   rw [List.length_drop]at this
   simp at this;omega
  subst hlen
  refine codeAny_of_tree ?_
  rw [Around.under_of_weight (A:=A) (c:= .forLoop (.Tuple elts x1 tpos) (.ref it) body [] env) rfl]
  show wpAny C.M A ((forTurn (.Tuple elts x1 tpos) (.ref it) body [] env).onRaise _) _ _ s
  refine wpAny_onRaise (wpAny_mono ?_ (fun u w h=>h) (fun _ _ (h:False)=>h.elim))
  refine wpAny_bind (wpAny_standAt (wpAny_bind (wpAny_onRaise (wpAny_mono (isc (Q:=fun r s'=>r=none∧ ∃W',W.le W'∧At C sc A W' env _ _ s') I hok hr H K fun W' s' le H'=>⟨rfl,W',le,H'⟩) (fun r s' hh=> ?_) fun u w h=>h.elim))))
  obtain⟨rfl,W',le,H'⟩:=hh
  refine wpAny_pure ⟨rfl,codeAny_of_tree ?_⟩
  rw [Around.under_of_weight (A:=A) (c:= .block [] env) rfl]
  show wpAny C.M A (do return Fin.done (←(execs [] env).onRaise _)) _ _ s'
  exact wpAny_bind (wpAny_onRaise (wpAny_execs_nil (wpAny_pure (ph le H' rfl))))
 | @cons x xs' ms0 ms1 ms2 ms3 σ0 σ1 σ2 σ3 hok ha hx hl ih=>
  intro i A W env s it hd hi hr H K
  have hx0:full[i]? =some x:=by
   have e:(full.drop i)[0]? =some x:=by rw [hd];rfl
   rw [List.getElem?_drop]at e;simpa using e
  have hd':full.drop (i+1)=xs':=by
   rw [←List.drop_drop,hd];rfl
  have hi':i+1≤full.length:=(List.getElem?_eq_some_iff.mp hx0).1
  refine codeAny_of_tree ?_
  rw [Around.under_of_weight (A:=A) (c:= .forLoop (.Tuple elts x1 tpos) (.ref it) body [] env) rfl]
  show wpAny C.M A ((forTurn (.Tuple elts x1 tpos) (.ref it) body [] env).onRaise _) _ _ s
  refine wpAny_onRaise (wpAny_mono ?_ (fun u w h=>h) (fun _ _ (h:False)=>h.elim))
  refine wpAny_bind (wpAny_standAt (wpAny_bind (wpAny_onRaise (wpAny_mono (itn (Q:=fun r s'=> ∃W' rx,r=some rx∧W.le W'∧At C sc A W' env _ _ s'∧Ho C W' env src (fun i rs ob=>Md i rx rs ob) (i+1) it s'∧VR W' x rx) I hx0 hok hr H K
   fun W' rx s' le H' K' q=>⟨W',rx,rfl,le,H',K',q⟩) (fun r s' hh=> ?_) fun u w h=>h.elim))))
  obtain⟨W',rx,rfl,le,H',K',q⟩:=hh
  refine wpAny_bind (ile I H' K' fun s₁ H₁ K₁=> ?_)
  refine wpAny_bind (hoj I.jk H₁ K₁ (fun W₂ l2 H₂=>ha A W₂ env s₁ rx hr H₂ (q.mono l2)) (fun u w g m y=>trivial) fun W₂ u s₂ le₂ H₂ K₂ w=> ?_)
  refine wpAny_bind (hoj I.jk H₂ K₂ (fun W₃ l3 H₃=>hx A W₃ env s₂ hr H₃) Fl.minus fun W₃ r s₃ le₃ H₃ K₃ hfl=> ?_)
  have le':=le.trans (le₂.trans le₃)
  have go:=ih (i+1) A W₃ env s₃ it hd' hi' hr H₃ K₃
  have go':codeAny C.M A (.forLoop (.Tuple elts x1 tpos) (.ref it) body [] env) (fun r s'=>match r with | .ok fl=>Pa C sc A W env ms3 σ3 (fun W r=>Fl W .next r) fl s' | .error _=>False) s₃:=
   codeAny_mono go fun r s' hh=>by
    cases r with
    | ok fl=>obtain⟨W',l,z⟩:=hh;exact⟨W',le'.trans l,z⟩
    | error e=>exact hh
  unfold Fl at hfl;subst hfl;exact wpAny_pure ⟨rfl,go'⟩
theorem X1F {elts:List Expr} {x1:Nat} {tpos:Pos} {iter:Expr} {body:List Stmt} {pos:Pos} {v:AV} {ok:St→Prop} {xs:List AV} {src:AV} {Sh:Nat→Value→Obj→Prop} {Md:Nat→Value→Value→Obj→Prop}
  (h1:Ev C k sc ms σ iter v ms₁ σ₁) (I:ItP C k ok v xs src Sh Md) (hok:ok σ₁) (L:LrP C k sc ok (.Tuple elts x1 tpos) body xs ms₁ σ₁ ms' σ')
  (hs: ∀env x,foldedSetIterable iter env x=pure x):X1 C k sc ms σ (.For (.Tuple elts x1 tpos) iter body [] pos) .next ms' σ':=by
 intro A W env s hr H
 show wpAny C.M A (exec (.For (.Tuple elts x1 tpos) iter body [] pos) env) _ _ _
 rw [arm_exec_For]
 refine wpAny_bind (wpAny_standAt (pbi (h1 A W env s hr H) fun W₁ rv s₁ le₁ H₁ q=>wpAny_bind (wpAny_of_eq (hs _ _) (wpAny_bind (wpAny_standAt (wpAny_bind (wpAny_holding ?_)))))))
 refine isb I hok hr H₁ q fun W₂ it s₂ le₂ H₂ K₂=> ?_
 refine wpAny_runOwn (h:=none) ?_
 rw [mark_none]
 refine codeAny_mono (flo I L 0 A W₂ env s₂ it rfl (Nat.zero_le _) hr H₂ K₂) fun r s' hh=> ?_
 cases r with
 | ok fl=>obtain⟨W',l,z⟩:=hh;exact⟨W',le₁.trans (le₂.trans l),z⟩
 | error e=>exact hh.elim
noncomputable def MdI (n m:Nat) (i:Nat) (rx:Value) (rs:Value) (ob:Obj):Prop:= ∃t a ok ov,rx= .ref t∧rs= .ref a∧ob={cls:= .type "dict_itemiterator",dict:=none,data:= .fields #[rawInt t,.bool false,.ref a,.int i 0,.int m 0,.int n 0,ok,ov],slots:= #[]}
theorem Ii {l:Loc} {n:Nat} {es:List (Str×AV)} (hn:DN es) (h0:C.hx=none:=by assumption):ItP C k (fun σ=>σ l=some (.map es n)) (.fld "dict_items" [.loc l]) (es.map fun p=> .tup [.str p.1,p.2]) (.loc l) (ShI n es.length) (MdI n es.length) where
 jk:=fun i rv ob ⟨a,ok,ov,_,e⟩=>by subst e;exact⟨fun n z=>by cases z;decide,fun z=>by have:=Value.type.inj z;revert this;decide⟩
 start:=fun W σ rv A s outer ok hr hA hS I q=>by
  obtain⟨v,rd,rfl,hv,qd⟩:=fvi q I (by decide) (by decide)
  obtain⟨a,kvs,rfl,e,ns,hd,hk⟩:=I.map ok hn qd
  exact wpAny_pyIter_items ⟨_,hv,rfl,rfl⟩ hd ⟨W,s.heap.objs.size,_,.ref a,.refl W,I.same (pke _ _),rfl,Heap.get?_push_size _ rfl,I.nY,qd,⟨a,.none,.none,rfl,by rw [hk.length];rfl⟩⟩
 next:=fun i x W σ rs ob it A s outer hx ok hr hA hS I g hf q h=>by
  obtain⟨a,kvs,rfl,e,ns,hd,hk⟩:=I.map ok hn q
  obtain⟨a',ok1,ov1,ea,rfl⟩:=h
  cases ea
  rw [List.getElem?_map]at hx
  cases hes:es[i]? with
  | none=>rw [hes]at hx;cases hx
  | some p=>
   obtain⟨key,y⟩:=p
   rw [hes]at hx;cases hx
   obtain⟨v,hv,qv⟩:=hk.get hes
   rw [←hk.length]at g
   refine wpAny_pyNext_items_item (i:=i) g hd hv fun kv h' hkv hit ht hsz hkeep=> ?_
   obtain⟨tk,rfl⟩:=Value.isStrOf_shape hkv
   have I1:Inv C W σ {s with heap:=h'}:=I.but hf.1 hf.2 fun b o nb z=>hkeep b o nb z
   obtain⟨n1,n2⟩:=I.nY
   obtain⟨le,I2⟩:=I1.nF (h:=h') (t:=s.toks) (d:=s.drawn) n1 n2 (fun u w z=>z) ht
   refine⟨_,_,_,le,I2,rfl,?_,hit,⟨?_,hf.2⟩,⟨_,a,_,_,rfl,rfl,by rw [hk.length]⟩⟩
   ·unfold VR
    refine⟨_,_,[.str key tk,v],0,rfl,?_,rfl,rfl,.cons Vs (.cons (qv.mono le) .nil)⟩
    show(if _ then _ else _)=_
    rw [if_pos rfl]
   ·show(if it=_ then _ else W.fz it)=none
    have:it≠s.heap.objs.size:=Nat.ne_of_lt (Heap.lt_size g)
    rw [if_neg this];exact hf.1
 stop:=fun W σ rs ob it A s outer ok hr hA hS I g hf q h=>by
  obtain⟨a,kvs,rfl,e,ns,hd,hk⟩:=I.map ok hn q
  obtain⟨a',ok1,ov1,ea,rfl⟩:=h
  cases ea
  rw [List.length_map,←hk.length]at g
  refine wpAny_pyNext_items_end (i:=kvs.length) (hr.none h0) g hd (by rw [List.getElem?_eq_none_iff];exact Nat.le_refl _) fun h' hs'=> ?_
  exact⟨W,.refl W,I.but hf.1 hf.2 fun b o nb e=>hs' b o nb e,rfl⟩
 letgo:=fun i W σ rs rx ob it A s elts x1 pos I g hf ⟨t,a,ok,ov,e1,e2,e3⟩=>by
  subst e1 e2 e3
  refine wpAny_letOwnedTupleGo_items g fun h' hi hs=> ?_
  exact⟨_,I.but hf.1 hf.2 (fun b o nb z=>(hs.2 b nb).trans z),hi,⟨a,ok,ov,rfl,rfl⟩,fun b o nb z=>(hs.2 b nb).trans z⟩
end
end V
end
section
namespace V
open Builtin Builtin.Str
section
variable {C:Cx} {k:Nat} {sc:Scope} {A:Around} {W:Wd} {env:Env} {ms ms₁ ms₂ ms₃ ms':List (Option AV)} {σ σ₁ σ₂ σ₃ σ':St} {s:Shared}
theorem Inv.newObj {l:Loc} {o:AO} {ob:Obj} (I:Inv C W σ s) (hl:σ l=none) (g:(s.heap.push ob).get? s.heap.objs.size=some ob) {tk:Nat} (ht:s.toks≤tk)
  (r: ∀W',W.le W'→ORe C W' o ob): ∃W',W.le W'∧Inv C W' (σ.set l o) {s with heap:=s.heap.push ob,toks:=tk}∧VR W' (.loc l) (.ref s.heap.objs.size)∧W'.ρ l=some s.heap.objs.size:=by
 obtain⟨n1,n2⟩:=I.nY
 have le0:W.le (W.name l s.heap.objs.size):=⟨fun x b e=>by
  show(if x=l then _ else W.ρ x)=some b
  split
  ·rename_i z;subst z;rw [I.none_of hl]at e;cases e
  ·exact e,fun _ _ e=>e⟩
 obtain⟨le,I'⟩:=I.new (t:=tk) (d:=s.drawn) (o:=o) hl n1 n2 I.big (pke _ _) g (r _ le0) ht
 have e:(W.name l s.heap.objs.size).ρ l=some s.heap.objs.size:=by show(if _ then _ else _)=_;rw [if_pos rfl]
 exact⟨_,le,I',by unfold VR;exact⟨_,e,rfl⟩,e⟩
theorem OnD {l:Loc} (hl:σ l=none):Op C k W σ newDict (fun W r=>VR W (.loc l) r) (σ.set l (.dict [])):=by
 intro A s outer hr hA hS I
 refine wpAny_bind (wpAny_alloc (wpAny_pure ?_))
 obtain⟨W',le,I',q,_⟩:=I.newObj (o:= .dict []) (ob:={cls:= .type "dict",data:= .dict #[]}) hl (Heap.get?_push_size _ rfl) (Nat.le_refl _) (fun W' u=>⟨[],0,rfl,rfl⟩)
 exact⟨W',le,I',q⟩
theorem Ev0 {pos:Pos} (l:Loc) (hl:σ l=none):Ev C k sc ms σ (.Dict [] [] pos) (.loc l) ms (σ.set l (.dict [])):=by
 intro A W env s hr H
 rw [eval_Dict_empty]
 exact wpAny_bind (wpAny_standAt (Op.in rfl (OnD hl) hr H fun W₂ r s₂ le₂ H₂ q tk u=>ph le₂ H₂ (tk q)))
theorem XS {o i:Expr} {pos p:Pos} {ov iv:AV} (h1:Ev C k sc ms σ o ov ms₁ σ₁) (h2:Ev C k sc ms₁ σ₁ i iv ms₂ σ₂) (h3:Op2 C k σ₂ delItem ov iv (fun u v=>True) σ'):X1 C k sc ms σ (.Delete [.Subscript o i p] pos) .next ms₂ σ':=by
 intro A W env s hr H
 refine wpAny_Delete (wpAny_deleteEach_cons (PySem.wpAny_delete_Subscript (pg (h1 A W env s hr H) fun W₁ ro s₁ le₁ H₁ qo=>pg (h2 A W₁ env s₁ hr H₁) fun W₂ ri s₂ le₂ H₂ qi=> ?_)))
 have le:=ale H₂.fr
 refine Op.in rfl (h3 _ ro ri ((qo.mono le₂).mono le) (qi.mono le)) hr H₂ fun W₃ u s₃ le₃ H₃ v w g=> ?_
 exact wpAny_deleteEach_nil (ph (le₁.trans (le₂.trans le₃)) H₃ rfl)
theorem XAt {o value:Expr} {attr:Str} {tpos pos:Pos} {op:Operator} {ov a b c:AV} (h1:Ev C k sc ms σ o ov ms₁ σ₁) (h2:Op1 C k σ₁ (fun x=>getAttr x attr true) ov (fun W r=>VR W a r) σ₁) (h3:Ev C k sc ms₁ σ₁ value b ms₂ σ₂)
  (h4:Op2 C k σ₂ (inplaceOp op) a b (fun W r=>VR W c r) σ₃) (h5:Op2 C k σ₃ (fun x y=>setAttr x attr y) ov c (fun u v=>True) σ'):X1 C k sc ms σ (.AugAssign (.Attribute o attr tpos) op value pos) .next ms₂ σ':=by
 intro A W env s hr H
 refine wpAny_AugAssign_AttributeAny (pg (h1 A W env s hr H) fun W₁ ro s₁ le₁ H₁ qo=> ?_)
 have la:=ale H₁.fr
 refine Op.in rfl (h2 _ ro (qo.mono la)) hr H₁ fun W₂ ra s₂ le₂ H₂ qa tk u=> ?_
 replace qa:=tk qa
 refine pg (h3 A _ env s₂ hr H₂) fun W₃ rb s₃ le₃ H₃ qb=> ?_
 have lb:=ale H₃.fr
 refine Op.in rfl (h4 _ ra rb ((qa.mono le₃).mono lb) (qb.mono lb)) hr H₃ fun W₄ rc s₄ le₄ H₄ qc tk' u=> ?_
 replace qc:=tk' qc
 have lc:=ale H₄.fr
 refine Op.in rfl (h5 _ ro rc ((((qo.mono le₂).mono le₃).mono le₄).mono lc) (qc.mono lc)) hr H₄ fun W₅ u s₅ le₅ H₅ v w g=> ?_
 exact ph (le₁.trans (le₂.trans (le₃.trans (le₄.trans le₅)))) H₅ rfl
theorem X1a {t u value:Expr} {pos:Pos} {v:AV} (h1:Ev C k sc ms σ value v ms₁ σ₁) (h2:As C k sc ms₁ σ₁ t v ms₂ σ₂) (h3:As C k sc ms₂ σ₂ u v ms' σ') (hs: ∀env,swapsWithSole [t,u] value pos.line env=pure false) (hw: ∀env,swappedStores [t,u] value env=pure none)
  (ht: ∀env,(assignEach [t,u] env).map (·.2)= [assign t env,assign u env]):X1 C k sc ms σ (.Assign [t,u] value pos) .next ms' σ':=by
 intro A W env s hr H
 show wpAny C.M A (exec _ env) _ _ _
 rw [exec_Assign_arm]
 refine wpAny_bind (wpAny_standAt ?_)
 rw [hs]
 refine wpAny_bind (wpAny_pure ?_)
 refine pbi (h1 A W env s hr H) fun W₁ r s₁ le₁ H₁ q=> ?_
 refine wpAny_bind (wpAny_of_eq (hw env) ?_)
 rw [ht]
 refine wpAny_bind ?_
 refine wpAny_bind (wpAny_holding (pg (h2 A W₁ env s₁ r hr H₁ q) fun W₂ w s₂ le₂ H₂ g=> ?_))
 exact pg (h3 A W₂ env s₂ r hr H₂ (q.mono le₂)) fun W₃ w s₃ le₃ H₃ g=>wpAny_pure (ph (le₁.trans (le₂.trans le₃)) H₃ rfl)
end
end V
end
section
namespace V
open Builtin Builtin.Str
section
variable {C:Cx} {k:Nat} {sc:Scope} {A:Around} {W:Wd} {env:Env} {ms ms₁ ms₂ ms₃ ms':List (Option AV)} {σ σ₁ σ₂ σ₃ σ':St} {s:Shared}
noncomputable def Cd (C:Cx) (k:Nat) (σ:St) (f:AV) (as:List AV) (kw:List (Str×AV)) (v:AV) (σ':St):Prop:=
 ∀W rf ras rkw,VR W f rf→VRe W as ras→KR W kw rkw→ ∀A s outer,Ro C A k→A.frames=some outer→Stk C W outer→Inv C W σ s→
  codeAny C.M A (.call rf ⟨ras,rkw⟩) (fun r s'=>match r with | .ok (.ret r)=> ∃W',W.le W'∧Inv C W' σ' s'∧VR W' v r | _=>False) s
theorem Cd.ca {f:AV} {as:List AV} {kw:List (Str×AV)} {v:AV} (h:Cd C k σ f as kw v σ'):Ca C k σ f as kw v σ':=
 fun W rf ras rkw hf ha hk A s outer hr hA hS I=>wpAny_call (codeAny_mono (h W rf ras rkw hf ha hk A s outer hr hA hS I) fun r s' z=>by
  rcases r with e | (v | _ | _ | _)<;>first | exact z | exact z.elim)
theorem Cd_def {fa:Addr} {fd:FuncData} {body:List Stmt} {as:List AV} {kw:List (Str×AV)} {v:AV} (O:C.Ok) (hF:Fn C fa fd body)
  (h: ∀n,(∀l:Loc,n≤l.tag→σ l=none)→ ∃bs σ₁ f ms' σf,Bd C k fd σ as kw bs σ₁∧(fd.scope.names.take bs.length).map (·.1)=bs.map (·.1)∧(∀p∈fd.scope.names.take bs.length,p.2= .local∨p.2= .cell)∧
   Ex C k fd.scope (mOf fd.scope bs) σ₁ body f ms' σf∧Exit σ σf f v σ'):Cd C (k+1) σ (.ext fa) as kw v σ':=by
 intro W rf ras rkw hf has hkw A s outer hr hA hS I
 unfold VR at hf;subst hf
 obtain⟨n,hn⟩:=I.free
 obtain⟨bs,σ₁,f,ms',σf,hb,hms,hkind,hx,ex⟩:=h n hn
 obtain⟨oc,od,osl,hK⟩:=hF.here
 have ho:=I.kept _ _ (O.kin _ _ hK)
 refine codeAny_call_function (fd:=fd) hr.depth ho rfl hF.co hF.gen hF.body (codeRec_of (O.kin.keeps I.kept) hF.code) ?_
 refine wpAny_mono (hb W ras rkw has hkw A.in1 s outer hr.in1 hA hS I) (fun binds s₁ ⟨W₁,le₁,I₁,hb₁⟩=> ?_) fun u w h=>h.elim
 rw [hF.globals,hF.builtins,hF.closure]
 refine wpAny_mono (nen (A:=A) hF.ok I₁ hA (hS.mono le₁) hb₁ hms hkind (Q:=fun env s'=>At C fd.scope (A.deeper env) W₁ env (mOf fd.scope bs) σ₁ s') fun env s' H=>H) (fun env s₂ H=> ?_) fun u w h=>h.elim
 refine⟨O.nolimit.keeps H.inv.kept,codeAny_func ?_⟩
 refine wpAny_mono (hx (A.deeper env) W₁ env s₂ hr.deeper H) (fun fl s' ⟨W₂,le₂,H₂,hf⟩=> ?_) fun u w h=>h.elim
 obtain⟨W₃,le₃,I₃,q⟩:=ex.go I (le₁.trans le₂) H₂.inv hf
 cases fl<;>exact⟨W₃,le₃,I₃,q⟩
theorem Cnm {fa:Addr} {fd:FuncData} {body:List Stmt} {as:List AV} {kw:List (Str×AV)} {v:AV} (O:C.Ok) (hF:Fn C fa fd body) (names:List (Str×NameKind)) (hsc:fd.scope.names=names) (bs:List (Str×AV)) (σ₁:St)
  (hb:Bd C k fd σ as kw bs σ₁) (h1:(names.take bs.length).map (·.1)=bs.map (·.1)) (h2:((names.take bs.length).all fun p=>p.2== .local || p.2== .cell)=true)
  (h: ∀sc,Facts sc names 0→ ∀n,(∀l:Loc,n≤l.tag→σ l=none)→ ∃f ms' σf,Ex C k sc (bs.map (fun p=>some p.2)++List.replicate (names.length - bs.length) none) σ₁ body f ms' σf∧Exit σ σf f v σ'):Cd C (k+1) σ (.ext fa) as kw v σ':=by
 refine Cd_def O hF fun n hn=> ?_
 obtain⟨f,ms',σf,h3,h4⟩:=h fd.scope (fof hsc) n hn
 refine⟨bs,σ₁,f,ms',σf,hb,by rw [hsc];exact h1,fun p hp=> ?_,?_,h4⟩
 ·rw [hsc]at hp
  have:=List.all_eq_true.mp h2 p hp
  simpa using this
 ·unfold mOf;rw [hsc];exact h3
theorem sap {l x:Loc} {o:AO}:(σ.set l o) x=if x=l then some o else σ x:=rfl
theorem Cm (O:C.Ok) {c fi:Addr} {l d:Loc} {as:List AV} {kw:List (Str×AV)} (hm:makesIn C.K c=true) (hi:findIn C.K (.ref c) "__init__"=some (some (.ref fi))) (hf:typeIn C.K (.ref fi)=some (.type "function"))
  (hl:σ l=none) (hd:σ d=none) (hld:l≠d) (h:Cd C k ((σ.set d (.dict [])).set l (.inst c d)) (.ext fi) (.loc l::as) kw .none σ'):Ca C (k+1) σ (.ext c) as kw (.loc l) σ':=by
 intro W rf ras rkw qf qa qk A s outer hr hA hS I
 unfold VR at qf;subst qf
 obtain⟨hh,g,dr,t,os⟩:=s
 have X:=kno O I
 refine wpAny_call (make_core (makes_of X hm) (looks_findIn X hi) (fun self=>bind_fn X self hf) (.inl rfl) ?_)
 obtain⟨W1,le1,I1,q1,e1⟩:=I.newObj (l:=d) (o:= .dict []) (ob:=emptyDict) (tk:=t) hd (Heap.get?_push_size _ rfl) (Nat.le_refl _) (fun W' u=>⟨[],0,rfl,rfl⟩)
 obtain⟨W2,le2,I2,q2,e2⟩:=I1.newObj (l:=l) (o:= .inst c d) (ob:=instObj c hh.objs.size) (tk:=t) (by rw [sap,if_neg hld];exact hl) (Heap.get?_push_size _ rfl) (Nat.le_refl _) (fun W' le=>⟨_,le.1 _ _ e1,rfl⟩)
 have hsz:(hh.push emptyDict).objs.size=hh.objs.size+1:=Heap.size_push ..
 dsimp only at I2 q2
 rw [hsz]at q2
 have le:=le1.trans le2
 have hu:Ro C (A.under (.builtin "type.__call__" ⟨.ref c::ras,rkw⟩)) k:=by
  refine⟨?_,?_,hr.2.2⟩
  ·have:=hr.1;show A.depth+1+2 * k+2<_;omega
  ·have:=hr.2.1
   have e:(A.under (Code.builtin "type.__call__" {pos:=Value.ref c::ras,kw:=rkw})).units≤A.units+4:=by
    show A.units+(1+3 * (Code.builtin "type.__call__" {pos:=Value.ref c::ras,kw:=rkw}).frames)≤_
    have:(Code.builtin "type.__call__" {pos:=Value.ref c::ras,kw:=rkw}).frames=0:=by kernel_rfl
    omega
   omega
 refine codeAny_mono (h W2 (.ref fi) (.ref (hh.objs.size+1)::ras) rkw (by unfold VR;rfl) (.cons q2 (qa.mono le)) (qk.mono le) _ _ outer hu (by exact hA) (hS.mono le) I2) fun r s' z=> ?_
 rcases r with e | (v | _ | _ | _)<;>first | exact z.elim | skip
 obtain⟨W3,le3,I3,qv⟩:=z
 unfold VR at qv;subst qv
 exact⟨rfl,W3,le.trans le3,I3,q2.mono le3⟩
noncomputable def IsI (σ:St) (l:Loc) (c:Addr) (d:Loc) (vs:List (Option AV)):Prop:=(σ l=some (.inst c d)∧vs= [])∨σ l=some (.slots c d vs)
theorem IsI.at {l d:Loc} {c:Addr} {vs:List (Option AV)} {rv:Value} (h:IsI σ l c d vs) (I:Inv C W σ s) (q:VR W (.loc l) rv):
  ∃x dx sl od,rv= .ref x∧W.ρ l=some x∧s.heap.get? x=some {cls:= .ref c,dict:=some dx,data:= .plain,slots:=List.toArray sl}∧W.ρ d=some dx∧SRe W vs sl∧
   InstAt s.heap x {cls:= .ref c,dict:=some dx,data:= .plain,slots:=List.toArray sl} c (some od):=by
 obtain⟨x,e,rfl⟩:=q
 have key: ∃dx sl,s.heap.get? x=some {cls:= .ref c,dict:=some dx,data:= .plain,slots:=List.toArray sl}∧W.ρ d=some dx∧SRe W vs sl:=by
  rcases h with⟨h,rfl⟩ | h
  ·obtain⟨ob,h1,dx,h2,rfl⟩:=I.obj l x _ e h
   exact⟨dx,[],h1,h2,rfl⟩
  ·obtain⟨ob,h1,dx,sl,h2,rfl,h3⟩:=I.obj l x _ e h
   exact⟨dx,sl,h1,h2,h3⟩
 obtain⟨dx,sl,h1,h2,h3⟩:=key
 have hd:=I.dom d
 rw [h2]at hd
 obtain⟨o,ho⟩:=Option.isSome_iff_exists.mp hd.symm
 obtain⟨od,h4,_⟩:=I.obj d dx o h2 ho
 exact⟨x,dx,sl,od,rfl,e,h1,h2,h3,⟨h1,rfl,rfl,h4⟩⟩
theorem SRe.get {vs:List (Option AV)} {sl:List (Option Value)} (h:SRe W vs sl): ∀{i:Nat} {v:AV},vs[i]? =some (some v)→ ∃r,(sl[i]?).join=some r∧VR W v r:=by
 induction vs generalizing sl with
 | nil=>intro i v e;simp at e
 | cons p r ih=>
  intro i v e
  cases p with
  | none=>
   obtain⟨vs',rfl,h⟩:=h
   cases i with
   | zero=>simp at e
   | succ i=>simp at e;obtain⟨u,hu,z⟩:=ih h e;exact⟨u,by simpa using hu,z⟩
  | some y=>
   obtain⟨u,vs',rfl,q,h⟩:=h
   cases i with
   | zero=>simp at e;subst e;exact⟨u,by simp,q⟩
   | succ i=>simp at e;obtain⟨u',hu,z⟩:=ih h e;exact⟨u',by simpa using hu,z⟩
noncomputable def spu (vs:List (Option AV)) (i:Nat) (v:AV):List (Option AV):=(vs++List.replicate (i+1 - vs.length) none).set i (some v)
theorem SRe.length: ∀{vs:List (Option AV)} {sl:List (Option Value)},SRe W vs sl→sl.length=vs.length
 | [],_,h=>by unfold SRe at h;subst h;rfl
 | none::r,_,h=>by unfold SRe at h;obtain⟨vs',rfl,h⟩:=h;simp [SRe.length h]
 | some _::r,_,h=>by unfold SRe at h;obtain⟨_,vs',rfl,_,h⟩:=h;simp [SRe.length h]
theorem SRe.app: ∀{vs:List (Option AV)} {sl:List (Option Value)} (n:Nat),SRe W vs sl→SRe W (vs++List.replicate n none) (sl++List.replicate n none)
 | [],_,n,h=>by
  unfold SRe at h;subst h
  induction n with
  | zero=>rfl
  | succ n ih=>exact⟨_,rfl,ih⟩
 | none::r,_,n,h=>by unfold SRe at h;obtain⟨vs',rfl,h⟩:=h;exact⟨_,rfl,SRe.app n h⟩
 | some _::r,_,n,h=>by unfold SRe at h;obtain⟨u,vs',rfl,q,h⟩:=h;exact⟨u,_,rfl,q,SRe.app n h⟩
theorem SRe.set {v:AV} {r:Value} (q:VR W v r): ∀{vs:List (Option AV)} {sl:List (Option Value)} (i:Nat),SRe W vs sl→SRe W (vs.set i (some v)) (sl.set i (some r))
 | [],_,i,h=>by unfold SRe at h;subst h;rfl
 | none::t,_,i,h=>by
  obtain⟨vs',rfl,h⟩:=h
  cases i with
  | zero=>exact⟨r,_,rfl,q,h⟩
  | succ i=>exact⟨_,rfl,SRe.set q i h⟩
 | some _::t,_,i,h=>by
  obtain⟨u,vs',rfl,q',h⟩:=h
  cases i with
  | zero=>exact⟨r,_,rfl,q,h⟩
  | succ i=>exact⟨u,_,rfl,q',SRe.set q i h⟩
theorem SRe.put {v:AV} {r:Value} {vs:List (Option AV)} {sl:List (Option Value)} {i:Nat} (h:SRe W vs sl) (q:VR W v r):SRe W (spu vs i v) ((sl++List.replicate (i+1 - sl.length) none).set i (some r)):=by
 rw [h.length]
 exact(h.app _).set q i
theorem Osl (O:C.Ok) {l d:Loc} {c p:Addr} {g:Value} {vs:List (Option AV)} {name:Str} {v:AV} {i:Nat} (hl:IsI σ l c d vs) (hga:findIn C.K (.ref c) "__getattribute__"=some (some (.builtin "object.__getattribute__"))) (hk:findIn C.K (.ref c) "__getattr__"=some none)
  (hc:(clsIn C.K c).isSome=true) (ha:findIn C.K (.ref c) name=some (some (.ref p))) (hn:specialIn C.K (.ref p) "__get__"=some (some (.builtin "member_descriptor.__get__"))) (ht:takesIn C.K (.ref p)=some true) (hp:slotIn C.K p c=some i)
  (hi:vs[i]? =some (some v)) (hv: ∀id,v≠ .bi id) (ha':v≠ .any):Op1 C k σ (fun x=>getAttr x name true) (.loc l) (fun W r=>VR W v r) σ:=by
 intro W ra q
 refine Op.look fun A s Q hr I hq=> ?_
 obtain⟨x,dx,sl,od,rfl,ex,hx,hdx,hs,IA⟩:=hl.at I q
 obtain⟨r,hr',qr⟩:=hs.get hi
 have X:=kno O I
 exact get_bind X IA hga (findObj_data hc ha hn ht) hk (wpAny_call (slot_get (s:={s with toks:=s.toks+1}) X IA hp (by simpa using hr') (handed_on (hoq qr hv ha') (hq _ _ qr))))
end
section
variable {prog:Program} {w:World} {A:Around} {E:Value→Shared→Prop} {s:Shared} {K:Frag} {R:Result→Shared→Prop}
theorem lsl {x C p i:Nat} {ox ox':Obj} {od:Option Obj} {v:Value} (X:K.In s.heap) (I:InstAt s.heap x ox C od) (hp:slotIn K p C=some i) (hi:i<1000)
  (e:{ox with slots:=(ox.slots++Array.replicate (i+1 - ox.slots.size) none).setIfInBounds i (some v)}=ox')
  (h:R (.ok (.ret .none)) {s with heap:=s.heap.update x fun o=>{o with slots:=(o.slots++Array.replicate (i+1 - o.slots.size) none).setIfInBounds i (some v)}}):
  codeAny (model prog w) A (.call (.builtin "member_descriptor.__set__") ⟨[.ref p,.ref x,v],[]⟩) R s:=by
 obtain⟨n,tn,owner,behind,tb,d,sl,cd,ho,hc,hm,hb,rfl⟩:=slot_of X hp
 obtain⟨hh,g,dr,t,os⟩:=s
 have T:=I.type (M:=model prog w)
 have M1:=looks_mroIn (M:=model prog w) X hm
 have M2:Looks (model prog w) hh (Slots.slotNamesOf (.ref C)) cd.slotNames:=(looks_clsIn X hc).andThen .now
 have hx:=I.at_
 dsimp only at ho hx T M1
 have g0:=looks_field (M:=model prog w) ho 0 (v:= .str n tn) rfl
 have g1:=looks_field (M:=model prog w) ho 1 (v:=owner) rfl
 have g3:=looks_field (M:=model prog w) ho 3 (v:= .builtin "proto.slot#set") rfl
 have g4:=looks_field (M:=model prog w) ho 4 (v:= .int behind tb) rfl
 have g5:Looks (model prog w) hh (Builtin.Getset_descriptor.descrItself (.ref p)) [.ref p]:=((Looks.ld (part:=none) ho).andThen .now).andThen (Looks.of_pure (by kernel_rfl))
 refine codeAny_call_builtin KF.slot_mset.plain KF.entry_mset (KF.slot_mset.check _ _ _ _ _ _ _ _ ⟨_,ho,rfl⟩ (KF.args_mset _ _ _) ?_)
 unfold Builtin.«member_descriptor.__set__» Builtin.Getset_descriptor.descrSet Builtin.Getset_descriptor.descrStoreThrough Builtin.Getset_descriptor.descrCheckInstance Builtin.Getset_descriptor.descrNameAndClass isInstance
 repeat lk
 refine⟨Code.quiet_builtin _ (by decide+kernel),codeAny_builtin KF.entry_slotset ?_⟩
 unfold Builtin.«proto.slot#set» Slots.target
 repeat lk
 rw [if_neg hb]
 refine wpAny_pure (wpAny_bind ?_)
 unfold setSlotAt
 dsimp only
 rw [if_neg (by rw [sizeLine_eq];omega)]
 exact wpAny_updatePart hx (wpAny_pure h)
end
section
variable {C:Cx} {k:Nat} {W:Wd} {σ σ':St}
theorem OsS (O:C.Ok) {l d:Loc} {c p:Addr} {vs:List (Option AV)} {name:Str} {v:AV} {i:Nat} (hl:IsI σ l c d vs) (hs:findIn C.K (.ref c) "__setattr__"=some (some (.builtin "object.__setattr__")))
  (hp:plainOver C.K c=true) (ht:takerIn C.K c name=some (some (.ref p))) (hT:typeIn C.K (.ref p)=some (.type "member_descriptor")) (hi:slotIn C.K p c=some i) (hz:i<1000):
  Op2 C k σ (fun x y=>setAttr x name y) (.loc l) v (fun u w=>True) (σ.set l (.slots c d (spu vs i v))):=by
 intro W ra rb q qv A s outer hr hA hS I
 obtain⟨x,dx,sl,od,rfl,ex,hx,hdx,hsl,IA⟩:=hl.at I q
 have X:=kno O I
 refine set_plain X IA hs (osa_descr (s:={s with toks:=s.toks+1}) KF.slot_mset (show C.K.In s.heap from X) IA hp ht hT (lsl (s:={s with toks:=s.toks+1}) (show C.K.In s.heap from X) IA hi hz rfl ?_))
 refine⟨W,.refl W,I.upd (t:=s.toks+1) (d:=s.drawn) ex (uke _ _ _) (Heap.get?_update_self _ hx rfl) ⟨dx,_,hdx,?_,hsl.put qv (i:=i)⟩ (by omega),trivial⟩
 have e:(sl++List.replicate (i+1 - sl.length) none).toArray.setIfInBounds i (some rb)=((sl++List.replicate (i+1 - sl.length) none).set i (some rb)).toArray:=by simp
 rw [←e]
 have e2:(sl++List.replicate (i+1 - sl.length) none).toArray=sl.toArray++Array.replicate (i+1 - sl.toArray.size) none:=by
  apply Array.ext'
  simp
 rw [e2]
end
end V
end
section
namespace V
open Builtin Builtin.Str
section
variable {C:Cx} {k:Nat} {sc:Scope} {A:Around} {W:Wd} {env:Env} {ms ms₁ ms₂ ms₃ ms':List (Option AV)} {σ σ₁ σ₂ σ₃ σ':St} {s:Shared}
theorem Ob (O:C.Ok) {l d:Loc} {c f:Addr} {es:List (Str×AV)} {name:Str} (hl:σ l=some (.inst c d)) (hd:σ d=some (.dict es)) (hga:findIn C.K (.ref c) "__getattribute__"=some (some (.builtin "object.__getattribute__"))) (hk:findIn C.K (.ref c) "__getattr__"=some none)
  (ht:typeIn C.K (.ref f)=some (.type "function"))
  (hf: ∀(xs:List (Tok×Value)) (n:Nat),xs.length=es.length→findObj C.K c (some (tabOf C.w.params (es.map (·.1)) xs n)) name=some (.bind (.builtin "function.__get__") (.ref f))):
  Op1 C k σ (fun x=>getAttr x name true) (.loc l) (fun W r=>VR W (.bm f l) r) σ:=by
 intro W ra q A s outer hr hA hS I
 obtain⟨x,dx,xs,n,rfl,hdx,IA,_,hlen,hvs⟩:=I.inst hl hd q
 obtain⟨x',ex,exx⟩:=q
 cases exx
 have X:=kno O I
 refine get_bind X IA hga (hf xs n hlen) hk (wpAny_call (fn_get (s:={s with toks:=s.toks+1}) X ht ?_))
 refine handed_on rfl ?_
 obtain⟨n1,n2⟩:=I.nY
 have g:(s.heap.push (methodObj (.ref f) (.ref x))).get? s.heap.objs.size=some (methodObj (.ref f) (.ref x)):=Heap.get?_push_size _ rfl
 obtain⟨le,I'⟩:=I.nF (t:=s.toks+1) (d:=s.drawn) n1 n2 (pke _ _) g
 refine⟨_,le,I',?_⟩
 refine⟨x,s.heap.objs.size,methodObj (.ref f) (.ref x),le.1 _ _ ex,rfl,?_,rfl,rfl⟩
 show(if _ then _ else _)=_
 rw [if_pos rfl]
theorem Ca_bm {l:Loc} {f:Addr} {as:List AV} {kw:List (Str×AV)} {v:AV} (h:Cd C k σ (.ext f) (.loc l::as) kw v σ'):Ca C k σ (.bm f l) as kw v σ':=by
 intro W rf ras rkw qf qa qk A s outer hr hA hS I
 obtain⟨a,b,o,e,rfl,hb,c1,c2⟩:=qf
 have ho:=I.frozen hb (by rw [c1];decide)
 obtain⟨oc,od,dt,sl⟩:=o
 simp only at c1 c2
 subst c1 c2
 refine wpAny_call (codeAny_of_tree ?_)
 show wpAny _ A.in1 (callAny (.ref b) _) _ _ _
 refine wpAny_bind (wpAny_load ho ?_)
 refine wpAny_pure ⟨rfl,?_⟩
 refine codeAny_mono (h W (.ref f) (.ref a::ras) rkw (by unfold VR;rfl) (.cons (by unfold VR;exact⟨a,e,rfl⟩) qa) qk A s outer hr hA hS I) fun r s' z=> ?_
 rcases r with e | (v | _ | _ | _)<;>first | exact z | exact z.elim
theorem sOl {v:AV} {xs:List AV} {rv:Value} {Q:List Value→Shared→Prop} (h:IsL σ v xs) (hz:xs.length≤sizeLine) (I:Inv C W σ s) (q:VR W v rv) (g: ∀h' vs,(∀b o,s.heap.get? b=some o→h'.get? b=some o)→VRe W xs vs→Q vs {s with heap:=h'}):StarOf C.M A No rv Q s:=by
 obtain⟨la,vs,n,rfl,hl,ks⟩:=h.is q I
 have hT:s.TypeIs (.ref la) "list":=⟨_,hl,rfl⟩
 refine wpAny_bind (wpAny_specialOf hT PySem.F.slot_list_iter.lookup (wpAny_pure ⟨rfl,?_⟩))
 exact wpAny_collect_seq la (.inl rfl) hl rfl rfl (fun h' hk=>g h' _ hk (by simpa using ks)) (by simp [ks.length];exact hz)
theorem sat {v:AV} {xs:List AV} {rv:Value} {Q:List Value→Shared→Prop} (h:IsL σ v xs) (hz:xs.length≤sizeLine) (H:At C sc A W env ms σ s) (q:VR W v rv) (g: ∀s' vs,At C sc A W env ms σ s'→VRe W xs vs→Q vs s'):StarOf C.M A No rv Q s:=by
 refine sOl h hz H.inv q fun h' vs hk ks=>g _ vs ⟨H.inv.same hk,?_⟩ ks
 have F:=H.fr
 obtain⟨mr,hn,hv⟩:=F.ns
 refine⟨F.scope,F.globals,F.builtins,F.ok,⟨mr,?_,hv⟩,fun i x hx=> ?_,F.apL,fun x a hx=> ?_,F.injC,?_,?_⟩
 ·obtain⟨o,es,ep,ho,hd,r⟩:=hn
  exact⟨o,es,ep,hk _ _ ho,hd,r⟩
 ·obtain⟨a,ov,h1,⟨o,ho,hd⟩,h3⟩:=F.cells i x hx
  exact⟨a,ov,h1,⟨o,hk _ _ ho,hd⟩,h3⟩
 ·obtain⟨h1,h2,h3,ov,o,ho,hd⟩:=F.apC x a hx
  exact⟨h1,h2,h3,ov,o,hk _ _ ho,hd⟩
 ·obtain⟨o,es,n,ho,hc⟩:=F.clsL
  exact⟨o,es,n,hk _ _ ho,hc⟩
 ·obtain⟨fenv,rest,L,h1,h2,h3,h4,h5,h6,h7⟩:=F.stk
  refine⟨fenv,rest,L,h1,h2,h3,h4,h5,h6,?_⟩
  rcases h7 with⟨rfl,o,es,n,ho,hc1,hd⟩ | z
  ·exact .inl ⟨rfl,o,es,n,hk _ _ ho,hc1,hd⟩
  ·exact .inr z
theorem mbo {o:Expr} {name:Str} {apos pos:Pos} {args:List Expr} {kws:List Keyword} {ov f:AV} {Q:Value→Shared→Prop} (h1:Ev C k sc ms σ o ov ms₁ σ₁) (hm:Op1 C k σ₁ (fun x=>getAttr x name true) ov (fun W r=>VR W f r) σ₁)
  (hb: ∀env t,attributeBase o name env t=t) (hf:methodCallForm (args.length+kws.length) (backTo pos (starEach args env)) (backToKw pos (keywordEach kws env))=false) (hr:Ro C A k) (H:At C sc A W env ms σ s)
  (g: ∀W' rf s',W.le W'→At C sc A W' env ms₁ σ₁ s'→VR W' f rf→wpAny C.M A (callWith pos rf [] (backTo pos (starEach args env)) (backToKw pos (keywordEach kws env))) Q No s'):wpAny C.M A (eval (.Call (.Attribute o name apos) args kws pos) env) Q No s:=by
 rw [eMC,hb]
 refine pbi (h1 A W env s hr H) fun W₁ ro s₁ le₁ H₁ qo=>wpAny_bind (wpAny_standAt ?_)
 unfold methodCall
 rw [hf]
 refine wpAny_bind (wpAny_holding ?_)
 refine wpAny_bind ?_
 refine Op.in rfl (hm _ ro (qo.mono (ale H₁.fr))) hr H₁ fun W₂ r s₂ le₂ H₂ q tk u=> ?_
 refine wpAny_pure ?_
 have hp:methodCallPos false o env apos pos=pure pos:=by unfold methodCallPos;simp
 exact wpAny_bind (wpAny_of_eq hp (g _ r s₂ (le₁.trans le₂) H₂ (tk q)))
theorem EBS {o e:Expr} {name:Str} {apos pos p:Pos} {ov f v b:AV} {xs:List AV} (h1:Ev C k sc ms σ o ov ms₁ σ₁) (hm:Op1 C k σ₁ (fun x=>getAttr x name true) ov (fun W r=>VR W f r) σ₁) (h2:Ev C k sc ms₁ σ₁ e b ms₂ σ₂) (hl:IsL σ₂ b xs) (hz:xs.length≤sizeLine) (hk:Kp C f) (h3:Ca C k σ₂ f xs [] v σ')
  (hb: ∀env t,attributeBase o name env t=t) (hf: ∀env,methodCallForm 1 (backTo pos (starEach [.Starred e p] env)) []=false) (he: ∀env,starEach [.Starred e p] env= [(true,eval e env)]):
  Ev C k sc ms σ (.Call (.Attribute o name apos) [.Starred e p] [] pos) v ms₂ σ':=by
 intro A W env s hr H
 refine mbo (kws:= []) h1 hm hb (hf env) hr H fun W₁ rf s₁ le₁ H₁ qf=> ?_
 rw [he]
 refine cW ?_
 show wpAny C.M A (evalArgs rf true [(true,do let v←eval e env;standAt pos;pure v)] []) _ _ _
 refine ks_lone (pg (h2 A W₁ env s₁ hr H₁) fun W₂ rb s₂ le₂ H₂ qb=>sat hl hz H₂ qb fun s₃ us H₃ qs=>⟨hk _ _ _ _ H₃.inv (qf.mono le₂),?_⟩)
 exact h3.in hr H₃ (qf.mono le₂) qs .nil fun W₃ r s₃ le₃ H₃ q=>ph (le₁.trans (le₂.trans le₃)) H₃ q
end
end V
end
section
namespace V
open Builtin Builtin.Str
section
variable {prog:Program} {w:World} {A:Around} {E:Value→Shared→Prop} {s:Shared}
noncomputable abbrev K0 (prog:Program) (w:World):=PySem.strKind prog w
noncomputable abbrev tab (es:List DictEntry) (n:Nat):Obj:={cls:= .type "dict",data:= .dict es.toArray n}
end
end V
end
section
namespace V
open Builtin Builtin.Str
section
variable {prog:Program} {w:World} {A:Around} {E:Value→Shared→Prop} {s:Shared}
end
section
variable {C:Cx} {k:Nat} {sc:Scope} {A:Around} {W:Wd} {env:Env} {ms ms₁ ms₂ ms₃ ms':List (Option AV)} {σ σ₁ σ₂ σ₃ σ':St} {s:Shared}
end
end V
end
section
namespace V
open Builtin Builtin.Str
section
variable {prog:Program} {w:World} {A:Around} {E:Value→Shared→Prop} {s:Shared}
theorem ns_new {d:Addr} {es:List DictEntry} {n:Nat} {x:Str} {v:Value} {kvs:List (Str×Value)} {Q:Unit→Shared→Prop} (hd:s.heap.get? d=some (tab es n)) (hp:Pairs (K0 prog w) es kvs) (hx:x∉kvs.map (·.1))
  (h: ∀h' t,h'.get? d=some (tab (es++ [⟨(K0 prog w).hash x,.str x t,v⟩]) (n+1))→Heap.SameBut d s.heap h'→Q () {s with heap:=h',toks:=s.toks+1}):wpAny (model prog w) A (nsSet d x v) Q E s:=by
 have hno:es.toArray.findIdx? (fun e=>e.key.isStr x)=none:=by
  rw [List.findIdx?_toArray,List.findIdx?_eq_none_iff]
  intro e he
  obtain⟨i,hi⟩:=List.getElem?_of_mem he
  have hl:i<kvs.length:=by rw [←hp.length];exact(List.getElem?_eq_some_iff.mp hi).1
  obtain⟨h1,_⟩:=hp.get? (k:=(kvs[i]).1) (v:=(kvs[i]).2) hi (List.getElem?_eq_getElem hl)
  obtain⟨t,ht⟩:=Value.isStrOf_shape h1
  rw [ht]
  cases q:(Value.str (kvs[i]).1 t).isStr x with
  | false=>rfl
  | true=>
   have:(kvs[i]).1=x:=by simpa [Value.isStr]using q
   exact absurd (this▸List.mem_map.mpr ⟨_,List.getElem_mem hl,rfl⟩) hx
 have href:es.any (·.refKey)=false:=by
  rw [List.any_eq_false]
  intro e he hh
  obtain⟨i,hi⟩:=List.getElem?_of_mem he
  have hl:i<kvs.length:=by rw [←hp.length];exact(List.getElem?_eq_some_iff.mp hi).1
  obtain⟨h1,_⟩:=hp.get? (k:=(kvs[i]).1) (v:=(kvs[i]).2) hi (List.getElem?_eq_getElem hl)
  obtain⟨t,ht⟩:=Value.isStrOf_shape h1
  unfold DictEntry.refKey at hh
  rw [ht]at hh
  simp at hh
 have hany:es.toArray.any (·.refKey)=false:=by
  rw [List.any_toArray];exact href
 intro Γ p hΓ
 simp only [nsSet,strHash,Sem.wp_bind',Sem.wp_cmd_ask,Sem.wp_pure',Sem.wp_cmd_mkText]
 rw [Sem.wp_loadPart_of (model prog w) Γ _ p {s with toks:=s.toks+1} (o:=tab es n) _ hd]
 simp only [aRefKeyMayBeTheName_eq,aRefKeyMayBeTheNameByArray,hany,Bool.and_false,Bool.false_eq_true,if_false,Sem.wp_cmd_updatePart]
 refine⟨by rw [hd];rfl,?_⟩
 have e:Obj.putName x (PyData.keyHash w.params x) (.str x s.toks) v (tab es n)=tab (es++ [⟨(K0 prog w).hash x,.str x s.toks,v⟩]) (n+1):=by
  simp only [Obj.putName_eq,Obj.putNameByArray,hno]
  simp
  rfl
 have g:=Heap.get?_update_self (Obj.putName x (PyData.keyHash w.params x) (.str x s.toks) v) hd (by rw [e];rfl)
 rw [e]at g
 exact h _ _ g (Heap.SameBut.update ..)
end
section
variable {C:Cx} {k:Nat} {sc:Scope} {A:Around} {W:Wd} {env:Env} {ms ms₁ ms₂ ms₃ ms':List (Option AV)} {σ σ₁ σ₂ σ₃ σ':St} {s:Shared}
theorem KR.appK {x:Str} {v:AV} {r:Value} (q:VR W v r): ∀{bs:List (Str×AV)} {ks:List (Str×Value)},KR W bs ks→KR W (bs++ [(x,v)]) (ks++ [(x,r)])
 | [],_,h=>by unfold KR at h;subst h;exact⟨r,[],rfl,q,rfl⟩
 | (n,y)::bs,_,h=>by
  obtain⟨u,ks',rfl,a,b⟩:=h
  exact⟨u,ks'++ [(x,r)],rfl,a,KR.appK q b⟩
theorem Bk {fd:FuncData} {as:List AV} {bs kw:List (Str×AV)} {x:Str} {l:Loc} (hl:σ l=none) (hn:DN kw)
  (h: ∀ras:List Value,ras.length=as.length→ ∀rkw:List (Str×Value),rkw.map (·.1)=kw.map (·.1)→ ∃f:Addr→Str×Value→PUnit→Sem (ForInStep PUnit),bindArgs fd ⟨ras,rkw⟩=(alloc {cls:= .type "dict",data:= .dict #[]}>>=fun d=>forIn rkw ⟨⟩ (f d)>>=fun _=>pure ((bs.map (·.1)).zip ras++ [(x,.ref d)]))∧
   ∀d n v u,f d (n,v) u=(nsSet d n v>>=fun _=>pure (.yield ⟨⟩)))
  (hb:bs.map (·.2)=as):Bd C k fd σ as kw (bs++ [(x,.loc l)]) (σ.set l (.dict kw)):=by
 intro W ras rkw ha hk A s outer hr hA hS I
 obtain⟨f,e,hf⟩:=h ras ha.length rkw hk.keys
 rw [e]
 refine wpAny_bind (wpAny_alloc ?_)
 obtain⟨n1,n2⟩:=I.nY
 have hnd:(rkw.map (·.1)).Nodup:=by rw [hk.keys];exact hn
 have run: ∀(rest done:List (Str×Value)) (es:List DictEntry) (n:Nat) (s':Shared) (P:PUnit→Shared→Prop),done++rest=rkw→s'.heap.get? s.heap.objs.size=some (tab es n)→Pairs (sk C) es done→PySem.KeysOf (sk C) es.toArray→
   (∀b o,b≠s.heap.objs.size→s.heap.get? b=some o→s'.heap.get? b=some o)→s.toks≤s'.toks→s'.gens=s.gens→s'.os=s.os→
   (∀(es:List DictEntry) (n:Nat) (s'':Shared),s''.heap.get? s.heap.objs.size=some (tab es n)→Pairs (sk C) es rkw→PySem.KeysOf (sk C) es.toArray→(∀b o,b≠s.heap.objs.size→s.heap.get? b=some o→s''.heap.get? b=some o)→s.toks≤s''.toks→s''.gens=s.gens→s''.os=s.os→P ⟨⟩ s'')→
   wpAny C.M A (forIn rest ⟨⟩ (f s.heap.objs.size)) P No s':=by
  intro rest
  induction rest with
  | nil=>
   intro done es n s' P hd hg hp hk3 hb ht h1 h2 hP
   rw [List.append_nil]at hd;subst hd
   rw [List.forIn_nil]
   exact wpAny_pure (hP es n s' hg hp hk3 hb ht h1 h2)
  | cons p rest ih=>
   intro done es n s' P hd hg hp hk3 hb ht h1 h2 hP
   obtain⟨x,v⟩:=p
   rw [List.forIn_cons,hf]
   refine wpAny_bind (wpAny_bind (ns_new (prog:=C.prog) (w:=C.w) hg hp (fun hm=> ?_) fun h' t g1 g2=>wpAny_pure ?_))
   ·rw [←hd,List.map_append,List.nodup_append]at hnd
    exact hnd.2.2 x hm x (by simp) rfl
   ·refine ih (done++ [(x,v)]) _ _ _ P (by rw [List.append_assoc];exact hd) g1 ?_ ?_ (fun b o nb z=>(g2.2 b nb).trans (hb b o nb z)) (Nat.le_succ_of_le ht) h1 h2 hP
    ·exact hp.append (strKind_is _ _ _ _) _ _
    ·intro e he
     rw [List.mem_toArray,List.mem_append]at he
     rcases he with he | he
     ·exact hk3 e (by simpa using he)
     ·rw [List.mem_singleton]at he;subst he;exact⟨x,strKind_is _ _ _ _,rfl⟩
 refine wpAny_bind (run rkw [] [] 0 _ _ rfl (Heap.get?_push_size _ rfl) .nil (fun e he=>by simp at he) (fun b o _ z=>pke _ _ _ _ z) (Nat.le_refl _) rfl rfl fun es n s'' g1 hp hk' hb' ht e1 e2=>wpAny_pure ?_)
 obtain⟨hp',gn,dr,tk,os⟩:=s''
 dsimp only at e1 e2 g1 hb' ht
 subst e1 e2
 have hdo:hp'.DictOf (sk C) s.heap.objs.size rkw:=⟨_,es.toArray,n,g1,⟨rfl,rfl,rfl⟩,rfl,hk',by simpa using hp,hnd⟩
 have le0:W.le (W.name l s.heap.objs.size):=⟨fun x b e=>by
  show(if x=l then _ else W.ρ x)=some b
  split
  ·rename_i z;subst z;rw [I.none_of hl]at e;cases e
  ·exact e,fun _ _ e=>e⟩
 obtain⟨ob,o1,o2⟩:=ofd hdo ((hk.mono le0))
 obtain⟨le,I'⟩:=I.new (t:=tk) (d:=dr) (o:= .dict kw) hl n1 n2 I.big (fun b o z=>hb' b o (fun q=>by subst q;exact absurd (Heap.lt_size z) (Nat.lt_irrefl _)) z) o1 o2 ht
 refine⟨_,le,I',?_⟩
 refine KR.appK ?_ (Kz (vs:=bs) (by rw [hb];exact ha.mono le))
 exact⟨_,by show(if _ then _ else _)=_;rw [if_pos rfl],rfl⟩
end
end V
end
section
namespace V
open Builtin Builtin.Str
section
variable {C:Cx} {k:Nat} {sc:Scope} {A:Around} {W:Wd} {env:Env} {ms ms₁ ms₂ ms₃ ms':List (Option AV)} {σ σ₁ σ₂ σ₃ σ':St} {s:Shared}
theorem Inv.setOf {l:Loc} {xs:List Str} {rv:Value} (I:Inv C W σ s) (h:σ l=some (.set xs)) (hz:xs.length<scanBound) (q:VR W (.loc l) rv):
  ∃a,rv= .ref a∧W.ρ l=some a∧s.heap.SetOf (sk C) a (fun k=>decide (k∈xs)) xs.length:=by
 obtain⟨a,e,rfl⟩:=q
 obtain⟨ob,h1,h2⟩:=I.obj l a _ e h
 have h2:ob.SetObjOf (sk C) (fun k=>decide (k∈xs)) xs.length:=h2
 exact⟨a,rfl,e,h2.setOf h1 hz⟩
theorem Cs0 {l:Loc} (hl:σ l=none):Ca C k σ (.ty "set") [] [] (.loc l) (σ.set l (.set [])):=by
 intro W rf ras rkw hf ha hk A s outer hr hA hS I
 unfold VR at hf;subst hf
 unfold KR at hk;subst hk
 unfold VRe at ha;subst ha
 refine call_set_0 fun led=> ?_
 obtain⟨W',le,I',q,_⟩:=I.newObj (o:= .set []) (ob:={cls:= .type "set",dict:=none,data:= .set #[] 0 (.fresh 0 0 led)}) hl (Heap.get?_push_size _ rfl) (Nat.le_refl _) (fun W' u=>by
  show Obj.SetObjOf _ _ _ _
  have:=setObjOf_fresh (knd:=sk C) led
  simpa using this)
 exact⟨W',le,I',q⟩
theorem M_add {l:Loc} {xs:List Str} (h:σ l=some (.set xs)) (hz:xs.length<scanBound):Mt C k σ (.loc l) "add" (.bi "set.add"):=by
 intro W ro pl q
 refine Op.look fun A s Q hr I hq=> ?_
 obtain⟨a,rfl,e,hS⟩:=I.setOf h hz q
 exact getMethod_set_add hS (hq _ s.toks ⟨by unfold VR;rfl,rfl⟩)
theorem C_add {l:Loc} {xs ys:List Str} {x:Str} (h:σ l=some (.set xs)) (hz:xs.length+1<scanBound) (hy:(if x∈xs then xs else xs++ [x])=ys):Ca C k σ (.bi "set.add") [.loc l,.str x] [] .none (σ.set l (.set ys)):=by
 intro W rf ras rkw hf ha hk A s outer hr hA hS I
 unfold VR at hf;subst hf
 unfold KR at hk;subst hk
 obtain⟨r1,r2,rfl,qa,qb⟩:=Vt ha
 unfold VR at qb;obtain⟨t,rfl⟩:=qb
 obtain⟨a,rfl,e,hSo⟩:=I.setOf h (by omega) qa
 refine call_set_add (knd:=sk C) (k:=x) (strKind_is _ _ _ _) rfl hSo hz fun h' hs hS'=> ?_
 obtain⟨ob,g1,g2⟩:=hS'.objOf
 refine⟨W,.refl W,I.upd (d:=s.drawn) e (fun b o n z=>(hs.2 b n).trans z) g1 ?_ (Nat.le_succ _),Vn⟩
 show Obj.SetObjOf _ _ _ _
 subst hy
 have e1:(fun k'=>decide (k'∈(if x∈xs then xs else xs++ [x])))=fun k'=>decide (k'∈xs) || decide (k'=x):=by
  funext k'
  by_cases hx:x∈xs
  ·rw [if_pos hx]
   by_cases hk':k'=x
   ·subst hk';simp [hx]
   ·simp [hk']
  ·rw [if_neg hx];simp
 have e2:(if x∈xs then xs else xs++ [x]).length=if decide (x∈xs)=true then xs.length else xs.length+1:=by
  by_cases hx:x∈xs<;>simp [hx]
 rw [e1,e2]
 exact g2
theorem Sin {l:Loc} {xs:List Str} {x:Str} {c:Bool} (h:σ l=some (.set xs)) (hz:xs.length<scanBound) (hc:decide (x∈xs)=c):Op2 C k σ (compareOp .In) (.str x) (.loc l) (fun W r=>VR W (.bool c) r) σ:=by
 intro W ra rb qa qb
 unfold VR at qa;obtain⟨t,rfl⟩:=qa
 refine Op.look fun A s Q hr I hq=> ?_
 obtain⟨a,rfl,e,hS⟩:=I.setOf h hz qb
 exact wpAny_inSet_of (knd:=sk C) (k:=x) (strKind_is _ _ _ _) rfl hS (hq _ _ (by unfold VR;rw [hc]))
end
end V
end
section
namespace V
open Builtin Builtin.Str
open Sem (wp)
theorem lig:Slot "list_iterator" "__getattribute__" "object.__getattribute__":=
 .of (owner:="object") (n:="__getattribute__") (by rw [typeLookup_type,builtinLookup_eq_fast];kernel_rfl) (by decide+kernel) (by decide+kernel) (by decide+kernel)
  (by first | exact .inl (by decide+kernel) | exact .inr (by decide+kernel)) (by rw [isSubtype_type];kernel_rfl)
theorem liw:Slot "wrapper_descriptor" "__get__" "wrapper_descriptor.__get__":=
 .of (owner:="wrapper_descriptor") (n:="__get__") (by rw [typeLookup_type,builtinLookup_eq_fast];kernel_rfl) (by decide+kernel) (by decide+kernel) (by decide+kernel)
  (by first | exact .inl (by decide+kernel) | exact .inr (by decide+kernel)) (by rw [isSubtype_type];kernel_rfl)
theorem li_ws:typeLookup (.type "wrapper_descriptor") "__set__"=pure none:=by rw [typeLookup_type,builtinLookup_eq_fast];kernel_rfl
theorem li_wd:typeLookup (.type "wrapper_descriptor") "__delete__"=pure none:=by rw [typeLookup_type,builtinLookup_eq_fast];kernel_rfl
theorem lta:typeOf (.builtin "list_iterator.__next__")=pure (.type "wrapper_descriptor"):=by show builtinType _=_;rw [builtinType_eq_fast];kernel_rfl
theorem lg:entryFor table "object.__getattribute__"=some Builtin.«object.__getattribute__» :=entryFor_of_tree (by kernel_rfl)
theorem lga (a b:Value):argsOk "object.__getattribute__" ⟨[a,b],[]⟩:=by unfold argsOk;kernel_rfl
theorem lw:entryFor table "wrapper_descriptor.__get__"=some Builtin.«wrapper_descriptor.__get__» :=entryFor_of_tree (by kernel_rfl)
theorem lwg (a b c:Value):argsOk "wrapper_descriptor.__get__" ⟨[a,b,c],[]⟩:=by unfold argsOk;kernel_rfl
theorem lio:(Value.type (".".intercalate ("list_iterator.__next__".cutAt '.').dropLast))= .type "list_iterator":=by decide+kernel
theorem li_sub:isSubtype (.type "list_iterator") (.type (".".intercalate ("list_iterator.__next__".cutAt '.').dropLast))=pure true:=by
 rw [lio,isSubtype_type];kernel_rfl
section
variable {prog:Program} {w:World} {A:Around} {E:Value→Shared→Prop} {h:Heap} {g:Array GenState} {d:Drawn} {t:Nat} {os:OsState} {a:Addr} {vs:Array Value}
noncomputable abbrev lOb (vs:Array Value):Obj:={cls:= .type "list_iterator",data:= .fields vs}
noncomputable abbrev mOb (a:Addr):Obj:={cls:= .type "method-wrapper",data:= .fields #[.builtin "list_iterator.__next__",.ref a]}
theorem lge {R:Result→Shared→Prop} (hx:h.get? a=some (lOb vs)) (hq:R (.ok (.ret (.ref h.objs.size))) ⟨h.push (mOb a),g,d,t,os⟩):
  codeAny (model prog w) A (.call (.builtin "wrapper_descriptor.__get__") ⟨[.builtin "list_iterator.__next__",.ref a,.type "list_iterator"],[]⟩) R ⟨h,g,d,t,os⟩:=by
 have hT:(⟨h,g,d,t,os⟩:Shared).TypeIs (.ref a) "list_iterator":=⟨_,hx,rfl⟩
 have hT5:(⟨h,g,d,t,os⟩:Shared).TypeIs (.builtin "list_iterator.__next__") "wrapper_descriptor":=lta
 have f8:=li_sub
 refine codeAny_call_builtin liw.plain lw (liw.check _ _ _ _ _ _ _ _ hT5 (lwg _ _ _) ?_)
 repeat (any_goals (first | assumption | wp_step))
theorem lca {tk:Tok} {R:Result→Shared→Prop} (hx:h.get? a=some (lOb vs)) (hq:R (.ok (.ret (.ref h.objs.size))) ⟨h.push (mOb a),g,d,t,os⟩):
  codeAny (model prog w) A (.call (.builtin "object.__getattribute__") ⟨[.ref a,.str "__next__" tk],[]⟩) R ⟨h,g,d,t,os⟩:=by
 have hT:(⟨h,g,d,t,os⟩:Shared).TypeIs (.ref a) "list_iterator":=⟨_,hx,rfl⟩
 have hT5:(⟨h,g,d,t,os⟩:Shared).TypeIs (.builtin "list_iterator.__next__") "wrapper_descriptor":=lta
 refine codeAny_call_builtin lig.plain lg (lig.check _ _ _ _ _ _ _ _ hT (lga _ _) ?_)
 have f1:=slot_listiter_next.lookup
 have f2:=lta
 have f3:=liw.lookup
 have f4:=li_ws
 have f5:=li_wd
 repeat (any_goals (first | assumption | wp_step))
 refine lge hx ?_
 repeat (any_goals (first | assumption | wp_step))
end
end V
end
section
namespace V
open Builtin Builtin.Str
section
variable {C:Cx} {k:Nat} {sc:Scope} {A:Around} {W:Wd} {env:Env} {ms ms₁ ms₂ ms₃ ms':List (Option AV)} {σ σ₁ σ₂ σ₃ σ':St} {s:Shared}
noncomputable def Fb (C:Cx) (W:Wd) (env:Env) (a:Addr):Prop:=Fre W a∧ ¬Own env a∧C.h₀.get? a=none
theorem Fb.of_none (H:At C sc A W env ms σ s) {a:Addr} (h:s.heap.get? a=none):Fb C W env a:=by
 refine⟨⟨?_,fun l e=> ?_⟩,fun q=> ?_,?_⟩
 ·cases q:W.fz a with
  | none=>rfl
  | some o=>obtain⟨o',z,_⟩:=H.inv.fz a o q;rw [h]at z;cases z
 ·have d:=H.inv.dom l
  rw [e]at d
  cases q:σ l with
  | none=>rw [q]at d;cases d
  | some o=>obtain⟨ob,z,_⟩:=H.inv.obj l a o e q;rw [h]at z;cases z
 ·obtain⟨_,_,o,z,_⟩:=H.fr.own q
  rw [h]at z;cases z
 ·cases q:C.h₀.get? a with
  | none=>rfl
  | some o=>have:=H.inv.kept a o q;rw [h]at this;cases this
theorem ORe.up {o:AO} {ob ob':Obj} (q:ORe C W o ob) (u:Up ob ob'):ORe C W o ob':=by
 have ne: ∀{x:Obj},(x.cls≠ .type "frame")→x=ob→ob'=ob:=fun h e=>u.exact (by rw [←e];exact h)
 cases o with
 | list xs=>
  obtain⟨c,vs,n,e,r⟩:=q
  have:ob'=ob:=u.exact (by rw [c];decide)
  rw [this];exact⟨c,vs,n,e,r⟩
 | dict es=>
  obtain⟨ds,n,e,r⟩:=q
  have:ob'=ob:=u.exact (by rw [e];intro z;have:=Value.type.inj z;revert this;decide)
  rw [this];exact⟨ds,n,e,r⟩
 | map es n=>
  obtain⟨ds,e,r⟩:=q
  have:ob'=ob:=u.exact (by rw [e];intro z;have:=Value.type.inj z;revert this;decide)
  rw [this];exact⟨ds,e,r⟩
 | set xs=>
  have q:ob.SetObjOf _ _ _:=q
  have:ob'=ob:=u.exact (by rw [q.1.1];decide)
  rw [this];exact q
 | inst c d=>
  obtain⟨dx,e,r⟩:=q
  have:ob'=ob:=u.exact (by rw [r];intro z;cases z)
  rw [this];exact⟨dx,e,r⟩
 | slots c d vs=>
  obtain⟨dx,sl,e,r,z⟩:=q
  have:ob'=ob:=u.exact (by rw [r];intro z;cases z)
  rw [this];exact⟨dx,sl,e,r,z⟩
 | junk=>trivial
 | exc n xs=>
  obtain⟨hn,c,vs,t,d,z,q⟩:=q
  have:ob'=ob:=u.exact (by rw [c];intro z;rw [Value.type.inj z]at hn;simp at hn)
  rw [this];exact⟨hn,c,vs,t,d,z,q⟩
 | iter l i=>
  obtain⟨a,e,r⟩:=q
  have:ob'=ob:=u.exact (by rw [r];intro z;have:=Value.type.inj z;revert this;decide)
  rw [this];exact⟨a,e,r⟩
theorem At.stir {X:Addr→Prop} (H:At C sc A W env ms σ s) (hX: ∀a,X a→Fb C W env a) {h':Heap} {t:Nat} {d:Drawn} (K: ∀b o,¬X b→s.heap.get? b=some o→ ∃o',h'.get? b=some o'∧Up o o')
  (K0: ∀b o,C.h₀.get? b=some o→h'.get? b=some o) (ht:s.toks≤t):At C sc A W env ms σ ⟨h',s.gens,d,t,s.os⟩:=by
 have I:=H.inv
 have F:=H.fr
 refine⟨⟨I.dom,I.inj,fun l a o e q=> ?_,I.apart,fun a o e=> ?_,K0,I.base,I.gens,I.os,Nat.le_trans I.pos ht,I.high⟩,?_⟩
 ·obtain⟨ob,h1,h2⟩:=I.obj l a o e q
  obtain⟨ob',h3,u⟩:=K a ob (fun x=>(hX a x).1.2 l e) h1
  exact⟨ob',h3,h2.up u⟩
 ·obtain⟨o',h1,u⟩:=I.fz a o e
  obtain⟨o2,h3,u2⟩:=K a o' (fun x=>by rw [(hX a x).1.1]at e;cases e) h1
  exact⟨o2,h3,u.trans u2⟩
 ·obtain⟨mr,hn,hv⟩:=F.ns
  have own: ∀a,Own env a→ ¬X a:=fun a q x=>(hX a x).2.1 q
  refine⟨F.scope,F.globals,F.builtins,F.ok,⟨mr,?_,hv⟩,fun i x hx=> ?_,F.apL,fun x a hx=> ?_,F.injC,?_,?_⟩
  ·obtain⟨o,es,ep,ho,hd,r⟩:=hn
   obtain⟨o',ho',u⟩:=K _ _ (own _ (.inl rfl)) ho
   exact⟨o',es,ep,ho',u.data▸hd,r⟩
  ·obtain⟨a,ov,h1,⟨o,ho,hd⟩,h3⟩:=F.cells i x hx
   obtain⟨o',ho',u⟩:=K _ _ (own _ (.inr (List.mem_map.mpr ⟨(x,a),mem_of_lookup h1,rfl⟩))) ho
   exact⟨a,ov,h1,⟨o',ho',u.data▸hd⟩,h3⟩
  ·obtain⟨h1,h2,h3,ov,o,ho,hd,hc⟩:=F.apC x a hx
   obtain⟨o',ho',u⟩:=K _ _ (own _ (.inr (List.mem_map.mpr ⟨(x,a),hx,rfl⟩))) ho
   exact⟨h1,h2,h3,ov,o',ho',u.data▸hd,u.cls▸hc⟩
  ·obtain⟨o,es,n,ho,hc,hd⟩:=F.clsL
   obtain⟨o',ho',u⟩:=K _ _ (own _ (.inl rfl)) ho
   exact⟨o',es,n,ho',u.cls▸hc,u.data▸hd⟩
  ·obtain⟨fenv,rest,L,h1,h2,h3,h4,h5,h6,h7⟩:=F.stk
   refine⟨fenv,rest,L,h1,h2,h3,h4,h5,h6,?_⟩
   rcases h7 with⟨rfl,o,es,n,ho,hc1,hd⟩ | z
   ·obtain⟨o',ho',u⟩:=K _ _ (own _ (.inl rfl)) ho
    exact .inl ⟨rfl,o',es,n,ho',u.cls▸hc1,u.data▸hd⟩
   ·exact .inr z
noncomputable def XH (C:Cx) (W:Wd) (env:Env) (e:Addr) (cls:Value) (t:Addr) (fl:Option Value) (h:Heap):Prop:=match fl with
 | none=>h.get? e=some {cls:=cls,data:= .fields #[.ref t,.none,.none,.none,.bool false,.none]}
 | some v=> ∃oe vs T oT ts,h.get? e=some oe∧oe.cls=cls∧oe.data= .fields vs∧vs[0]? =some (.ref t)∧vs[1]? =some (.ref T)∧Fb C W env T∧T≠e∧h.get? T=some oT∧oT.data= .fields ts∧ts[3]? =some v
structure Xat (C:Cx) (sc:Scope) (A:Around) (W:Wd) (env:Env) (ms:List (Option AV)) (σ:St) (cls:Value) (as:List AV) (fl:Option Value) (e:Addr) (s:Shared):Prop where
 at_:At C sc A W env ms σ s
 free:Fb C W env e
 x: ∃t,VR W (.tup as) (.ref t)∧XH C W env e cls t fl s.heap
theorem Xat.flight {cls:Value} {as:List AV} {v:Value} {e:Addr} (X:Xat C sc A W env ms σ cls as (some v) e s) {fr:Option Addr} {Q:Unit→Shared→Prop}
  (g: ∀s',Xat C sc A W env ms σ cls as (some (fr.elim .none fun f=>rawInt f)) e s'→Q () s'):wpAny C.M A (setFlight (.ref e) fr) Q No s:=by
 obtain⟨H,fe,t,qt,oe,vs,T,oT,ts,he,hc,hd,h0,h1,fT,hTe,hT,hdT,h3⟩:=X
 refine wpAny_bind (wpAny_field he hd h1 ?_)
 rw [if_pos (show(Value.ref T !=Value.none)=true from by simp)]
 have sz:3<ts.size:=(Array.getElem?_eq_some_iff.mp h3).1
 refine wpAny_setField hT hdT sz (g _ ?_)
 have other: ∀b,b≠T→(s.heap.update T (Obj.mapFields (·.setIfInBounds 3 (fr.elim .none fun f=>rawInt f)))).get? b=s.heap.get? b:=fun b hb=>Heap.get?_update_other _ _ (Ne.symm hb)
 obtain⟨cT,dT,dtT,sT⟩:=oT
 simp only at hdT
 subst hdT
 have nf:(Obj.mapFields (·.setIfInBounds 3 (fr.elim .none fun f=>rawInt f)) ⟨cT,dT,.fields ts,sT⟩).isFreed=false:=rfl
 refine⟨H.stir (X:=(· =T)) (fun a q=>q▸fT) (fun b o nb hb=>⟨o,by rw [other b nb];exact hb,.refl o⟩) (fun b o hb=> ?_) (Nat.le_refl _),fe,t,qt,oe,vs,T,_,_,(other e (Ne.symm hTe)).trans he,hc,hd,h0,h1,fT,hTe,Heap.get?_update_self _ hT nf,rfl,?_⟩
 ·rw [other b fun q=>by rw [q,fT.2.2]at hb;cases hb]
  exact H.inv.kept b o hb
 ·simp [Array.getElem?_setIfInBounds,sz]
theorem Xat.again {cls:Value} {as:List AV} {L:Addr} {e:Addr} (X:Xat C sc A W env ms σ cls as (some (rawInt L)) e s) (hf:env.frame=some L) {Q:Unit→Shared→Prop} (g:Q () s):wpAny C.M A (noteFrame (.ref e) env) Q No s:=by
 obtain⟨H,fe,t,qt,oe,vs,T,oT,ts,he,hc,hd,h0,h1,fT,hTe,hT,hdT,h3⟩:=X
 unfold noteFrame
 simp only [hf]
 refine wpAny_bind (wpAny_field he hd h1 ?_)
 rw [if_pos (show(Value.ref T !=Value.none)=true from by simp)]
 refine wpAny_bind (wpAny_field hT hdT h3 ?_)
 rw [if_pos (show(rawInt L==rawInt L)=true from by simp)]
 exact wpAny_pure g
theorem noe {e:Value} {env fenv:Env} (h:env.frame=fenv.frame):noteFrame e env=noteFrame e fenv:=by
 unfold noteFrame PySem.frameOf;rw [h]
theorem fu {base:Heap}: ∀{l:List Env},Stk C W l→Inv C W σ s→(∀env∈l,∀L,env.frame=some L→base.get? L=none)→s.heap.FunFrames base l
 | [],_,_,_=>trivial
 | env::rest,S,I,hb=>by
  obtain⟨k1,L,o,es,n,k2,k3,k4,k5,k6⟩:=S env (.head _)
  obtain⟨o',h1,u⟩:=I.fz L o k4
  exact⟨k1,⟨L,o',k2,hb env (.head _) L k2,h1,fun vs q=>by rw [u.data,k6]at q;cases q⟩,fu (fun e he=>S e (.tail _ he)) I fun e he=>hb e (.tail _ he)⟩
theorem Xat.note {cls:Value} {as:List AV} {fl:Option Value} {e:Addr} (X:Xat C sc A W env ms σ cls as fl e s) (hfl:fl=none∨fl=some .none) {Q:Unit→Shared→Prop}
  (g: ∀s' L,env.frame=some L→Xat C sc A W env ms σ cls as (some (rawInt L)) e s'→Q () s'):wpAny C.M A (noteFrame (.ref e) env) Q No s:=by
 obtain⟨H,fe,t,qt,hx⟩:=X
 obtain⟨fenv,rest,L,hA,hS,hk,hfL,heL,hL0,hLf⟩:=H.fr.stk
 rw [noe (env:=env) (fenv:=fenv) (heL.trans hfL.symm)]
 have main: ∀(tl:List Addr),(∀T∈tl,Fb C W env T)→(∀base:Heap,base.StaysIn s.heap→base.get? e=none→(∀T∈tl,base.get? T=none)→s.heap.FunFrames base (fenv::rest)→
   wpAny C.M A (noteFrame (.ref e) fenv) (fun v s'=>Heap.NotedW base (fenv::rest) e cls (.ref t) (rawInt L) s.heap s'.heap∧s'={s with heap:=s'.heap}) No s)→wpAny C.M A (noteFrame (.ref e) fenv) Q No s:=by
  intro tl htl hrun
  let frs:=(fenv::rest).filterMap (·.frame)
  let base:=hideAll s.heap (e::(tl++frs))
  have b1:base.StaysIn s.heap:=fun b o z=>of_hideAll _ z
  have hid: ∀a,a∈e::(tl++frs)→base.get? a=none:=fun a h=>hideAll_none _ h
  have out: ∀a o,a∉e::(tl++frs)→s.heap.get? a=some o→base.get? a=some o:=fun a o n z=>hideAll_get _ z n
  have ff:s.heap.FunFrames base (fenv::rest):=by
   have hfr: ∀env∈fenv::rest,∀L,env.frame=some L→base.get? L=none:=fun env he L z=>hid L (by
    refine .tail _ (List.mem_append_right _ (List.mem_filterMap.mpr ⟨env,he,z⟩)))
   refine⟨hk,⟨L,?_⟩,fu hS H.inv fun env he=>hfr env (.tail _ he)⟩
   rcases hLf with⟨rfl,o,es,n,ho,hc,hd⟩ | ⟨o,es,n,ho,hc,hd⟩
   ·exact⟨o,hfL,hfr fenv (.head _) _ hfL,ho,fun vs q=>by rw [hd]at q;cases q⟩
   ·obtain⟨o',h1,u⟩:=H.inv.fz L o ho
    exact⟨o',hfL,hfr fenv (.head _) _ hfL,h1,fun vs q=>by rw [u.data,hd]at q;cases q⟩
  have after: ∀hp,Heap.NotedW base (fenv::rest) e cls (.ref t) (rawInt L) s.heap hp→Q () {s with heap:=hp}:=by
   intro hp hN
   obtain⟨k1,k2,⟨oe,vs,T,oT,ts,he,⟨hc,h0⟩,hd,h1,hbT,hTe,hT,hdT,h3⟩,k4⟩:=hN
   have frCls: ∀a∈frs,∃o,s.heap.get? a=some o∧o.cls= .type "frame"∧(∀vs,o.data≠ .fields vs)∧C.h₀.get? a=none:=by
    intro a ha
    obtain⟨env',he',z⟩:=List.mem_filterMap.mp ha
    rcases List.mem_cons.mp he' with rfl | he'
    ·rw [hfL]at z;cases z
     rcases hLf with⟨rfl,o,es,n,ho,hc,hd⟩ | ⟨o,es,n,ho,hc,hd⟩
     ·exact⟨o,ho,hc,(fun vs q=>by rw [hd]at q;cases q),hL0⟩
     ·obtain⟨o',h1,u⟩:=H.inv.fz _ o ho
      exact⟨o',h1,u.cls.trans hc,(fun vs q=>by rw [u.data,hd]at q;cases q),hL0⟩
    ·obtain⟨k1,L',o,es,n,k2,k3,k4,k5,k6⟩:=hS env' he'
     rw [k2]at z;cases z
     obtain⟨o',h1,u⟩:=H.inv.fz _ o k4
     exact⟨o',h1,u.cls.trans k5,(fun vs q=>by rw [u.data,k6]at q;cases q),k3⟩
   have fT:Fb C W env T:=by
    cases q:s.heap.get? T with
    | none=>exact Fb.of_none H q
    | some o=>
     have hm:T∈e::(tl++frs):=Classical.byContradiction fun n=>by rw [out T o n q]at hbT;cases hbT
     rcases List.mem_cons.mp hm with z | hm
     ·exact absurd z hTe
     ·rcases List.mem_append.mp hm with hm | hm
      ·exact htl T hm
      ·obtain⟨o',z1,_,z3,_⟩:=frCls T hm
       obtain⟨sl,z5⟩:=k4 T o' z1 z3
       rw [hT]at z5;cases z5
       exact absurd hdT (z3 ts)
   refine g _ L heL ⟨H.stir (X:=fun a=>a=e∨a∈tl) (fun a q=>q.elim (fun z=>z▸fe) (htl a)) (fun b o nb hb=> ?_) (fun b o hb=> ?_) (Nat.le_refl _),fe,t,qt,oe,vs,T,oT,ts,he,hc,hd,h0,h1,fT,hTe,hT,hdT,h3⟩
   ·by_cases hm:b∈frs
    ·obtain⟨o',z1,z2,z3,_⟩:=frCls b hm
     rw [hb]at z1;cases z1
     obtain⟨sl,z5⟩:=k4 b o hb z3
     exact⟨_,z5,.inr ⟨z2,sl,rfl⟩⟩
    ·have:base.get? b=some o:=out b o (fun q=>by
      rcases List.mem_cons.mp q with z | q
      ·exact nb (.inl z)
      ·rcases List.mem_append.mp q with q | q
       ·exact nb (.inr q)
       ·exact hm q) hb
     exact⟨o,k1 b o this,.refl o⟩
   ·have hb':=H.inv.kept b o hb
    refine k1 b o (out b o (fun q=> ?_) hb')
    rcases List.mem_cons.mp q with z | q
    ·rw [z,fe.2.2]at hb;cases hb
    ·rcases List.mem_append.mp q with q | q
     ·rw [(htl b q).2.2]at hb;cases hb
     ·obtain⟨_,_,_,_,z⟩:=frCls b q
      rw [z]at hb;cases hb
  exact wpAny_mono (hrun base b1 (hid e (.head _)) (fun T hT=>hid T (.tail _ (List.mem_append_left _ hT))) ff) (fun v s' h=>by rw [h.2];exact after _ h.1) fun v w z=>z
 rcases hfl with rfl | rfl
 ·have hx:s.heap.get? e=some {cls:=cls,data:= .fields #[.ref t,.none,.none,.none,.bool false,.none]}:=hx
  refine main [] (fun T h=>by cases h) fun base b1 b2 b3 b4=> ?_
  unfold noteFrame
  simp only [hfL]
  refine wpAny_bind (wpAny_field hx rfl (x:= .none) rfl ?_)
  exact wpAny_entryW (oe:={cls:=cls,data:= .fields #[.ref t,.none,.none,.none,.bool false,.none]}) hA b4 hfL hx b1 b2 rfl (Nat.lt_of_sub_pos (Nat.zero_lt_succ _)) rfl fun h' hN=>⟨hN,rfl⟩
 ·obtain⟨oe,vs,T,oT,ts,he,hc,hd,h0,h1,fT,hTe,hT,hdT,h3⟩:=hx
  refine main [T] (fun T' h=>by rw [List.mem_singleton]at h;exact h▸fT) fun base b1 b2 b3 b4=> ?_
  exact wpAny_noteFrame_onW hA b4 hfL ⟨oe,vs,T,oT,ts,he,⟨hc,h0⟩,hd,h1,b3 T (by simp),hTe,hT,hdT,h3⟩ b1 b2 fun h' hN=>⟨hN,rfl⟩
end
end V
end
section
namespace V
open Builtin Builtin.Str
section
variable {C:Cx} {k:Nat} {sc:Scope} {A:Around} {W:Wd} {env:Env} {ms ms₁ ms₂ ms₃ ms':List (Option AV)} {σ σ₁ σ₂ σ₃ σ':St} {s:Shared}
noncomputable def FlOk (env:Env) (fl:Option Value):Prop:=fl=none∨fl=some .none∨ ∃L,env.frame=some L∧fl=some (rawInt L)
noncomputable def XP (C:Cx) (sc:Scope) (A:Around) (W:Wd) (env:Env) (ms:List (Option AV)) (σ:St) (cls:Value) (as:List AV) (e:Value) (s:Shared):Prop:=
 ∃W' a fl,W.le W'∧e= .ref a∧FlOk env fl∧Xat C sc A W' env ms σ cls as fl a s
noncomputable def Rz {α:Type} (C:Cx) (k:Nat) (sc:Scope) (ms:List (Option AV)) (σ:St) (t:Env→Sem α) (cls:Value) (as:List AV) (ms':List (Option AV)) (σ':St):Prop:=
 ∀A W env s,Ro C A k→At C sc A W env ms σ s→wpAny C.M A (t env) (fun _ _=>False) (XP C sc A W env ms' σ' cls as) s
theorem XP.le {cls:Value} {as:List AV} {e:Value} {W₁:Wd} (le:W.le W₁) (h:XP C sc A W₁ env ms σ cls as e s):XP C sc A W env ms σ cls as e s:=by
 obtain⟨W',a,fl,l,r⟩:=h
 exact⟨W',a,fl,le.trans l,r⟩
theorem ptE {α:Type} {E:Value→Shared→Prop} {t:Sem α} {R:Wd→α→Prop} {Q:α→Shared→Prop} (h:wpAny C.M A t (Pa C sc A W env ms₁ σ₁ R) No s)
  (g: ∀W₁ r s₁,W.le W₁→At C sc A W₁ env ms₁ σ₁ s₁→R W₁ r→Q r s₁):wpAny C.M A t Q E s:=
 wpAny_mono h (fun r s₁ ⟨W₁,le,H,q⟩=>g W₁ r s₁ le H q) fun u v x=>x.elim
theorem rz {α:Type} {E:Value→Shared→Prop} {t:Sem α} {Q:α→Shared→Prop} {cls:Value} {as:List AV} {W₁:Wd} (le:W.le W₁) (h:wpAny C.M A t (fun u v=>False) (XP C sc A W₁ env ms' σ' cls as) s) (g: ∀e s,XP C sc A W env ms' σ' cls as e s→E e s):wpAny C.M A t Q E s:=
 wpAny_mono h (fun u v x=>x.elim) fun e s x=>g e s (x.le le)
noncomputable def FrO (C:Cx) (W:Wd) (a:Addr):Prop:=Fre W a∧C.h₀.get? a=none
noncomputable def XO (C:Cx) (W:Wd) (e:Addr) (cls:Value) (t:Addr) (h:Heap):Prop:=
 h.get? e=some {cls:=cls,data:= .fields #[.ref t,.none,.none,.none,.bool false,.none]}∨
 ∃oe vs T oT ts,h.get? e=some oe∧oe.cls=cls∧oe.data= .fields vs∧vs[0]? =some (.ref t)∧vs[1]? =some (.ref T)∧FrO C W T∧T≠e∧h.get? T=some oT∧oT.data= .fields ts∧ts[3]? =some .none
noncomputable def OpX {α:Type} (C:Cx) (k:Nat) (W:Wd) (σ:St) (t:Sem α) (cls:Value) (as:List AV) (σ':St):Prop:=
 ∀A s outer,Ro C A k→A.frames=some outer→Stk C W outer→Inv C W σ s→
  wpAny C.M A t (fun _ _=>False) (fun e s'=> ∃W' a t,W.le W'∧Inv C W' σ' s'∧e= .ref a∧FrO C W' a∧VR W' (.tup as) (.ref t)∧XO C W' a cls t s'.heap) s
noncomputable def CaX (C:Cx) (k:Nat) (σ:St) (f:AV) (as:List AV) (cls:Value) (xs:List AV) (σ':St):Prop:=
 ∀W rf ras,VR W f rf→VRe W as ras→OpX C k W σ (call rf ras []) cls xs σ'
theorem FrO.free {W':Wd} {h:Heap} (F:FRe C sc A W env ms h) (le:(aside W env h).le W') {a:Addr} (q:FrO C W' a):Fb C (taken W' env) env a:=by
 have no:=ona F le q.1.1
 refine⟨⟨?_,q.1.2⟩,no,q.2⟩
 rw [Wd.mou no];exact q.1.1
theorem OpX.in {α:Type} {t:Sem α} {cls:Value} {as:List AV} {X:Wd} (hX:X=aside W env s.heap) (h:OpX C k X σ t cls as σ') (hr:Ro C A k) (H:At C sc A W env ms σ s):wpAny C.M A t (fun u v=>False) (XP C sc A W env ms σ' cls as) s:=by
 subst hX
 obtain⟨outer,ho,hs⟩:=ass H.fr
 refine wpAny_mono (h A s outer hr ho hs (ain H.inv H.fr)) (fun u v x=>x) fun e s' ⟨W',a,t,le,I',he,hf,qt,hx⟩=> ?_
 obtain⟨l2,I2,F2,v1,v2⟩:=FRe.back H.inv H.fr le I'
 rcases hx with hx | ⟨oe,vs,T,oT,ts,x1,x2,x3,x4,x5,x6,x7,x8,x9,x10⟩
 ·exact⟨_,a,none,l2,he,.inl rfl,⟨I2,F2⟩,hf.free H.fr le,t,v1 qt,hx⟩
 ·exact⟨_,a,some .none,l2,he,.inr (.inl rfl),⟨I2,F2⟩,hf.free H.fr le,t,v1 qt,oe,vs,T,oT,ts,x1,x2,x3,x4,x5,x6.free H.fr le,x7,x8,x9,x10⟩
theorem RM {o:Expr} {name:Str} {apos pos:Pos} {args:List Expr} {ov f:AV} {as:List AV} {cls:Value} {xs:List AV} (h1:Ev C k sc ms σ o ov ms₁ σ₁) (hm:Mt C k σ₁ ov name f) (h2:Es C k sc ms₁ σ₁ pos args as ms₂ σ₂)
  (hk:Kp C f) (h3:CaX C k σ₂ f (ov::as) cls xs σ') (hb: ∀env t,attributeBase o name env t=t) (hf: ∀env,methodCallForm args.length (backTo pos (starEach args env)) []=true) (hl:(apos.endLine==pos.line)=true)
  (hs: ∀env,(backTo pos (starEach args env)).any (·.1)=false):Rz C k sc ms σ (eval (.Call (.Attribute o name apos) args [] pos)) cls xs ms₂ σ':=by
 intro A W env s hr H
 rw [eMC,hb]
 refine wpAny_bind (ptE (h1 A W env s hr H) fun W₁ ro s₁ le₁ H₁ qo=>wpAny_bind (wpAny_standAt ?_))
 unfold methodCall
 have hf':methodCallForm (args.length+([]:List Keyword).length) (backTo pos (starEach args env)) (backToKw pos (keywordEach [] env))=true:=hf env
 rw [hf']
 refine wpAny_bind (wpAny_holding ?_)
 refine wpAny_mono (Op.in (R':=fun r s₂=> ∃W₂,W₁.le W₂∧At C sc A W₂ env ms₁ σ₁ s₂∧VR W₂ f r.1∧r.2= [ro]) rfl (hm _ ro _ (qo.mono (ale H₁.fr))) hr H₁ fun W₂ r s₂ le₂ H₂ q tk u=>⟨_,le₂,H₂,tk q.1,q.2⟩) (fun r s₂ hh=> ?_) fun u v x=>x.elim
 obtain⟨W₂,le₂,H₂,q1,q2⟩:=hh
 obtain⟨rf,first⟩:=r
 dsimp only at q1 q2
 subst q2
 have hp:methodCallPos true o env apos pos=pure pos:=by unfold methodCallPos;simp [hl]
 refine wpAny_bind (wpAny_of_eq hp ?_)
 refine cW (eAp (nof (hs env)) (ptE (h2 A _ env s₂ hr H₂) fun W₃ ras s₃ le₃ H₃ qa=>⟨hk _ _ _ _ H₃.inv (q1.mono le₃),?_⟩))
 have le:=ale H₃.fr
 exact rz (le₁.trans (le₂.trans le₃)) (OpX.in rfl (h3 _ rf (ro::ras) ((q1.mono le₃).mono le) (.cons (((qo.mono le₂).mono le₃).mono le) (qa.mono le))) hr H₃) fun u v x=>x
theorem RCa {fn:Expr} {args:List Expr} {pos:Pos} {f:AV} {as:List AV} {cls:Value} {xs:List AV} (h1:Ev C k sc ms σ fn f ms₁ σ₁) (h2:Es C k sc ms₁ σ₁ pos args as ms₂ σ₂) (hk:Kp C f) (h3:CaX C k σ₂ f as cls xs σ')
  (hs: ∀env,(backTo pos (starEach args env)).any (·.1)=false)
  (he: ∀env,eval (.Call fn args [] pos) env=(do callWith pos (←eval fn env) [] (backTo pos (starEach args env)) (backToKw pos (keywordEach [] env)))):Rz C k sc ms σ (eval (.Call fn args [] pos)) cls xs ms₂ σ':=by
 intro A W env s hr H
 rw [he]
 refine wpAny_bind (ptE (h1 A W env s hr H) fun W₁ rf s₁ le₁ H₁ qf=>cW (eAp (nof (hs env)) (ptE (h2 A W₁ env s₁ hr H₁) fun W₂ ras s₂ le₂ H₂ qa=>⟨hk _ _ _ _ H₂.inv (qf.mono le₂),?_⟩)))
 have le:=ale H₂.fr
 exact rz (le₁.trans le₂) (OpX.in rfl (h3 _ rf ras ((qf.mono le₂).mono le) (qa.mono le)) hr H₂) fun u v x=>x
theorem RC {l r:Expr} {op:CmpOp} {pos:Pos} {cls:Value} {xs:List AV} (h:Rz C k sc ms σ (eval l) cls xs ms' σ') (hm:behindInMarks op r=false):Rz C k sc ms σ (fun env=>isTrue (.Compare l [op] [r] pos) env (eval (.Compare l [op] [r] pos) env)) cls xs ms' σ':=by
 intro A W env s hr H
 exact wpAny_isTrue_Compare1 (rz (.refl W) (h A W env s hr H) fun u v x=>x) hm
theorem ROF {x:Expr} {rest:List Expr} {pos:Pos} {cls:Value} {xs:List AV} (h:Rz C k sc ms σ (fun env=>isTrue x env (eval x env)) cls xs ms' σ'):Rz C k sc ms σ (fun env=>isTrue (.BoolOp .Or (x::rest) pos) env (eval (.BoolOp .Or (x::rest) pos) env)) cls xs ms' σ':=by
 intro A W env s hr H
 exact wpAny_isTrue_BoolOp (wpAny_allTrue_Or_cons (rz (.refl W) (h A W env s hr H) fun u v x=>x))
theorem RIT {test:Expr} {x y:List Stmt} {pos:Pos} {cls:Value} {xs:List AV} (h:Rz C k sc ms σ (fun env=>isTrue test env (eval test env)) cls xs ms' σ'):Rz C k sc ms σ (exec (.If test x y pos)) cls xs ms' σ':=by
 intro A W env s hr H
 exact wpAny_If (rz (.refl W) (h A W env s hr H) fun u v x=>x)
theorem REx {e:Expr} {pos:Pos} {cls:Value} {xs:List AV} (h:Rz C k sc ms σ (eval e) cls xs ms' σ') (hs: ∀env:Env,env.scope.kind= .function→swapsWith e none pos.line env=pure false):Rz C k sc ms σ (exec (.Expr e pos)) cls xs ms' σ':=by
 intro A W env s hr H
 have hk:env.scope.kind= .function:=by rw [H.fr.scope];exact sO.kind H.fr.ok
 rw [exec_Expr env e pos (by unfold interactive;rw [hk];rfl) (hs env hk)]
 exact wpAny_bind (wpAny_standAt (wpAny_bind (rz (.refl W) (h A W env s hr H) fun u v x=>x)))
theorem RAs {t value:Expr} {pos:Pos} {cls:Value} {xs:List AV} (h:Rz C k sc ms σ (eval value) cls xs ms' σ') (hs: ∀env,swapsWithSole [t] value pos.line env=pure false):Rz C k sc ms σ (exec (.Assign [t] value pos)) cls xs ms' σ':=by
 intro A W env s hr H
 rw [exec_Assign_arm]
 refine wpAny_bind (wpAny_standAt ?_)
 rw [hs]
 refine wpAny_bind (wpAny_pure ?_)
 exact wpAny_bind (rz (.refl W) (h A W env s hr H) fun u v x=>x)
theorem Rxc {st:Stmt} {rest:List Stmt} {cls:Value} {xs:List AV} (h1:X1 C k sc ms σ st .next ms₁ σ₁) (h2:Rz C k sc ms₁ σ₁ (execs rest) cls xs ms' σ'):Rz C k sc ms σ (execs (st::rest)) cls xs ms' σ':=by
 intro A W env s hr H
 refine wpAny_execs_cons (ptE (h1 A W env s hr H) fun W₁ r s₁ le₁ H₁ q=> ?_)
 unfold Fl at q;subst q
 exact rz le₁ (h2 A W₁ env s₁ hr H₁) fun u v x=>x
theorem Rx {st:Stmt} {rest:List Stmt} {cls:Value} {xs:List AV} (h:Rz C k sc ms σ (exec st) cls xs ms' σ'):Rz C k sc ms σ (execs (st::rest)) cls xs ms' σ':=by
 intro A W env s hr H
 exact wpAny_execs_cons (rz (.refl W) (h A W env s hr H) fun u v x=>x)
theorem RIf {test:Expr} {x y rest:List Stmt} {pos:Pos} {b:Bool} {cls:Value} {xs:List AV} (h1:Tv C k sc ms σ test b ms₁ σ₁) (h2:Rz C k sc ms₁ σ₁ (execs ((if b then x else y)++rest)) cls xs ms' σ'):Rz C k sc ms σ (execs (.If test x y pos::rest)) cls xs ms' σ':=by
 intro A W env s hr H
 have key:wpAny C.M A (isTrue test env (eval test env)) (fun b s₁=>wpAny C.M A (execs ((if b then x else y)++rest) env) (fun u v=>False) (XP C sc A W env ms' σ' cls xs) s₁) (XP C sc A W env ms' σ' cls xs) s:=by
  refine ptE (h1 A W env s hr H) fun W₁ rb s₁ le₁ H₁ qb=> ?_
  subst qb
  exact rz le₁ (h2 A W₁ env s₁ hr H₁) fun u v x=>x
 intro Γ p hΓ
 rw [execs_cons,Sem.wp_bind',exec_If]
 simp only [Sem.wp_bind',Sem.wp_cmd_standAt]
 refine Sem.wp_mono C.M Γ _ (fun b p₂ s₂ h₂=> ?_) (fun u v w h'=>h') _ _ (key Γ _ hΓ)
 have h₂:=h₂ Γ p₂ hΓ
 cases b
 ·exact wea h₂
 ·exact wea h₂
theorem RxT {test:Expr} {x y rest:List Stmt} {pos:Pos} {cls:Value} {xs:List AV} (h1:Tv C k sc ms σ test true ms₁ σ₁) (h2:Rz C k sc ms₁ σ₁ (execs (x++rest)) cls xs ms' σ'):Rz C k sc ms σ (execs (.If test x y pos::rest)) cls xs ms' σ':=RIf h1 h2
theorem RxF {test:Expr} {x y rest:List Stmt} {pos:Pos} {cls:Value} {xs:List AV} (h1:Tv C k sc ms σ test false ms₁ σ₁) (h2:Rz C k sc ms₁ σ₁ (execs (y++rest)) cls xs ms' σ'):Rz C k sc ms σ (execs (.If test x y pos::rest)) cls xs ms' σ':=RIf h1 h2
theorem raised {e:Addr} {cls:Value} {as:List AV} {vs:List Value} {h':Heap} (H:At C sc A W env ms σ s) (q:VRe W as vs) (hm:Heap.MadeExcOf s.heap h' e cls vs):XP C sc A W env ms σ cls as (.ref e) {s with heap:=h'}:=by
 obtain⟨t,he,hn,ht⟩:=hm.there
 have H1:At C sc A W env ms σ {s with heap:=h'}:=H.stir (X:=fun u=>False) (fun u x=>x.elim) (fun b o u hb=>⟨o,hm.keeps b o hb,.refl o⟩) (fun b o hb=>hm.keeps b o (H.inv.kept b o hb)) (Nat.le_refl _)
 have fe:=Fb.of_none H hm.new
 have ft:=Fb.of_none H hn
 have hne:e≠t:=fun z=>by subst z;rw [he]at ht;cases ht
 obtain⟨le,H2⟩:=H1.freeze ht ft.1.1 ft.1.2 ft.2.1
 refine⟨_,e,none,le,rfl,.inl rfl,H2,⟨⟨?_,fe.1.2⟩,fe.2.1,fe.2.2⟩,t,?_,he⟩
 ·show(if e=t then _ else W.fz e)=none
  rw [if_neg hne];exact fe.1.1
 ·unfold VR
  refine⟨t,_,vs,0,rfl,?_,rfl,rfl,q.mono le⟩
  show(if _ then _ else _)=_
  rw [if_pos rfl]
theorem RRa {cls newId initId:String} (F:ExcCallFacts cls newId initId) (G:ExcRaiseFacts cls) (h0:C.hx=none:=by assumption) {x:Str} {np cpos pos:Pos} {args:List Expr} {as:List AV} (h1:Ev C k sc ms σ (.Name x np) (.ty cls) ms₁ σ₁) (h2:Es C k sc ms₁ σ₁ cpos args as ms' σ')
  (hz:as.length≤sizeLine) (hp: ∀env,(backTo cpos (starEach args env)).any (·.1)=false):Rz C k sc ms σ (exec (.Raise (some (.Call (.Name x np) args [] cpos)) none pos)) (.type cls) as ms' σ':=by
 intro A W env s hr H
 refine wpAny_Raise_call F G (hr.none h0) (hp env) (ptE (h1 A W env s hr H) fun W₁ r s₁ le₁ H₁ q=>⟨by unfold VR at q;exact q,?_⟩)
 refine eAp (fun y z=>by have:=hp env;rw [z]at this;simp at this) (ptE (h2 A W₁ env s₁ hr H₁) fun W₂ vs s₂ le₂ H₂ qs=>⟨rfl,by rw [qs.length];exact hz,fun h' e hm=> ?_⟩)
 exact(raised H₂ qs ⟨hm.keeps,hm.new,hm.there⟩).le (le₁.trans le₂)
theorem Xl {cls:Value} {as:List AV} {e:Value} (X:XP C sc A W env ms σ cls as e s) {Q:Unit→Shared→Prop}
  (g: ∀s' W' a,e= .ref a→W.le W'→Xat C sc A W' env ms σ cls as (some .none) a s'→Q () s'):wpAny C.M A (leaving env e) Q No s:=by
 obtain⟨W',a,fl,le,rfl,hfl,X⟩:=X
 rcases hfl with h | h | ⟨L,hL,h⟩
 ·exact wpAny_bind (X.note (.inl h) fun s' L hL X'=>X'.flight (fr:=none) fun s'' X''=>g s'' W' a rfl le X'')
 ·exact wpAny_bind (X.note (.inr h) fun s' L hL X'=>X'.flight (fr:=none) fun s'' X''=>g s'' W' a rfl le X'')
 ·subst h
  exact wpAny_bind (X.again hL (X.flight (fr:=none) fun s'' X''=>g s'' W' a rfl le X''))
noncomputable def ExX (σ σf:St) (as:List AV) (σ':St):Prop:=
 (∀l o,σ' l=some o→σf l=some o)∧(∀l,(σ l).isSome=true→(σ' l).isSome=true)∧(∀l o,σ' l=some o→σ l=some o∨o.In fun l=>(σ' l).isSome=true)∧AV.Ins (fun l=>(σ' l).isSome=true) as
theorem CX {fa:Addr} {fd:FuncData} {body:List Stmt} {as xs:List AV} {cls:Value} (O:C.Ok) (hF:Fn C fa fd body) (names:List (Str×NameKind)) (hsc:fd.scope.names=names) (bs:List (Str×AV)) (σ₁:St)
  (hb:Bd C k fd σ as [] bs σ₁) (h1:(names.take bs.length).map (·.1)=bs.map (·.1)) (h2:((names.take bs.length).all fun p=>p.2== .local || p.2== .cell)=true)
  (h: ∀sc,Facts sc names 0→ ∀n,(∀l:Loc,n≤l.tag→σ l=none)→ ∃ms' σf,Rz C k sc (bs.map (fun p=>some p.2)++List.replicate (names.length - bs.length) none) σ₁ (execs body) cls xs ms' σf∧ExX σ σf xs σ'):CaX C (k+1) σ (.ext fa) as cls xs σ':=by
 intro W rf ras hf has A s outer hr hA hS I
 unfold VR at hf;subst hf
 obtain⟨n,hn⟩:=I.free
 obtain⟨ms',σf,hx,x1,x2,x3,x4⟩:=h fd.scope (fof hsc) n hn
 obtain⟨oc,od,osl,hK⟩:=hF.here
 have ho:=I.kept _ _ (O.kin _ _ hK)
 refine wpAny_call (codeAny_call_function (fd:=fd) hr.depth ho rfl hF.co hF.gen hF.body (codeRec_of (O.kin.keeps I.kept) hF.code) ?_)
 refine wpAny_mono (hb W ras [] has rfl A.in1 s outer hr.in1 hA hS I) (fun binds s₁ ⟨W₁,le₁,I₁,hb₁⟩=> ?_) fun u v h=>h.elim
 rw [hF.globals,hF.builtins,hF.closure]
 have hms:(fd.scope.names.take bs.length).map (·.1)=bs.map (·.1):=by rw [hsc];exact h1
 have hkd: ∀p∈fd.scope.names.take bs.length,p.2= .local∨p.2= .cell:=fun p hp=>by
  rw [hsc]at hp
  have:=List.all_eq_true.mp h2 p hp
  simpa using this
 refine wpAny_mono (nen (A:=A) hF.ok I₁ hA (hS.mono le₁) hb₁ hms hkd (Q:=fun env s'=>At C fd.scope (A.deeper env) W₁ env (mOf fd.scope bs) σ₁ s') fun env s' H=>H) (fun env s₂ H=> ?_) fun u v h=>h.elim
 refine⟨O.nolimit.keeps H.inv.kept,codeAny_func ?_⟩
 have hx':Rz C k fd.scope (mOf fd.scope bs) σ₁ (execs body) cls xs ms' σf:=by unfold mOf;rw [hsc];exact hx
 refine wpAny_mono (hx' (A.deeper env) W₁ env s₂ hr.deeper H) (fun u v x=>x.elim) fun e s₃ X=> ?_
 refine wpAny_mono (Xl X (Q:=fun u s'=> ∃W' a,e= .ref a∧W₁.le W'∧Xat C fd.scope (A.deeper env) W' env ms' σf cls xs (some .none) a s') fun s' W' a he le X'=>(⟨W',a,he,le,X'⟩)) (fun _ s₄ ⟨W',a,he,le,X'⟩=> ?_) fun u v h=>h.elim
 subst he
 obtain⟨H',fe,t,qt,oe,vs,T,oT,ts,y1,y2,y3,y4,y5,y6,y7,y8,y9,y10⟩:=X'
 have closed: ∀l o,σ' l=some o→o.In fun l=>(σ' l).isSome=true:=fun l o e=>by
  rcases x3 l o e with q | q
  ·obtain⟨a,ob,e1,e2,e3⟩:=I.at q
   have:=e3.iD
   exact AO.In.mono (fun l q=>x2 l (by rw [←I.dom l];exact q)) this
  ·exact q
 have dom: ∀l,(W.ρ l).isSome=true→(σ' l).isSome=true:=fun l q=>x2 l (by rw [←I.dom l];exact q)
 have only: ∀l a,(W'.only σ').ρ l=some a→W'.ρ l=some a:=fun l a e=>by
  have e:(if(σ' l).isSome then W'.ρ l else none)=some a:=e
  split at e
  ·exact e
  ·cases e
 have frO: ∀{b},Fb C W' env b→FrO C (W'.only σ') b:=fun f=>⟨⟨f.1.1,fun l e=>f.1.2 l (only l _ e)⟩,f.2.2⟩
 exact⟨W'.only σ',a,t,Wd.leo (le₁.trans le) dom,H'.inv.only x1 closed,rfl,frO fe,qt.cut (W'.ocu σ') (by unfold AV.In;exact x4),.inr ⟨oe,vs,T,oT,ts,y1,y2,y3,y4,y5,frO y6,y7,y8,y9,y10⟩⟩
end
end V
end
section
namespace V
open Builtin Builtin.Str
noncomputable abbrev Cx.h (C:Cx):Cx:={C with hx:=some 0}
theorem Cx.Ok.h {C:Cx} (O:C.Ok):C.h.Ok:=⟨O.kin,O.g,O.b,O.boot,O.nolimit⟩
section
variable {C:Cx} {k:Nat} {sc:Scope} {A:Around} {W:Wd} {env:Env} {ms ms₁ ms₂ ms₃ ms':List (Option AV)} {σ σ₁ σ₂ σ₃ σ':St} {s:Shared}
theorem Dh: ∀{es:List (Str×AV)} {ds:List DictEntry},DR C W es ds↔DR C.h W es ds
 | [],_=>Iff.rfl
 | (_,_)::_,_=>by
  constructor
  ·rintro ⟨t,v,ds',e,a,b⟩;exact⟨t,v,ds',e,a,Dh.mp b⟩
  ·rintro ⟨t,v,ds',e,a,b⟩;exact⟨t,v,ds',e,a,Dh.mpr b⟩
theorem Oh {o:AO} {ob:Obj}:ORe C W o ob↔ORe C.h W o ob:=by
 cases o with
 | dict es=>exact⟨fun⟨ds,n,e,r⟩=>⟨ds,n,e,Dh.mp r⟩,fun⟨ds,n,e,r⟩=>⟨ds,n,e,Dh.mpr r⟩⟩
 | map es n=>exact⟨fun⟨ds,e,r⟩=>⟨ds,e,Dh.mp r⟩,fun⟨ds,e,r⟩=>⟨ds,e,Dh.mpr r⟩⟩
 | _=>exact Iff.rfl
theorem Inv.h (I:Inv C W σ s):Inv C.h W σ s:=⟨I.dom,I.inj,fun l a o e q=>let ⟨ob,h1,h2⟩:=I.obj l a o e q;⟨ob,h1,Oh.mp h2⟩,I.apart,I.fz,I.kept,I.base,I.gens,I.os,I.pos,I.high⟩
theorem Inv.unh (I:Inv C.h W σ s):Inv C W σ s:=⟨I.dom,I.inj,fun l a o e q=>let ⟨ob,h1,h2⟩:=I.obj l a o e q;⟨ob,h1,Oh.mpr h2⟩,I.apart,I.fz,I.kept,I.base,I.gens,I.os,I.pos,I.high⟩
theorem At.h {x:Value} (H:At C sc A W env ms σ s):At C.h sc (A.mark (some x)) W env ms σ s:=⟨H.inv.h,H.fr.scope,H.fr.globals,H.fr.builtins,H.fr.ok,H.fr.ns,H.fr.cells,H.fr.apL,H.fr.apC,H.fr.injC,H.fr.clsL,H.fr.stk⟩
theorem At.unh {x:Value} (H:At C.h sc (A.mark (some x)) W env ms σ s):At C sc A W env ms σ s:=⟨H.inv.unh,H.fr.scope,H.fr.globals,H.fr.builtins,H.fr.ok,H.fr.ns,H.fr.cells,H.fr.apL,H.fr.apC,H.fr.injC,H.fr.clsL,H.fr.stk⟩
theorem Ro.h {x:Value} (hr:Ro C A k):Ro C.h (A.mark (some x)) k:=⟨hr.1,hr.2.1,fun z=>by cases z⟩
noncomputable def Mx (C:Cx) (cls:Value) (c:AV):Prop:= ∀(W:Wd) (σ:St) (s:Shared) (A:Around) (E:Value→Shared→Prop) (rc:Value) (e:Addr) (oe:Obj) (Q:Bool→Shared→Prop),Inv C W σ s→VR W c rc→s.heap.get? e=some oe→oe.cls=cls→Q true s→wpAny C.M A (excMatches (.ref e) rc) Q E s
theorem Mty {X T:String} (hexc:isSubtype (.type T) (.type "BaseException")=pure true) (hnt:isSubtype (.type ((Manifest.find? T).elim "type" fun x=>x.metatype)) (.type "tuple")=pure false) (hsub:isSubtype (.type X) (.type T)=pure true):Mx C (.type X) (.ty T):=by
 intro W σ s A E rc e oe Q I q he hc h
 unfold VR at q;subst q
 exact wpAny_excMatches_type (X:=X) ⟨oe,he,hc⟩ hexc hnt hsub h
theorem Xat.settle {cls:Value} {as:List AV} {e:Addr} (X:Xat C sc A W env ms σ cls as (some .none) e s): ∃W' oe vs T oT ts,W.le W'∧At C sc A W' env ms σ s∧W'.fz e=some oe∧oe.cls=cls∧oe.data= .fields vs∧(∃t,vs[0]? =some (.ref t)∧VR W' (.tup as) (.ref t))∧vs[1]? =some (.ref T)∧T≠e∧W'.fz T=some oT∧oT.data= .fields ts∧ts[3]? =some .none:=by
 obtain⟨H,fe,t,qt,oe,vs,T,oT,ts,y1,y2,y3,y4,y5,y6,y7,y8,y9,y10⟩:=X
 obtain⟨le1,H1⟩:=H.freeze y1 fe.1.1 fe.1.2 fe.2.1
 have hT1:(W.freeze e oe).fz T=none:=by
  show(if T=e then _ else W.fz T)=none
  rw [if_neg y7];exact y6.1.1
 obtain⟨le2,H2⟩:=H1.freeze y8 hT1 y6.1.2 y6.2.1
 refine⟨_,oe,vs,T,oT,ts,le1.trans le2,H2,le2.2 _ _ (by show(if _ then _ else _)=_;rw [if_pos rfl]),y2,y3,⟨t,y4,(qt.mono le1).mono le2⟩,y5,y7,by show(if _ then _ else _)=_;rw [if_pos rfl],y9,y10⟩
theorem wsF {M:Model} {E:Value→Shared→Prop} {e T:Addr} {oe oT:Obj} {vs ts:Array Value} {Q:Unit→Shared→Prop} (he:s.heap.get? e=some oe) (hd:oe.data= .fields vs) (h1:vs[1]? =some (.ref T)) (hT:s.heap.get? T=some oT) (hdT:oT.data= .fields ts) (h3:ts[3]? =some .none)
  (g: ∀h',(∀b o,s.heap.get? b=some o→h'.get? b=some o)→Q () {s with heap:=h'}):wpAny M A (setFlight (.ref e) none) Q E s:=by
 refine wpAny_bind (wpAny_field he hd h1 ?_)
 rw [if_pos (show(Value.ref T !=Value.none)=true from by simp)]
 have sz:3<ts.size:=(Array.getElem?_eq_some_iff.mp h3).1
 refine wpAny_setField hT hdT sz (g _ fun b o hb=> ?_)
 obtain⟨cT,dT,dtT,sT⟩:=oT
 simp only at hdT
 subst hdT
 by_cases q:b=T
 ·subst q
  rw [hT]at hb;cases hb
  rw [Heap.get?_update_self _ hT rfl]
  have e1:ts.setIfInBounds 3 Value.none=ts:=by
   apply Array.ext_getElem?
   intro i
   by_cases hi:3=i
   ·subst hi;rw [h3];simp [Array.getElem?_setIfInBounds,sz]
   ·simp [Array.getElem?_setIfInBounds,hi]
  show some (⟨cT,dT,.fields (ts.setIfInBounds 3 Value.none),sT⟩:Obj)=_
  rw [e1]
 ·rw [Heap.get?_update_other _ _ (Ne.symm q)];exact hb
theorem X1C {body:List Stmt} {t:Expr} {b₀:Stmt} {suite:List Stmt} {hpos pos:Pos} {cls:Value} {c:AV} {as:List AV} {f:AF} (hb:Rz C k sc ms σ (execs body) cls as ms₁ σ₁) (hcf:cls≠ .type "frame") (ht:Ev C.h k sc ms₁ σ₁ t c ms₁ σ₁) (hm:Mx C cls c)
  (hx:Ex C.h k sc ms₁ σ₁ (b₀::suite) f ms' σ'):X1 C k sc ms σ (.Try body [.ExceptHandler (some t) none (b₀::suite) hpos] [] [] pos) f ms' σ':=by
 intro A W env s hr H
 refine wpAny_Try_except (wpAny_mono (hb A W env s hr H) (fun u v x=>x.elim) fun e s₁ hX=> ?_)
 obtain⟨W₁,a,fl,le₁,rfl,hfl,X⟩:=hX
 have step: ∀{Q:Unit→Shared→Prop},(∀s' L,Xat C sc A W₁ env ms₁ σ₁ cls as (some (rawInt L)) a s'→Q () s')→wpAny C.M A (noteFrame (.ref a) env) Q No s₁:=fun g=>by
  rcases hfl with h | h | ⟨L,hL,h⟩
  ·exact X.note (.inl h) fun s' L hL X'=>g s' L X'
  ·exact X.note (.inr h) fun s' L hL X'=>g s' L X'
  ·subst h;exact X.again hL (g _ L X)
 refine step fun s₂ L X₂=>X₂.flight (fr:=none) fun s₃ X₃=> ?_
 obtain⟨W₂,oe,vs,T,oT,ts,le₂,H₂,ze,zc,zd,_,z1,zne,zT,zdT,z3⟩:=X₃.settle
 refine wpAny_handleBy_cons (codeAny_handlers_test (ptE (C:=C.h) (ht (A.mark (some (.ref a))) W₂ env s₃ hr.h H₂.h) fun W₃ rc s₄ le₃ H₃ qc=> ?_)) (by intro q;cases q)
 have he:=H₃.inv.frozen (le₃.2 _ _ ze) (by rw [zc];exact hcf)
 obtain⟨oT',hT,uT⟩:=H₃.inv.fz _ _ (le₃.2 _ _ zT)
 refine hm W₃ σ₁ s₄ _ _ rc a oe _ H₃.unh.inv qc he zc ?_
 dsimp only
 refine codeAny_handlers_suite ?_
 refine wsF he zd z1 hT (uT.data.trans zdT) z3 fun h' hk=> ?_
 have H₄:At C.h sc (A.mark (some (.ref a))) W₃ env ms₁ σ₁ {s₄ with heap:=h'}:=H₃.stir (X:=fun u=>False) (fun u x=>x.elim) (fun b o u z=>⟨o,hk b o z,.refl o⟩) (fun b o z=>hk b o (H₃.inv.kept b o z)) (Nat.le_refl _)
 exact ptE (C:=C.h) (hx (A.mark (some (.ref a))) W₃ env _ hr.h H₄) fun W₄ fl s₅ le₄ H₅ qf=>⟨W₄,le₁.trans (le₂.trans (le₃.trans le₄)),H₅.unh,qf⟩
end
end V
end
section
namespace V
open Builtin Builtin.Str
theorem lch (a:Value):checkBoundCall "list_iterator.__next__" ⟨[a],[]⟩=pure ():=by kernel_rfl
theorem lq (a:Args):(Code.builtin "list_iterator.__next__" a).quiet=true:=Code.quiet_builtin _ (by decide+kernel)
section
variable {prog:Program} {w:World} {A:Around} {E:Value→Shared→Prop} {s:Shared}
theorem lii {it l:Addr} {i:Nat} {items:Array Value} {x:Value} {Q:Fin→Shared→Prop} (ho:s.heap.get? it=some (lOb #[.ref l,.int i 0])) (hl:s.heap.IsList l items) (hx:items[i]? =some x)
  (hQ: ∀h',h'.get? it=some (lOb #[.ref l,.int ((i+1:Nat):Int) 0])→Heap.SameBut it s.heap h'→Q (.done (.ret x)) {s with heap:=h'}):wpAny (model prog w) A (Builtin.«list_iterator.__next__» ⟨[.ref it],[]⟩) Q E s:=by
 obtain⟨ol,hol,_,nl,hdl⟩:=hl
 show wpAny _ _ (field (.ref it) 0>>=_) _ _ s
 refine wpAny_bind (wpAny_field ho rfl (x:= .ref l) rfl ?_)
 show wpAny _ _ (if(Value.ref l==Value.none)=true then _ else _) _ _ s
 rw [if_neg (show¬((Value.ref l==Value.none)=true)from Bool.false_ne_true)]
 show wpAny _ _ (field (.ref it) 1>>=_) _ _ s
 refine wpAny_bind (wpAny_field ho rfl (x:= .int i 0) rfl ?_)
 show wpAny _ _ (seqItems? (.ref l)>>=_) _ _ s
 refine wpAny_bind (wpAny_seqItems hol hdl ?_)
 simp only [Int.toNat_natCast,hx]
 refine wpAny_bind (wpAny_setField ho rfl (by simp) (wpAny_pure (hQ _ ?_ (Heap.SameBut.update ..))))
 rw [Heap.get?_update_self _ ho rfl]
 simp [Obj.mapFields,rawInt]
theorem li_end {it l:Addr} {i:Nat} {items:Array Value} {Q:Fin→Shared→Prop} (hh:A.handled=none) (ho:s.heap.get? it=some (lOb #[.ref l,.int i 0])) (hl:s.heap.IsList l items) (hx:items[i]? =none)
  (hE: ∀h' e t,(∀b o,b≠it→s.heap.get? b=some o→h'.get? b=some o)→(∃o',h'.get? it=some o')→s.heap.get? e=none→s.heap.get? t=none→e≠t→h'.get? t=some {cls:= .type "tuple",data:= .seq #[]}→
   h'.get? e=some {cls:= .type "StopIteration",data:= .fields #[.ref t,.none,.none,.none,.bool false,.none]}→E (.ref e) {s with heap:=h'}):wpAny (model prog w) A (Builtin.«list_iterator.__next__» ⟨[.ref it],[]⟩) Q E s:=by
 obtain⟨ol,hol,_,nl,hdl⟩:=hl
 show wpAny _ _ (field (.ref it) 0>>=_) _ _ s
 refine wpAny_bind (wpAny_field ho rfl (x:= .ref l) rfl ?_)
 show wpAny _ _ (if(Value.ref l==Value.none)=true then _ else _) _ _ s
 rw [if_neg (show¬((Value.ref l==Value.none)=true)from Bool.false_ne_true)]
 show wpAny _ _ (field (.ref it) 1>>=_) _ _ s
 refine wpAny_bind (wpAny_field ho rfl (x:= .int i 0) rfl ?_)
 show wpAny _ _ (seqItems? (.ref l)>>=_) _ _ s
 refine wpAny_bind (wpAny_seqItems hol hdl ?_)
 simp only [Int.toNat_natCast,hx]
 refine wpAny_bind (wpAny_rule (wpAny_bind (wpAny_setField ho rfl (by simp) ?_)))
 show wpAny _ _ (newExc (.type "StopIteration") []>>=_) _ _ _
 refine wpAny_bind ?_
 refine wpAny_bind (wpAny_newObj_type ?_ (by size_fits))
 refine wpAny_bind (m:=firstArgMember _ _) (wpAny_of_eq (a:=Value.none) (by first | rfl | (simp only [firstArgMember];rfl)) ?_)
 refine wpAny_newObj_type ?_ (by size_fits)
 refine wpAny_bind (wpAny_handled ?_)
 rw [hh]
 refine wpAny_bind (wpAny_pure (wpAny_throw ?_))
 have other: ∀b o,b≠it→s.heap.get? b=some o→(s.heap.update it (Obj.mapFields (·.setIfInBounds 0 Value.none))).get? b=some o:=fun b o nb z=>by rw [Heap.get?_update_other _ _ (Ne.symm nb)];exact z
 have sz:(s.heap.update it (Obj.mapFields (·.setIfInBounds 0 Value.none))).objs.size=s.heap.objs.size:=(show Heap.SameBut it s.heap (s.heap.update it (Obj.mapFields (·.setIfInBounds 0 Value.none)))from Heap.SameBut.update ..).1
 refine hE _ _ _ (fun b o nb z=>Heap.get?_push_of_some _ (Heap.get?_push_of_some _ (other b o nb z))) ⟨_,Heap.get?_push_of_some _ (Heap.get?_push_of_some _ (Heap.get?_update_self _ ho rfl))⟩ (Heap.get?_none_of_le ?_) (Heap.get?_none_of_le ?_) ?_ (Heap.get?_push_of_some _ (Heap.get?_push_size _ rfl)) (Heap.get?_push_size _ rfl)
 ·simp only [Heap.size_push];rw [sz];exact Nat.le_succ _
 ·rw [sz];exact Nat.le_refl _
 ·simp only [Heap.size_push];exact Nat.succ_ne_self _
theorem mca {it b:Addr} {ob:Obj} {R:Result→Shared→Prop} (hb:s.heap.get? b=some ob) (hc:ob.cls= .type "method-wrapper") (hd:ob.data= .fields #[.builtin "list_iterator.__next__",.ref it])
  (h:wpAny (model prog w) A.in1 (Builtin.«list_iterator.__next__» ⟨[.ref it],[]⟩) (fun fin s'=>match fin with | .done f=>R (.ok f) s' | .again c'=>c'.quiet=true∧codeAny (model prog w) A c' R s') (fun e s'=>R (.error e) s') s):
  codeAny (model prog w) A (.call (.ref b) ⟨[],[]⟩) R s:=by
 obtain⟨oc,od,dt,sl⟩:=ob
 simp only at hc hd
 subst hc hd
 refine codeAny_of_tree ?_
 show wpAny _ A.in1 (callAny (.ref b) ⟨[],[]⟩) _ _ s
 refine wpAny_bind (wpAny_load hb ?_)
 show wpAny _ _ (checkBoundCall "list_iterator.__next__" ⟨[.ref it],[]⟩>>=_) _ _ _
 refine wpAny_bind (wpAny_of_eq (a:=()) (lch _) ?_)
 refine wpAny_bind (wpAny_pure (wpAny_pure ⟨lq _,?_⟩))
 refine codeAny_builtin entry_listiter_next ?_
 show wpAny _ (A.under (.builtin "list_iterator.__next__" ⟨[.ref it],[]⟩)) _ _ _ _
 rw [Around.under_plainId slot_listiter_next.plain]
 exact h
end
section
variable {C:Cx} {k:Nat} {sc:Scope} {A:Around} {W:Wd} {env:Env} {ms ms₁ ms₂ ms₃ ms':List (Option AV)} {σ σ₁ σ₂ σ₃ σ':St} {s:Shared}
theorem Inv.iter {l ll:Loc} {i:Nat} {rv:Value} (I:Inv C W σ s) (h:σ l=some (.iter ll i)) (q:VR W (.loc l) rv): ∃it la,rv= .ref it∧W.ρ l=some it∧W.ρ ll=some la∧s.heap.get? it=some (lOb #[.ref la,.int i 0]):=by
 obtain⟨it,e,rfl⟩:=q
 obtain⟨ob,h1,a,h2,rfl⟩:=I.obj l it _ e h
 exact⟨it,a,rfl,e,h2,h1⟩
theorem Cit {l ll:Loc} {xs:List AV} (hll:σ ll=some (.list xs)) (hl:σ l=none):Ca C k σ (.bi "iter") [.loc ll] [] (.loc l) (σ.set l (.iter ll 0)):=by
 intro W rf ras rkw hf ha hk A s outer hr hA hS I
 unfold VR at hf;subst hf
 unfold KR at hk;subst hk
 obtain⟨r,rfl,q⟩:=Vo ha
 obtain⟨la,vs,rfl,hL,ks⟩:=(IsL.loc hll).list q I
 obtain⟨la',ela,e2⟩:=q
 cases e2
 refine call_function_entry (by decide+kernel) (by decide+kernel) kdk_entry_iter (kdk_args_iter _) ?_
 unfold Builtin.«iter»
 refine wpAny_bind (m:=someArgs "iter" 1 2 _) (wpAny_of_eq (a:= [Value.ref la]) (by first | rfl | kernel_rfl!) ?_)
 show wpAny _ _ (pyIter (.ref la)>>=_) _ _ _
 refine wpAny_bind (wpAny_pyIter_list hL (wpAny_pure ⟨_,rfl,?_⟩))
 obtain⟨W',le,I',q,_⟩:=I.newObj (o:= .iter ll 0) (ob:=lOb #[.ref la,.int 0 0]) hl (Heap.get?_push_size _ rfl) (Nat.le_refl _) (fun W' le=>⟨la,le.1 _ _ ela,rfl⟩)
 exact⟨W',le,I',q⟩
theorem Opn {l ll:Loc} {i:Nat} (h:σ l=some (.iter ll i)):Op1 C k σ (fun x=>getAttr x "__next__" true) (.loc l) (fun W r=>VR W (.mw "list_iterator.__next__" l) r) σ:=by
 intro W ra q A s outer hr hA hS I
 obtain⟨it,la,rfl,e,e2,ho⟩:=I.iter h q
 obtain⟨hp,gn,dr,tk,os⟩:=s
 dsimp only at ho
 obtain⟨n1,n2⟩:=I.nY
 have g:(hp.push (mOb it)).get? hp.objs.size=some (mOb it):=Heap.get?_push_size _ rfl
 obtain⟨le,I'⟩:=I.nF (t:=tk+1) (d:=dr) n1 n2 (pke _ _) g
 have hq: ∃W',W.le W'∧Inv C W' σ ⟨hp.push (mOb it),gn,dr,tk+1,os⟩∧VR W' (.mw "list_iterator.__next__" l) (.ref hp.objs.size):=by
  refine⟨_,le,I',?_⟩
  refine⟨it,hp.objs.size,mOb it,le.1 _ _ e,rfl,?_,rfl,rfl⟩
  show(if _ then _ else _)=_
  rw [if_pos rfl]
 have hT:(⟨hp,gn,dr,tk+1,os⟩:Shared).TypeIs (.ref it) "list_iterator":=⟨_,ho,rfl⟩
 have f2:=lig.lookup
 have f3:=lig.bind (.ref it)
 repeat (any_goals (first | assumption | wp_step))
 refine lca ho ?_
 repeat (any_goals (first | assumption | wp_step))
theorem Cne {l ll:Loc} {i:Nat} {xs:List AV} {x:AV} (h:σ l=some (.iter ll i)) (hll:σ ll=some (.list xs)) (hx:xs[i]? =some x):Ca C k σ (.mw "list_iterator.__next__" l) [] [] x (σ.set l (.iter ll (i+1))):=by
 intro W rf ras rkw hf ha hk A s outer hr hA hS I
 unfold KR at hk;subst hk
 unfold VRe at ha;subst ha
 obtain⟨it,b,o,e,rfl,hb,c1,c2⟩:=hf
 obtain⟨it',la,e0,e1,e2,ho⟩:=I.iter (rv:= .ref it) h (by unfold VR;exact⟨it,e,rfl⟩)
 cases e0
 obtain⟨la',vs,e3,hL,ks⟩:=(IsL.loc hll).list (rv:= .ref la) (by unfold VR;exact⟨la,e2,rfl⟩) I
 cases e3
 obtain⟨v,hv,qv⟩:=ks.get hx
 refine wpAny_call (mca (I.frozen hb (by rw [c1];decide)) c1 c2 (lii ho hL (by simpa using hv) fun h' g1 g2=> ?_))
 exact⟨W,.refl W,I.upd (t:=s.toks) (d:=s.drawn) e (fun b o n z=>(g2.2 b n).trans z) g1 ⟨la,e2,rfl⟩,qv⟩
theorem CXn {l ll:Loc} {i:Nat} {xs:List AV} (h:σ l=some (.iter ll i)) (hll:σ ll=some (.list xs)) (hx:xs.length≤i) (h0:C.hx=none:=by assumption):CaX C k σ (.mw "list_iterator.__next__" l) [] (.type "StopIteration") [] (σ.set l .junk):=by
 intro W rf ras hf ha A s outer hr hA hS I
 unfold VRe at ha;subst ha
 obtain⟨it,b,o,e,rfl,hb,c1,c2⟩:=hf
 obtain⟨it',la,e0,e1,e2,ho⟩:=I.iter (rv:= .ref it) h (by unfold VR;exact⟨it,e,rfl⟩)
 cases e0
 obtain⟨la',vs,e3,hL,ks⟩:=(IsL.loc hll).list (rv:= .ref la) (by unfold VR;exact⟨la,e2,rfl⟩) I
 cases e3
 refine wpAny_call (mca (I.frozen hb (by rw [c1];decide)) c1 c2 (li_end (hr.none h0) ho hL (by rw [List.getElem?_toArray,List.getElem?_eq_none_iff,ks.length];exact hx) fun h' ea t k1 k2 ne nt het ht he=> ?_))
 obtain⟨oi,hoi⟩:=k2
 have I1:=I.upd (h:=h') (t:=s.toks) (d:=s.drawn) (o':= .junk) e (fun b o n z=>k1 b o n z) hoi trivial
 have fr: ∀{a},s.heap.get? a=none→FrO C W a:=fun{a} z=>by
  refine⟨⟨?_,fun l' e'=> ?_⟩,?_⟩
  ·cases q:W.fz a with
   | none=>rfl
   | some o=>obtain⟨o',z',_⟩:=I.fz a o q;rw [z]at z';cases z'
  ·have d:=I.dom l'
   rw [e']at d
   cases q:σ l' with
   | none=>rw [q]at d;cases d
   | some o=>obtain⟨ob,z',_⟩:=I.obj l' a o e' q;rw [z]at z';cases z'
  ·cases q:C.h₀.get? a with
   | none=>rfl
   | some o=>have:=I.kept a o q;rw [z]at this;cases this
 have f1:=fr ne
 have f2:=fr nt
 obtain⟨le,I2⟩:=I1.nF (h:=h') (t:=s.toks) (d:=s.drawn) f2.1.1 f2.1.2 (fun u v z=>z) ht
 refine⟨_,ea,t,le,I2,rfl,⟨⟨?_,f1.1.2⟩,f1.2⟩,?_,.inl he⟩
 ·show(if ea=t then _ else W.fz ea)=none
  rw [if_neg het];exact f1.1.1
 ·unfold VR
  refine⟨t,_,[],0,rfl,?_,rfl,rfl,.nil⟩
  show(if _ then _ else _)=_
  rw [if_pos rfl]
end
end V
end
section
namespace V
open Builtin Builtin.Str
section
variable {C:Cx} {k:Nat} {sc:Scope} {A:Around} {W:Wd} {env:Env} {ms ms₁ ms₂ ms₃ ms':List (Option AV)} {σ σ₁ σ₂ σ₃ σ':St} {s:Shared}
theorem XP.noted {cls:Value} {as:List AV} {e:Value} (X:XP C sc A W env ms σ cls as e s) {E:Value→Shared→Prop} {Q:Unit→Shared→Prop} (g: ∀s' W' a L,e= .ref a→W.le W'→env.frame=some L→Xat C sc A W' env ms σ cls as (some (rawInt L)) a s'→Q () s'):wpAny C.M A (noteFrame e env) Q E s:=by
 obtain⟨W',a,fl,le,rfl,hfl,X⟩:=X
 refine wpAny_mono (E:=No) ?_ (fun u v z=>z) fun u v z=>z.elim
 rcases hfl with h | h | ⟨L,hL,h⟩
 ·exact X.note (.inl h) fun s' L hL X'=>g s' W' a L rfl le hL X'
 ·exact X.note (.inr h) fun s' L hL X'=>g s' W' a L rfl le hL X'
 ·subst h;exact X.again hL (g _ W' a L rfl le hL X)
theorem XP.cB {cls:Value} {as:List AV} {a L:Addr} {W':Wd} {E:Value→Shared→Prop} (le:W.le W') (hL:env.frame=some L) (X:Xat C sc A W' env ms σ cls as (some (rawInt L)) a s) (g: ∀s',XP C sc A W env ms σ cls as (.ref a) s'→E (.ref a) s'):cameBackBy C.M A env E (.ref a) s:=by
 obtain⟨H,fe,t,qt,oe,vs,T,oT,ts,he,hc,hd,h0,h1,fT,hTe,hT,hdT,h3⟩:=id X
 refine wpAny_bind (wpAny_field he hd h1 ?_)
 rw [if_neg (show¬((Value.ref T==Value.none)=true)from Bool.false_ne_true)]
 refine wpAny_mono (E:=No) (X.flight (fr:=env.frame) fun s' X'=>g s' ⟨W',a,_,le,rfl,.inr (.inr ⟨L,hL,?_⟩),X'⟩) (fun u v z=>z) fun u v z=>z.elim
 rw [hL];rfl
theorem R_For {tgt iter:Expr} {body:List Stmt} {pos:Pos} {v:AV} {ok:St→Prop} {x:AV} {xs:List AV} {src:AV} {Sh:Nat→Value→Obj→Prop} {cls:Value} {as:List AV}
  (h1:Ev C k sc ms σ iter v ms₁ σ₁) (I:Itr C k ok v (x::xs) src Sh) (hok:ok σ₁) (ha:As C k sc ms₁ σ₁ tgt x ms₂ σ₂) (hx:Rz C k sc ms₂ σ₂ (execs body) cls as ms' σ')
  (hs: ∀env x,foldedSetIterable iter env x=pure x):Rz C k sc ms σ (exec (.For tgt iter body [] pos)) cls as ms' σ':=by
 intro A W env s hr H
 rw [arm_exec_For]
 refine wpAny_bind (wpAny_standAt (wpAny_bind (ptE (h1 A W env s hr H) fun W₁ rv s₁ le₁ H₁ q=>wpAny_bind (wpAny_of_eq (hs _ _) (wpAny_bind (wpAny_standAt (wpAny_bind (wpAny_holding ?_))))))))
 refine wpAny_mono (E:=No) (ist (Q:=fun r s₂=> ∃W₂ it,r= .ref it∧W₁.le W₂∧At C sc A W₂ env ms₁ σ₁ s₂∧Ho C W₂ env src Sh 0 it s₂) I hok hr H₁ q fun W₂ it s₂ le₂ H₂ K₂=>⟨W₂,it,rfl,le₂,H₂,K₂⟩) (fun r s₂ hh=> ?_) fun u w z=>z.elim
 obtain⟨W₂,it,rfl,le₂,H₂,K₂⟩:=hh
 refine wpAny_runOwn (h:=none) ?_
 rw [mark_none]
 refine codeAny_of_tree ?_
 rw [Around.under_of_weight (A:=A) (c:= .forLoop tgt (.ref it) body [] env) rfl]
 show wpAny C.M A ((forTurn tgt (.ref it) body [] env).onRaise (fun x=>do noteFrame x env;theTreesLotGoes x)) _ _ s₂
 refine wpAny_noted (wpAny_mono (Q:=fun u w=>False) (E:=XP C sc A W env ms' σ' cls as) ?_ (fun u w h=>h.elim) fun e s' X=> ?_)
 ·unfold forTurn
  refine wpAny_bind (wpAny_standAt (wpAny_bind (wpAny_onRaise (wpAny_mono (E:=No) (ine (Q:=fun r s'=> ∃W' rx,r=some rx∧W₂.le W'∧At C sc A W' env _ _ s'∧Ho C W' env src Sh (0+1) it s'∧VR W' x rx) I rfl hok hr H₂ K₂
   fun W' rx s' le H' K' q=>⟨W',rx,rfl,le,H',K',q⟩) (fun r s' hh=> ?_) fun u w h=>h.elim))))
  obtain⟨W',rx,rfl,le,H',K',q⟩:=hh
  refine wpAny_bind (wpAny_mono (E:=No) (il (Q:=fun u s₁=>At C sc A W' env ms₁ σ₁ s₁) I H' K' fun s₁ H₁ K₁=>H₁) (fun u s₃ H₃=> ?_) fun u w z=>z.elim)
  refine wpAny_bind (ptE (ha A W' env s₃ rx hr H₃ q) fun W₄ u s₄ le₄ H₄ w=> ?_)
  exact wpAny_bind (rz (le₁.trans (le₂.trans (le.trans le₄))) (hx A W₄ env s₄ hr H₄) fun u w z=>z)
 ·refine X.noted fun s'' W' a L he le hL X'=> ?_
  subst he
  exact XP.cB le hL X' fun s' z=>z
end
end V
end
section
namespace V
open Builtin Builtin.Str
noncomputable def ExcAt (K:Frag) (c:Addr) (bmB:List Value) (newId:String):Prop:=
 ∃(bm:List Value) (N:Addr) (nm qn:Str) (bs:List Value) (hd:Bool) (sn:List Str) (sub:List Value) (ab:Bool) (col:Option Bool) (dd:Option Addr) (k0 k1 k2 k3 k5:Option Value),
  K.lookup c=some (excClassObj nm qn c N bs bm hd sn sub ab col dd k0 k1 k2 k3 k5 newId)∧tailIn K bmB bm=true∧nsOkIn K N=true∧nsIn K N "__init__"=some none
theorem exo {K:Frag} {h:Heap} {c:Addr} {bmB:List Value} {newId:String} (X:K.In h) (q:ExcAt K c bmB newId):
  ∃(bm:List Value) (N:Addr) (nm qn:Str) (bs:List Value) (hd:Bool) (sn:List Str) (sub:List Value) (ab:Bool) (col:Option Bool) (dd:Option Addr) (k0 k1 k2 k3 k5:Option Value) (mN:Str→Option Value),
   h.get? c=some (excClassObj nm qn c N bs bm hd sn sub ab col dd k0 k1 k2 k3 k5 newId)∧h.Ns N mN∧mN "__init__"=none∧OwnTail h bmB bm:=by
 obtain⟨bm,N,nm,qn,bs,hd,sn,sub,ab,col,dd,k0,k1,k2,k3,k5,ho,ht,hok,hni⟩:=q
 exact⟨bm,N,nm,qn,bs,hd,sn,sub,ab,col,dd,k0,k1,k2,k3,k5,_,X _ _ ho,.of_isNs (isNs_of_in X hok),nsMap_none_of_in X hok hni,tail_of_in X ht⟩
section
variable {C:Cx} {k:Nat} {sc:Scope} {A:Around} {W:Wd} {env:Env} {ms ms₁ ms₂ ms₃ ms':List (Option AV)} {σ σ₁ σ₂ σ₃ σ':St} {s:Shared}
theorem Mx_sub (O:C.Ok) {c:Addr} {bmB:List Value} {newId:String} (q:ExcAt C.K c bmB newId) (hb:bmB.contains (.type "BaseException")=true):Mx C (.ref c) (.ext c):=by
 intro W σ s A E rc e oe Q I qr he hc h
 unfold VR at qr;subst qr
 obtain⟨bm,N,nm,qn,bs,hd,sn,sub,ab,col,dd,k0,k1,k2,k3,k5,mN,hC,hN,hni,TL⟩:=exo (kno O I) q
 obtain⟨hp,g,d,t,os⟩:=s
 exact wpAny_excMatches_sub_self hC he hc (TL.hasType hb) h
theorem RRS (O:C.Ok) {c:Addr} {B Bn newId nid initId inN:String} {bmB bmN:List Value} (Fn:ExcBaseFacts Bn newId inN bmN) (hBn:bmB.contains (.type Bn)=true) (F:ExcBaseFacts B nid initId bmB) (q:ExcAt C.K c bmB newId) (hb:bmB.contains (.type "BaseException")=true)
  {x:Str} {np cpos pos:Pos} {args:List Expr} {as:List AV} (h1:Ev C k sc ms σ (.Name x np) (.ext c) ms₁ σ₁) (h2:Es C k sc ms₁ σ₁ cpos args as ms' σ')
  (hz:as.length≤sizeLine) (hp: ∀env,(backTo cpos (starEach args env)).any (·.1)=false) (h0:C.hx=none:=by assumption):Rz C k sc ms σ (exec (.Raise (some (.Call (.Name x np) args [] cpos)) none pos)) (.ref c) as ms' σ':=by
 intro A W env s hr H
 have I0:=H.inv
 obtain⟨bm,N,nm,qn,bs,hd,sn,sub,ab,col,dd,k0,k1,k2,k3,k5,mN,hC,hN,hni,TL⟩:=exo (O.kin) q
 refine wpAny_Raise_call_subU (C:=c) (nm:=nm) (q:=qn) (N:=N) (bs:=bs) (bm:=bm) (hdct:=hd) (sn:=sn) (sub:=sub) (ab:=ab) (col:=col) (dd:=dd) (k0:=k0) (k1:=k1) (k2:=k2) (k3:=k3) (k5:=k5) (newId:=newId) (mN:=mN) Fn hBn F (TL.hasType hb) (hr.none h0) (hp env) hni (ptE (h1 A W env s hr H) fun W₁ r s₁ le₁ H₁ q=>⟨by unfold VR at q;exact q,?_⟩)
 refine eAp (fun y z=>by have:=hp env;rw [z]at this;simp at this) (ptE (h2 A W₁ env s₁ hr H₁) fun W₂ vs s₂ le₂ H₂ qs=>⟨rfl,by rw [qs.length];exact hz,H₂.inv.kept _ _ hC,hN.keeps H₂.inv.kept,TL.keeps H₂.inv.kept,fun h' e hm=> ?_⟩)
 exact(raised H₂ qs ⟨hm.keeps,hm.new,hm.there⟩).le (le₁.trans le₂)
end
end V
end
section
namespace V
open Builtin Builtin.Str
section
variable {C:Cx} {k:Nat} {sc:Scope} {A:Around} {W:Wd} {env:Env} {ms ms₁ ms₂ ms₃ ms':List (Option AV)} {σ σ₁ σ₂ σ₃ σ':St} {s:Shared}
noncomputable def Rd (C:Cx) (σ:St) (a:AV) (d:PyData):Prop:= ∀(W:Wd) (s:Shared) (v:Value),Inv C W σ s→VR W a v→ ∃as,Reads s.heap v d as
noncomputable def Rds (C:Cx) (σ:St) (a:List AV) (d:List PyData):Prop:= ∀(W:Wd) (s:Shared) (v:List Value),Inv C W σ s→VRe W a v→ ∃as,ReadsAll s.heap v d as
theorem Rno:Rd C σ .none .none:=fun W s v I q=>by unfold VR at q;subst q;exact⟨_,.none⟩
theorem Rsa {x:Str}:Rd C σ (.str x) (.str x):=fun W s v I q=>by unfold VR at q;obtain⟨t,rfl⟩:=q;exact⟨_,.str x t⟩
theorem Rn:Rds C σ [] []:=fun W s v I q=>by unfold VRe at q;subst q;exact⟨_,.nil⟩
theorem Rco {a:AV} {as:List AV} {d:PyData} {ds:List PyData} (h1:Rd C σ a d) (h2:Rds C σ as ds):Rds C σ (a::as) (d::ds):=fun W s v I q=>by
 obtain⟨u,r,rfl,q1,q2⟩:=q
 obtain⟨x,hx⟩:=h1 W s u I q1
 obtain⟨y,hy⟩:=h2 W s r I q2
 exact⟨_,.cons hx hy⟩
theorem Rm {α:Type} {f:α→AV} {g:α→PyData} (h: ∀x,Rd C σ (f x) (g x)): ∀l:List α,Rds C σ (l.map f) (l.map g)
 | []=>Rn
 | x::l=>Rco (h x) (Rm h l)
theorem Rtu {xs:List AV} {ds:List PyData} (h:Rds C σ xs ds):Rd C σ (.tup xs) (.tuple ds):=fun W s v I q=>by
 obtain⟨a,vs,n,rfl,hl,ks⟩:=q.isTup I
 obtain⟨y,hy⟩:=h W s vs I ks
 exact⟨_,.tuple hl rfl rfl (by simpa using hy)⟩
theorem Rli {v:AV} {xs:List AV} {ds:List PyData} (hl:IsL σ v xs) (h:Rds C σ xs ds):Rd C σ v (.list ds):=fun W s v I q=>by
 obtain⟨a,vs,n,rfl,hl,ks⟩:=hl.is q I
 obtain⟨y,hy⟩:=h W s vs I ks
 exact⟨_,.list hl rfl rfl (by simpa using hy)⟩
theorem NEs {a b:AV} {d:PyData} (ha:Rd C σ a d) (hb:Rd C σ b d) (hc:d.canLay0=true) (hd:d.depth≤9):Op2 C k σ (compareOp .NotEq) a b (fun W r=>VR W (.bool false) r) σ:=by
 intro W ra rb qa qb
 refine Op.look fun A s Q hr I hq=> ?_
 obtain⟨x,hx⟩:=ha W s ra I qa
 obtain⟨y,hy⟩:=hb W s rb I qb
 refine SeqAt.compareNe_reads hx hy hc hc (by have:=hr.2.1;rw [Nat.min_self];omega) (hq _ s.toks ?_)
 have e:PyData.eqv d d=true:=by first | exact SeqAt.eqv_refl d hc | exact eqv_refl d hc
 rw [e];unfold VR;rfl
end
end V
end
section
namespace V
open Builtin Builtin.Str
section
variable {C:Cx} {k:Nat} {sc:Scope} {A:Around} {W:Wd} {env:Env} {ms ms₁ ms₂ ms₃ ms':List (Option AV)} {σ σ₁ σ₂ σ₃ σ':St} {s:Shared}
theorem LsA {l:Loc} {v:AV} {xs ys:List AV} (h:σ l=some (.list xs)) (hv:IsL σ v ys) (hz:xs.length+ys.length≤sizeLine) (hne:v≠ .loc l):Op3 C k σ setItem (.loc l) (.slc .none .none .none) v (fun u w=>True) (σ.set l (.list ys)):=by
 intro W ra rb rc qa qb qc A s outer hr hA hS I
 obtain⟨vd,us,m,rfl,hvd,ku⟩:=hv.is qc I
 unfold VR at qb;obtain⟨sl,os,vx,vy,vz,rfl,f,z1,z2,k1,k2,k3⟩:=qb
 subst k1 k2 k3
 have hos:=I.frozen f (by rw [z1];decide)
 obtain⟨a,e,rfl⟩:=qa
 obtain⟨ob,h1,c1,vs,n,rfl,c3⟩:=I.obj l a _ e h
 have hne':a≠vd:=by
  intro q
  subst q
  cases hv with
  | lst ys=>
   obtain⟨b,o,vs',n',e1,f1,_⟩:=qc
   cases e1
   have:=I.apart l a e
   rw [this]at f1;cases f1
  | @loc l2 ys h2=>
   obtain⟨b,e1,e2⟩:=qc
   cases e2
   exact hne (by rw [I.inj l2 l a e1 e])
 have hT:s.TypeIs (.ref a) "list":=⟨_,h1,rfl⟩
 have hTs:s.TypeIs (.ref sl) "slice":=⟨os,hos,z1⟩
 have hTv:s.TypeIs (.ref vd) "list":=⟨_,hvd,rfl⟩
 have l1:vs.length=xs.length:=c3.length
 have l2:us.length=ys.length:=ku.length
 unfold setItem
 try with_reducible refine wpAny_holding ?_
 first | refine wpAny_bind (wpAny_pure ?_) | skip
 refine wpAny_bind (wpAny_sequenceKey hT (by decide) ?_)
 refine wpAny_bind (wpAny_callSpecial?_slot (name:=Str.ofString "__setitem__") hT F.slot_list_setitem
  (wpAny_call_entry F.slot_list_setitem hT F.entry_list_setitem ?_ (F.args_list_setitem_3 _ _ _)))
 show wpAny _ _ (Builtin.List.listSubscript? (.ref sl)>>=_) _ _ s
 refine wpAny_bind ?_
 unfold Builtin.List.listSubscript?
 refine wpAny_bind (wpAny_specialOf hTs slice_no_index ?_)
 refine wpAny_pure ?_
 show wpAny _ _ (typeOf (.ref sl)>>=_) _ _ s
 refine wpAny_bind (wpAny_typeOf hTs ?_)
 rw [listSliceParts_eq]
 refine wpAny_bind (wpAny_bind (wpAny_field hos z2 (x:= .none) rfl (wpAny_bind (wpAny_listPart .none ?_))))
 refine wpAny_bind (wpAny_field hos z2 (x:= .none) rfl (wpAny_bind (wpAny_listPart .none ?_)))
 refine wpAny_bind (wpAny_field hos z2 (x:= .none) rfl (wpAny_bind (wpAny_listPart .none (wpAny_pure ?_))))
 dsimp only
 have sr:Builtin.List.listSameRef (.ref a) (.ref vd)=false:=by
  show(a==vd)=false
  simpa using hne'
 rw [sr]
 refine wpAny_bind ?_
 unfold Builtin.List.listAllItems
 refine wpAny_bind (wpAny_typeOf hTv ?_)
 unfold Builtin.List.listItems
 refine wpAny_bind (wpAny_seqItems hvd rfl (wpAny_pure ?_))
 refine wpAny_bind (wpAny_bind (wpAny_seqItems h1 rfl (wpAny_pure ?_)))
 refine wpAny_bind (wpAny_of_eq (a:=((0:Int),((List.toArray vs).size:Int),(1:Int))) rfl ?_)
 dsimp only
 refine wpAny_bind (wpAny_rule ?_)
 have htl:Builtin.List.listTooLong ((List.toArray vs).size+(List.toArray us).size)=false:=by
  unfold Builtin.List.listTooLong
  simp only [List.size_toArray,l1,l2,decide_eq_false_iff_not]
  omega
 rw [htl]
 have ef:(List.toArray vs).extract 0 (Int.toNat 0)++us.toArray++(List.toArray vs).extract (Max.max 0 ((List.toArray vs).size:Int)).toNat (List.toArray vs).size=us.toArray:=by
  have e1:(Max.max 0 ((List.toArray vs).size:Int)).toNat=(List.toArray vs).size:=by
   rw [Int.max_eq_right (by omega)];simp
  show(List.toArray vs).extract 0 0++us.toArray++(List.toArray vs).extract _ _=_
  rw [e1]
  simp
 show wpAny _ _ (updateSeq a _>>=_) _ _ _
 refine wpAny_bind (wpAny_updateSeq h1 rfl (wpAny_bind (wpAny_letGo (wpAny_pure ⟨.none,rfl,wpAny_pure ?_⟩))) ?_ ?_)
 ·obtain⟨n',en⟩:=mSi (fun xs:Array Value=>xs.extract 0 (Int.toNat 0)++us.toArray++xs.extract (Max.max 0 ((List.toArray vs).size:Int)).toNat xs.size) (List.toArray vs) n
  have en2:=en.trans (congrArg (fun z=>({cls:= .type "list",data:= .seq z n'}:Obj)) ef)
  exact⟨W,.refl W,I.upd (t:=s.toks) (d:=s.drawn) (o':= .list ys) e (uke _ _ _) (Heap.get?_update_self _ h1 rfl) ⟨rfl,us,n',en2,ku⟩,trivial⟩
 ·simp only [List.size_toArray,l1];omega
 ·show((List.toArray vs).extract 0 (Int.toNat 0)++us.toArray++(List.toArray vs).extract (Max.max 0 ((List.toArray vs).size:Int)).toNat (List.toArray vs).size).size≤_
  rw [ef]
  simp only [List.size_toArray,l1,l2];omega
theorem EFR {e:Expr} {pos:Pos} {x y:Str} {n:Nat} (h1:Ev C k sc ms σ e (.str x) ms₁ σ₁) (hy:reprText x=y) (hx:B y n) (hn:decide (n≤16777216)=true):Ev C k sc ms σ (.FormattedValue e 114 none pos) (.str y) ms₁ σ₁:=by
 subst hy
 intro A W env s hr H
 refine wpAny_FormattedValue_repr (pg (h1 A W env s hr H) fun W₁ r s₁ le₁ H₁ q=> ?_)
 unfold VR at q;obtain⟨t,rfl⟩:=q
 refine wA (wpAny_pyReprObj_str (fun l=> ?_) (Bf hx hn))
 have H₂:=H₁.tok (s₁.toks+1)
 refine wA (SB.field_str (fun t'' k'' l''=> ?_) (Bf hx hn))
 exact ph le₁ (H₂.tok k'' l'') Vs
theorem Dno {l:Loc} {es:List (Str×AV)} {key:Str} {c:Bool} (h:IsD σ l es) (hn:DN es) (hc:(!(dge es key).isSome)=c):Op2 C k σ (compareOp .NotIn) (.str key) (.loc l) (fun W r=>VR W (.bool c) r) σ:=by
 intro W ra rb qa qb
 unfold VR at qa;obtain⟨t,rfl⟩:=qa
 refine Op.look fun A s Q hr I hq=> ?_
 obtain⟨a,kvs,rfl,e,ns,hd,hk⟩:=I.dict h hn qb
 refine wpAny_notIn_of (knd:=sk C) (k:=key) (strKind_is _ _ _ _) ns hd.mapOf (hq _ _ ?_)
 rcases hk.find (key:=key)with⟨z,z'⟩ | ⟨y,v,z1,z2,z3⟩
 ·rw [←hc,z,z'];rfl
 ·rw [←hc,z1,z2];rfl
end
end V
end
section
namespace V
open Builtin Builtin.Str
section
variable {C:Cx} {k:Nat} {sc:Scope} {A:Around} {W:Wd} {env:Env} {ms ms₁ ms₂ ms₃ ms':List (Option AV)} {σ σ₁ σ₂ σ₃ σ':St} {s:Shared}
theorem O3 (O:C.Ok) {l d:Loc} {c f:Addr} {es:List (Str×AV)} {iv v r:AV} (hl:σ l=some (.inst c d)) (hd:σ d=some (.dict es)) (hq:noSeq C.K c=true) (hs:findIn C.K (.ref c) "__setitem__"=some (some (.ref f))) (hf:typeIn C.K (.ref f)=some (.type "function"))
  (h:Ca C k σ (.ext f) [.loc l,iv,v] [] r σ'):Op3 C k σ setItem (.loc l) iv v (fun u w=>True) σ':=by
 intro W ra rb rc qa qb qc A s outer hr hA hS I
 obtain⟨x,dx,xs,n,rfl,hdx,IA,_,hlen,hvs⟩:=I.inst hl hd qa
 have X:=kno O I
 refine wpAny_holding (wpAny_bind (wpAny_bind (IA.type.here ?_)))
 refine wpAny_bind ((anyM_none X hq).here ?_)
 rw [if_pos (show(!false)=true from rfl)]
 refine wpAny_pure (wpAny_bind (special_fn X IA hs hf (wpAny_mono (h W (.ref f) [.ref x,rb,rc] [] (by unfold VR;rfl) (.cons qa (.cons qb (.cons qc .nil))) .nil A s outer hr hA hS I) (fun _ _ ⟨W',le,I',q⟩=>wpAny_pure ⟨W',le,I',trivial⟩) fun u w z=>z)))
theorem O2d (O:C.Ok) {l d:Loc} {c f:Addr} {es:List (Str×AV)} {iv r:AV} (hl:σ l=some (.inst c d)) (hd:σ d=some (.dict es)) (hq:noSeq C.K c=true) (hs:findIn C.K (.ref c) "__delitem__"=some (some (.ref f))) (hf:typeIn C.K (.ref f)=some (.type "function"))
  (h:Ca C k σ (.ext f) [.loc l,iv] [] r σ'):Op2 C k σ delItem (.loc l) iv (fun u v=>True) σ':=by
 intro W ra rb qa qb A s outer hr hA hS I
 obtain⟨x,dx,xs,n,rfl,hdx,IA,_,hlen,hvs⟩:=I.inst hl hd qa
 have X:=kno O I
 refine wpAny_holding (wpAny_bind (wpAny_bind (IA.type.here ?_)))
 refine wpAny_bind ((anyM_none X hq).here ?_)
 rw [if_pos (show(!false)=true from rfl)]
 refine wpAny_pure (wpAny_bind (special_fn X IA hs hf (wpAny_mono (h W (.ref f) [.ref x,rb] [] (by unfold VR;rfl) (.cons qa (.cons qb .nil)) .nil A s outer hr hA hS I) (fun _ _ ⟨W',le,I',q⟩=>wpAny_pure ⟨W',le,I',trivial⟩) fun u v z=>z)))
theorem At.in1 (H:At C sc A W env ms σ s):At C sc A.in1 W env ms σ s:=⟨H.inv,H.fr.scope,H.fr.globals,H.fr.builtins,H.fr.ok,H.fr.ns,H.fr.cells,H.fr.apL,H.fr.apC,H.fr.injC,H.fr.clsL,H.fr.stk⟩
theorem At.out1 (H:At C sc A.in1 W env ms σ s):At C sc A W env ms σ s:=⟨H.inv,H.fr.scope,H.fr.globals,H.fr.builtins,H.fr.ok,H.fr.ns,H.fr.cells,H.fr.apL,H.fr.apC,H.fr.injC,H.fr.clsL,H.fr.stk⟩
theorem ESI (O:C.Ok) {o i:Expr} {pos:Pos} {iv v:AV} {l d:Loc} {c f:Addr} {es:List (Str×AV)} (h1:Ev C (k+1) sc ms σ o (.loc l) ms₁ σ₁) (h2:Ev C (k+1) sc ms₁ σ₁ i iv ms₂ σ₂) (hl:σ₂ l=some (.inst c d)) (hd:σ₂ d=some (.dict es))
  (hs:findIn C.K (.ref c) "__getitem__"=some (some (.ref f))) (hf:typeIn C.K (.ref f)=some (.type "function")) (hfn: ∃oc od fd sl,C.K.lookup f=some ⟨oc,od,.func fd,sl⟩) (h:Ca C k σ₂ (.ext f) [.loc l,iv] [] v σ')
  (hsl: ∀ro ri:Value,subscripted i true ro ri=runValue (.builtin "lifetime.subscript" ⟨[ro,ri],[]⟩)):Ev C (k+1) sc ms σ (.Subscript o i pos) v ms₂ σ':=by
 intro A W env s hr H
 rw [arm_eval_Subscript]
 refine pbi (h1 A W env s hr H) fun W₁ ro s₁ le₁ H₁ qo=>wpAny_bind (wpAny_holding (pg (h2 A W₁ env s₁ hr H₁) fun W₂ ri s₂ le₂ H₂ qi=>wpAny_bind (wpAny_standAt (wpAny_bind ?_))))
 have qo2:=qo.mono le₂
 obtain⟨x,dx,xs,n,rfl,hdx,IA,_,hlen,hvs⟩:=H₂.inv.inst hl hd qo2
 have X:=kno O H₂.inv
 obtain⟨oc,od,fd,sl,hK⟩:=hfn
 refine wpAny_bind (wpAny_bind (IA.type.here ((looks_findIn X hs).here ?_)))
 dsimp only
 refine wpAny_bind (wpAny_load (X _ _ hK) (wpAny_pure ?_))
 dsimp only
 have key:wpAny C.M A (subscripted i true (.ref x) ri) (fun r s₃=> ∃W₃,W₂.le W₃∧At C sc A W₃ env ms₂ σ' s₃∧VR W₃ v r) No s₂:=by
  rw [hsl]
  refine wpAny_runValue (codeAny_builtin entry_sub ?_)
  unfold Builtin.«lifetime.subscript»
  refine wpAny_bind (special_fn X IA hs hf ?_)
  show wpAny C.M A.in1 _ _ _ _
  refine wpAny_mono (h.in (R:=fun r s₃=> ∃W₃,W₂.le W₃∧At C sc A W₃ env ms₂ σ' s₃∧VR W₃ v r) hr.in1 H₂.in1 (rf:= .ref f) (ras:= [.ref x,ri]) (rkw:= []) (by unfold VR;rfl) (.cons qo2 (.cons qi .nil)) .nil fun W₃ r s₃ le₃ H₃ q=>⟨W₃,le₃,H₃.out1,q⟩) (fun r s₃ hh=> ?_) fun u w z=>z.elim
  exact wpAny_pure hh
 refine wpAny_bind (wpAny_mono key (fun r s₃ ⟨W₃,le₃,H₃,q⟩=> ?_) fun u w z=>z)
 exact wpAny_bind (wpAny_letTemporaryGo (wpAny_pure (ph (le₁.trans (le₂.trans le₃)) H₃ q)))
end
end V
end
section
namespace V
open Builtin Builtin.Str
section
variable {C:Cx} {k:Nat} {sc:Scope} {A:Around} {W:Wd} {env:Env} {ms ms₁ ms₂ ms₃ ms':List (Option AV)} {σ σ₁ σ₂ σ₃ σ':St} {s:Shared}
theorem Inv.fM: ∀(l:List (Addr×Obj)) {W:Wd},Inv C W σ s→(∀p∈l,W.fz p.1=none∧(∀x,W.ρ x≠some p.1)∧s.heap.get? p.1=some p.2)→(l.map (·.1)).Nodup→
  ∃W',W.le W'∧Inv C W' σ s∧(∀p∈l,W'.fz p.1=some p.2)
 | [],W,I,_,_=>⟨W,.refl W,I,fun p hp=>by cases hp⟩
 | p::l,W,I,h,hn=>by
  obtain⟨n1,n2,g⟩:=h p (.head _)
  rw [List.map_cons,List.nodup_cons]at hn
  obtain⟨le,I'⟩:=I.nF (h:=s.heap) (t:=s.toks) (d:=s.drawn) n1 n2 (fun u v e=>e) g
  obtain⟨W',le',I2,h2⟩:=Inv.fM l (W:=W.freeze p.1 p.2) I' (fun q hq=>by
   obtain⟨m1,m2,m3⟩:=h q (.tail _ hq)
   refine⟨?_,m2,m3⟩
   show(if q.1=p.1 then _ else W.fz q.1)=none
   have nq:q.1≠p.1:=fun z=>hn.1 (z▸List.mem_map.mpr ⟨q,hq,rfl⟩)
   rw [if_neg nq];exact m1) hn.2
  refine⟨W',le.trans le',I2,fun q hq=> ?_⟩
  rcases List.mem_cons.mp hq with rfl | hq
  ·exact le'.2 _ _ (by show(if _ then _ else _)=_;rw [if_pos rfl])
  ·exact h2 q hq
theorem ClI {l:Loc} {es:List (Str×AV)} (h:IsD σ l es) (hn:DN es) (hz:es.length≤sizeLine) (h0:C.hx=none:=by assumption):Ca C k σ (.ty "list") [.fld "dict_items" [.loc l]] [] (.lst (es.map fun p=> .tup [.str p.1,p.2])) σ:=by
 intro W rf ras rkw hf ha hk A s outer hr hA hS I
 unfold VR at hf;subst hf
 unfold KR at hk;subst hk
 obtain⟨r,rfl,q⟩:=Vo ha
 obtain⟨v,rd,rfl,hv,qd⟩:=fvi q I (by decide) (by decide)
 obtain⟨a,kvs,rfl,e,ns,hd,hkr⟩:=I.dict h hn qd
 obtain⟨ep,hat⟩:=hd.dictAt
 refine wA (kdx_call (knd:=sk C) (kvs:=kvs) (ep:=ep) (hr.none h0) ⟨_,hv,rfl,rfl⟩ hat (by rw [hkr.length];exact hz) fun h' tk acc c as hkeep hlst hl hG hacc hlater=> ?_)
 have I1:Inv C W σ {s with heap:=h',toks:=tk}:=I.same hkeep hlater
 have n0:=I.nY
 have above: ∀b,s.heap.objs.size≤b→W.fz b=none∧ ∀x,W.ρ x≠some b:=fun b hb=>by
  refine⟨?_,fun l' e'=> ?_⟩
  ·cases q:W.fz b with
   | none=>rfl
   | some o=>obtain⟨o',z,_⟩:=I.fz b o q;exact absurd (Nat.lt_of_lt_of_le (Heap.lt_size z) hb) (Nat.lt_irrefl _)
  ·have d:=I.dom l'
   rw [e']at d
   cases q:σ l' with
   | none=>rw [q]at d;cases d
   | some o=>obtain⟨ob,z,_⟩:=I.obj l' b o e' q;exact absurd (Nat.lt_of_lt_of_le (Heap.lt_size z) hb) (Nat.lt_irrefl _)
 have objs: ∃l:List (Addr×Obj),l.map (·.1)=as∧ ∀p∈l,h'.get? p.1=some p.2:=by
  have: ∀as':List Addr,(∀a∈as',∃o,h'.get? a=some o)→ ∃l:List (Addr×Obj),l.map (·.1)=as'∧ ∀p∈l,h'.get? p.1=some p.2:=by
   intro as'
   induction as' with
   | nil=>intro u;exact⟨[],rfl,fun p hp=>by cases hp⟩
   | cons a r ih=>
    intro hh
    obtain⟨o,ho⟩:=hh a (.head _)
    obtain⟨l,e1,e2⟩:=ih fun b hb=>hh b (.tail _ hb)
    refine⟨(a,o)::l,by simp [e1],fun p hp=> ?_⟩
    rcases List.mem_cons.mp hp with rfl | hp
    ·exact ho
    ·exact e2 p hp
  refine this as fun a ha=> ?_
  obtain⟨j,hj⟩:=List.mem_iff_getElem?.mp ha
  obtain⟨_,_,_,_,_,z⟩:=hG.pairs j a hj
  exact⟨_,z⟩
 obtain⟨ol,ol1,ol2⟩:=objs
 have nd:as.Nodup:=hG.rise.imp fun h=>Nat.ne_of_lt h
 have nl:s.heap.objs.size∉as:=fun hm=>absurd (hG.above _ hm) (Nat.lt_irrefl _)
 obtain⟨W',le,I2,hfz⟩:=I1.fM ((s.heap.objs.size,{cls:= .type "list",dict:=none,data:= .seq acc c,slots:= #[]})::ol) (fun p hp=>by
  rcases List.mem_cons.mp hp with rfl | hp
  ·exact⟨n0.1,n0.2,hlst⟩
  ·have hm:p.1∈as:=ol1▸List.mem_map.mpr ⟨p,hp,rfl⟩
   obtain⟨z1,z2⟩:=above p.1 (Nat.le_of_lt (hG.above _ hm))
   exact⟨z1,z2,ol2 p hp⟩) (by rw [List.map_cons,ol1,List.nodup_cons];exact⟨nl,nd⟩)
 refine⟨W',le,I2,?_⟩
 refine⟨s.heap.objs.size,_,as.map Value.ref,c,rfl,hfz _ (.head _),rfl,by rw [←hacc],?_⟩
 have key: ∀(es:List (Str×AV)) (kvs:List (Str×Value)) (as':List Addr) (n:Nat),KR W es kvs→as'.length=es.length→(∀j:Nat,as[n+j]? =as'[j]?)→(∀(j:Nat) (a:Addr),as'[j]? =some a→ ∃key k x,kvs[j]? =some (k,x)∧(sk C).is k key=true∧h'.get? a=some {cls:= .type "tuple",data:= .seq #[key,x]})→
   VRe W' (es.map fun p=> .tup [.str p.1,p.2]) (as'.map Value.ref):=by
  intro es
  induction es with
  | nil=>intro kvs as' n hk hl u w;cases as' with
   | nil=>exact .nil
   | cons a r=>simp at hl
  | cons p es ih=>
   intro kvs as' n hk hl hix hp
   obtain⟨nm,x⟩:=p
   obtain⟨vv,ks,rfl,qv,hk⟩:=hk
   cases as' with
   | nil=>simp at hl
   | cons a r=>
    obtain⟨key,k',x',z1,z2,z3⟩:=hp 0 a rfl
    simp at z1
    obtain⟨rfl,rfl⟩:=z1
    obtain⟨t,rfl⟩:=Value.isStrOf_shape z2
    refine .cons ?_ (ih ks r (n+1) hk (by simpa using hl) (fun j=>by have:=hix (j+1);rw [show n+1+j=n+(j+1) by omega];simpa using this) fun j b hb=> ?_)
    ·have ha0:a∈as:=by
      have:=hix 0
      simp at this
      exact List.mem_of_getElem? this
     rw [←ol1]at ha0
     obtain⟨p,hp1,hp2⟩:=List.mem_map.mp ha0
     have f1:=hfz p (.tail _ hp1)
     have f2:=ol2 p hp1
     rw [hp2]at f1 f2
     rw [z3]at f2
     have f3:=Option.some.inj f2
     rw [←f3]at f1
     exact⟨a,_,[.str nm t,vv],0,rfl,f1,rfl,rfl,.cons Vs (.cons (qv.mono le) .nil)⟩
    ·obtain⟨key,k',x',y1,y2,y3⟩:=hp (j+1) b (by simpa using hb)
     exact⟨key,k',x',by simpa using y1,y2,y3⟩
 exact key es kvs as 0 hkr (by rw [hl,hkr.length]) (fun j=>by rw [Nat.zero_add]) hG.pairs
end
end V
end
section
namespace V
theorem mbl (l:Addr) (items:Array Value) (hfit:(items.size:Int)<2 ^ 63):
  Meets (Builtin.«bool.__new__» ⟨[.type "bool",.ref l],[]⟩) (fun u R s=>s.heap.IsList l items∧R (.ok (.ret (.bool (!items.isEmpty)))) {s with toks:=s.toks+1+1}):=
 Meets.of_wp fun prog w A R s hs=>by
  obtain⟨hl,hs⟩:=hs
  obtain⟨hp,g,d,tk,os⟩:=s
  have f1:=F.conv_sub_bool
  repeat (any_goals (first | assumption | (with_reducible refine wpAny_truthy_list hl hfit ?_) | wp_step))
  all_goals first | exact⟨_,rfl,hs⟩ | exact hs | skip
section
variable {C:Cx} {k:Nat} {sc:Scope} {A:Around} {W:Wd} {env:Env} {ms ms₁ ms₂ ms₃ ms':List (Option AV)} {σ σ₁ σ₂ σ₃ σ':St} {s:Shared}
theorem CbL {v:AV} {xs:List AV} {c:Bool} (h:IsL σ v xs) (hz:xs.length≤sizeLine) (hc:(!xs.isEmpty)=c):Ca C k σ (.ty "bool") [v] [] (.bool c) σ:=by
 intro W rf ras rkw hf ha hk
 unfold VR at hf;subst hf
 unfold KR at hk;subst hk
 obtain⟨r,rfl,q⟩:=Vo ha
 refine Op.look fun A s Q hr I hq=> ?_
 obtain⟨la,vs,rfl,hl,ks⟩:=h.list q I
 have e:(List.toArray vs).size=xs.length:=by simp [ks.length]
 have hb:(!(List.toArray vs).isEmpty)=c:=by
  rw [←hc]
  cases xs with
  | nil=>unfold VRe at ks;subst ks;rfl
  | cons y ys=>unfold VRe at ks;obtain⟨v,r,rfl,_⟩:=ks;simp
 refine call_bool_1 (mbl la _ (by rw [e];rw [sizeLine_eq]at hz;omega)) ⟨hl,?_⟩
 show _∧_
 refine⟨rfl,?_⟩
 rw [hb]
 exact hq _ _ (by unfold VR;rfl)
theorem Bdi {l:Loc} {es:List (Str×AV)} (h:IsD σ l es):Bg C σ (.loc l):=fun W s ro I q=>by
 intro A Q E s' hk hq
 obtain⟨a,e,rfl⟩:=q
 obtain⟨ob,h1,ds,n,rfl,h2⟩:=h.obj I e
 have hT:s'.TypeIs (.ref a) "dict":=⟨_,hk _ _ h1,rfl⟩
 rw [getitemInPython_of_ne hT.not_modules]
 exact wpAny_bind (wpAny_specialOf hT F.slot_dict_getitem.lookup (wpAny_pure hq))
end
end V
end
section
namespace V
section
variable {C:Cx} {k:Nat} {sc:Scope}
theorem CLl {α:Type} {enc val:α→AV} {p:α→Bool} {M:Option α→List (Option AV)} {Sg:List AV→St} {ok:St→Prop} {la:Loc} {elt:Expr} {gens:List Comprehension} {scope:Scope} {pos:Pos} {g:Comprehension} {xs₀:List α}
  (hok: ∀out,ok (Sg out)) (hl: ∀out,Sg out la=some (.list out)) (hs: ∀out out',(Sg out).set la (.list out')=Sg out')
  (ha: ∀o x out,x∈xs₀→As C k sc (M o) (Sg out) g.target (enc x) (M (some x)) (Sg out))
  (hc:(g.ifs= []∧ ∀x,p x=true)∨ ∃c,g.ifs= [c]∧ ∀x out,x∈xs₀→Tv C k sc (M (some x)) (Sg out) c (p x) (M (some x)) (Sg out))
  (hv: ∀x out,x∈xs₀→p x=true→Ev C k sc (M (some x)) (Sg out) elt (val x) (M (some x)) (Sg out)):
  ∀(xs:List α) (out:List AV) (o:Option α),(∀x∈xs,x∈xs₀)→out.length+xs.length≤sizeLine→
   CL C k sc la (.ListComp elt gens scope pos) ok g [] (xs.map enc) (M o) (Sg out) (M (xs.foldl (fun u x=>some x) o)) (Sg (out++(xs.filter p).map val))
 | [],out,o,_,_=>by
  simp only [List.filter_nil,List.map_nil,List.append_nil]
  exact .nil (hok out)
 | x::xs,out,o,hm,hz=>by
  rw [List.length_cons]at hz
  have hx:=hm x (.head _)
  have hm': ∀y∈xs,y∈xs₀:=fun y hy=>hm y (.tail _ hy)
  rcases hp:p x with _ | _
  ·rcases hc with⟨_,h⟩ | ⟨c,hi,h⟩
   ·rw [h x]at hp;cases hp
   ·have ih:=CLl (gens:=gens) (scope:=scope) (pos:=pos) hok hl hs ha (.inr ⟨c,hi,h⟩) hv xs out (some x) hm' (by omega)
    rw [List.filter_cons_of_neg (by rw [hp];decide)]
    have t:=h x out hx
    rw [hp]at t
    exact .skip (hok out) (ha o x out hx) hi t ih
  ·have ih:=CLl (gens:=gens) (scope:=scope) (pos:=pos) hok hl hs ha hc hv xs (out++ [val x]) (some x) hm' (by rw [List.length_append];simp only [List.length_cons,List.length_nil];omega)
   rw [List.filter_cons_of_pos hp,List.map_cons]
   rw [List.append_assoc]at ih
   have em:=El (gens:=gens) (scope:=scope) (pos:=pos) (la:=la) (hv x out hx hp) (hl out) (by omega)
   rw [hs]at em
   refine .take (hok out) (ha o x out hx) ?_ (.emit em) ih
   rcases hc with⟨h,_⟩ | ⟨c,hi,h⟩
   ·exact .inl ⟨h,rfl,rfl⟩
   ·have t:=h x out hx
    rw [hp]at t
    exact .inr ⟨c,hi,t⟩
theorem sco {σ:St} {l l':Loc} {o o':AO} (h:l≠l'):(σ.set l o).set l' o'=(σ.set l' o').set l o:=by
 funext x
 unfold St.set
 by_cases h1:x=l
 ·subst h1;simp [h]
 ·simp [h1]
end
end V
end
section
namespace V
section
variable {C:Cx} {k:Nat} {sc:Scope} {σ:St}
theorem Lfi {α:Type} {enc val:α→AV} {p:α→Bool} {M:Option α→List (Option AV)} {ok:St→Prop} {tgt:Expr} {body:List Stmt} {xs₀:List α} (hok:ok σ)
  (ha: ∀o x,x∈xs₀→As C k sc (M o) σ tgt (enc x) (M (some x)) σ)
  (hmiss: ∀x,x∈xs₀→p x=false→Ex C k sc (M (some x)) σ body .next (M (some x)) σ)
  (hhit: ∀x,x∈xs₀→p x=true→Ex C k sc (M (some x)) σ body (.ret (val x)) (M (some x)) σ):
  ∀(xs:List α) (o:Option α),(∀x∈xs,x∈xs₀)→ ∀r,xs.find? p=some r→Lr C k sc ok tgt body (xs.map enc) (M o) σ (.ret (val r)) (M (some r)) σ
 | [],o,_,r,h=>by cases h
 | x::xs,o,hm,r,h=>by
  have hx:=hm x (.head _)
  rcases hp:p x with _ | _
  ·rw [List.find?_cons_of_neg (by rw [hp];decide)]at h
   exact .cons hok (ha o x hx) (hmiss x hx hp) (.inl rfl) (Lfi hok ha hmiss hhit xs (some x) (fun y hy=>hm y (.tail _ hy)) r h)
  ·rw [List.find?_cons_of_pos hp]at h
   obtain rfl:=Option.some.inj h
   exact .stop hok (ha o x hx) (hhit x hx hp) (.inr ⟨_,rfl⟩)
end
end V
end
section
namespace V
section
variable {C:Cx} {k:Nat} {sc:Scope} {σ σ₁ σ₂ σ':St} {ms ms₁ ms₂ ms':List (Option AV)}
theorem LPf {α S:Type} {enc:α→AV} {M:S→List (Option AV)} {Sg:S→St} {step:S→α→S} {P:S→List α→Prop} {ok:St→Prop} {tgt:Expr} {body:List Stmt} (hok: ∀s xs,P s xs→ok (Sg s)) (hp: ∀s x xs,P s (x::xs)→P (step s x) xs)
  (h: ∀s x xs,P s (x::xs)→ ∃ms₁ σ₁,As C k sc (M s) (Sg s) tgt (enc x) ms₁ σ₁∧Ex C k sc ms₁ σ₁ body .next (M (step s x)) (Sg (step s x))): ∀(xs:List α) (s:S),P s xs→LrP C k sc ok tgt body (xs.map enc) (M s) (Sg s) (M (xs.foldl step s)) (Sg (xs.foldl step s))
 | [],s,hs=> .nil (hok s [] hs)
 | x::xs,s,hs=>by
  obtain⟨m1,s1,ha,hx⟩:=h s x xs hs
  exact .cons (hok s _ hs) ha hx (LPf hok hp h xs (step s x) (hp s x xs hs))
theorem IsL.set {v:AV} {xs:List AV} {d:Loc} {o:AO} (h:IsL σ v xs) (hd:σ d=none):IsL (σ.set d o) v xs:=by
 cases h with
 | lst=>exact .lst _
 | loc h=>
  refine .loc ?_
  rw [sot (fun e=>by rw [e,hd]at h;cases h)];exact h
end
end V
end
section
namespace V
section
variable {M:Model} {A:Around} {E:Value→Shared→Prop} {s:Shared}
theorem nD {a:Addr} {m:Str→Option Value} {o:Obj} {name:Str} {Q:Bool→Shared→Prop} (hn:s.heap.Ns a m) (ho':s.heap.get? a=some o)
  (hQ: ∀h' o' v b es n,h'.Ns a (fun x=>if x=name then v else m x)→Heap.SameBut a s.heap h'→h'.get? a=some o'→o'.cls=o.cls→o'.data= .dict es n→(b=false→m name=none)→Q b {s with heap:=h'}):wpAny M A (nsDel a name) Q E s:=by
 obtain⟨o₁,es,ep,ho,hd,hk,hm⟩:=id hn
 rw [ho]at ho';obtain rfl:=Option.some.inj ho'
 have hany:es.any (·.refKey)=false:=by
  rw [Array.any_eq_false'];intro e he;obtain⟨n,t,h⟩:=hk e he;simp [DictEntry.refKey,h]
 have hhas:nsHas name o₁=pure (es.any (·.key.isStr name)):=by
  rw [nsHas_eq];unfold nsHasByArray;rw [hd]
  cases h:es.any fun x=>x.key.isStr name<;>simp [h,hany]
 refine wpAny_bind (wpAny_loadPart ho ?_)
 rw [hhas]
 refine wpAny_bind (wpAny_pure ?_)
 cases hb:es.any (·.key.isStr name)
 ·rw [if_neg (by decide)]
  have hmn:m name=none:=by
   rw [←hm name]
   unfold nsFind findBy
   have:es.find? (fun e=>e.key.isStr name)=none:=by
    rw [Array.find?_eq_none]
    intro e he hp
    rw [Array.any_eq_false']at hb
    exact absurd hp (by simpa using hb e he)
   rw [this];rfl
  exact wpAny_pure (hQ s.heap o₁ (m name) false es ep ⟨o₁,es,ep,ho,hd,hk,fun x=>by by_cases hx:x=name<;>simp [hx,hm]⟩ (.refl ..) ho rfl hd fun u=>hmn)
 ·rw [if_pos rfl]
  refine wpAny_bind (wpAny_updatePart ho (wpAny_pure ?_))
  obtain⟨cl,d,dt,sl⟩:=o₁
  simp only at hd
  subst hd
  cases hi:es.findIdx? (·.key.isStr name)with
  | none=>
   rw [Array.findIdx?_eq_none_iff]at hi
   rw [Array.any_eq_true]at hb
   obtain⟨i,hl,hp⟩:=hb
   have:=hi es[i] (Array.getElem_mem hl)
   rw [hp]at this;cases this
  | some i=>
   have e:Obj.dropName name ⟨cl,d,.dict es ep,sl⟩=⟨cl,d,.dict (es.eraseIdxIfInBounds i) (ep+1),sl⟩:=by
    simp only [Obj.dropName_eq,Obj.dropNameByArray,hi]
   have g:=Heap.get?_update_self (Obj.dropName name) ho (by rw [e];rfl)
   rw [e]at g
   refine hQ _ _ (nsFind (es.eraseIdxIfInBounds i) name) true _ _ ⟨_,_,_,g,rfl,hk.erase i,fun x=> ?_⟩ (Heap.SameBut.update ..) g rfl rfl (fun z=>by cases z)
   show nsFind _ x=if x=name then _ else m x
   by_cases hx:x=name
   ·rw [if_pos hx,hx]
   ·rw [if_neg hx,nsFind_erase_other hi hx,hm]
end
section
variable {C:Cx} {k:Nat} {sc:Scope} {A:Around} {W:Wd} {env:Env} {ms ms₁ ms₂ ms₃ ms':List (Option AV)} {σ σ₁ σ₂ σ₃ σ':St} {s:Shared}
theorem At.dropped {i:Nat} {x:Str} {h':Heap} {o':Obj} {es:Array DictEntry} {n t:Nat} {mr:Str→Option Value} (hi:sc.names[i]? =some (x,NameKind.local)) (H:At C sc A W env ms σ s) (hm: ∀(j:Nat) (y:Str) (u:AV),sc.names[j]? =some (y,NameKind.local)→ms[j]? =some (some u)→j≠i→ ∃r,mr y=some r∧VR W u r)
  {o:Obj} (ho:s.heap.get? env.locals=some o) (hn:h'.Ns env.locals mr) (hs:Heap.SameBut env.locals s.heap h') (hg:h'.get? env.locals=some o') (hc:o'.cls=o.cls) (hd:o'.data= .dict es n) (ht:s.toks≤t):
  At C sc A W env (ms.set i none) σ {s with heap:=h',toks:=t}:=by
 obtain⟨o₁,es₁,n₁,ho₁,hcl,hd₁⟩:=H.fr.clsL
 rw [ho]at ho₁;obtain rfl:=Option.some.inj ho₁
 have oth: ∀b ob,b≠env.locals→s.heap.get? b=some ob→h'.get? b=some ob:=fun b ob nb e=>(hs.2 b nb).trans e
 refine⟨H.inv.but H.fr.apL.1 H.fr.apL.2 (fun b ob nb e=>oth b ob nb e) ht,?_⟩
 refine⟨H.fr.scope,H.fr.globals,H.fr.builtins,H.fr.ok,⟨mr,hn,fun j y u hj hu=> ?_⟩,fun j y hj=> ?_,H.fr.apL,fun y a hy=> ?_,H.fr.injC,⟨o',es,n,hg,hc▸hcl,hd⟩,?_⟩
 ·by_cases hji:j=i
  ·subst hji
   rw [List.getElem?_set_self']at hu
   cases z:ms[j]? with
   | none=>rw [z]at hu;cases hu
   | some _=>rw [z]at hu;simp at hu
  ·rw [List.getElem?_set_ne (fun e=>hji e.symm)]at hu
   exact hm j y u hj hu hji
 ·obtain⟨a,ov,h1,⟨oc,h2,h3⟩,h4⟩:=H.fr.cells j y hj
  refine⟨a,ov,h1,⟨oc,oth a oc (H.fr.apC y a (mem_of_lookup h1)).2.2.1 h2,h3⟩,fun u hu=>h4 u ?_⟩
  have ij:i≠j:=fun e=>by
   subst e;rw [hi]at hj;cases hj
  rw [List.getElem?_set_ne ij]at hu;exact hu
 ·obtain⟨n1,n2,n3,ov,oo,g1,g2,g3⟩:=H.fr.apC y a hy
  exact⟨n1,n2,n3,ov,oo,oth a oo n3 g1,g2,g3⟩
 ·obtain⟨fenv,rest,L,f1,f2,f3,f4,f5,f6,f7⟩:=H.fr.stk
  refine⟨fenv,rest,L,f1,f2,f3,f4,f5,f6,?_⟩
  rcases f7 with⟨rfl,oL,eL,nL,g1,g2,g3⟩ | f7
  ·rw [ho]at g1;obtain rfl:=Option.some.inj g1
   exact .inl ⟨rfl,o',es,n,hg,hc.trans g2,hd⟩
  ·exact .inr f7
theorem nGo {i:Nat} {x:Str} {pos:Pos} {Q:Unit→Shared→Prop} (hin:i<ms.length) (hi:sc.names[i]? =some (x,NameKind.local)) (H:At C sc A W env ms σ s) (g: ∀s',At C sc A W env (ms.set i none) σ s'→Q () s'):wpAny C.M A (do bindName env x .none;unbindBehindTheSuite env x pos) Q No s:=by
 have hk:env.scope.kind= .function:=by rw [H.fr.scope];exact sO.kind H.fr.ok
 have hl:env.kindOf x=some .local:=by
  unfold Env.kindOf;rw [H.fr.scope];exact lon (sO.nodup H.fr.ok) hi
 have hp:(env.scope.kind== .class || (env.scope.kind== .module && env.locals !=env.globals))=false:=by rw [hk];rfl
 refine wpAny_bind (wpAny_bindName (slo hi H (v:= .none) (by unfold VR;rfl) fun s₁ H₁=> ?_))
 refine wpAny_onRaise ?_
 refine wpAny_bind (wpAny_point (wpAny_bind ?_))
 unfold deleteName
 simp only [hl,hp]
 obtain⟨mr,hn,hm⟩:=H₁.fr.ns
 obtain⟨o,es,n,ho,hcl,hd⟩:=H₁.fr.clsL
 ·have hx: ∃r,mr x=some r:=by
   obtain⟨r,h1,_⟩:=hm i x .none hi (by rw [List.getElem?_set_self hin])
   exact⟨r,h1⟩
  refine wpAny_bind (nD hn ho fun h' o' v b es' n' hn' hs' hg hc hd' hb=> ?_)
  cases b with
  | false=>obtain⟨r,hr⟩:=hx;rw [hb rfl]at hr;cases hr
  | true=>
   refine wpAny_pure (wpAny_point (g _ ?_))
   have D:=H₁.dropped (t:=s₁.toks) hi (mr:=fun y=>if y=x then v else mr y) (fun j y u hj hu hji=> ?_) ho hn' hs' hg hc hd' (Nat.le_refl _)
   ·rw [List.set_set]at D;exact D
   ·have hyx:y≠x:=fun e=>by
     subst e;exact hji (nai (sO.nodup H.fr.ok) hj hi)
    obtain⟨r,h1,h2⟩:=hm j y u hj hu
    exact⟨r,by rw [if_neg hyx];exact h1,h2⟩
theorem XSt {body:List Stmt} {t:Expr} {hpos pos rpos cpos np ep:Pos} {X n:String} {x sn:Str} {i:Nat} {c:AV} {m:Str} (FX:ExcStrFacts X n) (hb:Rz C k sc ms σ (execs body) (.type X) [.str m] ms₁ σ₁) (hcf:(X=="frame")=false) (ht:Ev C.h k sc ms₁ σ₁ t c ms₁ σ₁) (hm:Mx C (.type X) c)
  (hin:i<ms₁.length) (hi:sc.names[i]? =some (x,NameKind.local)) (hs: ∀ms,Ev C.h k sc ms σ₁ (.Name sn np) (.ty "str") ms σ₁)
  (he: ∀env,eval (.Call (.Name sn np) [.Name x ep] [] cpos) env=(do callWith cpos (←eval (.Name sn np) env) [] (backTo cpos (starEach [.Name x ep] env)) (backToKw cpos (keywordEach [] env)))) (hbt: ∀env,(backTo cpos (starEach [.Name x ep] env)).any (·.1)=false) (hst: ∀env,starEach [.Name x ep] env= [(false,eval (.Name x ep) env)]):
  X1 C k sc ms σ (.Try body [.ExceptHandler (some t) (some x) [.Return (some (.Call (.Name sn np) [.Name x ep] [] cpos)) rpos] hpos] [] [] pos) (.ret (.str m)) (ms₁.set i none) σ₁:=by
 intro A W env s hr H
 have hcf':(Value.type X:Value)≠ .type "frame":=by
  intro z;injection z with z;rw [z]at hcf;simp at hcf
 refine wpAny_Try_except (wpAny_mono (hb A W env s hr H) (fun u w x=>x.elim) fun e s₁ hX=> ?_)
 obtain⟨W₁,a,fl,le₁,rfl,hfl,X₁⟩:=hX
 have step: ∀{Q:Unit→Shared→Prop},(∀s' L,Xat C sc A W₁ env ms₁ σ₁ (.type X) [.str m] (some (rawInt L)) a s'→Q () s')→wpAny C.M A (noteFrame (.ref a) env) Q No s₁:=fun g=>by
  rcases hfl with h | h | ⟨L,hL,h⟩
  ·exact X₁.note (.inl h) fun s' L hL X'=>g s' L X'
  ·exact X₁.note (.inr h) fun s' L hL X'=>g s' L X'
  ·subst h;exact X₁.again hL (g _ L X₁)
 refine step fun s₂ L X₂=>X₂.flight (fr:=none) fun s₃ X₃=> ?_
 obtain⟨W₂,oe,vs,T,oT,ts,le₂,H₂,ze,zc,zd,⟨t0,z0,zt⟩,z1,zne,zT,zdT,z3⟩:=X₃.settle
 refine wpAny_handleBy_cons (codeAny_handlers_test (ptE (C:=C.h) (ht (A.mark (some (.ref a))) W₂ env s₃ hr.h H₂.h) fun W₃ rc s₄ le₃ H₃ qc=> ?_)) (by intro q;cases q)
 have he':=H₃.inv.frozen (le₃.2 _ _ ze) (by rw [zc];exact hcf')
 obtain⟨oT',hT,uT⟩:=H₃.inv.fz _ _ (le₃.2 _ _ zT)
 refine hm W₃ σ₁ s₄ _ _ rc a oe _ H₃.unh.inv qc he' zc ?_
 dsimp only
 refine codeAny_handlers_suite_as ?_
 refine wsF he' zd z1 hT (uT.data.trans zdT) z3 fun h' hk=> ?_
 have H₄:At C.h sc (A.mark (some (.ref a))) W₃ env ms₁ σ₁ {s₄ with heap:=h'}:=H₃.stir (X:=fun u=>False) (fun u x=>x.elim) (fun b o u z=>⟨o,hk b o z,.refl o⟩) (fun b o z=>hk b o (H₃.inv.kept b o z)) (Nat.le_refl _)
 refine wpAny_mono (slo (C:=C.h) (A':=A.mark (some (.ref a))) hi H₄ (v:= .ext a) (by unfold VR;rfl) fun s₅ H₅=> ?_) (fun u w h=>h) (fun u w h=>h.elim)
 have zt3:VR W₃ (.tup [.str m]) (.ref t0):=zt.mono le₃
 have ze3:=le₃.2 _ _ ze
 have call:wpAny C.h.M (A.mark (some (.ref a))) (eval (.Call (.Name sn np) [.Name x ep] [] cpos) env) (Pa C.h sc (A.mark (some (.ref a))) W₃ env (ms₁.set i (some (.ext a))) σ₁ fun W r=>VR W (.str m) r) No s₅:=by
  rw [he]
  have ev:Ev C.h k sc (ms₁.set i (some (.ext a))) σ₁ (.Name x ep) (.ext a) (ms₁.set i (some (.ext a))) σ₁:=ELo hi (by rw [List.getElem?_set_self hin])
  have es:Es C.h k sc (ms₁.set i (some (.ext a))) σ₁ cpos [.Name x ep] [.ext a] (ms₁.set i (some (.ext a))) σ₁:=Eco ev En (fun env=>hst env)
  refine pbi (hs _ _ W₃ env s₅ hr.h H₅) fun W₄ rf s₆ le₄ H₆ qf=>cW (eAp (nof (hbt env)) (pg (es _ W₄ env s₆ hr.h H₆) fun W₅ ras s₇ le₅ H₇ qa=>⟨Kty _ _ _ _ H₇.inv (qf.mono le₅),?_⟩))
  obtain⟨r,rfl,qr⟩:=Vo qa
  unfold VR at qr;subst qr
  have qf':=qf.mono le₅
  unfold VR at qf';subst qf'
  have he7:=H₇.inv.frozen (le₅.2 _ _ (le₄.2 _ _ ze3)) (by rw [zc];exact hcf')
  obtain⟨ta,to,tvs,tn,tq1,tq2,tq3,tq4,tq5⟩:=(by have q:=(zt3.mono le₄).mono le₅;unfold VR at q;exact q: ∃(a:Addr) (o:Obj) (vs:List Value) (n:Nat),Value.ref t0= .ref a∧W₅.fz a=some o∧o.cls= .type "tuple"∧o={cls:= .type "tuple",data:= .seq (List.toArray vs) n}∧VRe W₅ [.str m] vs)
  cases tq1
  have ht7:=H₇.inv.frozen tq2 (by rw [tq3];intro z;injection z with z;exact absurd z (by decide))
  obtain⟨rm,rfl,qm⟩:=Vo tq5
  unfold VR at qm;obtain⟨tk,rfl⟩:=qm
  refine P.str_of_exc_one FX (by have:=hr.units;have:=hr.2.1;show A.units+2<cLine;omega) (m:=m) (tk:=tk) ⟨oe,vs,he7,zc,zd,z0⟩ ?_ ?_
  ·exact⟨to,tn,ht7,tq3,by rw [tq4]⟩
  ·exact ph ((le₄.trans le₅)) H₇ Vs
 refine wpAny_execs_cons (wpAny_Return_some (ptE (C:=C.h) call fun W₅ r s₆ le₅ H₆ qr=> ?_))
 dsimp only
 have H₇:At C sc A W₅ env (ms₁.set i (some (.ext a))) σ₁ s₆:=H₆.unh
 refine wpAny_mono (nGo (by rw [List.length_set];exact hin) hi H₇ fun s₇ H₈=> ?_) (fun u w h=>h) (fun u w h=>h.elim)
 rw [List.set_set]at H₈
 exact⟨W₅,le₁.trans (le₂.trans (le₃.trans le₅)),H₈,r,rfl,qr⟩
end
end V
end
section
namespace V
section
variable {C:Cx} {k:Nat} {sc:Scope}
theorem CLf {α β:Type} {enc:α→AV} {f:α→List AV} {M:Option α→Option β→List (Option AV)} {nx:α→Option β→Option β} {Sg:List AV→St} {ok:St→Prop} {la:Loc} {e:Expr} {g:Comprehension} {gs:List Comprehension} {xs₀:List α} {K:Nat}
  (hok: ∀out,ok (Sg out)) (hi:g.ifs= [])
  (ha: ∀o o2 x out,x∈xs₀→As C k sc (M o o2) (Sg out) g.target (enc x) (M (some x) o2) (Sg out))
  (hK: ∀x,(f x).length≤K)
  (hb: ∀x o2 out,x∈xs₀→out.length+K≤sizeLine→CB C k sc la e gs (M (some x) o2) (Sg out) (M (some x) (nx x o2)) (Sg (out++f x))):
  ∀(xs:List α) (out:List AV) (o:Option α) (o2:Option β),(∀x∈xs,x∈xs₀)→out.length+xs.length * K≤sizeLine→
   CL C k sc la e ok g gs (xs.map enc) (M o o2) (Sg out) (M (xs.foldl (fun s x=>(some x,nx x s.2)) (o,o2)).1 (xs.foldl (fun s x=>(some x,nx x s.2)) (o,o2)).2) (Sg (out++xs.flatMap f))
 | [],out,o,o2,_,_=>by
  simp only [List.flatMap_nil,List.append_nil]
  exact .nil (hok out)
 | x::xs,out,o,o2,hm,hz=>by
  rw [List.length_cons,Nat.succ_mul]at hz
  have hx:=hm x (.head _)
  have ih:=CLf hok hi ha hK hb xs (out++f x) (some x) (nx x o2) (fun y hy=>hm y (.tail _ hy)) (by have:=hK x;rw [List.length_append];omega)
  rw [List.flatMap_cons,←List.append_assoc]
  exact .take (hok out) (ha o o2 x out hx) (.inl ⟨hi,rfl,rfl⟩) (hb x o2 out hx (by omega)) ih
end
end V
end
section
namespace V
section
variable {C:Cx} {k:Nat} {sc:Scope} {σ:St}
theorem bN {a b c:Bool} (hc:(a !=b)=c):Op2 C k σ (compareOp .IsNot) (.bool a) (.bool b) (fun W r=>VR W (.bool c) r) σ:=by
 intro W ra rb qa qb
 unfold VR at qa qb;subst qa;subst qb
 exact Op.look fun A s Q hr I hq=>isnot_bool (hq _ _ (hc▸Vb))
theorem Rst (l:List Str):Rds C σ (l.map .str) (l.map .str):=Rm (fun u=>Rsa) l
theorem sca: ∀(l:List Str),(∀x∈l,PyData.strOk x=true)→PyData.canLayAll0 (l.map .str)=true
 | [],_=>rfl
 | x::l,h=>by
  show(PyData.strOk x && PyData.canLayAll0 (l.map .str))=true
  rw [h x (.head _),sca l fun y hy=>h y (.tail _ hy)];rfl
theorem sde: ∀(l:List Str),PyData.depthAll (l.map .str)=0
 | []=>rfl
 | x::l=>by
  show max 0 (PyData.depthAll (l.map .str))=0
  rw [sde l];rfl
end
end V
end
section
namespace V
section
variable {C:Cx} {k:Nat} {sc:Scope} {A:Around} {W:Wd} {env:Env} {ms ms₁ ms₂ ms₃ ms':List (Option AV)} {σ σ₁ σ₂ σ₃ σ':St} {s:Shared}
theorem XLo {t:Expr} {elt:Expr} {scope:Scope} {pos cpos:Pos} {g:Comprehension} {gs:List Comprehension} {link:List (Nat×Nat)} {v src:AV} {xs:List AV} {ok:St→Prop} {Sh:Nat→Value→Obj→Prop} {ms2':List (Option AV)} (la:Loc)
  (K:CIn C k sc ms σ scope link g gs ms₁ σ₁ v src xs ok Sh) (hla:σ₁ la=none)
  (hl:CL C k (uc scope) la (.ListComp elt (g::gs) scope cpos) ok g gs xs (sMs link ms₁ scope.names.length) (σ₁.set la (.list [])) ms2' σ₂)
  (hend:(link.map fun p=>(ms2'[p.2]?).join)=link.map fun p=>(ms₁[p.1]?).join)
  (hsw: ∀env,∃b,swapsWithSole [t] (.ListComp elt (g::gs) scope cpos) pos.line env=pure b) (hw: ∀env,swappedStores [t] (.ListComp elt (g::gs) scope cpos) env=pure none) (ht: ∀env,(assignEach [t] env).map (·.2)= [assign t env])
  (ha:As C k sc ms₁ σ₂ t (.loc la) ms' σ'):X1 C k sc ms σ (.Assign [t] (.ListComp elt (g::gs) scope cpos) pos) .next ms' σ':=by
 intro A W env s hr H
 show wpAny C.M A (exec _ env) _ _ _
 rw [exec_Assign_arm]
 refine wpAny_bind (wpAny_standAt ?_)
 obtain⟨b,hb⟩:=hsw env
 rw [hb]
 refine wpAny_bind (wpAny_pure ?_)
 obtain⟨tg,it,ifs,as⟩:=g
 have ha0:as=0:=K.sync _ (.head _)
 subst ha0
 cases b with
 | false=>
  refine wpAny_bind ?_
  show wpAny C.M A (comprehension _ scope env _ (newList []) false (eval it env)) _ _ _
  refine cru (g:=⟨tg,it,ifs,0⟩) (o₀:= .list []) (use:=none) rfl K.sync K.linked K.free K.ok2 K.first K.it K.ok K.fold (fun W=>OnL .nil (Nat.zero_le _) hla) hl hend hr H fun W' acc s' le H' q=> ?_
  refine wpAny_bind (wpAny_of_eq (hw env) ?_)
  rw [ht]
  exact wpAny_bind (pg (ha A W' env s' acc hr H' q) fun W₂ u s₂ le₂ H₂ w=>wpAny_pure (ph (le.trans le₂) H₂ rfl))
 | true=>
  rw [ht]
  rw [arm_evalThenUse_ListComp]
  refine wpAny_bind (wpAny_bind ?_)
  show wpAny C.M A (comprehension _ scope env _ (newList []) false (eval it env) (some _)) _ _ _
  refine cru (g:=⟨tg,it,ifs,0⟩) (o₀:= .list []) (use:=some _) rfl K.sync K.linked K.free K.ok2 K.first K.it K.ok K.fold (fun W=>OnL .nil (Nat.zero_le _) hla) hl hend hr H ⟨ms',σ',fun W' acc s' le H' q=> ?_,fun W' s' le H'=>wpAny_pure (wpAny_pure (ph le H' rfl))⟩
  exact pg (ha A W' env s' acc hr H' q) fun W₂ u s₂ le₂ H₂ w=>⟨W₂,le.trans le₂,le₂.2,H₂⟩
theorem Inv.forget {l:Loc} (I:Inv C W σ s) (hl:(σ l).isSome=true):Inv C W (σ.set l .junk) s:=by
 have e0:(W.ρ l).isSome=true:=by rw [I.dom];exact hl
 obtain⟨a,ea⟩:=Option.isSome_iff_exists.mp e0
 obtain⟨o,eo⟩:=Option.isSome_iff_exists.mp hl
 obtain⟨ob,hg,_⟩:=I.obj l a o ea eo
 obtain⟨h,g,d,t,os⟩:=s
 exact I.upd (d:=d) (t:=t) ea (fun b o u e=>e) hg (show ORe C W .junk ob from trivial) (Nat.le_refl _)
theorem Ex.forget {ss:List Stmt} {f:AF} {l:Loc} (h:Ex C k sc ms σ ss f ms' σ') (hl:(σ' l).isSome=true):Ex C k sc ms σ ss f ms' (σ'.set l .junk):=by
 intro A W env s hr H
 refine pg (h A W env s hr H) fun W₁ r s₁ le₁ H₁ q=>ph le₁ ⟨H₁.inv.forget hl,H₁.fr⟩ q
end
end V
end
section
namespace V
section
variable {C:Cx} {k:Nat} {sc:Scope} {σ:St}
theorem Csu {v:AV} {ns:List Int} (h:IsL σ v (ns.map .int)) (h0:C.hx=none):Ca C k σ (.bi "sum") [v] [] (.int ns.sum) σ:=by
 intro W rf ras rkw hf ha hk A s outer hr hA hS I
 unfold VR at hf;subst hf
 unfold KR at hk;subst hk
 obtain⟨r,rfl,q⟩:=Vo ha
 obtain⟨la,vs,rfl,hl,ks⟩:=h.list q I
 have hi:=Io ks
 obtain⟨xs,ex⟩:=hi.allInts.items
 have hn:=hi.numsOf
 have e2:vs=(intItems xs).toList:=by rw [←ex]
 rw [e2,nums_intItems]at hn
 rw [ex]at hl
 refine wA (sum_intListG (hr.none h0) hl fun h' tk t' hk' ht=> ?_)
 refine⟨W,.refl W,I.same hk' ht,?_⟩
 exact⟨t',by rw [preSum_eq,List.take_of_length_le (by simp),hn]⟩
theorem lma {α β:Type} (f:α→β) (xs:List α) (a b c:Option Int):lpi (xs.map f) a b c=(lpi xs a b c).map f:=by
 unfold lpi
 rw [List.length_map,List.map_filterMap]
 congr 1
 funext i
 rw [List.getElem?_map]
end
end V
end
section
namespace V
noncomputable def apu (name:Str) (v:AV):List (Str×AV)→List (Str×AV)
 | []=> [(name,v)]
 | e::r=>if e.1=name then(e.1,v)::r else e::apu name v r
theorem rpu {P:Params} {W:Wd} {name:Str} {v:AV} {r:Value} {tk:Tok} (q:VR W v r): ∀{es:List (Str×AV)} {xs:List (Tok×Value)},xs.length=es.length→VRe W (es.map (·.2)) (xs.map (·.2))→
  ∃xs',putIn (·.key.isStr name) (fun e=>{e with val:=r}) ⟨PyData.keyHash P name,.str name tk,r⟩ (rowsOf P (es.map (·.1)) xs)=rowsOf P ((apu name v es).map (·.1)) xs'∧xs'.length=(apu name v es).length∧VRe W ((apu name v es).map (·.2)) (xs'.map (·.2)):=by
 intro es
 induction es with
 | nil=>exact fun u w=>⟨[(tk,r)],rfl,rfl,.cons q .nil⟩
 | cons e es ih=>
  intro xs hl h
  cases xs with
  | nil=>cases hl
  | cons x xs=>
   rw [List.map_cons,List.map_cons]at h
   obtain⟨v',r',z,a,b⟩:=h
   obtain⟨rfl,rfl⟩:=List.cons.inj z
   show∃xs',putIn _ _ _ (⟨PyData.keyHash P e.1,.str e.1 x.1,x.2⟩::rowsOf P (es.map (·.1)) xs)=_∧_
   unfold apu
   by_cases c:e.1=name
   ·have k1:(fun d:DictEntry=>d.key.isStr name) ⟨PyData.keyHash P e.1,.str e.1 x.1,x.2⟩=true:=by simp [Value.isStr,c]
    rw [putIn_hit (fun d:DictEntry=>d.key.isStr name) _ _ _ _ k1,if_pos c]
    exact⟨(x.1,r)::xs,rfl,by simpa using hl,.cons q b⟩
   ·have k1:(fun d:DictEntry=>d.key.isStr name) ⟨PyData.keyHash P e.1,.str e.1 x.1,x.2⟩=false:=by simp [Value.isStr,c]
    rw [putIn_miss (fun d:DictEntry=>d.key.isStr name) _ _ _ _ k1,if_neg c]
    obtain⟨xs',h1,h2,h3⟩:=ih (Nat.succ.inj hl) b
    exact⟨x::xs',by rw [h1];rfl,by simp [h2],.cons a h3⟩
theorem rlo {P:Params} {name:Str} {ks:List Str} {xs:List (Tok×Value)} {n:Nat}:(lookIn name (tabOf P ks xs n)).isSome=true:=by
 have key: ∀(ks:List Str) (xs:List (Tok×Value)),(rowsOf P ks xs).any (·.refKey)=false:=by
  intro ks
  induction ks with
  | nil=>exact fun u=>rfl
  | cons k ks ih=>
   intro xs
   cases xs with
   | nil=>rfl
   | cons x xs=>exact ih xs
 unfold lookIn tabOf
 dsimp only
 cases (rowsOf P ks xs).toArray.toList.find? (·.key.isStr name)with
 | some e=>rfl
 | none=>
  show(if(rowsOf P ks xs).any (·.refKey)=true then none else some none:Option (Option Value)).isSome=true
  rw [key];rfl
theorem OD {C:Cx} {k:Nat} {σ:St} (O:C.Ok) {l d:Loc} {c:Addr} {es es':List (Str×AV)} {name:Str} {v:AV} (hl:σ l=some (.inst c d)) (hd:σ d=some (.dict es)) (hs:findIn C.K (.ref c) "__setattr__"=some (some (.builtin "object.__setattr__")))
  (hp:plainOver C.K c=true) (ht:takerIn C.K c name=some none) (hh:(clsIn C.K c).any (·.hasDict)=true) (he:apu name v es=es') (hz:es'.length≤1000):
  Op2 C k σ (fun x y=>setAttr x name y) (.loc l) v (fun u g=>True) (σ.set d (.dict es')):=by
 refine OsA O hl hd hs hp ht hh hz (fun u g m=>rlo) fun W xs n tk r hl h q=> ?_
 obtain⟨xs',h1,h2,h3⟩:=rpu (P:=C.w.params) (tk:=tk) q hl h
 subst he
 refine⟨xs',if(rowsOf C.w.params (es.map (·.1)) xs).any (·.key.isStr name)then n else n+1,?_,h2,h3⟩
 unfold tabOf
 rw [putName_eq,h1]
end V
end
section
namespace HD
noncomputable def grow:BT→Nat→List Obj→Option BT
 | t,_,[]=>some t
 | t,n,o::l=>match ((t.ins n o).get n).isSome with
  | true=>grow (t.ins n o) (n+1) l
  | false=>none
theorem gaa {life:Life}: ∀(l:List Obj) (t t':BT) (n:Nat),grow t n l=some t'→absHeap t' (n+l.length) life=⟨((absHeap t n life).objs.toList++l).toArray,(absHeap t n life).life⟩:=by
 intro l
 induction l with
 | nil=>
  intro t t' n h
  cases h
  rw [List.append_nil]
  rfl
 | cons o l ih=>
  intro t t' n h
  unfold grow at h
  cases g:((t.ins n o).get n).isSome with
  | false=>rw [g]at h;cases h
  | true=>
   rw [g]at h
   have z:=ih _ _ _ h
   rw [List.length_cons,show n+(l.length+1)=n+1+l.length by omega,z,absHeap_ins g]
   show Heap.mk (((absHeap t n life).objs.push o).toList++l).toArray _=Heap.mk _ _
   rw [Array.toList_push,List.append_assoc]
   rfl
noncomputable def grown (h:Heap):Option BT:=grow .nil 0 h.objs.toList
theorem gab {h:Heap} {t:BT} (e:grown h=some t):absHeap t h.objs.toList.length h.life=h:=by
 have z:=gaa (life:=h.life) _ _ _ _ e
 rw [Nat.zero_add]at z
 rw [z]
 rfl
noncomputable def tre (s:Shared):Option SharedT:=(grown s.heap).map fun t=>⟨t,s.heap.objs.toList.length,s.heap.life,s.gens,s.drawn,s.toks,s.os⟩
theorem tra {s:Shared} {x:SharedT} (e:tre s=some x):x.abs=s:=by
 unfold tre at e
 obtain⟨t,g,rfl⟩:=Option.map_eq_some_iff.mp e
 obtain⟨h,gens,drawn,toks,os⟩:=s
 show Shared.mk _ _ _ _ _=_
 rw [gab g]
noncomputable def run (st:SharedT→Thread→Option (SharedT×Thread)) (ok:Thread→Bool):Nat→SharedT→Thread→Option SharedT
 | 0,_,_=>none
 | n+1,s,t=>match through t with
  | true=>some s
  | false=>match ok t with
   | false=>none
   | true=>match st s t with
    | some r=>run st ok n r.1 r.2
    | none=>none
noncomputable def imp (st:SharedT→Thread→Option (SharedT×Thread)) (ex:Thread→Option Bool):Nat→SharedT→Thread→Option SharedT
 | 0,_,_=>none
 | n+1,s,t=>match ex t with
  | some true=>some s
  | some false=>none
  | none=>match st s t with
   | some r=>imp st ex n r.1 r.2
   | none=>none
section
variable {tb:String→Option Builtin} {p:Program} {w:World} {n₀:Nat} {ann:Option Value}
theorem rof: ∀{n:Nat} {s s':SharedT} {t:Thread},run (stepT (denote tb) p w) (stepOk n₀ ann) n s t=some s'→topRun tb p w n₀ ann n s.abs t=some s'.abs
 | 0,_,_,_,h=>by cases h
 | n+1,s,s',t,h=>by
  unfold run at h
  unfold topRun
  cases he:through t with
  | true=>rw [he]at h;cases h;rfl
  | false=>
   rw [he]at h
   cases hk:stepOk n₀ ann t with
   | false=>rw [hk]at h;cases h
   | true=>
    rw [hk]at h
    cases hs:stepT (denote tb) p w s t with
    | none=>rw [hs]at h;cases h
    | some r=>rw [hs]at h;rw [stepT_spec (s':=r.1) (t':=r.2) hs];exact rof h
theorem iof: ∀{n:Nat} {s s':SharedT} {t:Thread},imp (stepT (denote tb) p w) (fun t=>t.atExitBegin.map List.isEmpty) n s t=some s'→importEnds tb p w n s.abs t=some s'.abs
 | 0,_,_,_,h=>by cases h
 | n+1,s,s',t,h=>by
  unfold imp at h
  unfold importEnds
  cases he:t.atExitBegin with
  | some l=>
   rw [he]at h
   cases l with
   | nil=>cases h;rfl
   | cons=>cases h
  | none=>
   rw [he]at h
   cases hs:stepT (denote tb) p w s t with
   | none=>rw [Option.map_none]at h;simp only [hs]at h;cases h
   | some r=>rw [Option.map_none]at h;simp only [hs]at h;dsimp only;rw [stepT_spec (s':=r.1) (t':=r.2) hs];exact iof h
end
noncomputable def top (p:Program) (st0 st1:SharedT→Thread→Option (SharedT×Thread)) (ex:Thread→Option Bool) (ok:Nat→Option Value→Thread→Bool) (q0:Shared×Thread) (fence:Shared→Option Shared) (ns:Heap→Addr→Str→Option Value) (N:Nat):Option (Shared×SharedT):=
 (tre q0.1).bind fun x=>(imp st0 ex N x q0.2).bind fun s=>(fence s.abs).bind fun s0=>(tre s0).bind fun y=>
  match s0.heap.isNs mainGlobals && s0.gens.size==0 with
  | true=>(run st1 (ok s0.heap.objs.size (ns s0.heap mainGlobals "__annotations__")) N y (topStub p)).bind fun s1=>some (s0,s1)
  | false=>none
theorem top_of {tb:String→Option Builtin} {p:Program} {w:World} {N:Nat} {α:Type} {F:Shared→Shared→α} {G:α}
  (e:(top p (stepT (denote tb) (opening p) w) (stepT (denote tb) p w) (fun t=>t.atExitBegin.map List.isEmpty) stepOk (start (opening p)) (fenceModules? p) Heap.nsMap N).map (fun r=>(staticsOk (importedModules p.main.body) r.1.heap r.2.abs.heap && namesBound p r.2.abs.heap && gensDone r.2.abs && laidKept r.1.heap r.2.abs.heap,F r.1 r.2.abs))=some (true,G)):
  ∃s0 s1,(openEnds tb p w N)=some s1∧F s0 s1=G:=by
 obtain⟨⟨s0,s1⟩,e1,e2⟩:=Option.map_eq_some_iff.mp e
 obtain⟨z1,z2⟩:=Prod.mk.inj e2
 unfold top at e1
 obtain⟨x,a1,e1⟩:=Option.bind_eq_some_iff.mp e1
 obtain⟨s,a2,e1⟩:=Option.bind_eq_some_iff.mp e1
 obtain⟨s0',a3,e1⟩:=Option.bind_eq_some_iff.mp e1
 obtain⟨y,a4,e1⟩:=Option.bind_eq_some_iff.mp e1
 cases hc:s0'.heap.isNs mainGlobals && s0'.gens.size==0 with
 | false=>rw [hc]at e1;cases e1
 | true=>
  rw [hc]at e1
  obtain⟨s1',a5,e1⟩:=Option.bind_eq_some_iff.mp e1
  obtain⟨rfl,rfl⟩:=Prod.mk.inj (Option.some.inj e1)
  have b2:=iof a2
  have b5:=rof a5
  rw [tra a1]at b2
  rw [tra a4]at b5
  refine⟨s0',s1'.abs,?_,z2⟩
  unfold openEnds fencedOpening
  rw [b2]
  show(((some s.abs).bind (fenceModules? p)).bind (topFrom tb p w N))=_
  rw [Option.bind_some,a3,Option.bind_some]
  unfold topFrom
  rw [hc]
  show(topRun tb p w _ _ N s0' (topStub p)).bind _=_
  rw [b5,Option.bind_some]
  dsimp only at z1⊢
  rw [z1]
end HD
end
section
namespace H2
open PySem.Challenge
noncomputable def sv (s:String) (t:Nat):Value:= .str (Str.ofString s) t
noncomputable def tp (i:Nat):Option Stmt:=(pw_ik0233_02.main.body.drop i).head?
noncomputable def mt (i j:Nat):Option Stmt:=match tp i with
 | some (.ClassDef _ _ _ b ..)=>(b.drop j).head?
 | _=>none
noncomputable def fO (s:Option Stmt) (q:String) (d:Value) (m:String) (t c:Nat):Obj:=match s with
 | some (.FunctionDef n a b _ _ _ sc ..)=>{cls:= .type "function",data:= .func {name:=n,qualname:=Str.ofString q,params:=a,body:= .stmts b,scope:=sc,globals:=3,closure:= [],defaults:=d,kwdefaults:= .none,pyModule:=sv m t,code:= .ref c}}
 | _=>{cls:= .none,data:= .freed}
noncomputable def cO (a:Nat) (n q:String) (t:Nat) (l x y z f:Int) (u:Int) (l2:Int):Obj:=
 {cls:= .type "code",data:= .fields #[sv n t,sv q (t+1),sv "/claim/cut.py" (t+2),.int l 0,.int x 0,.int y 0,.int z 0,.int f 0,.ref (a - 5),.bool true,.int 276 0,.ref (a - 4),.none,.ref (a - 3),.ref (a - 2),.ref (a - 1),.int u 0,.int l2 0,sv "/claim/cut.py" (u.toNat+1)]}
noncomputable def cN (a:Nat) (n q:String) (t:Nat) (l x y z f:Int) (u:Int) (l2:Int):Obj:=
 {cls:= .type "code",data:= .fields #[sv n t,sv q (t+1),sv "/claim/cut.py" (t+2),.int l 0,.int x 0,.int y 0,.int z 0,.int f 0,.ref (a - 3),.bool true,.int 276 0,.ref (a - 2),.none,.none,.none,.ref (a - 1),.int u 0,.int l2 0,sv "/claim/cut.py" (u.toNat+1)]}
noncomputable def en (P:Params) (k:String) (t:Nat) (v:Value):DictEntry:={hash:=PyData.keyHash P (Str.ofString k),key:=sv k t,val:=v}
noncomputable def dO (c:Value) (es:Array DictEntry) (n:Nat):Obj:={cls:=c,data:= .dict es n}
noncomputable def mO (n:String) (t c:Nat) (i:Int):Obj:={cls:= .type "member_descriptor",data:= .fields #[sv n t,.ref c,.builtin "proto.slot",.builtin "proto.slot#set",.int i 0]}
noncomputable def K (P:Params):Frag:= [
 (3,dO (.type "dict") #[en P "__name__" 165 (sv "law_ik0233_02" 902),en P "__doc__" 166 (.none),en P "__package__" 167 (.none),en P "__loader__" 168 (.builtin "__main__.__loader__#opaque"),en P "__spec__" 169 (.none),en P "__annotations__" 170 (.ref 6),en P "__builtins__" 171 (.ref 4),en P "__file__" 173 (sv "/claim/cut.py" 172),en P "__cached__" 174 (.none),en P "_sre" 275 (.ref 12),en P "_wall" 288 (.ref 38),en P "_NODE_OUT" 293 (.int (-1) 292),en P "_NODE_DONE" 296 (.int (-2) 295),en P "_NodeInfo" 333 (.ref 57),en P "CycleError" 351 (.ref 72),en P "TopologicalSorter" 470 (.ref 154),en P "_plain_name" 481 (.ref 165),en P "ABCMeta" 507 (.ref 182),en P "_ABCLike" 550 (.ref 215),en P "_abc_plain_meta" 557 (.ref 224),en P "fspath" 569 (.ref 231),en P "_check_arg_types" 582 (.ref 238),en P "_get_sep" 591 (.ref 245),en P "join" 602 (.ref 252),en P "splitroot" 611 (.ref 259),en P "dirname" 621 (.ref 266),en P "normpath" 636 (.ref 273),en P "tspecials" 672 (.ref 278),en P "_name_disallowed_re" 698 (.ref 283),en P "_value_disallowed_re" 732 (.ref 288),en P "_formatparam" 742 (.ref 296),en P "Headers" 901 (.ref 419),en P "_law_text" 913 (.ref 430),en P "_law_rows" 928 (.ref 437),en P "_law_links" 940 (.ref 444),en P "_law_named" 951 (.ref 451),en P "_law_ring" 962 (.ref 458),en P "_law_rounds" 968 (.ref 463),en P "_law_read" 977 (.ref 470),en P "_law_refusal" 986 (.ref 477),en P "_law_driven" 1000 (.ref 484),en P "_law_sittings" 1006 (.ref 489),en P "law" 1012 (.ref 494)] 43),
 (52,cO 52 "__init__" "_NodeInfo.__init__" 313 11 2 0 0 3 318 11),
 (53,fO (mt 5 1) "_NodeInfo.__init__" .none "cpy313.graphlib" 289 52),
 (56,dO (.type "dict") #[en P "__module__" 304 (sv "cpy313.graphlib" 289),en P "__firstlineno__" 308 (.int 8 307),en P "__slots__" 312 (.ref 46),en P "__init__" 320 (.ref 53),en P "__static_attributes__" 324 (.ref 54),en P "node" 326 (.ref 58),en P "npredecessors" 328 (.ref 59),en P "successors" 330 (.ref 60),en P "__doc__" 331 (.none)] 5),
 (57,({cls:= .type "type",data:= .cls {name:=Str.ofString "_NodeInfo",bases:= [ .type "object"],mro:= [ .ref 57,.type "object"],ns:=56,qualname:=Str.ofString "_NodeInfo",hasDict:=false,slotNames:= [Str.ofString "node",Str.ofString "npredecessors",Str.ofString "successors"]},slots:= #[none,none,some (sv "_NodeInfo" 297),some (sv "_NodeInfo" 305),some (.builtin "object.__new__"),some (.bool false)]}:Obj)),
 (58,mO "node" 325 57 2),
 (59,mO "npredecessors" 327 57 1),
 (60,mO "successors" 329 57 0),
 (71,dO (.type "dict") #[en P "__module__" 341 (sv "cpy313.graphlib" 289),en P "__firstlineno__" 345 (.int 15 344),en P "__static_attributes__" 346 (.ref 70),en P "__weakref__" 348 (.ref 73),en P "__doc__" 349 (.none)] 3),
 (72,({cls:= .type "type",data:= .cls {name:=Str.ofString "CycleError",bases:= [ .type "ValueError"],mro:= [ .ref 72,.type "ValueError",.type "Exception",.type "BaseException",.type "object"],ns:=71,qualname:=Str.ofString "CycleError"},slots:= #[some (.ref 63),none,some (sv "CycleError" 334),some (sv "CycleError" 342),some (.builtin "ValueError.__new__"),some (.bool true)]}:Obj)),
 (83,({cls:= .type "tuple",data:= .seq #[ .none]}:Obj)),
 (89,cO 89 "__init__" "TopologicalSorter.__init__" 364 19 2 0 0 3 371 19),
 (90,fO (mt 7 0) "TopologicalSorter.__init__" (.ref 83) "cpy313.graphlib" 289 89),
 (96,cO 96 "_get_nodeinfo" "TopologicalSorter._get_nodeinfo" 374 28 2 0 0 3 380 28),
 (97,fO (mt 7 1) "TopologicalSorter._get_nodeinfo" .none "cpy313.graphlib" 289 96),
 (103,cO 103 "add" "TopologicalSorter.add" 383 33 2 0 0 7 392 33),
 (104,fO (mt 7 2) "TopologicalSorter.add" .none "cpy313.graphlib" 289 103),
 (108,cN 108 "prepare" "TopologicalSorter.prepare" 395 42 1 0 0 3 398 42),
 (109,fO (mt 7 3) "TopologicalSorter.prepare" .none "cpy313.graphlib" 289 108),
 (115,cO 115 "get_ready" "TopologicalSorter.get_ready" 401 50 1 0 0 3 408 50),
 (116,fO (mt 7 4) "TopologicalSorter.get_ready" .none "cpy313.graphlib" 289 115),
 (122,cO 122 "is_active" "TopologicalSorter.is_active" 411 61 1 0 0 3 415 61),
 (123,fO (mt 7 5) "TopologicalSorter.is_active" .none "cpy313.graphlib" 289 122),
 (136,cO 136 "done" "TopologicalSorter.done" 425 69 1 0 0 7 436 69),
 (137,fO (mt 7 7) "TopologicalSorter.done" .none "cpy313.graphlib" 289 136),
 (143,cO 143 "_find_cycle" "TopologicalSorter._find_cycle" 439 92 1 0 0 3 449 92),
 (144,fO (mt 7 8) "TopologicalSorter._find_cycle" .none "cpy313.graphlib" 289 143),
 (153,dO (.type "dict") #[en P "__module__" 359 (sv "cpy313.graphlib" 289),en P "__firstlineno__" 363 (.int 17 362),en P "__init__" 373 (.ref 90),en P "_get_nodeinfo" 382 (.ref 97),en P "add" 394 (.ref 104),en P "prepare" 400 (.ref 109),en P "get_ready" 410 (.ref 116),en P "is_active" 417 (.ref 123),en P "__bool__" 424 (.ref 130),en P "done" 438 (.ref 137),en P "_find_cycle" 451 (.ref 144),en P "static_order" 458 (.ref 151),en P "__static_attributes__" 463 (.ref 152),en P "__dict__" 465 (.ref 155),en P "__weakref__" 467 (.ref 156),en P "__doc__" 468 (.none)] 4),
 (154,({cls:= .type "type",data:= .cls {name:=Str.ofString "TopologicalSorter",bases:= [ .type "object"],mro:= [ .ref 154,.type "object"],ns:=153,qualname:=Str.ofString "TopologicalSorter"},slots:= #[none,none,some (sv "TopologicalSorter" 352),some (sv "TopologicalSorter" 360),some (.builtin "object.__new__"),some (.bool true)]}:Obj)),
 (230,cO 230 "fspath" "fspath" 560 154 1 0 0 3 567 154),
 (231,fO (tp 16) "fspath" .none "os" 558 230),
 (244,cO 244 "_get_sep" "_get_sep" 585 183 1 0 0 3 589 183),
 (245,fO (tp 20) "_get_sep" .none "cpy313.posixpath" 583 244),
 (251,cO 251 "join" "join" 592 188 1 0 0 7 600 188),
 (252,fO (tp 21) "join" .none "cpy313.posixpath" 583 251),
 (258,cO 258 "splitroot" "splitroot" 603 205 1 0 0 3 609 205),
 (259,fO (tp 22) "splitroot" .none "cpy313.posixpath" 583 258),
 (265,cO 265 "dirname" "dirname" 612 219 1 0 0 3 619 219),
 (266,fO (tp 23) "dirname" .none "cpy313.posixpath" 583 265),
 (272,cO 272 "normpath" "normpath" 622 227 1 0 0 3 634 227),
 (273,fO (tp 24) "normpath" .none "cpy313.posixpath" 583 272),
 (277,({cls:= .type "tuple",data:= .seq #[ .int 14 0,.int 14 0,.int 4 0,.int 1 0,.int 1 0,.int 9 0,.int 0 0,.int 4227896069 0,.int 939524097 0,.int 0 0,.int 0 0,.int 0 0,.int 0 0,.int 0 0,.int 0 0,.int 13 0,.int 11 0,.int 9 0,.int 0 0,.int 4227896069 0,.int 939524097 0,.int 0 0,.int 0 0,.int 0 0,.int 0 0,.int 0 0,.int 0 0,.int 1 0]}:Obj)),
 (278,({cls:= .type "re.Pattern",data:= .fields #[sv "[ \\(\\)<>@,;:\\\\\"/\\[\\]\\?=]" 640,.int 32 671,.int 0 0,.none,.none,.ref 277,.int 0 0]}:Obj)),
 (282,({cls:= .type "tuple",data:= .seq #[ .int 14 0,.int 10 0,.int 4 0,.int 1 0,.int 1 0,.int 22 0,.int 0 0,.int 31 0,.int 16 0,.int 127 0,.int 0 0,.int 13 0,.int 7 0,.int 22 0,.int 0 0,.int 31 0,.int 16 0,.int 127 0,.int 0 0,.int 1 0]}:Obj)),
 (283,({cls:= .type "re.Pattern",data:= .fields #[sv "[\\x00-\\x1F\\x7F]" 674,.int 32 697,.int 0 0,.none,.none,.ref 282,.int 0 0]}:Obj)),
 (287,({cls:= .type "tuple",data:= .seq #[ .int 14 0,.int 14 0,.int 4 0,.int 1 0,.int 1 0,.int 9 0,.int 4294966783 0,.int 0 0,.int 0 0,.int 2147483648 0,.int 0 0,.int 0 0,.int 0 0,.int 0 0,.int 0 0,.int 13 0,.int 11 0,.int 9 0,.int 4294966783 0,.int 0 0,.int 0 0,.int 2147483648 0,.int 0 0,.int 0 0,.int 0 0,.int 0 0,.int 0 0,.int 1 0]}:Obj)),
 (288,({cls:= .type "re.Pattern",data:= .fields #[sv "[\\x00-\\x08\\x0A-\\x1F\\x7F]" 700,.int 32 731,.int 0 0,.none,.none,.ref 287,.int 0 0]}:Obj)),
 (289,({cls:= .type "tuple",data:= .seq #[ .none,.int 1 733]}:Obj)),
 (295,cO 295 "_formatparam" "_formatparam" 734 256 3 0 0 3 740 256),
 (296,fO (tp 29) "_formatparam" (.ref 289) "cpy313.wsgiref.headers" 637 295),
 (304,({cls:= .type "tuple",data:= .seq #[ .none]}:Obj)),
 (310,cO 310 "__init__" "Headers.__init__" 755 267 2 0 0 3 762 267),
 (311,fO (mt 30 0) "Headers.__init__" (.ref 304) "cpy313.wsgiref.headers" 637 310),
 (317,cO 317 "_convert_string_type" "Headers._convert_string_type" 765 277 2 0 1 3 772 277),
 (318,fO (mt 30 1) "Headers._convert_string_type" .none "cpy313.wsgiref.headers" 637 317),
 (331,cO 331 "__setitem__" "Headers.__setitem__" 782 288 3 0 0 3 788 288),
 (332,fO (mt 30 3) "Headers.__setitem__" .none "cpy313.wsgiref.headers" 637 331),
 (336,cN 336 "__delitem__" "Headers.__delitem__" 791 292 2 0 0 3 794 292),
 (337,fO (mt 30 4) "Headers.__delitem__" .none "cpy313.wsgiref.headers" 637 336),
 (343,cO 343 "__getitem__" "Headers.__getitem__" 797 296 2 0 0 3 802 296),
 (344,fO (mt 30 5) "Headers.__getitem__" .none "cpy313.wsgiref.headers" 637 343),
 (359,({cls:= .type "tuple",data:= .seq #[ .none]}:Obj)),
 (365,cO 365 "get" "Headers.get" 821 305 3 0 0 3 829 305),
 (366,fO (mt 30 8) "Headers.get" (.ref 359) "cpy313.wsgiref.headers" 637 365),
 (370,cN 370 "keys" "Headers.keys" 832 312 1 0 0 3 835 312),
 (371,fO (mt 30 9) "Headers.keys" .none "cpy313.wsgiref.headers" 637 370),
 (382,cO 382 "items" "Headers.items" 844 318 1 0 0 3 848 318),
 (383,fO (mt 30 11) "Headers.items" .none "cpy313.wsgiref.headers" 637 382),
 (415,cO 415 "add_header" "Headers.add_header" 880 333 3 0 0 11 890 333),
 (416,fO (mt 30 16) "Headers.add_header" .none "cpy313.wsgiref.headers" 637 415),
 (418,dO (.type "dict") #[en P "__module__" 750 (sv "cpy313.wsgiref.headers" 637),en P "__firstlineno__" 754 (.int 265 753),en P "__init__" 764 (.ref 311),en P "_convert_string_type" 774 (.ref 318),en P "__len__" 781 (.ref 325),en P "__setitem__" 790 (.ref 332),en P "__delitem__" 796 (.ref 337),en P "__getitem__" 804 (.ref 344),en P "__contains__" 812 (.ref 351),en P "get_all" 820 (.ref 358),en P "get" 831 (.ref 366),en P "keys" 837 (.ref 371),en P "values" 843 (.ref 376),en P "items" 850 (.ref 383),en P "__repr__" 857 (.ref 390),en P "__str__" 863 (.ref 395),en P "__bytes__" 870 (.ref 402),en P "setdefault" 879 (.ref 409),en P "add_header" 892 (.ref 416),en P "__static_attributes__" 894 (.ref 417),en P "__dict__" 896 (.ref 420),en P "__weakref__" 898 (.ref 421),en P "__doc__" 899 (.none)] 4),
 (419,({cls:= .type "type",data:= .cls {name:=Str.ofString "Headers",bases:= [ .type "object"],mro:= [ .ref 419,.type "object"],ns:=418,qualname:=Str.ofString "Headers"},slots:= #[none,none,some (sv "Headers" 743),some (sv "Headers" 751),some (.builtin "object.__new__"),some (.bool true)]}:Obj)),
 (429,cO 429 "_law_text" "_law_text" 904 347 3 0 0 3 911 347),
 (430,fO (tp 32) "_law_text" .none "law_ik0233_02" 902 429),
 (436,cO 436 "_law_rows" "_law_rows" 914 354 1 0 0 3 926 354),
 (437,fO (tp 33) "_law_rows" .none "law_ik0233_02" 902 436),
 (443,cO 443 "_law_links" "_law_links" 929 362 1 0 0 3 938 362),
 (444,fO (tp 34) "_law_links" .none "law_ik0233_02" 902 443),
 (450,cO 450 "_law_named" "_law_named" 941 368 1 0 0 3 949 368),
 (451,fO (tp 35) "_law_named" .none "law_ik0233_02" 902 450),
 (457,cO 457 "_law_ring" "_law_ring" 952 375 2 0 0 3 960 375),
 (458,fO (tp 36) "_law_ring" .none "law_ik0233_02" 902 457),
 (462,cN 462 "_law_rounds" "_law_rounds" 963 384 3 0 0 3 966 384),
 (463,fO (tp 37) "_law_rounds" .none "law_ik0233_02" 902 462),
 (469,cO 469 "_law_read" "_law_read" 969 390 1 0 0 3 975 390),
 (470,fO (tp 38) "_law_read" .none "law_ik0233_02" 902 469),
 (476,cO 476 "_law_refusal" "_law_refusal" 978 396 2 0 0 3 984 396),
 (477,fO (tp 39) "_law_refusal" .none "law_ik0233_02" 902 476),
 (483,cO 483 "_law_driven" "_law_driven" 987 402 4 0 0 3 998 402),
 (484,fO (tp 40) "_law_driven" .none "law_ik0233_02" 902 483),
 (488,cN 488 "_law_sittings" "_law_sittings" 1001 428 4 0 0 3 1004 428),
 (489,fO (tp 41) "_law_sittings" .none "law_ik0233_02" 902 488),
 (493,cN 493 "law" "law" 1007 449 1 0 0 3 1010 449),
 (494,fO (tp 42) "law" .none "law_ik0233_02" 902 493)]
noncomputable def as_:List Addr:= [3,52,53,56,57,58,59,60,71,72,83,89,90,96,97,103,104,108,109,115,116,122,123,136,137,143,144,153,154,230,231,244,245,251,252,258,259,265,266,272,273,277,278,282,283,287,288,289,295,296,304,310,311,317,318,331,332,336,337,343,344,359,365,366,370,371,382,383,415,416,418,419,429,430,436,437,443,444,450,451,457,458,462,463,469,470,476,477,483,484,488,489,493,494]
end H2
end
section
namespace L2
open Builtin Builtin.Str
local macro_rules | `(tactic| kln_le)=> `(tactic| first
 | (with_reducible assumption)
 | ((with_reducible apply V.Bc)<;>kln_le)
 | ((with_reducible apply V.Bs);kln_le)
 | ((with_reducible apply V.Bm)<;>first | kln_le | omega)
 | ((with_reducible apply V.Bl (x:=Str.ofString _));rfl))
structure Is (C:V.Cx):Prop where
 ok:C.Ok
 K:C.K=H2.K C.w.params
 hx:C.hx=none
theorem mg {C:V.Cx} (h:Is C) (x:Str):C.mg x=nsFind (V.dictOf ((H2.K C.w.params).lookup 3)) x:=V.mg_of h.ok (by rw [h.K];exact rfl) rfl x
theorem KX {C:V.Cx} (h:Is C) {a:Addr} (e:keepIn (H2.K C.w.params) (.ref a)=true):V.Kp C (.ext a):=V.Ke h.ok (by rw [h.K];exact e)
theorem gCE {C:V.Cx} (h:Is C):V.Glob C (Str.ofString "CycleError") (.ext 72):=V.Ge (by decide+kernel) ((mg h _).trans (by kernel_rfl))
theorem gH {C:V.Cx} (h:Is C):V.Glob C (Str.ofString "Headers") (.ext 419):=V.Ge (by decide+kernel) ((mg h _).trans (by kernel_rfl))
theorem gSI {C:V.Cx} (h:Is C):V.Glob C (Str.ofString "StopIteration") (.ty "StopIteration"):=V.Gl h.ok (by decide+kernel) ((mg h _).trans (by kernel_rfl)) (by decide+kernel) (by kernel_rfl)
theorem gTS {C:V.Cx} (h:Is C):V.Glob C (Str.ofString "TopologicalSorter") (.ext 154):=V.Ge (by decide+kernel) ((mg h _).trans (by kernel_rfl))
theorem gVE {C:V.Cx} (h:Is C):V.Glob C (Str.ofString "ValueError") (.ty "ValueError"):=V.Gl h.ok (by decide+kernel) ((mg h _).trans (by kernel_rfl)) (by decide+kernel) (by kernel_rfl)
theorem gNa {C:V.Cx} (h:Is C):V.Glob C (Str.ofString "_NODE_DONE") (.int (-2)):=V.Gi (t:=295) (by decide+kernel) ((mg h _).trans (by kernel_rfl))
theorem gNO {C:V.Cx} (h:Is C):V.Glob C (Str.ofString "_NODE_OUT") (.int (-1)):=V.Gi (t:=292) (by decide+kernel) ((mg h _).trans (by kernel_rfl))
theorem gNI {C:V.Cx} (h:Is C):V.Glob C (Str.ofString "_NodeInfo") (.ext 57):=V.Ge (by decide+kernel) ((mg h _).trans (by kernel_rfl))
theorem ggs {C:V.Cx} (h:Is C):V.Glob C (Str.ofString "_get_sep") (.ext 245):=V.Ge (by decide+kernel) ((mg h _).trans (by kernel_rfl))
theorem gld {C:V.Cx} (h:Is C):V.Glob C (Str.ofString "_law_driven") (.ext 484):=V.Ge (by decide+kernel) ((mg h _).trans (by kernel_rfl))
theorem gll {C:V.Cx} (h:Is C):V.Glob C (Str.ofString "_law_links") (.ext 444):=V.Ge (by decide+kernel) ((mg h _).trans (by kernel_rfl))
theorem gln {C:V.Cx} (h:Is C):V.Glob C (Str.ofString "_law_named") (.ext 451):=V.Ge (by decide+kernel) ((mg h _).trans (by kernel_rfl))
theorem gla {C:V.Cx} (h:Is C):V.Glob C (Str.ofString "_law_read") (.ext 470):=V.Ge (by decide+kernel) ((mg h _).trans (by kernel_rfl))
theorem gr {C:V.Cx} (h:Is C):V.Glob C (Str.ofString "_law_refusal") (.ext 477):=V.Ge (by decide+kernel) ((mg h _).trans (by kernel_rfl))
theorem gri {C:V.Cx} (h:Is C):V.Glob C (Str.ofString "_law_ring") (.ext 458):=V.Ge (by decide+kernel) ((mg h _).trans (by kernel_rfl))
theorem glr {C:V.Cx} (h:Is C):V.Glob C (Str.ofString "_law_rounds") (.ext 463):=V.Ge (by decide+kernel) ((mg h _).trans (by kernel_rfl))
theorem gro {C:V.Cx} (h:Is C):V.Glob C (Str.ofString "_law_rows") (.ext 437):=V.Ge (by decide+kernel) ((mg h _).trans (by kernel_rfl))
theorem gls {C:V.Cx} (h:Is C):V.Glob C (Str.ofString "_law_sittings") (.ext 489):=V.Ge (by decide+kernel) ((mg h _).trans (by kernel_rfl))
theorem glt {C:V.Cx} (h:Is C):V.Glob C (Str.ofString "_law_text") (.ext 430):=V.Ge (by decide+kernel) ((mg h _).trans (by kernel_rfl))
theorem gre {C:V.Cx} (h:Is C):V.Glob C (Str.ofString "_name_disallowed_re") (.ext 283):=V.Ge (by decide+kernel) ((mg h _).trans (by kernel_rfl))
theorem gvd {C:V.Cx} (h:Is C):V.Glob C (Str.ofString "_value_disallowed_re") (.ext 288):=V.Ge (by decide+kernel) ((mg h _).trans (by kernel_rfl))
theorem g_bool {C:V.Cx} (h:Is C):V.Glob C (Str.ofString "bool") (.ty "bool"):=V.Gl h.ok (by decide+kernel) ((mg h _).trans (by kernel_rfl)) (by decide+kernel) (by kernel_rfl)
theorem gb {C:V.Cx} (h:Is C):V.Glob C (Str.ofString "bytes") (.ty "bytes"):=V.Gl h.ok (by decide+kernel) ((mg h _).trans (by kernel_rfl)) (by decide+kernel) (by kernel_rfl)
theorem gdi {C:V.Cx} (h:Is C):V.Glob C (Str.ofString "dirname") (.ext 266):=V.Ge (by decide+kernel) ((mg h _).trans (by kernel_rfl))
theorem gfs {C:V.Cx} (h:Is C):V.Glob C (Str.ofString "fspath") (.ext 231):=V.Ge (by decide+kernel) ((mg h _).trans (by kernel_rfl))
theorem gis {C:V.Cx} (h:Is C):V.Glob C (Str.ofString "isinstance") (.bi "isinstance"):=V.Gb h.ok (by decide+kernel) ((mg h _).trans (by kernel_rfl)) (by decide+kernel) (by kernel_rfl)
theorem gia {C:V.Cx} (h:Is C):V.Glob C (Str.ofString "issubclass") (.bi "issubclass"):=V.Gb h.ok (by decide+kernel) ((mg h _).trans (by kernel_rfl)) (by decide+kernel) (by kernel_rfl)
theorem g_iter {C:V.Cx} (h:Is C):V.Glob C (Str.ofString "iter") (.bi "iter"):=V.Gb h.ok (by decide+kernel) ((mg h _).trans (by kernel_rfl)) (by decide+kernel) (by kernel_rfl)
theorem gj {C:V.Cx} (h:Is C):V.Glob C (Str.ofString "join") (.ext 252):=V.Ge (by decide+kernel) ((mg h _).trans (by kernel_rfl))
theorem gle {C:V.Cx} (h:Is C):V.Glob C (Str.ofString "len") (.bi "len"):=V.Gb h.ok (by decide+kernel) ((mg h _).trans (by kernel_rfl)) (by decide+kernel) (by kernel_rfl)
theorem gli {C:V.Cx} (h:Is C):V.Glob C (Str.ofString "list") (.ty "list"):=V.Gl h.ok (by decide+kernel) ((mg h _).trans (by kernel_rfl)) (by decide+kernel) (by kernel_rfl)
theorem gno {C:V.Cx} (h:Is C):V.Glob C (Str.ofString "normpath") (.ext 273):=V.Ge (by decide+kernel) ((mg h _).trans (by kernel_rfl))
theorem gra {C:V.Cx} (h:Is C):V.Glob C (Str.ofString "range") (.ty "range"):=V.Gl h.ok (by decide+kernel) ((mg h _).trans (by kernel_rfl)) (by decide+kernel) (by kernel_rfl)
theorem g_set {C:V.Cx} (h:Is C):V.Glob C (Str.ofString "set") (.ty "set"):=V.Gl h.ok (by decide+kernel) ((mg h _).trans (by kernel_rfl)) (by decide+kernel) (by kernel_rfl)
theorem gsp {C:V.Cx} (h:Is C):V.Glob C (Str.ofString "splitroot") (.ext 259):=V.Ge (by decide+kernel) ((mg h _).trans (by kernel_rfl))
theorem gst {C:V.Cx} (h:Is C):V.Glob C (Str.ofString "str") (.ty "str"):=V.Gl h.ok (by decide+kernel) ((mg h _).trans (by kernel_rfl)) (by decide+kernel) (by kernel_rfl)
theorem gsu {C:V.Cx} (h:Is C):V.Glob C (Str.ofString "sum") (.bi "sum"):=V.Gb h.ok (by decide+kernel) ((mg h _).trans (by kernel_rfl)) (by decide+kernel) (by kernel_rfl)
theorem gtu {C:V.Cx} (h:Is C):V.Glob C (Str.ofString "tuple") (.ty "tuple"):=V.Gl h.ok (by decide+kernel) ((mg h _).trans (by kernel_rfl)) (by decide+kernel) (by kernel_rfl)
theorem gty {C:V.Cx} (h:Is C):V.Glob C (Str.ofString "type") (.ty "type"):=V.Gl h.ok (by decide+kernel) ((mg h _).trans (by kernel_rfl)) (by decide+kernel) (by kernel_rfl)
end L2
end
section
namespace L2
open Builtin Builtin.Str
local macro_rules | `(tactic| kln_le)=> `(tactic| first
 | (with_reducible assumption)
 | ((with_reducible apply V.Bc)<;>kln_le)
 | ((with_reducible apply V.Bs);kln_le)
 | ((with_reducible apply V.B_rstrip);kln_le)
 | ((with_reducible apply V.Bm)<;>first | kln_le | omega)
 | ((with_reducible apply V.Bl (x:=Str.ofString _));rfl))
theorem cfs {C:V.Cx} (h:Is C) {k:Nat} {σ:V.St} {p:Str}:V.Ca C (k+1) σ (.ext 231) [.str p] [] (.str p) σ:=by
 have hx0:=h.hx
 refine V.Cna h.ok ⟨⟨_,_,_,by rw [h.K];exact rfl⟩,rfl,rfl,rfl,rfl,by rw [h.K];rfl,rfl,rfl,by decide+kernel⟩ [(Str.ofString "path",.local),(Str.ofString "kind",.local),(Str.ofString "hook",.local),(Str.ofString "given",.local),(Str.ofString "type",.globalImplicit),(Str.ofString "issubclass",.globalImplicit),(Str.ofString "str",.globalImplicit),(Str.ofString "bytes",.globalImplicit),(Str.ofString "_abc_plain_meta",.globalImplicit),(Str.ofString "getattr",.globalImplicit),(Str.ofString "TypeError",.globalImplicit),(Str.ofString "_plain_name",.globalImplicit),(Str.ofString "_wall",.globalImplicit),(Str.ofString "len",.globalImplicit)] rfl [(Str.ofString "path",.str p)] _
  (V.Bp (V.l1a fun a0=>rfl) rfl) rfl rfl fun sc hF n hn=> ?_
 obtain⟨n0,n1,n2,n3,n4,n5,n6,n7,n8,n9,n10,n11,n12,n13,_⟩:=hF
 refine V.ou ?_
 refine V.Gco (V.X1A (V.ECa (V.EGl h.ok n4 (gty h)) (V.Eco (V.ELo n0 rfl) V.En (fun u=>rfl)) V.Kty (V.Cty V.Tst.at (by decide)) (fun u=>rfl) (fun u=>rfl)) (V.AL' n1 rfl) (fun u=>rfl) (fun u=>rfl) (fun u=>rfl)) ?_
 refine V.GoT (V.Tva (b:=true) (V.ECa (V.EGl h.ok n5 (gia h)) (V.Eco (V.ELo n1 rfl) (V.Eco (V.ETu (V.Eco (V.EGl h.ok n6 (gst h)) (V.Eco (V.EGl h.ok n7 (gb h)) V.En (fun u=>rfl)) (fun u=>rfl)) (Nat.le_of_ble_eq_true rfl)) V.En (fun u=>rfl)) (fun u=>rfl)) V.Kbi V.Cis (fun u=>rfl) (fun u=>rfl)) V.btr (fun u v=>rfl)) ?_
 exact V.Gre (V.ELo n0 rfl)
theorem cg {C:V.Cx} (h:Is C) {k:Nat} {σ:V.St} {p:Str}:V.Ca C (k+1) σ (.ext 245) [.str p] [] (.str (Str.ofString "/")) σ:=by
 have hx0:=h.hx
 refine V.Cna h.ok ⟨⟨_,_,_,by rw [h.K];exact rfl⟩,rfl,rfl,rfl,rfl,by rw [h.K];rfl,rfl,rfl,by decide+kernel⟩ [(Str.ofString "path",.local),(Str.ofString "isinstance",.globalImplicit),(Str.ofString "bytes",.globalImplicit)] rfl [(Str.ofString "path",.str p)] _
  (V.Bp (V.l1a fun a0=>rfl) rfl) rfl rfl fun sc hF n hn=> ?_
 obtain⟨n0,n1,n2,_⟩:=hF
 refine V.ou ?_
 refine V.GF (V.Tva (b:=false) (V.ECa (V.EGl h.ok n1 (gis h)) (V.Eco (V.ELo n0 rfl) (V.Eco (V.EGl h.ok n2 (gb h)) V.En (fun u=>rfl)) (fun u=>rfl)) V.Kbi V.Ci (fun u=>rfl) (fun u=>rfl)) V.btr (fun u v=>rfl)) ?_
 exact V.Gre V.ESt
noncomputable def dH (p:Str):Str:=Txt.slice p none (some (Txt.rfind p (Str.ofString "/")+1))
noncomputable def di (p:Str):Str:=if(((dH p).length:Int) !=0) && (dH p !=Txt.mul (Str.ofString "/") (dH p).length)then Txt.rstripChars (dH p) (Str.ofString "/")else dH p
theorem cdi {C:V.Cx} (h:Is C) {k:Nat} {σ:V.St} {p:Str} (hp:V.B p 200):V.Ca C (k+2) σ (.ext 266) [.str p] [] (.str (di p)) σ:=by
 have hx0:=h.hx
 refine V.Cna h.ok ⟨⟨_,_,_,by rw [h.K];exact rfl⟩,rfl,rfl,rfl,rfl,by rw [h.K];rfl,rfl,rfl,by decide+kernel⟩ [(Str.ofString "p",.local),(Str.ofString "sep",.local),(Str.ofString "i",.local),(Str.ofString "head",.local),(Str.ofString "fspath",.globalImplicit),(Str.ofString "_get_sep",.globalImplicit),(Str.ofString "len",.globalImplicit)] rfl [(Str.ofString "p",.str p)] _
  (V.Bp (V.l1a fun a0=>rfl) rfl) rfl rfl fun sc hF n hn=> ?_
 obtain⟨n0,n1,n2,n3,n4,n5,n6,_⟩:=hF
 refine V.ou ?_
 refine V.Gco (V.X1A (V.ECa (V.EGl h.ok n4 (gfs h)) (V.Eco (V.ELo n0 rfl) V.En (fun u=>rfl)) (KX h rfl) (cfs h) (fun u=>rfl) (fun u=>rfl)) (V.AL' n0 rfl) (fun u=>rfl) (fun u=>rfl) (fun u=>rfl)) ?_
 refine V.Gco (V.X1A (V.ECa (V.EGl h.ok n5 (ggs h)) (V.Eco (V.ELo n0 rfl) V.En (fun u=>rfl)) (KX h rfl) (cg h) (fun u=>rfl) (fun u=>rfl)) (V.AL' n1 rfl) (fun u=>rfl) (fun u=>rfl) (fun u=>rfl)) ?_
 refine V.Gco (V.X1A (V.EBO (V.EMC (V.ELo n0 rfl) V.Mrf (V.Eco (V.ELo n1 rfl) V.En (fun u=>rfl)) V.Kbi V.Crf (fun u v=>rfl) (fun u=>rfl) rfl (fun u=>rfl)) V.EIn V.iad) (V.AL' n2 rfl) (fun u=>rfl) (fun u=>rfl) (fun u=>rfl)) ?_
 refine V.Gco (V.X1A (V.ESu (V.ELo n0 rfl) (V.ESl V.Pn (V.Pso (V.ELo n2 rfl)) V.Pn) V.Bst (V.ssa V.PtI.none (V.PtI.int _) (by kln_le) (by decide))) (V.AL' n3 rfl) (fun u=>rfl) (fun u=>rfl) (fun u=>rfl)) ?_
 unfold di
 rcases h1:(((dH p).length:Int) !=0)with _ | _
 ·simp only [Bool.false_and,Bool.false_eq_true,↓reduceIte]
  unfold dH at *
  refine V.GF (V.TBO (V.TAs (V.Tva (b:=false) (V.ELo n3 rfl) (V.sta (by kln_le) (by decide) (by first | with_reducible assumption | rfl)) (fun u v=>rfl)))) ?_
  exact V.Gre (V.ELo n3 rfl)
 ·rcases h2:(dH p !=Txt.mul (Str.ofString "/") (dH p).length)with _ | _
  ·simp only [Bool.true_and,Bool.false_eq_true,↓reduceIte]
   unfold dH at *
   refine V.GF (V.TBO (V.TAo (V.Tva (b:=true) (V.ELo n3 rfl) (V.sta (by kln_le) (by decide) (by first | with_reducible assumption | rfl)) (fun u v=>rfl)) (V.TAs (V.TCo (c:=false) (V.ELo n3 rfl) (V.EBO (V.ELo n1 rfl) (V.ECa (V.EGl h.ok n6 (gle h)) (V.Eco (V.ELo n3 rfl) V.En (fun u=>rfl)) V.Kbi (V.ClS (by kln_le) (by decide)) (fun u=>rfl) (fun u=>rfl)) (V.smL (by kln_le) (by kln_le) (by decide) (by decide))) (V.sne (by first | with_reducible assumption | rfl)) rfl)))) ?_
   exact V.Gre (V.ELo n3 rfl)
  ·simp only [Bool.true_and,↓reduceIte]
   unfold dH at *
   refine V.GoT (V.TBO (V.TAo (V.Tva (b:=true) (V.ELo n3 rfl) (V.sta (by kln_le) (by decide) (by first | with_reducible assumption | rfl)) (fun u v=>rfl)) (V.TAo (V.TCo (c:=true) (V.ELo n3 rfl) (V.EBO (V.ELo n1 rfl) (V.ECa (V.EGl h.ok n6 (gle h)) (V.Eco (V.ELo n3 rfl) V.En (fun u=>rfl)) V.Kbi (V.ClS (by kln_le) (by decide)) (fun u=>rfl) (fun u=>rfl)) (V.smL (by kln_le) (by kln_le) (by decide) (by decide))) (V.sne (by first | with_reducible assumption | rfl)) rfl) V.TAn))) ?_
   refine V.Gco (V.X1A (V.EMC (V.ELo n3 rfl) V.Mr (V.Eco (V.ELo n1 rfl) V.En (fun u=>rfl)) V.Kbi (V.Cr' (by kln_le) (by decide)) (fun u v=>rfl) (fun u=>rfl) rfl (fun u=>rfl)) (V.AL' n3 rfl) (fun u=>rfl) (fun u=>rfl) (fun u=>rfl)) ?_
   exact V.Gre (V.ELo n3 rfl)
noncomputable def c1 (p:Str):Bool:=Txt.slice p none (some 1) !=Str.ofString "/"
noncomputable def c2 (p:Str):Bool:=Txt.slice p (some 1) (some 2) !=Str.ofString "/"
noncomputable def c3 (p:Str):Bool:=Txt.slice p (some 2) (some 3)==Str.ofString "/"
noncomputable def spr (p:Str):Str×Str:=if c1 p then(Str.ofString "",p)else if c2 p then(Str.ofString "/",Txt.slice p (some 1) none)else if c3 p then(Str.ofString "/",Txt.slice p (some 1) none)else(Txt.slice p none (some 2),Txt.slice p (some 2) none)
theorem csp {C:V.Cx} (h:Is C) {k:Nat} {σ:V.St} {p:Str} (hp:V.B p 400):V.Ca C (k+2) σ (.ext 259) [.str p] [] (.tup [.str (Str.ofString ""),.str (spr p).1,.str (spr p).2]) σ:=by
 have hx0:=h.hx
 refine V.Cna h.ok ⟨⟨_,_,_,by rw [h.K];exact rfl⟩,rfl,rfl,rfl,rfl,by rw [h.K];rfl,rfl,rfl,by decide+kernel⟩ [(Str.ofString "p",.local),(Str.ofString "sep",.local),(Str.ofString "empty",.local),(Str.ofString "fspath",.globalImplicit),(Str.ofString "isinstance",.globalImplicit),(Str.ofString "bytes",.globalImplicit)] rfl [(Str.ofString "p",.str p)] _
  (V.Bp (V.l1a fun a0=>rfl) rfl) rfl rfl fun sc hF n hn=> ?_
 obtain⟨n0,n1,n2,n3,n4,n5,_⟩:=hF
 refine V.otu (fun D=>by simp [V.AV.Ins,V.AV.In]) ?_
 refine V.Gco (V.X1A (V.ECa (V.EGl h.ok n3 (gfs h)) (V.Eco (V.ELo n0 rfl) V.En (fun u=>rfl)) (KX h rfl) (cfs h) (fun u=>rfl) (fun u=>rfl)) (V.AL' n0 rfl) (fun u=>rfl) (fun u=>rfl) (fun u=>rfl)) ?_
 refine V.GF (V.Tva (b:=false) (V.ECa (V.EGl h.ok n4 (gis h)) (V.Eco (V.ELo n0 rfl) (V.Eco (V.EGl h.ok n5 (gb h)) V.En (fun u=>rfl)) (fun u=>rfl)) V.Kbi V.Ci (fun u=>rfl) (fun u=>rfl)) V.btr (fun u v=>rfl)) ?_
 refine V.Gco (V.X1A V.ESt (V.AL' n1 rfl) (fun u=>rfl) (fun u=>rfl) (fun u=>rfl)) ?_
 refine V.Gco (V.X1A V.ESt (V.AL' n2 rfl) (fun u=>rfl) (fun u=>rfl) (fun u=>rfl)) ?_
 unfold spr
 rcases h1:c1 p with _ | _
 ·rcases h2:c2 p with _ | _
  ·rcases h3:c3 p with _ | _
   ·simp only [Bool.false_eq_true,↓reduceIte]
    unfold c1 c2 c3 at *
    refine V.GF (V.TCo (c:=false) (V.ESu (V.ELo n0 rfl) (V.ESl V.Pn (V.Pso V.EIn) V.Pn) V.Bst (V.ssa V.PtI.none (V.PtI.int _) (by kln_le) (by decide))) (V.ELo n1 rfl) (V.sne (by first | with_reducible assumption | rfl)) rfl) ?_
    refine V.GF (V.TBO (V.TOo (V.TCo (c:=false) (V.ESu (V.ELo n0 rfl) (V.ESl (V.Pso V.EIn) (V.Pso V.EIn) V.Pn) V.Bst (V.ssa (V.PtI.int _) (V.PtI.int _) (by kln_le) (by decide))) (V.ELo n1 rfl) (V.sne (by first | with_reducible assumption | rfl)) rfl) (V.TOo (V.TCo (c:=false) (V.ESu (V.ELo n0 rfl) (V.ESl (V.Pso V.EIn) (V.Pso V.EIn) V.Pn) V.Bst (V.ssa (V.PtI.int _) (V.PtI.int _) (by kln_le) (by decide))) (V.ELo n1 rfl) (V.s_eq (by first | with_reducible assumption | rfl)) rfl) V.Tn))) ?_
    exact V.Gre (V.ETu (V.Eco (V.ELo n2 rfl) (V.Eco (V.ESu (V.ELo n0 rfl) (V.ESl V.Pn (V.Pso V.EIn) V.Pn) V.Bst (V.ssa V.PtI.none (V.PtI.int _) (by kln_le) (by decide))) (V.Eco (V.ESu (V.ELo n0 rfl) (V.ESl (V.Pso V.EIn) V.Pn V.Pn) V.Bst (V.ssa (V.PtI.int _) V.PtI.none (by kln_le) (by decide))) V.En (fun u=>rfl)) (fun u=>rfl)) (fun u=>rfl)) (Nat.le_of_ble_eq_true rfl))
   ·simp only [Bool.false_eq_true,↓reduceIte]
    unfold c1 c2 c3 at *
    refine V.GF (V.TCo (c:=false) (V.ESu (V.ELo n0 rfl) (V.ESl V.Pn (V.Pso V.EIn) V.Pn) V.Bst (V.ssa V.PtI.none (V.PtI.int _) (by kln_le) (by decide))) (V.ELo n1 rfl) (V.sne (by first | with_reducible assumption | rfl)) rfl) ?_
    refine V.GoT (V.TBO (V.TOo (V.TCo (c:=false) (V.ESu (V.ELo n0 rfl) (V.ESl (V.Pso V.EIn) (V.Pso V.EIn) V.Pn) V.Bst (V.ssa (V.PtI.int _) (V.PtI.int _) (by kln_le) (by decide))) (V.ELo n1 rfl) (V.sne (by first | with_reducible assumption | rfl)) rfl) (V.TOs (V.TCo (c:=true) (V.ESu (V.ELo n0 rfl) (V.ESl (V.Pso V.EIn) (V.Pso V.EIn) V.Pn) V.Bst (V.ssa (V.PtI.int _) (V.PtI.int _) (by kln_le) (by decide))) (V.ELo n1 rfl) (V.s_eq (by first | with_reducible assumption | rfl)) rfl)))) ?_
    exact V.Gre (V.ETu (V.Eco (V.ELo n2 rfl) (V.Eco (V.ELo n1 rfl) (V.Eco (V.ESu (V.ELo n0 rfl) (V.ESl (V.Pso V.EIn) V.Pn V.Pn) V.Bst (V.ssa (V.PtI.int _) V.PtI.none (by kln_le) (by decide))) V.En (fun u=>rfl)) (fun u=>rfl)) (fun u=>rfl)) (Nat.le_of_ble_eq_true rfl))
  ·simp only [Bool.false_eq_true,↓reduceIte]
   unfold c1 c2 at *
   refine V.GF (V.TCo (c:=false) (V.ESu (V.ELo n0 rfl) (V.ESl V.Pn (V.Pso V.EIn) V.Pn) V.Bst (V.ssa V.PtI.none (V.PtI.int _) (by kln_le) (by decide))) (V.ELo n1 rfl) (V.sne (by first | with_reducible assumption | rfl)) rfl) ?_
   refine V.GoT (V.TBO (V.TOs (V.TCo (c:=true) (V.ESu (V.ELo n0 rfl) (V.ESl (V.Pso V.EIn) (V.Pso V.EIn) V.Pn) V.Bst (V.ssa (V.PtI.int _) (V.PtI.int _) (by kln_le) (by decide))) (V.ELo n1 rfl) (V.sne (by first | with_reducible assumption | rfl)) rfl))) ?_
   exact V.Gre (V.ETu (V.Eco (V.ELo n2 rfl) (V.Eco (V.ELo n1 rfl) (V.Eco (V.ESu (V.ELo n0 rfl) (V.ESl (V.Pso V.EIn) V.Pn V.Pn) V.Bst (V.ssa (V.PtI.int _) V.PtI.none (by kln_le) (by decide))) V.En (fun u=>rfl)) (fun u=>rfl)) (fun u=>rfl)) (Nat.le_of_ble_eq_true rfl))
 ·simp only [↓reduceIte]
  unfold c1 at *
  refine V.GoT (V.TCo (c:=true) (V.ESu (V.ELo n0 rfl) (V.ESl V.Pn (V.Pso V.EIn) V.Pn) V.Bst (V.ssa V.PtI.none (V.PtI.int _) (by kln_le) (by decide))) (V.ELo n1 rfl) (V.sne (by first | with_reducible assumption | rfl)) rfl) ?_
  exact V.Gre (V.ETu (V.Eco (V.ELo n2 rfl) (V.Eco (V.ELo n2 rfl) (V.Eco (V.ELo n0 rfl) V.En (fun u=>rfl)) (fun u=>rfl)) (fun u=>rfl)) (Nat.le_of_ble_eq_true rfl))
noncomputable def jo (a b:Str):Str:=if Txt.startswith b (Str.ofString "/")then b else if(a.length:Int) !=0 then(if Txt.endswith a (Str.ofString "/")then a++b else a++(Str.ofString "/"++b))else b
theorem cj {C:V.Cx} (h:Is C) {k:Nat} {σ:V.St} {a b:Str} (ha:V.B a 200) (hb:V.B b 200):V.Ca C (k+2) σ (.ext 252) [.str a,.str b] [] (.str (jo a b)) σ:=by
 have hx0:=h.hx
 refine V.Cna h.ok ⟨⟨_,_,_,by rw [h.K];exact rfl⟩,rfl,rfl,rfl,rfl,by rw [h.K];rfl,rfl,rfl,by decide+kernel⟩ [(Str.ofString "a",.local),(Str.ofString "p",.local),(Str.ofString "sep",.local),(Str.ofString "path",.local),(Str.ofString "b",.local),(Str.ofString "fspath",.globalImplicit),(Str.ofString "_get_sep",.globalImplicit),(Str.ofString "TypeError",.globalImplicit),(Str.ofString "AttributeError",.globalImplicit),(Str.ofString "BytesWarning",.globalImplicit),(Str.ofString "_check_arg_types",.globalImplicit)] rfl ([(Str.ofString "a",.str a)]++ [(Str.ofString "p",.tup [.str b])]) _
  (V.Br (as:= [.str a]) (rest:= [.str b]) (V.l1a fun x=>V.l1a fun y=>rfl) rfl (Nat.le_of_ble_eq_true rfl)) rfl rfl fun sc hF n hn=> ?_
 obtain⟨n0,n1,n2,n3,n4,n5,n6,n7,n8,n9,n10,_⟩:=hF
 refine V.ou ?_
 refine V.Gco (V.X1A (V.ECa (V.EGl h.ok n5 (gfs h)) (V.Eco (V.ELo n0 rfl) V.En (fun u=>rfl)) (KX h rfl) (cfs h) (fun u=>rfl) (fun u=>rfl)) (V.AL' n0 rfl) (fun u=>rfl) (fun u=>rfl) (fun u=>rfl)) ?_
 refine V.Gco (V.X1A (V.ECa (V.EGl h.ok n6 (ggs h)) (V.Eco (V.ELo n0 rfl) V.En (fun u=>rfl)) (KX h rfl) (cg h) (fun u=>rfl) (fun u=>rfl)) (V.AL' n2 rfl) (fun u=>rfl) (fun u=>rfl) (fun u=>rfl)) ?_
 refine V.Gco (V.X1A (V.ELo n0 rfl) (V.AL' n3 rfl) (fun u=>rfl) (fun u=>rfl) (fun u=>rfl)) ?_
 unfold jo
 rcases h1:Txt.startswith b (Str.ofString "/")with _ | _
 ·rcases h2:((a.length:Int) !=0)with _ | _
  ·simp only [Bool.false_eq_true,↓reduceIte]
   refine V.Gco (V.X1T (V.Eca (V.XF (f:= .next) (V.ELo n1 rfl) V.Itu trivial (V.Lr.cons trivial (V.AL' n4 rfl) (V.Eca (V.X1A (V.ECa (V.EGl h.ok n5 (gfs h)) (V.Eco (V.ELo n4 rfl) V.En (fun u=>rfl)) (KX h rfl) (cfs h) (fun u=>rfl) (fun u=>rfl)) (V.AL' n4 rfl) (fun u=>rfl) (fun u=>rfl) (fun u=>rfl)) (V.EIT (V.TBO (V.TOo (V.Tva (b:=false) (V.EMC (V.ELo n4 rfl) V.Ms (V.Eco (V.ELo n2 rfl) V.En (fun u=>rfl)) V.Kbi (V.Cst (by first | with_reducible assumption | rfl)) (fun u v=>rfl) (fun u=>rfl) rfl (fun u=>rfl)) V.btr (fun u v=>rfl)) (V.TOs (V.TNo (V.Tva (b:=false) (V.ELo n3 rfl) (V.sta (by kln_le) (by decide) (by first | with_reducible assumption | rfl)) (fun u v=>rfl)))))) (V.Eca (V.X1A (V.ELo n4 rfl) (V.AL' n3 rfl) (fun u=>rfl) (fun u=>rfl) (fun u=>rfl)) (V.Eni)))) (.inl rfl) (V.Lr.nil trivial)) (fun u v=>rfl)) (V.Eni))) ?_
   exact V.Gre (V.ELo n3 rfl)
  ·rcases h3:Txt.endswith a (Str.ofString "/")with _ | _
   ·simp only [Bool.false_eq_true,↓reduceIte]
    refine V.Gco (V.X1T (V.Eca (V.XF (f:= .next) (V.ELo n1 rfl) V.Itu trivial (V.Lr.cons trivial (V.AL' n4 rfl) (V.Eca (V.X1A (V.ECa (V.EGl h.ok n5 (gfs h)) (V.Eco (V.ELo n4 rfl) V.En (fun u=>rfl)) (KX h rfl) (cfs h) (fun u=>rfl) (fun u=>rfl)) (V.AL' n4 rfl) (fun u=>rfl) (fun u=>rfl) (fun u=>rfl)) (V.EIF (V.TBO (V.TOo (V.Tva (b:=false) (V.EMC (V.ELo n4 rfl) V.Ms (V.Eco (V.ELo n2 rfl) V.En (fun u=>rfl)) V.Kbi (V.Cst (by first | with_reducible assumption | rfl)) (fun u v=>rfl) (fun u=>rfl) rfl (fun u=>rfl)) V.btr (fun u v=>rfl)) (V.TOo (V.TNo (V.Tva (b:=true) (V.ELo n3 rfl) (V.sta (by kln_le) (by decide) (by first | with_reducible assumption | rfl)) (fun u v=>rfl))) V.Tn))) (V.EIF (V.Tva (b:=false) (V.EMC (V.ELo n3 rfl) V.Men (V.Eco (V.ELo n2 rfl) V.En (fun u=>rfl)) V.Kbi (V.Ce (by first | with_reducible assumption | rfl)) (fun u v=>rfl) (fun u=>rfl) rfl (fun u=>rfl)) V.btr (fun u v=>rfl)) (V.Eca (V.XAu n3 rfl (V.EBO (V.ELo n2 rfl) (V.ELo n4 rfl) (V.sa' (by kln_le) (by kln_le) (by decide))) (V.si' (by kln_le) (by kln_le) (by decide)) rfl) (V.Eni))))) (.inl rfl) (V.Lr.nil trivial)) (fun u v=>rfl)) (V.Eni))) ?_
    exact V.Gre (V.ELo n3 rfl)
   ·simp only [Bool.false_eq_true,↓reduceIte]
    refine V.Gco (V.X1T (V.Eca (V.XF (f:= .next) (V.ELo n1 rfl) V.Itu trivial (V.Lr.cons trivial (V.AL' n4 rfl) (V.Eca (V.X1A (V.ECa (V.EGl h.ok n5 (gfs h)) (V.Eco (V.ELo n4 rfl) V.En (fun u=>rfl)) (KX h rfl) (cfs h) (fun u=>rfl) (fun u=>rfl)) (V.AL' n4 rfl) (fun u=>rfl) (fun u=>rfl) (fun u=>rfl)) (V.EIF (V.TBO (V.TOo (V.Tva (b:=false) (V.EMC (V.ELo n4 rfl) V.Ms (V.Eco (V.ELo n2 rfl) V.En (fun u=>rfl)) V.Kbi (V.Cst (by first | with_reducible assumption | rfl)) (fun u v=>rfl) (fun u=>rfl) rfl (fun u=>rfl)) V.btr (fun u v=>rfl)) (V.TOo (V.TNo (V.Tva (b:=true) (V.ELo n3 rfl) (V.sta (by kln_le) (by decide) (by first | with_reducible assumption | rfl)) (fun u v=>rfl))) V.Tn))) (V.EIT (V.Tva (b:=true) (V.EMC (V.ELo n3 rfl) V.Men (V.Eco (V.ELo n2 rfl) V.En (fun u=>rfl)) V.Kbi (V.Ce (by first | with_reducible assumption | rfl)) (fun u v=>rfl) (fun u=>rfl) rfl (fun u=>rfl)) V.btr (fun u v=>rfl)) (V.Eca (V.XAu n3 rfl (V.ELo n4 rfl) (V.si' (by kln_le) (by kln_le) (by decide)) rfl) (V.Eni))))) (.inl rfl) (V.Lr.nil trivial)) (fun u v=>rfl)) (V.Eni))) ?_
    exact V.Gre (V.ELo n3 rfl)
 ·simp only [↓reduceIte]
  refine V.Gco (V.X1T (V.Eca (V.XF (f:= .next) (V.ELo n1 rfl) V.Itu trivial (V.Lr.cons trivial (V.AL' n4 rfl) (V.Eca (V.X1A (V.ECa (V.EGl h.ok n5 (gfs h)) (V.Eco (V.ELo n4 rfl) V.En (fun u=>rfl)) (KX h rfl) (cfs h) (fun u=>rfl) (fun u=>rfl)) (V.AL' n4 rfl) (fun u=>rfl) (fun u=>rfl) (fun u=>rfl)) (V.EIT (V.TBO (V.TOs (V.Tva (b:=true) (V.EMC (V.ELo n4 rfl) V.Ms (V.Eco (V.ELo n2 rfl) V.En (fun u=>rfl)) V.Kbi (V.Cst (by first | with_reducible assumption | rfl)) (fun u v=>rfl) (fun u=>rfl) rfl (fun u=>rfl)) V.btr (fun u v=>rfl)))) (V.Eca (V.X1A (V.ELo n4 rfl) (V.AL' n3 rfl) (fun u=>rfl) (fun u=>rfl) (fun u=>rfl)) (V.Eni)))) (.inl rfl) (V.Lr.nil trivial)) (fun u v=>rfl)) (V.Eni))) ?_
  exact V.Gre (V.ELo n3 rfl)
end L2
end
section
namespace L2
open Builtin Builtin.Str
local macro_rules | `(tactic| kln_le)=> `(tactic| first
 | (with_reducible assumption)
 | ((with_reducible apply V.Bc)<;>kln_le)
 | ((with_reducible apply V.Bs);kln_le)
 | ((with_reducible apply V.B_rstrip);kln_le)
 | ((with_reducible apply V.Bm)<;>first | kln_le | omega)
 | ((with_reducible apply V.Bl (x:=Str.ofString _));rfl))
noncomputable def noL (p:Str):Str:=V.normp p
theorem hsp {C:V.Cx} (h:Is C) {k:Nat} {σ:V.St} {p:Str} (hp:V.B p 400) (h1:c1 p=false) (h2:c2 p=true):V.Ca C (k+2) σ (.ext 259) [.str p] [] (.tup [.str (Str.ofString ""),.str (Str.ofString "/"),.str (Txt.slice p (some 1) none)]) σ:=by
 have:=csp h (k:=k) (σ:=σ) hp
 unfold spr at this
 simpa only [h1,h2,Bool.false_eq_true,↓reduceIte]using this
theorem sln {y:Str}:(((Str.ofString "/"++y).length:Int) !=0)=true:=by
 rw [size_cat]
 have:(Str.ofString "/").length=1:=by rfl
 rw [bne_iff_ne];omega
theorem cna {C:V.Cx} (h:Is C) {k:Nat} {σ:V.St} {p:Str} (hp:V.B p 400) (h0:((p.length:Int) !=0)=true) (h1:c1 p=false) (h2:c2 p=true):V.Ca C (k+3) σ (.ext 273) [.str p] [] (.str (noL p)) σ:=by
 have hx0:=h.hx
 refine V.Cna h.ok ⟨⟨_,_,_,by rw [h.K];exact rfl⟩,rfl,rfl,rfl,rfl,by rw [h.K];rfl,rfl,rfl,by decide+kernel⟩ [(Str.ofString "path",.local),(Str.ofString "sep",.local),(Str.ofString "dot",.local),(Str.ofString "dotdot",.local),(Str.ofString "_",.local),(Str.ofString "initial_slashes",.local),(Str.ofString "comps",.local),(Str.ofString "new_comps",.local),(Str.ofString "comp",.local),(Str.ofString "fspath",.globalImplicit),(Str.ofString "isinstance",.globalImplicit),(Str.ofString "bytes",.globalImplicit),(Str.ofString "splitroot",.globalImplicit)] rfl [(Str.ofString "path",.str p)] _
  (V.Bp (V.l1a fun a0=>rfl) rfl) rfl rfl fun sc hF n hn=> ?_
 obtain⟨n0,n1,n2,n3,n4,n5,n6,n7,n8,n9,n10,n11,n12,_⟩:=hF
 have hl:σ ⟨n,Str.empty⟩=none:=hn _ (Nat.le_refl _)
 have hs:=V.split_len (y:=Str.ofString "/") (V.Bs (l:=some 1) (u:=none) hp)
 have hf:=V.nsu (Txt.split (Txt.slice p (some 1) none) (Str.ofString "/")) []
 have hf1:((Txt.split (Txt.slice p (some 1) none) (Str.ofString "/")).foldl V.nst []).length≤1000:=by have:=hf.1;simp only [List.length_nil]at this;omega
 have hf2: ∀y∈(Txt.split (Txt.slice p (some 1) none) (Str.ofString "/")).foldl V.nst [],y.length≤1000:=fun y hy=>by
  rcases hf.2 y hy with z | z
  ·cases z
  ·have:=hs.2 y z;omega
 have hfb:=V.Bj (x:=Str.ofString "/") (by decide) hf2 hf1
 refine V.odr (l:=⟨n,Str.empty⟩) (o:= .list (((Txt.split (Txt.slice p (some 1) none) (Str.ofString "/")).foldl V.nst []).map .str)) hl V.Pst ?_
 refine V.Gco (V.X1A (V.ECa (V.EGl h.ok n9 (gfs h)) (V.Eco (V.ELo n0 rfl) V.En (fun v=>rfl)) (KX h rfl) (cfs h) (fun v=>rfl) (fun v=>rfl)) (V.AL' n0 rfl) (fun v=>rfl) (fun v=>rfl) (fun v=>rfl)) ?_
 refine V.GF (V.Tva (b:=false) (V.ECa (V.EGl h.ok n10 (gis h)) (V.Eco (V.ELo n0 rfl) (V.Eco (V.EGl h.ok n11 (gb h)) V.En (fun v=>rfl)) (fun v=>rfl)) V.Kbi V.Ci (fun v=>rfl) (fun v=>rfl)) V.btr (fun v w=>rfl)) ?_
 refine V.Gco (V.X1A V.ESt (V.AL' n1 rfl) (fun v=>rfl) (fun v=>rfl) (fun v=>rfl)) ?_
 refine V.Gco (V.X1A V.ESt (V.AL' n2 rfl) (fun v=>rfl) (fun v=>rfl) (fun v=>rfl)) ?_
 refine V.Gco (V.X1A V.ESt (V.AL' n3 rfl) (fun v=>rfl) (fun v=>rfl) (fun v=>rfl)) ?_
 refine V.GF (V.TNo (V.Tva (b:=true) (V.ELo n0 rfl) (V.sta (by kln_le) (by decide) (by first | with_reducible assumption | rfl)) (fun v w=>rfl))) ?_
 refine V.Gco (V.X1A (V.ECa (V.EGl h.ok n12 (gsp h)) (V.Eco (V.ELo n0 rfl) V.En (fun v=>rfl)) (KX h rfl) (hsp h hp h1 h2) (fun v=>rfl) (fun v=>rfl)) (V.ATu (V.Ac (V.AL' n4 rfl) (V.Ac (V.AL' n5 rfl) (V.Ac (V.AL' n0 rfl) V.An (fun v=>rfl)) (fun v=>rfl)) (fun v=>rfl)) rfl (fun v=>rfl) (fun v=>rfl)) (fun v=>rfl) (fun v=>rfl) (fun v=>rfl)) ?_
 refine V.Gco (V.X1A (V.EMC (V.ELo n0 rfl) V.Msp (V.Eco (V.ELo n1 rfl) V.En (fun v=>rfl)) V.Kbi (V.Csp rfl (by kln_le) (by decide) (V.pfi (by kln_le) (by decide)) rfl) (fun v w=>rfl) (fun v=>rfl) rfl (fun v=>rfl)) (V.AL' n6 rfl) (fun v=>rfl) (fun v=>rfl) (fun v=>rfl)) ?_
 refine V.Gco (V.X1A (V.ELi ⟨n,Str.empty⟩ V.En (Nat.zero_le _) hl) (V.AL' n7 rfl) (fun v=>rfl) (fun v=>rfl) (fun v=>rfl)) ?_
 have turns:=fun(tgt:Expr) (body:List Stmt) hturn=>V.Lf (C:=C) (k:=k+2) (sc:=sc) (ok:=fun σ'=>V.IsL σ' (.lst ((Txt.split (Txt.slice p (some 1) none) (Str.ofString "/")).map .str)) ((Txt.split (Txt.slice p (some 1) none) (Str.ofString "/")).map .str)) (tgt:=tgt) (body:=body) (enc:=V.AV.str)
  (M:=fun(a:List Str×Option V.AV)=> [some (.str (Txt.slice p (some 1) none)),some (.str (Str.ofString "/")),some (.str (Str.ofString ".")),some (.str (Str.ofString "..")),some (.str (Str.ofString "")),some (.str (Str.ofString "/")),some (.lst ((Txt.split (Txt.slice p (some 1) none) (Str.ofString "/")).map .str)),some (.loc ⟨n,Str.empty⟩),a.2,none,none,none,none])
  (Sg:=fun a=>σ.set ⟨n,Str.empty⟩ (.list (a.1.map .str))) (step:=fun a c=>(V.nst a.1 c,some (.str c))) (P:=fun a xs=>a.1.length+xs.length≤1000∧ ∀y∈xs,V.B y 400)
  (fun v w g=> .lst _) (fun a x xs hP=>by
   refine⟨?_,fun y hy=>hP.2 y (.tail _ hy)⟩
   have h8:=(V.nsa a.1 x).1
   have h9:=hP.1
   rw [List.length_cons]at h9
   show(V.nst a.1 x).length+_≤_
   omega) hturn (Txt.split (Txt.slice p (some 1) none) (Str.ofString "/")) ([],none) ⟨by have:=hs.1;simp only [List.length_nil];omega,fun y hy=>hs.2 y hy⟩
 refine V.GFo (V.ELo n6 rfl) V.Il (.lst _) (turns _ _ ?_) (fun v w=>rfl) ?_
 ·rintro ⟨acc,o⟩ c xs hP
  obtain⟨hP,hB⟩:=hP
  have hP:acc.length+(c::xs).length≤1000:=hP
  rw [List.length_cons]at hP
  have hc:V.B c 400:=hB c (.head _)
  have hz:(acc.map V.AV.str).length≤1000:=by rw [List.length_map];omega
  have line: ∀{n:Nat},n≤1000→n≤sizeLine:=fun h=>V.lof h (by decide)
  change V.Turn _ _ _ _ _ (.str c) [_,_,_,_,_,_,_,_,o,none,none,none,none] (σ.set ⟨n,Str.empty⟩ (.list (acc.map V.AV.str))) [_,_,_,_,_,_,_,_,some (.str c),none,none,none,none] (σ.set ⟨n,Str.empty⟩ (.list ((V.nst acc c).map V.AV.str)))
  rcases q1:((c.length:Int) !=0)with _ | _
  ·have e:V.nst acc c=acc:=by unfold V.nst;rw [if_pos q1]
   rw [e]
   refine V.Tco (V.AL' n8 rfl) ?_
   refine V.EIT (V.TBO (V.TOs (V.TNo (V.Tva (b:=false) (V.ELo n8 rfl) (V.sta (by kln_le) (by decide) (by first | with_reducible assumption | rfl)) (fun v w=>rfl))))) ?_
   exact V.Ecb
  rcases q2:(c==Str.ofString ".")with _ | _
  rotate_left
  ·have e:V.nst acc c=acc:=by unfold V.nst;rw [if_neg (by rw [q1];decide),if_pos q2]
   rw [e]
   refine V.Tco (V.AL' n8 rfl) ?_
   refine V.EIT (V.TBO (V.TOo (V.TNo (V.Tva (b:=true) (V.ELo n8 rfl) (V.sta (by kln_le) (by decide) (by first | with_reducible assumption | rfl)) (fun v w=>rfl))) (V.TOs (V.TCo (c:=true) (V.ELo n8 rfl) (V.ELo n2 rfl) (V.s_eq (by first | with_reducible assumption | rfl)) rfl)))) ?_
   exact V.Ecb
  rcases q3:(c !=Str.ofString "..")with _ | _
  rotate_left
  ·have e:V.nst acc c=acc++ [c]:=by unfold V.nst;rw [if_neg (by rw [q1];decide),if_neg (by rw [q2];decide),if_pos q3]
   rw [e]
   simp only [List.map_append,List.map_cons,List.map_nil]
   refine V.Tu (V.AL' n8 rfl) ?_
   refine V.EIF (V.TBO (V.TOo (V.TNo (V.Tva (b:=true) (V.ELo n8 rfl) (V.sta (by kln_le) (by decide) (by first | with_reducible assumption | rfl)) (fun v w=>rfl))) (V.TOo (V.TCo (c:=false) (V.ELo n8 rfl) (V.ELo n2 rfl) (V.s_eq (by first | with_reducible assumption | rfl)) rfl) V.Tn))) ?_
   refine V.EIT (V.TBO (V.TOs (V.TCo (c:=true) (V.ELo n8 rfl) (V.ELo n3 rfl) (V.sne (by first | with_reducible assumption | rfl)) rfl))) ?_
   refine V.Eca (V.X1E (V.EMC (V.ELo n7 rfl) V.Ma (V.Eco (V.ELo n8 rfl) V.En (fun v=>rfl)) V.Kbi (V.Ca' (line (by simp at hz hP⊢ <;>omega))) (fun v w=>rfl) (fun v=>rfl) rfl (fun v=>rfl)) (fun v w=>rfl)) ?_
   exact V.Eni
  have q4:(((Str.ofString "/").length:Int) !=0)=true:=by rfl
  have eqc:acc= []∨ ∃L l0,acc=L++ [l0]:=by
   by_cases hne:acc= []
   ·exact .inl hne
   ·exact .inr ⟨acc.dropLast,acc.getLast hne,(List.dropLast_concat_getLast hne).symm⟩
  rcases eqc with rfl | ⟨L,l0,rfl⟩
  ·have e:V.nst [] c= []:=by unfold V.nst;rw [if_neg (by rw [q1];decide),if_neg (by rw [q2];decide),if_neg (by rw [q3];decide),if_pos (show([]:List Str).isEmpty=true from rfl)]
   rw [e]
   refine V.Tu (V.AL' n8 rfl) ?_
   refine V.EIF (V.TBO (V.TOo (V.TNo (V.Tva (b:=true) (V.ELo n8 rfl) (V.sta (by kln_le) (by decide) (by first | with_reducible assumption | rfl)) (fun v w=>rfl))) (V.TOo (V.TCo (c:=false) (V.ELo n8 rfl) (V.ELo n2 rfl) (V.s_eq (by first | with_reducible assumption | rfl)) rfl) V.Tn))) ?_
   refine V.EIF (V.TBO (V.TOo (V.TCo (c:=false) (V.ELo n8 rfl) (V.ELo n3 rfl) (V.sne (by first | with_reducible assumption | rfl)) rfl) (V.TOo (V.TBO (V.TAs (V.TNo (V.Tva (b:=true) (V.ELo n5 rfl) (V.sta (by kln_le) (by decide) (by first | with_reducible assumption | rfl)) (fun v w=>rfl))))) (V.TOo (V.TBO (V.TAs (V.Tva (b:=false) (V.ELo n7 rfl) (V.Lt' (line (by simp at hz hP⊢ <;>omega)) (by first | with_reducible assumption | rfl)) (fun v w=>rfl)))) V.Tn)))) ?_
   refine V.EIF (V.Tva (b:=false) (V.ELo n7 rfl) (V.Lt' (line (by simp at hz hP⊢ <;>omega)) (by first | with_reducible assumption | rfl)) (fun v w=>rfl)) ?_
   exact V.Eni
  have em:(L++ [l0]).isEmpty=false:=by simp
  have em2:(!(L.map V.AV.str++ [V.AV.str l0]).isEmpty)=true:=by simp
  have gl:((L++ [l0]).getLast?.getD Str.empty)=l0:=by simp
  rcases q5:(l0==Str.ofString "..")with _ | _
  ·have e:V.nst (L++ [l0]) c=L:=by
    unfold V.nst
    rw [if_neg (by rw [q1];decide),if_neg (by rw [q2];decide),if_neg (by rw [q3];decide),if_neg (by rw [em];decide),gl,if_neg (by rw [q5];decide),List.dropLast_concat]
   rw [e]
   simp only [List.map_append,List.map_cons,List.map_nil]
   refine V.Tu (V.AL' n8 rfl) ?_
   refine V.EIF (V.TBO (V.TOo (V.TNo (V.Tva (b:=true) (V.ELo n8 rfl) (V.sta (by kln_le) (by decide) (by first | with_reducible assumption | rfl)) (fun v w=>rfl))) (V.TOo (V.TCo (c:=false) (V.ELo n8 rfl) (V.ELo n2 rfl) (V.s_eq (by first | with_reducible assumption | rfl)) rfl) V.Tn))) ?_
   refine V.EIF (V.TBO (V.TOo (V.TCo (c:=false) (V.ELo n8 rfl) (V.ELo n3 rfl) (V.sne (by first | with_reducible assumption | rfl)) rfl) (V.TOo (V.TBO (V.TAs (V.TNo (V.Tva (b:=true) (V.ELo n5 rfl) (V.sta (by kln_le) (by decide) (by first | with_reducible assumption | rfl)) (fun v w=>rfl))))) (V.TOo (V.TBO (V.TAo (V.Tva (b:=true) (V.ELo n7 rfl) (V.Lt' (line (by simp at hz hP⊢ <;>omega)) (by first | with_reducible assumption | rfl)) (fun v w=>rfl)) (V.TAs (V.TCo (c:=false) (V.ESu (V.ELo n7 rfl) (V.EUO V.EIn V.ina) (V.BL (.loc V.set_same)) (V.LiN (x:= .str l0) (by decide) (by simp<;>omega) (by decide) V.lai)) (V.ELo n3 rfl) (V.s_eq (by first | with_reducible assumption | rfl)) rfl)))) V.Tn)))) ?_
   refine V.EIT (V.Tva (b:=true) (V.ELo n7 rfl) (V.Lt' (line (by simp at hz hP⊢ <;>omega)) (by first | with_reducible assumption | rfl)) (fun v w=>rfl)) ?_
   refine V.Eca (V.X1E (V.EMC (V.ELo n7 rfl) V.Mp' V.En V.Kbi (V.Cp' (line (by simp at hz hP⊢ <;>omega))) (fun v w=>rfl) (fun v=>rfl) rfl (fun v=>rfl)) (fun v w=>rfl)) ?_
   exact V.Eni
  ·have e:V.nst (L++ [l0]) c=L++ [l0]++ [c]:=by
    unfold V.nst
    rw [if_neg (by rw [q1];decide),if_neg (by rw [q2];decide),if_neg (by rw [q3];decide),if_neg (by rw [em];decide),gl,if_pos q5]
   rw [e]
   simp only [List.map_append,List.map_cons,List.map_nil]
   refine V.Tu (V.AL' n8 rfl) ?_
   refine V.EIF (V.TBO (V.TOo (V.TNo (V.Tva (b:=true) (V.ELo n8 rfl) (V.sta (by kln_le) (by decide) (by first | with_reducible assumption | rfl)) (fun v w=>rfl))) (V.TOo (V.TCo (c:=false) (V.ELo n8 rfl) (V.ELo n2 rfl) (V.s_eq (by first | with_reducible assumption | rfl)) rfl) V.Tn))) ?_
   refine V.EIT (V.TBO (V.TOo (V.TCo (c:=false) (V.ELo n8 rfl) (V.ELo n3 rfl) (V.sne (by first | with_reducible assumption | rfl)) rfl) (V.TOo (V.TBO (V.TAs (V.TNo (V.Tva (b:=true) (V.ELo n5 rfl) (V.sta (by kln_le) (by decide) (by first | with_reducible assumption | rfl)) (fun v w=>rfl))))) (V.TOs (V.TBO (V.TAo (V.Tva (b:=true) (V.ELo n7 rfl) (V.Lt' (line (by simp at hz hP⊢ <;>omega)) (by first | with_reducible assumption | rfl)) (fun v w=>rfl)) (V.TAo (V.TCo (c:=true) (V.ESu (V.ELo n7 rfl) (V.EUO V.EIn V.ina) (V.BL (.loc V.set_same)) (V.LiN (x:= .str l0) (by decide) (by simp<;>omega) (by decide) V.lai)) (V.ELo n3 rfl) (V.s_eq (by first | with_reducible assumption | rfl)) rfl) V.TAn))))))) ?_
   refine V.Eca (V.X1E (V.EMC (V.ELo n7 rfl) V.Ma (V.Eco (V.ELo n8 rfl) V.En (fun v=>rfl)) V.Kbi (V.Ca' (line (by simp at hz hP⊢ <;>omega))) (fun v w=>rfl) (fun v=>rfl) rfl (fun v=>rfl)) (fun v w=>rfl)) ?_
   exact V.Eni
 ·have pr: ∀(xs:List Str) (a:List Str×Option V.AV),(xs.foldl (fun a c=>(V.nst a.1 c,some (V.AV.str c))) a).1=xs.foldl V.nst a.1:=by
   intro xs
   induction xs with
   | nil=>intro a;rfl
   | cons x xs ih=>intro a;exact ih _
  rw [pr]
  have hbn:V.B (noL p) 1100001:=V.Bc (V.Bl rfl) hfb
  have hne:(((noL p).length:Int) !=0)=true:=sln
  refine V.Gco (V.X1A (V.ELo n7 rfl) (V.AL' n6 rfl) (fun v=>rfl) (fun v=>rfl) (fun v=>rfl)) ?_
  refine V.Gco (V.X1A (V.EBO (V.ELo n5 rfl) (V.EMC (V.ELo n1 rfl) V.Mj (V.Eco (V.ELo n6 rfl) V.En (fun v=>rfl)) V.Kbi (V.Cj (.loc V.set_same) (V.Jo (by decide) hf2 hf1)) (fun v w=>rfl) (fun v=>rfl) rfl (fun v=>rfl)) (V.sa' (by kln_le) (by kln_le) (by decide))) (V.AL' n0 rfl) (fun v=>rfl) (fun v=>rfl) (fun v=>rfl)) ?_
  exact V.Gre (V.EOp (V.Bo (V.ELo n0 rfl) (V.sta (by kln_le) (by decide) (by first | with_reducible assumption | rfl))))
end L2
end
section
namespace L2
open Builtin Builtin.Str
local macro_rules | `(tactic| kln_le)=> `(tactic| first
 | (with_reducible assumption)
 | ((with_reducible apply V.Bc)<;>kln_le)
 | ((with_reducible apply V.Bs);kln_le)
 | ((with_reducible apply V.Bm)<;>first | kln_le | omega)
 | ((with_reducible apply V.Bl (x:=Str.ofString _));rfl))
theorem csN {C:V.Cx} (h:Is C) {k:Nat} {σ:V.St} {x:Str} (hok:x.cps.all V.okC=true) (hx:x.length≤1000000):V.Ca C k σ (.bi "re.Pattern.search") [.ext 283,.str x] [] .none σ:=
 V.Cse h.ok (ct:=282) (code:=V.codeN) (by rw [h.K];exact rfl) (by rw [h.K];exact rfl) (by exact rfl) (by exact rfl) (by exact rfl) (by kernel_rfl) V.setN rfl rfl hok hx
theorem msN {C:V.Cx} (h:Is C) {k:Nat} {σ:V.St}:V.Mt C k σ (.ext 283) (Str.ofString "search") (.bi "re.Pattern.search"):=V.Mse h.ok (by rw [h.K];exact rfl)
theorem cV {C:V.Cx} (h:Is C) {k:Nat} {σ:V.St} {x:Str} (hok:x.cps.all V.okC=true) (hx:x.length≤1000000):V.Ca C k σ (.bi "re.Pattern.search") [.ext 288,.str x] [] .none σ:=
 V.Cse h.ok (ct:=287) (code:=V.codeV) (by rw [h.K];exact rfl) (by rw [h.K];exact rfl) (by exact rfl) (by exact rfl) (by exact rfl) (by kernel_rfl) V.setV rfl rfl hok hx
theorem mV {C:V.Cx} (h:Is C) {k:Nat} {σ:V.St}:V.Mt C k σ (.ext 288) (Str.ofString "search") (.bi "re.Pattern.search"):=V.Mse h.ok (by rw [h.K];exact rfl)
theorem cco {C:V.Cx} (h:Is C) {k:Nat} {σ:V.St} {sv:V.AV} {x:Str} {b:Bool} (hx:x.length≤1000000) (hok:x.cps.all V.okC=true):V.Ca C (k+1) σ (.ext 318) [sv,.str x] [(Str.ofString "name",.bool b)] (.str x) σ:=by
 have hx0:=h.hx
 refine V.Cna h.ok ⟨⟨_,_,_,by rw [h.K];exact rfl⟩,rfl,rfl,rfl,rfl,by rw [h.K];rfl,rfl,rfl,by decide+kernel⟩ [(Str.ofString "self",.local),(Str.ofString "value",.local),(Str.ofString "name",.local),(Str.ofString "regex",.local),(Str.ofString "type",.globalImplicit),(Str.ofString "str",.globalImplicit),(Str.ofString "_name_disallowed_re",.globalImplicit),(Str.ofString "_value_disallowed_re",.globalImplicit),(Str.ofString "ValueError",.globalImplicit),(Str.ofString "AssertionError",.globalImplicit),(Str.ofString "repr",.globalImplicit)] rfl [(Str.ofString "self",sv),(Str.ofString "value",.str x),(Str.ofString "name",.bool b)] σ
  (V.Bk1 (fun a0 a1 a2=>by kernel_rfl)) rfl rfl fun sc hF n hn=> ?_
 obtain⟨n0,n1,n2,n3,n4,n5,n6,n7,n8,n9,n10,_⟩:=hF
 refine V.ou ?_
 cases b
 ·skip
  refine V.GoT (V.TCo (c:=true) (V.ECa (V.EGl h.ok n4 (gty h)) (V.Eco (V.ELo n1 rfl) V.En (fun u=>rfl)) V.Kty (V.Cty V.Tst.at (by decide)) (fun u=>rfl) (fun u=>rfl)) (V.EGl h.ok n5 (gst h)) (V.tis rfl rfl) rfl) ?_
  refine V.Gco (V.X1A (V.EEx (V.Tva (b:=false) (V.ELo n2 rfl) V.btr (fun u v=>rfl)) (V.EGl h.ok n7 (gvd h))) (V.AL' n3 rfl) (fun u=>rfl) (fun u=>rfl) (fun u=>rfl)) ?_
  refine V.GF (V.Tva (b:=false) (V.EMC (V.ELo n3 rfl) (mV h) (V.Eco (V.ELo n1 rfl) V.En (fun u=>rfl)) V.Kbi (cV h (by assumption) (by assumption)) (fun u v=>rfl) (fun u=>rfl) rfl (fun u=>rfl)) V.ntr (fun u v=>rfl)) ?_
  exact V.Gre (V.ELo n1 rfl)
 ·skip
  refine V.GoT (V.TCo (c:=true) (V.ECa (V.EGl h.ok n4 (gty h)) (V.Eco (V.ELo n1 rfl) V.En (fun u=>rfl)) V.Kty (V.Cty V.Tst.at (by decide)) (fun u=>rfl) (fun u=>rfl)) (V.EGl h.ok n5 (gst h)) (V.tis rfl rfl) rfl) ?_
  refine V.Gco (V.X1A (V.EEx (V.Tva (b:=true) (V.ELo n2 rfl) V.btr (fun u v=>rfl)) (V.EGl h.ok n6 (gre h))) (V.AL' n3 rfl) (fun u=>rfl) (fun u=>rfl) (fun u=>rfl)) ?_
  refine V.GF (V.Tva (b:=false) (V.EMC (V.ELo n3 rfl) (msN h) (V.Eco (V.ELo n1 rfl) V.En (fun u=>rfl)) V.Kbi (csN h (by assumption) (by assumption)) (fun u v=>rfl) (fun u=>rfl) rfl (fun u=>rfl)) V.ntr (fun u v=>rfl)) ?_
  exact V.Gre (V.ELo n1 rfl)
end L2
end
section
namespace L2
open Builtin Builtin.Str
local macro_rules | `(tactic| kln_le)=> `(tactic| first
 | (with_reducible assumption)
 | ((with_reducible apply V.Bc)<;>kln_le)
 | ((with_reducible apply V.Bs);kln_le)
 | ((with_reducible apply V.Bm)<;>first | kln_le | omega)
 | ((with_reducible apply V.Bl (x:=Str.ofString _));rfl))
theorem e72 {C:V.Cx} (h:Is C):V.ExcAt C.K 72 [.type "ValueError",.type "Exception",.type "BaseException",.type "object"] "ValueError.__new__":=by
 rw [h.K]
 exact⟨_,71,_,_,_,_,_,_,_,_,_,_,_,_,_,_,rfl,by kernel_rfl,by kernel_rfl,by kernel_rfl⟩
theorem an2 {C:V.Cx} (h:Is C) {k:Nat} {σ:V.St} {l d:V.Loc} {v0 v1 v2 v3:V.AV} (hl:σ l=some (.inst 154 d)) (hd:σ d=some (.dict [(Str.ofString "_node2info",v0),(Str.ofString "_ready_nodes",v1),(Str.ofString "_npassedout",v2),(Str.ofString "_nfinished",v3)])) (hv: ∀id,v0≠ .bi id) (ha:v0≠ .any):
  V.Op1 C k σ (fun x=>getAttr x (Str.ofString "_node2info") true) (.loc l) (fun W r=>V.VR W v0 r) σ:=by
 refine V.Oa h.ok hl hd (i:=0) (by rw [h.K];kernel_rfl) rfl ?_ hv ha
 intro xs n r
 revert xs
 refine V.le4 ?_
 intro x0 x1 x2 x3 hr
 obtain rfl:x0.2=r:=Option.some.inj hr;rw [h.K];kernel_rfl
theorem arn {C:V.Cx} (h:Is C) {k:Nat} {σ:V.St} {l d:V.Loc} {v0 v1 v2 v3:V.AV} (hl:σ l=some (.inst 154 d)) (hd:σ d=some (.dict [(Str.ofString "_node2info",v0),(Str.ofString "_ready_nodes",v1),(Str.ofString "_npassedout",v2),(Str.ofString "_nfinished",v3)])) (hv: ∀id,v1≠ .bi id) (ha:v1≠ .any):
  V.Op1 C k σ (fun x=>getAttr x (Str.ofString "_ready_nodes") true) (.loc l) (fun W r=>V.VR W v1 r) σ:=by
 refine V.Oa h.ok hl hd (i:=1) (by rw [h.K];kernel_rfl) rfl ?_ hv ha
 intro xs n r
 revert xs
 refine V.le4 ?_
 intro x0 x1 x2 x3 hr
 obtain rfl:x1.2=r:=Option.some.inj hr;rw [h.K];kernel_rfl
theorem anp {C:V.Cx} (h:Is C) {k:Nat} {σ:V.St} {l d:V.Loc} {v0 v1 v2 v3:V.AV} (hl:σ l=some (.inst 154 d)) (hd:σ d=some (.dict [(Str.ofString "_node2info",v0),(Str.ofString "_ready_nodes",v1),(Str.ofString "_npassedout",v2),(Str.ofString "_nfinished",v3)])) (hv: ∀id,v2≠ .bi id) (ha:v2≠ .any):
  V.Op1 C k σ (fun x=>getAttr x (Str.ofString "_npassedout") true) (.loc l) (fun W r=>V.VR W v2 r) σ:=by
 refine V.Oa h.ok hl hd (i:=2) (by rw [h.K];kernel_rfl) rfl ?_ hv ha
 intro xs n r
 revert xs
 refine V.le4 ?_
 intro x0 x1 x2 x3 hr
 obtain rfl:x2.2=r:=Option.some.inj hr;rw [h.K];kernel_rfl
theorem anf {C:V.Cx} (h:Is C) {k:Nat} {σ:V.St} {l d:V.Loc} {v0 v1 v2 v3:V.AV} (hl:σ l=some (.inst 154 d)) (hd:σ d=some (.dict [(Str.ofString "_node2info",v0),(Str.ofString "_ready_nodes",v1),(Str.ofString "_npassedout",v2),(Str.ofString "_nfinished",v3)])) (hv: ∀id,v3≠ .bi id) (ha:v3≠ .any):
  V.Op1 C k σ (fun x=>getAttr x (Str.ofString "_nfinished") true) (.loc l) (fun W r=>V.VR W v3 r) σ:=by
 refine V.Oa h.ok hl hd (i:=3) (by rw [h.K];kernel_rfl) rfl ?_ hv ha
 intro xs n r
 revert xs
 refine V.le4 ?_
 intro x0 x1 x2 x3 hr
 obtain rfl:x3.2=r:=Option.some.inj hr;rw [h.K];kernel_rfl
theorem srn {C:V.Cx} (h:Is C) {k:Nat} {σ:V.St} {l d:V.Loc} {v0 v1 v2 v3 v:V.AV} (hl:σ l=some (.inst 154 d)) (hd:σ d=some (.dict [(Str.ofString "_node2info",v0),(Str.ofString "_ready_nodes",v1),(Str.ofString "_npassedout",v2),(Str.ofString "_nfinished",v3)])):
  V.Op2 C k σ (fun x y=>setAttr x (Str.ofString "_ready_nodes") y) (.loc l) v (fun u w=>True) (σ.set d (.dict [(Str.ofString "_node2info",v0),(Str.ofString "_ready_nodes",v),(Str.ofString "_npassedout",v2),(Str.ofString "_nfinished",v3)])):=by
 exact V.OD h.ok hl hd (by rw [h.K];kernel_rfl) (by rw [h.K];kernel_rfl) (by rw [h.K];kernel_rfl) (by rw [h.K];kernel_rfl) (by kernel_rfl) (Nat.le_of_ble_eq_true rfl)
theorem snp {C:V.Cx} (h:Is C) {k:Nat} {σ:V.St} {l d:V.Loc} {v0 v1 v2 v3 v:V.AV} (hl:σ l=some (.inst 154 d)) (hd:σ d=some (.dict [(Str.ofString "_node2info",v0),(Str.ofString "_ready_nodes",v1),(Str.ofString "_npassedout",v2),(Str.ofString "_nfinished",v3)])):
  V.Op2 C k σ (fun x y=>setAttr x (Str.ofString "_npassedout") y) (.loc l) v (fun u w=>True) (σ.set d (.dict [(Str.ofString "_node2info",v0),(Str.ofString "_ready_nodes",v1),(Str.ofString "_npassedout",v),(Str.ofString "_nfinished",v3)])):=by
 exact V.OD h.ok hl hd (by rw [h.K];kernel_rfl) (by rw [h.K];kernel_rfl) (by rw [h.K];kernel_rfl) (by rw [h.K];kernel_rfl) (by kernel_rfl) (Nat.le_of_ble_eq_true rfl)
theorem snf {C:V.Cx} (h:Is C) {k:Nat} {σ:V.St} {l d:V.Loc} {v0 v1 v2 v3 v:V.AV} (hl:σ l=some (.inst 154 d)) (hd:σ d=some (.dict [(Str.ofString "_node2info",v0),(Str.ofString "_ready_nodes",v1),(Str.ofString "_npassedout",v2),(Str.ofString "_nfinished",v3)])):
  V.Op2 C k σ (fun x y=>setAttr x (Str.ofString "_nfinished") y) (.loc l) v (fun u w=>True) (σ.set d (.dict [(Str.ofString "_node2info",v0),(Str.ofString "_ready_nodes",v1),(Str.ofString "_npassedout",v2),(Str.ofString "_nfinished",v)])):=by
 exact V.OD h.ok hl hd (by rw [h.K];kernel_rfl) (by rw [h.K];kernel_rfl) (by rw [h.K];kernel_rfl) (by rw [h.K];kernel_rfl) (by kernel_rfl) (Nat.le_of_ble_eq_true rfl)
theorem in2 {C:V.Cx} (h:Is C) {k:Nat} {σ:V.St} {l d:V.Loc} {v:V.AV} (hl:σ l=some (.inst 154 d)) (hd:σ d=some (.dict [])):
  V.Op2 C k σ (fun x y=>setAttr x (Str.ofString "_node2info") y) (.loc l) v (fun u w=>True) (σ.set d (.dict [(Str.ofString "_node2info",v)])):=by
 exact V.OD h.ok hl hd (by rw [h.K];kernel_rfl) (by rw [h.K];kernel_rfl) (by rw [h.K];kernel_rfl) (by rw [h.K];kernel_rfl) (by kernel_rfl) (Nat.le_of_ble_eq_true rfl)
theorem irn {C:V.Cx} (h:Is C) {k:Nat} {σ:V.St} {l d:V.Loc} {v0 v:V.AV} (hl:σ l=some (.inst 154 d)) (hd:σ d=some (.dict [(Str.ofString "_node2info",v0)])):
  V.Op2 C k σ (fun x y=>setAttr x (Str.ofString "_ready_nodes") y) (.loc l) v (fun u w=>True) (σ.set d (.dict [(Str.ofString "_node2info",v0),(Str.ofString "_ready_nodes",v)])):=by
 exact V.OD h.ok hl hd (by rw [h.K];kernel_rfl) (by rw [h.K];kernel_rfl) (by rw [h.K];kernel_rfl) (by rw [h.K];kernel_rfl) (by kernel_rfl) (Nat.le_of_ble_eq_true rfl)
theorem inb {C:V.Cx} (h:Is C) {k:Nat} {σ:V.St} {l d:V.Loc} {v0 v1 v:V.AV} (hl:σ l=some (.inst 154 d)) (hd:σ d=some (.dict [(Str.ofString "_node2info",v0),(Str.ofString "_ready_nodes",v1)])):
  V.Op2 C k σ (fun x y=>setAttr x (Str.ofString "_npassedout") y) (.loc l) v (fun u w=>True) (σ.set d (.dict [(Str.ofString "_node2info",v0),(Str.ofString "_ready_nodes",v1),(Str.ofString "_npassedout",v)])):=by
 exact V.OD h.ok hl hd (by rw [h.K];kernel_rfl) (by rw [h.K];kernel_rfl) (by rw [h.K];kernel_rfl) (by rw [h.K];kernel_rfl) (by kernel_rfl) (Nat.le_of_ble_eq_true rfl)
theorem ing {C:V.Cx} (h:Is C) {k:Nat} {σ:V.St} {l d:V.Loc} {v0 v1 v2 v:V.AV} (hl:σ l=some (.inst 154 d)) (hd:σ d=some (.dict [(Str.ofString "_node2info",v0),(Str.ofString "_ready_nodes",v1),(Str.ofString "_npassedout",v2)])):
  V.Op2 C k σ (fun x y=>setAttr x (Str.ofString "_nfinished") y) (.loc l) v (fun u w=>True) (σ.set d (.dict [(Str.ofString "_node2info",v0),(Str.ofString "_ready_nodes",v1),(Str.ofString "_npassedout",v2),(Str.ofString "_nfinished",v)])):=by
 exact V.OD h.ok hl hd (by rw [h.K];kernel_rfl) (by rw [h.K];kernel_rfl) (by rw [h.K];kernel_rfl) (by rw [h.K];kernel_rfl) (by kernel_rfl) (Nat.le_of_ble_eq_true rfl)
theorem ahe {C:V.Cx} (h:Is C) {k:Nat} {σ:V.St} {l d:V.Loc} {v0:V.AV} (hl:σ l=some (.inst 419 d)) (hd:σ d=some (.dict [(Str.ofString "_headers",v0)])) (hv: ∀id,v0≠ .bi id) (ha:v0≠ .any):
  V.Op1 C k σ (fun x=>getAttr x (Str.ofString "_headers") true) (.loc l) (fun W r=>V.VR W v0 r) σ:=by
 refine V.Oa h.ok hl hd (i:=0) (by rw [h.K];kernel_rfl) rfl ?_ hv ha
 intro xs n r
 revert xs
 refine V.l1a ?_
 intro x0 hr
 obtain rfl:x0.2=r:=Option.some.inj hr;rw [h.K];kernel_rfl
theorem ihe {C:V.Cx} (h:Is C) {k:Nat} {σ:V.St} {l d:V.Loc} {v:V.AV} (hl:σ l=some (.inst 419 d)) (hd:σ d=some (.dict [])):
  V.Op2 C k σ (fun x y=>setAttr x (Str.ofString "_headers") y) (.loc l) v (fun u w=>True) (σ.set d (.dict [(Str.ofString "_headers",v)])):=by
 exact V.OD h.ok hl hd (by rw [h.K];kernel_rfl) (by rw [h.K];kernel_rfl) (by rw [h.K];kernel_rfl) (by rw [h.K];kernel_rfl) (by kernel_rfl) (Nat.le_of_ble_eq_true rfl)
theorem mgn {C:V.Cx} (h:Is C) {k:Nat} {σ:V.St} {l d:V.Loc} {v0 v1 v2 v3:V.AV} (hl:σ l=some (.inst 154 d)) (hd:σ d=some (.dict [(Str.ofString "_node2info",v0),(Str.ofString "_ready_nodes",v1),(Str.ofString "_npassedout",v2),(Str.ofString "_nfinished",v3)])):V.Mt C k σ (.loc l) (Str.ofString "_get_nodeinfo") (.ext 97):=
 V.Mde h.ok hl hd (by rw [h.K];kernel_rfl) (by rw [h.K];kernel_rfl) (by rw [h.K];kernel_rfl) (by rw [h.K];kernel_rfl) (fun xs n=>by revert xs;exact V.le4 fun x0 x1 x2 x3=>by kernel_rfl)
theorem m_add {C:V.Cx} (h:Is C) {k:Nat} {σ:V.St} {l d:V.Loc} {v0 v1 v2 v3:V.AV} (hl:σ l=some (.inst 154 d)) (hd:σ d=some (.dict [(Str.ofString "_node2info",v0),(Str.ofString "_ready_nodes",v1),(Str.ofString "_npassedout",v2),(Str.ofString "_nfinished",v3)])):V.Mt C k σ (.loc l) (Str.ofString "add") (.ext 104):=
 V.Mde h.ok hl hd (by rw [h.K];kernel_rfl) (by rw [h.K];kernel_rfl) (by rw [h.K];kernel_rfl) (by rw [h.K];kernel_rfl) (fun xs n=>by revert xs;exact V.le4 fun x0 x1 x2 x3=>by kernel_rfl)
theorem mpa {C:V.Cx} (h:Is C) {k:Nat} {σ:V.St} {l d:V.Loc} {v0 v1 v2 v3:V.AV} (hl:σ l=some (.inst 154 d)) (hd:σ d=some (.dict [(Str.ofString "_node2info",v0),(Str.ofString "_ready_nodes",v1),(Str.ofString "_npassedout",v2),(Str.ofString "_nfinished",v3)])):V.Mt C k σ (.loc l) (Str.ofString "prepare") (.ext 109):=
 V.Mde h.ok hl hd (by rw [h.K];kernel_rfl) (by rw [h.K];kernel_rfl) (by rw [h.K];kernel_rfl) (by rw [h.K];kernel_rfl) (fun xs n=>by revert xs;exact V.le4 fun x0 x1 x2 x3=>by kernel_rfl)
theorem mgr {C:V.Cx} (h:Is C) {k:Nat} {σ:V.St} {l d:V.Loc} {v0 v1 v2 v3:V.AV} (hl:σ l=some (.inst 154 d)) (hd:σ d=some (.dict [(Str.ofString "_node2info",v0),(Str.ofString "_ready_nodes",v1),(Str.ofString "_npassedout",v2),(Str.ofString "_nfinished",v3)])):V.Mt C k σ (.loc l) (Str.ofString "get_ready") (.ext 116):=
 V.Mde h.ok hl hd (by rw [h.K];kernel_rfl) (by rw [h.K];kernel_rfl) (by rw [h.K];kernel_rfl) (by rw [h.K];kernel_rfl) (fun xs n=>by revert xs;exact V.le4 fun x0 x1 x2 x3=>by kernel_rfl)
theorem mia {C:V.Cx} (h:Is C) {k:Nat} {σ:V.St} {l d:V.Loc} {v0 v1 v2 v3:V.AV} (hl:σ l=some (.inst 154 d)) (hd:σ d=some (.dict [(Str.ofString "_node2info",v0),(Str.ofString "_ready_nodes",v1),(Str.ofString "_npassedout",v2),(Str.ofString "_nfinished",v3)])):V.Mt C k σ (.loc l) (Str.ofString "is_active") (.ext 123):=
 V.Mde h.ok hl hd (by rw [h.K];kernel_rfl) (by rw [h.K];kernel_rfl) (by rw [h.K];kernel_rfl) (by rw [h.K];kernel_rfl) (fun xs n=>by revert xs;exact V.le4 fun x0 x1 x2 x3=>by kernel_rfl)
theorem mdo {C:V.Cx} (h:Is C) {k:Nat} {σ:V.St} {l d:V.Loc} {v0 v1 v2 v3:V.AV} (hl:σ l=some (.inst 154 d)) (hd:σ d=some (.dict [(Str.ofString "_node2info",v0),(Str.ofString "_ready_nodes",v1),(Str.ofString "_npassedout",v2),(Str.ofString "_nfinished",v3)])):V.Mt C k σ (.loc l) (Str.ofString "done") (.ext 137):=
 V.Mde h.ok hl hd (by rw [h.K];kernel_rfl) (by rw [h.K];kernel_rfl) (by rw [h.K];kernel_rfl) (by rw [h.K];kernel_rfl) (fun xs n=>by revert xs;exact V.le4 fun x0 x1 x2 x3=>by kernel_rfl)
theorem mfc {C:V.Cx} (h:Is C) {k:Nat} {σ:V.St} {l d:V.Loc} {v0 v1 v2 v3:V.AV} (hl:σ l=some (.inst 154 d)) (hd:σ d=some (.dict [(Str.ofString "_node2info",v0),(Str.ofString "_ready_nodes",v1),(Str.ofString "_npassedout",v2),(Str.ofString "_nfinished",v3)])):V.Mt C k σ (.loc l) (Str.ofString "_find_cycle") (.ext 144):=
 V.Mde h.ok hl hd (by rw [h.K];kernel_rfl) (by rw [h.K];kernel_rfl) (by rw [h.K];kernel_rfl) (by rw [h.K];kernel_rfl) (fun xs n=>by revert xs;exact V.le4 fun x0 x1 x2 x3=>by kernel_rfl)
theorem mcs {C:V.Cx} (h:Is C) {k:Nat} {σ:V.St} {l d:V.Loc} {v0:V.AV} (hl:σ l=some (.inst 419 d)) (hd:σ d=some (.dict [(Str.ofString "_headers",v0)])):V.Mt C k σ (.loc l) (Str.ofString "_convert_string_type") (.ext 318):=
 V.Mde h.ok hl hd (by rw [h.K];kernel_rfl) (by rw [h.K];kernel_rfl) (by rw [h.K];kernel_rfl) (by rw [h.K];kernel_rfl) (fun xs n=>by revert xs;exact V.l1a fun x0=>by kernel_rfl)
theorem m_get {C:V.Cx} (h:Is C) {k:Nat} {σ:V.St} {l d:V.Loc} {v0:V.AV} (hl:σ l=some (.inst 419 d)) (hd:σ d=some (.dict [(Str.ofString "_headers",v0)])):V.Mt C k σ (.loc l) (Str.ofString "get") (.ext 366):=
 V.Mde h.ok hl hd (by rw [h.K];kernel_rfl) (by rw [h.K];kernel_rfl) (by rw [h.K];kernel_rfl) (by rw [h.K];kernel_rfl) (fun xs n=>by revert xs;exact V.l1a fun x0=>by kernel_rfl)
theorem m_keys {C:V.Cx} (h:Is C) {k:Nat} {σ:V.St} {l d:V.Loc} {v0:V.AV} (hl:σ l=some (.inst 419 d)) (hd:σ d=some (.dict [(Str.ofString "_headers",v0)])):V.Mt C k σ (.loc l) (Str.ofString "keys") (.ext 371):=
 V.Mde h.ok hl hd (by rw [h.K];kernel_rfl) (by rw [h.K];kernel_rfl) (by rw [h.K];kernel_rfl) (by rw [h.K];kernel_rfl) (fun xs n=>by revert xs;exact V.l1a fun x0=>by kernel_rfl)
theorem mit {C:V.Cx} (h:Is C) {k:Nat} {σ:V.St} {l d:V.Loc} {v0:V.AV} (hl:σ l=some (.inst 419 d)) (hd:σ d=some (.dict [(Str.ofString "_headers",v0)])):V.Mt C k σ (.loc l) (Str.ofString "items") (.ext 383):=
 V.Mde h.ok hl hd (by rw [h.K];kernel_rfl) (by rw [h.K];kernel_rfl) (by rw [h.K];kernel_rfl) (by rw [h.K];kernel_rfl) (fun xs n=>by revert xs;exact V.l1a fun x0=>by kernel_rfl)
theorem mah {C:V.Cx} (h:Is C) {k:Nat} {σ:V.St} {l d:V.Loc} {v0:V.AV} (hl:σ l=some (.inst 419 d)) (hd:σ d=some (.dict [(Str.ofString "_headers",v0)])):V.Mt C k σ (.loc l) (Str.ofString "add_header") (.ext 416):=
 V.Mde h.ok hl hd (by rw [h.K];kernel_rfl) (by rw [h.K];kernel_rfl) (by rw [h.K];kernel_rfl) (by rw [h.K];kernel_rfl) (fun xs n=>by revert xs;exact V.l1a fun x0=>by kernel_rfl)
theorem gs0 {C:V.Cx} (h:Is C) {k:Nat} {σ:V.St} {l d:V.Loc} {vs:List (Option V.AV)} {v:V.AV} (hl:V.IsI σ l 57 d vs) (hi:vs[0]? =some (some v)) (hv: ∀id,v≠ .bi id) (ha:v≠ .any):
  V.Op1 C k σ (fun x=>getAttr x (Str.ofString "node") true) (.loc l) (fun W r=>V.VR W v r) σ:=
 V.Osl (p:=58) (g:= .none) h.ok hl (by rw [h.K];kernel_rfl) (by rw [h.K];kernel_rfl) (by rw [h.K];kernel_rfl) (by rw [h.K];kernel_rfl) (by rw [h.K];kernel_rfl) (by rw [h.K];kernel_rfl) (by rw [h.K];kernel_rfl) hi hv ha
theorem psa {C:V.Cx} (h:Is C) {k:Nat} {σ:V.St} {l d:V.Loc} {vs:List (Option V.AV)} {v:V.AV} (hl:V.IsI σ l 57 d vs):
  V.Op2 C k σ (fun x y=>setAttr x (Str.ofString "node") y) (.loc l) v (fun u w=>True) (σ.set l (.slots 57 d (V.spu vs 0 v))):=
 V.OsS (p:=58) (i:=0) h.ok hl (by rw [h.K];kernel_rfl) (by rw [h.K];kernel_rfl) (by rw [h.K];kernel_rfl) (by rw [h.K];kernel_rfl) (by rw [h.K];kernel_rfl) (by decide)
theorem gs1 {C:V.Cx} (h:Is C) {k:Nat} {σ:V.St} {l d:V.Loc} {vs:List (Option V.AV)} {v:V.AV} (hl:V.IsI σ l 57 d vs) (hi:vs[1]? =some (some v)) (hv: ∀id,v≠ .bi id) (ha:v≠ .any):
  V.Op1 C k σ (fun x=>getAttr x (Str.ofString "npredecessors") true) (.loc l) (fun W r=>V.VR W v r) σ:=
 V.Osl (p:=59) (g:= .none) h.ok hl (by rw [h.K];kernel_rfl) (by rw [h.K];kernel_rfl) (by rw [h.K];kernel_rfl) (by rw [h.K];kernel_rfl) (by rw [h.K];kernel_rfl) (by rw [h.K];kernel_rfl) (by rw [h.K];kernel_rfl) hi hv ha
theorem psl {C:V.Cx} (h:Is C) {k:Nat} {σ:V.St} {l d:V.Loc} {vs:List (Option V.AV)} {v:V.AV} (hl:V.IsI σ l 57 d vs):
  V.Op2 C k σ (fun x y=>setAttr x (Str.ofString "npredecessors") y) (.loc l) v (fun u w=>True) (σ.set l (.slots 57 d (V.spu vs 1 v))):=
 V.OsS (p:=59) (i:=1) h.ok hl (by rw [h.K];kernel_rfl) (by rw [h.K];kernel_rfl) (by rw [h.K];kernel_rfl) (by rw [h.K];kernel_rfl) (by rw [h.K];kernel_rfl) (by decide)
theorem gs2 {C:V.Cx} (h:Is C) {k:Nat} {σ:V.St} {l d:V.Loc} {vs:List (Option V.AV)} {v:V.AV} (hl:V.IsI σ l 57 d vs) (hi:vs[2]? =some (some v)) (hv: ∀id,v≠ .bi id) (ha:v≠ .any):
  V.Op1 C k σ (fun x=>getAttr x (Str.ofString "successors") true) (.loc l) (fun W r=>V.VR W v r) σ:=
 V.Osl (p:=60) (g:= .none) h.ok hl (by rw [h.K];kernel_rfl) (by rw [h.K];kernel_rfl) (by rw [h.K];kernel_rfl) (by rw [h.K];kernel_rfl) (by rw [h.K];kernel_rfl) (by rw [h.K];kernel_rfl) (by rw [h.K];kernel_rfl) hi hv ha
theorem psb {C:V.Cx} (h:Is C) {k:Nat} {σ:V.St} {l d:V.Loc} {vs:List (Option V.AV)} {v:V.AV} (hl:V.IsI σ l 57 d vs):
  V.Op2 C k σ (fun x y=>setAttr x (Str.ofString "successors") y) (.loc l) v (fun u w=>True) (σ.set l (.slots 57 d (V.spu vs 2 v))):=
 V.OsS (p:=60) (i:=2) h.ok hl (by rw [h.K];kernel_rfl) (by rw [h.K];kernel_rfl) (by rw [h.K];kernel_rfl) (by rw [h.K];kernel_rfl) (by rw [h.K];kernel_rfl) (by decide)
end L2
end
section
namespace L2
open V (AV AO)
noncomputable abbrev e0:Str:=Str.empty
structure SS where
 ks:List Str
 np:Str→Int
 su:Str→List Str
 rd:Option (List Str)
 po:Int
 nf:Int
noncomputable def sD (b:Nat) (q:SS):List (Str×AV):= [(Str.ofString "_node2info",.loc ⟨b+2,e0⟩),(Str.ofString "_ready_nodes",(if q.rd.isSome then .loc ⟨b+6,e0⟩else .none)),(Str.ofString "_npassedout",.int q.po),(Str.ofString "_nfinished",.int q.nf)]
noncomputable def sN (b:Nat) (q:SS):List (Str×AV):=q.ks.map fun x=>(x,.loc ⟨b+3,x⟩)
noncomputable def sI (b:Nat) (q:SS) (x:Str):List (Option AV):= [some (.str x),some (.int (q.np x)),some (.loc ⟨b+5,x⟩)]
noncomputable def srt (b:Nat) (q:SS) (σ:V.St):V.St:=fun l=>
 if l=⟨b,e0⟩then some (.inst 154 ⟨b+1,e0⟩)
 else if l=⟨b+1,e0⟩then some (.dict (sD b q))
 else if l=⟨b+2,e0⟩then some (.dict (sN b q))
 else if l.tag=b+3∧l.key∈q.ks then some (.slots 57 ⟨b+4,l.key⟩ (sI b q l.key))
 else if l.tag=b+4∧l.key∈q.ks then some (.dict [])
 else if l.tag=b+5∧l.key∈q.ks then some (.list ((q.su l.key).map .str))
 else if l=⟨b+6,e0⟩∧q.rd.isSome=true then some (.list ((q.rd.getD []).map .str))
 else σ l
variable {b:Nat} {q:SS} {σ:V.St} {x:Str}
theorem sr0:srt b q σ ⟨b,e0⟩=some (.inst 154 ⟨b+1,e0⟩):=by unfold srt;rw [if_pos rfl]
theorem sr1:srt b q σ ⟨b+1,e0⟩=some (.dict (sD b q)):=by unfold srt;rw [if_neg (by simp),if_pos rfl]
theorem sr2:srt b q σ ⟨b+2,e0⟩=some (.dict (sN b q)):=by unfold srt;rw [if_neg (by simp),if_neg (by simp),if_pos rfl]
theorem sr3 (h:x∈q.ks):srt b q σ ⟨b+3,x⟩=some (.slots 57 ⟨b+4,x⟩ (sI b q x)):=by
 unfold srt;rw [if_neg (by simp),if_neg (by simp),if_neg (by simp),if_pos ⟨rfl,h⟩]
theorem srt4 (h:x∈q.ks):srt b q σ ⟨b+4,x⟩=some (.dict []):=by
 unfold srt;rw [if_neg (by simp),if_neg (by simp),if_neg (by simp),if_neg (by simp),if_pos ⟨rfl,h⟩]
theorem sr5 (h:x∈q.ks):srt b q σ ⟨b+5,x⟩=some (.list ((q.su x).map .str)):=by
 unfold srt;rw [if_neg (by simp),if_neg (by simp),if_neg (by simp),if_neg (by simp),if_neg (by simp),if_pos ⟨rfl,h⟩]
theorem s6 {r:List Str} (h:q.rd=some r):srt b q σ ⟨b+6,e0⟩=some (.list (r.map .str)):=by
 unfold srt;rw [if_neg (by simp),if_neg (by simp),if_neg (by simp),if_neg (by simp),if_neg (by simp),if_neg (by simp),if_pos ⟨rfl,by rw [h];rfl⟩,h];rfl
theorem srl {l:V.Loc} (h:l.tag<b):srt b q σ l=σ l:=by
 have n: ∀i,l.tag≠b+i:=fun i=>by omega
 unfold srt
 rw [if_neg (fun e=>by rw [e]at h;exact absurd h (Nat.lt_irrefl _)),if_neg (fun e=>n 1 (by rw [e])),if_neg (fun e=>n 2 (by rw [e])),if_neg (fun e=>n 3 e.1),if_neg (fun e=>n 4 e.1),if_neg (fun e=>n 5 e.1),if_neg (fun e=>n 6 (by rw [e.1]))]
theorem sna {x:Str} (h:x∉q.ks) {i:Nat} (hi:i=3∨i=4∨i=5):srt b q σ ⟨b+i,x⟩=σ ⟨b+i,x⟩:=by
 unfold srt
 rcases hi with rfl | rfl | rfl<;>simp [h]
theorem snR (h:q.rd=none):srt b q σ ⟨b+6,e0⟩=σ ⟨b+6,e0⟩:=by
 unfold srt;simp [h]
theorem ss1 {q':SS} (h1:q'.ks=q.ks) (h2:q'.np=q.np) (h3:q'.su=q.su) (h4:q'.rd=q.rd) {es:List (Str×AV)} (he:es=sD b q'):(srt b q σ).set ⟨b+1,e0⟩ (.dict es)=srt b q' σ:=by
 subst he
 funext l
 by_cases hl:l=⟨b+1,e0⟩
 ·subst hl;rw [V.set_same,sr1]
 ·rw [V.sot hl];unfold srt
  rw [if_neg hl,if_neg hl,h1,h3,h4]
  have:sN b q'=sN b q:=by unfold sN;rw [h1]
  rw [this]
  have: ∀x,sI b q' x=sI b q x:=fun x=>by unfold sI;rw [h2]
  rw [this]
theorem ss3 {q':SS} {x:Str} (hx:x∈q.ks) (h1:q'.ks=q.ks) (h2: ∀y,y≠x→q'.np y=q.np y) (h3:q'.su=q.su) (h4:q'.rd=q.rd) (h5:q'.po=q.po) (h6:q'.nf=q.nf) {vs:List (Option AV)} (he:vs=sI b q' x):(srt b q σ).set ⟨b+3,x⟩ (.slots 57 ⟨b+4,x⟩ vs)=srt b q' σ:=by
 subst he
 funext l
 by_cases hl:l=⟨b+3,x⟩
 ·subst hl;rw [V.set_same,sr3 (by rw [h1];exact hx)]
 ·rw [V.sot hl];unfold srt
  have:sD b q'=sD b q:=by unfold sD;rw [h4,h5,h6]
  rw [this,h1,h3,h4]
  have:sN b q'=sN b q:=by unfold sN;rw [h1]
  rw [this]
  by_cases hk:l.tag=b+3∧l.key∈q.ks
  ·have:sI b q' l.key=sI b q l.key:=by
    unfold sI;rw [h2 _ (fun e=>hl (by cases l;simp at hk e;rw [hk.1,e]))]
   rw [this]
  ·rw [if_neg hk,if_neg hk]
theorem ss5 {q':SS} {x:Str} (hx:x∈q.ks) (h1:q'.ks=q.ks) (h2:q'.np=q.np) (h3: ∀y,y≠x→q'.su y=q.su y) (h4:q'.rd=q.rd) (h5:q'.po=q.po) (h6:q'.nf=q.nf) {vs:List AV} (he:vs=(q'.su x).map .str):(srt b q σ).set ⟨b+5,x⟩ (.list vs)=srt b q' σ:=by
 subst he
 funext l
 by_cases hl:l=⟨b+5,x⟩
 ·subst hl;rw [V.set_same,sr5 (by rw [h1];exact hx)]
 ·rw [V.sot hl];unfold srt
  have:sD b q'=sD b q:=by unfold sD;rw [h4,h5,h6]
  rw [this,h1,h4]
  have:sN b q'=sN b q:=by unfold sN;rw [h1]
  rw [this]
  have: ∀x,sI b q' x=sI b q x:=fun x=>by unfold sI;rw [h2]
  rw [this]
  by_cases hk:l.tag=b+5∧l.key∈q.ks
  ·rw [h3 _ (fun e=>hl (by cases l;simp at hk e;rw [hk.1,e]))]
  ·rw [if_neg hk,if_neg hk]
theorem ss6 {q':SS} {r:List Str} (h1:q'.ks=q.ks) (h2:q'.np=q.np) (h3:q'.su=q.su) (h4:q.rd.isSome=true) (h4':q'.rd=some r) (h5:q'.po=q.po) (h6:q'.nf=q.nf) {vs:List AV} (he:vs=r.map .str):(srt b q σ).set ⟨b+6,e0⟩ (.list vs)=srt b q' σ:=by
 subst he
 funext l
 by_cases hl:l=⟨b+6,e0⟩
 ·subst hl;rw [V.set_same,s6 h4']
 ·rw [V.sot hl];unfold srt
  have:sD b q'=sD b q:=by unfold sD;rw [h4',h4,h5,h6];rfl
  rw [this,h1,h3]
  have:sN b q'=sN b q:=by unfold sN;rw [h1]
  rw [this]
  have: ∀x,sI b q' x=sI b q x:=fun x=>by unfold sI;rw [h2]
  rw [this]
  have z: ∀P:Prop,¬(l=⟨b+6,e0⟩∧P):=fun P e=>hl e.1
  simp only [z,if_false]
theorem sob {q':SS} (hk: ∀y∈q.ks,y∈q'.ks) (hr:q.rd.isSome=true→q'.rd.isSome=true):
  (∀l,(srt b q σ l).isSome=true→(srt b q' σ l).isSome=true)∧(∀l o,srt b q' σ l=some o→srt b q σ l=some o∨o.In fun l=>(srt b q' σ l).isSome=true):=by
 constructor
 ·intro l h
  unfold srt at h⊢
  repeat' split at h
  all_goals (try (repeat' split)<;>first | rfl | exact h | grind)
 ·intro l o h
  unfold srt at h
  split at h
  ·obtain rfl:=Option.some.inj h;right
   show(srt b q' σ ⟨b+1,e0⟩).isSome=true
   rw [sr1];rfl
  split at h
  ·obtain rfl:=Option.some.inj h;right
   intro p hp
   rcases hp with _ | ⟨_,_ | ⟨_,_ | ⟨_,_ | ⟨_,hp⟩⟩⟩⟩
   ·show(srt b q' σ ⟨b+2,e0⟩).isSome=true
    rw [sr2];rfl
   ·rcases hq:q'.rd with _ | r
    ·simp [V.AV.In]
    ·simp [V.AV.In]
     rw [s6 hq];rfl
   ·simp [V.AV.In]
   ·simp [V.AV.In]
   ·cases hp
  split at h
  ·obtain rfl:=Option.some.inj h;right
   intro p hp
   obtain⟨y,hy,rfl⟩:=List.mem_map.mp hp
   show(srt b q' σ ⟨b+3,y⟩).isSome=true
   rw [sr3 hy];rfl
  split at h
  ·rename_i hk'
   obtain rfl:=Option.some.inj h;right
   refine⟨?_,?_⟩
   ·show(srt b q' σ ⟨b+4,l.key⟩).isSome=true
    rw [srt4 hk'.2];rfl
   ·intro z hz
    unfold sI at hz
    simp only [List.mem_cons,Option.some.injEq,List.not_mem_nil,or_false]at hz
    rcases hz with rfl | rfl | rfl
    ·simp [V.AV.In]
    ·simp [V.AV.In]
    ·show(srt b q' σ ⟨b+5,l.key⟩).isSome=true
     rw [sr5 hk'.2];rfl
  split at h
  ·obtain rfl:=Option.some.inj h;right
   intro p hp;cases hp
  split at h
  ·obtain rfl:=Option.some.inj h;right
   show V.AV.Ins _ _
   exact V.Pu (fun x=>V.Pst) _
  split at h
  ·obtain rfl:=Option.some.inj h;right
   show V.AV.Ins _ _
   exact V.Pu (fun x=>V.Pst) _
  left
  unfold srt
  rw [if_neg (by assumption),if_neg (by assumption),if_neg (by assumption),if_neg (by grind),if_neg (by grind),if_neg (by grind),if_neg (by grind)]
  exact h
end L2
end
section
namespace L2
open Builtin Builtin.Str
local macro_rules | `(tactic| kln_le)=> `(tactic| first
 | (with_reducible assumption)
 | ((with_reducible apply V.Bc)<;>kln_le)
 | ((with_reducible apply V.Bs);kln_le)
 | ((with_reducible apply V.Bm)<;>first | kln_le | omega)
 | ((with_reducible apply V.Bl (x:=Str.ofString _));rfl))
open V (AV AO)
noncomputable def Gm (σ σ':V.St):Prop:= ∀l,(σ l).isSome=true→(σ' l).isSome=true
noncomputable def Gr (D:V.Loc→Prop) (σ σ':V.St):Prop:= ∀l o,σ' l=some o→σ l=some o∨o.In D
theorem Gm.refl {σ:V.St}:Gm σ σ:=fun u h=>h
theorem Gr.refl {D:V.Loc→Prop} {σ:V.St}:Gr D σ σ:=fun u v h=> .inl h
theorem Gm.set {σ σ':V.St} {l:V.Loc} {o:AO} (g:Gm σ σ'):Gm σ (σ'.set l o):=fun x h=>by
 unfold V.St.set;split
 ·rfl
 ·exact g x h
theorem Gr.set {D:V.Loc→Prop} {σ σ':V.St} {l:V.Loc} {o:AO} (g:Gr D σ σ') (h:o.In D):Gr D σ (σ'.set l o):=fun x o' e=>by
 unfold V.St.set at e;split at e
 ·obtain rfl:=Option.some.inj e;exact .inr h
 ·exact g x o' e
theorem ogr {C:V.Cx} {k:Nat} {sc:Scope} {body:List Stmt} {ms:List (Option AV)} {σ₀ σ σ':V.St} (h1:V.Go C k sc ms σ body .next σ') (a:Gm σ₀ σ') (b:Gr (fun l=>(σ' l).isSome=true) σ₀ σ'): ∃f ms' σf,V.Ex C k sc ms σ body f ms' σf∧V.Exit σ₀ σf f .none σ':=
 V.ogo h1 ⟨fun u v h=>h,a,b,.inr (.inr ⟨rfl,rfl⟩)⟩
theorem oR {C:V.Cx} {k:Nat} {sc:Scope} {body:List Stmt} {ms:List (Option AV)} {σ₀ σ σ':V.St} {v:AV} (h1:V.Go C k sc ms σ body (.ret v) σ') (a:Gm σ₀ σ') (b:Gr (fun l=>(σ' l).isSome=true) σ₀ σ') (c:v.In fun l=>(σ' l).isSome=true): ∃f ms' σf,V.Ex C k sc ms σ body f ms' σf∧V.Exit σ₀ σf f v σ':=
 V.ogo h1 ⟨fun u w h=>h,a,b,.inl ⟨rfl,c⟩⟩
noncomputable def upd {α:Type} (f:Str→α) (x:Str) (v:α):Str→α:=fun y=>if y=x then v else f y
theorem usa {α:Type} {f:Str→α} {x:Str} {v:α}:upd f x v x=v:=by unfold upd;rw [if_pos rfl]
theorem une {α:Type} {f:Str→α} {x y:Str} {v:α} (h:y≠x):upd f x v y=f y:=by unfold upd;rw [if_neg h]
theorem c_ni {C:V.Cx} (h:Is C) {k:Nat} {σ:V.St} {l d ll:V.Loc} {x:Str} (hl:σ l=none) (hd:σ d=none) (hll:σ ll=none) (h1:l≠d) (h2:l≠ll) (h3:d≠ll):
  V.Cd C (k+1) ((σ.set d (.dict [])).set l (.inst 57 d)) (.ext 53) [.loc l,.str x] [] .none (((σ.set d (.dict [])).set ll (.list [])).set l (.slots 57 d [some (.str x),some (.int 0),some (.loc ll)])):=by
 have hx0:=h.hx
 refine V.Cnm h.ok ⟨⟨_,_,_,by rw [h.K];exact rfl⟩,rfl,rfl,rfl,rfl,by rw [h.K];rfl,rfl,rfl,by decide+kernel⟩ [(Str.ofString "self",.local),(Str.ofString "node",.local)] rfl [(Str.ofString "self",.loc l),(Str.ofString "node",.str x)] _
  (V.Bp (V.l2a fun a0 a1=>rfl) rfl) rfl rfl fun sc hF n hn=> ?_
 obtain⟨n0,n1,_⟩:=hF
 have e1:(((((σ.set d (.dict [])).set l (.inst 57 d)).set l (.slots 57 d (V.spu [] 0 (.str x)))).set l (.slots 57 d (V.spu (V.spu [] 0 (.str x)) 1 (.int 0)))).set ll (.list [])).set l (.slots 57 d (V.spu (V.spu (V.spu [] 0 (.str x)) 1 (.int 0)) 2 (.loc ll)))=(((σ.set d (.dict [])).set ll (.list [])).set l (.slots 57 d [some (.str x),some (.int 0),some (.loc ll)])):=by
  funext y
  by_cases y1:y=l
  ·subst y1;rw [V.set_same,V.set_same];rfl
  ·rw [V.sot y1,V.sot y1]
   unfold V.St.set
   simp only [y1,if_false]
 have hI:V.IsI ((σ.set d (.dict [])).set l (.inst 57 d)) l 57 d []:= .inl ⟨V.set_same,rfl⟩
 have hll':((((σ.set d (.dict [])).set l (.inst 57 d)).set l (.slots 57 d (V.spu [] 0 (.str x)))).set l (.slots 57 d (V.spu (V.spu [] 0 (.str x)) 1 (.int 0)))) ll=none:=by
  rw [V.sot h2.symm,V.sot h2.symm,V.sot h2.symm,V.sot h3.symm];exact hll
 refine ogr (σ':=(((σ.set d (.dict [])).set ll (.list [])).set l (.slots 57 d [some (.str x),some (.int 0),some (.loc ll)]))) ?_ ?_ ?_
 ·rw [←e1]
  refine V.Gco (V.X1A (V.ELo n1 rfl) (V.AAt (V.ELo n0 rfl) (psa h hI)) (fun u=>rfl) (fun u=>rfl) (fun u=>rfl)) ?_
  refine V.Gco (V.X1A V.EIn (V.AAt (V.ELo n0 rfl) (psl h (.inr V.set_same))) (fun u=>rfl) (fun u=>rfl) (fun u=>rfl)) ?_
  refine V.Gco (V.X1A (V.ELi ll V.En (Nat.zero_le _) hll') (V.AAt (V.ELo n0 rfl) (psb h (.inr (by rw [V.sot h2,V.set_same])))) (fun u=>rfl) (fun u=>rfl) (fun u=>rfl)) ?_
  exact V.Gn
 ·rw [←e1]
  exact .set (.set (.set (.set .refl)))
 ·rw [←e1]
  have hd':((((((σ.set d (.dict [])).set l (.inst 57 d)).set l (.slots 57 d (V.spu [] 0 (.str x)))).set l (.slots 57 d (V.spu (V.spu [] 0 (.str x)) 1 (.int 0)))).set ll (.list [])).set l (.slots 57 d (V.spu (V.spu (V.spu [] 0 (.str x)) 1 (.int 0)) 2 (.loc ll))) d).isSome=true:=by
   rw [V.sot h1.symm,V.sot h3,V.sot h1.symm,V.sot h1.symm,V.sot h1.symm,V.set_same];rfl
  refine .set (.set (.set (.set .refl ⟨hd',?_⟩) ⟨hd',?_⟩) ?_) ⟨hd',?_⟩
  ·intro z hz;simp [V.spu]at hz;subst hz;simp [V.AV.In]
  ·intro z hz;simp [V.spu]at hz;rcases hz with rfl | rfl<;>simp [V.AV.In]
  ·simp [V.AO.In,V.AV.Ins]
  ·intro z hz;simp [V.spu]at hz;rcases hz with rfl | rfl | rfl
   ·simp [V.AV.In]
   ·simp [V.AV.In]
   ·simp [V.AV.In];rw [V.sot h2.symm,V.set_same];rfl
noncomputable def q0:SS:=⟨[],fun _=>0,fun _=> [],none,0,0⟩
theorem sst {b:Nat} {σ:V.St}:((((((σ.set ⟨b+1,e0⟩ (.dict [])).set ⟨b,e0⟩ (.inst 154 ⟨b+1,e0⟩)).set ⟨b+2,e0⟩ (.dict [])).set ⟨b+1,e0⟩ (.dict [(Str.ofString "_node2info",.loc ⟨b+2,e0⟩)])).set ⟨b+1,e0⟩ (.dict [(Str.ofString "_node2info",.loc ⟨b+2,e0⟩),(Str.ofString "_ready_nodes",.none)])).set ⟨b+1,e0⟩ (.dict [(Str.ofString "_node2info",.loc ⟨b+2,e0⟩),(Str.ofString "_ready_nodes",.none),(Str.ofString "_npassedout",.int 0)])).set ⟨b+1,e0⟩ (.dict [(Str.ofString "_node2info",.loc ⟨b+2,e0⟩),(Str.ofString "_ready_nodes",.none),(Str.ofString "_npassedout",.int 0),(Str.ofString "_nfinished",.int 0)])=srt b q0 σ:=by
 funext l
 unfold srt V.St.set
 by_cases h0:l=⟨b,e0⟩
 ·subst h0;simp
 by_cases h1:l=⟨b+1,e0⟩
 ·subst h1;simp;rfl
 by_cases h2:l=⟨b+2,e0⟩
 ·subst h2;simp;rfl
 simp [h0,h1,h2,q0]
theorem c_ts {C:V.Cx} (h:Is C) {k:Nat} {σ:V.St} {b:Nat} (h2:σ ⟨b+2,e0⟩=none):
  V.Cd C (k+1) ((σ.set ⟨b+1,e0⟩ (.dict [])).set ⟨b,e0⟩ (.inst 154 ⟨b+1,e0⟩)) (.ext 90) [.loc ⟨b,e0⟩] [] .none (srt b q0 σ):=by
 have hx0:=h.hx
 refine V.Cnm h.ok ⟨⟨_,_,_,by rw [h.K];exact rfl⟩,rfl,rfl,rfl,rfl,by rw [h.K];rfl,rfl,rfl,by decide+kernel⟩ [(Str.ofString "self",.local),(Str.ofString "graph",.local),(Str.ofString "node",.local),(Str.ofString "predecessors",.local)] rfl [(Str.ofString "self",.loc ⟨b,e0⟩),(Str.ofString "graph",.none)] _
  (V.Bdf h.ok (da:=83) (as:= [.loc ⟨b,e0⟩]) (das:= [.none]) (dv:= [.none]) (by rw [h.K];exact rfl) (V.l1a fun a0=>⟨_,by exact rfl,by exact rfl⟩) rfl (fun W=> .cons V.Vn .nil)) rfl rfl fun sc hF n hn=> ?_
 obtain⟨n0,n1,n2,n3,_⟩:=hF
 have m1:(⟨b,e0⟩:V.Loc)≠⟨b+1,e0⟩:=by simp
 have m2:(⟨b,e0⟩:V.Loc)≠⟨b+2,e0⟩:=by simp
 have m3:(⟨b+1,e0⟩:V.Loc)≠⟨b+2,e0⟩:=by simp
 refine ogr (σ':=srt b q0 σ) ?_ ?_ ?_
 ·rw [←sst]
  refine V.Gco (V.X1A (V.Ev0 ⟨b+2,e0⟩ (by rw [V.sot m2.symm,V.sot m3.symm];exact h2)) (V.AAt (V.ELo n0 rfl) (in2 h (d:=⟨b+1,e0⟩) (by rw [V.sot m2,V.set_same]) (by rw [V.sot m3,V.sot m1.symm,V.set_same]))) (fun u=>rfl) (fun u=>rfl) (fun u=>rfl)) ?_
  refine V.Gco (V.X1A V.ENo (V.AAt (V.ELo n0 rfl) (irn h (d:=⟨b+1,e0⟩) (by rw [V.sot m1,V.sot m2,V.set_same]) V.set_same)) (fun u=>rfl) (fun u=>rfl) (fun u=>rfl)) ?_
  refine V.Gco (V.X1A V.EIn (V.AAt (V.ELo n0 rfl) (inb h (d:=⟨b+1,e0⟩) (by rw [V.sot m1,V.sot m1,V.sot m2,V.set_same]) V.set_same)) (fun u=>rfl) (fun u=>rfl) (fun u=>rfl)) ?_
  refine V.Gco (V.X1A V.EIn (V.AAt (V.ELo n0 rfl) (ing h (d:=⟨b+1,e0⟩) (by rw [V.sot m1,V.sot m1,V.sot m1,V.sot m2,V.set_same]) V.set_same)) (fun u=>rfl) (fun u=>rfl) (fun u=>rfl)) ?_
  refine V.GF (V.TCo (c:=false) (V.ELo n1 rfl) V.ENo (V.ni V.nno) rfl) ?_
  exact V.Gn
 ·rw [←sst]
  exact .set (.set (.set (.set (.set .refl))))
 ·intro l o hl
  by_cases h0:l=⟨b,e0⟩
  ·subst h0;rw [sr0]at hl;obtain rfl:=Option.some.inj hl
   right;show(srt b q0 σ ⟨b+1,e0⟩).isSome=true;rw [sr1];rfl
  ·by_cases h1:l=⟨b+1,e0⟩
   ·subst h1;rw [sr1]at hl;obtain rfl:=Option.some.inj hl
    right
    intro p hp
    rcases hp with _ | ⟨_,_ | ⟨_,_ | ⟨_,_ | ⟨_,hp⟩⟩⟩⟩
    ·show(srt b q0 σ ⟨b+2,e0⟩).isSome=true
     rw [sr2];rfl
    ·simp [q0,V.AV.In]
    ·simp [V.AV.In]
    ·simp [V.AV.In]
    ·cases hp
   ·by_cases hh2:l=⟨b+2,e0⟩
    ·subst hh2;rw [sr2]at hl;obtain rfl:=Option.some.inj hl
     right;intro p hp;cases hp
    ·left
     rw [V.sot h0,V.sot h1]
     unfold srt at hl
     simpa [h0,h1,hh2,q0]using hl
end L2
end
section
namespace L2
open Builtin Builtin.Str
local macro_rules | `(tactic| kln_le)=> `(tactic| first
 | (with_reducible assumption)
 | ((with_reducible apply V.Bc)<;>kln_le)
 | ((with_reducible apply V.Bs);kln_le)
 | ((with_reducible apply V.Bm)<;>first | kln_le | omega)
 | ((with_reducible apply V.Bl (x:=Str.ofString _));rfl))
open V (AV AO)
noncomputable def SS.ins (q:SS) (x:Str):SS:=if x∈q.ks then q else{q with ks:=q.ks++ [x],np:=upd q.np x 0,su:=upd q.su x []}
theorem dN {b:Nat} {q:SS} {x:Str} (h:x∈q.ks):V.dge (sN b q) x=some (.loc ⟨b+3,x⟩):=by
 unfold V.dge sN
 rw [List.find?_map]
 have:(List.find? ((fun e:Str×AV=>decide (e.1=x)) ∘ fun x=>(x,AV.loc ⟨b+3,x⟩)) q.ks)=some x:=by
  have e:((fun e:Str×AV=>decide (e.1=x)) ∘ fun x=>(x,AV.loc ⟨b+3,x⟩))=fun y=>decide (y=x):=rfl
  rw [e]
  generalize q.ks=l at h⊢
  induction l with
  | nil=>cases h
  | cons y l ih=>
   by_cases hy:y=x
   ·subst hy;rw [List.find?_cons_of_pos (by simp)]
   ·rw [List.find?_cons_of_neg (by simpa using hy)]
    exact ih (by rcases List.mem_cons.mp h with z | z;exact absurd z.symm hy;exact z)
 rw [this];rfl
theorem dsN {b:Nat} {q:SS} {x:Str} (h:x∉q.ks):V.dge (sN b q) x=none:=by
 unfold V.dge sN
 rw [List.find?_map]
 have:(List.find? ((fun e:Str×AV=>decide (e.1=x)) ∘ fun x=>(x,AV.loc ⟨b+3,x⟩)) q.ks)=none:=by
  rw [List.find?_eq_none]
  intro y hy e
  simp at e;subst e;exact h hy
 rw [this];rfl
theorem DNs {b:Nat} {q:SS} (h:q.ks.Nodup):V.DN (sN b q):=by
 unfold V.DN sN
 rw [List.map_map]
 have:((fun x:Str×AV=>x.1) ∘ fun x=>(x,AV.loc ⟨b+3,x⟩))=_root_.id:=rfl
 rw [this,List.map_id];exact h
theorem dpN {b:Nat} {q:SS} {x:Str} (h:x∉q.ks):V.dput (sN b q) x (.loc ⟨b+3,x⟩)=sN b (q.ins x):=by
 unfold V.dput
 rw [if_neg]
 ·unfold sN SS.ins;rw [if_neg h,List.map_append];rfl
 ·unfold sN;simp only [List.any_map,List.any_eq_true,not_exists,not_and]
  intro y hy e
  simp at e;subst e;exact h hy
theorem sri {b:Nat} {q:SS} {σ:V.St} {x:Str} (h:x∉q.ks):((((srt b q σ).set ⟨b+4,x⟩ (.dict [])).set ⟨b+5,x⟩ (.list [])).set ⟨b+3,x⟩ (.slots 57 ⟨b+4,x⟩ [some (.str x),some (.int 0),some (.loc ⟨b+5,x⟩)])).set ⟨b+2,e0⟩ (.dict (V.dput (sN b q) x (.loc ⟨b+3,x⟩)))=srt b (q.ins x) σ:=by
 rw [dpN h]
 funext l
 by_cases h0:l=⟨b,e0⟩
 ·subst h0;rw [V.sot (by simp),V.sot (by simp),V.sot (by simp),V.sot (by simp),sr0,sr0]
 by_cases h1:l=⟨b+1,e0⟩
 ·subst h1;rw [V.sot (by simp),V.sot (by simp),V.sot (by simp),V.sot (by simp),sr1,sr1]
  unfold sD SS.ins;rw [if_neg h]
 by_cases h2:l=⟨b+2,e0⟩
 ·subst h2;rw [V.set_same,sr2]
 rw [V.sot h2]
 by_cases h3:l=⟨b+3,x⟩
 ·subst h3;rw [V.set_same,sr3 (by unfold SS.ins;rw [if_neg h];simp)]
  unfold sI SS.ins;rw [if_neg h];simp [usa]
 rw [V.sot h3]
 by_cases h5:l=⟨b+5,x⟩
 ·subst h5;rw [V.set_same,sr5 (by unfold SS.ins;rw [if_neg h];simp)]
  unfold SS.ins;rw [if_neg h];simp [usa]
 rw [V.sot h5]
 by_cases h4:l=⟨b+4,x⟩
 ·subst h4;rw [V.set_same,srt4 (by unfold SS.ins;rw [if_neg h];simp)]
 rw [V.sot h4]
 have e: ∀i,(∀y,y=(⟨b+i,x⟩:V.Loc)→l≠y)→(l.tag=b+i∧l.key∈q.ks++ [x])=(l.tag=b+i∧l.key∈q.ks):=by
  intro i hi
  apply propext
  constructor
  ·intro ⟨a,c⟩
   refine⟨a,?_⟩
   rcases List.mem_append.mp c with z | z
   ·exact z
   ·refine absurd ?_ (hi _ rfl)
    cases l;simp at a z;rw [a,z]
  ·intro ⟨a,c⟩;exact⟨a,List.mem_append.mpr (.inl c)⟩
 unfold srt SS.ins
 rw [if_neg h]
 simp only [h0,h1,h2,if_false]
 have e3:=e 3 (fun y hy=>by rw [hy];exact h3)
 have e4:=e 4 (fun y hy=>by rw [hy];exact h4)
 have e5:=e 5 (fun y hy=>by rw [hy];exact h5)
 simp only [e3,e4,e5]
 by_cases k3:l.tag=b+3∧l.key∈q.ks
 ·rw [if_pos k3,if_pos k3]
  have:l.key≠x:=fun z=>h (by rw [←z];exact k3.2)
  unfold sI;dsimp only;rw [une this]
 rw [if_neg k3,if_neg k3]
 by_cases k4:l.tag=b+4∧l.key∈q.ks
 ·rw [if_pos k4,if_pos k4]
 rw [if_neg k4,if_neg k4]
 by_cases k5:l.tag=b+5∧l.key∈q.ks
 ·rw [if_pos k5,if_pos k5]
  have:l.key≠x:=fun z=>h (by rw [←z];exact k5.2)
  rw [une this]
 rw [if_neg k5,if_neg k5]
noncomputable def Cl (b:Nat) (σ:V.St):Prop:= ∀l:V.Loc,b≤l.tag→σ l=none
theorem iks {q:SS} {x y:Str} (h:y∈q.ks):y∈(q.ins x).ks:=by
 unfold SS.ins;split
 ·exact h
 ·exact List.mem_append.mpr (.inl h)
theorem ise {q:SS} {x:Str}:x∈(q.ins x).ks:=by
 unfold SS.ins;split
 ·assumption
 ·exact List.mem_append.mpr (.inr (.head _))
theorem ir {q:SS} {x:Str}:(q.ins x).rd=q.rd:=by
 unfold SS.ins;split<;>rfl
theorem ino {q:SS} {x:Str} (h:q.ks.Nodup):(q.ins x).ks.Nodup:=by
 unfold SS.ins;split
 ·exact h
 ·rename_i hx
  rw [List.nodup_append]
  refine⟨h,by simp,?_⟩
  intro a ha c hc
  simp at hc;subst hc;intro e;subst e;exact hx ha
theorem nlo {l:V.Loc}: ∀id,AV.loc l≠ .bi id:=fun u e=>by cases e
theorem nal {l:V.Loc}:AV.loc l≠ .any:=fun e=>by cases e
theorem nbi {i:Int}: ∀id,AV.int i≠ .bi id:=fun u e=>by cases e
theorem nia {i:Int}:AV.int i≠ .any:=fun e=>by cases e
theorem nbs {i:Str}: ∀id,AV.str i≠ .bi id:=fun u e=>by cases e
theorem nas {i:Str}:AV.str i≠ .any:=fun e=>by cases e
theorem nbn: ∀id,AV.none≠ .bi id:=fun u e=>by cases e
theorem nna:AV.none≠ .any:=fun e=>by cases e
theorem osr {C:V.Cx} {k:Nat} {sc:Scope} {body:List Stmt} {ms:List (Option AV)} {σ:V.St} {b:Nat} {q q':SS} (hk: ∀y∈q.ks,y∈q'.ks) (hr:q.rd.isSome=true→q'.rd.isSome=true) (h1:V.Go C k sc ms (srt b q σ) body .next (srt b q' σ)): ∃f ms' σf,V.Ex C k sc ms (srt b q σ) body f ms' σf∧V.Exit (srt b q σ) σf f .none (srt b q' σ):=
 ogr h1 (sob hk hr).1 (sob hk hr).2
theorem osR {C:V.Cx} {k:Nat} {sc:Scope} {body:List Stmt} {ms:List (Option AV)} {σ:V.St} {b:Nat} {q q':SS} {v:AV} (hk: ∀y∈q.ks,y∈q'.ks) (hr:q.rd.isSome=true→q'.rd.isSome=true) (h1:V.Go C k sc ms (srt b q σ) body (.ret v) (srt b q' σ)) (c:v.In fun l=>(srt b q' σ l).isSome=true): ∃f ms' σf,V.Ex C k sc ms (srt b q σ) body f ms' σf∧V.Exit (srt b q σ) σf f v (srt b q' σ):=
 oR h1 (sob hk hr).1 (sob hk hr).2 c
theorem cgn {C:V.Cx} (h:Is C) {k:Nat} {σ:V.St} {b:Nat} {q:SS} {x:Str} (hb:Cl b σ) (hq:q.ks.Nodup) (hz:q.ks.length≤1000):
  V.Cd C (k+3) (srt b q σ) (.ext 97) [.loc ⟨b,e0⟩,.str x] [] (.loc ⟨b+3,x⟩) (srt b (q.ins x) σ):=by
 have hx0:=h.hx
 refine V.Cnm h.ok ⟨⟨_,_,_,by rw [h.K];exact rfl⟩,rfl,rfl,rfl,rfl,by rw [h.K];rfl,rfl,rfl,by decide+kernel⟩ [(Str.ofString "self",.local),(Str.ofString "node",.local),(Str.ofString "result",.local),(Str.ofString "_NodeInfo",.globalImplicit)] rfl [(Str.ofString "self",.loc ⟨b,e0⟩),(Str.ofString "node",.str x)] _
  (V.Bp (V.l2a fun a0 a1=>rfl) rfl) rfl rfl fun sc hF n hn=> ?_
 obtain⟨n0,n1,n2,n3,_⟩:=hF
 have hv:(AV.loc ⟨b+3,x⟩).In fun l=>(srt b (q.ins x) σ l).isSome=true:=by
  simp only [V.AV.In];rw [sr3 ise];rfl
 refine osR (fun y hy=>iks hy) (fun z=>by rw [ir];exact z) ?_ hv
 by_cases hx:x∈q.ks
 ·have e:q.ins x=q:=by unfold SS.ins;rw [if_pos hx]
  rw [e]
  refine V.GF (V.TCo (c:=false) (V.ENa (V.EMC (V.EAt (V.ELo n0 rfl) (an2 h sr0 sr1 nlo nal) (fun u v=>rfl)) (V.Mdg (.inl sr2)) (V.Eco (V.ELo n1 rfl) V.En (fun u=>rfl)) V.Kbi (V.Cdg (.inl sr2) (DNs hq) (by rw [dN hx];rfl)) (fun u v=>rfl) (fun u=>rfl) rfl (fun u=>rfl)) (V.AL' n2 rfl)) V.ENo (V.nis (b:=false) V.nnl) rfl) ?_
  exact V.Gre (V.ELo n2 rfl)
 ·rw [←sri hx]
  refine V.GoT (V.TCo (c:=true) (V.ENa (V.EMC (V.EAt (V.ELo n0 rfl) (an2 h sr0 sr1 nlo nal) (fun u v=>rfl)) (V.Mdg (.inl sr2)) (V.Eco (V.ELo n1 rfl) V.En (fun u=>rfl)) V.Kbi (V.Cdg (.inl sr2) (DNs hq) (by rw [dsN hx];rfl)) (fun u v=>rfl) (fun u=>rfl) rfl (fun u=>rfl)) (V.AL' n2 rfl)) V.ENo (V.nis (b:=true) V.nno) rfl) ?_
  have k3:(srt b q σ) ⟨b+3,x⟩=none:=(sna hx (.inl rfl)).trans (hb _ (by simp))
  have k4:(srt b q σ) ⟨b+4,x⟩=none:=(sna hx (.inr (.inl rfl))).trans (hb _ (by simp))
  have k5:(srt b q σ) ⟨b+5,x⟩=none:=(sna hx (.inr (.inr rfl))).trans (hb _ (by simp))
  have mk:=V.Cm h.ok (c:=57) (fi:=53) (kw:= []) (by rw [h.K];kernel_rfl) (by rw [h.K];kernel_rfl) (by rw [h.K];kernel_rfl) k3 k4 (by simp) (c_ni h (k:=k) (x:=x) k3 k4 k5 (by simp) (by simp) (by simp))
  have g0:((((srt b q σ).set ⟨b+4,x⟩ (.dict [])).set ⟨b+5,x⟩ (.list [])).set ⟨b+3,x⟩ (.slots 57 ⟨b+4,x⟩ [some (.str x),some (.int 0),some (.loc ⟨b+5,x⟩)])) ⟨b,e0⟩=some (.inst 154 ⟨b+1,e0⟩):=by
   rw [V.sot (by simp),V.sot (by simp),V.sot (by simp),sr0]
  have g1:((((srt b q σ).set ⟨b+4,x⟩ (.dict [])).set ⟨b+5,x⟩ (.list [])).set ⟨b+3,x⟩ (.slots 57 ⟨b+4,x⟩ [some (.str x),some (.int 0),some (.loc ⟨b+5,x⟩)])) ⟨b+1,e0⟩=some (.dict (sD b q)):=by
   rw [V.sot (by simp),V.sot (by simp),V.sot (by simp),sr1]
  have g2:((((srt b q σ).set ⟨b+4,x⟩ (.dict [])).set ⟨b+5,x⟩ (.list [])).set ⟨b+3,x⟩ (.slots 57 ⟨b+4,x⟩ [some (.str x),some (.int 0),some (.loc ⟨b+5,x⟩)])) ⟨b+2,e0⟩=some (.dict (sN b q)):=by
   rw [V.sot (by simp),V.sot (by simp),V.sot (by simp),sr2]
  refine V.Gco (V.X1a (V.ECa (V.EGl h.ok n3 (gNI h)) (V.Eco (V.ELo n1 rfl) V.En (fun u=>rfl)) (KX h rfl) mk (fun u=>rfl) (fun u=>rfl)) (V.ASu (V.EAt (V.ELo n0 rfl) (an2 h g0 g1 nlo nal) (fun u v=>rfl)) (V.ELo n1 rfl) (V.Ds (.inl g2) (DNs hq) (V.lof (n:=(sN b q).length) (m:=1000) (by unfold sN;rw [List.length_map];exact hz) (by decide)))) (V.AL' n2 rfl) (fun u=>rfl) (fun u=>rfl) (fun u=>rfl)) ?_
  exact V.Gre (V.ELo n2 rfl)
end L2
end
section
namespace L2
open Builtin Builtin.Str
local macro_rules | `(tactic| kln_le)=> `(tactic| first
 | (with_reducible assumption)
 | ((with_reducible apply V.Bc)<;>kln_le)
 | ((with_reducible apply V.Bs);kln_le)
 | ((with_reducible apply V.Bm)<;>first | kln_le | omega)
 | ((with_reducible apply V.Bl (x:=Str.ofString _));rfl))
open V (AV AO)
noncomputable def SS.sNp (q:SS) (x:Str) (v:Int):SS:={q with np:=upd q.np x v}
noncomputable def SS.aSu (q:SS) (x p:Str):SS:={q with su:=upd q.su x (q.su x++ [p])}
noncomputable def SS.aR (q:SS) (x:Str):SS:={q with rd:=q.rd.map (· ++ [x])}
section
variable {C:V.Cx} {k:Nat} {σ:V.St} {b:Nat} {q:SS} {x p:Str}
theorem ldi (h:Is C):V.Op1 C k (srt b q σ) (fun x=>getAttr x (Str.ofString "_node2info") true) (.loc ⟨b,e0⟩) (fun W r=>V.VR W (.loc ⟨b+2,e0⟩) r) (srt b q σ):=an2 h sr0 sr1 nlo nal
theorem srt1N (hr:q.rd=none):srt b q σ ⟨b+1,e0⟩=some (.dict [(Str.ofString "_node2info",.loc ⟨b+2,e0⟩),(Str.ofString "_ready_nodes",.none),(Str.ofString "_npassedout",.int q.po),(Str.ofString "_nfinished",.int q.nf)]):=by
 rw [sr1];unfold sD;rw [hr];rfl
theorem srt1R {r:List Str} (hr:q.rd=some r):srt b q σ ⟨b+1,e0⟩=some (.dict [(Str.ofString "_node2info",.loc ⟨b+2,e0⟩),(Str.ofString "_ready_nodes",.loc ⟨b+6,e0⟩),(Str.ofString "_npassedout",.int q.po),(Str.ofString "_nfinished",.int q.nf)]):=by
 rw [sr1];unfold sD;rw [hr];rfl
theorem lN (h:Is C) (hr:q.rd=none):V.Op1 C k (srt b q σ) (fun x=>getAttr x (Str.ofString "_ready_nodes") true) (.loc ⟨b,e0⟩) (fun W r=>V.VR W .none r) (srt b q σ):=arn h sr0 (srt1N hr) nbn nna
theorem lrd (h:Is C) {r:List Str} (hr:q.rd=some r):V.Op1 C k (srt b q σ) (fun x=>getAttr x (Str.ofString "_ready_nodes") true) (.loc ⟨b,e0⟩) (fun W r=>V.VR W (.loc ⟨b+6,e0⟩) r) (srt b q σ):=arn h sr0 (srt1R hr) nlo nal
theorem ldp (h:Is C):V.Op1 C k (srt b q σ) (fun x=>getAttr x (Str.ofString "_npassedout") true) (.loc ⟨b,e0⟩) (fun W r=>V.VR W (.int q.po) r) (srt b q σ):=anp h sr0 sr1 nbi nia
theorem lnf (h:Is C):V.Op1 C k (srt b q σ) (fun x=>getAttr x (Str.ofString "_nfinished") true) (.loc ⟨b,e0⟩) (fun W r=>V.VR W (.int q.nf) r) (srt b q σ):=anf h sr0 sr1 nbi nia
theorem st_po (h:Is C) {v:Int}:V.Op2 C k (srt b q σ) (fun x y=>setAttr x (Str.ofString "_npassedout") y) (.loc ⟨b,e0⟩) (.int v) (fun u w=>True) (srt b {q with po:=v} σ):=by
 have z:=snp h (k:=k) (v:= .int v) (sr0 (b:=b) (q:=q) (σ:=σ)) sr1
 rw [←ss1 (b:=b) (q:=q) (σ:=σ) (q':={q with po:=v}) rfl rfl rfl rfl rfl];exact z
theorem st_nf (h:Is C) {v:Int}:V.Op2 C k (srt b q σ) (fun x y=>setAttr x (Str.ofString "_nfinished") y) (.loc ⟨b,e0⟩) (.int v) (fun u w=>True) (srt b {q with nf:=v} σ):=by
 have z:=snf h (k:=k) (v:= .int v) (sr0 (b:=b) (q:=q) (σ:=σ)) sr1
 rw [←ss1 (b:=b) (q:=q) (σ:=σ) (q':={q with nf:=v}) rfl rfl rfl rfl rfl];exact z
theorem isI (hx:x∈q.ks):V.IsI (srt b q σ) ⟨b+3,x⟩ 57 ⟨b+4,x⟩ (sI b q x):= .inr (sr3 hx)
theorem lnp (h:Is C) (hx:x∈q.ks):V.Op1 C k (srt b q σ) (fun x=>getAttr x (Str.ofString "npredecessors") true) (.loc ⟨b+3,x⟩) (fun W r=>V.VR W (.int (q.np x)) r) (srt b q σ):=gs1 h (isI hx) rfl nbi nia
theorem lsu (h:Is C) (hx:x∈q.ks):V.Op1 C k (srt b q σ) (fun x=>getAttr x (Str.ofString "successors") true) (.loc ⟨b+3,x⟩) (fun W r=>V.VR W (.loc ⟨b+5,x⟩) r) (srt b q σ):=gs2 h (isI hx) rfl nlo nal
theorem stn (h:Is C) (hx:x∈q.ks) {v:Int}:V.Op2 C k (srt b q σ) (fun x y=>setAttr x (Str.ofString "npredecessors") y) (.loc ⟨b+3,x⟩) (.int v) (fun u w=>True) (srt b (q.sNp x v) σ):=by
 have z:=psl h (k:=k) (v:= .int v) (isI (b:=b) (q:=q) (σ:=σ) hx)
 rw [←ss3 (b:=b) (q:=q) (σ:=σ) (q':=q.sNp x v) (vs:=V.spu (sI b q x) 1 (.int v)) hx rfl (fun y hy=>une hy) rfl rfl rfl rfl (by unfold sI SS.sNp;dsimp only;rw [usa];rfl)];exact z
theorem m_su (hx:x∈q.ks):V.Mt C k (srt b q σ) (.loc ⟨b+5,x⟩) (Str.ofString "append") (.bi "list.append"):=V.Map (sr5 hx)
theorem ap_su (hx:x∈q.ks) (hz:(q.su x).length≤1000):V.Ca C k (srt b q σ) (.bi "list.append") [.loc ⟨b+5,x⟩,.str p] [] .none (srt b (q.aSu x p) σ):=by
 have z:=V.Cap (C:=C) (k:=k) (x:= .str p) (sr5 (b:=b) (q:=q) (σ:=σ) hx) (V.lof (m:=1000) (by rw [List.length_map];exact hz) (by decide))
 rw [←ss5 (b:=b) (q:=q) (σ:=σ) (q':=q.aSu x p) (vs:=(q.su x).map .str++ [.str p]) hx rfl rfl (fun y hy=>une hy) rfl rfl rfl (by unfold SS.aSu;dsimp only;rw [usa,List.map_append];rfl)];exact z
theorem m_rd {r:List Str} (hr:q.rd=some r):V.Mt C k (srt b q σ) (.loc ⟨b+6,e0⟩) (Str.ofString "append") (.bi "list.append"):=V.Map (s6 hr)
theorem ap_rd {r:List Str} (hr:q.rd=some r) (hz:r.length≤1000):V.Ca C k (srt b q σ) (.bi "list.append") [.loc ⟨b+6,e0⟩,.str x] [] .none (srt b (q.aR x) σ):=by
 have z:=V.Cap (C:=C) (k:=k) (x:= .str x) (s6 (b:=b) (q:=q) (σ:=σ) hr) (V.lof (m:=1000) (by rw [List.length_map];exact hz) (by decide))
 rw [←ss6 (b:=b) (q:=q) (σ:=σ) (q':=q.aR x) (r:=r++ [x]) (vs:=r.map .str++ [.str x]) rfl rfl rfl (by rw [hr];rfl) (by unfold SS.aR;rw [hr];rfl) rfl rfl (by rw [List.map_append];rfl)];exact z
theorem mc_rd {r:List Str} (hr:q.rd=some r):V.Mt C k (srt b q σ) (.loc ⟨b+6,e0⟩) (Str.ofString "clear") (.bi "list.clear"):=V.Mcl (s6 hr)
theorem cl_rd {r:List Str} (hr:q.rd=some r) (hz:r.length≤1000):V.Ca C k (srt b q σ) (.bi "list.clear") [.loc ⟨b+6,e0⟩] [] .none (srt b {q with rd:=some []} σ):=by
 have z:=V.Ccl (C:=C) (k:=k) (s6 (b:=b) (q:=q) (σ:=σ) hr) (V.lof (m:=1000) (by rw [List.length_map];exact hz) (by decide))
 rw [←ss6 (b:=b) (q:=q) (σ:=σ) (q':={q with rd:=some []}) (r:= []) (vs:= []) rfl rfl rfl (by rw [hr];rfl) rfl rfl rfl rfl];exact z
theorem gn2 (hq:q.ks.Nodup) (hx:x∈q.ks):V.Op2 C k (srt b q σ) getItem (.loc ⟨b+2,e0⟩) (.str x) (fun W r=>V.VR W (.loc ⟨b+3,x⟩) r) (srt b q σ):=V.Dg (.inl sr2) (DNs hq) (dN hx)
theorem bn2:V.Bg C (srt b q σ) (.loc ⟨b+2,e0⟩):=V.Bdi (.inl sr2)
end
noncomputable def SS.ad1 (q:SS) (p:Str):SS:=(q.ins p).sNp p ((q.ins p).np p+1)
noncomputable def SS.add (q:SS) (p g:Str):SS:=((q.ad1 p).ins g).aSu g p
theorem c_add {C:V.Cx} (h:Is C) {k:Nat} {σ:V.St} {b:Nat} {q:SS} {p g:Str} (hb:Cl b σ) (hq:q.ks.Nodup) (hz:q.ks.length≤900) (hr:q.rd=none) (hs: ∀x,(q.su x).length≤1000):
  V.Cd C (k+4) (srt b q σ) (.ext 104) [.loc ⟨b,e0⟩,.str p,.str g] [] .none (srt b (q.add p g) σ):=by
 have hx0:=h.hx
 refine V.Cnm h.ok ⟨⟨_,_,_,by rw [h.K];exact rfl⟩,rfl,rfl,rfl,rfl,by rw [h.K];rfl,rfl,rfl,by decide+kernel⟩ [(Str.ofString "self",.local),(Str.ofString "node",.local),(Str.ofString "predecessors",.local),(Str.ofString "nodeinfo",.local),(Str.ofString "pred",.local),(Str.ofString "pred_info",.local),(Str.ofString "ValueError",.globalImplicit),(Str.ofString "len",.globalImplicit)] rfl ([(Str.ofString "self",.loc ⟨b,e0⟩),(Str.ofString "node",.str p)]++ [(Str.ofString "predecessors",.tup [.str g])]) _
  (V.Br (as:= [.loc ⟨b,e0⟩,.str p]) (rest:= [.str g]) (V.l2a fun x y=>V.l1a fun z=>rfl) rfl (Nat.le_of_ble_eq_true rfl)) rfl rfl fun sc hF n hn=> ?_
 obtain⟨n0,n1,n2,n3,n4,n5,n6,n7,_⟩:=hF
 have nd1:(q.ins p).ks.Nodup:=ino hq
 have z1:(q.ins p).ks.length≤901:=by unfold SS.ins;split;omega;simp;omega
 have r1:(q.ad1 p).rd=none:=by unfold SS.ad1 SS.sNp;exact ir.trans hr
 have s0: ∀(q:SS) (y:Str),(∀x,(q.su x).length≤1000)→ ∀x,((q.ins y).su x).length≤1000:=fun q y hs x=>by
  unfold SS.ins;split
  ·exact hs x
  ·simp only [upd];split
   ·simp
   ·exact hs x
 refine osr (fun y hy=>iks (q:=q.ad1 p) (iks hy)) (fun z=>by rw [hr]at z;cases z) ?_
 refine V.GF (V.TCo (c:=false) (V.EAt (V.ELo n0 rfl) (lN h hr) (fun u v=>rfl)) V.ENo (V.ni V.nno) rfl) ?_
 refine V.Gco (V.X1A (V.EMC (V.ELo n0 rfl) (mgn h sr0 sr1) (V.Eco (V.ELo n1 rfl) V.En (fun u=>rfl)) (KX h rfl) (V.Cd.ca (cgn h hb hq (by omega))) (fun u v=>rfl) (fun u=>rfl) rfl (fun u=>rfl)) (V.AL' n3 rfl) (fun u=>rfl) (fun u=>rfl) (fun u=>rfl)) ?_
 refine V.Gco (V.XAt (V.ELo n3 rfl) (lnp h ise) (V.ECa (V.EGl h.ok n7 (gle h)) (V.Eco (V.ELo n2 rfl) V.En (fun u=>rfl)) V.Kbi (V.CT (Nat.le_of_ble_eq_true rfl)) (fun u=>rfl) (fun u=>rfl)) V.iia (stn h ise)) ?_
 exact V.Gco (V.XF (f:= .next) (V.ELo n2 rfl) V.Itu trivial (V.Lr.cons trivial (V.AL' n4 rfl) (V.Eca (V.X1A (V.EMC (V.ELo n0 rfl) (mgn h sr0 sr1) (V.Eco (V.ELo n4 rfl) V.En (fun u=>rfl)) (KX h rfl) (V.Cd.ca (cgn (q:=q.ad1 p) h hb nd1 (show(q.ins p).ks.length≤1000 by omega))) (fun u v=>rfl) (fun u=>rfl) rfl (fun u=>rfl)) (V.AL' n5 rfl) (fun u=>rfl) (fun u=>rfl) (fun u=>rfl)) (V.Eca (V.X1E (V.EMC (V.EAt (V.ELo n5 rfl) (lsu h ise) (fun u v=>rfl)) (m_su ise) (V.Eco (V.ELo n1 rfl) V.En (fun u=>rfl)) V.Kbi (ap_su ise (s0 (q.ad1 p) g (fun x=>s0 q p hs x) g)) (fun u v=>rfl) (fun u=>rfl) rfl (fun u=>rfl)) (fun u v=>rfl)) V.Eni)) (.inl rfl) (V.Lr.nil trivial)) (fun u v=>rfl)) V.Gn
theorem cac {C:V.Cx} (h:Is C) {k:Nat} {σ:V.St} {b:Nat} {q:SS} {r:List Str} (hr:q.rd=some r) (hz:r.length≤1000):
  V.Cd C (k+3) (srt b q σ) (.ext 123) [.loc ⟨b,e0⟩] [] (.bool (decide (q.nf<q.po) || !r.isEmpty)) (srt b q σ):=by
 have hx0:=h.hx
 refine V.Cnm h.ok ⟨⟨_,_,_,by rw [h.K];exact rfl⟩,rfl,rfl,rfl,rfl,by rw [h.K];rfl,rfl,rfl,by decide+kernel⟩ [(Str.ofString "self",.local),(Str.ofString "ValueError",.globalImplicit),(Str.ofString "bool",.globalImplicit)] rfl [(Str.ofString "self",.loc ⟨b,e0⟩)] _
  (V.Bp (V.l1a fun a0=>rfl) rfl) rfl rfl fun sc hF n hn=> ?_
 obtain⟨n0,n1,n2,_⟩:=hF
 refine V.obo ?_
 refine V.GF (V.TCo (c:=false) (V.EAt (V.ELo n0 rfl) (lrd h hr) (fun u v=>rfl)) V.ENo (V.nis (b:=false) V.nnl) rfl) ?_
 rcases hc:decide (q.nf<q.po)with _ | _
 ·rw [Bool.false_or]
  exact V.Gre (V.EOp (V.Bor (V.ECo (V.EAt (V.ELo n0 rfl) (lnf h) (fun u v=>rfl)) (V.EAt (V.ELo n0 rfl) (ldp h) (fun u v=>rfl)) (V.il' hc) rfl) V.btr (V.Bla (V.ECa (V.EGl h.ok n2 (g_bool h)) (V.Eco (V.EAt (V.ELo n0 rfl) (lrd h hr) (fun u v=>rfl)) V.En (fun u=>rfl)) V.Kty (V.CbL (.loc (s6 hr)) (V.lof (m:=1000) (by rw [List.length_map];exact hz) (by decide)) (by rw [List.isEmpty_map])) (fun u=>rfl) (fun u=>rfl)))))
 ·rw [Bool.true_or]
  exact V.Gre (V.EOp (V.Bo (V.ECo (V.EAt (V.ELo n0 rfl) (lnf h) (fun u v=>rfl)) (V.EAt (V.ELo n0 rfl) (ldp h) (fun u v=>rfl)) (V.il' hc) rfl) V.btr))
noncomputable def SS.out (q:SS) (r:List Str):SS:={(r.foldl (fun q x=>q.sNp x (-1)) q)with rd:=some [],po:=q.po+r.length}
theorem fnp (r:List Str) (v:Int): ∀q:SS,(r.foldl (fun q x=>q.sNp x v) q)={q with np:=(r.foldl (fun q x=>q.sNp x v) q).np}:=by
 induction r with
 | nil=>intro q;rfl
 | cons x r ih=>intro q;rw [List.foldl_cons,ih];rfl
theorem cra {C:V.Cx} (h:Is C) {k:Nat} {σ:V.St} {b:Nat} {q:SS} {r:List Str} (hr:q.rd=some r) (hz:r.length≤1000) (hq:q.ks.Nodup) (hx: ∀x∈r,x∈q.ks):
  V.Cd C (k+3) (srt b q σ) (.ext 116) [.loc ⟨b,e0⟩] [] (.tup (r.map .str)) (srt b (q.out r) σ):=by
 have hx0:=h.hx
 refine V.Cnm h.ok ⟨⟨_,_,_,by rw [h.K];exact rfl⟩,rfl,rfl,rfl,rfl,by rw [h.K];rfl,rfl,rfl,by decide+kernel⟩ [(Str.ofString "self",.local),(Str.ofString "result",.local),(Str.ofString "n2i",.local),(Str.ofString "node",.local),(Str.ofString "ValueError",.globalImplicit),(Str.ofString "tuple",.globalImplicit),(Str.ofString "_NODE_OUT",.globalImplicit),(Str.ofString "len",.globalImplicit)] rfl [(Str.ofString "self",.loc ⟨b,e0⟩)] _
  (V.Bp (V.l1a fun a0=>rfl) rfl) rfl rfl fun sc hF n hn=> ?_
 obtain⟨n0,n1,n2,n3,n4,n5,n6,n7,_⟩:=hF
 have e1:=fnp r (-1) q
 have hr':(r.foldl (fun q x=>q.sNp x (-1)) q).rd=some r:=by rw [e1];exact hr
 have hk':(r.foldl (fun q x=>q.sNp x (-1)) q).ks=q.ks:=by rw [e1]
 have hz':(r.map AV.str).length≤sizeLine:=V.lof (m:=1000) (by rw [List.length_map];exact hz) (by decide)
 have ek:(q.out r).ks=q.ks:=by unfold SS.out;exact hk'
 refine osR (fun y hy=>by rw [ek];exact hy) (fun u=>rfl) ?_ (by simp only [V.AV.In];exact V.Pu (fun x=>V.Pst) _)
 refine V.GF (V.TCo (c:=false) (V.EAt (V.ELo n0 rfl) (lrd h hr) (fun u v=>rfl)) V.ENo (V.nis (b:=false) V.nnl) rfl) ?_
 refine V.Gco (V.X1A (V.ECa (V.EGl h.ok n5 (gtu h)) (V.Eco (V.EAt (V.ELo n0 rfl) (lrd h hr) (fun u v=>rfl)) V.En (fun u=>rfl)) V.Kty (V.CtO (.loc (s6 hr)) hz') (fun u=>rfl) (fun u=>rfl)) (V.AL' n1 rfl) (fun u=>rfl) (fun u=>rfl) (fun u=>rfl)) ?_
 refine V.Gco (V.X1A (V.EAt (V.ELo n0 rfl) (ldi h) (fun u v=>rfl)) (V.AL' n2 rfl) (fun u=>rfl) (fun u=>rfl) (fun u=>rfl)) ?_
 have turns:=fun(tgt:Expr) (body:List Stmt) hturn=>V.Lf (C:=C) (k:=k+2) (sc:=sc) (ok:=fun u=>True) (tgt:=tgt) (body:=body) (enc:=AV.str)
  (M:=fun(a:SS×Option AV)=> [some (.loc ⟨b,e0⟩),some (.tup (r.map .str)),some (.loc ⟨b+2,e0⟩),a.2,none,none,none,none])
  (Sg:=fun a=>srt b a.1 σ) (step:=fun a c=>(a.1.sNp c (-1),some (.str c))) (P:=fun a xs=>a.1.ks=q.ks∧ ∀x∈xs,x∈q.ks)
  (fun u v w=>trivial) (fun a x xs hP=>⟨hP.1,fun y hy=>hP.2 y (.tail _ hy)⟩) hturn r (q,none) ⟨rfl,hx⟩
 refine V.GFo (V.ELo n1 rfl) V.Itu trivial (turns _ _ ?_) (fun u v=>rfl) ?_
 ·rintro ⟨a,o⟩ c xs hP
  have hc:c∈a.ks:=by rw [show a.ks=q.ks from hP.1];exact hP.2 c (.head _)
  have hn':a.ks.Nodup:=by rw [show a.ks=q.ks from hP.1];exact hq
  refine V.Tu (V.AL' n3 rfl) ?_
  exact V.Eca (V.X1A (V.EGl h.ok n6 (gNO h)) (V.AAt (V.ESu (V.ELo n2 rfl) (V.ELo n3 rfl) bn2 (gn2 hn' hc)) (stn h hc)) (fun u=>rfl) (fun u=>rfl) (fun u=>rfl)) V.Eni
 ·have pr: ∀(xs:List Str) (a:SS×Option AV),(xs.foldl (fun a c=>(a.1.sNp c (-1),some (AV.str c))) a).1=xs.foldl (fun q x=>q.sNp x (-1)) a.1:=by
   intro xs
   induction xs with
   | nil=>intro a;rfl
   | cons x xs ih=>intro a;exact ih _
  simp only [pr]
  refine V.Gco (V.X1E (V.EMC (V.EAt (V.ELo n0 rfl) (lrd h hr') (fun u v=>rfl)) (mc_rd hr') V.En V.Kbi (cl_rd hr' hz) (fun u v=>rfl) (fun u=>rfl) rfl (fun u=>rfl)) (fun u v=>rfl)) ?_
  have e2:(r.foldl (fun q x=>q.sNp x (-1)) q).po=q.po:=by rw [e1]
  have eo:{(r.foldl (fun q x=>q.sNp x (-1)) q)with rd:=some [],po:=(r.foldl (fun q x=>q.sNp x (-1)) q).po+((r.map AV.str).length:Int)}=q.out r:=by
   unfold SS.out;rw [e2,List.length_map]
  rw [←eo]
  refine V.Gco (V.XAt (V.ELo n0 rfl) (ldp h) (V.ECa (V.EGl h.ok n7 (gle h)) (V.Eco (V.ELo n1 rfl) V.En (fun u=>rfl)) V.Kbi (V.CT hz') (fun u=>rfl) (fun u=>rfl)) V.iia (st_po h)) ?_
  exact V.Gre (V.ELo n1 rfl)
end L2
end
section
namespace L2
open Builtin Builtin.Str
local macro_rules | `(tactic| kln_le)=> `(tactic| first
 | (with_reducible assumption)
 | ((with_reducible apply V.Bc)<;>kln_le)
 | ((with_reducible apply V.Bs);kln_le)
 | ((with_reducible apply V.Bm)<;>first | kln_le | omega)
 | ((with_reducible apply V.Bl (x:=Str.ofString _));rfl))
open V (AV AO)
noncomputable def SS.dec (q:SS) (y:Str):SS:=if(q.sNp y (q.np y - 1)).np y==0 then(q.sNp y (q.np y - 1)).aR y else q.sNp y (q.np y - 1)
noncomputable def SS.fin1 (q:SS):SS:={q with nf:=q.nf+1}
noncomputable def SS.do1 (q:SS) (x:Str):SS:=((q.su x).foldl SS.dec (q.sNp x (-2))).fin1
noncomputable def SS.don (q:SS) (xs:List Str):SS:=xs.foldl SS.do1 q
theorem dks (q:SS) (y:Str):(q.dec y).ks=q.ks:=by unfold SS.dec;split<;>rfl
theorem dsu (q:SS) (y:Str):(q.dec y).su=q.su:=by unfold SS.dec;split<;>rfl
theorem dnp (q:SS) (y z:Str) (h:z≠y):(q.dec y).np z=q.np z:=by unfold SS.dec;split<;>exact une h
theorem drd (q:SS) (y:Str) {r:List Str} (h:q.rd=some r): ∃r',(q.dec y).rd=some r'∧r'.length≤r.length+1:=by
 unfold SS.dec;split
 ·exact⟨r++ [y],by unfold SS.aR SS.sNp;simp [h],by simp⟩
 ·exact⟨r,h,by omega⟩
theorem decs (ys:List Str): ∀(q:SS),(ys.foldl SS.dec q).ks=q.ks∧(ys.foldl SS.dec q).su=q.su∧(∀z,z∉ys→(ys.foldl SS.dec q).np z=q.np z)∧ ∀r,q.rd=some r→ ∃r',(ys.foldl SS.dec q).rd=some r'∧r'.length≤r.length+ys.length:=by
 induction ys with
 | nil=>intro q;exact⟨rfl,rfl,fun u v=>rfl,fun r h=>⟨r,h,by simp⟩⟩
 | cons y ys ih=>
  intro q
  obtain⟨a,b,c,d⟩:=ih (q.dec y)
  refine⟨a.trans (dks q y),b.trans (dsu q y),fun z hz=> ?_,fun r h=> ?_⟩
  ·rw [List.mem_cons,not_or]at hz
   exact(c z hz.2).trans (dnp q y z hz.1)
  ·obtain⟨r1,h1,l1⟩:=drd q y h
   obtain⟨r2,h2,l2⟩:=d r1 h1
   exact⟨r2,h2,by simp only [List.length_cons];omega⟩
theorem d1f (q:SS) (x:Str):(q.do1 x).ks=q.ks∧(q.do1 x).su=q.su∧(∀z,z≠x→z∉q.su x→(q.do1 x).np z=q.np z)∧ ∀r,q.rd=some r→ ∃r',(q.do1 x).rd=some r'∧r'.length≤r.length+(q.su x).length:=by
 obtain⟨a,b,c,d⟩:=decs (q.su x) (q.sNp x (-2))
 refine⟨a,b,fun z h1 h2=>(c z h2).trans (une h1),d⟩
structure DP (q:SS) (xs:List Str):Prop where
 rd: ∃r,q.rd=some r∧r.length+(xs.flatMap q.su).length≤1000
 nd:q.ks.Nodup
 cl: ∀x∈q.ks,∀y∈q.su x,y∈q.ks
 out: ∀x∈xs,x∈q.ks∧q.np x= -1
 xnd:xs.Nodup
 far: ∀x∈xs,∀y∈xs,y∉q.su x
theorem DP.step {q:SS} {x:Str} {xs:List Str} (h:DP q (x::xs)):DP (q.do1 x) xs:=by
 obtain⟨a,b,c,d⟩:=d1f q x
 obtain⟨r,hr,hl⟩:=h.rd
 obtain⟨r',hr',hl'⟩:=d r hr
 refine⟨⟨r',hr',?_⟩,by rw [a];exact h.nd,fun z hz y hy=> ?_,fun z hz=> ?_,(List.nodup_cons.mp h.xnd).2,fun z hz y hy=> ?_⟩
 ·rw [b];simp only [List.flatMap_cons,List.length_append]at hl;omega
 ·rw [a]at hz⊢;rw [b]at hy;exact h.cl z hz y hy
 ·rw [a]
  refine⟨(h.out z (.tail _ hz)).1,?_⟩
  rw [c z (fun e=>(List.nodup_cons.mp h.xnd).1 (by rw [←e];exact hz)) (h.far x (.head _) z (.tail _ hz))]
  exact(h.out z (.tail _ hz)).2
 ·rw [b];exact h.far z (.tail _ hz) y (.tail _ hy)
theorem DP.all: ∀{xs:List Str} {q:SS},DP q xs→(q.don xs).ks=q.ks∧(q.don xs).su=q.su∧ ∃r,(q.don xs).rd=some r
 | [],q,h=>⟨rfl,rfl,h.rd.elim fun r z=>⟨r,z.1⟩⟩
 | x::xs,q,h=>by
  obtain⟨a,b,c⟩:=DP.all h.step
  exact⟨a.trans (d1f q x).1,b.trans (d1f q x).2.1,c⟩
theorem cdo {C:V.Cx} (h:Is C) {k:Nat} {σ:V.St} {b:Nat} {q:SS} {gs:List Str} (hp:DP q gs) (hz:gs.length≤1000):
  V.Cd C (k+3) (srt b q σ) (.ext 137) (.loc ⟨b,e0⟩::gs.map .str) [] .none (srt b (q.don gs) σ):=by
 have hx0:=h.hx
 refine V.Cnm h.ok ⟨⟨_,_,_,by rw [h.K];exact rfl⟩,rfl,rfl,rfl,rfl,by rw [h.K];rfl,rfl,rfl,by decide+kernel⟩ [(Str.ofString "self",.local),(Str.ofString "nodes",.local),(Str.ofString "n2i",.local),(Str.ofString "node",.local),(Str.ofString "nodeinfo",.local),(Str.ofString "stat",.local),(Str.ofString "successor",.local),(Str.ofString "successor_info",.local),(Str.ofString "ValueError",.globalImplicit),(Str.ofString "_NODE_OUT",.globalImplicit),(Str.ofString "_NODE_DONE",.globalImplicit)] rfl ([(Str.ofString "self",.loc ⟨b,e0⟩)]++ [(Str.ofString "nodes",.tup (gs.map .str))]) _
  (V.Br (as:= [.loc ⟨b,e0⟩]) (rest:=gs.map .str) (V.l1a fun x rr u=>by cases rr<;>rfl) rfl (V.lof (m:=1000) (by rw [List.length_map];exact hz) (by decide))) rfl rfl fun sc hF n hn=> ?_
 obtain⟨n0,n1,n2,n3,n4,n5,n6,n7,n8,n9,n10,_⟩:=hF
 obtain⟨r,hr,hrl⟩:=hp.rd
 obtain⟨ek,es,rr,er⟩:=hp.all
 refine osr (fun y hy=>by rw [ek];exact hy) (fun u=>by rw [er];rfl) ?_
 refine V.GF (V.TCo (c:=false) (V.EAt (V.ELo n0 rfl) (lrd h hr) (fun u v=>rfl)) V.ENo (V.nis (b:=false) V.nnl) rfl) ?_
 refine V.Gco (V.X1A (V.EAt (V.ELo n0 rfl) (ldi h) (fun u v=>rfl)) (V.AL' n2 rfl) (fun u=>rfl) (fun u=>rfl) (fun u=>rfl)) ?_
 have turns:=fun(tgt:Expr) (body:List Stmt) hturn=>V.Lf (C:=C) (k:=k+2) (sc:=sc) (ok:=fun u=>True) (tgt:=tgt) (body:=body) (enc:=AV.str)
  (M:=fun(a:SS×Option AV×Option AV×Option AV×Option AV×Option AV)=> [some (.loc ⟨b,e0⟩),some (.tup (gs.map .str)),some (.loc ⟨b+2,e0⟩),a.2.1,a.2.2.1,a.2.2.2.1,a.2.2.2.2.1,a.2.2.2.2.2,none,none,none])
  (Sg:=fun a=>srt b a.1 σ) (step:=fun a c=>(a.1.do1 c,some (.str c),some (.loc ⟨b+3,c⟩),some (.int (-1)),((a.1.su c).foldl (fun(a:SS×Option AV×Option AV) y=>(a.1.dec y,some (.str y),some (.loc ⟨b+3,y⟩))) (a.1.sNp c (-2),a.2.2.2.2)).2)) (P:=fun a xs=>DP a.1 xs)
  (fun u v w=>trivial) (fun a x xs hP=>hP.step) hturn gs (q,none,none,none,none,none) hp
 refine V.GFo (V.ELo n1 rfl) V.Itu trivial (turns _ _ ?_) (fun u v=>rfl) ?_
 ·rintro ⟨a,o1,o2,o3,o4,o5⟩ c xs hP
  have hP:DP a (c::xs):=hP
  obtain⟨r1,hr1,hl1⟩:=hP.rd
  have hnd:=hP.nd
  obtain⟨hc,hnp⟩:=hP.out c (.head _)
  refine V.Tu (V.AL' n3 rfl) ?_
  refine V.EIF (V.TCo (c:=false) (V.ENa (V.EMC (V.ELo n2 rfl) (V.Mdg (.inl sr2)) (V.Eco (V.ELo n3 rfl) V.En (fun u=>rfl)) V.Kbi (V.Cdg (.inl sr2) (DNs hnd) (by rw [dN hc];rfl)) (fun u v=>rfl) (fun u=>rfl) rfl (fun u=>rfl)) (V.AL' n4 rfl)) V.ENo (V.nis (b:=false) V.nnl) rfl) ?_
  refine V.Eca (V.X1A (V.EAt (V.ELo n4 rfl) (lnp h hc) (fun u v=>rfl)) (V.AL' n5 rfl) (fun u=>rfl) (fun u=>rfl) (fun u=>rfl)) ?_
  rw [hnp]
  refine V.EIF (V.TCo (c:=false) (V.ELo n5 rfl) (V.EGl h.ok n9 (gNO h)) (V.ink rfl) rfl) ?_
  refine V.Eca (V.X1A (V.EGl h.ok n10 (gNa h)) (V.AAt (V.ELo n4 rfl) (stn h hc)) (fun u=>rfl) (fun u=>rfl) (fun u=>rfl)) ?_
  have hc2:c∈(a.sNp c (-2)).ks:=hc
  have inner:=fun(tgt:Expr) (body:List Stmt) hturn=>V.Lf (C:=C) (k:=k+2) (sc:=sc) (ok:=fun σ'=>V.IsL σ' (.loc ⟨b+5,c⟩) ((a.su c).map .str)) (tgt:=tgt) (body:=body) (enc:=AV.str)
   (M:=fun(z:SS×Option AV×Option AV)=> [some (.loc ⟨b,e0⟩),some (.tup (gs.map .str)),some (.loc ⟨b+2,e0⟩),some (.str c),some (.loc ⟨b+3,c⟩),some (.int (-1)),z.2.1,z.2.2,none,none,none])
   (Sg:=fun z=>srt b z.1 σ) (step:=fun(a:SS×Option AV×Option AV) y=>(a.1.dec y,some (.str y),some (.loc ⟨b+3,y⟩)))
   (P:=fun z ys=>z.1.ks=a.ks∧z.1.su=a.su∧(∃r,z.1.rd=some r∧r.length+ys.length≤1000)∧ ∀y∈ys,y∈a.ks)
   (fun z ys hz=> .loc (by rw [sr5 (by rw [hz.1];exact hc),hz.2.1])) (fun z y ys hz=>by
    obtain⟨z1,z2,⟨r,z3,z4⟩,z5⟩:=hz
    obtain⟨r',y1,y2⟩:=drd z.1 y z3
    exact⟨(dks _ _).trans z1,(dsu _ _).trans z2,⟨r',y1,by simp only [List.length_cons]at z4;omega⟩,fun y hy=>z5 y (.tail _ hy)⟩) hturn (a.su c) (a.sNp c (-2),o4,o5)
   ⟨rfl,rfl,⟨r1,hr1,by simp only [List.flatMap_cons,List.length_append]at hl1;omega⟩,fun y hy=>hP.cl c hc y hy⟩
  have pr: ∀(ys:List Str) (z:SS×Option AV×Option AV),(ys.foldl (fun(a:SS×Option AV×Option AV) y=>(a.1.dec y,some (AV.str y),some (AV.loc ⟨b+3,y⟩))) z).1=ys.foldl SS.dec z.1:=by
   intro ys
   induction ys with
   | nil=>intro z;rfl
   | cons y ys ih=>intro z;exact ih _
  refine V.Eca (V.XF (f:= .next) (V.EAt (V.ELo n4 rfl) (lsu h hc2) (fun u v=>rfl)) V.Il (.loc (sr5 hc2)) (inner _ _ ?_) (fun u v=>rfl)) ?_
  ·rintro ⟨z,p1,p2⟩ y ys hz
   obtain⟨z1,z2,⟨rz,z3,z4⟩,z5⟩:=hz
   have z1:z.ks=a.ks:=z1
   have z3:z.rd=some rz:=z3
   have hy:y∈z.ks:=by rw [z1];exact z5 y (.head _)
   have hn':z.ks.Nodup:=by rw [z1];exact hnd
   refine V.Tu (V.AL' n6 rfl) ?_
   refine V.Eca (V.X1A (V.ESu (V.ELo n2 rfl) (V.ELo n6 rfl) bn2 (gn2 hn' hy)) (V.AL' n7 rfl) (fun u=>rfl) (fun u=>rfl) (fun u=>rfl)) ?_
   refine V.Eca (V.XAt (V.ELo n7 rfl) (lnp h hy) V.EIn V.iis (stn h hy)) ?_
   have hy2:y∈(z.sNp y (z.np y - 1)).ks:=hy
   have zl:rz.length≤1000:=by simp only [List.length_cons]at z4;omega
   rcases ht:((z.sNp y (z.np y - 1)).np y==0)with _ | _
   ·have e:z.dec y=z.sNp y (z.np y - 1):=by unfold SS.dec;rw [if_neg (by rw [ht];decide)]
    dsimp only
    rw [e]
    exact V.EIF (V.TCo (c:=false) (V.EAt (V.ELo n7 rfl) (lnp h hy2) (fun u v=>rfl)) V.EIn (V.ie ht) rfl) V.Eni
   ·have e:z.dec y=(z.sNp y (z.np y - 1)).aR y:=by unfold SS.dec;rw [if_pos ht]
    dsimp only
    rw [e]
    have hrz:(z.sNp y (z.np y - 1)).rd=some rz:=z3
    exact V.EIT (V.TCo (c:=true) (V.EAt (V.ELo n7 rfl) (lnp h hy2) (fun u v=>rfl)) V.EIn (V.ie ht) rfl) (V.Eca (V.X1E (V.EMC (V.EAt (V.ELo n0 rfl) (lrd h hrz) (fun u v=>rfl)) (m_rd hrz) (V.Eco (V.ELo n6 rfl) V.En (fun u=>rfl)) V.Kbi (ap_rd hrz zl) (fun u v=>rfl) (fun u=>rfl) rfl (fun u=>rfl)) (fun u v=>rfl)) V.Eni)
  ·dsimp only
   unfold SS.do1 SS.fin1
   have pr1:(a.su c).foldl SS.dec (a.sNp c (-2))=((a.su c).foldl (fun(a:SS×Option AV×Option AV) y=>(a.1.dec y,some (AV.str y),some (AV.loc ⟨b+3,y⟩))) (a.sNp c (-2),o4,o5)).1:=(pr (a.su c) (a.sNp c (-2),o4,o5)).symm
   rw [pr1]
   exact V.Eca (V.XAt (V.ELo n0 rfl) (lnf h) V.EIn V.iia (st_nf h)) V.Eni
 ·have pr: ∀(xs:List Str) (z:SS×Option AV×Option AV×Option AV×Option AV×Option AV) (f:SS×Option AV×Option AV×Option AV×Option AV×Option AV→Str→Option AV×Option AV×Option AV×Option AV×Option AV),(xs.foldl (fun a c=>(a.1.do1 c,f a c)) z).1=xs.foldl SS.do1 z.1:=by
   intro xs
   induction xs with
   | nil=>intro z f;rfl
   | cons x xs ih=>intro z f;exact ih _ f
  rw [pr]
  exact V.Gn
end L2
end
section
namespace L2
open Builtin Builtin.Str
local macro_rules | `(tactic| kln_le)=> `(tactic| first
 | (with_reducible assumption)
 | ((with_reducible apply V.Bc)<;>kln_le)
 | ((with_reducible apply V.Bs);kln_le)
 | ((with_reducible apply V.Bm)<;>first | kln_le | omega)
 | ((with_reducible apply V.Bl (x:=Str.ofString _));rfl))
open V (AV AO)
noncomputable def qt (x:Str):Str:=Str.ofString "'"++x++Str.ofString "'"
noncomputable def Rq (C:V.Cx) (k:Nat) (sc:Scope) (ms:List (Option AV)) (σ:V.St) (ss:List Stmt) (cls:Value) (as:List AV) (σ':V.St):Prop:= ∃ms',V.Rz C k sc ms σ (execs ss) cls as ms' σ'
section
variable {C:V.Cx} {k:Nat} {sc:Scope} {ms ms₁ ms₂ ms':List (Option AV)} {σ σ₁ σ₂ σ':V.St} {cls:Value} {as:List AV}
theorem Rc {st:Stmt} {rest:List Stmt} (h1:V.X1 C k sc ms σ st .next ms₁ σ₁) (h2:Rq C k sc ms₁ σ₁ rest cls as σ'):Rq C k sc ms σ (st::rest) cls as σ':=h2.elim fun m z=>⟨m,V.Rxc h1 z⟩
theorem RT {test:Expr} {x y rest:List Stmt} {pos:Pos} (h1:V.Tv C k sc ms σ test true ms₁ σ₁) (h2:Rq C k sc ms₁ σ₁ (x++rest) cls as σ'):Rq C k sc ms σ (.If test x y pos::rest) cls as σ':=h2.elim fun m z=>⟨m,V.RxT h1 z⟩
theorem RIF {test:Expr} {x y rest:List Stmt} {pos:Pos} (h1:V.Tv C k sc ms σ test false ms₁ σ₁) (h2:Rq C k sc ms₁ σ₁ (y++rest) cls as σ'):Rq C k sc ms σ (.If test x y pos::rest) cls as σ':=h2.elim fun m z=>⟨m,V.RxF h1 z⟩
theorem Rqs {st:Stmt} {rest:List Stmt} (h:V.Rz C k sc ms σ (exec st) cls as ms' σ'):Rq C k sc ms σ (st::rest) cls as σ':=⟨_,V.Rx h⟩
theorem RFo {tgt iter:Expr} {body rest:List Stmt} {pos:Pos} {v:AV} {ok:V.St→Prop} {x:AV} {xs:List AV} {src:AV} {Sh:Nat→Value→Obj→Prop} (h1:V.Ev C k sc ms σ iter v ms₁ σ₁) (I:V.Itr C k ok v (x::xs) src Sh) (hok:ok σ₁) (ha:V.As C k sc ms₁ σ₁ tgt x ms₂ σ₂) (hx:Rq C k sc ms₂ σ₂ body cls as σ') (hs: ∀env x,foldedSetIterable iter env x=pure x):Rq C k sc ms σ (.For tgt iter body [] pos::rest) cls as σ':=hx.elim fun m z=>⟨m,V.Rx (V.R_For h1 I hok ha z hs)⟩
theorem oh {body:List Stmt} {σ₀:V.St} (h:Rq C k sc ms σ₁ body cls as σ') (e:V.ExX σ₀ σ' as σ'): ∃ms' σf,V.Rz C k sc ms σ₁ (execs body) cls as ms' σf∧V.ExX σ₀ σf as σ':=h.elim fun m z=>⟨m,_,z,e⟩
end
noncomputable def mNot (x:Str):Str:=Str.empty++Str.ofString "node "++qt x++Str.ofString " was not added using add()"
noncomputable def mSt (x:Str):Str:=Str.empty++Str.ofString "node "++qt x++Str.ofString " was not passed out (still not ready)"
noncomputable def mD (x:Str):Str:=Str.empty++Str.ofString "node "++qt x++Str.ofString " was already marked done"
theorem Bq {x:Str} (hx:V.B x 20):V.B (qt x) 22:=V.Bc (a:=21) (V.Bc (a:=1) (V.Bl rfl) hx) (b:=1) (V.Bl rfl)
theorem x_not {C:V.Cx} (h:Is C) {k:Nat} {σ:V.St} {b:Nat} {q:SS} {x:Str} {r:List Str} (hr:q.rd=some r) (hnd:q.ks.Nodup) (hx:V.B x 20) (hrep:reprText x=qt x) (hc:x∉q.ks):
  V.CaX C (k+3) (srt b q σ) (.ext 137) [.loc ⟨b,e0⟩,.str x] (.type "ValueError") [.str (mNot x)] (srt b q σ):=by
 have hx0:=h.hx
 refine V.CX h.ok ⟨⟨_,_,_,by rw [h.K];exact rfl⟩,rfl,rfl,rfl,rfl,by rw [h.K];rfl,rfl,rfl,by decide+kernel⟩ [(Str.ofString "self",.local),(Str.ofString "nodes",.local),(Str.ofString "n2i",.local),(Str.ofString "node",.local),(Str.ofString "nodeinfo",.local),(Str.ofString "stat",.local),(Str.ofString "successor",.local),(Str.ofString "successor_info",.local),(Str.ofString "ValueError",.globalImplicit),(Str.ofString "_NODE_OUT",.globalImplicit),(Str.ofString "_NODE_DONE",.globalImplicit)] rfl ([(Str.ofString "self",.loc ⟨b,e0⟩)]++ [(Str.ofString "nodes",.tup [.str x])]) _
  (V.Br (as:= [.loc ⟨b,e0⟩]) (rest:= [.str x]) (V.l1a fun x=>V.l1a fun z=>rfl) rfl (Nat.le_of_ble_eq_true rfl)) rfl rfl fun sc ⟨n0,n1,n2,n3,n4,n5,n6,n7,n8,n9,n10,_⟩ n hn=>oh ?_ ⟨fun u v z=>z,fun u z=>z,fun u v z=> .inl z,by simp only [V.AV.Ins,V.AV.In,and_self]⟩
 refine RIF (V.TCo (c:=false) (V.EAt (V.ELo n0 rfl) (lrd h hr) (fun u v=>rfl)) V.ENo (V.nis (b:=false) V.nnl) rfl) ?_
 refine Rc (V.X1A (V.EAt (V.ELo n0 rfl) (ldi h) (fun u v=>rfl)) (V.AL' n2 rfl) (fun u=>rfl) (fun u=>rfl) (fun u=>rfl)) ?_
 refine RFo (V.ELo n1 rfl) (V.Itu (xs:= [.str x])) trivial (V.AL' n3 rfl) ?_ (fun u v=>rfl)
 exact RT (V.TCo (c:=true) (V.ENa (V.EMC (V.ELo n2 rfl) (V.Mdg (.inl sr2)) (V.Eco (V.ELo n3 rfl) V.En (fun u=>rfl)) V.Kbi (V.Cdg (.inl sr2) (DNs hnd) (by rw [dsN hc];rfl)) (fun u v=>rfl) (fun u=>rfl) rfl (fun u=>rfl)) (V.AL' n4 rfl)) V.ENo (V.nis (b:=true) V.nno) rfl) (Rqs (V.RRa PySem.F.excCall_ValueError PySem.F.excRaise_ValueError hx0 (V.EGl h.ok n8 (gVE h)) (V.Eco (V.EJo (V.Jc V.ESt (V.Bc (a:=0) (b:=5) (V.Bl rfl) (V.Bl rfl)) (by decide) (V.Jc (V.EFR (V.ELo n3 rfl) hrep (Bq hx) (by decide)) (V.Bc (a:=5) (b:=22) (V.Bc (a:=0) (b:=5) (V.Bl rfl) (V.Bl rfl)) (Bq hx)) (by decide) (V.Jc V.ESt (V.Bc (a:=27) (b:=26) (V.Bc (a:=5) (b:=22) (V.Bc (a:=0) (b:=5) (V.Bl rfl) (V.Bl rfl)) (Bq hx)) (V.Bl rfl)) (by decide) V.Jni))) (V.Bc (a:=27) (b:=26) (V.Bc (a:=5) (b:=22) (V.Bc (a:=0) (b:=5) (V.Bl rfl) (V.Bl rfl)) (Bq hx)) (V.Bl rfl)) (by decide)) V.En (fun u=>rfl)) (Nat.le_of_ble_eq_true rfl) (fun u=>rfl)))
theorem xst {C:V.Cx} (h:Is C) {k:Nat} {σ:V.St} {b:Nat} {q:SS} {x:Str} {r:List Str} (hr:q.rd=some r) (hnd:q.ks.Nodup) (hx:V.B x 20) (hrep:reprText x=qt x) (hc:x∈q.ks) (hv:0≤q.np x):
  V.CaX C (k+3) (srt b q σ) (.ext 137) [.loc ⟨b,e0⟩,.str x] (.type "ValueError") [.str (mSt x)] (srt b q σ):=by
 have hx0:=h.hx
 refine V.CX h.ok ⟨⟨_,_,_,by rw [h.K];exact rfl⟩,rfl,rfl,rfl,rfl,by rw [h.K];rfl,rfl,rfl,by decide+kernel⟩ [(Str.ofString "self",.local),(Str.ofString "nodes",.local),(Str.ofString "n2i",.local),(Str.ofString "node",.local),(Str.ofString "nodeinfo",.local),(Str.ofString "stat",.local),(Str.ofString "successor",.local),(Str.ofString "successor_info",.local),(Str.ofString "ValueError",.globalImplicit),(Str.ofString "_NODE_OUT",.globalImplicit),(Str.ofString "_NODE_DONE",.globalImplicit)] rfl ([(Str.ofString "self",.loc ⟨b,e0⟩)]++ [(Str.ofString "nodes",.tup [.str x])]) _
  (V.Br (as:= [.loc ⟨b,e0⟩]) (rest:= [.str x]) (V.l1a fun x=>V.l1a fun z=>rfl) rfl (Nat.le_of_ble_eq_true rfl)) rfl rfl fun sc ⟨n0,n1,n2,n3,n4,n5,n6,n7,n8,n9,n10,_⟩ n hn=>oh ?_ ⟨fun u v z=>z,fun u z=>z,fun u v z=> .inl z,by simp only [V.AV.Ins,V.AV.In,and_self]⟩
 refine RIF (V.TCo (c:=false) (V.EAt (V.ELo n0 rfl) (lrd h hr) (fun u v=>rfl)) V.ENo (V.nis (b:=false) V.nnl) rfl) ?_
 refine Rc (V.X1A (V.EAt (V.ELo n0 rfl) (ldi h) (fun u v=>rfl)) (V.AL' n2 rfl) (fun u=>rfl) (fun u=>rfl) (fun u=>rfl)) ?_
 refine RFo (V.ELo n1 rfl) (V.Itu (xs:= [.str x])) trivial (V.AL' n3 rfl) ?_ (fun u v=>rfl)
 refine RIF (V.TCo (c:=false) (V.ENa (V.EMC (V.ELo n2 rfl) (V.Mdg (.inl sr2)) (V.Eco (V.ELo n3 rfl) V.En (fun u=>rfl)) V.Kbi (V.Cdg (.inl sr2) (DNs hnd) (by rw [dN hc];rfl)) (fun u v=>rfl) (fun u=>rfl) rfl (fun u=>rfl)) (V.AL' n4 rfl)) V.ENo (V.nis (b:=false) V.nnl) rfl) ?_
 refine Rc (V.X1A (V.EAt (V.ELo n4 rfl) (lnp h hc) (fun u v=>rfl)) (V.AL' n5 rfl) (fun u=>rfl) (fun u=>rfl) (fun u=>rfl)) ?_
 refine RT (V.TCo (c:=true) (V.ELo n5 rfl) (V.EGl h.ok n9 (gNO h)) (V.ink (by rw [bne_iff_ne];omega)) rfl) ?_
 exact RT (V.TCo (c:=true) (V.ELo n5 rfl) V.EIn (V.ig (by simpa using hv)) rfl) (Rqs (V.RRa PySem.F.excCall_ValueError PySem.F.excRaise_ValueError hx0 (V.EGl h.ok n8 (gVE h)) (V.Eco (V.EJo (V.Jc V.ESt (V.Bc (a:=0) (b:=5) (V.Bl rfl) (V.Bl rfl)) (by decide) (V.Jc (V.EFR (V.ELo n3 rfl) hrep (Bq hx) (by decide)) (V.Bc (a:=5) (b:=22) (V.Bc (a:=0) (b:=5) (V.Bl rfl) (V.Bl rfl)) (Bq hx)) (by decide) (V.Jc V.ESt (V.Bc (a:=27) (b:=37) (V.Bc (a:=5) (b:=22) (V.Bc (a:=0) (b:=5) (V.Bl rfl) (V.Bl rfl)) (Bq hx)) (V.Bl rfl)) (by decide) V.Jni))) (V.Bc (a:=27) (b:=37) (V.Bc (a:=5) (b:=22) (V.Bc (a:=0) (b:=5) (V.Bl rfl) (V.Bl rfl)) (Bq hx)) (V.Bl rfl)) (by decide)) V.En (fun u=>rfl)) (Nat.le_of_ble_eq_true rfl) (fun u=>rfl)))
theorem xd {C:V.Cx} (h:Is C) {k:Nat} {σ:V.St} {b:Nat} {q:SS} {x:Str} {r:List Str} (hr:q.rd=some r) (hnd:q.ks.Nodup) (hx:V.B x 20) (hrep:reprText x=qt x) (hc:x∈q.ks) (hv:q.np x= -2):
  V.CaX C (k+3) (srt b q σ) (.ext 137) [.loc ⟨b,e0⟩,.str x] (.type "ValueError") [.str (mD x)] (srt b q σ):=by
 have hx0:=h.hx
 refine V.CX h.ok ⟨⟨_,_,_,by rw [h.K];exact rfl⟩,rfl,rfl,rfl,rfl,by rw [h.K];rfl,rfl,rfl,by decide+kernel⟩ [(Str.ofString "self",.local),(Str.ofString "nodes",.local),(Str.ofString "n2i",.local),(Str.ofString "node",.local),(Str.ofString "nodeinfo",.local),(Str.ofString "stat",.local),(Str.ofString "successor",.local),(Str.ofString "successor_info",.local),(Str.ofString "ValueError",.globalImplicit),(Str.ofString "_NODE_OUT",.globalImplicit),(Str.ofString "_NODE_DONE",.globalImplicit)] rfl ([(Str.ofString "self",.loc ⟨b,e0⟩)]++ [(Str.ofString "nodes",.tup [.str x])]) _
  (V.Br (as:= [.loc ⟨b,e0⟩]) (rest:= [.str x]) (V.l1a fun x=>V.l1a fun z=>rfl) rfl (Nat.le_of_ble_eq_true rfl)) rfl rfl fun sc ⟨n0,n1,n2,n3,n4,n5,n6,n7,n8,n9,n10,_⟩ n hn=>oh ?_ ⟨fun u v z=>z,fun u z=>z,fun u v z=> .inl z,by simp only [V.AV.Ins,V.AV.In,and_self]⟩
 refine RIF (V.TCo (c:=false) (V.EAt (V.ELo n0 rfl) (lrd h hr) (fun u v=>rfl)) V.ENo (V.nis (b:=false) V.nnl) rfl) ?_
 refine Rc (V.X1A (V.EAt (V.ELo n0 rfl) (ldi h) (fun u v=>rfl)) (V.AL' n2 rfl) (fun u=>rfl) (fun u=>rfl) (fun u=>rfl)) ?_
 refine RFo (V.ELo n1 rfl) (V.Itu (xs:= [.str x])) trivial (V.AL' n3 rfl) ?_ (fun u v=>rfl)
 refine RIF (V.TCo (c:=false) (V.ENa (V.EMC (V.ELo n2 rfl) (V.Mdg (.inl sr2)) (V.Eco (V.ELo n3 rfl) V.En (fun u=>rfl)) V.Kbi (V.Cdg (.inl sr2) (DNs hnd) (by rw [dN hc];rfl)) (fun u v=>rfl) (fun u=>rfl) rfl (fun u=>rfl)) (V.AL' n4 rfl)) V.ENo (V.nis (b:=false) V.nnl) rfl) ?_
 refine Rc (V.X1A (V.EAt (V.ELo n4 rfl) (lnp h hc) (fun u v=>rfl)) (V.AL' n5 rfl) (fun u=>rfl) (fun u=>rfl) (fun u=>rfl)) ?_
 rw [hv]
 refine RT (V.TCo (c:=true) (V.ELo n5 rfl) (V.EGl h.ok n9 (gNO h)) (V.ink rfl) rfl) ?_
 refine RIF (V.TCo (c:=false) (V.ELo n5 rfl) V.EIn (V.ig rfl) rfl) ?_
 exact RT (V.TCo (c:=true) (V.ELo n5 rfl) (V.EGl h.ok n10 (gNa h)) (V.ie rfl) rfl) (Rqs (V.RRa PySem.F.excCall_ValueError PySem.F.excRaise_ValueError hx0 (V.EGl h.ok n8 (gVE h)) (V.Eco (V.EJo (V.Jc V.ESt (V.Bc (a:=0) (b:=5) (V.Bl rfl) (V.Bl rfl)) (by decide) (V.Jc (V.EFR (V.ELo n3 rfl) hrep (Bq hx) (by decide)) (V.Bc (a:=5) (b:=22) (V.Bc (a:=0) (b:=5) (V.Bl rfl) (V.Bl rfl)) (Bq hx)) (by decide) (V.Jc V.ESt (V.Bc (a:=27) (b:=24) (V.Bc (a:=5) (b:=22) (V.Bc (a:=0) (b:=5) (V.Bl rfl) (V.Bl rfl)) (Bq hx)) (V.Bl rfl)) (by decide) V.Jni))) (V.Bc (a:=27) (b:=24) (V.Bc (a:=5) (b:=22) (V.Bc (a:=0) (b:=5) (V.Bl rfl) (V.Bl rfl)) (Bq hx)) (V.Bl rfl)) (by decide)) V.En (fun u=>rfl)) (Nat.le_of_ble_eq_true rfl) (fun u=>rfl)))
end L2
end
section
namespace L2
open V (AV AO)
noncomputable def fc (m:Nat) (A B:List AV) (S:List Str) (D:List (Str×AV)) (I:Str→Option AO) (σ:V.St):V.St:=fun l=>
 if l=⟨m,e0⟩then some (.list A)else if l=⟨m+1,e0⟩then some (.list B)else if l=⟨m+2,e0⟩then some (.set S)else if l=⟨m+3,e0⟩then some (.dict D)else if l.tag=m+4 then I l.key else σ l
section
variable {m:Nat} {A A' B B':List AV} {S S':List Str} {D D':List (Str×AV)} {I:Str→Option AO} {σ:V.St} {x:Str} {o:AO}
theorem fcA:(fc m A B S D I σ).set ⟨m,e0⟩ (.list A')=fc m A' B S D I σ:=by
 funext l;by_cases h:l=⟨m,e0⟩
 ·subst h;rw [V.set_same];unfold fc;simp
 ·rw [V.sot h];unfold fc;rw [if_neg h,if_neg h]
theorem fcB:(fc m A B S D I σ).set ⟨m+1,e0⟩ (.list B')=fc m A B' S D I σ:=by
 funext l;by_cases h:l=⟨m+1,e0⟩
 ·subst h;rw [V.set_same];unfold fc;simp
 ·rw [V.sot h];unfold fc;rw [if_neg h,if_neg h]
theorem fcS:(fc m A B S D I σ).set ⟨m+2,e0⟩ (.set S')=fc m A B S' D I σ:=by
 funext l;by_cases h:l=⟨m+2,e0⟩
 ·subst h;rw [V.set_same];unfold fc;simp
 ·rw [V.sot h];unfold fc;rw [if_neg h,if_neg h]
theorem fcD:(fc m A B S D I σ).set ⟨m+3,e0⟩ (.dict D')=fc m A B S D' I σ:=by
 funext l;by_cases h:l=⟨m+3,e0⟩
 ·subst h;rw [V.set_same];unfold fc;simp
 ·rw [V.sot h];unfold fc;rw [if_neg h,if_neg h]
theorem fcI:(fc m A B S D I σ).set ⟨m+4,x⟩ o=fc m A B S D (upd I x (some o)) σ:=by
 funext l;by_cases h:l=⟨m+4,x⟩
 ·subst h;rw [V.set_same];unfold fc;simp [upd]
 ·rw [V.sot h];unfold fc
  by_cases k:l.tag=m+4
  ·have:l.key≠x:=fun e=>h (by cases l;simp at k e;rw [k,e])
   rw [une this]
  ·simp only [k,if_false]
theorem fcLow {l:V.Loc} (h:l.tag<m) {o:AO}:(fc m A B S D I σ).set l o=fc m A B S D I (σ.set l o):=by
 funext y;by_cases e:y=l
 ·subst e;rw [V.set_same];unfold fc
  rw [if_neg (fun e=>by rw [e]at h;exact absurd h (Nat.lt_irrefl _)),if_neg (fun e=>by rw [e]at h;simp only at h;omega),if_neg (fun e=>by rw [e]at h;simp only at h;omega),if_neg (fun e=>by rw [e]at h;simp only at h;omega),if_neg (by omega),V.set_same]
 ·rw [V.sot e];unfold fc;rw [V.sot e]
theorem fc0:fc m A B S D I σ ⟨m,e0⟩=some (.list A):=by unfold fc;simp
theorem fc1:fc m A B S D I σ ⟨m+1,e0⟩=some (.list B):=by unfold fc;simp
theorem fc2:fc m A B S D I σ ⟨m+2,e0⟩=some (.set S):=by unfold fc;simp
theorem fc3:fc m A B S D I σ ⟨m+3,e0⟩=some (.dict D):=by unfold fc;simp
theorem fc4:fc m A B S D I σ ⟨m+4,x⟩=I x:=by unfold fc;simp
theorem fcL {l:V.Loc} (h:l.tag<m):fc m A B S D I σ l=σ l:=by
 unfold fc
 rw [if_neg (fun e=>by rw [e]at h;exact absurd h (Nat.lt_irrefl _)),if_neg (fun e=>by rw [e]at h;simp only at h;omega),if_neg (fun e=>by rw [e]at h;simp only at h;omega),if_neg (fun e=>by rw [e]at h;simp only at h;omega),if_neg (by omega)]
theorem fcs (h: ∀l:V.Loc,m≤l.tag→σ l=none):(((σ.set ⟨m,e0⟩ (.list [])).set ⟨m+1,e0⟩ (.list [])).set ⟨m+2,e0⟩ (.set [])).set ⟨m+3,e0⟩ (.dict [])=fc m [] [] [] [] (fun u=>none) σ:=by
 funext l
 unfold fc V.St.set
 by_cases h3:l=⟨m+3,e0⟩
 ·subst h3;simp
 by_cases h2:l=⟨m+2,e0⟩
 ·subst h2;simp
 by_cases h1:l=⟨m+1,e0⟩
 ·subst h1;simp
 by_cases h0:l=⟨m,e0⟩
 ·subst h0;simp
 simp only [h0,h1,h2,h3,if_false]
 by_cases k:l.tag=m+4
 ·rw [if_pos k];exact h l (by omega)
 ·rw [if_neg k]
end
noncomputable def n2s:List (Str×Nat)→List (Str×AV)
 | []=> []
 | (x,_)::t=>n2s t++ [(x,.int t.length)]
noncomputable def stA (t:List (Str×Nat)):List AV:=t.reverse.map fun p=> .str p.1
noncomputable def stB (m:Nat) (t:List (Str×Nat)):List AV:=t.reverse.map fun p=> .mw "list_iterator.__next__" ⟨m+4,p.1⟩
theorem sAc {p:Str×Nat} {t:List (Str×Nat)}:stA (p::t)=stA t++ [.str p.1]:=by unfold stA;simp
theorem sBc {m:Nat} {p:Str×Nat} {t:List (Str×Nat)}:stB m (p::t)=stB m t++ [.mw "list_iterator.__next__" ⟨m+4,p.1⟩]:=by unfold stB;simp
theorem nke: ∀t:List (Str×Nat),(n2s t).map (·.1)=(t.map (·.1)).reverse
 | []=>rfl
 | (x,i)::t=>by unfold n2s;rw [List.map_append,nke t];simp
theorem nle: ∀t:List (Str×Nat),(n2s t).length=t.length
 | []=>rfl
 | (x,i)::t=>by unfold n2s;rw [List.length_append,nle t];rfl
theorem n2a {t:List (Str×Nat)} (h:(t.map (·.1)).Nodup):V.DN (n2s t):=by
 unfold V.DN;rw [nke];exact List.pairwise_reverse.mpr (List.Pairwise.imp (fun z=>z.symm) h)
theorem dno {es:List (Str×AV)} {x:Str} (h:x∉es.map (·.1)):V.dge es x=none:=by
 unfold V.dge
 have:es.find? (fun e=>decide (e.1=x))=none:=by
  rw [List.find?_eq_none]
  intro e he z
  simp at z
  exact h (List.mem_map.mpr ⟨e,he,z⟩)
 rw [this];rfl
theorem dso {es:List (Str×AV)} {x:Str} (h:x∈es.map (·.1)):(V.dge es x).isSome=true:=by
 unfold V.dge
 rw [Option.isSome_map,List.find?_isSome]
 obtain⟨e,he,z⟩:=List.mem_map.mp h
 exact⟨e,he,by simp [z]⟩
theorem dap {es fs:List (Str×AV)} {x:Str} {v:AV} (h:V.dge es x=some v):V.dge (es++fs) x=some v:=by
 unfold V.dge at h⊢
 rw [List.find?_append]
 rcases e:es.find? (fun e=>decide (e.1=x))with _ | y
 ·rw [e]at h;cases h
 ·rw [e]at h;rw [e];exact h
theorem dne {es:List (Str×AV)} {x:Str} {v:AV} (h:x∉es.map (·.1)):V.dput es x v=es++ [(x,v)]:=by
 unfold V.dput
 rw [if_neg]
 intro z
 rw [List.any_eq_true]at z
 obtain⟨e,he,z⟩:=z
 exact h (List.mem_map.mpr ⟨e,he,by simpa using z⟩)
theorem ddn {es:List (Str×AV)} {x:Str} {v:AV} (h:x∉es.map (·.1)):V.dde (es++ [(x,v)]) x=es:=by
 unfold V.dde
 rw [List.filter_append]
 have:es.filter (fun e=>decide (e.1≠x))=es:=by
  rw [List.filter_eq_self]
  intro e he
  simp only [decide_eq_true_eq]
  intro z;exact h (List.mem_map.mpr ⟨e,he,z⟩)
 rw [this];simp
inductive Anc (par:Str→Option Str) (r:Str):Str→Prop
 | refl:Anc par r r
 | step {x y:Str} (h:par x=some y) (a:Anc par r y):Anc par r x
noncomputable def OnR (par:Str→Option Str) (r:Str):Prop:= ∃y,par r=some y∧Anc par r y
theorem Anc.trans {par:Str→Option Str} {a b c:Str} (h1:Anc par a b) (h2:Anc par b c):Anc par a c:=by
 induction h2 with
 | refl=>exact h1
 | step h _ ih=>exact .step h ih
theorem OnR.next {par:Str→Option Str} {r y:Str} (h:OnR par r) (hp:par r=some y):OnR par y:=by
 obtain⟨y',e,a⟩:=h
 rw [hp]at e;obtain rfl:=Option.some.inj e
 cases a with
 | refl=>exact⟨r,hp,.refl⟩
 | step h a=>exact⟨_,h,Anc.trans (.step hp .refl) a⟩
theorem OnR.anc {par:Str→Option Str} {r x:Str} (a:Anc par r x) (h:OnR par x):OnR par r:=by
 induction a with
 | refl=>exact h
 | step hp _ ih=>exact ih (h.next hp)
inductive Pth (par:Str→Option Str) (r:Str):List Str→Prop
 | one:Pth par r [r]
 | cons {x y:Str} {t:List Str} (h:par y=some x) (p:Pth par r (x::t)):Pth par r (y::x::t)
theorem Pth.mem {par:Str→Option Str} {r:Str} {t:List Str} (h:Pth par r t):r∈t:=by
 induction h with
 | one=>exact .head _
 | cons h p ih=>exact .tail _ ih
theorem Pth.anc {par:Str→Option Str} {r:Str} {t:List Str} (h:Pth par r t): ∀x∈t,Anc par r x:=by
 induction h with
 | one=>intro x hx;simp at hx;subst hx;exact .refl
 | cons h p ih=>
  intro z hz
  rcases List.mem_cons.mp hz with rfl | hz
  ·exact .step h (ih _ (.head _))
  ·exact ih z hz
theorem Pth.close {par:Str→Option Str} {r x y:Str} {t:List Str} (h:Pth par r (x::t)) (hn:(x::t).Nodup) (hy:y∈x::t) (hp:par y=some x):y=r:=by
 generalize e:x::t=l at h hn hy
 have key: ∀l:List Str,Pth par r l→y∈l→y=r∨ ∃z,par y=some z∧ ∃a c,l=a++y::z::c:=by
  intro l h
  induction h with
  | one=>intro hy;simp at hy;exact .inl hy
  | @cons x' y' t' h p ih=>
   intro hy
   rcases List.mem_cons.mp hy with rfl | hy
   ·exact .inr ⟨x',h,[],t',rfl⟩
   ·rcases ih hy with z | ⟨z,hz,a,c,e⟩
    ·exact .inl z
    ·exact .inr ⟨z,hz,y'::a,c,by rw [e];rfl⟩
 rcases key l h hy with z | ⟨z,hz,a,c,e2⟩
 ·exact z
 ·rw [hp]at hz;obtain rfl:=Option.some.inj hz
  rw [e2]at hn e
  cases a with
  | nil=>simp at e;obtain⟨rfl,_⟩:=e;simp at hn
  | cons q a=>simp at e;obtain⟨rfl,_⟩:=e;simp at hn
noncomputable def Ri (par:Str→Option Str) (r:Str) (L:List Str):Prop:= ∃x t,Pth par r (x::t)∧(x::t).Nodup∧par r=some x∧L=(x::t).reverse++ [r]
theorem Pth.ud {par:Str→Option Str} {r x:Str}: ∀{t t':List Str},Pth par r (x::t)→(x::t).Nodup→Pth par r (x::t')→(x::t').Nodup→t=t':=by
 intro t
 induction t generalizing x with
 | nil=>
  intro t' h1 n1 h2 n2
  cases h1
  cases h2 with
  | one=>rfl
  | cons h p=>exact absurd p.mem (fun z=>(List.nodup_cons.mp n2).1 z)
 | cons y t ih=>
  intro t' h1 n1 h2 n2
  cases h1 with
  | cons h p=>
   cases h2 with
   | one=>exact absurd p.mem (fun z=>(List.nodup_cons.mp n1).1 z)
   | cons h' p'=>
    rw [h]at h';obtain rfl:=Option.some.inj h'
    rw [ih p (List.nodup_cons.mp n1).2 p' (List.nodup_cons.mp n2).2]
theorem Ri.ud {par:Str→Option Str} {r:Str} {L L':List Str} (h:Ri par r L) (h':Ri par r L'):L=L':=by
 obtain⟨x,t,p,n,e,rfl⟩:=h
 obtain⟨x',t',p',n',e',rfl⟩:=h'
 rw [e]at e';obtain rfl:=Option.some.inj e'
 rw [p.ud n p' n']
theorem Ri.on {par:Str→Option Str} {r:Str} {L:List Str} (h:Ri par r L):OnR par r:=by
 obtain⟨x,t,p,n,e,rfl⟩:=h
 exact⟨x,e,p.anc x (.head _)⟩
noncomputable def Cyc (par:Str→Option Str) (ks:List Str):Option (List Str)→Prop
 | none=> ∀x∈ks,¬OnR par x
 | some L=> ∃pre r post,ks=pre++r::post∧(∀x∈pre,¬OnR par x)∧Ri par r L
theorem Cyc.ud {par:Str→Option Str} {ks:List Str} {a c:Option (List Str)} (h:Cyc par ks a) (h':Cyc par ks c):a=c:=by
 cases a with
 | none=>
  cases c with
  | none=>rfl
  | some L=>
   obtain⟨pre,r,post,e,_,q⟩:=h'
   exact absurd q.on (h r (by rw [e];simp))
 | some L=>
  obtain⟨pre,r,post,e,p,q⟩:=h
  cases c with
  | none=>exact absurd q.on (h' r (by rw [e];simp))
  | some L'=>
   obtain⟨pre',r',post',e',p',q'⟩:=h'
   have:r=r':=by
    rw [e]at e'
    rcases List.append_eq_append_iff.mp e' with⟨a,rfl,h2⟩ | ⟨a,rfl,h2⟩
    ·cases a with
     | nil=>simp at h2;exact h2.1
     | cons z a=>simp at h2;exact absurd q.on (by rw [h2.1];exact p' z (by simp))
    ·cases a with
     | nil=>simp at h2;exact h2.1.symm
     | cons z a=>simp at h2;exact absurd q'.on (by rw [h2.1];exact p z (by simp))
   subst this
   rw [q.ud q']
end L2
end
section
namespace L2
open V (AV AO)
structure FS where
 se:List Str
 t:List (Str×Nat)
 I:Str→Option AO
noncomputable def fS (b m:Nat) (q:SS) (σ:V.St) (cnt:Nat) (s:FS):V.St:=fc m (stA s.t) (stB m s.t) s.se (n2s s.t) s.I ((srt b q σ).set ⟨b+2,e0⟩ (.map (sN b q) cnt))
noncomputable def FS.inc (b:Nat) (s:FS) (x:Str) (i:Nat) (t:List (Str×Nat)):FS:=⟨s.se,(x,i+1)::t,upd s.I x (some (.iter ⟨b+5,x⟩ (i+1)))⟩
noncomputable def FS.push (b:Nat) (s:FS) (y:Str):FS:=⟨s.se++ [y],(y,0)::s.t,upd s.I y (some (.iter ⟨b+5,y⟩ 0))⟩
noncomputable def FS.pop (s:FS) (x:Str) (t:List (Str×Nat)):FS:=⟨s.se,t,upd s.I x (some .junk)⟩
structure WF (par:Str→Option Str) (q:SS) (b:Nat) (r:Str) (s:FS):Prop where
 path:s.t= []∨Pth par r (s.t.map (·.1))
 nd:(s.t.map (·.1)).Nodup
 sub: ∀x∈s.t.map (·.1),x∈s.se
 ks: ∀x∈s.se,x∈q.ks
 send:s.se.Nodup
 it: ∀p∈s.t,s.I p.1=some (.iter ⟨b+5,p.1⟩ p.2)
 inn: ∀x,x∉s.se→s.I x=none
structure JJ (par:Str→Option Str) (q:SS) (r:Str) (s:FS):Prop where
 fin: ∀x∈s.se,x∉s.t.map (·.1)→ ∀y∈q.su x,y∈s.se∧y≠r
 pos: ∀p∈s.t,∀y∈(q.su p.1).take p.2,y∈s.se∧y≠r
 anc: ∀x∈s.se,¬OnR par x∨Anc par r x
 root:r∈s.se
structure Gph (par:Str→Option Str) (q:SS):Prop where
 nd:q.ks.Nodup
 su: ∀x∈q.ks,∀y∈q.su x,y∈q.ks∧par y=some x
 par: ∀x y,par y=some x→x∈q.ks∧y∈q.su x
 len:q.ks.length≤1000
variable {par:Str→Option Str} {q:SS} {b:Nat} {r:Str} {s:FS}
theorem WF.inc {x:Str} {i:Nat} {t:List (Str×Nat)} (w:WF par q b r s) (e:s.t=(x,i)::t):WF par q b r (s.inc b x i t):=by
 have em:(s.inc b x i t).t.map (·.1)=s.t.map (·.1):=by rw [e];rfl
 have hn:=w.nd
 refine⟨?_,by rw [em];exact hn,by rw [em];exact w.sub,w.ks,w.send,?_,?_⟩
 ·rw [em]
  rcases w.path with z | z
  ·rw [e]at z;cases z
  ·exact .inr z
 ·intro p hp
  rcases List.mem_cons.mp hp with rfl | hp
  ·exact usa
  ·rw [e]at hn
   have:p.1≠x:=fun z=>(List.nodup_cons.mp hn).1 (List.mem_map.mpr ⟨p,hp,z⟩)
   show upd s.I x _ p.1=_
   rw [une this];exact w.it p (by rw [e];exact .tail _ hp)
 ·intro z hz
  have:z≠x:=fun e2=>hz (by rw [e2];exact w.sub x (by rw [e];exact .head _))
  show upd s.I x _ z=_
  rw [une this];exact w.inn z hz
theorem WF.push {y:Str} (w:WF par q b r s) (hy:y∉s.se) (hk:y∈q.ks) (hp:s.t= []∧y=r∨ ∃p t,s.t=p::t∧par y=some p.1):WF par q b r (s.push b y):=by
 have hy':y∉s.t.map (·.1):=fun z=>hy (w.sub y z)
 refine⟨.inr ?_,List.nodup_cons.mpr ⟨hy',w.nd⟩,?_,?_,?_,?_,?_⟩
 ·rcases hp with⟨e,rfl⟩ | ⟨p,t,e,hp⟩
  ·show Pth par y (y::s.t.map (·.1))
   rw [e];exact .one
  ·rcases w.path with z | z
   ·rw [e]at z;cases z
   ·show Pth par r (y::s.t.map (·.1))
    rw [e]at z⊢;exact .cons hp z
 ·intro x hx
  rcases List.mem_cons.mp hx with rfl | hx
  ·exact List.mem_append.mpr (.inr (.head _))
  ·exact List.mem_append.mpr (.inl (w.sub x hx))
 ·intro x hx
  rcases List.mem_append.mp hx with z | z
  ·exact w.ks x z
  ·simp at z;rw [z];exact hk
 ·show(s.se++ [y]).Nodup
  rw [List.nodup_append]
  refine⟨w.send,by simp,?_⟩
  intro a ha c hc
  simp at hc;subst hc;intro e;subst e;exact hy ha
 ·intro p hp
  rcases List.mem_cons.mp hp with rfl | hp
  ·exact usa
  ·have:p.1≠y:=fun z=>hy' (List.mem_map.mpr ⟨p,hp,z⟩)
   show upd s.I y _ p.1=_
   rw [une this];exact w.it p hp
 ·intro z hz
  have:z≠y:=fun e2=>hz (List.mem_append.mpr (.inr (by rw [e2];exact .head _)))
  show upd s.I y _ z=_
  rw [une this];exact w.inn z fun h=>hz (List.mem_append.mpr (.inl h))
theorem WF.pop {x:Str} {i:Nat} {t:List (Str×Nat)} (w:WF par q b r s) (e:s.t=(x,i)::t):WF par q b r (s.pop x t):=by
 have hn:=w.nd
 rw [e]at hn
 refine⟨?_,(List.nodup_cons.mp hn).2,fun z hz=>w.sub z (by rw [e];exact .tail _ hz),w.ks,w.send,?_,?_⟩
 ·rcases w.path with z | z
  ·rw [e]at z;cases z
  ·rw [e]at z
   show t= []∨Pth par r (t.map (·.1))
   cases t with
   | nil=>exact .inl rfl
   | cons p t=>cases z with | cons h z=>exact .inr z
 ·intro p hp
  have:p.1≠x:=fun z=>(List.nodup_cons.mp hn).1 (List.mem_map.mpr ⟨p,hp,z⟩)
  show upd s.I x _ p.1=_
  rw [une this];exact w.it p (by rw [e];exact .tail _ hp)
 ·intro z hz
  have:z≠x:=fun e2=>hz (by rw [e2];exact w.sub x (by rw [e];exact .head _))
  show upd s.I x _ z=_
  rw [une this];exact w.inn z hz
noncomputable def Rest (C:V.Cx) (k:Nat) (sc:Scope) (te te2:Expr) (bd ob bd2:List Stmt) (M:Option AV→List (Option AV)) (F:FS→V.St) (o:Option AV) (s:FS) (f:V.AF) (o':Option AV) (s':FS):Prop:=
 (∃o1 s1,V.Wr C k sc te bd ob (M o) (F s) .next (M o1) (F s1)∧V.Wr C k sc te2 bd2 [] (M o1) (F s1) f (M o') (F s'))∨(V.Wr C k sc te bd ob (M o) (F s) .brk (M o') (F s')∧f= .next)
noncomputable def fOf:Option (List Str)→V.AF
 | none=> .next
 | some L=> .ret (.lst (L.map .str))
noncomputable def Final (par:Str→Option Str) (q:SS) (b:Nat) (r:Str) (s:FS):Option (List Str)→Prop
 | none=>s.t= []∧WF par q b r s∧JJ par q r s
 | some L=>Ri par r L
noncomputable def rem (q:SS):List (Str×Nat)→Nat
 | []=>0
 | (x,i)::t=>(q.su x).length - i+1+rem q t
structure HH (par:Str→Option Str) (q:SS) (b:Nat) (r:Str) (C:V.Cx) (k:Nat) (sc:Scope) (te te2:Expr) (bd ob bd2:List Stmt) (wpos:Pos) (M:Option AV→List (Option AV)) (F:FS→V.St):Prop where
 out: ∀o s,s.t= []→V.Tv C k sc (M o) (F s) te false (M o) (F s)∧V.Ex C k sc (M o) (F s) ob .brk (M o) (F s)
 test: ∀o s p t,s.t=p::t→WF par q b r s→V.Tv C k sc (M o) (F s) te true (M o) (F s)
 next: ∀o s x i t y,s.t=(x,i)::t→WF par q b r s→(q.su x)[i]? =some y→V.Ex C k sc (M o) (F s) bd .brk (M (some (.str y))) (F (s.inc b x i t))
 stop: ∀o s x i t,s.t=(x,i)::t→WF par q b r s→(q.su x).length≤i→V.Ex C k sc (M o) (F s) bd .next (M o) (F (s.pop x t))
 true2: ∀o s,V.Tv C k sc (M o) (F s) te2 true (M o) (F s)
 push: ∀y s f ms' σ',WF par q b r s→y∉s.se→y∈q.ks→V.Ex C k sc (M (some (.str y))) (F (s.push b y)) [.While te bd ob wpos] f ms' σ'→V.Ex C k sc (M (some (.str y))) (F s) bd2 f ms' σ'
 seen: ∀y s f ms' σ',WF par q b r s→y∈s.se→y∉s.t.map (·.1)→V.Ex C k sc (M (some (.str y))) (F s) [.While te bd ob wpos] f ms' σ'→V.Ex C k sc (M (some (.str y))) (F s) bd2 f ms' σ'
 ret: ∀s,WF par q b r s→s.t≠ []→r∈s.se→V.Ex C k sc (M (some (.str r))) (F s) bd2 (.ret (.lst (((s.t.map (·.1)).reverse++ [r]).map .str))) (M (some (.str r))) (F s)
theorem HH.toWr {C:V.Cx} {k:Nat} {sc:Scope} {te te2:Expr} {bd ob bd2:List Stmt} {wpos:Pos} {M:Option AV→List (Option AV)} {F:FS→V.St} (H:HH par q b r C k sc te te2 bd ob bd2 wpos M F)
  {y:Str} {s s₀:FS} {f:V.AF} {o':Option AV} {s':FS} (R:Rest C k sc te te2 bd ob bd2 M F (some (.str y)) s f o' s') (E: ∀f ms' σ',V.Ex C k sc (M (some (.str y))) (F s) [.While te bd ob wpos] f ms' σ'→V.Ex C k sc (M (some (.str y))) (F s₀) bd2 f ms' σ'):
  V.Wr C k sc te2 bd2 [] (M (some (.str y))) (F s₀) f (M o') (F s'):=by
 rcases R with⟨o1,s1,w1,w2⟩ | ⟨w1,rfl⟩
 ·exact .turn (H.true2 _ _) (E _ _ _ (V.Eca (V.X1W w1) V.Eni)) (.inl rfl) w2
 ·exact .brk (H.true2 _ _) (E _ _ _ (V.Est (V.X1W w1) (fun z=>by cases z)))
theorem phB (G:Gph par q) {C:V.Cx} {k:Nat} {sc:Scope} {te te2:Expr} {bd ob bd2:List Stmt} {wpos:Pos} {M:Option AV→List (Option AV)} {F:Nat→FS→V.St} (H: ∀cnt,HH par q b r C k sc te te2 bd ob bd2 wpos M (F cnt)):
  ∀(N m:Nat) (o:Option AV) (s:FS),q.ks.length - s.se.length=N→rem q s.t=m→WF par q b r s→JJ par q r s→
   ∃s' o' res,Final par q b r s' res∧ ∀cnt,Rest C k sc te te2 bd ob bd2 M (F cnt) o s (fOf res) o' s':=by
 intro N
 induction N using Nat.strongRecOn with
 | _ N ihN=>
 intro m
 induction m using Nat.strongRecOn with
 | _ m ihm=>
 intro o s hN hm w j
 rcases ht:s.t with _ | ⟨⟨x,i⟩,t⟩
 ·exact⟨s,o,none,⟨ht,w,j⟩,fun cnt=> .inr ⟨.out ((H cnt).out o s ht).1 ((H cnt).out o s ht).2,rfl⟩⟩
 have hxs:x∈s.se:=w.sub x (by rw [ht];exact .head _)
 have hxk:x∈q.ks:=w.ks x hxs
 have hpos:=j.pos (x,i) (by rw [ht];exact .head _)
 have hnd:=w.nd
 rw [ht]at hnd
 rcases hy:(q.su x)[i]? with _ | y
 ·have hle:(q.su x).length≤i:=List.getElem?_eq_none_iff.mp hy
  have hall: ∀y∈q.su x,y∈s.se∧y≠r:=by
   have:(q.su x).take i=q.su x:=List.take_of_length_le hle
   rw [this]at hpos;exact hpos
  have w2:=w.pop ht
  have j2:JJ par q r (s.pop x t):=by
   refine⟨fun z hz hzt y' hy'=> ?_,fun p hp=>j.pos p (by rw [ht];exact .tail _ hp),j.anc,j.root⟩
   by_cases e:z=x
   ·subst e;exact hall y' hy'
   ·refine j.fin z hz ?_ y' hy'
    rw [ht];intro h
    rcases List.mem_cons.mp h with h | h
    ·exact e h
    ·exact hzt h
  obtain⟨s',o',res,hf,hR⟩:=ihm (rem q t) (by rw [←hm,ht];show _<(q.su x).length - i+1+rem q t;omega) o (s.pop x t) hN rfl w2 j2
  refine⟨s',o',res,hf,fun cnt=> ?_⟩
  have st:=(H cnt).stop o s x i t ht w hle
  have te:=(H cnt).test o s _ t ht w
  rcases hR cnt with⟨o1,s1,w1,w2⟩ | ⟨w1,e⟩
  ·exact .inl ⟨o1,s1,.turn te st (.inl rfl) w1,w2⟩
  ·exact .inr ⟨.turn te st (.inl rfl) w1,e⟩
 ·have hlt:i<(q.su x).length:=by
   rcases Nat.lt_or_ge i (q.su x).length with z | z
   ·exact z
   ·rw [List.getElem?_eq_none_iff.mpr z]at hy;cases hy
  have hys:y∈q.su x:=List.mem_of_getElem? hy
  obtain⟨hyk,hpar⟩:=G.su x hxk y hys
  have w1:=w.inc ht
  have hx2:(s.inc b x i t).t=(x,i+1)::t:=rfl
  have em:(s.inc b x i t).t.map (·.1)=s.t.map (·.1):=by rw [ht];rfl
  have hpath:Pth par r (x::t.map (·.1)):=by
   rcases w.path with z | z
   ·rw [ht]at z;cases z
   ·rw [ht]at z;exact z
  have htk:(q.su x).take (i+1)=(q.su x).take i++ [y]:=by
   rw [List.take_add_one,hy];rfl
  by_cases hse:y∈s.se
  ·by_cases hst:y∈s.t.map (·.1)
   ·-- the ring closes
    have hst':y∈x::t.map (·.1):=by rw [ht]at hst;exact hst
    obtain rfl:=hpath.close hnd hst' hpar
    refine⟨s.inc b x i t,some (.str y),some ((x::t.map (·.1)).reverse++ [y]),⟨x,_,hpath,hnd,hpar,rfl⟩,fun cnt=> ?_⟩
    exact .inl ⟨some (.str y),s.inc b x i t,.brk ((H cnt).test o s _ t ht w) ((H cnt).next o s x i t y ht w hy),.ret ((H cnt).true2 _ _) ((H cnt).ret (s.inc b x i t) w1 (by rw [hx2];exact fun z=>by cases z) hse)⟩
   ·have hyr:y≠r:=fun e=>hst (by rw [e,ht];exact hpath.mem)
    have j1:JJ par q r (s.inc b x i t):=by
     refine⟨fun z hz hzt=>j.fin z hz (by rw [←em];exact hzt),fun p hp=> ?_,j.anc,j.root⟩
     rcases List.mem_cons.mp hp with rfl | hp
     ·intro z hz
      rw [htk]at hz
      rcases List.mem_append.mp hz with hz | hz
      ·exact hpos z hz
      ·simp at hz;subst hz;exact⟨hse,hyr⟩
     ·exact j.pos p (by rw [ht];exact .tail _ hp)
    obtain⟨s',o',res,hf,hR⟩:=ihm (rem q ((x,i+1)::t)) (by rw [←hm,ht];show(q.su x).length - (i+1)+1+rem q t<(q.su x).length - i+1+rem q t;omega) (some (.str y)) (s.inc b x i t) hN rfl w1 j1
    refine⟨s',o',res,hf,fun cnt=> ?_⟩
    exact .inl ⟨some (.str y),s.inc b x i t,.brk ((H cnt).test o s _ t ht w) ((H cnt).next o s x i t y ht w hy),(H cnt).toWr (hR cnt) (fun f ms' σ'=>(H cnt).seen y (s.inc b x i t) f ms' σ' w1 hse (by rw [em];exact hst))⟩
  ·have w2:WF par q b r ((s.inc b x i t).push b y):=w1.push hse hyk (.inr ⟨(x,i+1),t,rfl,hpar⟩)
   have hyr:y≠r:=fun e=>hse (by rw [e];exact j.root)
   have up: ∀z,z∈s.se→z∈((s.inc b x i t).push b y).se:=fun z hz=>List.mem_append.mpr (.inl hz)
   have j2:JJ par q r ((s.inc b x i t).push b y):=by
    refine⟨fun z hz hzt y' hy'=> ?_,fun p hp=> ?_,fun z hz=> ?_,up _ j.root⟩
    ·have hzy:z≠y:=fun e=>hzt (by rw [e];exact .head _)
     rcases List.mem_append.mp hz with hz | hz
     ·have:=j.fin z hz (by rw [ht];intro h;exact hzt (.tail _ h)) y' hy'
      exact⟨up _ this.1,this.2⟩
     ·simp at hz;exact absurd hz hzy
    ·rcases List.mem_cons.mp hp with rfl | hp
     ·intro z hz;simp at hz
     rcases List.mem_cons.mp hp with rfl | hp
     ·intro z hz
      have hz:z∈(q.su x).take (i+1):=hz
      rw [htk]at hz
      rcases List.mem_append.mp hz with hz | hz
      ·exact⟨up _ (hpos z hz).1,(hpos z hz).2⟩
      ·simp at hz;subst hz;exact⟨List.mem_append.mpr (.inr (.head _)),hyr⟩
     ·intro z hz
      have:=j.pos p (by rw [ht];exact .tail _ hp) z hz
      exact⟨up _ this.1,this.2⟩
    ·rcases List.mem_append.mp hz with hz | hz
     ·exact j.anc z hz
     ·simp at hz;subst hz;exact .inr (.step hpar (hpath.anc x (.head _)))
   have hlen:(s.se++ [y]).length≤q.ks.length:=List.Nodup.length_le_of_subset w2.send fun z hz=>w2.ks z hz
   have hlen2:s.se.length+1≤q.ks.length:=by simpa using hlen
   obtain⟨s',o',res,hf,hR⟩:=ihN (q.ks.length - ((s.inc b x i t).push b y).se.length) (by
    show q.ks.length - (s.se++ [y]).length<N
    rw [List.length_append];simp only [List.length_cons,List.length_nil];omega) _ (some (.str y)) ((s.inc b x i t).push b y) rfl rfl w2 j2
   refine⟨s',o',res,hf,fun cnt=> ?_⟩
   exact .inl ⟨some (.str y),s.inc b x i t,.brk ((H cnt).test o s _ t ht w) ((H cnt).next o s x i t y ht w hy),(H cnt).toWr (hR cnt) (fun f ms' σ'=>(H cnt).push y (s.inc b x i t) f ms' σ' w1 hse hyk)⟩
structure PR (par:Str→Option Str) (q:SS) (s:FS):Prop where
 t:s.t= []
 cl: ∀x∈s.se,∀y∈q.su x,y∈s.se
 no: ∀x∈s.se,¬OnR par x
 ks: ∀x∈s.se,x∈q.ks
 send:s.se.Nodup
 inn: ∀x,x∉s.se→s.I x=none
theorem PR.of (G:Gph par q) (h:s.t= []) (w:WF par q b r s) (j:JJ par q r s):PR par q s:=by
 have hf: ∀x∈s.se,∀y∈q.su x,y∈s.se∧y≠r:=fun x hx y hy=>j.fin x hx (by rw [h];exact fun z=>by cases z) y hy
 have up: ∀y,Anc par r y→y∈s.se:=by
  intro y a
  induction a with
  | refl=>exact j.root
  | step hp _ ih=>exact(hf _ ih _ (G.par _ _ hp).2).1
 have hr: ¬OnR par r:=by
  rintro ⟨y,hp,a⟩
  exact(hf y (up y a) r (G.par _ _ hp).2).2 rfl
 refine⟨h,fun x hx y hy=>(hf x hx y hy).1,fun x hx=> ?_,w.ks,w.send,w.inn⟩
 rcases j.anc x hx with z | z
 ·exact z
 ·exact fun o=>hr (o.anc z)
theorem PR.start (h:PR par q s) (hr:r∉s.se) (hk:r∈q.ks):WF par q b r s∧WF par q b r (s.push b r)∧JJ par q r (s.push b r):=by
 have w:WF par q b r s:=⟨.inl h.t,by rw [h.t];exact List.nodup_nil,by rw [h.t];exact fun x z=>(by cases z),h.ks,h.send,by rw [h.t];exact fun x z=>(by cases z),h.inn⟩
 refine⟨w,w.push hr hk (.inl ⟨h.t,rfl⟩),?_⟩
 refine⟨fun x hx hxt y hy=> ?_,fun p hp=> ?_,fun x hx=> ?_,List.mem_append.mpr (.inr (.head _))⟩
 ·rcases List.mem_append.mp hx with hx | hx
  ·have:=h.cl x hx y hy
   exact⟨List.mem_append.mpr (.inl this),fun e=>hr (by rw [←e];exact this)⟩
  ·simp at hx;subst hx
   exact absurd (List.Mem.head _) hxt
 ·show∀y∈_,_
  rcases List.mem_cons.mp hp with rfl | hp
  ·intro y hy;simp at hy
  ·rw [h.t]at hp;cases hp
 ·rcases List.mem_append.mp hx with hx | hx
  ·exact .inl (h.no x hx)
  ·simp at hx;subst hx;exact .inr .refl
end L2
end
section
namespace L2
open V (AV AO)
section
variable {par:Str→Option Str} {q:SS} {b:Nat}
theorem keL (G:Gph par q) {C:V.Cx} {k:Nat} {sc:Scope} {te te2:Expr} {bd ob bd2 bdF:List Stmt} {wpos p2:Pos} {tgt:Expr} {ok:Nat→V.St→Prop} {M:Option AV→List (Option AV)} {F:Nat→FS→V.St} (H: ∀r cnt,HH par q b r C k sc te te2 bd ob bd2 wpos M (F cnt))
  (Has: ∀cnt o x s,V.As C k sc (M o) (F cnt s) tgt (.str x) (M (some (.str x))) (F cnt s))
  (Hok: ∀cnt s,ok cnt (F cnt s))
  (Hskip: ∀cnt x s,PR par q s→x∈s.se→V.Ex C k sc (M (some (.str x))) (F cnt s) bdF .cont (M (some (.str x))) (F cnt s))
  (Hgo: ∀cnt x s f ms' σ',PR par q s→x∉s.se→V.Ex C k sc (M (some (.str x))) (F cnt s) [.While te2 bd2 [] p2] f ms' σ'→V.Ex C k sc (M (some (.str x))) (F cnt s) bdF f ms' σ'):
  ∀(ks2:List Str) (s:FS) (o:Option AV),PR par q s→(∀x∈ks2,x∈q.ks)→ ∃s' o' res,Cyc par ks2 res∧ ∀cnt,V.Lr C k sc (ok cnt) tgt bdF (ks2.map .str) (M o) (F cnt s) (fOf res) (M o') (F cnt s'):=by
 intro ks2
 induction ks2 with
 | nil=>intro s o P hk;exact⟨s,o,none,fun x hx=>(by cases hx),fun cnt=> .nil (Hok cnt s)⟩
 | cons x ks2 ih=>
  intro s o P hk
  have more: ∀(s1:FS) (o1:Option AV),PR par q s1→x∈s1.se→(∀cnt,∃f,(f= .next∨f= .cont)∧V.Ex C k sc (M (some (.str x))) (F cnt s) bdF f (M o1) (F cnt s1))→ ∃s' o' res,Cyc par (x::ks2) res∧ ∀cnt,V.Lr C k sc (ok cnt) tgt bdF ((x::ks2).map .str) (M o) (F cnt s) (fOf res) (M o') (F cnt s'):=by
   intro s1 o1 P1 hx1 hE
   obtain⟨s',o',res,hc,hL⟩:=ih s1 o1 P1 (fun y hy=>hk y (.tail _ hy))
   refine⟨s',o',res,?_,fun cnt=> ?_⟩
   ·cases res with
    | none=>
     intro y hy
     rcases List.mem_cons.mp hy with rfl | hy
     ·exact P1.no _ hx1
     ·exact hc y hy
    | some L=>
     obtain⟨pre,r,post,e,hp,hr⟩:=hc
     refine⟨x::pre,r,post,by rw [e];rfl,fun y hy=> ?_,hr⟩
     rcases List.mem_cons.mp hy with rfl | hy
     ·exact P1.no _ hx1
     ·exact hp y hy
   ·obtain⟨f,hf,hE⟩:=hE cnt
    exact .cons (Hok cnt s) (Has cnt o x s) hE hf (hL cnt)
  by_cases hx:x∈s.se
  ·exact more s (some (.str x)) P hx (fun cnt=>⟨.cont,.inr rfl,Hskip cnt x s P hx⟩)
  ·obtain⟨w0,w1,j1⟩:=P.start (b:=b) hx (hk x (.head _))
   obtain⟨s1,o1,res,hf,hR⟩:=phB G (H x) _ _ (some (.str x)) (s.push b x) rfl rfl w1 j1
   have hw:=fun cnt=>(H x cnt).toWr (hR cnt) (fun f ms' σ'=>(H x cnt).push x s f ms' σ' w0 hx (hk x (.head _)))
   cases res with
   | none=>
    obtain⟨h1,h2,h3⟩:=hf
    exact more s1 o1 (PR.of G h1 h2 h3) h3.root (fun cnt=>⟨.next,.inl rfl,Hgo cnt x s _ _ _ P hx (V.Eca (V.X1W (hw cnt)) V.Eni)⟩)
   | some L=>
    refine⟨s1,o1,some L,⟨[],x,ks2,rfl,fun y hy=>(by cases hy),hf⟩,fun cnt=> ?_⟩
    exact .stop (Hok cnt s) (Has cnt o x s) (Hgo cnt x s _ _ _ P hx (V.Est (V.X1W (hw cnt)) (fun z=>by cases z))) (.inr ⟨_,rfl⟩)
theorem Gx {C:V.Cx} {k:Nat} {sc:Scope} {ms ms₁:List (Option AV)} {σ σ₁:V.St} {st:Stmt} {rest:List Stmt} {P:V.AF→V.St→Prop} (h1:V.X1 C k sc ms σ st .next ms₁ σ₁) (h2: ∃f ms' σf,V.Ex C k sc ms₁ σ₁ rest f ms' σf∧P f σf): ∃f ms' σf,V.Ex C k sc ms σ (st::rest) f ms' σf∧P f σf:=by
 obtain⟨f,ms',σf,h,hp⟩:=h2
 exact⟨f,ms',σf,V.Eca h1 h,hp⟩
noncomputable def fS0 (b m:Nat) (q:SS) (σ:V.St) (s:FS):V.St:=fc m (stA s.t) (stB m s.t) s.se (n2s s.t) s.I (srt b q σ)
theorem fSc {m:Nat} {σ:V.St} {s:FS} (hm:b+6<m) {cnt:Nat}:(fS0 b m q σ s).set ⟨b+2,e0⟩ (.map (sN b q) cnt)=fS b m q σ cnt s:=by
 unfold fS0 fS;exact fcLow (by show b+2<m;omega)
theorem fcFor (G:Gph par q) {m:Nat} {σ:V.St} (hm:b+6<m) {C:V.Cx} {k:Nat} {sc:Scope} (h0:C.hx=none) {te te2:Expr} {bd ob:List Stmt} {st1 st2:Stmt} {wpos p2 pos:Pos} {tgt iter:Expr} {rest:List Stmt} {P:V.AF→V.St→Prop} {M:Option AV→List (Option AV)} (H: ∀r cnt,HH par q b r C k sc te te2 bd ob [st2,.While te bd ob wpos] wpos M (fS b m q σ cnt))
  (Has: ∀cnt o x s,V.As C k sc (M o) (fS b m q σ cnt s) tgt (.str x) (M (some (.str x))) (fS b m q σ cnt s))
  (Hskip: ∀cnt x s,PR par q s→x∈s.se→V.Ex C k sc (M (some (.str x))) (fS b m q σ cnt s) [st1,.While te2 [st2,.While te bd ob wpos] [] p2] .cont (M (some (.str x))) (fS b m q σ cnt s))
  (Hgo: ∀cnt x s f ms' σ',PR par q s→x∉s.se→V.Ex C k sc (M (some (.str x))) (fS b m q σ cnt s) [.While te2 [st2,.While te bd ob wpos] [] p2] f ms' σ'→V.Ex C k sc (M (some (.str x))) (fS b m q σ cnt s) [st1,.While te2 [st2,.While te bd ob wpos] [] p2] f ms' σ')
  (Hiter: ∀cnt s,V.Ev C k sc (M none) (fS b m q σ cnt s) iter (.loc ⟨b+2,e0⟩) (M none) (fS b m q σ cnt s)) (hs: ∀env x,foldedSetIterable iter env x=pure x)
  (hN:Cyc par q.ks none→ ∀o' s',∃f ms' σf,V.Ex C k sc (M o') (fS0 b m q σ s') rest f ms' σf∧P f σf)
  (hL: ∀L,Cyc par q.ks (some L)→ ∀s',P (.ret (.lst (L.map .str))) (fS0 b m q σ s')):
  ∃f ms' σf,V.Ex C k sc (M none) (fc m [] [] [] [] (fun u=>none) (srt b q σ)) (.For tgt iter [st1,.While te2 [st2,.While te bd ob wpos] [] p2] [] pos::rest) f ms' σf∧P f σf:=by
 let s0:FS:=⟨[],[],fun u=>none⟩
 have P0:PR par q s0:=⟨rfl,fun x hx=>(by cases hx),fun x hx=>(by cases hx),fun x hx=>(by cases hx),List.nodup_nil,fun u v=>rfl⟩
 have lk: ∀s,fS0 b m q σ s ⟨b+2,e0⟩=some (.dict (sN b q)):=fun s=>by
  unfold fS0;rw [fcL (by show b+2<m;omega),sr2]
 have lk2: ∀cnt s,fS b m q σ cnt s ⟨b+2,e0⟩=some (.map (sN b q) cnt):=fun cnt s=>by
  unfold fS;rw [fcL (by show b+2<m;omega),V.set_same]
 obtain⟨s',o',res,hc,hLr⟩:=keL G H Has (ok:=fun cnt σ'=>σ' ⟨b+2,e0⟩=some (.map (sN b q) cnt)) lk2 Hskip Hgo q.ks s0 none P0 (fun u z=>z)
 have X:V.X1 C k sc (M none) (fS0 b m q σ s0) (.For tgt iter [st1,.While te2 [st2,.While te bd ob wpos] [] p2] [] pos) (fOf res).after (M o') (fS0 b m q σ s'):=by
  refine V.Tc (l:=⟨b+2,e0⟩) (lk s0) (lk s') (fun cnt=> ?_)
  rw [fSc hm,fSc hm]
  have I:=V.Ik (C:=C) (k:=k) (l:=⟨b+2,e0⟩) (n:=cnt) (es:=sN b q) (DNs G.nd) h0
  have em:(sN b q).map (fun p=>AV.str p.1)=q.ks.map .str:=by unfold sN;rw [List.map_map];rfl
  rw [em]at I
  exact V.XF (Hiter cnt s0) I (lk2 cnt s0) (hLr cnt) hs
 have e0':fS0 b m q σ s0=fc m [] [] [] [] (fun u=>none) (srt b q σ):=rfl
 rw [←e0']
 cases res with
 | none=>
  obtain⟨f,ms',σf,h,hp⟩:=hN hc o' s'
  exact⟨f,ms',σf,V.Eca X h,hp⟩
 | some L=>exact⟨_,_,_,V.Est X (fun z=>by cases z),hL L hc s'⟩
end
section
variable {C:V.Cx} {k:Nat} {m:Nat} {A:List AV} {B:List AV} {S:List Str} {D:List (Str×AV)} {I:Str→Option AO} {σ:V.St} {x:Str} {v:AV}
theorem oApp0 (hz:A.length≤1000):V.Ca C k (fc m A B S D I σ) (.bi "list.append") [.loc ⟨m,e0⟩,v] [] .none (fc m (A++ [v]) B S D I σ):=by
 have z:=V.Cap (C:=C) (k:=k) (x:=v) (fc0 (m:=m) (A:=A) (B:=B) (S:=S) (D:=D) (I:=I) (σ:=σ)) (V.lof hz (by decide))
 rwa [fcA]at z
theorem oApp1 (hz:B.length≤1000):V.Ca C k (fc m A B S D I σ) (.bi "list.append") [.loc ⟨m+1,e0⟩,v] [] .none (fc m A (B++ [v]) S D I σ):=by
 have z:=V.Cap (C:=C) (k:=k) (x:=v) (fc1 (m:=m) (A:=A) (B:=B) (S:=S) (D:=D) (I:=I) (σ:=σ)) (V.lof hz (by decide))
 rwa [fcB]at z
theorem oPop0 (hz:A.length≤1000):V.Ca C k (fc m (A++ [v]) B S D I σ) (.bi "list.pop") [.loc ⟨m,e0⟩] [] v (fc m A B S D I σ):=by
 have z:=V.Cp (C:=C) (k:=k) (x:=v) (fc0 (m:=m) (A:=A++ [v]) (B:=B) (S:=S) (D:=D) (I:=I) (σ:=σ)) (V.lof (n:=A.length+1) (m:=1001) (by omega) (by decide))
 rwa [fcA]at z
theorem oPop1 (hz:B.length≤1000):V.Ca C k (fc m A (B++ [v]) S D I σ) (.bi "list.pop") [.loc ⟨m+1,e0⟩] [] v (fc m A B S D I σ):=by
 have z:=V.Cp (C:=C) (k:=k) (x:=v) (fc1 (m:=m) (A:=A) (B:=B++ [v]) (S:=S) (D:=D) (I:=I) (σ:=σ)) (V.lof (n:=B.length+1) (m:=1001) (by omega) (by decide))
 rwa [fcB]at z
theorem oAdd (hx:x∉S) (hz:S.length≤1000):V.Ca C k (fc m A B S D I σ) (.bi "set.add") [.loc ⟨m+2,e0⟩,.str x] [] .none (fc m A B (S++ [x]) D I σ):=by
 have z:=V.C_add (C:=C) (k:=k) (x:=x) (ys:=S++ [x]) (fc2 (m:=m) (A:=A) (B:=B) (S:=S) (D:=D) (I:=I) (σ:=σ)) (by show _<4096;omega) (by rw [if_neg hx])
 rwa [fcS]at z
theorem oDset (hd:V.DN D) (hz:D.length≤1000) (hx:x∉D.map (·.1)):V.Op3 C k (fc m A B S D I σ) setItem (.loc ⟨m+3,e0⟩) (.str x) v (fun u w=>True) (fc m A B S (D++ [(x,v)]) I σ):=by
 have z:=V.Ds (C:=C) (k:=k) (key:=x) (x:=v) (.inl (fc3 (m:=m) (A:=A) (B:=B) (S:=S) (D:=D) (I:=I) (σ:=σ))) hd (V.lof hz (by decide))
 rwa [fcD,dne hx]at z
theorem oDdel (hd:V.DN (D++ [(x,v)])) (hz:D.length≤1000) (hx:x∉D.map (·.1)):V.Op2 C k (fc m A B S (D++ [(x,v)]) I σ) delItem (.loc ⟨m+3,e0⟩) (.str x) (fun u w=>True) (fc m A B S D I σ):=by
 have z:=V.D_del (C:=C) (k:=k) (key:=x) (.inl (fc3 (m:=m) (A:=A) (B:=B) (S:=S) (D:=D++ [(x,v)]) (I:=I) (σ:=σ))) hd (V.lof (n:=(D++ [(x,v)]).length) (m:=1001) (by simp;omega) (by decide)) (dso (by simp))
 rwa [fcD,ddn hx]at z
theorem oIter {ll:V.Loc} {xs:List AV} (h:fc m A B S D I σ ll=some (.list xs)) (hI:I x=none):V.Ca C k (fc m A B S D I σ) (.bi "iter") [.loc ll] [] (.loc ⟨m+4,x⟩) (fc m A B S D (upd I x (some (.iter ll 0))) σ):=by
 have z:=V.Cit (C:=C) (k:=k) (l:=⟨m+4,x⟩) h (by rw [fc4];exact hI)
 rwa [fcI]at z
theorem oN {ll:V.Loc} {i:Nat} (hI:I x=some (.iter ll i)):V.Op1 C k (fc m A B S D I σ) (fun x=>getAttr x (Str.ofString "__next__") true) (.loc ⟨m+4,x⟩) (fun W r=>V.VR W (.mw "list_iterator.__next__" ⟨m+4,x⟩) r) (fc m A B S D I σ):=V.Opn (by rw [fc4];exact hI)
theorem oNext {ll:V.Loc} {i:Nat} {xs:List AV} (hI:I x=some (.iter ll i)) (h:fc m A B S D I σ ll=some (.list xs)) (hx:xs[i]? =some v):V.Ca C k (fc m A B S D I σ) (.mw "list_iterator.__next__" ⟨m+4,x⟩) [] [] v (fc m A B S D (upd I x (some (.iter ll (i+1)))) σ):=by
 have z:=V.Cne (C:=C) (k:=k) (l:=⟨m+4,x⟩) (by rw [fc4];exact hI) h hx
 rwa [fcI]at z
theorem oStop {ll:V.Loc} {i:Nat} {xs:List AV} (h0:C.hx=none) (hI:I x=some (.iter ll i)) (h:fc m A B S D I σ ll=some (.list xs)) (hx:xs.length≤i):V.CaX C k (fc m A B S D I σ) (.mw "list_iterator.__next__" ⟨m+4,x⟩) [] (.type "StopIteration") [] (fc m A B S D (upd I x (some .junk)) σ):=by
 have z:=V.CXn (C:=C) (k:=k) (l:=⟨m+4,x⟩) (by rw [fc4];exact hI) h hx h0
 rwa [fcI]at z
end
theorem fra {α:Type}: ∀(xs:List α),(List.range xs.length).filterMap (xs[·]?)=xs
 | []=>rfl
 | x::xs=>by
  rw [List.length_cons,List.range_succ_eq_map,List.filterMap_cons,List.filterMap_map]
  have e:((fun i=>(x::xs)[i]?) ∘ Nat.succ)=fun i=>xs[i]? :=by funext i;simp
  rw [e,fra xs];rfl
theorem fup {α:Type} (xs:List α):(sliceRange 0 (xs.length:Int) 1).filterMap (xs[·]?)=xs:=by
 have e:sliceRange 0 (xs.length:Int) 1=List.range xs.length:=by
  have:(if(1:Int)>0 then(if(0:Int)<xs.length then((xs.length:Int) - 0+1 - 1) / 1 else 0)else(if(0:Int)>xs.length then(0 - (xs.length:Int) - 1 - 1) / (-1)else 0)).toNat=xs.length:=by
   rw [if_pos (by decide)]
   split
   ·rw [Int.ediv_one];omega
   ·omega
  refine(congrArg (fun n=>(List.range n).map fun(k:Nat)=>((0:Int)+1 * (k:Int)).toNat) this).trans ?_
  show((List.range xs.length).map fun(k:Nat)=>((0:Int)+1 * (k:Int)).toNat)=_
  have:(fun k:Nat=>((0:Int)+1 * (k:Int)).toNat)=_root_.id:=by funext k;simp
  rw [this,List.map_id]
 rw [e,fra]
theorem lal {α:Type} (xs:List α):V.lpi xs (some 0) none none=xs:=by
 unfold V.lpi
 have e:sliceBounds (some 0) none none xs.length=(0,(xs.length:Int),1):=by
  unfold sliceBounds;simp
  omega
 rw [e];exact fup xs
theorem lpo {α:Type} (xs:List α):V.lpi xs none none (some 1)=xs:=by
 unfold V.lpi
 have e:sliceBounds none none (some 1) xs.length=(0,(xs.length:Int),1):=by
  unfold sliceBounds;simp
 rw [e];exact fup xs
theorem fco {α β:Type} {f g:α→Option β}: ∀{l:List α},(∀x∈l,f x=g x)→l.filterMap f=l.filterMap g
 | [],_=>rfl
 | x::l,h=>by rw [List.filterMap_cons,List.filterMap_cons,h x (.head _),fco fun y hy=>h y (.tail _ hy)]
theorem lre {α:Type} (xs:List α):V.lpi xs none none (some (-1))=xs.reverse:=by
 unfold V.lpi
 have e:sliceBounds none none (some (-1)) xs.length=((xs.length:Int) - 1,-1,-1):=by
  unfold sliceBounds;simp
 rw [e]
 have e:sliceRange ((xs.length:Int) - 1) (-1) (-1)=(List.range xs.length).map fun k=>xs.length - 1 - k:=by
  have:(if(-1:Int)>0 then(if(xs.length:Int) - 1< -1 then((-1:Int) - ((xs.length:Int) - 1)+ -1 - 1) / -1 else 0)else(if(xs.length:Int) - 1> -1 then((xs.length:Int) - 1 - -1 - -1 - 1) / (- -1)else 0)).toNat=xs.length:=by
   rw [if_neg (by decide)]
   split
   ·show(((xs.length:Int) - 1 - -1 - -1 - 1) / 1).toNat=_
    rw [Int.ediv_one];omega
   ·omega
  refine(congrArg (fun n=>(List.range n).map fun(k:Nat)=>((xs.length:Int) - 1+ -1 * (k:Int)).toNat) this).trans ?_
  apply List.map_congr_left
  intro k hk
  rw [List.mem_range]at hk
  omega
 show(sliceRange ((xs.length:Int) - 1) (-1) (-1)).filterMap (xs[·]?)=_
 rw [e,List.filterMap_map]
 have h:=fra xs.reverse
 rw [List.length_reverse]at h
 rw [←h]
 apply fco
 intro k hk
 rw [List.mem_range]at hk
 show xs[xs.length - 1 - k]? =xs.reverse[k]?
 rw [List.getElem?_reverse hk]
end L2
end
section
namespace L2
open Builtin Builtin.Str
local macro_rules | `(tactic| kln_le)=> `(tactic| first
 | (with_reducible assumption)
 | ((with_reducible apply V.Bc)<;>kln_le)
 | ((with_reducible apply V.Bs);kln_le)
 | ((with_reducible apply V.Bm)<;>first | kln_le | omega)
 | ((with_reducible apply V.Bl (x:=Str.ofString _));rfl))
open V (AV AO)
noncomputable def reV:Option (List Str)→AV
 | none=> .none
 | some L=> .lst (L.map .str)
section
variable {m cnt:Nat} {A B:List AV} {S:List Str} {D:List (Str×AV)} {I:Str→Option AO} {σ:V.St} {b:Nat} {q:SS} {x:Str}
theorem lk2 (hm:b+6<m):fc m A B S D I ((srt b q σ).set ⟨b+2,e0⟩ (.map (sN b q) cnt)) ⟨b+2,e0⟩=some (.map (sN b q) cnt):=by
 rw [fcL (by show b+2<m;omega),V.set_same]
theorem lk3 (hm:b+6<m) (hx:x∈q.ks):fc m A B S D I ((srt b q σ).set ⟨b+2,e0⟩ (.map (sN b q) cnt)) ⟨b+3,x⟩=some (.slots 57 ⟨b+4,x⟩ (sI b q x)):=by
 rw [fcL (by show b+3<m;omega),V.sot (by simp),sr3 hx]
theorem lk5 (hm:b+6<m) (hx:x∈q.ks):fc m A B S D I ((srt b q σ).set ⟨b+2,e0⟩ (.map (sN b q) cnt)) ⟨b+5,x⟩=some (.list ((q.su x).map .str)):=by
 rw [fcL (by show b+5<m;omega),V.sot (by simp),sr5 hx]
theorem sAl {t:List (Str×Nat)}:(stA t).length=t.length:=by unfold stA;simp
theorem sBl {t:List (Str×Nat)}:(stB m t).length=t.length:=by unfold stB;simp
theorem sAs {t:List (Str×Nat)}:stA t=(t.map (·.1)).reverse.map .str:=by unfold stA;rw [←List.map_reverse,List.map_map];rfl
theorem WF.lens {par:Str→Option Str} {r:Str} {s:FS} (G:Gph par q) (w:WF par q b r s):s.t.length≤1000∧s.se.length≤1000:=by
 have h1:=List.Nodup.length_le_of_subset w.send fun z hz=>w.ks z hz
 have h2:=List.Nodup.length_le_of_subset w.nd fun z hz=>w.sub z hz
 rw [List.length_map]at h2
 have:=G.len
 omega
end
theorem nro {par:Str→Option Str} {r:Str}: ∀{t:List (Str×Nat)},Pth par r (t.map (·.1))→V.dge (n2s t) r=some (.int 0)
 | [],h=>by cases h
 | [(x,i)],h=>by
  cases h with
  | one=>unfold n2s n2s V.dge;simp
 | (x,i)::(y,j)::t,h=>by
  cases h with
  | cons hp p=>unfold n2s;exact dap (nro p)
theorem cfc {C:V.Cx} (h:Is C) {k:Nat} {σ:V.St} {b:Nat} {q:SS} {par:Str→Option Str} {res:Option (List Str)} (G:Gph par q) (hres:Cyc par q.ks res):
  V.Cd C (k+1) (srt b q σ) (.ext 144) [.loc ⟨b,e0⟩] [] (reV res) (srt b q σ):=by
 have hx0:=h.hx
 refine V.Cnm h.ok ⟨⟨_,_,_,by rw [h.K];exact rfl⟩,rfl,rfl,rfl,rfl,by rw [h.K];rfl,rfl,rfl,by decide+kernel⟩ [(Str.ofString "self",.local),(Str.ofString "n2i",.local),(Str.ofString "stack",.local),(Str.ofString "itstack",.local),(Str.ofString "seen",.local),(Str.ofString "node2stacki",.local),(Str.ofString "node",.local),(Str.ofString "set",.globalImplicit),(Str.ofString "iter",.globalImplicit),(Str.ofString "len",.globalImplicit),(Str.ofString "StopIteration",.globalImplicit)] rfl [(Str.ofString "self",.loc ⟨b,e0⟩)] _
  (V.Bp (V.l1a fun a0=>rfl) rfl) rfl rfl fun sc hF n hn=> ?_
 obtain⟨n0,n1,n2,n3,n4,n5,n6,n7,n8,n9,n10,_⟩:=hF
 have gS:V.Glob C (Str.ofString "StopIteration") (.ty "StopIteration"):=gSI h
 have hb2:b+2<n:=by
  rcases Nat.lt_or_ge (b+2) n with z | z
  ·exact z
  ·have:=hn ⟨b+2,e0⟩ z;rw [sr2]at this;cases this
 have hm:b+6<n+10:=by omega
 have keep: ∀s' l o,srt b q σ l=some o→fS0 b (n+10) q σ s' l=some o:=fun s' l o z=>by
  have:l.tag<n:=by
   rcases Nat.lt_or_ge l.tag n with y | y
   ·exact y
   ·rw [hn l y]at z;cases z
  unfold fS0;rw [fcL (by omega)];exact z
 have hfree: ∀l:V.Loc,n+10≤l.tag→srt b q σ l=none:=fun l hl=>hn l (by omega)
 refine Gx (V.X1A (V.EAt (V.ELo n0 rfl) (ldi h) (fun u v=>rfl)) (V.AL' n1 rfl) (fun u=>rfl) (fun u=>rfl) (fun u=>rfl)) ?_
 refine Gx (V.X1A (V.ELi ⟨n+10,e0⟩ V.En (Nat.zero_le _) (hfree _ (Nat.le_refl _))) (V.AL' n2 rfl) (fun u=>rfl) (fun u=>rfl) (fun u=>rfl)) ?_
 refine Gx (V.X1A (V.ELi ⟨n+10+1,e0⟩ V.En (Nat.zero_le _) (by rw [V.sot (by simp)];exact hfree _ (by simp))) (V.AL' n3 rfl) (fun u=>rfl) (fun u=>rfl) (fun u=>rfl)) ?_
 refine Gx (V.X1A (V.ECa (V.EGl h.ok n7 (g_set h)) V.En V.Kty (V.Cs0 (l:=⟨n+10+2,e0⟩) (by rw [V.sot (by simp),V.sot (by simp)];exact hfree _ (by show n+10≤n+10+2;omega))) (fun u=>rfl) (fun u=>rfl)) (V.AL' n4 rfl) (fun u=>rfl) (fun u=>rfl) (fun u=>rfl)) ?_
 refine Gx (V.X1A (V.Ev0 ⟨n+10+3,e0⟩ (by rw [V.sot (by simp),V.sot (by simp),V.sot (by simp)];exact hfree _ (by show n+10≤n+10+3;omega))) (V.AL' n5 rfl) (fun u=>rfl) (fun u=>rfl) (fun u=>rfl)) ?_
 rw [fcs hfree]
 refine fcFor G hm hx0 (M:=fun o=> [some (.loc ⟨b,e0⟩),some (.loc ⟨b+2,e0⟩),some (.loc ⟨n+10,e0⟩),some (.loc ⟨n+10+1,e0⟩),some (.loc ⟨n+10+2,e0⟩),some (.loc ⟨n+10+3,e0⟩),o,none,none,none,none]) ?_ ?_ ?_ ?_ ?_ (fun u v=>rfl) ?_ ?_
 ·intro r cnt
  refine⟨?_,?_,?_,?_,?_,?_,?_,?_⟩
  ·rintro o ⟨se,t,I⟩ ht
   obtain rfl:t= []:=ht
   exact⟨(V.Tva (b:=false) (V.ELo n2 rfl) (V.Ltr (.loc fc0) (Nat.zero_le _) rfl) (fun u v=>rfl)),V.Ebr⟩
  ·rintro o ⟨se,t,I⟩ p t' ht w
   obtain⟨l1,l2⟩:=w.lens G
   obtain rfl:t=p::t':=ht
   exact(V.Tva (b:=true) (V.ELo n2 rfl) (V.Ltr (.loc fc0) (V.lof (m:=1000) (by rw [sAl];exact l1) (by decide)) (by rw [sAc];simp)) (fun u v=>rfl))
  ·rintro o ⟨se,t,I⟩ x i t' y ht w hy
   obtain⟨l1,l2⟩:=w.lens G
   obtain rfl:t=(x,i)::t':=ht
   have hI:I x=some (.iter ⟨b+5,x⟩ i):=w.it (x,i) (.head _)
   have hxk:x∈q.ks:=w.ks x (w.sub x (.head _))
   have e2:stA ((x,i+1)::t')=stA ((x,i)::t'):=by rw [sAc,sAc]
   unfold fS FS.inc
   dsimp only
   rw [e2,sBc,sBc]
   have hl1:(stB (n+10) t').length≤1000:=by rw [sBl];simp only [List.length_cons]at l1;omega
   exact V.Est (V.X1T (V.Eca (V.X1A (V.ECa (V.ESu (V.ELo n3 rfl) (V.EUO V.EIn V.ina) (V.BL (.loc fc1)) (V.Li (.loc fc1) (by decide) (by simp<;>omega) (by decide) V.lai)) V.En V.Km (oNext hI (lk5 hm hxk) (by rw [List.getElem?_map,hy];rfl)) (fun u=>rfl) (fun u=>rfl)) (V.AL' n6 rfl) (fun u=>rfl) (fun u=>rfl) (fun u=>rfl)) V.Ebr)) (fun z=>by cases z)
  ·rintro o ⟨se,t,I⟩ x i t' ht w hy
   obtain⟨l1,l2⟩:=w.lens G
   obtain rfl:t=(x,i)::t':=ht
   have hI:I x=some (.iter ⟨b+5,x⟩ i):=w.it (x,i) (.head _)
   have hxk:x∈q.ks:=w.ks x (w.sub x (.head _))
   have hnd:=w.nd
   have hnx:x∉(n2s t').map (·.1):=by rw [nke,List.mem_reverse];exact(List.nodup_cons.mp hnd).1
   have hlt:t'.length≤999:=by simp only [List.length_cons]at l1;omega
   have hdn:V.DN (n2s t'++ [(x,.int t'.length)]):=n2a (t:=(x,i)::t') hnd
   unfold fS FS.pop
   dsimp only
   rw [sAc,sBc,show n2s ((x,i)::t')=n2s t'++ [(x,.int t'.length)]from rfl]
   refine V.Eca (V.X1C (V.Rx (V.RAs (V.RCa (V.ESu (V.ELo n3 rfl) (V.EUO V.EIn V.ina) (V.BL (.loc fc1)) (V.Li (.loc fc1) (by decide) (by simp<;>omega) (by decide) V.lai)) V.En V.Km (oStop hx0 hI (lk5 hm hxk) (by rw [List.length_map];exact hy)) (fun u=>rfl) (fun u=>rfl)) (fun u=>rfl))) (by intro z;injection z with z;exact absurd z (by decide)) (V.EGl h.ok.h n10 gS) (V.Mty (by rw [isSubtype_type];kernel_rfl) (by rw [isSubtype_type];kernel_rfl) (by rw [isSubtype_type];kernel_rfl)) (V.Eca (V.XS (V.ELo n5 rfl) (V.EMC (V.ELo n2 rfl) (V.Mp fc0) V.En V.Kbi (oPop0 (by rw [sAl];omega)) (fun u v=>rfl) (fun u=>rfl) rfl (fun u=>rfl)) (oDdel hdn (by rw [nle];omega) hnx)) (V.Eca (V.X1E (V.EMC (V.ELo n3 rfl) (V.Mp fc1) V.En V.Kbi (oPop1 (by rw [sBl];omega)) (fun u v=>rfl) (fun u=>rfl) rfl (fun u=>rfl)) (fun u v=>rfl)) V.Eni))) V.Eni
  ·intro o s
   exact(V.Tva (b:=true) V.EBo V.btr (fun u v=>rfl))
  ·rintro y ⟨se,t,I⟩ f ms' σ' w hse hyk E
   obtain⟨l1,l2⟩:=w.lens G
   have hI:I y=none:=w.inn y hse
   have hse:y∉se:=hse
   have hnx:y∉(n2s t).map (·.1):=by rw [nke,List.mem_reverse];exact fun z=>hse (w.sub y z)
   have hlt:t.length≤1000:=l1
   have hlz:se.length≤1000:=l2
   unfold fS FS.push at E
   dsimp only at E
   rw [sAc,sBc,show n2s ((y,0)::t)=n2s t++ [(y,.int t.length)]from rfl]at E
   unfold fS
   dsimp only
   refine V.EIF (V.TCo (c:=false) (V.ELo n6 rfl) (V.ELo n4 rfl) (V.Sin fc2 (by show _<4096;omega) (by simp [hse])) rfl) ?_
   refine V.Eca (V.X1E (V.EMC (V.ELo n4 rfl) (V.M_add fc2 (by show _<4096;omega)) (V.Eco (V.ELo n6 rfl) V.En (fun u=>rfl)) V.Kbi (oAdd hse hlz) (fun u v=>rfl) (fun u=>rfl) rfl (fun u=>rfl)) (fun u v=>rfl)) ?_
   refine V.Eca (V.X1E (V.EMC (V.ELo n3 rfl) (V.Map fc1) (V.Eco (V.EAt (V.ECa (V.EGl h.ok n8 (g_iter h)) (V.Eco (V.EAt (V.ESu (V.ELo n1 rfl) (V.ELo n6 rfl) (V.Bdi (.inr ⟨_,lk2 hm⟩)) (V.Dg (.inr ⟨_,lk2 hm⟩) (DNs G.nd) (dN hyk))) (gs2 h (.inr (lk3 hm hyk)) rfl nlo nal) (fun u v=>rfl)) V.En (fun u=>rfl)) V.Kbi (oIter (lk5 hm hyk) hI) (fun u=>rfl) (fun u=>rfl)) (oN usa) (fun u v=>rfl)) V.En (fun u=>rfl)) V.Kbi (oApp1 (by rw [sBl];omega)) (fun u v=>rfl) (fun u=>rfl) rfl (fun u=>rfl)) (fun u v=>rfl)) ?_
   refine V.Eca (V.X1A (V.ECa (V.EGl h.ok n9 (gle h)) (V.Eco (V.ELo n2 rfl) V.En (fun u=>rfl)) V.Kbi (V.ClL (.loc fc0) (V.lof (m:=1000) (by rw [sAl];omega) (by decide))) (fun u=>rfl) (fun u=>rfl)) (V.ASu (V.ELo n5 rfl) (V.ELo n6 rfl) (oDset (n2a w.nd) (by rw [nle];omega) hnx)) (fun u=>rfl) (fun u=>rfl) (fun u=>rfl)) ?_
   rw [sAl]
   exact V.Eca (V.X1E (V.EMC (V.ELo n2 rfl) (V.Map fc0) (V.Eco (V.ELo n6 rfl) V.En (fun u=>rfl)) V.Kbi (oApp0 (by rw [sAl];omega)) (fun u v=>rfl) (fun u=>rfl) rfl (fun u=>rfl)) (fun u v=>rfl)) E
  ·rintro y ⟨se,t,I⟩ f ms' σ' w hse hyt E
   obtain⟨l1,l2⟩:=w.lens G
   have hse:y∈se:=hse
   have hlz:se.length≤1000:=l2
   have hnx:y∉(n2s t).map (·.1):=by rw [nke,List.mem_reverse];exact hyt
   unfold fS at E⊢
   dsimp only at E⊢
   refine V.EIT (V.TCo (c:=true) (V.ELo n6 rfl) (V.ELo n4 rfl) (V.Sin fc2 (by show _<4096;omega) (by simp [hse])) rfl) ?_
   refine V.EIF (V.TCo (c:=false) (V.ELo n6 rfl) (V.ELo n5 rfl) (V.Di (.inl fc3) (n2a w.nd) (by rw [dno hnx];rfl)) rfl) ?_
   exact E
  ·rintro ⟨se,t,I⟩ w ht hse
   obtain⟨l1,l2⟩:=w.lens G
   have hse:r∈se:=hse
   have hlz:se.length≤1000:=l2
   have hlt:t.length≤1000:=l1
   have hp:Pth par r (t.map (·.1)):=w.path.resolve_left ht
   have hd:V.dge (n2s t) r=some (.int 0):=nro hp
   unfold fS
   dsimp only
   rw [List.map_append,←sAs]
   refine V.EIT (V.TCo (c:=true) (V.ELo n6 rfl) (V.ELo n4 rfl) (V.Sin fc2 (by show _<4096;omega) (by simp [hse])) rfl) ?_
   refine V.EIT (V.TCo (c:=true) (V.ELo n6 rfl) (V.ELo n5 rfl) (V.Di (.inl fc3) (n2a w.nd) (by rw [hd];rfl)) rfl) ?_
   exact V.Er (V.EBO (V.ESu (V.ELo n2 rfl) (V.ESl (V.Pso (V.ESu (V.ELo n5 rfl) (V.ELo n6 rfl) (V.Bdi (.inl fc3)) (V.Dg (.inl fc3) (n2a w.nd) hd))) V.Pn V.Pn) (V.BL (.loc fc0)) (V.Ls (.loc fc0) (V.PtI.int _) .none .none (by decide) (V.lof (m:=1000) (by rw [sAl];omega) (by decide)) (lal _))) (V.ELs (V.Eco (V.ELo n6 rfl) V.En (fun u=>rfl)) (Nat.le_of_ble_eq_true rfl)) (V.La (.lst _) (.lst _) (V.lof (n:=(stA t).length+1) (m:=1001) (by rw [sAl];omega) (by decide))))
 ·intro cnt o x s
  exact(V.AL' n6 rfl)
 ·rintro cnt x ⟨se,t,I⟩ P hse
  have hlz:se.length≤1000:=by
   have h1:=List.Nodup.length_le_of_subset P.send fun z hz=>P.ks z hz
   have:=G.len
   exact Nat.le_trans h1 this
  have hse:x∈se:=hse
  unfold fS
  dsimp only
  exact V.EIT (V.TCo (c:=true) (V.ELo n6 rfl) (V.ELo n4 rfl) (V.Sin fc2 (by show _<4096;omega) (by simp [hse])) rfl) V.Ecb
 ·rintro cnt x ⟨se,t,I⟩ f ms' σ' P hse E
  have hlz:se.length≤1000:=by
   have h1:=List.Nodup.length_le_of_subset P.send fun z hz=>P.ks z hz
   have:=G.len
   exact Nat.le_trans h1 this
  have hse:x∉se:=hse
  unfold fS at E⊢
  dsimp only at E⊢
  exact V.EIF (V.TCo (c:=false) (V.ELo n6 rfl) (V.ELo n4 rfl) (V.Sin fc2 (by show _<4096;omega) (by simp [hse])) rfl) E
 ·intro cnt s
  exact(V.ELo n1 rfl)
 ·intro hc o' s'
  obtain rfl:=hres.ud hc
  exact⟨_,_,_,V.Er V.ENo,keep s',fun l z=>z,fun l o z=> .inl z,.inl ⟨rfl,by simp [V.AV.In,reV]⟩⟩
 ·intro L hc s'
  obtain rfl:=hres.ud hc
  exact⟨keep s',fun l z=>z,fun l o z=> .inl z,.inl ⟨rfl,by simp only [reV,V.AV.In];exact V.Pu (fun x=>V.Pst) _⟩⟩
end L2
end
section
namespace L2
open Builtin Builtin.Str
local macro_rules | `(tactic| kln_le)=> `(tactic| first
 | (with_reducible assumption)
 | ((with_reducible apply V.Bc)<;>kln_le)
 | ((with_reducible apply V.Bs);kln_le)
 | ((with_reducible apply V.Bm)<;>first | kln_le | omega)
 | ((with_reducible apply V.Bl (x:=Str.ofString _));rfl))
open V (AV AO)
noncomputable def SS.prep (q:SS):SS:={q with rd:=some (q.ks.filter fun x=>q.np x==0)}
theorem EJ1 {C:V.Cx} {k:Nat} {sc:Scope} {ms ms':List (Option AV)} {σ σ':V.St} {e:Expr} {pos:Pos} {v:AV} (h:V.Ev C k sc ms σ e v ms' σ'):V.Ev C k sc ms σ (.JoinedStr [e] pos) v ms' σ':=fun A W env s hr H=>
 V.wAa (by rfl) (h A W env s hr H)
theorem srp {b:Nat} {q:SS} {σ:V.St} {r:List Str} (hr:q.rd=none):((srt b q σ).set ⟨b+6,e0⟩ (.list (r.map .str))).set ⟨b+1,e0⟩ (.dict (sD b {q with rd:=some r}))=srt b {q with rd:=some r} σ:=by
 funext l
 by_cases h1:l=⟨b+1,e0⟩
 ·subst h1;rw [V.set_same,sr1]
 rw [V.sot h1]
 by_cases h6:l=⟨b+6,e0⟩
 ·subst h6;rw [V.set_same,s6 rfl]
 rw [V.sot h6]
 unfold srt
 simp only [h1,h6,if_false,false_and]
 rfl
section
variable {cnt:Nat} {σ:V.St} {b:Nat} {q:SS} {x:Str}
theorem sm0:((srt b q σ).set ⟨b+2,e0⟩ (.map (sN b q) cnt)) ⟨b,e0⟩=some (.inst 154 ⟨b+1,e0⟩):=by rw [V.sot (by simp),sr0]
theorem sm1:((srt b q σ).set ⟨b+2,e0⟩ (.map (sN b q) cnt)) ⟨b+1,e0⟩=some (.dict (sD b q)):=by rw [V.sot (by simp),sr1]
theorem sm2:((srt b q σ).set ⟨b+2,e0⟩ (.map (sN b q) cnt)) ⟨b+2,e0⟩=some (.map (sN b q) cnt):=V.set_same
theorem sm3 (h:x∈q.ks):((srt b q σ).set ⟨b+2,e0⟩ (.map (sN b q) cnt)) ⟨b+3,x⟩=some (.slots 57 ⟨b+4,x⟩ (sI b q x)):=by rw [V.sot (by simp),sr3 h]
theorem sNv:(sN b q).map (·.2)=q.ks.map fun x=>AV.loc ⟨b+3,x⟩:=by unfold sN;rw [List.map_map];rfl
end
theorem pco {C:V.Cx} (h:Is C) {k:Nat} {sc:Scope} {σ:V.St} {b:Nat} {q:SS} {par:Str→Option Str} {cnt:Nat} (G:Gph par q) (hb:Cl b σ) (hr:q.rd=none) {elt c tgt:Expr} {iter:Expr} {scope:Scope} {pos:Pos} {ms:List (Option AV)} {M:Option Str→List (Option AV)}
  (hsync: ∀g'∈ [(⟨tgt,iter,[c],0⟩:Comprehension)],g'.is_async=0) (hfree:V.fId scope= []) (hok2:V.sO (V.uc scope)=true) (hM:V.sMs [] ms scope.names.length=M none)
  (hit:V.Ev C k sc ms ((srt b q σ).set ⟨b+2,e0⟩ (.map (sN b q) cnt)) iter (.fld "dict_values" [.loc ⟨b+2,e0⟩]) ms ((srt b q σ).set ⟨b+2,e0⟩ (.map (sN b q) cnt))) (hfold: ∀env x,foldedSetIterable iter env x=pure x)
  (ha: ∀o x out,x∈q.ks→V.As C k (V.uc scope) (M o) (((srt b q σ).set ⟨b+2,e0⟩ (.map (sN b q) cnt)).set ⟨b+6,e0⟩ (.list out)) tgt (.loc ⟨b+3,x⟩) (M (some x)) (((srt b q σ).set ⟨b+2,e0⟩ (.map (sN b q) cnt)).set ⟨b+6,e0⟩ (.list out)))
  (hc: ∀x out,x∈q.ks→V.Tv C k (V.uc scope) (M (some x)) (((srt b q σ).set ⟨b+2,e0⟩ (.map (sN b q) cnt)).set ⟨b+6,e0⟩ (.list out)) c (q.np x==0) (M (some x)) (((srt b q σ).set ⟨b+2,e0⟩ (.map (sN b q) cnt)).set ⟨b+6,e0⟩ (.list out)))
  (hv: ∀x out,x∈q.ks→V.Ev C k (V.uc scope) (M (some x)) (((srt b q σ).set ⟨b+2,e0⟩ (.map (sN b q) cnt)).set ⟨b+6,e0⟩ (.list out)) elt (.str x) (M (some x)) (((srt b q σ).set ⟨b+2,e0⟩ (.map (sN b q) cnt)).set ⟨b+6,e0⟩ (.list out))):
  V.Ev C k sc ms ((srt b q σ).set ⟨b+2,e0⟩ (.map (sN b q) cnt)) (.ListComp elt [⟨tgt,iter,[c],0⟩] scope pos) (.loc ⟨b+6,e0⟩) ms (((srt b q σ).set ⟨b+2,e0⟩ (.map (sN b q) cnt)).set ⟨b+6,e0⟩ (.list ((q.ks.filter fun x=>q.np x==0).map .str))):=by
 have hx0:=h.hx
 have I:=V.Iv (C:=C) (k:=k) (l:=⟨b+2,e0⟩) (n:=cnt) (es:=sN b q) (DNs G.nd) hx0
 rw [sNv]at I
 have e6:((srt b q σ).set ⟨b+2,e0⟩ (.map (sN b q) cnt)) ⟨b+6,e0⟩=none:=by
  rw [V.sot (by simp),snR hr];exact hb _ (by simp)
 have hcl:=V.CLl (C:=C) (k:=k) (sc:=V.uc scope) (enc:=fun x=>AV.loc ⟨b+3,x⟩) (val:=AV.str) (p:=fun x=>q.np x==0) (M:=M) (Sg:=fun out=>((srt b q σ).set ⟨b+2,e0⟩ (.map (sN b q) cnt)).set ⟨b+6,e0⟩ (.list out)) (ok:=fun σ'=>σ' ⟨b+2,e0⟩=some (.map (sN b q) cnt)) (la:=⟨b+6,e0⟩) (elt:=elt) (gens:= [⟨tgt,iter,[c],0⟩]) (scope:=scope) (pos:=pos) (g:=⟨tgt,iter,[c],0⟩) (xs₀:=q.ks)
  (fun out=>by rw [V.sot (by simp)];exact sm2) (fun out=>V.set_same) (fun out out'=>V.set_set) ha (.inr ⟨c,rfl,hc⟩) (fun x out hx u=>hv x out hx) q.ks [] none (fun u z=>z) (V.lof (n:=([]:List AV).length+q.ks.length) (m:=1000) (by have:=G.len;simpa using this) (by decide))
 rw [←hM]at hcl
 exact V.EvL (out:= []) (link:= []) ⟨b+6,e0⟩ ⟨hsync,V.al0,hfree,hok2,hit,I,sm2,hfold⟩ e6 hcl rfl
theorem cpr {C:V.Cx} (h:Is C) {k:Nat} {σ:V.St} {b:Nat} {q:SS} {par:Str→Option Str} (G:Gph par q) (hb:Cl b σ) (hr:q.rd=none) (hres:Cyc par q.ks none):
  V.Cd C (k+2) (srt b q σ) (.ext 109) [.loc ⟨b,e0⟩] [] .none (srt b q.prep σ):=by
 have hx0:=h.hx
 refine V.Cnm h.ok ⟨⟨_,_,_,by rw [h.K];exact rfl⟩,rfl,rfl,rfl,rfl,by rw [h.K];rfl,rfl,rfl,by decide+kernel⟩ [(Str.ofString "self",.local),(Str.ofString "cycle",.local),(Str.ofString "ValueError",.globalImplicit),(Str.ofString "CycleError",.globalImplicit)] rfl [(Str.ofString "self",.loc ⟨b,e0⟩)] _
  (V.Bp (V.l1a fun a0=>rfl) rfl) rfl rfl fun sc hF n hn=> ?_
 obtain⟨n0,n1,n2,n3,_⟩:=hF
 have hD:sD b q= [(Str.ofString "_node2info",.loc ⟨b+2,e0⟩),(Str.ofString "_ready_nodes",.none),(Str.ofString "_npassedout",.int q.po),(Str.ofString "_nfinished",.int q.nf)]:=by unfold sD;rw [hr];rfl
 have hr2:q.prep.rd=some (q.ks.filter fun x=>q.np x==0):=rfl
 have G2:Gph par q.prep:=⟨G.nd,G.su,G.par,G.len⟩
 have eN:sN b q.prep=sN b q:=rfl
 refine osr (fun y hy=>hy) (fun z=>rfl) ?_
 refine V.GF (V.TCo (c:=false) (V.EAt (V.ELo n0 rfl) (lN h hr) (fun u v=>rfl)) V.ENo (V.ni V.nno) rfl) ?_
 refine V.Gco (V.Tc (l:=⟨b+2,e0⟩) sr2 (sr2 (q:=q.prep)) (fun cnt=>by
   have ec:(((((srt b q σ).set ⟨b+2,e0⟩ (.map (sN b q) cnt)).set ⟨b+6,e0⟩ (.list ((q.ks.filter fun x=>q.np x==0).map .str))).set ⟨b+1,e0⟩ (.dict (sD b q.prep))))=(srt b q.prep σ).set ⟨b+2,e0⟩ (.map (sN b q) cnt):=by
    rw [V.sco (l:=⟨b+2,e0⟩) (l':=⟨b+6,e0⟩) (by simp),V.sco (l:=⟨b+2,e0⟩) (l':=⟨b+1,e0⟩) (by simp)]
    have:=srp (b:=b) (q:=q) (σ:=σ) (r:=q.ks.filter fun x=>q.np x==0) hr
    rw [show({q with rd:=some (q.ks.filter fun x=>q.np x==0)}:SS)=q.prep from rfl]at this
    rw [this]
   rw [←ec]
   exact(V.X1A (pco h (M:=fun o=> [none,o.map fun x=>AV.loc ⟨b+3,x⟩]) G hb hr (V.all1 rfl) rfl (by decide+kernel) rfl (V.EMC (V.EAt (V.ELo n0 rfl) (an2 h sm0 sm1 nlo nal) (fun u v=>rfl)) (V.Mdv (.inr ⟨cnt,sm2⟩)) V.En V.Kbi (V.Cdv (.inr ⟨cnt,sm2⟩) (DNs G.nd)) (fun u v=>rfl) (fun u=>rfl) rfl (fun u=>rfl)) (fun u v=>rfl) (fun o x out hx=>(V.AL' (i:=1) rfl rfl)) (fun x out hx=>(V.TCo (c:=_) (V.EAt (V.ELo (i:=1) rfl rfl) (gs1 h (.inr (by rw [V.sot (by simp)];exact sm3 hx)) rfl nbi nia) (fun u v=>rfl)) V.EIn (V.ie rfl) rfl)) (fun x out hx=>(V.EAt (V.ELo (i:=1) rfl rfl) (gs0 h (.inr (by rw [V.sot (by simp)];exact sm3 hx)) rfl nbs nas) (fun u v=>rfl)))) (V.AAt (V.ELo n0 rfl) (srn h (d:=⟨b+1,e0⟩) (by rw [V.sot (by simp)];exact sm0) (by rw [V.sot (by simp)];exact sm1))) (fun u=>rfl) (fun u=>rfl) (fun u=>rfl)))) ?_
 refine V.Gco (V.X1A (V.EMC (V.ELo n0 rfl) (mfc h sr0 sr1) V.En (KX h rfl) (V.Cd.ca (cfc h G2 hres)) (fun u v=>rfl) (fun u=>rfl) rfl (fun u=>rfl)) (V.AL' n1 rfl) (fun u=>rfl) (fun u=>rfl) (fun u=>rfl)) ?_
 refine V.GF (V.Tva (b:=false) (V.ELo n1 rfl) V.ntr (fun u v=>rfl)) ?_
 exact V.Gn
theorem x_prep {C:V.Cx} (h:Is C) {k:Nat} {σ:V.St} {b:Nat} {q:SS} {par:Str→Option Str} {L:List Str} (G:Gph par q) (hb:Cl b σ) (hr:q.rd=none) (hres:Cyc par q.ks (some L)) (hL:L.isEmpty=false) (hz:L.length≤1000):
  V.CaX C (k+2) (srt b q σ) (.ext 109) [.loc ⟨b,e0⟩] (.ref 72) [.str (Str.ofString "nodes are in a cycle"),.lst (L.map .str)] (srt b q.prep σ):=by
 have hx0:=h.hx
 refine V.CX h.ok ⟨⟨_,_,_,by rw [h.K];exact rfl⟩,rfl,rfl,rfl,rfl,by rw [h.K];rfl,rfl,rfl,by decide+kernel⟩ [(Str.ofString "self",.local),(Str.ofString "cycle",.local),(Str.ofString "ValueError",.globalImplicit),(Str.ofString "CycleError",.globalImplicit)] rfl [(Str.ofString "self",.loc ⟨b,e0⟩)] _
  (V.Bp (V.l1a fun a0=>rfl) rfl) rfl rfl fun sc ⟨n0,n1,n2,n3,_⟩ n hn=>oh (σ':=srt b q.prep σ) ?_ ⟨fun u v z=>z,(sob (q:=q) (q':=q.prep) (fun y hy=>hy) (fun z=>rfl)).1,(sob (q:=q) (q':=q.prep) (fun y hy=>hy) (fun z=>rfl)).2,?_⟩
 have hD:sD b q= [(Str.ofString "_node2info",.loc ⟨b+2,e0⟩),(Str.ofString "_ready_nodes",.none),(Str.ofString "_npassedout",.int q.po),(Str.ofString "_nfinished",.int q.nf)]:=by unfold sD;rw [hr];rfl
 have hr2:q.prep.rd=some (q.ks.filter fun x=>q.np x==0):=rfl
 have G2:Gph par q.prep:=⟨G.nd,G.su,G.par,G.len⟩
 have eN:sN b q.prep=sN b q:=rfl
 refine RIF (V.TCo (c:=false) (V.EAt (V.ELo n0 rfl) (lN h hr) (fun u v=>rfl)) V.ENo (V.ni V.nno) rfl) ?_
 refine Rc (V.Tc (l:=⟨b+2,e0⟩) sr2 (sr2 (q:=q.prep)) (fun cnt=>by
   have ec:(((((srt b q σ).set ⟨b+2,e0⟩ (.map (sN b q) cnt)).set ⟨b+6,e0⟩ (.list ((q.ks.filter fun x=>q.np x==0).map .str))).set ⟨b+1,e0⟩ (.dict (sD b q.prep))))=(srt b q.prep σ).set ⟨b+2,e0⟩ (.map (sN b q) cnt):=by
    rw [V.sco (l:=⟨b+2,e0⟩) (l':=⟨b+6,e0⟩) (by simp),V.sco (l:=⟨b+2,e0⟩) (l':=⟨b+1,e0⟩) (by simp)]
    have:=srp (b:=b) (q:=q) (σ:=σ) (r:=q.ks.filter fun x=>q.np x==0) hr
    rw [show({q with rd:=some (q.ks.filter fun x=>q.np x==0)}:SS)=q.prep from rfl]at this
    rw [this]
   rw [←ec]
   exact(V.X1A (pco h (M:=fun o=> [none,o.map fun x=>AV.loc ⟨b+3,x⟩]) G hb hr (V.all1 rfl) rfl (by decide+kernel) rfl (V.EMC (V.EAt (V.ELo n0 rfl) (an2 h sm0 sm1 nlo nal) (fun u v=>rfl)) (V.Mdv (.inr ⟨cnt,sm2⟩)) V.En V.Kbi (V.Cdv (.inr ⟨cnt,sm2⟩) (DNs G.nd)) (fun u v=>rfl) (fun u=>rfl) rfl (fun u=>rfl)) (fun u v=>rfl) (fun o x out hx=>(V.AL' (i:=1) rfl rfl)) (fun x out hx=>(V.TCo (c:=_) (V.EAt (V.ELo (i:=1) rfl rfl) (gs1 h (.inr (by rw [V.sot (by simp)];exact sm3 hx)) rfl nbi nia) (fun u v=>rfl)) V.EIn (V.ie rfl) rfl)) (fun x out hx=>(V.EAt (V.ELo (i:=1) rfl rfl) (gs0 h (.inr (by rw [V.sot (by simp)];exact sm3 hx)) rfl nbs nas) (fun u v=>rfl)))) (V.AAt (V.ELo n0 rfl) (srn h (d:=⟨b+1,e0⟩) (by rw [V.sot (by simp)];exact sm0) (by rw [V.sot (by simp)];exact sm1))) (fun u=>rfl) (fun u=>rfl) (fun u=>rfl)))) ?_
 refine Rc (V.X1A (V.EMC (V.ELo n0 rfl) (mfc h sr0 sr1) V.En (KX h rfl) (V.Cd.ca (cfc h G2 hres)) (fun u v=>rfl) (fun u=>rfl) rfl (fun u=>rfl)) (V.AL' n1 rfl) (fun u=>rfl) (fun u=>rfl) (fun u=>rfl)) ?_
 refine RT (V.Tva (b:=true) (V.ELo n1 rfl) (V.Ltr (.lst _) (V.lof (m:=1000) (by rw [List.length_map];exact hz) (by decide)) (by rw [List.isEmpty_map,hL];rfl)) (fun u v=>rfl)) ?_
 exact Rqs (V.RRS h.ok (c:=72) (newId:="ValueError.__new__") PySem.F.excBase_ValueError (by decide) PySem.F.excBase_ValueError (e72 h) (by decide) (V.EGl h.ok n3 (gCE h)) (V.Eco (EJ1 V.ESt) (V.Eco (V.ELo n1 rfl) V.En (fun u=>rfl)) (fun u=>rfl)) (Nat.le_of_ble_eq_true rfl) (fun u=>rfl) hx0)
 ·simp only [V.AV.Ins,V.AV.In,and_true,true_and]
  exact V.Pu (fun x=>V.Pst) _
end L2
end
section
namespace L2
open Builtin Builtin.Str
local macro_rules | `(tactic| kln_le)=> `(tactic| first
 | (with_reducible assumption)
 | ((with_reducible apply V.Bc)<;>kln_le)
 | ((with_reducible apply V.Bs);kln_le)
 | ((with_reducible apply V.Bm)<;>first | kln_le | omega)
 | ((with_reducible apply V.Bl (x:=Str.ofString _));rfl))
open V (AV AO)
noncomputable def hd (p:Str×Str):AV:= .tup [.str p.1,.str p.2]
noncomputable def tbl (t:Nat) (hs:List (Str×Str)) (σ:V.St):V.St:=fun l=>
 if l=⟨t,e0⟩then some (.inst 419 ⟨t+1,e0⟩)else if l=⟨t+1,e0⟩then some (.dict [(Str.ofString "_headers",.loc ⟨t+2,e0⟩)])else if l=⟨t+2,e0⟩then some (.list (hs.map hd))else σ l
section
variable {t:Nat} {hs hs':List (Str×Str)} {σ:V.St}
theorem tb0:tbl t hs σ ⟨t,e0⟩=some (.inst 419 ⟨t+1,e0⟩):=by unfold tbl;simp
theorem tb1:tbl t hs σ ⟨t+1,e0⟩=some (.dict [(Str.ofString "_headers",.loc ⟨t+2,e0⟩)]):=by unfold tbl;simp
theorem t2a:tbl t hs σ ⟨t+2,e0⟩=some (.list (hs.map hd)):=by unfold tbl;simp
theorem tse:(tbl t hs σ).set ⟨t+2,e0⟩ (.list (hs'.map hd))=tbl t hs' σ:=by
 funext l;by_cases h:l=⟨t+2,e0⟩
 ·subst h;rw [V.set_same,t2a]
 ·rw [V.sot h];unfold tbl;simp only [h,if_false]
theorem tou {l:V.Loc} (h:l.tag<t∨t+2<l.tag):tbl t hs σ l=σ l:=by
 unfold tbl
 rw [if_neg (fun e=>by rw [e]at h;simp only at h;omega),if_neg (fun e=>by rw [e]at h;simp only at h;omega),if_neg (fun e=>by rw [e]at h;simp only at h;omega)]
theorem tov {l:V.Loc} {o:AO} (h:l.tag<t∨t+2<l.tag):(tbl t hs σ).set l o=tbl t hs (σ.set l o):=by
 funext x;by_cases e:x=l
 ·subst e;rw [V.set_same,tou h,V.set_same]
 ·rw [V.sot e];unfold tbl;rw [V.sot e]
theorem tso {l:V.Loc}:(tbl t hs σ l).isSome=(tbl t hs' σ l).isSome:=by
 unfold tbl;split;rfl;split;rfl;split;rfl;rfl
theorem hpu {p:Str×Str}:(hd p).Pur:=V.Ptu fun D=>by simp [V.AV.Ins,V.AV.In]
theorem tgm:Gm (tbl t hs σ) (tbl t hs' σ):=fun l h=>by rw [tso (hs':=hs)];exact h
theorem tgr:Gr (fun l=>(tbl t hs' σ l).isSome=true) (tbl t hs σ) (tbl t hs' σ):=fun l o h=>by
 by_cases h0:l=⟨t,e0⟩
 ·subst h0;left;rw [tb0]at h⊢;exact h
 by_cases h1:l=⟨t+1,e0⟩
 ·subst h1;left;rw [tb1]at h⊢;exact h
 by_cases h2:l=⟨t+2,e0⟩
 ·subst h2;rw [t2a]at h;obtain rfl:=Option.some.inj h;right
  exact V.Pu (fun p=>hpu) _
 left;unfold tbl at h⊢;simpa only [h0,h1,h2,if_false]using h
theorem kes {σa σb:V.St} {l:V.Loc} {o:AO} (h: ∀x y,σa x=some y→σb x=some y) (hn:σa l=none): ∀x y,σa x=some y→(σb.set l o) x=some y:=fun x y e=>by
 rw [V.sot (fun z=>by rw [z,hn]at e;cases e)];exact h x y e
end
theorem ota {C:V.Cx} {k:Nat} {sc:Scope} {body:List Stmt} {ms:List (Option AV)} {t:Nat} {hs hs':List (Str×Str)} {σ σ₁ σf:V.St} (h1:V.Go C k sc ms σ₁ body .next σf) (hk: ∀l o,tbl t hs' σ l=some o→σf l=some o): ∃f ms' σf,V.Ex C k sc ms σ₁ body f ms' σf∧V.Exit (tbl t hs σ) σf f .none (tbl t hs' σ):=
 V.ogo h1 ⟨hk,tgm,tgr,.inr (.inr ⟨rfl,rfl⟩)⟩
structure HOk (x:Str):Prop where
 len:x.length≤200
 ok:x.cps.all V.okC=true
 low:(Txt.lower x).length≤200
 lok:(Txt.lower x).cps.all V.okC=true
structure TOk (x:Str):Prop where
 len:x.length≤200
 ok:x.cps.all V.okC=true
theorem short {n:Nat} (h:n≤200):Builtin.Str.tooLong n=false:=by
 unfold Builtin.Str.tooLong;rw [sizeLine_eq];simp;omega
theorem TAl {C:V.Cx} {σ:V.St} {l:V.Loc} {xs:List AV} (h:σ l=some (.list xs)):V.TAt C σ (.loc l) "list":=fun W s ro I q=>by
 obtain⟨la,vs,rfl,hl,ks⟩:=(V.IsL.loc h).list q I
 exact hl.typeIs
theorem lno {α:Type} (xs:List α):V.lpi xs none none none=xs:=lpo xs
theorem join_one {s x:Str}:Txt.join s [x]=x:=by
 unfold Txt.join Builtin.Str.glued
 simp
theorem chi {C:V.Cx} (h:Is C) {k:Nat} {σ:V.St} {t:Nat} (h2:σ ⟨t+2,e0⟩=none):
  V.Cd C (k+1) ((σ.set ⟨t+1,e0⟩ (.dict [])).set ⟨t,e0⟩ (.inst 419 ⟨t+1,e0⟩)) (.ext 311) [.loc ⟨t,e0⟩] [] .none (tbl t [] σ):=by
 have hx0:=h.hx
 refine V.Cnm h.ok ⟨⟨_,_,_,by rw [h.K];exact rfl⟩,rfl,rfl,rfl,rfl,by rw [h.K];rfl,rfl,rfl,by decide+kernel⟩ [(Str.ofString "self",.local),(Str.ofString "headers",.local),(Str.ofString "k",.local),(Str.ofString "v",.local),(Str.ofString "type",.globalImplicit),(Str.ofString "list",.globalImplicit),(Str.ofString "TypeError",.globalImplicit),(Str.ofString "__debug__",.globalImplicit)] rfl [(Str.ofString "self",.loc ⟨t,e0⟩),(Str.ofString "headers",.none)] _
  (V.Bdf h.ok (da:=304) (as:= [.loc ⟨t,e0⟩]) (das:= [.none]) (by rw [h.K];exact rfl) (V.l1a fun a0=>⟨_,by exact rfl,by exact rfl⟩) rfl (fun W=> .cons V.Vn .nil)) rfl rfl fun sc hF n hn=> ?_
 obtain⟨n0,n1,n2,n3,n4,n5,n6,n7,_⟩:=hF
 have m1:(⟨t,e0⟩:V.Loc)≠⟨t+1,e0⟩:=by simp
 have m2:(⟨t,e0⟩:V.Loc)≠⟨t+2,e0⟩:=by simp
 have m3:(⟨t+1,e0⟩:V.Loc)≠⟨t+2,e0⟩:=by simp
 have st:(((σ.set ⟨t+1,e0⟩ (.dict [])).set ⟨t,e0⟩ (.inst 419 ⟨t+1,e0⟩)).set ⟨t+2,e0⟩ (.list [])).set ⟨t+1,e0⟩ (.dict [(Str.ofString "_headers",.loc ⟨t+2,e0⟩)])=tbl t [] σ:=by
  funext l
  unfold tbl V.St.set
  by_cases h0:l=⟨t,e0⟩
  ·subst h0;simp
  by_cases h1:l=⟨t+1,e0⟩
  ·subst h1;simp
  by_cases h2:l=⟨t+2,e0⟩
  ·subst h2;simp
  simp [h0,h1,h2]
 have hl2:(((σ.set ⟨t+1,e0⟩ (.dict [])).set ⟨t,e0⟩ (.inst 419 ⟨t+1,e0⟩)).set ⟨t+2,e0⟩ (.list [])) ⟨t+2,e0⟩=some (.list []):=V.set_same
 refine ogr (σ':=tbl t [] σ) ?_ ?_ ?_
 ·refine V.Gco (V.X1A (V.EEx (b:=false) (V.TCo (c:=false) (V.ELo n1 rfl) V.ENo (V.ni V.nno) rfl) (V.ELi ⟨t+2,e0⟩ V.En (Nat.zero_le _) (by rw [V.sot m2.symm,V.sot m3.symm];exact h2))) (V.AL' n1 rfl) (fun u=>rfl) (fun u=>rfl) (fun u=>rfl)) ?_
  refine V.GF (V.TCo (c:=false) (V.ECa (V.EGl h.ok n4 (gty h)) (V.Eco (V.ELo n1 rfl) V.En (fun u=>rfl)) V.Kty (V.Cty (TAl hl2) (by decide)) (fun u=>rfl) (fun u=>rfl)) (V.EGl h.ok n5 (gli h)) (V.tNo rfl rfl) rfl) ?_
  refine V.Gco (V.X1A (V.ELo n1 rfl) (V.AAt (V.ELo n0 rfl) (ihe h (d:=⟨t+1,e0⟩) (by rw [V.sot m2,V.set_same]) (by rw [V.sot m3,V.sot m1.symm,V.set_same]))) (fun u=>rfl) (fun u=>rfl) (fun u=>rfl)) ?_
  rw [st]
  refine V.GoT (V.Tva (b:=true) V.EBo V.btr (fun u w=>rfl)) ?_
  exact V.Gco (V.XF (f:= .next) (V.ELo n1 rfl) (V.Il (xs:= [])) (.loc t2a) (V.Lr.nil (.loc t2a)) (fun u w=>rfl)) V.Gn
 ·rw [←st]
  exact .set (.set .refl)
 ·intro l o hl
  by_cases h0:l=⟨t,e0⟩
  ·subst h0;rw [tb0]at hl;obtain rfl:=Option.some.inj hl
   right;show(tbl t [] σ ⟨t+1,e0⟩).isSome=true;rw [tb1];rfl
  ·by_cases h1:l=⟨t+1,e0⟩
   ·subst h1;rw [tb1]at hl;obtain rfl:=Option.some.inj hl
    right
    intro p hp
    rcases hp with _ | ⟨_,hp⟩
    ·show(tbl t [] σ ⟨t+2,e0⟩).isSome=true
     rw [t2a];rfl
    ·cases hp
   ·by_cases hh2:l=⟨t+2,e0⟩
    ·subst hh2;rw [t2a]at hl;obtain rfl:=Option.some.inj hl
     right;simp [V.AO.In,V.AV.Ins]
    ·left
     rw [V.sot h0,V.sot h1]
     unfold tbl at hl
     simpa only [h0,h1,hh2,if_false]using hl
theorem cia {C:V.Cx} (h:Is C) {k:Nat} {σ:V.St} {t:Nat} {hs:List (Str×Str)} (hz:hs.length≤1000):
  V.Cd C (k+1) (tbl t hs σ) (.ext 383) [.loc ⟨t,e0⟩] [] (.lst (hs.map hd)) (tbl t hs σ):=by
 have hx0:=h.hx
 refine V.Cnm h.ok ⟨⟨_,_,_,by rw [h.K];exact rfl⟩,rfl,rfl,rfl,rfl,by rw [h.K];rfl,rfl,rfl,by decide+kernel⟩ [(Str.ofString "self",.local)] rfl [(Str.ofString "self",.loc ⟨t,e0⟩)] _
  (V.Bp (V.l1a fun a0=>rfl) rfl) rfl rfl fun sc hF n hn=> ?_
 obtain⟨n0,_⟩:=hF
 refine V.ols (V.Pu (fun p=>hpu)) ?_
 exact V.Gre (V.ESu (V.EAt (V.ELo n0 rfl) (ahe h tb0 tb1 nlo nal) (fun u v=>rfl)) (V.ESl V.Pn V.Pn V.Pn) (V.BL (.loc t2a)) (V.Ls (.loc t2a) .none .none .none (by decide) (V.lof (m:=1000) (by rw [List.length_map];exact hz) (by decide)) (lno _)))
theorem cad {C:V.Cx} (h:Is C) {k:Nat} {σ:V.St} {t d:Nat} {hs:List (Str×Str)} {x y:Str} (hd0:tbl t hs σ ⟨d,e0⟩=none) (hx:HOk x) (hy:TOk y) (hz:hs.length≤1000):
  V.Cd C (k+2) (tbl t hs σ) (.ext 416) [.loc ⟨t,e0⟩,.str x,.str y] [] .none (tbl t (hs++ [(x,y)]) σ):=by
 have hx0:=h.hx
 refine V.Cnm h.ok ⟨⟨_,_,_,by rw [h.K];exact rfl⟩,rfl,rfl,rfl,rfl,by rw [h.K];rfl,rfl,rfl,by decide+kernel⟩ [(Str.ofString "self",.local),(Str.ofString "_name",.local),(Str.ofString "_value",.local),(Str.ofString "_params",.local),(Str.ofString "parts",.local),(Str.ofString "k",.local),(Str.ofString "v",.local),(Str.ofString "_formatparam",.globalImplicit)] rfl ([(Str.ofString "self",.loc ⟨t,e0⟩),(Str.ofString "_name",.str x),(Str.ofString "_value",.str y)]++ [(Str.ofString "_params",.loc ⟨d,e0⟩)]) _
  (V.Bk (as:= [.loc ⟨t,e0⟩,.str x,.str y]) (bs:= [(Str.ofString "self",.loc ⟨t,e0⟩),(Str.ofString "_name",.str x),(Str.ofString "_value",.str y)]) (kw:= []) hd0 List.nodup_nil (V.l3a fun a0 a1 a2 rkw hk=>by obtain rfl:=List.map_eq_nil_iff.mp hk;exact⟨fun d p u=>nsSet d p.1 p.2>>=fun u=>pure (.yield ⟨⟩),rfl,fun u g q r=>rfl⟩) rfl) rfl rfl fun sc hF n hn=> ?_
 obtain⟨n0,n1,n2,n3,n4,n5,n6,n7,_⟩:=hF
 have dn: ∀i,i≤2→d≠t+i:=fun i hi e=>by
  rcases i with _ | _ | _ | i
  ·rw [e]at hd0;exact absurd (tb0.symm.trans hd0) (by simp)
  ·rw [e]at hd0;exact absurd (tb1.symm.trans hd0) (by simp)
  ·rw [e]at hd0;exact absurd (t2a.symm.trans hd0) (by simp)
  ·omega
 have dd:d<t∨t+2<d:=by have:=dn 0 (by decide);have:=dn 1 (by decide);have:=dn 2 (by decide);omega
 have d0:d≠t:=by omega
 have d1:d≠t+1:=by omega
 have d2:d≠t+2:=by omega
 have hnt:t+2<n:=by
  rcases Nat.lt_or_ge (t+2) n with z | z
  ·exact z
  ·have:=hn ⟨t+2,e0⟩ z;rw [t2a]at this;cases this
 have pd: ∀m:Nat,n≤m→m≠d→((tbl t hs σ).set ⟨d,e0⟩ (.dict [])) ⟨m,e0⟩=none:=fun m hm hmd=>by
  rw [V.sot (by simpa using hmd)];exact hn _ hm
 have m0:n+d+1≠d:=by omega
 have mt:t+2<n+d+1:=by omega
 rw [tov (l:=⟨d,e0⟩) dd]
 refine ota (σf:=tbl t (hs++ [(x,y)]) ((σ.set ⟨d,e0⟩ (.dict [])).set ⟨n+d+1,e0⟩ (.list [.str y]))) ?_ ?_
 ·refine V.Gco (V.X1A (V.ELi ⟨n+d+1,e0⟩ V.En (Nat.zero_le _) (by rw [←tov (l:=⟨d,e0⟩) dd];exact pd _ (by omega) m0)) (V.AL' n4 rfl) (fun u=>rfl) (fun u=>rfl) (fun u=>rfl)) ?_
  rw [tov (l:=⟨n+d+1,e0⟩) (.inr mt)]
  have lp: ∀vs:List AV,tbl t hs ((σ.set ⟨d,e0⟩ (.dict [])).set ⟨n+d+1,e0⟩ (.list vs)) ⟨n+d+1,e0⟩=some (.list vs):=fun vs=>by rw [tou (.inr mt),V.set_same]
  have ld: ∀vs:List AV,tbl t hs ((σ.set ⟨d,e0⟩ (.dict [])).set ⟨n+d+1,e0⟩ (.list vs)) ⟨d,e0⟩=some (.dict []):=fun vs=>by rw [tou dd,V.sot (by simp;omega),V.set_same]
  refine V.GoT (V.TCo (c:=true) (V.ELo n2 rfl) V.ENo (V.ni V.nns) rfl) ?_
  refine V.Gco (V.X1A (V.EKw (V.ELo n0 rfl) (mcs h tb0 tb1) (V.Eco (V.ELo n2 rfl) V.En (fun u=>rfl)) (V.Kc (n:=Str.ofString "name") V.EBo V.Kni) (KX h rfl) (cco h (b:=false) (Nat.le_trans hy.len (by decide)) hy.ok) (fun u g=>rfl) (fun u=>rfl) rfl (fun u=>rfl) (fun u=>rfl) (fun u=>rfl)) (V.AL' n2 rfl) (fun u=>rfl) (fun u=>rfl) (fun u=>rfl)) ?_
  have ap:V.Ca C (k+1) (tbl t hs ((σ.set ⟨d,e0⟩ (.dict [])).set ⟨n+d+1,e0⟩ (.list []))) (.bi "list.append") [.loc ⟨n+d+1,e0⟩,.str y] [] .none (tbl t hs ((σ.set ⟨d,e0⟩ (.dict [])).set ⟨n+d+1,e0⟩ (.list [.str y]))):=by
   have z:=V.Cap (C:=C) (k:=k+1) (x:= .str y) (lp []) (Nat.zero_le _)
   rwa [tov (l:=⟨n+d+1,e0⟩) (.inr mt),V.set_set]at z
  refine V.Gco (V.X1E (V.EMC (V.ELo n4 rfl) (V.Map (lp [])) (V.Eco (V.ELo n2 rfl) V.En (fun u=>rfl)) V.Kbi ap (fun u g=>rfl) (fun u=>rfl) rfl (fun u=>rfl)) (fun u g=>rfl)) ?_
  refine V.Gco (V.Tc (l:=⟨d,e0⟩) (ld _) (ld _) (fun cnt=>V.X1F (V.EMC (V.ELo n3 rfl) (V.Mdi (.inr ⟨cnt,V.set_same⟩)) V.En V.Kbi (V.Cdi (.inr ⟨cnt,V.set_same⟩) List.nodup_nil) (fun u g=>rfl) (fun u=>rfl) rfl (fun u=>rfl)) (V.Ii (es:= []) List.nodup_nil) V.set_same (V.LrP.nil V.set_same) (fun u g=>rfl))) ?_
  have z:=V.Cap (C:=C) (k:=k+1) (x:=hd (x,y)) (t2a (t:=t) (hs:=hs) (σ:=(σ.set ⟨d,e0⟩ (.dict [])).set ⟨n+d+1,e0⟩ (.list [.str y]))) (V.lof (m:=1000) (by rw [List.length_map];exact hz) (by decide))
  rw [show hs.map hd++ [hd (x,y)]=(hs++ [(x,y)]).map hd by rw [List.map_append];rfl,tse]at z
  have jn:V.Ca C (k+1) (tbl t hs ((σ.set ⟨d,e0⟩ (.dict [])).set ⟨n+d+1,e0⟩ (.list [.str y]))) (.bi "str.join") [.str (Str.ofString "; "),.loc ⟨n+d+1,e0⟩] [] (.str y) (tbl t hs ((σ.set ⟨d,e0⟩ (.dict [])).set ⟨n+d+1,e0⟩ (.list [.str y]))):=by
   have w:=V.Cj (C:=C) (k:=k+1) (x:=Str.ofString "; ") (xs:= [y]) (.loc (lp [.str y])) (V.Jo (by decide) (fun z hz=>by simp at hz;subst hz;exact Nat.le_trans hy.len (by decide)) (Nat.le_of_ble_eq_true rfl))
   rwa [join_one]at w
  exact V.Gco (V.X1E (V.EMC (V.EAt (V.ELo n0 rfl) (ahe h tb0 tb1 nlo nal) (fun u g=>rfl)) (V.Map t2a) (V.Eco (V.ETu (V.Eco (V.EKw (V.ELo n0 rfl) (mcs h tb0 tb1) (V.Eco (V.ELo n1 rfl) V.En (fun u=>rfl)) (V.Kc (n:=Str.ofString "name") V.EBo V.Kni) (KX h rfl) (cco h (b:=true) (Nat.le_trans hx.len (by decide)) hx.ok) (fun u g=>rfl) (fun u=>rfl) rfl (fun u=>rfl) (fun u=>rfl) (fun u=>rfl)) (V.Eco (V.EMC V.ESt V.Mj (V.Eco (V.ELo n4 rfl) V.En (fun u=>rfl)) V.Kbi jn (fun u g=>rfl) (fun u=>rfl) rfl (fun u=>rfl)) V.En (fun u=>rfl)) (fun u=>rfl)) (Nat.le_of_ble_eq_true rfl)) V.En (fun u=>rfl)) V.Kbi z (fun u g=>rfl) (fun u=>rfl) rfl (fun u=>rfl)) (fun u g=>rfl)) V.Gn
 ·intro l o e
  have i1:(tbl t hs σ l).isSome=true:=by rw [tso (hs':=hs++ [(x,y)]),e];rfl
  have e1:l≠⟨n+d+1,e0⟩:=fun z=>by rw [z,hn _ (by show n≤n+d+1;omega)]at i1;cases i1
  have e2:l≠⟨d,e0⟩:=fun z=>by rw [z,hd0]at i1;cases i1
  rw [←tov (l:=⟨n+d+1,e0⟩) (.inr mt),←tov (l:=⟨d,e0⟩) dd,V.sot e1,V.sot e2];exact e
end L2
end
section
namespace L2
open Builtin Builtin.Str
local macro_rules | `(tactic| kln_le)=> `(tactic| first
 | (with_reducible assumption)
 | ((with_reducible apply V.Bc)<;>kln_le)
 | ((with_reducible apply V.Bs);kln_le)
 | ((with_reducible apply V.Bm)<;>first | kln_le | omega)
 | ((with_reducible apply V.Bl (x:=Str.ofString _));rfl))
open V (AV AO)
theorem ot' {C:V.Cx} {k:Nat} {sc:Scope} {body:List Stmt} {ms:List (Option AV)} {t:Nat} {hs hs':List (Str×Str)} {σ σ₁:V.St} (h1:V.Go C k sc ms σ₁ body .next (tbl t hs' σ)): ∃f ms' σf,V.Ex C k sc ms σ₁ body f ms' σf∧V.Exit (tbl t hs σ) σf f .none (tbl t hs' σ):=ota h1 (fun u v z=>z)
theorem c_get {C:V.Cx} (h:Is C) {k:Nat} {σ:V.St} {t:Nat} {hs:List (Str×Str)} {x:Str} {r:Str×Str} (hx:HOk x) (hok: ∀p∈hs,HOk p.1) (hr:hs.find? (fun p=>Txt.lower p.1==Txt.lower x)=some r):
  V.Cd C (k+2) (tbl t hs σ) (.ext 366) [.loc ⟨t,e0⟩,.str x] [] (.str r.2) (tbl t hs σ):=by
 have hx0:=h.hx
 refine V.Cnm h.ok ⟨⟨_,_,_,by rw [h.K];exact rfl⟩,rfl,rfl,rfl,rfl,by rw [h.K];rfl,rfl,rfl,by decide+kernel⟩ [(Str.ofString "self",.local),(Str.ofString "name",.local),(Str.ofString "default",.local),(Str.ofString "k",.local),(Str.ofString "v",.local)] rfl [(Str.ofString "self",.loc ⟨t,e0⟩),(Str.ofString "name",.str x),(Str.ofString "default",.none)] _
  (V.Bdf h.ok (da:=359) (as:= [.loc ⟨t,e0⟩,.str x]) (das:= [.none]) (by rw [h.K];exact rfl) (V.l2a fun a0 a1=>⟨_,by exact rfl,by exact rfl⟩) rfl (fun W=> .cons V.Vn .nil)) rfl rfl fun sc hF n hn=> ?_
 obtain⟨n0,n1,n2,n3,n4,_⟩:=hF
 refine V.ou ?_
 refine V.Gco (V.X1A (V.EKw (V.ELo n0 rfl) (mcs h tb0 tb1) (V.Eco (V.EMC (V.ELo n1 rfl) V.Ml V.En V.Kbi (V.Clo (short hx.low)) (fun u w=>rfl) (fun u=>rfl) rfl (fun u=>rfl)) V.En (fun u=>rfl)) (V.Kc (n:=Str.ofString "name") V.EBo V.Kni) (KX h rfl) (cco h (b:=true) (Nat.le_trans hx.low (by decide)) hx.lok) (fun u w=>rfl) (fun u=>rfl) rfl (fun u=>rfl) (fun u=>rfl) (fun u=>rfl)) (V.AL' n1 rfl) (fun u=>rfl) (fun u=>rfl) (fun u=>rfl)) ?_
 have loop:=fun(tgt:Expr) (body:List Stmt) ha hm hh=>V.Lfi (C:=C) (k:=k+1) (sc:=sc) (σ:=tbl t hs σ) (enc:=hd) (val:=fun p=> .str p.2) (p:=fun p=>Txt.lower p.1==Txt.lower x) (M:=fun o:Option (Str×Str)=> [some (.loc ⟨t,e0⟩),some (.str (Txt.lower x)),some .none,o.map fun p=> .str p.1,o.map fun p=> .str p.2]) (ok:=fun σ'=>V.IsL σ' (.loc ⟨t+2,e0⟩) (hs.map hd)) (tgt:=tgt) (body:=body) (xs₀:=hs) (.loc t2a) ha hm hh hs none (fun u z=>z) r hr
 refine V.Gs (V.XF (f:= .ret (.str r.2)) (V.EAt (V.ELo n0 rfl) (ahe h tb0 tb1 nlo nal) (fun u w=>rfl)) V.Il (.loc t2a) (loop _ _ (fun o p hp=> ?_) (fun p hp e=> ?_) (fun p hp e=> ?_)) (fun u w=>rfl)) (fun z=>by cases z)
 ·exact(V.ATu (V.Ac (V.AL' (i:=3) n3 rfl) (V.Ac (V.AL' (i:=4) n4 rfl) V.An (fun u=>rfl)) (fun u=>rfl)) rfl (fun u=>rfl) (fun u=>rfl))
 ·exact V.EIF (V.TCo (c:=false) (V.EMC (V.ELo n3 rfl) V.Ml V.En V.Kbi (V.Clo (short (hok p hp).low)) (fun u w=>rfl) (fun u=>rfl) rfl (fun u=>rfl)) (V.ELo n1 rfl) (V.s_eq e) rfl) V.Eni
 ·exact V.EIT (V.TCo (c:=true) (V.EMC (V.ELo n3 rfl) V.Ml V.En V.Kbi (V.Clo (short (hok p hp).low)) (fun u w=>rfl) (fun u=>rfl) rfl (fun u=>rfl)) (V.ELo n1 rfl) (V.s_eq e) rfl) (V.Er (V.ELo n4 rfl))
theorem cge {C:V.Cx} (h:Is C) {k:Nat} {σ:V.St} {t:Nat} {hs:List (Str×Str)} {x:Str} {r:Str×Str} (hx:HOk x) (hok: ∀p∈hs,HOk p.1) (hr:hs.find? (fun p=>Txt.lower p.1==Txt.lower x)=some r):
  V.Cd C (k+3) (tbl t hs σ) (.ext 344) [.loc ⟨t,e0⟩,.str x] [] (.str r.2) (tbl t hs σ):=by
 have hx0:=h.hx
 refine V.Cnm h.ok ⟨⟨_,_,_,by rw [h.K];exact rfl⟩,rfl,rfl,rfl,rfl,by rw [h.K];rfl,rfl,rfl,by decide+kernel⟩ [(Str.ofString "self",.local),(Str.ofString "name",.local)] rfl [(Str.ofString "self",.loc ⟨t,e0⟩),(Str.ofString "name",.str x)] _
  (V.Bp (V.l2a fun a0 a1=>rfl) rfl) rfl rfl fun sc hF n hn=> ?_
 obtain⟨n0,n1,_⟩:=hF
 refine V.ou ?_
 exact V.Gre (V.EMC (V.ELo n0 rfl) (m_get h tb0 tb1) (V.Eco (V.ELo n1 rfl) V.En (fun u=>rfl)) (KX h rfl) (V.Cd.ca (c_get h hx hok hr)) (fun u v=>rfl) (fun u=>rfl) rfl (fun u=>rfl))
theorem c_keys {C:V.Cx} (h:Is C) {k:Nat} {σ:V.St} {t:Nat} {hs:List (Str×Str)} (hz:hs.length≤1000):
  V.Cd C (k+1) (tbl t hs σ) (.ext 371) [.loc ⟨t,e0⟩] [] (.lst (hs.map fun p=> .str p.1)) (tbl t hs σ):=by
 have hx0:=h.hx
 refine V.Cnm h.ok ⟨⟨_,_,_,by rw [h.K];exact rfl⟩,rfl,rfl,rfl,rfl,by rw [h.K];rfl,rfl,rfl,by decide+kernel⟩ [(Str.ofString "self",.local)] rfl [(Str.ofString "self",.loc ⟨t,e0⟩)] _
  (V.Bp (V.l1a fun a0=>rfl) rfl) rfl rfl fun sc hF n hn=> ?_
 obtain⟨n0,_⟩:=hF
 refine V.ols (V.Pu (fun p=>V.Pst)) ?_
 have fl:hs.filter (fun u=>true)=hs:=List.filter_eq_self.mpr fun u v=>rfl
 refine V.Gre (V.ELC (link:= []) (ms2':= [none,(hs.foldl (fun u x=>some x) (none:Option (Str×Str))).map fun p=> .str p.1,(hs.foldl (fun u x=>some x) (none:Option (Str×Str))).map fun p=> .str p.2]) ⟨(V.all1 rfl),V.al0,rfl,by decide+kernel,(V.EAt (V.ELo n0 rfl) (ahe h tb0 tb1 nlo nal) (fun u v=>rfl)),V.Il,.loc t2a,fun u v=>rfl⟩ (fun la hla=> ?_) rfl (V.Pu (fun p=>V.Pst)))
 have nla:la≠⟨t+2,e0⟩:=fun z=>by rw [z,t2a]at hla;cases hla
 have W:=fun(elt:Expr) (scope:Scope) (pos:Pos) (gens:List Comprehension) (g:Comprehension) (e:g.ifs= []) ha hv=>V.CLl (C:=C) (k:=k) (sc:=V.uc scope) (enc:=hd) (val:=fun p:Str×Str=> .str p.1) (p:=fun u=>true) (M:=fun o:Option (Str×Str)=> [none,o.map fun p=> .str p.1,o.map fun p=> .str p.2]) (Sg:=fun out=>(tbl t hs σ).set la (.list out)) (ok:=fun σ'=>V.IsL σ' (.loc ⟨t+2,e0⟩) (hs.map hd)) (la:=la) (elt:=elt) (gens:=gens) (scope:=scope) (pos:=pos) (g:=g) (xs₀:=hs) (fun out=> .loc (by rw [V.sot nla.symm,t2a])) (fun out=>V.set_same) (fun out out'=>V.set_set) ha (.inl ⟨e,fun u=>rfl⟩) hv hs [] none (fun u z=>z) (V.lof (n:=([]:List AV).length+hs.length) (m:=1000) (by simpa using hz) (by decide))
 rw [fl]at W
 refine W _ _ _ _ _ rfl (fun o x out hx=> ?_) (fun x out hx u=> ?_)
 ·exact(V.ATu (V.Ac (V.AL' (i:=1) rfl rfl) (V.Ac (V.AL' (i:=2) rfl rfl) V.An (fun u=>rfl)) (fun u=>rfl)) rfl (fun u=>rfl) (fun u=>rfl))
 ·exact V.ELo (i:=1) rfl rfl
noncomputable def hdel (hs:List (Str×Str)) (x:Str):List (Str×Str):=hs.filter fun p=>Txt.lower p.1 !=Txt.lower x
theorem cde {C:V.Cx} (h:Is C) {k:Nat} {σ:V.St} {t:Nat} {hs:List (Str×Str)} {x:Str} (hx:HOk x) (hok: ∀p∈hs,HOk p.1) (hz:hs.length≤1000):
  V.Cd C (k+2) (tbl t hs σ) (.ext 337) [.loc ⟨t,e0⟩,.str x] [] .none (tbl t (hdel hs x) σ):=by
 have hx0:=h.hx
 refine V.Cnm h.ok ⟨⟨_,_,_,by rw [h.K];exact rfl⟩,rfl,rfl,rfl,rfl,by rw [h.K];rfl,rfl,rfl,by decide+kernel⟩ [(Str.ofString "self",.local),(Str.ofString "name",.cell)] rfl [(Str.ofString "self",.loc ⟨t,e0⟩),(Str.ofString "name",.str x)] _
  (V.Bp (V.l2a fun a0 a1=>rfl) rfl) rfl rfl fun sc hF n hn=> ?_
 obtain⟨n0,n1,_⟩:=hF
 refine ot' (hs':=hdel hs x) ?_
 refine V.Gco (V.X1A (V.EKw (V.ELo n0 rfl) (mcs h tb0 tb1) (V.Eco (V.EMC (V.ECe n1 rfl) V.Ml V.En V.Kbi (V.Clo (short hx.low)) (fun u w=>rfl) (fun u=>rfl) rfl (fun u=>rfl)) V.En (fun u=>rfl)) (V.Kc (n:=Str.ofString "name") V.EBo V.Kni) (KX h rfl) (cco h (b:=true) (Nat.le_trans hx.low (by decide)) hx.lok) (fun u w=>rfl) (fun u=>rfl) rfl (fun u=>rfl) (fun u=>rfl) (fun u=>rfl)) (V.AC' n1 rfl) (fun u=>rfl) (fun u=>rfl) (fun u=>rfl)) ?_
 have hzd:(hdel hs x).length≤1000:=Nat.le_trans (List.length_filter_le _ _) hz
 have st:=V.LsA (C:=C) (k:=k+1) (v:= .lst ((hdel hs x).map hd)) (t2a (t:=t) (hs:=hs) (σ:=σ)) (.lst _) (V.lof (n:=(hs.map hd).length+((hdel hs x).map hd).length) (m:=2000) (by rw [List.length_map,List.length_map];omega) (by decide)) (fun z=>by cases z)
 rw [tse]at st
 refine V.Gco (V.X1A (V.ELC (link:= [(1,2)]) (ms2':= [none,(hs.foldl (fun u x=>some x) (none:Option (Str×Str))).map hd,some (.str (Txt.lower x))]) ⟨(V.all1 rfl),V.all1 ⟨_,n1,rfl⟩,rfl,by decide+kernel,(V.EAt (V.ELo n0 rfl) (ahe h tb0 tb1 nlo nal) (fun u w=>rfl)),V.Il,.loc t2a,fun u w=>rfl⟩ (fun la hla=> ?_) rfl (V.Pu (fun p=>hpu))) (V.ASu (V.EAt (V.ELo n0 rfl) (ahe h tb0 tb1 nlo nal) (fun u w=>rfl)) (V.ESl V.Pn V.Pn V.Pn) st) (fun u=>rfl) (fun u=>rfl) (fun u=>rfl)) V.Gn
 have nla:la≠⟨t+2,e0⟩:=fun z=>by rw [z,t2a]at hla;cases hla
 have W:=fun(elt c:Expr) (scope:Scope) (pos:Pos) (gens:List Comprehension) (g:Comprehension) (e:g.ifs= [c]) ha hc hv=>V.CLl (C:=C) (k:=k+1) (sc:=V.uc scope) (enc:=hd) (val:=hd) (p:=fun p:Str×Str=>Txt.lower p.1 !=Txt.lower x) (M:=fun o:Option (Str×Str)=> [none,o.map hd,some (.str (Txt.lower x))]) (Sg:=fun out=>(tbl t hs σ).set la (.list out)) (ok:=fun σ'=>V.IsL σ' (.loc ⟨t+2,e0⟩) (hs.map hd)) (la:=la) (elt:=elt) (gens:=gens) (scope:=scope) (pos:=pos) (g:=g) (xs₀:=hs) (fun out=> .loc (by rw [V.sot nla.symm,t2a])) (fun out=>V.set_same) (fun out out'=>V.set_set) ha (.inr ⟨c,e,hc⟩) hv hs [] none (fun u z=>z) (V.lof (n:=([]:List AV).length+hs.length) (m:=1000) (by simpa using hz) (by decide))
 refine W _ _ _ _ _ _ rfl (fun o p out hp=> ?_) (fun p out hp=> ?_) (fun p out hp u=> ?_)
 ·exact V.AL' (i:=1) rfl rfl
 ·exact(V.TCo (c:=_) (V.EMC (V.ESu (V.ELo (i:=1) rfl rfl) V.EIn V.Bt (V.Ti (by decide) (by simp) (by decide) rfl)) V.Ml V.En V.Kbi (V.Clo (short (hok p hp).low)) (fun u w=>rfl) (fun u=>rfl) rfl (fun u=>rfl)) (V.ECe (i:=2) rfl rfl) (V.sne rfl) rfl)
 ·exact V.ELo (i:=1) rfl rfl
theorem c_set {C:V.Cx} (h:Is C) {k:Nat} {σ:V.St} {t:Nat} {hs:List (Str×Str)} {x y:Str} (hx:HOk x) (hy:TOk y) (hok: ∀p∈hs,HOk p.1) (hz:hs.length≤1000):
  V.Cd C (k+3) (tbl t hs σ) (.ext 332) [.loc ⟨t,e0⟩,.str x,.str y] [] .none (tbl t (hdel hs x++ [(x,y)]) σ):=by
 have hx0:=h.hx
 refine V.Cnm h.ok ⟨⟨_,_,_,by rw [h.K];exact rfl⟩,rfl,rfl,rfl,rfl,by rw [h.K];rfl,rfl,rfl,by decide+kernel⟩ [(Str.ofString "self",.local),(Str.ofString "name",.local),(Str.ofString "val",.local)] rfl [(Str.ofString "self",.loc ⟨t,e0⟩),(Str.ofString "name",.str x),(Str.ofString "val",.str y)] _
  (V.Bp (V.l3a fun a0 a1 a2=>rfl) rfl) rfl rfl fun sc hF n hn=> ?_
 obtain⟨n0,n1,n2,_⟩:=hF
 refine ot' (hs':=hdel hs x++ [(x,y)]) ?_
 have hzd:(hdel hs x).length≤1000:=Nat.le_trans (List.length_filter_le _ _) hz
 refine V.Gco (V.XS (V.ELo n0 rfl) (V.ELo n1 rfl) (V.O2d h.ok tb0 tb1 (by rw [h.K];kernel_rfl) (by rw [h.K];kernel_rfl) (by rw [h.K];kernel_rfl) (V.Cd.ca (cde h hx hok hz)))) ?_
 have z:=V.Cap (C:=C) (k:=k+2) (x:=hd (x,y)) (t2a (t:=t) (hs:=hdel hs x) (σ:=σ)) (V.lof (m:=1000) (by rw [List.length_map];exact hzd) (by decide))
 rw [show(hdel hs x).map hd++ [hd (x,y)]=(hdel hs x++ [(x,y)]).map hd by rw [List.map_append];rfl,tse]at z
 exact V.Gco (V.X1E (V.EMC (V.EAt (V.ELo n0 rfl) (ahe h tb0 tb1 nlo nal) (fun u v=>rfl)) (V.Map t2a) (V.Eco (V.ETu (V.Eco (V.EKw (V.ELo n0 rfl) (mcs h tb0 tb1) (V.Eco (V.ELo n1 rfl) V.En (fun u=>rfl)) (V.Kc (n:=Str.ofString "name") V.EBo V.Kni) (KX h rfl) (cco h (b:=true) (Nat.le_trans hx.len (by decide)) hx.ok) (fun u v=>rfl) (fun u=>rfl) rfl (fun u=>rfl) (fun u=>rfl) (fun u=>rfl)) (V.Eco (V.EKw (V.ELo n0 rfl) (mcs h tb0 tb1) (V.Eco (V.ELo n2 rfl) V.En (fun u=>rfl)) (V.Kc (n:=Str.ofString "name") V.EBo V.Kni) (KX h rfl) (cco h (b:=false) (Nat.le_trans hy.len (by decide)) hy.ok) (fun u v=>rfl) (fun u=>rfl) rfl (fun u=>rfl) (fun u=>rfl) (fun u=>rfl)) V.En (fun u=>rfl)) (fun u=>rfl)) (Nat.le_of_ble_eq_true rfl)) V.En (fun u=>rfl)) V.Kbi z (fun u v=>rfl) (fun u=>rfl) rfl (fun u=>rfl)) (fun u v=>rfl)) V.Gn
end L2
end
section
namespace L2
open Builtin Builtin.Str
local macro_rules | `(tactic| kln_le)=> `(tactic| first
 | (with_reducible assumption)
 | ((with_reducible apply V.Bc)<;>kln_le)
 | ((with_reducible apply V.Bs);kln_le)
 | ((with_reducible apply V.Bm)<;>first | kln_le | omega)
 | ((with_reducible apply V.Bl (x:=Str.ofString _));rfl))
noncomputable def lTe (page goal:Str) (q:Int):Str:=
 if q.fmod 3==0 then Str.ofString "/.."++goal
 else if q.fmod 3==1 then Txt.mul (Str.ofString "../") (Txt.count page (Str.ofString "/") - 1)++Txt.slice goal (some 1) none
 else(Str.ofString "./"++Txt.mul (Str.ofString "../") (Txt.count page (Str.ofString "/") - 1+1))++Txt.slice goal (some 1) none
theorem cte {C:V.Cx} (h:Is C) {k:Nat} {σ:V.St} {page goal:Str} {q:Int} (hp:V.B page 100) (hg:V.B goal 100) (hc:0≤Txt.count page (Str.ofString "/")∧Txt.count page (Str.ofString "/")<100):
  V.Ca C (k+1) σ (.ext 430) [.str page,.str goal,.int q] [] (.str (lTe page goal q)) σ:=by
 have hx0:=h.hx
 refine V.Cna h.ok ⟨⟨_,_,_,by rw [h.K];exact rfl⟩,rfl,rfl,rfl,rfl,by rw [h.K];rfl,rfl,rfl,by decide+kernel⟩ [(Str.ofString "page",.local),(Str.ofString "goal",.local),(Str.ofString "q",.local),(Str.ofString "ups",.local)] rfl [(Str.ofString "page",.str page),(Str.ofString "goal",.str goal),(Str.ofString "q",.int q)] _
  (V.Bp (V.l3a fun a0 a1 a2=>rfl) rfl) rfl rfl fun sc hF n hn=> ?_
 obtain⟨n0,n1,n2,n3,_⟩:=hF
 refine V.ou ?_
 refine V.Gco (V.X1A (V.EBO (V.EMC (V.ELo n0 rfl) V.Mco (V.Eco V.ESt V.En (fun u=>rfl)) V.Kbi V.Cco (fun u v=>rfl) (fun u=>rfl) rfl (fun u=>rfl)) V.EIn V.i_sub) (V.AL' n3 rfl) (fun u=>rfl) (fun u=>rfl) (fun u=>rfl)) ?_
 unfold lTe
 rcases hq:(q.fmod 3==0)with _ | _
 ·rcases hq1:(q.fmod 3==1)with _ | _
  ·simp only [Bool.false_eq_true,↓reduceIte]
   refine V.GF (V.TCo (c:=false) (V.EBO (V.ELo n2 rfl) V.EIn (V.imo (by decide) rfl)) V.EIn (V.ie (by first | with_reducible assumption | rfl)) rfl) ?_
   refine V.GF (V.TCo (c:=false) (V.EBO (V.ELo n2 rfl) V.EIn (V.imo (by decide) rfl)) V.EIn (V.ie (by first | with_reducible assumption | rfl)) rfl) ?_
   exact V.Gre (V.EBO (V.EBO V.ESt (V.EBO V.ESt (V.EBO (V.ELo n3 rfl) V.EIn V.iad) (V.smu (by kln_le) (by decide) (by omega) (by omega))) (V.sa' (by kln_le) (by kln_le) (by decide))) (V.ESu (V.ELo n1 rfl) (V.ESl (V.Pso V.EIn) V.Pn V.Pn) V.Bst (V.ssa (V.PtI.int _) V.PtI.none (by kln_le) (by decide))) (V.sa' (by kln_le) (by kln_le) (by decide)))
  ·simp only [Bool.false_eq_true,↓reduceIte]
   refine V.GF (V.TCo (c:=false) (V.EBO (V.ELo n2 rfl) V.EIn (V.imo (by decide) rfl)) V.EIn (V.ie (by first | with_reducible assumption | rfl)) rfl) ?_
   refine V.GoT (V.TCo (c:=true) (V.EBO (V.ELo n2 rfl) V.EIn (V.imo (by decide) rfl)) V.EIn (V.ie (by first | with_reducible assumption | rfl)) rfl) ?_
   exact V.Gre (V.EBO (V.EBO V.ESt (V.ELo n3 rfl) (V.smu (by kln_le) (by decide) (by omega) (by omega))) (V.ESu (V.ELo n1 rfl) (V.ESl (V.Pso V.EIn) V.Pn V.Pn) V.Bst (V.ssa (V.PtI.int _) V.PtI.none (by kln_le) (by decide))) (V.sa' (by kln_le) (by kln_le) (by decide)))
 ·simp only [↓reduceIte]
  refine V.GoT (V.TCo (c:=true) (V.EBO (V.ELo n2 rfl) V.EIn (V.imo (by decide) rfl)) V.EIn (V.ie (by first | with_reducible assumption | rfl)) rfl) ?_
  exact V.Gre (V.EBO V.ESt (V.ELo n1 rfl) (V.sa' (by kln_le) (by kln_le) (by decide)))
end L2
end
section
namespace L2
open Builtin Builtin.Str
local macro_rules | `(tactic| kln_le)=> `(tactic| first
 | (with_reducible assumption)
 | ((with_reducible apply V.Bc)<;>kln_le)
 | ((with_reducible apply V.Bs);kln_le)
 | ((with_reducible apply V.Bm)<;>first | kln_le | omega)
 | ((with_reducible apply V.Bl (x:=Str.ofString _));rfl))
open V (AV AO)
theorem olL {C:V.Cx} {k:Nat} {sc:Scope} {body:List Stmt} {ms:List (Option AV)} {σ:V.St} {l:V.Loc} {xs:List AV} (hl:σ l=none) (hx:AV.Pb xs) (h1:V.Go C k sc ms σ body (.ret (.loc l)) (σ.set l (.list xs))): ∃f ms' σf,V.Ex C k sc ms σ body f ms' σf∧V.Exit σ σf f (.lst xs) σ:=
 V.ogo h1 ⟨kes (fun u v z=>z) hl,fun u z=>z,fun u v z=> .inl z,.inr (.inl ⟨l,xs,rfl,rfl,V.set_same,hl,hx _⟩)⟩
noncomputable def paL:List Str:= [Str.ofString "/a",Str.ofString "/a/b",Str.ofString "/b",Str.ofString "/b/c",Str.ofString "/c/a"]
noncomputable def goL:List Str:=paL++ [Str.ofString "/d",Str.ofString "/"]
structure Row where
 name:Str
 page:Str
 text:Str
 goal:Str
noncomputable def rA (r:Row):AV:= .tup [.str r.name,.str r.page,.str r.text,.str r.goal]
theorem rAV {r:Row}:(rA r).Pur:=V.Ptu fun D=>by simp [V.AV.Ins,V.AV.In]
noncomputable def pAt (n:Int):Str:=paL[(n.fmod 5).toNat]?.getD Str.empty
noncomputable def gA (n:Int):Str:=goL[((n.fdiv 5).fmod 7).toNat]?.getD Str.empty
noncomputable def mR (n:Int):Row:=
 ⟨if(n.fdiv 35).fmod 2 !=0 then Txt.upper (pAt n)else pAt n,pAt n,
  if((n.fdiv 70).fdiv 3).fmod 2 !=0 then Txt.upper (lTe (pAt n) (gA n) (n.fdiv 70))else lTe (pAt n) (gA n) (n.fdiv 70),gA n⟩
noncomputable def textOf (p g:Str) (f:Nat):Str:=lTe p g f
theorem fca {q:Int} {m:Nat} (hm:0<m): ∃f:Nat,f<m∧q.fmod m=f:=by
 have h1:=Int.fmod_nonneg_of_pos q (show(0:Int)<(m:Int) by omega)
 have h2:=Int.fmod_lt_of_pos q (show(0:Int)<(m:Int) by omega)
 exact⟨(q.fmod m).toNat,by omega,by omega⟩
theorem lTm (p g:Str) (q:Int): ∃f:Nat,f<3∧lTe p g q=textOf p g f:=by
 obtain⟨f,hf,e⟩:=fca (q:=q) (m:=3) (by decide)
 refine⟨f,hf,?_⟩
 have e':(f:Int).fmod 3=f:=by
  rcases f with _ | _ | _ | f
  ·rfl
  ·rfl
  ·rfl
  ·omega
 unfold textOf lTe
 have e:q.fmod 3=(f:Int):=e
 rw [e,e']
theorem pai (n:Int):(paL[(n.fmod 5).toNat]? =some (pAt n))∧pAt n∈paL:=by
 obtain⟨f,hf,e⟩:=fca (q:=n) (m:=5) (by decide)
 have e:n.fmod 5=(f:Int):=e
 unfold pAt
 rw [e]
 have:(f:Int).toNat=f:=by omega
 rw [this]
 have hl:f<paL.length:=hf
 rw [List.getElem?_eq_getElem hl]
 exact⟨rfl,List.getElem_mem hl⟩
theorem gin (n:Int):(goL[((n.fdiv 5).fmod 7).toNat]? =some (gA n))∧gA n∈goL:=by
 obtain⟨f,hf,e⟩:=fca (q:=n.fdiv 5) (m:=7) (by decide)
 have e:(n.fdiv 5).fmod 7=(f:Int):=e
 unfold gA
 rw [e]
 have:(f:Int).toNat=f:=by omega
 rw [this]
 have hl:f<goL.length:=hf
 rw [List.getElem?_eq_getElem hl]
 exact⟨rfl,List.getElem_mem hl⟩
theorem pok: ∀p∈paL,V.B p 100∧0≤Txt.count p (Str.ofString "/")∧Txt.count p (Str.ofString "/")<100∧Builtin.Str.tooLong (Txt.upper p).length=false:=by
 unfold V.B;decide+kernel
theorem gok: ∀p∈goL,V.B p 100:=by
 unfold V.B;decide+kernel
theorem teo: ∀p∈paL,∀g∈goL,∀f,f<3→Builtin.Str.tooLong (Txt.upper (textOf p g f)).length=false:=by
 decide+kernel
theorem msm {n:Int} {m:Nat} (hm:0<m) (h:m≤1000):0≤n.fmod m∧n.fmod m<1000000:=by
 obtain⟨f,hf,e⟩:=fca (q:=n) (m:=m) hm
 rw [e];omega
theorem crd {C:V.Cx} (h:Is C) {k:Nat} {σ:V.St} {ns:List Int} (hz:ns.length≤1000):
  V.Cd C (k+2) σ (.ext 437) [.lst (ns.map .int)] [] (.lst ((ns.map mR).map rA)) σ:=by
 have hx0:=h.hx
 refine V.Cnm h.ok ⟨⟨_,_,_,by rw [h.K];exact rfl⟩,rfl,rfl,rfl,rfl,by rw [h.K];rfl,rfl,rfl,by decide+kernel⟩ [(Str.ofString "numbers",.local),(Str.ofString "pages",.local),(Str.ofString "rows",.local),(Str.ofString "goals",.local),(Str.ofString "n",.local),(Str.ofString "page",.local),(Str.ofString "goal",.local),(Str.ofString "q",.local),(Str.ofString "text",.local),(Str.ofString "_law_text",.globalImplicit)] rfl [(Str.ofString "numbers",.lst (ns.map .int))] _
  (V.Bp (V.l1a fun a0=>rfl) rfl) rfl rfl fun sc hF n hn=> ?_
 obtain⟨n0,n1,n2,n3,n4,n5,n6,n7,n8,n9,_⟩:=hF
 have hl:σ ⟨n,e0⟩=none:=hn _ (Nat.le_refl _)
 refine olL (l:=⟨n,e0⟩) hl (V.Pu (fun p=>rAV)) ?_
 refine V.Gco (V.X1S n1 n2 (V.ETu (V.Eco (V.ELs (V.Eco V.ESt (V.Eco V.ESt (V.Eco V.ESt (V.Eco V.ESt (V.Eco V.ESt V.En (fun u=>rfl)) (fun u=>rfl)) (fun u=>rfl)) (fun u=>rfl)) (fun u=>rfl)) (Nat.le_of_ble_eq_true rfl)) (V.Eco (V.ELi ⟨n,e0⟩ V.En (Nat.zero_le _) hl) V.En (fun u=>rfl)) (fun u=>rfl)) (Nat.le_of_ble_eq_true rfl)) rfl rfl rfl rfl rfl rfl) ?_
 refine V.Gco (V.X1A (V.EBO (V.ELo n1 rfl) (V.ELs (V.Eco V.ESt (V.Eco V.ESt V.En (fun u=>rfl)) (fun u=>rfl)) (Nat.le_of_ble_eq_true rfl)) (V.La (.lst _) (.lst _) (Nat.le_of_ble_eq_true rfl))) (V.AL' n3 rfl) (fun u=>rfl) (fun u=>rfl) (fun u=>rfl)) ?_
 have turns:=fun(tgt:Expr) (body:List Stmt) hturn=>V.Lf (C:=C) (k:=k+1) (sc:=sc) (ok:=fun u=>True) (tgt:=tgt) (body:=body) (enc:=AV.int)
  (M:=fun(a:List Row×Option AV×Option AV×Option AV×Option AV×Option AV)=> [some (.lst (ns.map .int)),some (.lst (paL.map .str)),some (.loc ⟨n,e0⟩),some (.lst (goL.map .str)),a.2.1,a.2.2.1,a.2.2.2.1,a.2.2.2.2.1,a.2.2.2.2.2,none])
  (Sg:=fun a=>σ.set ⟨n,e0⟩ (.list (a.1.map rA))) (step:=fun a c=>(a.1++ [mR c],some (.int c),some (.str (pAt c)),some (.str (gA c)),some (.int (c.fdiv 70)),some (.str (lTe (pAt c) (gA c) (c.fdiv 70))))) (P:=fun a xs=>a.1.length+xs.length≤1000)
  (fun u v w=>trivial) (fun a x xs hP=>by simp only [List.length_append,List.length_cons,List.length_nil]at hP⊢;omega) hturn ns ([],none,none,none,none,none) (by simpa using hz)
 have pr: ∀(xs:List Int) (z:List Row×Option AV×Option AV×Option AV×Option AV×Option AV),(xs.foldl (fun(a:List Row×Option AV×Option AV×Option AV×Option AV×Option AV) c=>(a.1++ [mR c],some (AV.int c),some (AV.str (pAt c)),some (AV.str (gA c)),some (AV.int (c.fdiv 70)),some (AV.str (lTe (pAt c) (gA c) (c.fdiv 70))))) z).1=z.1++xs.map mR:=by
  intro xs
  induction xs with
  | nil=>intro z;simp
  | cons x xs ih=>intro z;rw [List.foldl_cons,ih];simp
 simp only [pr,List.nil_append]at turns
 refine V.GFo (V.ELo n0 rfl) V.Ils trivial (turns _ _ ?_) (fun u v=>rfl) ?_
 ·rintro ⟨a,o1,o2,o3,o4,o5⟩ c xs hP
  have hP:a.length+(c::xs).length≤1000:=hP
  have ha:(a.map rA).length≤1000:=by rw [List.length_map];omega
  obtain⟨hp1,hp2⟩:=pai c
  obtain⟨hg1,hg2⟩:=gin c
  obtain⟨b1,b2,b3,b4⟩:=pok _ hp2
  have tx:Builtin.Str.tooLong (Txt.upper (lTe (pAt c) (gA c) (c.fdiv 70))).length=false:=by
   obtain⟨f,hf,e⟩:=lTm (pAt c) (gA c) (c.fdiv 70)
   rw [e];exact teo _ hp2 _ hg2 f hf
  refine V.Tu (V.AL' n4 rfl) ?_
  refine V.Eca (V.X3 n5 n6 n7 (V.ETu (V.Eco (V.ESu (V.ELo n1 rfl) (V.EBO (V.ELo n4 rfl) V.EIn (V.imo (by decide) rfl)) (V.BL (.lst _)) (V.Lia (.lst _) (msm (m:=5) (by decide) (by decide)).1 (msm (m:=5) (by decide) (by decide)).2 (by rw [List.getElem?_map,hp1];rfl))) (V.Eco (V.ESu (V.ELo n3 rfl) (V.EBO (V.EBO (V.ELo n4 rfl) V.EIn (V.idi (by decide) rfl rfl)) V.EIn (V.imo (by decide) rfl)) (V.BL (.lst _)) (V.Lia (.lst _) (msm (m:=7) (by decide) (by decide)).1 (msm (m:=7) (by decide) (by decide)).2 (by rw [List.getElem?_map,hg1];rfl))) (V.Eco (V.EBO (V.ELo n4 rfl) V.EIn (V.idi (by decide) rfl rfl)) V.En (fun u=>rfl)) (fun u=>rfl)) (fun u=>rfl)) (Nat.le_of_ble_eq_true rfl)) rfl rfl rfl rfl rfl rfl rfl) ?_
  refine V.Eca (V.X1A (V.ECa (V.EGl h.ok n9 (glt h)) (V.Eco (V.ELo n5 rfl) (V.Eco (V.ELo n6 rfl) (V.Eco (V.ELo n7 rfl) V.En (fun u=>rfl)) (fun u=>rfl)) (fun u=>rfl)) (KX h rfl) (cte h b1 (gok _ hg2) ⟨b2,b3⟩) (fun u=>rfl) (fun u=>rfl)) (V.AL' n8 rfl) (fun u=>rfl) (fun u=>rfl) (fun u=>rfl)) ?_
  have zl:(a.map rA).length≤sizeLine:=V.lof ha (by decide)
  rcases u1:((c.fdiv 35).fmod 2 !=0)with _ | _<;>rcases u2:(((c.fdiv 70).fdiv 3).fmod 2 !=0)with _ | _
  ·have er:(a++ [mR c]).map rA=a.map rA++ [.tup [.str (pAt c),.str (pAt c),.str (lTe (pAt c) (gA c) (c.fdiv 70)),.str (gA c)]]:=by
    rw [List.map_append];unfold mR;rw [u1,u2];rfl
   dsimp only
   rw [er]
   exact V.Eca (V.X1E (V.EMC (V.ELo n2 rfl) V.Ma (V.Eco (V.ETu (V.Eco (V.EEx (b:=false) (V.Tva (b:=false) (V.EBO (V.EBO (V.ELo n4 rfl) V.EIn (V.idi (by decide) rfl rfl)) V.EIn (V.imo (by decide) rfl)) (V.itr u1) (fun u v=>rfl)) (V.ELo n5 rfl)) (V.Eco (V.ELo n5 rfl) (V.Eco (V.EEx (b:=false) (V.Tva (b:=false) (V.EBO (V.EBO (V.ELo n7 rfl) V.EIn (V.idi (by decide) rfl rfl)) V.EIn (V.imo (by decide) rfl)) (V.itr u2) (fun u v=>rfl)) (V.ELo n8 rfl)) (V.Eco (V.ELo n6 rfl) V.En (fun u=>rfl)) (fun u=>rfl)) (fun u=>rfl)) (fun u=>rfl)) (Nat.le_of_ble_eq_true rfl)) V.En (fun u=>rfl)) V.Kbi (V.Ca' zl) (fun u v=>rfl) (fun u=>rfl) rfl (fun u=>rfl)) (fun u v=>rfl)) V.Eni
  ·have er:(a++ [mR c]).map rA=a.map rA++ [.tup [.str (pAt c),.str (pAt c),.str (Txt.upper (lTe (pAt c) (gA c) (c.fdiv 70))),.str (gA c)]]:=by
    rw [List.map_append];unfold mR;rw [u1,u2];rfl
   dsimp only
   rw [er]
   exact V.Eca (V.X1E (V.EMC (V.ELo n2 rfl) V.Ma (V.Eco (V.ETu (V.Eco (V.EEx (b:=false) (V.Tva (b:=false) (V.EBO (V.EBO (V.ELo n4 rfl) V.EIn (V.idi (by decide) rfl rfl)) V.EIn (V.imo (by decide) rfl)) (V.itr u1) (fun u v=>rfl)) (V.ELo n5 rfl)) (V.Eco (V.ELo n5 rfl) (V.Eco (V.EEx (b:=true) (V.Tva (b:=true) (V.EBO (V.EBO (V.ELo n7 rfl) V.EIn (V.idi (by decide) rfl rfl)) V.EIn (V.imo (by decide) rfl)) (V.itr u2) (fun u v=>rfl)) (V.EMC (V.ELo n8 rfl) V.Mu V.En V.Kbi (V.Cu tx) (fun u v=>rfl) (fun u=>rfl) rfl (fun u=>rfl))) (V.Eco (V.ELo n6 rfl) V.En (fun u=>rfl)) (fun u=>rfl)) (fun u=>rfl)) (fun u=>rfl)) (Nat.le_of_ble_eq_true rfl)) V.En (fun u=>rfl)) V.Kbi (V.Ca' zl) (fun u v=>rfl) (fun u=>rfl) rfl (fun u=>rfl)) (fun u v=>rfl)) V.Eni
  ·have er:(a++ [mR c]).map rA=a.map rA++ [.tup [.str (Txt.upper (pAt c)),.str (pAt c),.str (lTe (pAt c) (gA c) (c.fdiv 70)),.str (gA c)]]:=by
    rw [List.map_append];unfold mR;rw [u1,u2];rfl
   dsimp only
   rw [er]
   exact V.Eca (V.X1E (V.EMC (V.ELo n2 rfl) V.Ma (V.Eco (V.ETu (V.Eco (V.EEx (b:=true) (V.Tva (b:=true) (V.EBO (V.EBO (V.ELo n4 rfl) V.EIn (V.idi (by decide) rfl rfl)) V.EIn (V.imo (by decide) rfl)) (V.itr u1) (fun u v=>rfl)) (V.EMC (V.ELo n5 rfl) V.Mu V.En V.Kbi (V.Cu b4) (fun u v=>rfl) (fun u=>rfl) rfl (fun u=>rfl))) (V.Eco (V.ELo n5 rfl) (V.Eco (V.EEx (b:=false) (V.Tva (b:=false) (V.EBO (V.EBO (V.ELo n7 rfl) V.EIn (V.idi (by decide) rfl rfl)) V.EIn (V.imo (by decide) rfl)) (V.itr u2) (fun u v=>rfl)) (V.ELo n8 rfl)) (V.Eco (V.ELo n6 rfl) V.En (fun u=>rfl)) (fun u=>rfl)) (fun u=>rfl)) (fun u=>rfl)) (Nat.le_of_ble_eq_true rfl)) V.En (fun u=>rfl)) V.Kbi (V.Ca' zl) (fun u v=>rfl) (fun u=>rfl) rfl (fun u=>rfl)) (fun u v=>rfl)) V.Eni
  ·have er:(a++ [mR c]).map rA=a.map rA++ [.tup [.str (Txt.upper (pAt c)),.str (pAt c),.str (Txt.upper (lTe (pAt c) (gA c) (c.fdiv 70))),.str (gA c)]]:=by
    rw [List.map_append];unfold mR;rw [u1,u2];rfl
   dsimp only
   rw [er]
   exact V.Eca (V.X1E (V.EMC (V.ELo n2 rfl) V.Ma (V.Eco (V.ETu (V.Eco (V.EEx (b:=true) (V.Tva (b:=true) (V.EBO (V.EBO (V.ELo n4 rfl) V.EIn (V.idi (by decide) rfl rfl)) V.EIn (V.imo (by decide) rfl)) (V.itr u1) (fun u v=>rfl)) (V.EMC (V.ELo n5 rfl) V.Mu V.En V.Kbi (V.Cu b4) (fun u v=>rfl) (fun u=>rfl) rfl (fun u=>rfl))) (V.Eco (V.ELo n5 rfl) (V.Eco (V.EEx (b:=true) (V.Tva (b:=true) (V.EBO (V.EBO (V.ELo n7 rfl) V.EIn (V.idi (by decide) rfl rfl)) V.EIn (V.imo (by decide) rfl)) (V.itr u2) (fun u v=>rfl)) (V.EMC (V.ELo n8 rfl) V.Mu V.En V.Kbi (V.Cu tx) (fun u v=>rfl) (fun u=>rfl) rfl (fun u=>rfl))) (V.Eco (V.ELo n6 rfl) V.En (fun u=>rfl)) (fun u=>rfl)) (fun u=>rfl)) (fun u=>rfl)) (Nat.le_of_ble_eq_true rfl)) V.En (fun u=>rfl)) V.Kbi (V.Ca' zl) (fun u v=>rfl) (fun u=>rfl) rfl (fun u=>rfl)) (fun u v=>rfl)) V.Eni
 ·exact V.Gre (V.ELo n2 rfl)
end L2
end
section
namespace L2
open Builtin Builtin.Str
local macro_rules | `(tactic| kln_le)=> `(tactic| first
 | (with_reducible assumption)
 | ((with_reducible apply V.Bc)<;>kln_le)
 | ((with_reducible apply V.Bs);kln_le)
 | ((with_reducible apply V.Bm)<;>first | kln_le | omega)
 | ((with_reducible apply V.Bl (x:=Str.ofString _));rfl))
open V (AV AO)
noncomputable def lk (L:List (Str×Str)):List (Str×AV):=L.map fun p=>(p.1,.str p.2)
theorem lkk {L:List (Str×Str)}:(lk L).map (·.1)=L.map (·.1):=by unfold lk;rw [List.map_map];rfl
theorem lin {D:V.Loc→Prop} {L:List (Str×Str)}:(AO.dict (lk L)).In D:=by
 intro p hp
 unfold lk at hp
 obtain⟨x,_,rfl⟩:=List.mem_map.mp hp
 simp [V.AV.In]
noncomputable def ND (L:List (Str×Str)):Prop:=(L.map (·.1)).Nodup
theorem ND.dn {L:List (Str×Str)} (h:ND L):V.DN (lk L):=by unfold V.DN;rw [lkk];exact h
noncomputable def pL (L:List (Str×Str)) (x:Str):Option Str:=(L.find? fun p=>decide (p.1=x)).map (·.2)
theorem dlk {L:List (Str×Str)} {x:Str}:V.dge (lk L) x=(pL L x).map .str:=by
 unfold V.dge lk pL
 rw [List.find?_map,Option.map_map,Option.map_map]
 rfl
theorem lap {L:List (Str×Str)} {x y:Str}:lk (L++ [(x,y)])=lk L++ [(x,.str y)]:=by unfold lk;rw [List.map_append];rfl
theorem nok {L:List (Str×Str)} {x:Str} (h:pL L x=none):x∉L.map (·.1):=by
 intro hx
 obtain⟨p,hp,rfl⟩:=List.mem_map.mp hx
 unfold pL at h
 rw [Option.map_eq_none_iff,List.find?_eq_none]at h
 exact h p hp (by simp)
theorem ike {L:List (Str×Str)} {x:Str} (h:(pL L x).isSome=true):x∈L.map (·.1):=by
 unfold pL at h
 rw [Option.isSome_map,List.find?_isSome]at h
 obtain⟨p,hp,e⟩:=h
 exact List.mem_map.mpr ⟨p,hp,by simpa using e⟩
theorem ND.app {L:List (Str×Str)} {x y:Str} (h:ND L) (hx:pL L x=none):ND (L++ [(x,y)]):=by
 unfold ND
 rw [List.map_append,List.nodup_append]
 refine⟨h,by simp,fun a ha c hc e=> ?_⟩
 simp at hc;subst hc;subst e
 exact nok hx ha
noncomputable def aL (L:List (Str×Str)) (x y:Str):List (Str×Str):=if(pL L x).isSome then L else L++ [(x,y)]
theorem aLn {L:List (Str×Str)} {x y:Str} (h:ND L):ND (aL L x y):=by
 unfold aL;split
 ·exact h
 ·rename_i e;exact h.app (by simpa using e)
theorem aLl {L:List (Str×Str)} {x y:Str}:(aL L x y).length≤L.length+1:=by
 unfold aL;split<;>simp
noncomputable def lO (rs:List Row):List (Str×Str):=rs.foldl (fun L r=>aL L r.page r.goal) []
noncomputable def aN (N:List Str) (x:Str):List Str:=if N.any (· ==x)then N else N++ [x]
noncomputable def nO (L:List (Str×Str)):List Str:=L.foldl (fun N p=>aN (aN N p.1) p.2) []
theorem aNl {N:List Str} {x:Str}:(aN N x).length≤N.length+1:=by unfold aN;split<;>simp
theorem lle {L:List (Str×Str)}:(lk L).length=L.length:=by unfold lk;simp
theorem cli {C:V.Cx} (h:Is C) {k:Nat} {σ:V.St} {v:AV} {rs:List Row} {D:Nat} (hv:V.IsL σ v (rs.map rA)) (hD:σ ⟨D,e0⟩=none) (hz:rs.length≤1000):
  V.Cd C (k+1) σ (.ext 444) [v] [] (.loc ⟨D,e0⟩) (σ.set ⟨D,e0⟩ (.dict (lk (lO rs)))):=by
 have hx0:=h.hx
 refine V.Cnm h.ok ⟨⟨_,_,_,by rw [h.K];exact rfl⟩,rfl,rfl,rfl,rfl,by rw [h.K];rfl,rfl,rfl,by decide+kernel⟩ [(Str.ofString "rows",.local),(Str.ofString "links",.local),(Str.ofString "name",.local),(Str.ofString "page",.local),(Str.ofString "text",.local),(Str.ofString "goal",.local)] rfl [(Str.ofString "rows",v)] _
  (V.Bp (V.l1a fun a0=>rfl) rfl) rfl rfl fun sc hF n hn=> ?_
 obtain⟨n0,n1,n2,n3,n4,n5,_⟩:=hF
 refine oR ?_ (.set .refl) (.set .refl lin) (by simp only [V.AV.In];rw [V.set_same];rfl)
 refine V.Gco (V.X1A (V.Ev0 ⟨D,e0⟩ hD) (V.AL' n1 rfl) (fun u=>rfl) (fun u=>rfl) (fun u=>rfl)) ?_
 have turns:=fun(tgt:Expr) (body:List Stmt) hturn=>V.Lf (C:=C) (k:=k) (sc:=sc) (ok:=fun σ'=>V.IsL σ' v (rs.map rA)) (tgt:=tgt) (body:=body) (enc:=rA)
  (M:=fun(a:List (Str×Str)×Option Row)=> [some v,some (.loc ⟨D,e0⟩),a.2.map fun r=> .str r.name,a.2.map fun r=> .str r.page,a.2.map fun r=> .str r.text,a.2.map fun r=> .str r.goal])
  (Sg:=fun a=>σ.set ⟨D,e0⟩ (.dict (lk a.1))) (step:=fun a r=>(aL a.1 r.page r.goal,some r)) (P:=fun a xs=>ND a.1∧a.1.length+xs.length≤1000)
  (fun u w g=>hv.set hD) (fun a x xs hP=>⟨aLn hP.1,by have:=hP.2;have:= @aLl a.1 x.page x.goal;simp only [List.length_cons]at *;omega⟩) hturn rs ([],none) ⟨List.nodup_nil,by simpa using hz⟩
 have pr: ∀(xs:List Row) (z:List (Str×Str)×Option Row),(xs.foldl (fun(a:List (Str×Str)×Option Row) r=>(aL a.1 r.page r.goal,some r)) z).1=xs.foldl (fun L r=>aL L r.page r.goal) z.1:=by
  intro xs
  induction xs with
  | nil=>intro z;rfl
  | cons x xs ih=>intro z;exact ih _
 simp only [pr]at turns
 refine V.GFo (V.ELo n0 rfl) V.Il (hv.set hD) (turns _ _ ?_) (fun u w=>rfl) ?_
 ·rintro ⟨a,o⟩ r xs ⟨hnd,hl⟩
  have hnd:ND a:=hnd
  have hl:a.length≤1000:=by simp only [List.length_cons]at hl;omega
  refine V.Tu (V.ATu (V.Ac (V.AL' n2 rfl) (V.Ac (V.AL' n3 rfl) (V.Ac (V.AL' n4 rfl) (V.Ac (V.AL' n5 rfl) V.An (fun u=>rfl)) (fun u=>rfl)) (fun u=>rfl)) (fun u=>rfl)) rfl (fun u=>rfl) (fun u=>rfl)) ?_
  rcases hp:pL a r.page with _ | y
  ·have e:aL a r.page r.goal=a++ [(r.page,r.goal)]:=by unfold aL;rw [hp];rfl
   have st:=V.Ds (C:=C) (k:=k) (key:=r.page) (x:= .str r.goal) (.inl (V.set_same (σ:=σ) (l:=⟨D,e0⟩) (o:= .dict (lk a)))) hnd.dn (V.lof (m:=1000) (by rw [lle];exact hl) (by decide))
   rw [dne (by rw [lkk];exact nok hp),←lap,V.set_set]at st
   dsimp only
   rw [e]
   refine V.EIT (V.TCo (c:=true) (V.ELo n3 rfl) (V.ELo n1 rfl) (V.Dno (.inl V.set_same) hnd.dn (by rw [dlk,hp];rfl)) rfl) ?_
   exact V.Eca (V.X1A (V.ELo n5 rfl) (V.ASu (V.ELo n1 rfl) (V.ELo n3 rfl) st) (fun u=>rfl) (fun u=>rfl) (fun u=>rfl)) V.Eni
  ·have e:aL a r.page r.goal=a:=by unfold aL;rw [hp];rfl
   dsimp only
   rw [e]
   exact V.EIF (V.TCo (c:=false) (V.ELo n3 rfl) (V.ELo n1 rfl) (V.Dno (.inl V.set_same) hnd.dn (by rw [dlk,hp];rfl)) rfl) V.Eni
 ·exact V.Gre (V.ELo n1 rfl)
theorem oex {C:V.Cx} {k:Nat} {sc:Scope} {σ:V.St} {m:V.Loc} {N:List Str} {x:Str} {ms:List (Option AV)} {i1 i4:Nat} {x1 x4:Str} {p1 p2 p3 p4 p5 p6 p7 p8:Pos} (n1:sc.names[i1]? =some (x1,NameKind.local)) (n4:sc.names[i4]? =some (x4,NameKind.local)) (h1:ms[i1]? =some (some (.loc m))) (h4:ms[i4]? =some (some (.str x))) (hN:N.length≤2000)
  (hm:behindInMarks .NotIn (.Name x1 p2)=false) (hl:(p6.endLine==p7.line)=true):
  V.Ex C k sc ms (σ.set m (.list (N.map .str))) [.If (.Compare (.Name x4 p1) [.NotIn] [.Name x1 p2] p3) [.Expr (.Call (.Attribute (.Name x1 p5) (Str.ofString "append") p6) [.Name x4 p4] [] p7) p7] [] p8] .next ms (σ.set m (.list ((aN N x).map .str))):=by
 have hz:(N.map AV.str).length≤sizeLine:=V.lof (m:=2000) (by rw [List.length_map];exact hN) (by decide)
 rcases hx:N.any (· ==x)with _ | _
 ·have e:aN N x=N++ [x]:=by unfold aN;rw [hx];rfl
  rw [e,List.map_append]
  refine V.EIT (V.TCo (c:=true) (V.ELo n4 h4) (V.ELo n1 h1) (V.Ln (.loc V.set_same) (by rw [hx];rfl)) hm) ?_
  exact V.Eca (V.X1E (V.EMC (V.ELo n1 h1) V.Ma (V.Eco (V.ELo n4 h4) V.En (fun u=>rfl)) V.Kbi (V.Ca' hz) (fun u v=>rfl) (fun u=>rfl) hl (fun u=>rfl)) (fun u v=>rfl)) V.Eni
 ·have e:aN N x=N:=by unfold aN;rw [hx];rfl
  rw [e]
  exact V.EIF (V.TCo (c:=false) (V.ELo n4 h4) (V.ELo n1 h1) (V.Ln (.loc V.set_same) (by rw [hx];rfl)) hm) V.Eni
theorem cnb {C:V.Cx} (h:Is C) {k:Nat} {σ:V.St} {L:List (Str×Str)} {D:Nat} (hD:σ ⟨D,e0⟩=some (.dict (lk L))) (hL:ND L) (hz:L.length≤1000):
  V.Cd C (k+1) σ (.ext 451) [.loc ⟨D,e0⟩] [] (.lst ((nO L).map .str)) σ:=by
 have hx0:=h.hx
 refine V.Cnm h.ok ⟨⟨_,_,_,by rw [h.K];exact rfl⟩,rfl,rfl,rfl,rfl,by rw [h.K];rfl,rfl,rfl,by decide+kernel⟩ [(Str.ofString "links",.local),(Str.ofString "named",.local),(Str.ofString "page",.local),(Str.ofString "goal",.local),(Str.ofString "one",.local)] rfl [(Str.ofString "links",.loc ⟨D,e0⟩)] _
  (V.Bp (V.l1a fun a0=>rfl) rfl) rfl rfl fun sc hF n hn=> ?_
 obtain⟨n0,n1,n2,n3,n4,_⟩:=hF
 have hl:σ ⟨n,e0⟩=none:=hn _ (Nat.le_refl _)
 have hne:(⟨n,e0⟩:V.Loc)≠⟨D,e0⟩:=fun e=>by rw [e,hD]at hl;cases hl
 refine olL (l:=⟨n,e0⟩) hl (V.Pu (fun p=>V.Pst)) ?_
 refine V.Gco (V.X1A (V.ELi ⟨n,e0⟩ V.En (Nat.zero_le _) hl) (V.AL' n1 rfl) (fun u=>rfl) (fun u=>rfl) (fun u=>rfl)) ?_
 have turns:=fun(cnt:Nat) (tgt:Expr) (body:List Stmt) hturn=>V.LPf (C:=C) (k:=k) (sc:=sc) (ok:=fun σ'=>σ' ⟨D,e0⟩=some (.map (lk L) cnt)) (tgt:=tgt) (body:=body) (enc:=fun p:Str×Str=>AV.tup [.str p.1,.str p.2])
  (M:=fun(a:List Str×Option (Str×Str))=> [some (.loc ⟨D,e0⟩),some (.loc ⟨n,e0⟩),a.2.map fun r=> .str r.1,a.2.map fun r=> .str r.2,a.2.map fun r=> .str r.2])
  (Sg:=fun a=>(σ.set ⟨D,e0⟩ (.map (lk L) cnt)).set ⟨n,e0⟩ (.list (a.1.map .str))) (step:=fun a r=>(aN (aN a.1 r.1) r.2,some r)) (P:=fun a xs=>a.1.length+2 * xs.length≤2000)
  (fun u v w=>by rw [V.sot hne.symm,V.set_same]) (fun a x xs hP=>by
   have h1:= @aNl a.1 x.1
   have h2:= @aNl (aN a.1 x.1) x.2
   simp only [List.length_cons]at hP⊢;omega) hturn L ([],none) (by simp;omega)
 have pr: ∀(xs:List (Str×Str)) (z:List Str×Option (Str×Str)),(xs.foldl (fun(a:List Str×Option (Str×Str)) r=>(aN (aN a.1 r.1) r.2,some r)) z).1=xs.foldl (fun N p=>aN (aN N p.1) p.2) z.1:=by
  intro xs
  induction xs with
  | nil=>intro z;rfl
  | cons x xs ih=>intro z;exact ih _
 simp only [pr]at turns
 have ev: ∀cnt:Nat,(lk L).map (fun p=>AV.tup [.str p.1,p.2])=L.map fun p=>AV.tup [.str p.1,.str p.2]:=fun u=>by unfold lk;rw [List.map_map];rfl
 have hD1: ∀ys:List Str,(σ.set ⟨n,e0⟩ (.list (ys.map .str))) ⟨D,e0⟩=some (.dict (lk L)):=fun ys=>by rw [V.sot hne.symm];exact hD
 have fin: ∃z:Option (Str×Str),z=(L.foldl (fun(a:List Str×Option (Str×Str)) r=>(aN (aN a.1 r.1) r.2,some r)) ([],none)).2:=⟨_,rfl⟩
 obtain⟨z,hz2⟩:=fin
 rw [←hz2]at turns
 refine V.Gco (ms₁:= [some (.loc ⟨D,e0⟩),some (.loc ⟨n,e0⟩),z.map fun r=> .str r.1,z.map fun r=> .str r.2,z.map fun r=> .str r.2]) (V.Tc (l:=⟨D,e0⟩) (hD1 []) (hD1 (nO L)) (fun cnt=> ?_)) (V.Gre (V.ELo n1 rfl))
 have I:=V.Ii (C:=C) (k:=k) (l:=⟨D,e0⟩) (n:=cnt) (es:=lk L) hL.dn hx0
 rw [ev cnt]at I
 rw [V.sco hne,V.sco hne]
 have hm:((σ.set ⟨D,e0⟩ (.map (lk L) cnt)).set ⟨n,e0⟩ (.list [])) ⟨D,e0⟩=some (.map (lk L) cnt):=by rw [V.sot hne.symm,V.set_same]
 refine V.X1F (V.EMC (V.ELo n0 rfl) (V.Mdi (.inr ⟨cnt,hm⟩)) V.En V.Kbi (V.Cdi (.inr ⟨cnt,hm⟩) hL.dn) (fun u v=>rfl) (fun u=>rfl) rfl (fun u=>rfl)) I hm (turns cnt _ _ ?_) (fun u v=>rfl)
 rintro ⟨a,o⟩ r xs hP
 have hP:a.length+2 * (r::xs).length≤2000:=hP
 simp only [List.length_cons]at hP
 have h1:= @aNl a r.1
 refine⟨_,_,(V.ATu (V.Ac (V.AL' n2 rfl) (V.Ac (V.AL' n3 rfl) V.An (fun u=>rfl)) (fun u=>rfl)) rfl (fun u=>rfl) (fun u=>rfl)),?_⟩
 exact V.Eca (V.XF (f:= .next) (V.ETu (V.Eco (V.ELo n2 rfl) (V.Eco (V.ELo n3 rfl) V.En (fun u=>rfl)) (fun u=>rfl)) (Nat.le_of_ble_eq_true rfl)) V.Itu trivial (V.Lr.cons trivial (V.AL' n4 rfl) (oex (N:=a) n1 n4 rfl rfl (by omega) rfl rfl) (.inl rfl) (V.Lr.cons trivial (V.AL' n4 rfl) (oex (N:=aN a r.1) n1 n4 rfl rfl (by omega) rfl rfl) (.inl rfl) (V.Lr.nil trivial))) (fun u v=>rfl)) V.Eni
end L2
end
section
namespace L2
open V (AV AO)
noncomputable def Ext (σ σ₁:V.St):Prop:=(∀l o,σ l=some o→σ₁ l=some o)∧ ∃n,∀l:V.Loc,n≤l.tag→σ₁ l=none
theorem Ext.fresh {σ σ₁:V.St} (h:Ext σ σ₁): ∃m:Nat,∀i,σ₁ ⟨m+i,e0⟩=none:=by
 obtain⟨n,hn⟩:=h.2
 exact⟨n,fun i=>hn _ (by simp)⟩
theorem Ext.set {σ σ₁:V.St} {l:V.Loc} {o:AO} (h:Ext σ σ₁) (hl:σ₁ l=none):Ext σ (σ₁.set l o):=by
 obtain⟨h1,n,hn⟩:=h
 refine⟨fun x y e=> ?_,n+l.tag+1,fun x hx=> ?_⟩
 ·rw [V.sot (fun z=>by rw [z]at e;rw [h1 l y e]at hl;cases hl)];exact h1 x y e
 ·rw [V.sot (fun z=>by rw [z]at hx;omega)];exact hn x (by omega)
theorem Ext.refl {σ:V.St} {n:Nat} (h: ∀l:V.Loc,n≤l.tag→σ l=none):Ext σ σ:=⟨fun u v e=>e,n,h⟩
section
variable {par:Str→Option Str}
inductive Lk (par:Str→Option Str) (p:Str):List Str→Str→Prop
 | one:Lk par p [p] p
 | snoc {w:List Str} {a y:Str} (l:Lk par p w a) (h:par a=some y):Lk par p (w++ [y]) y
theorem Lk.pth {p:Str} {w:List Str} {a:Str} (l:Lk par p w a): ∀{r z:Str} {t:List Str},par a=some z→Pth par r (z::t)→Pth par r (w++z::t):=by
 induction l with
 | one=>intro r z t h q;exact .cons h q
 | snoc l h ih=>intro r z t h' q;rw [List.append_assoc];exact ih h (.cons h' q)
theorem Lk.head {p:Str} {w:List Str} {a:Str} (l:Lk par p w a): ∃w',w=p::w':=by
 induction l with
 | one=>exact⟨[],rfl⟩
 | snoc l h ih=>obtain⟨w',e⟩:=ih;exact⟨w'++ [_],by rw [e];rfl⟩
theorem Lk.last {p:Str} {w:List Str} {a:Str} (l:Lk par p w a):a∈w:=by
 cases l with
 | one=>exact .head _
 | snoc=>simp
theorem Lk.next {p:Str} {w:List Str} {a:Str} (l:Lk par p w a): ∀x∈w,x=a∨ ∃y,par x=some y∧y∈w.tail:=by
 induction l with
 | one=>intro x hx;simp at hx;exact .inl hx
 | @snoc w a y l h ih=>
  intro x hx
  obtain⟨w',e⟩:=l.head
  rcases List.mem_append.mp hx with hx | hx
  ·rcases ih x hx with rfl | ⟨z,h1,h2⟩
   ·exact .inr ⟨y,h,by rw [e];simp⟩
   ·refine .inr ⟨z,h1,?_⟩
    rw [e]at h2⊢
    simp at h2⊢;exact .inl h2
  ·simp at hx;exact .inl hx
theorem Lk.ring {p:Str} {w:List Str} {a:Str} (l:Lk par p w a) (hn:w.Nodup) (h:par a=some p):Ri par p ([p]++w.reverse):=by
 obtain⟨w',rfl⟩:=l.head
 have q:=l.pth h .one
 rw [List.cons_append]at q
 rcases e:w'++ [p]with _ | ⟨x,t⟩
 ·simp at e
 ·rw [e]at q
  cases q with
  | cons hp q=>
   refine⟨x,t,q,?_,hp,?_⟩
   ·rw [←e,List.nodup_append]
    have:=List.nodup_cons.mp hn
    refine⟨this.2,by simp,fun a ha c hc e2=> ?_⟩
    simp at hc;subst hc;subst e2;exact this.1 ha
   ·rw [←e];simp
theorem Lk.not {p:Str} {w:List Str} {a:Str} (l:Lk par p w a) (hn:w.Nodup) (h:par a=none∨ ∃z,par a=some z∧z∈w∧z≠p): ¬OnR par p:=by
 obtain⟨w',e⟩:=l.head
 have hp:p∉w':=by rw [e]at hn;exact(List.nodup_cons.mp hn).1
 have nx: ∀x∈w,∀y,par x=some y→y∈w':=by
  intro x hx y hy
  rcases l.next x hx with rfl | ⟨z,h1,h2⟩
  ·rcases h with h | ⟨z,h1,h2,h3⟩
   ·rw [hy]at h;cases h
   ·rw [hy]at h1;obtain rfl:=Option.some.inj h1
    rw [e]at h2
    rcases List.mem_cons.mp h2 with z | z
    ·exact absurd z h3
    ·exact z
  ·rw [hy]at h1;obtain rfl:=Option.some.inj h1
   rw [e]at h2;exact h2
 rintro ⟨y,hy,hr⟩
 have h1:y∈w':=nx p (by rw [e];exact .head _) y hy
 have key: ∀z,Anc par p z→z∈w'→False:=by
  intro z a
  induction a with
  | refl=>exact hp
  | step h _ ih=>intro hz;exact ih (nx _ (by rw [e];exact .tail _ hz) _ h)
 exact key y hr h1
theorem riw {L:List (Str×Str)} {C:V.Cx} {k:Nat} {sc:Scope} {te:Expr} {bd:List Stmt} {p:Str} {M:Str→List (Option AV)} {S:List Str→V.St}
  (Hout: ∀w a,w.length≤L.length+1→(pL L a=none∨ ∃z,pL L a=some z∧z∈w)→V.Tv C k sc (M a) (S w) te false (M a) (S w))
  (Htest: ∀w a z,w.length≤L.length+1→pL L a=some z→z∉w→V.Tv C k sc (M a) (S w) te true (M a) (S w))
  (Hgo: ∀w a z,w.length≤L.length+1→pL L a=some z→V.Ex C k sc (M a) (S w) bd .next (M z) (S (w++ [z]))):
  ∀(N:Nat) (w:List Str) (a:Str),L.length+1 - w.length=N→Lk (pL L) p w a→w.Nodup→(∀x∈w,x=a∨x∈L.map (·.1))→w.length≤L.length+1→
   ∃w' a',V.Wr C k sc te bd [] (M a) (S w) .next (M a') (S w')∧Lk (pL L) p w' a'∧w'.Nodup∧w'.length≤L.length+1∧(pL L a'=none∨ ∃z,pL L a'=some z∧z∈w'):=by
 intro N
 induction N with
 | zero=>
  intro w a hN l hn hk hz
  have stop:pL L a=none∨ ∃z,pL L a=some z∧z∈w:=by
   rcases h:pL L a with _ | z
   ·exact .inl rfl
   ·refine .inr ⟨z,rfl,?_⟩
    refine Classical.byContradiction fun hzw=> ?_
    have sub: ∀x∈w,x∈L.map (·.1):=fun x hx=>by
     rcases hk x hx with rfl | h'
     ·exact ike (by rw [h];rfl)
     ·exact h'
    have:=List.Nodup.length_le_of_subset hn sub
    rw [List.length_map]at this
    omega
  exact⟨w,a,.out (Hout w a hz stop) V.Eni,l,hn,hz,stop⟩
 | succ N ih=>
  intro w a hN l hn hk hz
  rcases h:pL L a with _ | z
  ·exact⟨w,a,.out (Hout w a hz (.inl h)) V.Eni,l,hn,hz,.inl h⟩
  ·by_cases hzw:z∈w
   ·exact⟨w,a,.out (Hout w a hz (.inr ⟨z,h,hzw⟩)) V.Eni,l,hn,hz,.inr ⟨z,h,hzw⟩⟩
   ·have hn2:(w++ [z]).Nodup:=by
     rw [List.nodup_append]
     refine⟨hn,by simp,fun x hx c hc e=> ?_⟩
     simp at hc;subst hc;subst e;exact hzw hx
    have hk2: ∀x∈w++ [z],x=z∨x∈L.map (·.1):=fun x hx=>by
     rcases List.mem_append.mp hx with hx | hx
     ·rcases hk x hx with rfl | h'
      ·exact .inr (ike (by rw [h];rfl))
      ·exact .inr h'
     ·simp at hx;exact .inl hx
    obtain⟨w',a',h1,h2⟩:=ih (w++ [z]) z (by rw [List.length_append];simp only [List.length_cons,List.length_nil];omega) (.snoc l h) hn2 hk2 (by rw [List.length_append];simp only [List.length_cons,List.length_nil];omega)
    exact⟨w',a',.turn (Htest w a z hz h hzw) (Hgo w a z hz h) (.inl rfl) h1,h2⟩
theorem sgo {C:V.Cx} {k:Nat} {sc:Scope} {σ:V.St} {tgt iter:Expr} {body rest:List Stmt} {pos:Pos} {M:Option AV×Option AV×Option AV→List (Option AV)} {P:V.AF→V.St→Prop} {ns:List Str} {v:AV} (h0:C.hx=none)
  (Hno: ∀p σ1 o,Ext σ σ1→ ¬OnR par p→ ∃σ2 o' ms1,Ext σ σ2∧V.As C k sc (M o) σ1 tgt (.str p) ms1 σ1∧V.Ex C k sc ms1 σ1 body .next (M o') σ2)
  (Hyes: ∀p σ1 o,Ext σ σ1→OnR par p→ ∃L σ2 o' ms1,Ri par p L∧Ext σ σ2∧V.As C k sc (M o) σ1 tgt (.str p) ms1 σ1∧V.Ex C k sc ms1 σ1 body (.ret (.lst (L.map .str))) (M o') σ2)
  (Hiter:V.Ev C k sc (M (none,none,none)) σ iter (.lst (ns.map .str)) (M (none,none,none)) σ) (hs: ∀env x,foldedSetIterable iter env x=pure x)
  (hN:Cyc par ns none→ ∀o' σ2,Ext σ σ2→ ∃f ms' σf,V.Ex C k sc (M o') σ2 rest f ms' σf∧P f σf)
  (hL: ∀L,Cyc par ns (some L)→ ∀σ2,Ext σ σ2→P (.ret (.lst (L.map .str))) σ2) {n:Nat} (hn: ∀l:V.Loc,n≤l.tag→σ l=none):
  ∃f ms' σf,V.Ex C k sc (M (none,none,none)) σ (.For tgt iter body [] pos::rest) f ms' σf∧P f σf:=by
 have loop: ∀(ns:List Str) (σ1:V.St) (o:Option AV×Option AV×Option AV),Ext σ σ1→ ∃res σ2 o',Cyc par ns res∧Ext σ σ2∧V.Lr C k sc (fun u=>True) tgt body (ns.map .str) (M o) σ1 (fOf res) (M o') σ2:=by
  intro ns
  induction ns with
  | nil=>intro σ1 o E;exact⟨none,σ1,o,fun x hx=>(by cases hx),E,.nil trivial⟩
  | cons p ns ih=>
   intro σ1 o E
   by_cases hp:OnR par p
   ·obtain⟨L,σ2,o',ms1,hR,E2,ha,hx⟩:=Hyes p σ1 o E hp
    exact⟨some L,σ2,o',⟨[],p,ns,rfl,fun y hy=>(by cases hy),hR⟩,E2,.stop trivial ha hx (.inr ⟨_,rfl⟩)⟩
   ·obtain⟨σ2,o',ms1,E2,ha,hx⟩:=Hno p σ1 o E hp
    obtain⟨res,σ3,o3,hc,E3,hl⟩:=ih σ2 o' E2
    refine⟨res,σ3,o3,?_,E3,.cons trivial ha hx (.inl rfl) hl⟩
    cases res with
    | none=>
     intro y hy
     rcases List.mem_cons.mp hy with rfl | hy
     ·exact hp
     ·exact hc y hy
    | some L=>
     obtain⟨pre,r,post,e,hq,hr⟩:=hc
     refine⟨p::pre,r,post,by rw [e];rfl,fun y hy=> ?_,hr⟩
     rcases List.mem_cons.mp hy with rfl | hy
     ·exact hp
     ·exact hq y hy
 obtain⟨res,σ2,o',hc,E,hl⟩:=loop ns σ (none,none,none) (.refl hn)
 have X:=V.XF (pos:=pos) Hiter V.Ils trivial hl hs
 cases res with
 | none=>
  obtain⟨f,ms',σf,h,hp⟩:=hN hc o' σ2 E
  exact⟨f,ms',σf,V.Eca X h,hp⟩
 | some L=>exact⟨_,_,_,V.Est X (fun z=>by cases z),hL L hc σ2 E⟩
end
end L2
end
section
namespace L2
open Builtin Builtin.Str
local macro_rules | `(tactic| kln_le)=> `(tactic| first
 | (with_reducible assumption)
 | ((with_reducible apply V.Bc)<;>kln_le)
 | ((with_reducible apply V.Bs);kln_le)
 | ((with_reducible apply V.Bm)<;>first | kln_le | omega)
 | ((with_reducible apply V.Bl (x:=Str.ofString _));rfl))
open V (AV AO)
noncomputable def getOf (hs:List (Str×Str)) (x:Str):Str:=((hs.find? fun p=>Txt.lower p.1==Txt.lower x).map (·.2)).getD Str.empty
noncomputable def gO (x y:Str):Str:=Txt.lower (noL (jo (di x) y))
noncomputable def readOf (hs:List (Str×Str)):List (Str×Str):=hs.foldl (fun L p=>aL L (Txt.lower p.1) (gO p.1 (getOf hs p.1))) []
theorem ana {w:List Str} {z:Str} (h:z∉w):(!w.any (· ==z))=true:=by
 rw [Bool.not_eq_true',List.any_eq_false]
 intro x hx e
 rw [beq_iff_eq]at e;rw [e]at hx;exact h hx
theorem aye {w:List Str} {z:Str} (h:z∈w):(!w.any (· ==z))=false:=by
 rw [Bool.not_eq_false',List.any_eq_true]
 exact⟨z,h,by simp⟩
structure POk (x y:Str):Prop where
 bx:V.B x 200
 by_:V.B y 200
 bd:V.B (di x) 200
 bj:V.B (jo (di x) y) 400
 h0:(((jo (di x) y).length:Int) !=0)=true
 h1:c1 (jo (di x) y)=false
 h2:c2 (jo (di x) y)=true
 low:Builtin.Str.tooLong (gO x y).length=false
theorem crb {C:V.Cx} (h:Is C) {k:Nat} {σ:V.St} {t D:Nat} {hs:List (Str×Str)} (hD:tbl t hs σ ⟨D,e0⟩=none) (hok: ∀p∈hs,HOk p.1) (hz:hs.length≤1000) (hpk: ∀p∈hs,POk p.1 (getOf hs p.1)):
  V.Cd C (k+5) (tbl t hs σ) (.ext 470) [.loc ⟨t,e0⟩] [] (.loc ⟨D,e0⟩) ((tbl t hs σ).set ⟨D,e0⟩ (.dict (lk (readOf hs)))):=by
 have hx0:=h.hx
 refine V.Cnm h.ok ⟨⟨_,_,_,by rw [h.K];exact rfl⟩,rfl,rfl,rfl,rfl,by rw [h.K];rfl,rfl,rfl,by decide+kernel⟩ [(Str.ofString "table",.local),(Str.ofString "links",.local),(Str.ofString "name",.local),(Str.ofString "normpath",.globalImplicit),(Str.ofString "join",.globalImplicit),(Str.ofString "dirname",.globalImplicit)] rfl [(Str.ofString "table",.loc ⟨t,e0⟩)] _
  (V.Bp (V.l1a fun a0=>rfl) rfl) rfl rfl fun sc hF n hn=> ?_
 obtain⟨n0,n1,n2,n3,n4,n5,_⟩:=hF
 have dn: ∀i,i≤2→D≠t+i:=fun i hi e=>by
  rcases i with _ | _ | _ | i
  ·rw [e]at hD;exact absurd (tb0.symm.trans hD) (by simp)
  ·rw [e]at hD;exact absurd (tb1.symm.trans hD) (by simp)
  ·rw [e]at hD;exact absurd (t2a.symm.trans hD) (by simp)
  ·omega
 have dd:D<t∨t+2<D:=by have:=dn 0 (by decide);have:=dn 1 (by decide);have:=dn 2 (by decide);omega
 refine oR ?_ (.set .refl) (.set .refl lin) (by simp only [V.AV.In];rw [V.set_same];rfl)
 refine V.Gco (V.X1A (V.Ev0 ⟨D,e0⟩ hD) (V.AL' n1 rfl) (fun u=>rfl) (fun u=>rfl) (fun u=>rfl)) ?_
 rw [tov (l:=⟨D,e0⟩) dd,tov (l:=⟨D,e0⟩) dd]
 have ld: ∀a,tbl t hs (σ.set ⟨D,e0⟩ (.dict a)) ⟨D,e0⟩=some (.dict a):=fun a=>by rw [tou dd,V.set_same]
 have turns:=fun(tgt:Expr) (body:List Stmt) hturn=>V.Lf (C:=C) (k:=k+4) (sc:=sc) (ok:=fun u=>True) (tgt:=tgt) (body:=body) (enc:=fun p:Str×Str=>AV.str p.1)
  (M:=fun(a:List (Str×Str)×Option (Str×Str))=> [some (.loc ⟨t,e0⟩),some (.loc ⟨D,e0⟩),a.2.map fun r=> .str r.1,none,none,none])
  (Sg:=fun a=>tbl t hs (σ.set ⟨D,e0⟩ (.dict (lk a.1)))) (step:=fun a p=>(aL a.1 (Txt.lower p.1) (gO p.1 (getOf hs p.1)),some p)) (P:=fun a xs=>ND a.1∧a.1.length+xs.length≤1000∧ ∀p∈xs,p∈hs)
  (fun u v w=>trivial) (fun a x xs hP=>⟨aLn hP.1,by have:=hP.2.1;have:= @aLl a.1 (Txt.lower x.1) (gO x.1 (getOf hs x.1));simp only [List.length_cons]at *;omega,fun p hp=>hP.2.2 p (.tail _ hp)⟩) hturn hs ([],none) ⟨List.nodup_nil,by simpa using hz,fun u z=>z⟩
 have pr: ∀(xs:List (Str×Str)) (z:List (Str×Str)×Option (Str×Str)),(xs.foldl (fun(a:List (Str×Str)×Option (Str×Str)) p=>(aL a.1 (Txt.lower p.1) (gO p.1 (getOf hs p.1)),some p)) z).1=xs.foldl (fun L p=>aL L (Txt.lower p.1) (gO p.1 (getOf hs p.1))) z.1:=by
  intro xs
  induction xs with
  | nil=>intro z;rfl
  | cons x xs ih=>intro z;exact ih _
 simp only [pr]at turns
 refine V.GFo (V.EMC (V.ELo n0 rfl) (m_keys h tb0 tb1) V.En (KX h rfl) (V.Cd.ca (c_keys h hz)) (fun u v=>rfl) (fun u=>rfl) rfl (fun u=>rfl)) V.Ils trivial (turns _ _ ?_) (fun u v=>rfl) ?_
 ·rintro ⟨a,o⟩ p xs ⟨hnd,hl,hin⟩
  have hnd:ND a:=hnd
  have hl:a.length≤1000:=by simp only [List.length_cons]at hl;omega
  have hp:=hin p (.head _)
  have hx:=hok p hp
  have pk:=hpk p hp
  obtain⟨r,hr⟩: ∃r,hs.find? (fun q=>Txt.lower q.1==Txt.lower p.1)=some r:=by
   rcases e:hs.find? (fun q=>Txt.lower q.1==Txt.lower p.1)with _ | r
   ·rw [List.find?_eq_none]at e;exact absurd (e p hp) (by simp)
   ·exact⟨r,e⟩
  have hg:getOf hs p.1=r.2:=by unfold getOf;rw [hr];rfl
  have hfd:=hr
  refine V.Tu (V.AL' n2 rfl) ?_
  have tl:=short hx.low
  rcases hq:pL a (Txt.lower p.1)with _ | y
  ·have e:aL a (Txt.lower p.1) (gO p.1 (getOf hs p.1))=a++ [(Txt.lower p.1,gO p.1 (getOf hs p.1))]:=by unfold aL;rw [hq];rfl
   have st:=V.Ds (C:=C) (k:=k+4) (key:=Txt.lower p.1) (x:= .str (gO p.1 (getOf hs p.1))) (.inl (ld (lk a))) hnd.dn (V.lof (m:=1000) (by rw [lle];exact hl) (by decide))
   rw [dne (by rw [lkk];exact nok hq),←lap,tov (l:=⟨D,e0⟩) dd,V.set_set]at st
   dsimp only
   rw [e]
   refine V.EIT (V.TCo (c:=true) (V.EMC (V.ELo n2 rfl) V.Ml V.En V.Kbi (V.Clo tl) (fun u v=>rfl) (fun u=>rfl) rfl (fun u=>rfl)) (V.ELo n1 rfl) (V.Dno (.inl (ld _)) hnd.dn (by rw [dlk,hq];rfl)) rfl) ?_
   rw [hg]at pk
   rw [hg]at st⊢
   exact V.Eca (V.X1A (V.EMC (V.ECa (V.EGl h.ok n3 (gno h)) (V.Eco (V.ECa (V.EGl h.ok n4 (gj h)) (V.Eco (V.ECa (V.EGl h.ok n5 (gdi h)) (V.Eco (V.ELo n2 rfl) V.En (fun u=>rfl)) (KX h rfl) (cdi h pk.bx) (fun u=>rfl) (fun u=>rfl)) (V.Eco (V.ESI h.ok (V.ELo n0 rfl) (V.ELo n2 rfl) tb0 tb1 (by rw [h.K];kernel_rfl) (by rw [h.K];kernel_rfl) ⟨_,_,_,_,by rw [h.K];exact rfl⟩ (V.Cd.ca (cge h hx hok hfd)) (fun u v=>rfl)) V.En (fun u=>rfl)) (fun u=>rfl)) (KX h rfl) (cj h pk.bd pk.by_) (fun u=>rfl) (fun u=>rfl)) V.En (fun u=>rfl)) (KX h rfl) (cna h pk.bj pk.h0 pk.h1 pk.h2) (fun u=>rfl) (fun u=>rfl)) V.Ml V.En V.Kbi (V.Clo pk.low) (fun u v=>rfl) (fun u=>rfl) rfl (fun u=>rfl)) (V.ASu (V.ELo n1 rfl) (V.EMC (V.ELo n2 rfl) V.Ml V.En V.Kbi (V.Clo tl) (fun u v=>rfl) (fun u=>rfl) rfl (fun u=>rfl)) st) (fun u=>rfl) (fun u=>rfl) (fun u=>rfl)) V.Eni
  ·have e:aL a (Txt.lower p.1) (gO p.1 (getOf hs p.1))=a:=by unfold aL;rw [hq];rfl
   dsimp only
   rw [e]
   exact V.EIF (V.TCo (c:=false) (V.EMC (V.ELo n2 rfl) V.Ml V.En V.Kbi (V.Clo tl) (fun u v=>rfl) (fun u=>rfl) rfl (fun u=>rfl)) (V.ELo n1 rfl) (V.Dno (.inl (ld _)) hnd.dn (by rw [dlk,hq];rfl)) rfl) V.Eni
 ·exact V.Gre (V.ELo n1 rfl)
theorem cri {C:V.Cx} (h:Is C) {k:Nat} {σ:V.St} {L:List (Str×Str)} {D:Nat} {ns:List Str} {res:Option (List Str)} (hD:σ ⟨D,e0⟩=some (.dict (lk L))) (hL:ND L) (hz:L.length≤1000) (hres:Cyc (pL L) ns res):
  V.Cd C (k+1) σ (.ext 458) [.loc ⟨D,e0⟩,.lst (ns.map .str)] [] (.lst ((res.getD []).map .str)) σ:=by
 have hx0:=h.hx
 refine V.Cnm h.ok ⟨⟨_,_,_,by rw [h.K];exact rfl⟩,rfl,rfl,rfl,rfl,by rw [h.K];rfl,rfl,rfl,by decide+kernel⟩ [(Str.ofString "links",.local),(Str.ofString "named",.local),(Str.ofString "page",.local),(Str.ofString "walk",.local),(Str.ofString "at",.local)] rfl [(Str.ofString "links",.loc ⟨D,e0⟩),(Str.ofString "named",.lst (ns.map .str))] _
  (V.Bp (V.l2a fun a0 a1=>rfl) rfl) rfl rfl fun sc hF n hn=> ?_
 obtain⟨n0,n1,n2,n3,n4,_⟩:=hF
 have pl: ∀xs:List Str,(AV.lst (xs.map .str)).In fun l=>(σ l).isSome=true:=fun xs=>by simp only [V.AV.In];exact V.Pu (fun x=>V.Pst) _
 have body: ∀(te:Expr) (bd:List Stmt) (wpos:Pos) (st1 st3:Stmt) (tgt:Expr),
   (∀(p:Str) (σ1:V.St) (o:Option AV×Option AV×Option AV),V.As C k sc [some (.loc ⟨D,e0⟩),some (.lst (ns.map .str)),o.1,o.2.1,o.2.2] σ1 tgt (.str p) [some (.loc ⟨D,e0⟩),some (.lst (ns.map .str)),some (.str p),o.2.1,o.2.2] σ1)→
   (∀(p:Str) (m:Nat) (σ1:V.St) (o3 o4:Option AV),σ1 ⟨m,e0⟩=none→V.X1 C k sc [some (.loc ⟨D,e0⟩),some (.lst (ns.map .str)),some (.str p),o3,o4] σ1 st1 .next [some (.loc ⟨D,e0⟩),some (.lst (ns.map .str)),some (.str p),some (.loc ⟨m,e0⟩),some (.str p)] (σ1.set ⟨m,e0⟩ (.list ([p].map .str))))→
   (∀(p:Str) (m:Nat) (σ1:V.St) (w:List Str) (a:Str),σ1 ⟨D,e0⟩=some (.dict (lk L))→m≠D→w.length≤L.length+1→(pL L a=none∨ ∃z,pL L a=some z∧z∈w)→V.Tv C k sc [some (.loc ⟨D,e0⟩),some (.lst (ns.map .str)),some (.str p),some (.loc ⟨m,e0⟩),some (.str a)] (σ1.set ⟨m,e0⟩ (.list (w.map .str))) te false [some (.loc ⟨D,e0⟩),some (.lst (ns.map .str)),some (.str p),some (.loc ⟨m,e0⟩),some (.str a)] (σ1.set ⟨m,e0⟩ (.list (w.map .str))))→
   (∀(p:Str) (m:Nat) (σ1:V.St) (w:List Str) (a z:Str),σ1 ⟨D,e0⟩=some (.dict (lk L))→m≠D→w.length≤L.length+1→pL L a=some z→z∉w→V.Tv C k sc [some (.loc ⟨D,e0⟩),some (.lst (ns.map .str)),some (.str p),some (.loc ⟨m,e0⟩),some (.str a)] (σ1.set ⟨m,e0⟩ (.list (w.map .str))) te true [some (.loc ⟨D,e0⟩),some (.lst (ns.map .str)),some (.str p),some (.loc ⟨m,e0⟩),some (.str a)] (σ1.set ⟨m,e0⟩ (.list (w.map .str))))→
   (∀(p:Str) (m:Nat) (σ1:V.St) (w:List Str) (a z:Str),σ1 ⟨D,e0⟩=some (.dict (lk L))→m≠D→w.length≤L.length+1→pL L a=some z→V.Ex C k sc [some (.loc ⟨D,e0⟩),some (.lst (ns.map .str)),some (.str p),some (.loc ⟨m,e0⟩),some (.str a)] (σ1.set ⟨m,e0⟩ (.list (w.map .str))) bd .next [some (.loc ⟨D,e0⟩),some (.lst (ns.map .str)),some (.str p),some (.loc ⟨m,e0⟩),some (.str z)] (σ1.set ⟨m,e0⟩ (.list ((w++ [z]).map .str))))→
   (∀(p:Str) (m:Nat) (σ1:V.St) (w:List Str) (a:Str),σ1 ⟨D,e0⟩=some (.dict (lk L))→m≠D→pL L a≠some p→V.Ex C k sc [some (.loc ⟨D,e0⟩),some (.lst (ns.map .str)),some (.str p),some (.loc ⟨m,e0⟩),some (.str a)] (σ1.set ⟨m,e0⟩ (.list (w.map .str))) [st3] .next [some (.loc ⟨D,e0⟩),some (.lst (ns.map .str)),some (.str p),some (.loc ⟨m,e0⟩),some (.str a)] (σ1.set ⟨m,e0⟩ (.list (w.map .str))))→
   (∀(p:Str) (m:Nat) (σ1:V.St) (w:List Str) (a:Str),σ1 ⟨D,e0⟩=some (.dict (lk L))→m≠D→w.length≤L.length+1→pL L a=some p→V.Ex C k sc [some (.loc ⟨D,e0⟩),some (.lst (ns.map .str)),some (.str p),some (.loc ⟨m,e0⟩),some (.str a)] (σ1.set ⟨m,e0⟩ (.list (w.map .str))) [st3] (.ret (.lst (([p]++w.reverse).map .str))) [some (.loc ⟨D,e0⟩),some (.lst (ns.map .str)),some (.str p),some (.loc ⟨m,e0⟩),some (.str a)] (σ1.set ⟨m,e0⟩ (.list (w.map .str))))→
   ∀(p:Str) (σ1:V.St) (o:Option AV×Option AV×Option AV),Ext σ σ1→(¬OnR (pL L) p→ ∃(σ2:V.St) (o':Option AV×Option AV×Option AV) (ms1:List (Option AV)),Ext σ σ2∧V.As C k sc [some (.loc ⟨D,e0⟩),some (.lst (ns.map .str)),o.1,o.2.1,o.2.2] σ1 tgt (.str p) ms1 σ1∧V.Ex C k sc ms1 σ1 [st1,.While te bd [] wpos,st3] .next [some (.loc ⟨D,e0⟩),some (.lst (ns.map .str)),o'.1,o'.2.1,o'.2.2] σ2)∧(OnR (pL L) p→ ∃(L':List Str) (σ2:V.St) (o':Option AV×Option AV×Option AV) (ms1:List (Option AV)),Ri (pL L) p L'∧Ext σ σ2∧V.As C k sc [some (.loc ⟨D,e0⟩),some (.lst (ns.map .str)),o.1,o.2.1,o.2.2] σ1 tgt (.str p) ms1 σ1∧V.Ex C k sc ms1 σ1 [st1,.While te bd [] wpos,st3] (.ret (.lst (L'.map .str))) [some (.loc ⟨D,e0⟩),some (.lst (ns.map .str)),o'.1,o'.2.1,o'.2.2] σ2):=by
  intro te bd wpos st1 st3 tgt Has H1 Hout Htest Hgo H3 H4 p σ1 o E
  obtain⟨m,hm⟩:=E.fresh
  have hm:=hm 0
  rw [Nat.add_zero]at hm
  have hD1:=E.1 _ _ hD
  have hmD:m≠D:=fun e=>by rw [e,hD1]at hm;cases hm
  have hmσ:σ ⟨m,e0⟩=none:=by
   rcases e:σ ⟨m,e0⟩with _ | o
   ·rfl
   ·rw [E.1 _ _ e]at hm;cases hm
  obtain⟨w,a,hW,hl,hnd,hlen,hend⟩:=riw (L:=L) (C:=C) (k:=k) (sc:=sc) (te:=te) (bd:=bd) (p:=p) (M:=fun a=> [some (.loc ⟨D,e0⟩),some (.lst (ns.map .str)),some (.str p),some (.loc ⟨m,e0⟩),some (.str a)]) (S:=fun w=>σ1.set ⟨m,e0⟩ (.list (w.map .str)))
   (fun w a=>Hout p m σ1 w a hD1 hmD) (fun w a z=>Htest p m σ1 w a z hD1 hmD) (fun w a z=>Hgo p m σ1 w a z hD1 hmD) _ [p] p rfl .one (by simp) (fun x hx=>by simp at hx;exact .inl hx) (by simp)
  have E2:Ext σ (σ1.set ⟨m,e0⟩ (.list (w.map .str))):=E.set hm
  by_cases hp:pL L a=some p
  ·have hR:=hl.ring hnd hp
   refine⟨fun hno=>absurd hR.on hno,fun u=>⟨_,_,(some (.str p),some (.loc ⟨m,e0⟩),some (.str a)),_,hR,E2,Has p σ1 o,?_⟩⟩
   exact V.Eca (H1 p m σ1 _ _ hm) (V.Eca (V.X1W hW) (H4 p m σ1 w a hD1 hmD hlen hp))
  ·have hno: ¬OnR (pL L) p:=hl.not hnd (by
    rcases hend with z | ⟨z,h1,h2⟩
    ·exact .inl z
    ·exact .inr ⟨z,h1,h2,fun e=>hp (by rw [h1,e])⟩)
   refine⟨fun u=>⟨_,(some (.str p),some (.loc ⟨m,e0⟩),some (.str a)),_,E2,Has p σ1 o,?_⟩,fun y=>absurd y hno⟩
   exact V.Eca (H1 p m σ1 _ _ hm) (V.Eca (V.X1W hW) (H3 p m σ1 w a hD1 hmD hp))
 have B:=fun te bd wpos st1 st3 tgt a1 a2 a3 a4 a5 a6 a7=>body te bd wpos st1 st3 tgt a1 a2 a3 a4 a5 a6 a7
 have G:=fun(te:Expr) (bd:List Stmt) (wpos:Pos) (st1 st3:Stmt) (tgt iter:Expr) (rest:List Stmt) (pos:Pos) a1 a2 a3 a4 a5 a6 a7 Hiter hs hN hLL=>sgo (C:=C) (k:=k) (sc:=sc) (σ:=σ) (tgt:=tgt) (iter:=iter) (body:= [st1,.While te bd [] wpos,st3]) (rest:=rest) (pos:=pos) (M:=fun o=> [some (.loc ⟨D,e0⟩),some (.lst (ns.map .str)),o.1,o.2.1,o.2.2]) (P:=fun f σf=>V.Exit σ σf f (.lst ((res.getD []).map .str)) σ) (ns:=ns) (v:= .none) hx0
  (fun p σ1 o E hp=>(B te bd wpos st1 st3 tgt a1 a2 a3 a4 a5 a6 a7 p σ1 o E).1 hp) (fun p σ1 o E hp=>(B te bd wpos st1 st3 tgt a1 a2 a3 a4 a5 a6 a7 p σ1 o E).2 hp) Hiter hs hN hLL hn
 refine G _ _ _ _ _ _ _ _ _ ?_ ?_ ?_ ?_ ?_ ?_ ?_ (V.ELo n1 rfl) (fun u g=>rfl) ?_ ?_
 ·intro p σ1 o
  exact(V.AL' n2 rfl)
 ·intro p m σ1 o3 o4 hm
  exact V.X1S n3 n4 (V.ETu (V.Eco (V.ELi ⟨m,e0⟩ (V.Eco (V.ELo n2 rfl) V.En (fun u=>rfl)) (Nat.le_of_ble_eq_true rfl) hm) (V.Eco (V.ELo n2 rfl) V.En (fun u=>rfl)) (fun u=>rfl)) (Nat.le_of_ble_eq_true rfl)) rfl rfl rfl rfl rfl rfl
 ·intro p m σ1 w a hD1 hmD hw hc
  have hDw:(σ1.set ⟨m,e0⟩ (.list (w.map .str))) ⟨D,e0⟩=some (.dict (lk L)):=by rw [V.sot (by simpa using fun e=>hmD e.symm)];exact hD1
  rcases hpar:pL L a with _ | z
  ·exact V.TBO (V.TAs (V.TCo (c:=false) (V.ELo n4 rfl) (V.ELo n0 rfl) (V.Di (.inl hDw) hL.dn (by rw [dlk,hpar];rfl)) rfl))
  ·have hz:z∈w:=by
    rcases hc with e | ⟨y,e,hy⟩
    ·rw [hpar]at e;cases e
    ·rw [hpar]at e;obtain rfl:=Option.some.inj e;exact hy
   exact V.TBO (V.TAo (V.TCo (c:=true) (V.ELo n4 rfl) (V.ELo n0 rfl) (V.Di (.inl hDw) hL.dn (by rw [dlk,hpar];rfl)) rfl) (V.TAs (V.TCo (c:=false) (V.ESu (V.ELo n0 rfl) (V.ELo n4 rfl) (V.Bdi (.inl hDw)) (V.Dg (.inl hDw) hL.dn (by rw [dlk,hpar];rfl))) (V.ELo n3 rfl) (V.Ln (.loc V.set_same) (aye hz)) rfl)))
 ·intro p m σ1 w a z hD1 hmD hw hpar hz
  have hDw:(σ1.set ⟨m,e0⟩ (.list (w.map .str))) ⟨D,e0⟩=some (.dict (lk L)):=by rw [V.sot (by simpa using fun e=>hmD e.symm)];exact hD1
  exact V.TBO (V.TAo (V.TCo (c:=true) (V.ELo n4 rfl) (V.ELo n0 rfl) (V.Di (.inl hDw) hL.dn (by rw [dlk,hpar];rfl)) rfl) (V.TAo (V.TCo (c:=true) (V.ESu (V.ELo n0 rfl) (V.ELo n4 rfl) (V.Bdi (.inl hDw)) (V.Dg (.inl hDw) hL.dn (by rw [dlk,hpar];rfl))) (V.ELo n3 rfl) (V.Ln (.loc V.set_same) (ana hz)) rfl) V.TAn))
 ·intro p m σ1 w a z hD1 hmD hw hpar
  have hDw:(σ1.set ⟨m,e0⟩ (.list (w.map .str))) ⟨D,e0⟩=some (.dict (lk L)):=by rw [V.sot (by simpa using fun e=>hmD e.symm)];exact hD1
  rw [List.map_append]
  refine V.Eca (V.X1A (V.ESu (V.ELo n0 rfl) (V.ELo n4 rfl) (V.Bdi (.inl hDw)) (V.Dg (.inl hDw) hL.dn (by rw [dlk,hpar];rfl))) (V.AL' n4 rfl) (fun u=>rfl) (fun u=>rfl) (fun u=>rfl)) ?_
  exact V.Eca (V.X1E (V.EMC (V.ELo n3 rfl) V.Ma (V.Eco (V.ELo n4 rfl) V.En (fun u=>rfl)) V.Kbi (V.Ca' (V.lof (m:=1001) (by rw [List.length_map];omega) (by decide))) (fun u g=>rfl) (fun u=>rfl) rfl (fun u=>rfl)) (fun u g=>rfl)) V.Eni
 ·intro p m σ1 w a hD1 hmD hpar'
  have hDw:(σ1.set ⟨m,e0⟩ (.list (w.map .str))) ⟨D,e0⟩=some (.dict (lk L)):=by rw [V.sot (by simpa using fun e=>hmD e.symm)];exact hD1
  rcases hpar:pL L a with _ | z
  ·exact V.EIF (V.TBO (V.TAs (V.TCo (c:=false) (V.ELo n4 rfl) (V.ELo n0 rfl) (V.Di (.inl hDw) hL.dn (by rw [dlk,hpar];rfl)) rfl))) V.Eni
  ·have hzp:(z==p)=false:=by rw [hpar]at hpar';simpa using fun e=>hpar' (by rw [e])
   exact V.EIF (V.TBO (V.TAo (V.TCo (c:=true) (V.ELo n4 rfl) (V.ELo n0 rfl) (V.Di (.inl hDw) hL.dn (by rw [dlk,hpar];rfl)) rfl) (V.TAs (V.TCo (c:=false) (V.ESu (V.ELo n0 rfl) (V.ELo n4 rfl) (V.Bdi (.inl hDw)) (V.Dg (.inl hDw) hL.dn (by rw [dlk,hpar];rfl))) (V.ELo n2 rfl) (V.s_eq hzp) rfl)))) V.Eni
 ·intro p m σ1 w a hD1 hmD hw hpar
  have hDw:(σ1.set ⟨m,e0⟩ (.list (w.map .str))) ⟨D,e0⟩=some (.dict (lk L)):=by rw [V.sot (by simpa using fun e=>hmD e.symm)];exact hD1
  rw [List.map_append]
  refine V.EIT (V.TBO (V.TAo (V.TCo (c:=true) (V.ELo n4 rfl) (V.ELo n0 rfl) (V.Di (.inl hDw) hL.dn (by rw [dlk,hpar];rfl)) rfl) (V.TAo (V.TCo (c:=true) (V.ESu (V.ELo n0 rfl) (V.ELo n4 rfl) (V.Bdi (.inl hDw)) (V.Dg (.inl hDw) hL.dn (by rw [dlk,hpar];rfl))) (V.ELo n2 rfl) (V.s_eq (by simp)) rfl) V.TAn))) ?_
  exact V.Er (V.EBO (V.ELs (V.Eco (V.ELo n2 rfl) V.En (fun u=>rfl)) (Nat.le_of_ble_eq_true rfl)) (V.ESu (V.ELo n3 rfl) (V.ESl V.Pn V.Pn (V.Pso (V.EUO V.EIn V.ina))) (V.BL (.loc V.set_same)) (V.Ls (.loc V.set_same) .none .none (V.PtI.int _) (by decide) (V.lof (m:=1001) (by rw [List.length_map];omega) (by decide)) ((lre _).trans (List.map_reverse).symm))) (V.La (.lst _) (.lst _) (V.lof (n:=1+(w.reverse.map AV.str).length) (m:=1002) (by rw [List.length_map,List.length_reverse];omega) (by decide))))
 ·intro hc o' σ2 E
  obtain rfl:=hres.ud hc
  exact⟨_,_,_,V.Er (V.ELs V.En (Nat.zero_le _)),E.1,fun u z=>z,fun u g z=> .inl z,.inl ⟨rfl,pl []⟩⟩
 ·intro L' hc σ2 E
  obtain rfl:=hres.ud hc
  exact⟨E.1,fun u z=>z,fun u g z=> .inl z,.inl ⟨rfl,pl _⟩⟩
end L2
end
section
namespace L2
open Builtin Builtin.Str
local macro_rules | `(tactic| kln_le)=> `(tactic| first
 | (with_reducible assumption)
 | ((with_reducible apply V.Bc)<;>kln_le)
 | ((with_reducible apply V.Bs);kln_le)
 | ((with_reducible apply V.Bm)<;>first | kln_le | omega)
 | ((with_reducible apply V.Bl (x:=Str.ofString _));rfl))
open V (AV AO)
theorem cre {C:V.Cx} (h:Is C) {k:Nat} {σ:V.St} {b:Nat} {q:SS} {x m:Str} (hc:V.CaX C k (srt b q σ) (.ext 137) [.loc ⟨b,e0⟩,.str x] (.type "ValueError") [.str m] (srt b q σ)):
  V.Cd C (k+1) (srt b q σ) (.ext 477) [.loc ⟨b,e0⟩,.str x] [] (.str m) (srt b q σ):=by
 have hx0:=h.hx
 refine V.Cnm h.ok ⟨⟨_,_,_,by rw [h.K];exact rfl⟩,rfl,rfl,rfl,rfl,by rw [h.K];rfl,rfl,rfl,by decide+kernel⟩ [(Str.ofString "sorter",.local),(Str.ofString "node",.local),(Str.ofString "error",.local),(Str.ofString "ValueError",.globalImplicit),(Str.ofString "str",.globalImplicit)] rfl [(Str.ofString "sorter",.loc ⟨b,e0⟩),(Str.ofString "node",.str x)] _
  (V.Bp (V.l2a fun a0 a1=>rfl) rfl) rfl rfl fun sc hF n hn=> ?_
 obtain⟨n0,n1,n2,n3,n4,_⟩:=hF
 refine V.ou ?_
 have gV:V.Glob C (Str.ofString "ValueError") (.ty "ValueError"):=gVE h
 have gS:V.Glob C (Str.ofString "str") (.ty "str"):=gst h
 refine V.Gs (V.XSt PySem.F.excStr_ValueError (i:=2) (V.Rx (V.REx (V.RM (V.ELo n0 rfl) (mdo h sr0 sr1) (V.Eco (V.ELo n1 rfl) V.En (fun u=>rfl)) (KX h rfl) hc (fun u v=>rfl) (fun u=>rfl) rfl (fun u=>rfl)) (fun u v=>rfl))) (by decide) (V.EGl h.ok.h n3 gV) (V.Mty (by rw [isSubtype_type];kernel_rfl) (by rw [isSubtype_type];kernel_rfl) (by rw [isSubtype_type];kernel_rfl)) (Nat.le_of_ble_eq_true rfl) n2 (fun ms=>V.EGl h.ok.h n4 gS) (fun u=>rfl) (fun u=>rfl) (fun u=>rfl)) (fun z=>by cases z)
noncomputable def pick (st:Int) (g:List Str):List Str:=if st=1 then g else g.reverse
theorem lps {st:Int} (hst:st=1∨st= -1) (g:List Str):V.lpi (g.map AV.str) none none (some st)=(pick st g).map .str:=by
 unfold pick
 rcases hst with rfl | rfl
 ·rw [if_pos rfl,lpo]
 ·rw [if_neg (by decide),lre,List.map_reverse]
noncomputable def nG (L:List (Str×Str)) (st:Int) (g:List Str):List Str:=(pick st g).flatMap fun goal=>(L.map (·.1)).filter fun p=>pL L p==some goal
inductive Rnd (L:List (Str×Str)) (st:Int):List Str→List (List Str)→Prop
 | nil:Rnd L st [] []
 | cons {g:List Str} {rs:List (List Str)} (h:g≠ []) (hz:g.length≤1000) (r:Rnd L st (nG L st g) rs):Rnd L st g (g::rs)
theorem rwh {L:List (Str×Str)} {st:Int} {C:V.Cx} {k:Nat} {sc:Scope} {te:Expr} {bd:List Stmt} {M:List Str→List (Option AV)} {S:List (List Str)→V.St}
  (Hout: ∀acc,V.Tv C k sc (M []) (S acc) te false (M []) (S acc))
  (Htest: ∀acc g,g≠ []→g.length≤1000→V.Tv C k sc (M g) (S acc) te true (M g) (S acc))
  (Hgo: ∀acc g,acc.length≤1000→g.length≤1000→V.Ex C k sc (M g) (S acc) bd .next (M (nG L st g)) (S (acc++ [g]))):
  ∀{g:List Str} {rs:List (List Str)} (acc:List (List Str)),Rnd L st g rs→acc.length+rs.length≤1000→V.Wr C k sc te bd [] (M g) (S acc) .next (M []) (S (acc++rs)):=by
 intro g rs acc R
 induction R generalizing acc with
 | nil=>intro u;rw [List.append_nil];exact .out (Hout acc) V.Eni
 | @cons g rs h hz r ih=>
  intro hl
  simp only [List.length_cons]at hl
  have w:=ih (acc++ [g]) (by rw [List.length_append];simp only [List.length_cons,List.length_nil];omega)
  rw [List.append_assoc]at w
  exact .turn (Htest acc g h hz) (Hgo acc g (by omega) hz) (.inl rfl) w
noncomputable def g0O (L:List (Str×Str)) (ns:List Str):List Str:=ns.filter fun x=>(pL L x).isNone
theorem cro {C:V.Cx} (h:Is C) {k:Nat} {σ:V.St} {L:List (Str×Str)} {D:Nat} {ns:List Str} {st:Int} {rs:List (List Str)} (hD:σ ⟨D,e0⟩=some (.dict (lk L))) (hL:ND L) (hz:L.length≤1000) (hns:ns.length≤1000) (hst:st=1∨st= -1) (hR:Rnd L st (g0O L ns) rs) (hrs:rs.length≤1000):
  V.Cd C (k+1) σ (.ext 463) [.loc ⟨D,e0⟩,.lst (ns.map .str),.int st] [] (.lst (rs.map fun g=> .lst (g.map .str))) σ:=by
 have hx0:=h.hx
 refine V.Cnm h.ok ⟨⟨_,_,_,by rw [h.K];exact rfl⟩,rfl,rfl,rfl,rfl,by rw [h.K];rfl,rfl,rfl,by decide+kernel⟩ [(Str.ofString "links",.cell),(Str.ofString "named",.local),(Str.ofString "step",.local),(Str.ofString "rounds",.local),(Str.ofString "group",.local)] rfl [(Str.ofString "links",.loc ⟨D,e0⟩),(Str.ofString "named",.lst (ns.map .str)),(Str.ofString "step",.int st)] _
  (V.Bp (V.l3a fun a0 a1 a2=>rfl) rfl) rfl rfl fun sc hF n hn=> ?_
 obtain⟨n0,n1,n2,n3,n4,_⟩:=hF
 have hl:σ ⟨n,e0⟩=none:=hn _ (Nat.le_refl _)
 have hne:(⟨n,e0⟩:V.Loc)≠⟨D,e0⟩:=fun e=>by rw [e,hD]at hl;cases hl
 refine olL (l:=⟨n,e0⟩) hl (V.Pu (fun g=>V.Pls (V.Pu (fun x=>V.Pst)))) ?_
 have hD1: ∀xs,(σ.set ⟨n,e0⟩ (.list xs)) ⟨D,e0⟩=some (.dict (lk L)):=fun xs=>by rw [V.sot hne.symm];exact hD
 have ek:(lk L).map (fun p=>AV.str p.1)=(L.map (·.1)).map .str:=by unfold lk;rw [List.map_map,List.map_map];rfl
 have first: ∀(elt c tgt iter:Expr) (scope:Scope) (pos:Pos),True:=fun u v w q t r=>trivial
 have W:=fun(la:V.Loc) (nla:la≠⟨D,e0⟩) (elt c:Expr) (scope:Scope) (pos:Pos) (gens:List Comprehension) (g:Comprehension) (e:g.ifs= [c]) ha hc hv=>V.CLl (C:=C) (k:=k) (sc:=V.uc scope) (enc:=AV.str) (val:=AV.str) (p:=fun x=>(pL L x).isNone) (M:=fun o:Option Str=> [none,o.map AV.str,some (.loc ⟨D,e0⟩)]) (Sg:=fun out=>(σ.set ⟨n,e0⟩ (.list [])).set la (.list out)) (ok:=fun u=>True) (la:=la) (elt:=elt) (gens:=gens) (scope:=scope) (pos:=pos) (g:=g) (xs₀:=ns) (fun out=>trivial) (fun out=>V.set_same) (fun out out'=>V.set_set) ha (.inr ⟨c,e,hc⟩) hv ns [] none (fun u z=>z) (V.lof (n:=([]:List AV).length+ns.length) (m:=1000) (by simpa using hns) (by decide))
 refine V.Gco (V.X1S n3 n4 (V.ETu (vs:= [.loc ⟨n,e0⟩,.lst ((g0O L ns).map .str)]) (V.Eco (V.ELi ⟨n,e0⟩ V.En (Nat.zero_le _) hl) (V.Eco (V.ELC (link:= [(0,2)]) (ms2':= [none,(ns.foldl (fun u x=>some x) (none:Option Str)).map AV.str,some (.loc ⟨D,e0⟩)]) ⟨(V.all1 rfl),V.all1 ⟨_,n0,rfl⟩,rfl,by decide+kernel,(V.ELo n1 rfl),V.Ils,trivial,fun u v=>rfl⟩ (fun la hla=> ?_) rfl (V.Pu (fun x=>V.Pst))) V.En (fun u=>rfl)) (fun u=>rfl)) (Nat.le_of_ble_eq_true rfl)) rfl rfl rfl rfl rfl rfl) ?_
 ·have nla:la≠⟨D,e0⟩:=fun z=>by rw [z,hD1]at hla;cases hla
  refine W la nla _ _ _ _ _ _ rfl (fun o x out hx=> ?_) (fun x out hx=> ?_) (fun x out hx u=> ?_)
  ·exact V.AL' (i:=1) rfl rfl
  ·exact(V.TCo (c:=_) (V.ELo (i:=1) rfl rfl) (V.ECe (i:=2) rfl rfl) (V.Dno (.inl (by rw [V.sot nla.symm];exact hD1 _)) hL.dn (by rw [dlk];cases pL L x<;>rfl)) rfl)
  ·exact V.ELo (i:=1) rfl rfl
 have loop:=fun(te:Expr) (bd:List Stmt) h1 h2 h3=>rwh (L:=L) (st:=st) (C:=C) (k:=k) (sc:=sc) (te:=te) (bd:=bd) (M:=fun g=> [some (.loc ⟨D,e0⟩),some (.lst (ns.map .str)),some (.int st),some (.loc ⟨n,e0⟩),some (.lst (g.map .str))]) (S:=fun acc=>σ.set ⟨n,e0⟩ (.list (acc.map fun g=>AV.lst (g.map .str)))) h1 h2 h3 [] hR (by simpa using hrs)
 refine V.Gco (V.X1W (loop _ _ (fun acc=> ?_) (fun acc g hg hgz=> ?_) (fun acc g ha hgz=> ?_))) (V.Gre (V.ELo n3 rfl))
 ·exact(V.Tva (b:=false) (V.ELo n4 rfl) (V.Ltr (.lst _) (Nat.zero_le _) rfl) (fun u v=>rfl))
 ·exact(V.Tva (b:=true) (V.ELo n4 rfl) (V.Ltr (.lst _) (V.lof (m:=1000) (by rw [List.length_map];exact hgz) (by decide)) (by cases g with | nil=>exact absurd rfl hg | cons=>rfl)) (fun u v=>rfl))
 ·rw [List.map_append]
  refine V.Eca (V.X1E (V.EMC (V.ELo n3 rfl) V.Ma (V.Eco (V.ELo n4 rfl) V.En (fun u=>rfl)) V.Kbi (V.Ca' (V.lof (m:=1000) (by rw [List.length_map];exact ha) (by decide))) (fun u v=>rfl) (fun u=>rfl) rfl (fun u=>rfl)) (fun u v=>rfl)) ?_
  have eA:(acc.map fun g=>AV.lst (g.map .str))++ [AV.lst (g.map .str)]=(acc++ [g]).map fun g=>AV.lst (g.map .str):=by rw [List.map_append];rfl
  have eB:(acc.map fun g=>AV.lst (g.map .str))++([g].map fun g=>AV.lst (g.map .str))=(acc++ [g]).map fun g=>AV.lst (g.map .str):=by rw [List.map_append]
  rw [eA,eB]
  generalize acc++ [g]=acc
  have inner:=fun(cnt:Nat) (la:V.Loc) (nla:la≠⟨D,e0⟩) (goal:Str) (out:List AV) (hout:out.length+L.length≤sizeLine) (o2:Option Str) (elt c:Expr) (scope:Scope) (pos:Pos) (gens:List Comprehension) (g:Comprehension) (e:g.ifs= [c]) ha hc hv=>V.CLl (C:=C) (k:=k) (sc:=V.uc scope) (enc:=AV.str) (val:=AV.str) (p:=fun p=>pL L p==some goal) (M:=fun o:Option Str=> [none,some (.str goal),o.map AV.str,some (.loc ⟨D,e0⟩)]) (Sg:=fun out=>((σ.set ⟨n,e0⟩ (.list (acc.map fun g=>AV.lst (g.map .str)))).set ⟨D,e0⟩ (.map (lk L) cnt)).set la (.list out)) (ok:=fun σ'=>σ' ⟨D,e0⟩=some (.map (lk L) cnt)) (la:=la) (elt:=elt) (gens:=gens) (scope:=scope) (pos:=pos) (g:=g) (xs₀:=L.map (·.1)) (fun out=>by rw [V.sot nla.symm,V.set_same]) (fun out=>V.set_same) (fun out out'=>V.set_set) ha (.inr ⟨c,e,hc⟩) hv (L.map (·.1)) out o2 (fun u z=>z) (by rw [List.length_map];exact hout)
  have outer:=fun(cnt:Nat) (la:V.Loc) (nla:la≠⟨D,e0⟩) (e:Expr) (sc':Scope) (gg:Comprehension) (gs:List Comprehension) (hi:gg.ifs= []) ha hb=>V.CLf (C:=C) (k:=k) (sc:=sc') (enc:=AV.str) (f:=fun goal=>((L.map (·.1)).filter fun p=>pL L p==some goal).map AV.str) (M:=fun(o o2:Option Str)=> [none,o.map AV.str,o2.map AV.str,some (.loc ⟨D,e0⟩)]) (nx:=fun u o2=>(L.map (·.1)).foldl (fun u x=>some x) o2) (Sg:=fun out=>((σ.set ⟨n,e0⟩ (.list (acc.map fun g=>AV.lst (g.map .str)))).set ⟨D,e0⟩ (.map (lk L) cnt)).set la (.list out)) (ok:=fun u=>True) (la:=la) (e:=e) (g:=gg) (gs:=gs) (xs₀:=pick st g) (K:=L.length) (fun out=>trivial) hi ha (fun x=>by rw [List.length_map];exact Nat.le_trans (List.length_filter_le _ _) (by rw [List.length_map];exact Nat.le_refl _)) hb (pick st g) [] none none (fun u z=>z) (V.lof (n:=([]:List AV).length+(pick st g).length * L.length) (m:=1000000) (by
    have:(pick st g).length≤1000:=by unfold pick;split;exact hgz;rw [List.length_reverse];exact hgz
    have:=Nat.mul_le_mul this hz
    simpa using this) (by decide))
  have en: ∀xs:List Str,(xs.flatMap fun goal=>((L.map (·.1)).filter fun p=>pL L p==some goal).map AV.str)=(xs.flatMap fun goal=>(L.map (·.1)).filter fun p=>pL L p==some goal).map AV.str:=fun xs=>by
   rw [List.map_flatMap]
  refine V.Eca (V.Tc (l:=⟨D,e0⟩) (hD1 _) (hD1 _) (fun cnt=> ?_)) V.Eni
  have I:=V.Ik (C:=C) (k:=k) (l:=⟨D,e0⟩) (n:=cnt) (es:=lk L) hL.dn hx0
  rw [ek]at I
  refine V.XC (link:= [(0,3)]) (ms2':= [none,((pick st g).foldl (fun(s:Option Str×Option Str) x=>(some x,(L.map (·.1)).foldl (fun u x=>some x) s.2)) (none,none)).1.map AV.str,((pick st g).foldl (fun(s:Option Str×Option Str) x=>(some x,(L.map (·.1)).foldl (fun u x=>some x) s.2)) (none,none)).2.map AV.str,some (.loc ⟨D,e0⟩)]) ⟨(V.all2 rfl rfl),V.all1 ⟨_,n0,rfl⟩,rfl,by decide+kernel,(V.ESu (V.ELo n4 rfl) (V.ESl V.Pn V.Pn (V.Pso (V.ELo n2 rfl))) (V.BL (.lst _)) (V.Ls (.lst _) .none .none (V.PtI.int _) (by rcases hst with rfl | rfl<;>decide) (V.lof (m:=1000) (by rw [List.length_map];exact hgz) (by decide)) (lps hst g))),V.Ils,trivial,fun u v=>rfl⟩ (out:=(nG L st g).map .str) (fun la hla=> ?_) rfl (V.Pu (fun x=>V.Pst)) (fun env=>⟨_,rfl⟩) (fun u=>rfl) (fun u=>rfl) (V.AL' n4 rfl)
  have nla:la≠⟨D,e0⟩:=fun z=>by rw [z,V.set_same]at hla;cases hla
  have O:=outer cnt la nla
  simp only [en,List.nil_append]at O
  refine O _ _ _ _ rfl (fun o o2 x out hx=> ?_) (fun x o2 out hx hlen=> ?_)
  ·exact V.AL' (i:=1) rfl rfl
  ·have ok2:(((σ.set ⟨n,e0⟩ (.list (acc.map fun g=>AV.lst (g.map .str)))).set ⟨D,e0⟩ (.map (lk L) cnt)).set la (.list out)) ⟨D,e0⟩=some (.map (lk L) cnt):=by rw [V.sot nla.symm,V.set_same]
   refine V.CB.gen (V.ECe (i:=3) rfl rfl) I ok2 (fun u v=>rfl) (inner cnt la nla x out hlen o2 _ _ _ _ _ _ rfl (fun o y out hy=> ?_) (fun y out hy=> ?_) (fun y out hy u=> ?_))
   ·exact V.AL' (i:=2) rfl rfl
   ·have ok3:(((σ.set ⟨n,e0⟩ (.list (acc.map fun g=>AV.lst (g.map .str)))).set ⟨D,e0⟩ (.map (lk L) cnt)).set la (.list out)) ⟨D,e0⟩=some (.map (lk L) cnt):=by rw [V.sot nla.symm,V.set_same]
    obtain⟨z,hz2⟩: ∃z,pL L y=some z:=by
     rcases e:pL L y with _ | z
     ·exact absurd hy (nok e)
     ·exact⟨z,rfl⟩
    rw [hz2]
    exact(V.TCo (c:=_) (V.ESu (V.ECe (i:=3) rfl rfl) (V.ELo (i:=2) rfl rfl) (V.Bdi (.inr ⟨cnt,ok3⟩)) (V.Dg (.inr ⟨cnt,ok3⟩) hL.dn (by rw [dlk,hz2];rfl))) (V.ELo (i:=1) rfl rfl) (V.s_eq rfl) rfl)
   ·exact V.ELo (i:=2) rfl rfl
end L2
end
section
namespace L2
noncomputable def sOf (L:List (Str×Str)) (x:Str):List Str:=(L.map (·.1)).filter fun p=>pL L p==some x
theorem pLs {L:List (Str×Str)} {p g:Str} (h:pL L p=none) (x:Str):pL (L++ [(p,g)]) x=if x=p then some g else pL L x:=by
 unfold pL at h⊢
 rw [List.find?_append,Option.map_or]
 by_cases hx:x=p
 ·subst hx;rw [if_pos rfl,h];simp
 ·rw [if_neg hx]
  have:([(p,g)]:List (Str×Str)).find? (fun q=>decide (q.1=x))=none:=by simp [Ne.symm hx]
  rw [this];simp
theorem aNm {N:List Str} {x y:Str}:y∈aN N x↔y∈N∨y=x:=by
 unfold aN
 split
 ·rename_i h
  rw [List.any_eq_true]at h
  obtain⟨z,hz,e⟩:=h
  rw [beq_iff_eq]at e;subst e
  constructor
  ·exact .inl
  ·rintro (h | rfl)
   ·exact h
   ·exact hz
 ·simp
theorem ik {q:SS} {x:Str}:(q.ins x).ks=aN q.ks x:=by
 unfold SS.ins aN
 by_cases h:x∈q.ks
 ·rw [if_pos h,if_pos (List.any_eq_true.mpr ⟨x,h,by simp⟩)]
 ·rw [if_neg h,if_neg]
  intro z
  rw [List.any_eq_true]at z
  obtain⟨y,hy,e⟩:=z
  rw [beq_iff_eq]at e;subst e;exact h hy
theorem nOs {L:List (Str×Str)} {p:Str×Str}:nO (L++ [p])=aN (aN (nO L) p.1) p.2:=by
 unfold nO;rw [List.foldl_append];rfl
structure Told (L:List (Str×Str)) (q:SS):Prop where
 ks:q.ks=nO L
 nd:q.ks.Nodup
 np: ∀x∈q.ks,q.np x=if(pL L x).isSome then 1 else 0
 su: ∀x∈q.ks,q.su x=sOf L x
 rd:q.rd=none
 po:q.po=0
 nf:q.nf=0
 key: ∀x y,pL L x=some y→x∈q.ks∧y∈q.ks
theorem Told.start:Told [] q0:=⟨rfl,List.nodup_nil,fun x hx=>(by cases hx),fun x hx=>(by cases hx),rfl,rfl,rfl,fun x y h=>by cases h⟩
theorem mei {q:SS} {x y:Str}:y∈(q.ins x).ks↔y∈q.ks∨y=x:=by rw [ik];exact aNm
theorem Told.step {L:List (Str×Str)} {q:SS} {p g:Str} (T:Told L q) (h:pL L p=none):Told (L++ [(p,g)]) (q.add p g):=by
 have nopar: ∀x,x∉q.ks→sOf L x= []:=fun x hx=>by
  unfold sOf
  rw [List.filter_eq_nil_iff]
  intro y hy e
  simp at e
  exact hx (T.key y x e).2
 have suNew: ∀x,sOf (L++ [(p,g)]) x=sOf L x++(if g=x then [p]else []):=fun x=>by
  unfold sOf
  rw [List.map_append,List.filter_append]
  congr 1
  ·apply List.filter_congr
   intro y hy
   have:y≠p:=fun e=>nok h (by rw [←e];exact hy)
   rw [pLs h,if_neg this]
  ·simp only [List.map_cons,List.map_nil]
   rw [List.filter_cons,pLs h,if_pos rfl]
   by_cases hg:g=x
   ·subst hg;simp
   ·simp [hg]
 have k1:(q.ad1 p).ks=(q.ins p).ks:=rfl
 have np1: ∀x∈(q.ad1 p).ks,(q.ad1 p).np x=if(pL (L++ [(p,g)]) x).isSome then 1 else 0:=fun x hx=>by
  rw [pLs h]
  by_cases hp:x=p
  ·subst hp
   rw [if_pos rfl]
   show upd _ _ _ _=_
   rw [usa]
   have:(q.ins x).np x=0:=by
    unfold SS.ins;split
    ·rename_i hk;rw [T.np _ hk,h];rfl
    ·exact usa
   rw [this];rfl
  ·rw [if_neg hp]
   show upd _ _ _ _=_
   rw [une hp]
   have hk:x∈q.ks:=(mei.mp hx).resolve_right hp
   have:(q.ins p).np x=q.np x:=by
    unfold SS.ins;split
    ·rfl
    ·exact une hp
   rw [this,T.np x hk]
 have su1: ∀x∈(q.ad1 p).ks,(q.ad1 p).su x=sOf L x:=fun x hx=>by
  show(q.ins p).su x=_
  by_cases hk:x∈q.ks
  ·have:(q.ins p).su x=q.su x:=by
    unfold SS.ins;split
    ·rfl
    ·rename_i hp;exact une (fun e=>hp (by rw [←e];exact hk))
   rw [this,T.su x hk]
  ·have hp:x=p:=(mei.mp hx).resolve_left hk
   subst hp
   have:(q.ins x).su x= []:=by unfold SS.ins;rw [if_neg hk];exact usa
   rw [this,nopar x hk]
 have in1: ∀x∈q.ks,x∈(q.ad1 p).ks:=fun x hx=>mei.mpr (.inl hx)
 have k2:(q.add p g).ks=((q.ad1 p).ins g).ks:=rfl
 refine⟨?_,?_,fun x hx=> ?_,fun x hx=> ?_,?_,?_,?_,fun x y e=> ?_⟩
 ·rw [k2,ik,k1,ik,nOs,T.ks]
 ·rw [k2];exact ino (ino T.nd)
 ·show((q.ad1 p).ins g).np x=_
  by_cases hk:x∈(q.ad1 p).ks
  ·have:((q.ad1 p).ins g).np x=(q.ad1 p).np x:=by
    unfold SS.ins;split
    ·rfl
    ·rename_i hg;exact une (fun e=>hg (by rw [←e];exact hk))
   rw [this,np1 x hk]
  ·have hg:x=g:=(mei.mp hx).resolve_left hk
   subst hg
   have:((q.ad1 p).ins x).np x=0:=by unfold SS.ins;rw [if_neg hk];exact usa
   rw [this,pLs h]
   have hp:x≠p:=fun e=>hk (by rw [e];exact ise)
   rw [if_neg hp]
   rcases e:pL L x with _ | y
   ·rfl
   ·exact absurd (in1 x (T.key x y e).1) hk
 ·show upd _ _ _ _=_
  rw [suNew]
  by_cases hg:x=g
  ·subst hg
   rw [usa,if_pos rfl]
   congr 1
   by_cases hk:x∈(q.ad1 p).ks
   ·have:((q.ad1 p).ins x).su x=(q.ad1 p).su x:=by unfold SS.ins;rw [if_pos hk]
    rw [this,su1 x hk]
   ·have:((q.ad1 p).ins x).su x= []:=by unfold SS.ins;rw [if_neg hk];exact usa
    rw [this,nopar x (fun z=>hk (in1 x z))]
  ·rw [une hg,if_neg (Ne.symm hg),List.append_nil]
   have hk:x∈(q.ad1 p).ks:=(mei.mp hx).resolve_right hg
   have:((q.ad1 p).ins g).su x=(q.ad1 p).su x:=by
    unfold SS.ins;split
    ·rfl
    ·exact une hg
   rw [this,su1 x hk]
 ·show((q.ad1 p).ins g).rd=none
  rw [ir];exact(ir (q:=q)).trans T.rd
 ·show((q.ad1 p).ins g).po=0
  have e: ∀(q:SS) (x:Str),(q.ins x).po=q.po:=fun q x=>by unfold SS.ins;split<;>rfl
  rw [e];exact(e q p).trans T.po
 ·show((q.ad1 p).ins g).nf=0
  have e: ∀(q:SS) (x:Str),(q.ins x).nf=q.nf:=fun q x=>by unfold SS.ins;split<;>rfl
  rw [e];exact(e q p).trans T.nf
 ·rw [pLs h]at e
  rw [k2]
  by_cases hp:x=p
  ·rw [if_pos hp]at e;obtain rfl:=Option.some.inj e
   subst hp
   exact⟨iks ise,ise⟩
  ·rw [if_neg hp]at e
   obtain⟨a,c⟩:=T.key x y e
   exact⟨iks (in1 _ a),iks (in1 _ c)⟩
theorem Told.all: ∀(rest pre:List (Str×Str)) (q:SS),Told pre q→ND (pre++rest)→Told (pre++rest) (rest.foldl (fun q p=>q.add p.1 p.2) q)
 | [],pre,q,T,_=>by rw [List.append_nil];exact T
 | (p,g)::rest,pre,q,T,hn=>by
  have e:pre++(p,g)::rest=(pre++ [(p,g)])++rest:=by simp
  have hp:pL pre p=none:=by
   rcases h:pL pre p with _ | y
   ·rfl
   ·have hk:=ike (L:=pre) (x:=p) (by rw [h];rfl)
    unfold ND at hn
    rw [List.map_append,List.nodup_append]at hn
    exact absurd rfl (hn.2.2 p hk p (by simp))
  rw [e]at hn⊢
  exact Told.all rest _ _ (T.step hp) hn
theorem Told.gph {L:List (Str×Str)} {q:SS} (T:Told L q) (hz:q.ks.length≤1000):Gph (pL L) q:=by
 refine⟨T.nd,fun x hx y hy=> ?_,fun x y h=> ?_,hz⟩
 ·rw [T.su x hx]at hy
  unfold sOf at hy
  rw [List.mem_filter]at hy
  have e:pL L y=some x:=by simpa using hy.2
  exact⟨(T.key y x e).1,e⟩
 ·obtain⟨a,c⟩:=T.key y x h
  refine⟨c,?_⟩
  rw [T.su x c]
  unfold sOf
  rw [List.mem_filter]
  exact⟨ike (by rw [h];rfl),by simp [h]⟩
theorem Told.prep {L:List (Str×Str)} {q:SS} (T:Told L q):q.prep.rd=some (g0O L q.ks):=by
 show some (q.ks.filter fun x=>q.np x==0)=_
 congr 1
 apply List.filter_congr
 intro x hx
 rw [T.np x hx]
 cases pL L x<;>rfl
theorem sOn {L:List (Str×Str)} {x:Str} (h:ND L):(sOf L x).Nodup:=List.Pairwise.filter _ h
theorem des: ∀(ys:List Str) (q:SS) (r:List Str),q.rd=some r→ys.Nodup→(∀y∈ys,q.np y=1)→
  (ys.foldl SS.dec q).rd=some (r++ys)∧(∀z,(ys.foldl SS.dec q).np z=if z∈ys then 0 else q.np z)∧(ys.foldl SS.dec q).po=q.po∧(ys.foldl SS.dec q).nf=q.nf
 | [],q,r,h,_,_=>⟨by rw [List.append_nil];exact h,fun z=>by simp,rfl,rfl⟩
 | y::ys,q,r,h,hn,h1=>by
  have hy:=h1 y (.head _)
  have e:q.dec y=(q.sNp y 0).aR y:=by
   unfold SS.dec
   rw [hy]
   have:(q.sNp y (1 - 1)).np y=0:=usa
   rw [if_pos (by rw [this];rfl)];rfl
  have hn':=List.nodup_cons.mp hn
  have hnp: ∀z,(q.dec y).np z=if z=y then 0 else q.np z:=fun z=>by rw [e];rfl
  obtain⟨a,b,c,d⟩:=des ys (q.dec y) (r++ [y]) (by rw [e];unfold SS.aR SS.sNp;simp [h]) hn'.2 (fun z hz=>by
   rw [hnp,if_neg (fun e=>hn'.1 (by rw [←e];exact hz))];exact h1 z (.tail _ hz))
  refine⟨by rw [List.foldl_cons,a];simp,fun z=> ?_,?_,?_⟩
  ·rw [List.foldl_cons,b,hnp]
   by_cases hz:z∈ys
   ·rw [if_pos hz,if_pos (.tail _ hz)]
   ·rw [if_neg hz]
    by_cases hzy:z=y
    ·rw [if_pos hzy,if_pos (by rw [hzy];exact .head _)]
    ·rw [if_neg hzy,if_neg (by rw [List.mem_cons,not_or];exact⟨hzy,hz⟩)]
  ·rw [List.foldl_cons,c,e];rfl
  ·rw [List.foldl_cons,d,e];rfl
theorem dos: ∀(xs:List Str) (q:SS) (r:List Str),q.rd=some r→xs.Nodup→(∀x∈xs,q.np x= -1)→(∀x∈xs,(q.su x).Nodup∧ ∀y∈q.su x,q.np y=1)→(∀x∈xs,∀x'∈xs,x≠x'→ ∀y∈q.su x,y∉q.su x')→
  (q.don xs).rd=some (r++xs.flatMap q.su)∧(∀z,(q.don xs).np z=if z∈xs then -2 else if z∈xs.flatMap q.su then 0 else q.np z)∧(q.don xs).po=q.po∧(q.don xs).nf=q.nf+xs.length
 | [],q,r,h,_,_,_,_=>⟨by simp only [List.flatMap_nil,List.append_nil];exact h,fun z=>by simp [SS.don],rfl,by simp [SS.don]⟩
 | x::xs,q,r,h,hn,hx,hs,hd=>by
  have hn':=List.nodup_cons.mp hn
  obtain⟨s1,s2⟩:=hs x (.head _)
  have hxs:x∉q.su x:=fun z=>by have:=s2 x z;rw [hx x (.head _)]at this;cases this
  obtain⟨a,b,c,d⟩:=des (q.su x) (q.sNp x (-2)) r h s1 (fun y hy=>by
   show upd _ _ _ _=_
   rw [une (fun e=>hxs (by rw [e]at hy;exact hy))];exact s2 y hy)
  have f:=d1f q x
  have hnp: ∀z,(q.do1 x).np z=if z∈q.su x then 0 else if z=x then -2 else q.np z:=fun z=>by
   show((q.su x).foldl SS.dec (q.sNp x (-2))).np z=_
   rw [b];rfl
  have hsu:(q.do1 x).su=q.su:=f.2.1
  have keep: ∀z,z≠x→z∉q.su x→(q.do1 x).np z=q.np z:=fun z h1 h2=>by rw [hnp,if_neg h2,if_neg h1]
  have far: ∀x'∈xs,x'∉q.su x:=fun x' hx' z=>by
   have:=s2 x' z;rw [hx x' (.tail _ hx')]at this;cases this
  have ne: ∀x'∈xs,x'≠x:=fun x' hx' e=>hn'.1 (by rw [←e];exact hx')
  obtain⟨a',b',c',d'⟩:=dos xs (q.do1 x) (r++q.su x) a hn'.2 (fun x' hx'=>by rw [keep x' (ne x' hx') (far x' hx')];exact hx x' (.tail _ hx')) (fun x' hx'=>by
   rw [hsu]
   refine⟨(hs x' (.tail _ hx')).1,fun y hy=> ?_⟩
   have h1:=(hs x' (.tail _ hx')).2 y hy
   rw [keep y (fun e=>by rw [e,hx x (.head _)]at h1;cases h1) (hd x' (.tail _ hx') x (.head _) (ne x' hx') y hy)];exact h1) (fun u hu v hv huv=>by rw [hsu];exact hd u (.tail _ hu) v (.tail _ hv) huv)
  refine⟨?_,fun z=> ?_,?_,?_⟩
  ·show(SS.don (q.do1 x) xs).rd=_
   rw [a',hsu,List.flatMap_cons,List.append_assoc]
  ·show(SS.don (q.do1 x) xs).np z=_
   rw [b',hsu,hnp]
   simp only [List.flatMap_cons,List.mem_append,List.mem_cons]
   by_cases h1:z=x
   ·subst h1
    have:z∉xs.flatMap q.su:=fun h=>by
     obtain⟨u,hu,hzu⟩:=List.mem_flatMap.mp h
     have:=(hs u (.tail _ hu)).2 z hzu
     rw [hx z (.head _)]at this;cases this
    simp only [hn'.1,this,hxs,if_true,if_false,true_or]
   ·by_cases h2:z∈xs
    ·simp only [h2,if_true,or_true]
    ·by_cases h3:z∈xs.flatMap q.su
     ·simp only [h1,h2,h3,if_true,if_false,or_self,or_true]
     ·by_cases h4:z∈q.su x
      ·simp only [h1,h2,h3,h4,if_true,if_false,or_self,true_or]
      ·simp only [h1,h2,h3,h4,if_false,or_self]
  ·exact c'.trans c
  ·show(SS.don (q.do1 x) xs).nf=_
   rw [d']
   have:(q.do1 x).nf=q.nf+1:=by show((q.su x).foldl SS.dec (q.sNp x (-2))).nf+1=_;rw [d];rfl
   rw [this];simp only [List.length_cons];omega
end L2
end
section
namespace L2
theorem nsp (r:List Str) (v:Int): ∀(q:SS) (z:Str),(r.foldl (fun q x=>q.sNp x v) q).np z=if z∈r then v else q.np z:=by
 induction r with
 | nil=>intro q z;simp
 | cons x r ih=>
  intro q z
  rw [List.foldl_cons,ih]
  show(if z∈r then v else upd q.np x v z)=_
  by_cases h:z∈r
  ·simp only [h,if_true,List.mem_cons,or_true]
  ·by_cases hx:z=x
   ·subst hx;rw [if_neg h,usa,if_pos (.head _)]
   ·rw [if_neg h,une hx,if_neg (by rw [List.mem_cons,not_or];exact⟨hx,h⟩)]
theorem mpi {st:Int} {g:List Str} {x:Str}:x∈pick st g↔x∈g:=by
 unfold pick;split<;>simp
theorem ple {st:Int} {g:List Str}:(pick st g).length=g.length:=by unfold pick;split<;>simp
theorem pno {st:Int} {g:List Str} (h:g.Nodup):(pick st g).Nodup:=by
 unfold pick;split
 ·exact h
 ·exact List.pairwise_reverse.mpr (List.Pairwise.imp (fun z=>z.symm) h)
theorem feq {f g:Str→List Str}: ∀{l:List Str},(∀x∈l,f x=g x)→l.flatMap f=l.flatMap g
 | [],_=>rfl
 | x::l,h=>by rw [List.flatMap_cons,List.flatMap_cons,h x (.head _),feq fun y hy=>h y (.tail _ hy)]
structure RS (L:List (Str×Str)) (q:SS) (D g:List Str):Prop where
 nd:q.ks.Nodup
 su: ∀x∈q.ks,q.su x=sOf L x
 rd:q.rd=some g
 pn:q.po=q.nf
 np: ∀x∈q.ks,q.np x=if x∈D then -2 else if x∈g then 0 else 1
 dg:(D++g).Nodup
 gk: ∀x∈g,x∈q.ks
 dk: ∀x∈D,x∈q.ks
 inv: ∀x∈q.ks,(x∈D∨x∈g)↔(pL L x=none∨ ∃y,pL L x=some y∧y∈D)
 key: ∀x y,pL L x=some y→x∈q.ks∧y∈q.ks
 ln:q.ks.length≤900
theorem msO {L:List (Str×Str)} {x y:Str}:y∈sOf L x↔pL L y=some x:=by
 unfold sOf
 rw [List.mem_filter]
 constructor
 ·intro h;simpa using h.2
 ·intro h;exact⟨ike (by rw [h];rfl),by simp [h]⟩
theorem RS.fresh {L:List (Str×Str)} {q:SS} {D g:List Str} (R:RS L q D g) {x y:Str} (hx:x∈g) (h:pL L y=some x):y∈q.ks∧y∉D∧y∉g:=by
 have hk:=(R.key y x h).1
 have hxD:x∉D:=fun z=>by
  have:=R.dg
  rw [List.nodup_append]at this
  exact this.2.2 x z x hx rfl
 have no: ¬(y∈D∨y∈g):=fun z=>by
  rcases (R.inv y hk).mp z with e | ⟨u,e,hu⟩
  ·rw [h]at e;cases e
  ·rw [h]at e;obtain rfl:=Option.some.inj e;exact hxD hu
 rw [not_or]at no
 exact⟨hk,no.1,no.2⟩
theorem oks {q:SS} {g:List Str}:(q.out g).ks=q.ks:=by unfold SS.out;rw [fnp]
theorem osu {q:SS} {g:List Str}:(q.out g).su=q.su:=by unfold SS.out;rw [fnp]
theorem onf {q:SS} {g:List Str}:(q.out g).nf=q.nf:=by unfold SS.out;rw [fnp]
theorem onp {q:SS} {g:List Str} (z:Str):(q.out g).np z=if z∈g then -1 else q.np z:=nsp g (-1) q z
theorem RS.dp {L:List (Str×Str)} {q:SS} {D g:List Str} {st:Int} (R:RS L q D g) (hL:ND L):DP (q.out g) (pick st g):=by
 have gnd:g.Nodup:=(List.nodup_append.mp R.dg).2.1
 have fl:(pick st g).flatMap (q.out g).su=(pick st g).flatMap (sOf L):=feq fun x hx=>by rw [osu];exact R.su x (R.gk x (mpi.mp hx))
 have fnd:((pick st g).flatMap (sOf L)).Nodup:=by
  unfold List.Nodup
  rw [List.pairwise_flatMap]
  refine⟨fun x hx=>sOn hL,List.Pairwise.imp (fun{a c} hac u hu v hv e=> ?_) (pno gnd)⟩
  subst e
  rw [msO]at hu hv;rw [hu]at hv
  exact hac (Option.some.inj hv)
 refine⟨⟨[],rfl,?_⟩,by rw [oks];exact R.nd,fun x hx y hy=> ?_,fun x hx=> ?_,pno gnd,fun x hx y hy=> ?_⟩
 ·rw [fl]
  have:=List.Nodup.length_le_of_subset fnd (l₂:=q.ks) fun y hy=>by
   obtain⟨x,hx,hy⟩:=List.mem_flatMap.mp hy
   exact(R.key y x (msO.mp hy)).1
  have:=R.ln
  simp only [List.length_nil];omega
 ·rw [oks]at hx⊢
  rw [osu,R.su x hx,msO]at hy
  exact(R.key y x hy).1
 ·have hg:=mpi.mp hx
  rw [oks,onp,if_pos hg]
  exact⟨R.gk x hg,rfl⟩
 ·rw [osu,R.su x (R.gk x (mpi.mp hx)),msO]
  intro h
  exact(R.fresh (mpi.mp hx) h).2.2 (mpi.mp hy)
theorem nGe {L:List (Str×Str)} {st:Int} {g:List Str}:nG L st g=(pick st g).flatMap (sOf L):=rfl
theorem RS.step {L:List (Str×Str)} {q:SS} {D g:List Str} {st:Int} (R:RS L q D g) (hL:ND L):RS L ((q.out g).don (pick st g)) (D++g) (nG L st g):=by
 have gnd:g.Nodup:=(List.nodup_append.mp R.dg).2.1
 have P:=R.dp (st:=st) hL
 have A:=P.all
 have fl:(pick st g).flatMap (q.out g).su=nG L st g:=feq fun x hx=>by rw [osu];exact R.su x (R.gk x (mpi.mp hx))
 have mn: ∀y,y∈nG L st g↔ ∃x∈g,pL L y=some x:=fun y=>by
  rw [nGe,List.mem_flatMap]
  constructor
  ·rintro ⟨x,hx,hy⟩;exact⟨x,mpi.mp hx,msO.mp hy⟩
  ·rintro ⟨x,hx,hy⟩;exact⟨x,mpi.mpr hx,msO.mpr hy⟩
 obtain⟨s1,s2,s3,s4⟩:=dos (pick st g) (q.out g) [] rfl (pno gnd) (fun x hx=>(P.out x hx).2) (fun x hx=>by
   have hg:=mpi.mp hx
   rw [osu,R.su x (R.gk x hg)]
   refine⟨sOn hL,fun y hy=> ?_⟩
   obtain⟨k1,k2,k3⟩:=R.fresh hg (msO.mp hy)
   rw [onp,if_neg k3,R.np y k1,if_neg k2,if_neg k3]) (fun x hx x' hx' hne y hy=>by
   rw [osu,R.su x (R.gk x (mpi.mp hx)),msO]at hy
   rw [osu,R.su x' (R.gk x' (mpi.mp hx')),msO,hy]
   exact fun e=>hne (Option.some.inj e))
 rw [fl]at s1 s2
 have ek:((q.out g).don (pick st g)).ks=q.ks:=A.1.trans oks
 have es:((q.out g).don (pick st g)).su=q.su:=A.2.1.trans osu
 have hDg: ∀x∈g,x∉D:=fun x hx z=>(List.nodup_append.mp R.dg).2.2 x z x hx rfl
 refine⟨by rw [ek];exact R.nd,fun x hx=> ?_,by rw [s1,List.nil_append],?_,fun x hx=> ?_,?_,fun x hx=> ?_,fun x hx=> ?_,fun x hx=> ?_,fun x y h=>by rw [ek];exact R.key x y h,by rw [ek];exact R.ln⟩
 ·rw [ek]at hx;rw [es];exact R.su x hx
 ·rw [s3,s4,onf,ple]
  show q.po+_=_
  rw [R.pn]
 ·rw [ek]at hx
  rw [s2,onp,R.np x hx]
  by_cases hg:x∈g
  ·simp only [mpi,hg,if_true,List.mem_append,or_true]
  ·by_cases hD:x∈D
   ·have:x∉nG L st g:=fun z=>by
     obtain⟨y,hy,e⟩:=(mn x).mp z
     exact(R.fresh hy e).2.1 hD
    simp only [mpi,hg,hD,this,if_true,if_false,List.mem_append,true_or]
   ·simp only [mpi,hg,hD,if_false,List.mem_append,or_self]
 ·rw [List.nodup_append]
  refine⟨R.dg,?_,fun x hx y hy e=> ?_⟩
  ·rw [nGe]
   unfold List.Nodup
   rw [List.pairwise_flatMap]
   refine⟨fun x hx=>sOn hL,List.Pairwise.imp (fun{a c} hac u hu v hv e=> ?_) (pno gnd)⟩
   subst e
   rw [msO]at hu hv;rw [hu]at hv
   exact hac (Option.some.inj hv)
  ·subst e
   obtain⟨z,hz,e⟩:=(mn x).mp hy
   obtain⟨_,k2,k3⟩:=R.fresh hz e
   rcases List.mem_append.mp hx with h | h
   ·exact k2 h
   ·exact k3 h
 ·obtain⟨z,hz,e⟩:=(mn x).mp hx
  rw [ek];exact(R.fresh hz e).1
 ·rw [ek]
  rcases List.mem_append.mp hx with h | h
  ·exact R.dk x h
  ·exact R.gk x h
 ·rw [ek]at hx
  rw [mn,List.mem_append]
  constructor
  ·rintro (h | ⟨y,hy,e⟩)
   ·rcases (R.inv x hx).mp h with e | ⟨y,e,hy⟩
    ·exact .inl e
    ·exact .inr ⟨y,e,List.mem_append.mpr (.inl hy)⟩
   ·exact .inr ⟨y,e,List.mem_append.mpr (.inr hy)⟩
  ·rintro (e | ⟨y,e,hy⟩)
   ·exact .inl ((R.inv x hx).mpr (.inl e))
   ·rcases List.mem_append.mp hy with h | h
    ·exact .inl ((R.inv x hx).mpr (.inr ⟨y,e,h⟩))
    ·exact .inr ⟨y,h,e⟩
theorem Told.rs {L:List (Str×Str)} {q:SS} (T:Told L q) (hz:q.ks.length≤900):RS L q.prep [] (g0O L q.ks):=by
 refine⟨T.nd,T.su,T.prep,by show q.po=q.nf;rw [T.po,T.nf],fun x hx=> ?_,?_,fun x hx=> ?_,fun x hx=>(by cases hx),fun x hx=> ?_,T.key,hz⟩
 ·show q.np x=_
  rw [T.np x hx,show(if x∈([]:List Str)then(-2:Int)else if x∈g0O L q.ks then 0 else 1)=if x∈g0O L q.ks then 0 else 1 from if_neg (by simp)]
  have:x∈g0O L q.ks↔(pL L x).isNone=true:=by unfold g0O;rw [List.mem_filter];exact⟨fun h=>h.2,fun h=>⟨hx,h⟩⟩
  rcases e:pL L x with _ | y
  ·have hn:x∈g0O L q.ks:=this.mpr (by rw [e];rfl)
   rw [show(if x∈g0O L q.ks then(0:Int)else 1)=0 from if_pos hn];rfl
  ·have hn:x∉g0O L q.ks:=fun z=>by have:=this.mp z;rw [e]at this;cases this
   rw [show(if x∈g0O L q.ks then(0:Int)else 1)=1 from if_neg hn];rfl
 ·rw [List.nil_append];exact List.Pairwise.filter _ T.nd
 ·unfold g0O at hx;exact(List.mem_filter.mp hx).1
 ·unfold g0O
  rw [List.mem_filter]
  constructor
  ·rintro (h | h)
   ·cases h
   ·exact .inl (by simpa using h.2)
  ·rintro (h | ⟨y,_,h⟩)
   ·exact .inr ⟨hx,by rw [h];rfl⟩
   ·cases h
theorem rn {L:List (Str×Str)} {st:Int} (hL:ND L): ∀(N:Nat) (q:SS) (D g:List Str),q.ks.length - D.length≤N→RS L q D g→ ∃rs,Rnd L st g rs∧rs.length≤N:=by
 intro N
 induction N with
 | zero=>
  intro q D g hN R
  have h1:=List.Nodup.length_le_of_subset R.dg (l₂:=q.ks) fun x hx=>by
   rcases List.mem_append.mp hx with h | h
   ·exact R.dk x h
   ·exact R.gk x h
  rw [List.length_append]at h1
  have:g= []:=List.eq_nil_of_length_eq_zero (by omega)
  subst this
  exact⟨[],.nil,Nat.le_refl _⟩
 | succ N ih=>
  intro q D g hN R
  by_cases hg:g= []
  ·subst hg;exact⟨[],.nil,Nat.zero_le _⟩
  ·have hl:0<g.length:=List.length_pos_iff.mpr hg
   have A:=(R.dp (st:=st) hL).all
   obtain⟨rs,h1,h2⟩:=ih _ (D++g) (nG L st g) (by rw [A.1,oks,List.length_append];omega) (R.step (st:=st) hL)
   have gl:=List.Nodup.length_le_of_subset (List.nodup_append.mp R.dg).2.1 (l₂:=q.ks) R.gk
   have:=R.ln
   exact⟨g::rs,.cons hg (by omega) h1,by simp only [List.length_cons];omega⟩
theorem Lk.anc {par:Str→Option Str} {p:Str} {w:List Str} {a:Str} (l:Lk par p w a): ∀z∈w,Anc par a z:=by
 induction l with
 | one=>intro z hz;simp at hz;subst hz;exact .refl
 | snoc l h ih=>
  intro z hz
  rcases List.mem_append.mp hz with hz | hz
  ·exact Anc.trans (.step h .refl) (ih z hz)
  ·simp at hz;subst hz;exact .refl
theorem RS.all {L:List (Str×Str)} {q:SS} {D:List Str} (R:RS L q D []) (hno: ∀x∈q.ks,¬OnR (pL L) x): ∀x∈q.ks,x∈D:=by
 intro x hx
 refine Classical.byContradiction fun hxD=> ?_
 have up: ∀a,a∈q.ks→a∉D→ ∃y,pL L a=some y∧y∈q.ks∧y∉D:=fun a ha haD=>by
  have h:=(not_congr (R.inv a ha)).mp (by rintro (z | z);exact haD z;cases z)
  rw [not_or]at h
  rcases e:pL L a with _ | y
  ·exact absurd e h.1
  ·exact⟨y,rfl,(R.key a y e).2,fun z=>h.2 ⟨y,e,z⟩⟩
 have walk: ∀(N:Nat) (w:List Str) (a:Str),q.ks.length - w.length=N→Lk (pL L) x w a→w.Nodup→(∀z∈w,z∈q.ks)→a∉D→False:=by
  intro N
  induction N with
  | zero=>
   intro w a hN l hn hk haD
   obtain⟨y,e,hy,hyD⟩:=up a (hk a l.last) haD
   by_cases hyw:y∈w
   ·exact hno a (hk a l.last) ⟨y,e,l.anc y hyw⟩
   ·have hn2:(w++ [y]).Nodup:=by
     rw [List.nodup_append]
     refine⟨hn,by simp,fun u hu c hc e2=> ?_⟩
     simp at hc;subst hc;subst e2;exact hyw hu
    have:=List.Nodup.length_le_of_subset hn2 (l₂:=q.ks) fun z hz=>by
     rcases List.mem_append.mp hz with h | h
     ·exact hk z h
     ·simp at h;subst h;exact hy
    rw [List.length_append]at this
    simp only [List.length_cons,List.length_nil]at this
    omega
  | succ N ih=>
   intro w a hN l hn hk haD
   obtain⟨y,e,hy,hyD⟩:=up a (hk a l.last) haD
   by_cases hyw:y∈w
   ·exact hno a (hk a l.last) ⟨y,e,l.anc y hyw⟩
   ·refine ih (w++ [y]) y (by rw [List.length_append];simp only [List.length_cons,List.length_nil];omega) (.snoc l e) ?_ (fun z hz=> ?_) hyD
    ·rw [List.nodup_append]
     refine⟨hn,by simp,fun u hu c hc e2=> ?_⟩
     simp at hc;subst hc;subst e2;exact hyw hu
    ·rcases List.mem_append.mp hz with h | h
     ·exact hk z h
     ·simp at h;subst h;exact hy
 exact walk _ [x] x rfl .one (by simp) (fun z hz=>by simp at hz;subst hz;exact hx) hxD
theorem Ri.first {par:Str→Option Str} {r:Str} {L:List Str} (h:Ri par r L):L[0]? =some r∧L.isEmpty=false:=by
 obtain⟨x,t,p,n,e,rfl⟩:=h
 have: ∀l:List Str,Pth par r l→ ∃l',l=l'++ [r]:=by
  intro l p
  induction p with
  | one=>exact⟨[],rfl⟩
  | cons h p ih=>obtain⟨l',e⟩:=ih;exact⟨_::l',by rw [e];rfl⟩
 obtain⟨l',e'⟩:=this _ p
 rw [e']
 simp
theorem Cyc.exists {par:Str→Option Str} (ks:List Str) (hr: ∀x,OnR par x→ ∃L,Ri par x L): ∃res,Cyc par ks res:=by
 induction ks with
 | nil=>exact⟨none,fun x hx=>by cases hx⟩
 | cons x ks ih=>
  by_cases h:OnR par x
  ·obtain⟨L,hL⟩:=hr x h
   exact⟨some L,[],x,ks,rfl,fun y hy=>(by cases hy),hL⟩
  ·obtain⟨res,hc⟩:=ih
   refine⟨res,?_⟩
   cases res with
   | none=>
    intro y hy
    rcases List.mem_cons.mp hy with rfl | hy
    ·exact h
    ·exact hc y hy
   | some L=>
    obtain⟨pre,r,post,e,hp,hr⟩:=hc
    refine⟨x::pre,r,post,by rw [e];rfl,fun y hy=> ?_,hr⟩
    rcases List.mem_cons.mp hy with rfl | hy
    ·exact h
    ·exact hp y hy
end L2
end
section
namespace L2
open Builtin Builtin.Str
local macro_rules | `(tactic| kln_le)=> `(tactic| first
 | (with_reducible assumption)
 | ((with_reducible apply V.Bc)<;>kln_le)
 | ((with_reducible apply V.Bs);kln_le)
 | ((with_reducible apply V.Bm)<;>first | kln_le | omega)
 | ((with_reducible apply V.Bl (x:=Str.ofString _));rfl))
open V (AV AO)
theorem sla {b:Nat} {q:SS} {σ:V.St} {l:V.Loc} {o:AO} (h:l.tag<b):(srt b q σ).set l o=srt b q (σ.set l o):=by
 funext x
 by_cases e:x=l
 ·subst e;rw [V.set_same,srl h,V.set_same]
 ·rw [V.sot e]
  unfold srt
  rw [V.sot e]
theorem gf: ∀x∈goL,V.B x 20∧reprText x=qt x∧PyData.strOk x=true∧(Str.ofString "node '"++x++Str.ofString "' was not passed out (still not ready)"==mSt x)=true∧(Str.ofString "node '"++x++Str.ofString "' was already marked done"==mD x)=true:=by
 unfold V.B
 decide+kernel
theorem d_not:mNot (Str.ofString "/d")=Str.ofString "node '/d' was not added using add()":=by decide+kernel
theorem adl {q:SS} {p g:Str}:(q.add p g).ks.length≤q.ks.length+2:=by
 show((q.ad1 p).ins g).ks.length≤_
 rw [ik]
 have h1:= @aNl (q.ad1 p).ks g
 have h2:= @aNl q.ks p
 have:(q.ad1 p).ks=aN q.ks p:=ik
 rw [this]at h1⊢
 omega
theorem adn {q:SS} {p g:Str} (h:q.ks.Nodup):(q.add p g).ks.Nodup:=ino (q:=q.ad1 p) (ino h)
theorem ard {q:SS} {p g:Str} (h:q.rd=none):(q.add p g).rd=none:=(ir (q:=q.ad1 p)).trans ((ir (q:=q)).trans h)
theorem asu {q:SS} {p g:Str} {N:Nat} (h: ∀x,(q.su x).length+(N+1)≤1000) (x:Str):((q.add p g).su x).length+N≤1000:=by
 have s0: ∀(q:SS) (y:Str),(∀x,(q.su x).length+(N+1)≤1000)→ ∀x,((q.ins y).su x).length+(N+1)≤1000:=fun q y hs x=>by
  unfold SS.ins;split
  ·exact hs x
  ·simp only [upd];split
   ·have:=hs x;simp;omega
   ·exact hs x
 have h1:=s0 (q.ad1 p) g (s0 q p h)
 have e:(q.add p g).su x=if x=g then((q.ad1 p).ins g).su g++ [p]else((q.ad1 p).ins g).su x:=rfl
 rw [e]
 split
 ·have:=h1 g;rw [List.length_append];simp only [List.length_cons,List.length_nil];omega
 ·have:=h1 x;omega
theorem bdo {C:V.Cx} (h:Is C) {k:Nat} {σ:V.St} {b:Nat} {q:SS}:V.Op1 C k (srt b q σ) (fun x=>getAttr x (Str.ofString "done") true) (.loc ⟨b,e0⟩) (fun W r=>V.VR W (.bm 137 ⟨b,e0⟩) r) (srt b q σ):=
 V.Ob h.ok sr0 sr1 (by rw [h.K];kernel_rfl) (by rw [h.K];kernel_rfl) (by rw [h.K];kernel_rfl) (fun xs n=>by revert xs;exact V.le4 fun x0 x1 x2 x3=>by rw [h.K];kernel_rfl)
theorem oov {C:V.Cx} {k:Nat} {sc:Scope} {body:List Stmt} {ms:List (Option AV)} {σ σ₁:V.St} {b:Nat} {q:SS} {x:Bool} (hn: ∀l:V.Loc,b≤l.tag→σ l=none) (h1:V.Go C k sc ms σ₁ body (.ret (.bool x)) (srt b q σ)): ∃f ms' σf,V.Ex C k sc ms σ₁ body f ms' σf∧V.Exit σ σf f (.bool x) σ:=
 V.ogo h1 ⟨fun l o e=>by
  have:l.tag<b:=by
   rcases Nat.lt_or_ge l.tag b with z | z
   ·exact z
   ·rw [hn l z]at e;cases e
  rw [srl this];exact e,fun u z=>z,fun u v z=> .inl z,.inl ⟨rfl,by simp [V.AV.In]⟩⟩
noncomputable def told (L:List (Str×Str)):SS:=L.foldl (fun q p=>q.add p.1 p.2) q0
theorem toa {L:List (Str×Str)} (h:ND L):Told L (told L):=Told.all L [] q0 .start h
noncomputable def drive (st:Int) (q:SS) (rs:List (List Str)):SS:=rs.foldl (fun q g=>(q.out g).don (pick st g)) q
theorem dpa: ∀(xs:List (Str×Str)) (z:SS×Option (Str×Str)),(xs.foldl (fun(a:SS×Option (Str×Str)) r=>(a.1.add r.1 r.2,some r)) z).1=xs.foldl (fun q p=>q.add p.1 p.2) z.1:=by
 intro xs
 induction xs with
 | nil=>intro z;rfl
 | cons x xs ih=>intro z;exact ih _
theorem dpr {st:Int}: ∀(xs:List (List Str)) (w:SS×Option AV),(xs.foldl (fun(a:SS×Option AV) g=>((a.1.out g).don (pick st g),some (AV.lst (g.map .str)))) w).1=drive st w.1 xs:=by
 intro xs
 induction xs with
 | nil=>intro w;rfl
 | cons x xs ih=>intro w;exact ih _
theorem dre {L:List (Str×Str)} {st:Int} (hL:ND L): ∀(xs:List (List Str)) (q:SS) (Dn g:List Str),RS L q Dn g→Rnd L st g xs→q.ks=nO L→ ∃D',RS L (drive st q xs) D' []∧(drive st q xs).ks=nO L:=by
 intro xs
 induction xs with
 | nil=>intro q Dn g R1 RN hk;cases RN;exact⟨Dn,R1,hk⟩
 | cons g xs ih=>
  intro q Dn g' R1 RN hk
  cases RN with
  | cons hne hgz RN'=>exact ih _ (Dn++g) _ (R1.step hL) RN' (((R1.dp (st:=st) hL).all.1.trans oks).trans hk)
theorem gke {C:V.Cx} {k:Nat} {sc:Scope} {ms ms5:List (Option AV)} {τ τ5 σ':V.St} {body rest:List Stmt} {f:V.AF} (pre:V.Go C k sc ms5 τ5 rest f σ'→V.Go C k sc ms τ body f σ') (post:V.Go C k sc ms5 τ5 rest f σ'):V.Go C k sc ms τ body f σ':=pre post
theorem cdr {C:V.Cx} (h:Is C) {k:Nat} {σ:V.St} {L:List (Str×Str)} {D:Nat} {st:Int} {res:Option (List Str)} (hD:σ ⟨D,e0⟩=some (.dict (lk L))) (hL:ND L) (hz:L.length≤400) (hg: ∀x∈nO L,x∈goL) (hst:st=1∨st= -1) (hres:Cyc (pL L) (nO L) res):
  V.Cd C (k+5) σ (.ext 484) [.loc ⟨D,e0⟩,.lst ((nO L).map .str),.lst ((res.getD []).map .str),.int st] [] (.bool true) σ:=by
 have hx0:=h.hx
 refine V.Cnm h.ok ⟨⟨_,_,_,by rw [h.K];exact rfl⟩,rfl,rfl,rfl,rfl,by rw [h.K];rfl,rfl,rfl,by decide+kernel⟩ [(Str.ofString "links",.local),(Str.ofString "named",.local),(Str.ofString "ring",.local),(Str.ofString "step",.local),(Str.ofString "sorter",.local),(Str.ofString "page",.local),(Str.ofString "goal",.local),(Str.ofString "group",.local),(Str.ofString "TopologicalSorter",.globalImplicit),(Str.ofString "CycleError",.globalImplicit),(Str.ofString "_law_refusal",.globalImplicit),(Str.ofString "_law_rounds",.globalImplicit),(Str.ofString "tuple",.globalImplicit)] rfl [(Str.ofString "links",.loc ⟨D,e0⟩),(Str.ofString "named",.lst ((nO L).map .str)),(Str.ofString "ring",.lst ((res.getD []).map .str)),(Str.ofString "step",.int st)] _
  (V.Bp (V.le4 fun a0 a1 a2 a3=>rfl) rfl) rfl rfl fun sc hF n hn=> ?_
 obtain⟨n0,n1,n2,n3,n4,n5,n6,n7,n8,n9,n10,n11,n12,_⟩:=hF
 have hlt:D<n:=by
  rcases Nat.lt_or_ge D n with z | z
  ·exact z
  ·have:=hn ⟨D,e0⟩ z;rw [hD]at this;cases this
 have T:=toa hL
 have hkl:(told L).ks.length≤900:=by
  rw [T.ks]
  have: ∀(xs:List (Str×Str)) (N:List Str),(xs.foldl (fun N p=>aN (aN N p.1) p.2) N).length≤N.length+2 * xs.length:=by
   intro xs
   induction xs with
   | nil=>intro N;exact Nat.le_refl _
   | cons x xs ih=>
    intro N
    have h1:= @aNl N x.1
    have h2:= @aNl (aN N x.1) x.2
    have h3:=ih (aN (aN N x.1) x.2)
    rw [List.foldl_cons,List.length_cons];omega
  have:=this L []
  simp only [List.length_nil]at this
  show(nO L).length≤900
  unfold nO;omega
 have hnl:(nO L).length≤900:=by rw [←T.ks];exact hkl
 have G:=T.gph (by omega:(told L).ks.length≤1000)
 have hres':Cyc (pL L) (told L).ks res:=by rw [T.ks];exact hres
 obtain⟨rs,hR,hrl⟩:=rn (st:=st) hL _ _ _ _ (Nat.le_refl _) (T.rs hkl)
 have hrs:rs.length≤900:=Nat.le_trans hrl (Nat.le_trans (Nat.sub_le _ _) hkl)
 have hD2: ∀{q:SS},srt n q σ ⟨D,e0⟩=some (.dict (lk L)):=fun{q}=>by rw [srl (by exact hlt)];exact hD
 have mk:=V.Cm h.ok (k:=k+3) (c:=154) (fi:=90) (kw:= []) (as:= []) (l:=⟨n,e0⟩) (d:=⟨n+1,e0⟩) (by rw [h.K];kernel_rfl) (by rw [h.K];kernel_rfl) (by rw [h.K];kernel_rfl) (hn _ (Nat.le_refl _)) (hn _ (by simp)) (by simp) (c_ts h (k:=k+2) (σ:=σ) (b:=n) (hn _ (by simp)))
 have clm: ∀cnt,Cl n (σ.set ⟨D,e0⟩ (.map (lk L) cnt)):=fun cnt l hl=>by
  rw [V.sot (fun e=>by rw [e]at hl;exact absurd hl (Nat.not_le_of_lt hlt))];exact hn l hl
 refine oov (q:=(drive st (told L).prep rs).out []) hn ?_
 have adds:=fun(cnt:Nat) (tgt:Expr) (body:List Stmt) hturn=>V.LPf (C:=C) (k:=k+4) (sc:=sc) (ok:=fun σ'=>σ' ⟨D,e0⟩=some (.map (lk L) cnt)) (tgt:=tgt) (body:=body) (enc:=fun p:Str×Str=>AV.tup [.str p.1,.str p.2])
  (M:=fun(a:SS×Option (Str×Str))=> [some (.loc ⟨D,e0⟩),some (.lst ((nO L).map .str)),some (.lst ((res.getD []).map .str)),some (.int st),some (.loc ⟨n,e0⟩),a.2.map fun r=> .str r.1,a.2.map fun r=> .str r.2,none,none,none,none,none,none])
  (Sg:=fun a=>srt n a.1 (σ.set ⟨D,e0⟩ (.map (lk L) cnt))) (step:=fun a r=>(a.1.add r.1 r.2,some r)) (P:=fun a xs=>a.1.ks.Nodup∧a.1.ks.length+2 * xs.length≤900∧a.1.rd=none∧ ∀x,(a.1.su x).length+xs.length≤1000)
  (fun u v w=>by rw [srl (by exact hlt),V.set_same]) (fun a x xs hP=>by
   obtain⟨p1,p2,p3,p4⟩:=hP
   refine⟨adn p1,?_,ard p3,asu (by simpa only [List.length_cons]using p4)⟩
   have:= @adl a.1 x.1 x.2
   show(a.1.add x.1 x.2).ks.length+2 * xs.length≤900
   simp only [List.length_cons]at p2;omega) hturn L (q0,none) ⟨List.nodup_nil,by show 0+2 * L.length≤900;omega,rfl,fun x=>by show 0+L.length≤1000;omega⟩
 simp only [dpa]at adds
 obtain⟨z,hz2⟩: ∃z:Option (Str×Str),z=(L.foldl (fun(a:SS×Option (Str×Str)) r=>(a.1.add r.1 r.2,some r)) (q0,none)).2:=⟨_,rfl⟩
 rw [←hz2]at adds
 have ev:(lk L).map (fun p=>AV.tup [.str p.1,p.2])=L.map fun p=>AV.tup [.str p.1,.str p.2]:=by unfold lk;rw [List.map_map];rfl
 refine V.Gco (V.X1A (V.ECa (V.EGl h.ok n8 (gTS h)) V.En (KX h rfl) mk (fun u=>rfl) (fun u=>rfl)) (V.AL' n4 rfl) (fun u=>rfl) (fun u=>rfl) (fun u=>rfl)) ?_
 refine V.Gco (ms₁:= [some (.loc ⟨D,e0⟩),some (.lst ((nO L).map .str)),some (.lst ((res.getD []).map .str)),some (.int st),some (.loc ⟨n,e0⟩),z.map fun r=> .str r.1,z.map fun r=> .str r.2,none,none,none,none,none,none]) (V.Tc (σ':=srt n (told L) σ) (l:=⟨D,e0⟩) hD2 hD2 (fun cnt=> ?_)) ?_
 ·have I:=V.Ii (C:=C) (k:=k+4) (l:=⟨D,e0⟩) (n:=cnt) (es:=lk L) hL.dn hx0
  rw [ev]at I
  rw [sla (by exact hlt),sla (by exact hlt)]
  have hm: ∀q,srt n q (σ.set ⟨D,e0⟩ (.map (lk L) cnt)) ⟨D,e0⟩=some (.map (lk L) cnt):=fun q=>by rw [srl (by exact hlt),V.set_same]
  refine V.X1F (V.EMC (V.ELo n0 rfl) (V.Mdi (.inr ⟨cnt,hm _⟩)) V.En V.Kbi (V.Cdi (.inr ⟨cnt,hm _⟩) hL.dn) (fun u v=>rfl) (fun u=>rfl) rfl (fun u=>rfl)) I (hm _) (adds cnt _ _ ?_) (fun u v=>rfl)
  rintro ⟨a,o⟩ r xs ⟨p1,p2,p3,p4⟩
  refine⟨_,_,(V.ATu (V.Ac (V.AL' n5 rfl) (V.Ac (V.AL' n6 rfl) V.An (fun u=>rfl)) (fun u=>rfl)) rfl (fun u=>rfl) (fun u=>rfl)),?_⟩
  exact V.Eca (V.X1E (V.EMC (V.ELo n4 rfl) (m_add h sr0 sr1) (V.Eco (V.ELo n5 rfl) (V.Eco (V.ELo n6 rfl) V.En (fun u=>rfl)) (fun u=>rfl)) (KX h rfl) (V.Cd.ca (c_add (q:=a) h (clm cnt) p1 (by have:a.ks.length+2 * (r::xs).length≤900:=p2;omega) p3 (fun x=>by have:(a.su x).length+(r::xs).length≤1000:=p4 x;omega))) (fun u v=>rfl) (fun u=>rfl) rfl (fun u=>rfl)) (fun u v=>rfl)) V.Eni
 refine gke (rest:= ?r1) (ms5:= [some (.loc ⟨D,e0⟩),some (.lst ((nO L).map .str)),some (.lst ((res.getD []).map .str)),some (.int st),some (.loc ⟨n,e0⟩),z.map fun r=> .str r.1,z.map fun r=> .str r.2,none,none,none,none,none,none]) (τ5:=srt n (told L).prep σ) (fun hh=> ?_) ?_
 rotate_left
 ·rcases res with _ | RL
  ·refine V.GF (V.TCo (c:=false) (V.EMC (V.ELo n4 rfl) (mfc h sr0 sr1) V.En (KX h rfl) (V.Cd.ca (cfc h G hres')) (fun u v=>rfl) (fun u=>rfl) rfl (fun u=>rfl)) (V.EOp (V.Bor (V.ELo n2 rfl) (V.Ltr (.lst _) (Nat.zero_le _) rfl) (V.Bla V.ENo))) (V.NEs (d:= .none) V.Rno V.Rno rfl (by decide)) rfl) ?_
   refine V.Gco (V.X1T (V.EIF (V.TBO (V.TOo (V.TCo (c:=false) (V.EMC (V.ELo n4 rfl) (mpa h sr0 sr1) V.En (KX h rfl) (V.Cd.ca (cpr h G hn T.rd hres')) (fun u v=>rfl) (fun u=>rfl) rfl (fun u=>rfl)) V.ENo (V.ni V.nno) rfl) (V.TOo (V.Tva (b:=false) (V.ELo n2 rfl) (V.Ltr (.lst _) (Nat.zero_le _) rfl) (fun u v=>rfl)) V.Tn))) V.Eni)) ?_
   refine V.GF (V.TBO (V.TAs (V.Tva (b:=false) (V.ELo n2 rfl) (V.Ltr (.lst _) (Nat.zero_le _) rfl) (fun u v=>rfl)))) ?_
   exact hh
  ·have hdf:(AV.lst (RL.map .str))= .lst ((some RL |>.getD []).map .str):=rfl
   obtain⟨pre,r,post,epre,hpre,hring⟩:=hres
   obtain⟨hf0,hfe⟩:=hring.first
   have hrn:r∈nO L:=by rw [epre];simp
   have hrk:r∈(told L).ks:=by rw [T.ks];exact hrn
   obtain⟨f1,f2,f3,f4,f5⟩:=gf r (hg r hrn)
   have hRz:RL.length≤1000∧ ∀x∈RL,PyData.strOk x=true:=by
    obtain⟨x,t,p,nd,e,rfl⟩:=hring
    have sub: ∀y∈x::t,y∈nO L:=by
     have key: ∀(l:List Str),Pth (pL L) r l→ ∀y∈l,y∈(told L).ks:=by
      intro l pl
      induction pl with
      | one=>intro y hy;simp at hy;subst hy;exact hrk
      | cons hp pl ih=>
       intro y hy
       rcases List.mem_cons.mp hy with rfl | hy
       ·exact(T.key _ _ hp).1
       ·exact ih y hy
     intro y hy;rw [←T.ks];exact key _ p y hy
    have:=List.Nodup.length_le_of_subset nd sub
    refine⟨by simp only [List.length_append,List.length_reverse,List.length_cons,List.length_nil]at this⊢;omega,fun y hy=> ?_⟩
    rcases List.mem_append.mp hy with hy | hy
    ·exact(gf y (hg y (sub y (List.mem_reverse.mp hy)))).2.2.1
    ·simp at hy;subst hy;exact f3
   have Rz:(RL.map AV.str).length≤sizeLine:=V.lof (m:=1000) (by rw [List.length_map];exact hRz.1) (by decide)
   have Re:(!(RL.map AV.str).isEmpty)=true:=by rw [List.isEmpty_map,hfe];rfl
   have gC:V.Glob C (Str.ofString "CycleError") (.ext 72):=gCE h
   refine V.GF (V.TCo (c:=false) (V.EMC (V.ELo n4 rfl) (mfc h sr0 sr1) V.En (KX h rfl) (V.Cd.ca (cfc h G hres')) (fun u v=>rfl) (fun u=>rfl) rfl (fun u=>rfl)) (V.EOp (V.Bo (V.ELo n2 rfl) (V.Ltr (.lst _) Rz Re))) (V.NEs (d:= .list (RL.map .str)) (V.Rli (.lst _) (V.Rst RL)) (V.Rli (.lst _) (V.Rst RL)) (V.sca RL hRz.2) (by show PyData.depthAll _+1≤9;rw [V.sde];decide)) rfl) ?_
   refine V.Gco (V.X1C (V.Rx (V.RIT (V.ROF (V.RC (V.RM (V.ELo n4 rfl) (mpa h sr0 sr1) V.En (KX h rfl) (x_prep h G hn T.rd hres' hfe hRz.1) (fun u v=>rfl) (fun u=>rfl) rfl (fun u=>rfl)) rfl)))) (by intro z;cases z) (V.EGl h.ok.h n9 gC) (V.Mx_sub h.ok (e72 h) (by decide)) (V.EIF (V.TNo (b:=true) (V.Tva (b:=true) (V.ELo n2 rfl) (V.Ltr (.lst _) Rz Re) (fun u v=>rfl))) V.Eni)) ?_
   have cx:=xst h (k:=k) (σ:=σ) (b:=n) (q:=(told L).prep) (x:=r) (r:=g0O L (told L).ks) T.prep T.nd f1 f2 hrk (by
    show 0≤(told L).np r
    rw [T.np r hrk];split<;>decide)
   have f6:(mSt r !=Str.ofString "node '"++r++Str.ofString "' was not passed out (still not ready)")=false:=by rw [beq_iff_eq]at f4;rw [←f4];simp
   refine V.GF (V.TBO (V.TAo (V.Tva (b:=true) (V.ELo n2 rfl) (V.Ltr (.lst _) Rz Re) (fun u v=>rfl)) (V.TAs (V.TCo (c:=false) (V.ECa (V.EGl h.ok n10 (gr h)) (V.Eco (V.ELo n4 rfl) (V.Eco (V.ESu (V.ELo n2 rfl) V.EIn (V.BL (.lst _)) (V.Lia (.lst _) (by decide) (by decide) (by rw [List.getElem?_map];exact congrArg (Option.map AV.str) hf0))) V.En (fun u=>rfl)) (fun u=>rfl)) (KX h rfl) (V.Cd.ca (cre h cx)) (fun u=>rfl) (fun u=>rfl)) (V.EBO (V.EBO V.ESt (V.ESu (V.ELo n2 rfl) V.EIn (V.BL (.lst _)) (V.Lia (.lst _) (by decide) (by decide) (by rw [List.getElem?_map];exact congrArg (Option.map AV.str) hf0))) (V.sa' (by kln_le) (by kln_le) (by decide))) V.ESt (V.sa' (by kln_le) (by kln_le) (by decide))) (V.sne f6) rfl)))) ?_
   exact hh
 have turns:=fun(tgt:Expr) (body:List Stmt) hturn=>V.Lf (C:=C) (k:=k+4) (sc:=sc) (ok:=fun u=>True) (tgt:=tgt) (body:=body) (enc:=fun g:List Str=>AV.lst (g.map .str))
  (M:=fun(a:SS×Option AV)=> [some (.loc ⟨D,e0⟩),some (.lst ((nO L).map .str)),some (.lst ((res.getD []).map .str)),some (.int st),some (.loc ⟨n,e0⟩),z.map fun r=> .str r.1,z.map fun r=> .str r.2,a.2,none,none,none,none,none])
  (Sg:=fun a=>srt n a.1 σ) (step:=fun a g=>((a.1.out g).don (pick st g),some (.lst (g.map .str)))) (P:=fun a xs=>a.1.ks=nO L∧ ∃Dn g,RS L a.1 Dn g∧Rnd L st g xs)
  (fun u v w=>trivial) (fun a g xs hP=>by
   obtain⟨hk,Dn,g',R1,RN⟩:=hP
   cases RN with
   | cons hne hgz RN'=>exact⟨((R1.dp (st:=st) hL).all.1.trans oks).trans hk,Dn++g,_,R1.step hL,RN'⟩) hturn rs ((told L).prep,none) ⟨T.ks,[],g0O L (told L).ks,T.rs hkl,hR⟩
 simp only [dpr]at turns
 refine V.GFo (V.ECa (V.EGl h.ok n11 (glr h)) (V.Eco (V.ELo n0 rfl) (V.Eco (V.ELo n1 rfl) (V.Eco (V.ELo n3 rfl) V.En (fun u=>rfl)) (fun u=>rfl)) (fun u=>rfl)) (KX h rfl) (V.Cd.ca (cro h hD2 hL (by omega) (by omega) hst (by rw [←T.ks];exact hR) (by omega))) (fun u=>rfl) (fun u=>rfl)) (V.Ils hx0) trivial (turns _ _ ?_) (fun u v=>rfl) ?_
 ·rintro ⟨a,o⟩ g xs hP
  obtain⟨hk,hP⟩:=hP
  have hk:a.ks=nO L:=hk
  have hP: ∃Dn g',RS L a Dn g'∧Rnd L st g' (g::xs):=hP
  obtain⟨Dn,g0,RS1,RN⟩:=hP
  cases RN with
  | cons hne hgz RN'=>
  have gl:g.length≤1000:=hgz
  have gz:(g.map AV.str).length≤sizeLine:=V.lof (m:=1000) (by rw [List.length_map];exact gl) (by decide)
  have gs: ∀x∈g,PyData.strOk x=true:=fun x hx=>(gf x (hg x (by have:=RS1.gk x hx;rw [hk]at this;exact this))).2.2.1
  have ge:g.isEmpty=false:=by cases g with | nil=>exact absurd rfl hne | cons=>rfl
  have po:decide ((a.out g).nf<(a.out g).po)=true:=by
   rw [onf]
   show decide (a.nf<a.po+g.length)=true
   have:=RS1.pn
   have:0<g.length:=List.length_pos_iff.mpr hne
   rw [decide_eq_true_eq];omega
  refine V.Tu (V.AL' n7 rfl) ?_
  refine V.EIF (V.TBO (V.TOo (V.TCo (c:=false) (V.EMC (V.ELo n4 rfl) (mia h sr0 sr1) V.En (KX h rfl) (V.Cd.ca (cac h RS1.rd gl)) (fun u v=>rfl) (fun u=>rfl) rfl (fun u=>rfl)) V.EBo (V.bN (by rw [ge];simp)) rfl) (V.TOo (V.TCo (c:=false) (V.EMC (V.ELo n4 rfl) (mgr h sr0 sr1) V.En (KX h rfl) (V.Cd.ca (cra h RS1.rd gl RS1.nd RS1.gk)) (fun u v=>rfl) (fun u=>rfl) rfl (fun u=>rfl)) (V.ECa (V.EGl h.ok n12 (gtu h)) (V.Eco (V.ELo n7 rfl) V.En (fun u=>rfl)) V.Kty (V.CtO (.lst _) gz) (fun u=>rfl) (fun u=>rfl)) (V.NEs (d:= .tuple (g.map .str)) (V.Rtu (V.Rst g)) (V.Rtu (V.Rst g)) (V.sca g gs) (by show PyData.depthAll _+1≤9;rw [V.sde];decide)) rfl) V.Tn))) ?_
  refine V.EIF (V.TBO (V.TOo (V.TCo (c:=false) (V.EMC (V.ELo n4 rfl) (mia h sr0 sr1) V.En (KX h rfl) (V.Cd.ca (cac h (r:= []) rfl (Nat.zero_le _))) (fun u v=>rfl) (fun u=>rfl) rfl (fun u=>rfl)) V.EBo (V.bN (by rw [po];rfl)) rfl) (V.TOo (V.TCo (c:=false) (V.EBS (V.ELo n4 rfl) (bdo h) (V.ESu (V.ELo n7 rfl) (V.ESl V.Pn V.Pn (V.Pso (V.ELo n3 rfl))) (V.BL (.lst _)) (V.Ls (.lst _) .none .none (V.PtI.int _) (by rcases hst with rfl | rfl<;>decide) gz (lps hst g))) (.lst _) (V.lof (m:=1000) (by rw [List.length_map,ple];exact gl) (by decide)) (V.Kp_bm h.ok ⟨_,_,_,_,by rw [h.K];exact rfl⟩) (V.Ca_bm (cdo h (RS1.dp hL) (by rw [ple];exact gl))) (fun u v=>rfl) (fun u=>rfl) (fun u=>rfl)) V.ENo (V.ni V.nno) rfl) V.Tn))) ?_
  exact V.Eni
 have hend:=dre (st:=st) hL
 obtain⟨DE,RE,kE⟩:=hend rs (told L).prep [] _ (T.rs hkl) hR T.ks
 refine V.GF (V.TBO (V.TOo (V.TCo (c:=false) (V.EMC (V.ELo n4 rfl) (mia h sr0 sr1) V.En (KX h rfl) (V.Cd.ca (cac h RE.rd (Nat.zero_le _))) (fun u v=>rfl) (fun u=>rfl) rfl (fun u=>rfl)) V.EBo (V.bN (by rw [RE.pn];simp)) rfl) (V.TOo (V.TCo (c:=false) (V.EMC (V.ELo n4 rfl) (mgr h sr0 sr1) V.En (KX h rfl) (V.Cd.ca (cra h RE.rd (Nat.zero_le _) RE.nd RE.gk)) (fun u v=>rfl) (fun u=>rfl) rfl (fun u=>rfl)) (V.ETu V.En (Nat.zero_le _)) (V.NEs (d:= .tuple []) (V.Rtu V.Rn) (V.Rtu V.Rn) rfl (by decide)) rfl) V.Tn))) ?_
 rcases res with _ | RL
 ·refine V.GF (V.Tva (b:=false) (V.ELo n2 rfl) (V.Ltr (.lst _) (Nat.zero_le _) rfl) (fun u v=>rfl)) ?_
  have alld:=RE.all (by rw [kE];exact hres)
  rcases eq:nO L with _ | ⟨y,ys'⟩
  ·refine V.GF (V.Tva (b:=false) (V.ELo n1 rfl) (V.Ltr (.lst _) (Nat.zero_le _) rfl) (fun u v=>rfl)) ?_
   have cx:=x_not h (k:=k) (σ:=σ) (b:=n) (q:=(drive st (told L).prep rs).out []) (x:=Str.ofString "/d") (r:= []) rfl (by rw [oks];exact RE.nd) (gf _ (by decide)).1 (gf _ (by decide)).2.1 (by rw [oks,kE,eq];exact fun z=>by cases z)
   rw [d_not]at cx
   exact V.Gre (V.ECo (V.ECa (V.EGl h.ok n10 (gr h)) (V.Eco (V.ELo n4 rfl) (V.Eco V.ESt V.En (fun u=>rfl)) (fun u=>rfl)) (KX h rfl) (V.Cd.ca (cre h cx)) (fun u=>rfl) (fun u=>rfl)) V.ESt (V.s_eq (by simp)) rfl)
  ·have hne2:nO L≠ []:=by rw [eq];exact fun z=>by cases z
   rw [←eq]
   obtain⟨ys,x,hys⟩: ∃ys x,nO L=ys++ [x]:=⟨_,_,(List.dropLast_concat_getLast hne2).symm⟩
   have hxn:x∈nO L:=by rw [hys];simp
   obtain⟨f1,f2,f3,f4,f5⟩:=gf x (hg x hxn)
   have hxk:x∈(drive st (told L).prep rs).ks:=by rw [kE];exact hxn
   have cx:=xd h (k:=k) (σ:=σ) (b:=n) (q:=(drive st (told L).prep rs).out []) (x:=x) (r:= []) rfl (by rw [oks];exact RE.nd) f1 f2 (by rw [oks];exact hxk) (by rw [onp,if_neg (by simp),RE.np x hxk,if_pos (alld x hxk)])
   have f6:(mD x==Str.ofString "node '"++x++Str.ofString "' was already marked done")=true:=by rw [beq_iff_eq]at f5⊢;exact f5.symm
   refine V.GoT (V.Tva (b:=true) (V.ELo n1 rfl) (V.Ltr (.lst _) (V.lof (m:=900) (by rw [List.length_map];exact hnl) (by decide)) (by rw [hys];simp)) (fun u v=>rfl)) ?_
   exact V.Gre (V.ECo (V.ECa (V.EGl h.ok n10 (gr h)) (V.Eco (V.ELo n4 rfl) (V.Eco (V.ESu (V.ELo n1 rfl) (V.EUO V.EIn V.ina) (V.BL (.lst _)) (V.Li (x:= .str x) (.lst _) (by decide) (by rw [hys];simp<;>omega) (by decide) (by rw [hys,List.map_append];exact V.lai))) V.En (fun u=>rfl)) (fun u=>rfl)) (KX h rfl) (V.Cd.ca (cre h cx)) (fun u=>rfl) (fun u=>rfl)) (V.EBO (V.EBO V.ESt (V.ESu (V.ELo n1 rfl) (V.EUO V.EIn V.ina) (V.BL (.lst _)) (V.Li (x:= .str x) (.lst _) (by decide) (by rw [hys];simp<;>omega) (by decide) (by rw [hys,List.map_append];exact V.lai))) (V.sa' (by kln_le) (by kln_le) (by decide))) V.ESt (V.sa' (by kln_le) (by kln_le) (by decide))) (V.s_eq f6) rfl)
 ·obtain⟨pre,r,post,epre,hpre,hring⟩:=hres
  obtain⟨hf0,hfe⟩:=hring.first
  have hrn:r∈nO L:=by rw [epre];simp
  have hrk:r∈(told L).ks:=by rw [T.ks];exact hrn
  obtain⟨f1,f2,f3,f4,f5⟩:=gf r (hg r hrn)
  have hRz:RL.length≤1000∧ ∀x∈RL,PyData.strOk x=true:=by
   obtain⟨x,t,p,nd,e,rfl⟩:=hring
   have sub: ∀y∈x::t,y∈nO L:=by
    have key: ∀(l:List Str),Pth (pL L) r l→ ∀y∈l,y∈(told L).ks:=by
     intro l pl
     induction pl with
     | one=>intro y hy;simp at hy;subst hy;exact hrk
     | cons hp pl ih=>
      intro y hy
      rcases List.mem_cons.mp hy with rfl | hy
      ·exact(T.key _ _ hp).1
      ·exact ih y hy
    intro y hy;rw [←T.ks];exact key _ p y hy
   have:=List.Nodup.length_le_of_subset nd sub
   refine⟨by simp only [List.length_append,List.length_reverse,List.length_cons,List.length_nil]at this⊢;omega,fun y hy=> ?_⟩
   rcases List.mem_append.mp hy with hy | hy
   ·exact(gf y (hg y (sub y (List.mem_reverse.mp hy)))).2.2.1
   ·simp at hy;subst hy;exact f3
  have Rz:(RL.map AV.str).length≤sizeLine:=V.lof (m:=1000) (by rw [List.length_map];exact hRz.1) (by decide)
  have Re:(!(RL.map AV.str).isEmpty)=true:=by rw [List.isEmpty_map,hfe];rfl
  refine V.GoT (V.Tva (b:=true) (V.ELo n2 rfl) (V.Ltr (.lst _) Rz Re) (fun u v=>rfl)) ?_
  exact V.Gre V.EBo
end L2
end
section
namespace L2
noncomputable def upD:Str:=Str.ofString "/d"
noncomputable def tG (p:Str):List (Str×Str):=(goL.flatMap fun g=>([0,1,2]:List Nat).flatMap fun f=> [(textOf p g f,g),(Txt.upper (textOf p g f),g)])++ [(upD,upD)]
noncomputable def tC (y:Str):Bool:=decide (y.length≤100) && y.cps.all V.okC && PyData.strOk y
noncomputable def jC (j g:Str):Bool:=((j.length:Int) !=0) && !(c1 j) && c2 j && decide (j.length≤400) && (Txt.lower (noL j)==g)
noncomputable def rC (d y g:Str):Bool:=tC y && jC (jo d y) g
noncomputable def rAl (p d:Str):Bool:=goL.all fun g=>([1,2]:List Nat).all fun f=>(fun t=>rC d t g && rC d (Txt.upper t) g) (textOf p g f)
noncomputable def aC (y g:Str):Bool:=tC y && Txt.startswith y (Str.ofString "/") && jC y g
noncomputable def aA:Bool:=(goL.all fun g=>aC (Str.ofString "/.."++g) g && aC (Txt.upper (Str.ofString "/.."++g)) g) && aC upD upD
theorem aa:aA=true:=by decide+kernel
noncomputable def pA:Str:=Str.ofString "/a"
noncomputable def pAB:Str:=Str.ofString "/a/b"
noncomputable def pB:Str:=Str.ofString "/b"
noncomputable def pBC:Str:=Str.ofString "/b/c"
noncomputable def pCA:Str:=Str.ofString "/c/a"
noncomputable def dR:Str:=Str.ofString "/"
noncomputable def dA:Str:=Str.ofString "/A"
noncomputable def dB:Str:=Str.ofString "/B"
noncomputable def dC:Str:=Str.ofString "/C"
noncomputable def dc:Str:=Str.ofString "/c"
theorem rel1:rAl pA dR=true:=by decide+kernel
theorem rel2:rAl pAB pA=true:=by decide+kernel
theorem rel3:rAl pAB dA=true:=by decide+kernel
theorem rel4:rAl pB dR=true:=by decide+kernel
theorem rel5:rAl pBC pB=true:=by decide+kernel
theorem rel6:rAl pBC dB=true:=by decide+kernel
theorem rel7:rAl pCA dc=true:=by decide+kernel
theorem rel8:rAl pCA dC=true:=by decide+kernel
noncomputable def hChk (p x:Str):Bool:=decide (x.length≤100) && x.cps.all V.okC && (Txt.lower x==p) && PyData.strOk x && !(Builtin.Str.tooLong (Txt.upper p).length)
theorem naa:(paL.all fun p=>hChk p p && hChk p (Txt.upper p))=true:=by decide+kernel
theorem gal:(goL.all fun g=>decide (g.length≤100))=true:=by decide+kernel
theorem dal:(di pA==dR && di (Txt.upper pA)==dR && di pAB==pA && di (Txt.upper pAB)==dA && di pB==dR && di (Txt.upper pB)==dR && di pBC==pB && di (Txt.upper pBC)==dB && di pCA==dc && di (Txt.upper pCA)==dC)=true:=by decide+kernel
theorem dle:(dR.length≤100∧pA.length≤100∧dA.length≤100∧pB.length≤100∧dB.length≤100∧dc.length≤100∧dC.length≤100):=by decide+kernel
end L2
end
section
namespace L2
theorem tOk {y:Str} (h:tC y=true):TOk y∧PyData.strOk y=true:=by
 unfold tC at h
 simp only [Bool.and_eq_true,decide_eq_true_eq]at h
 exact⟨⟨by omega,h.1.2⟩,h.2⟩
theorem jOk {x y j g:Str} (e:jo (di x) y=j) (hx:x.length≤100) (hy:tC y=true) (hd:(di x).length≤100) (hg:g.length≤100) (h:jC j g=true):POk x y∧gO x y=g:=by
 unfold jC at h
 simp only [Bool.and_eq_true,decide_eq_true_eq,Bool.not_eq_true',beq_iff_eq]at h
 obtain⟨⟨⟨⟨h1,h2⟩,h3⟩,h4⟩,h5⟩:=h
 have hg':gO x y=g:=by unfold gO;rw [e];exact h5
 have hy':=(tOk hy).1.len
 subst e
 exact⟨⟨by unfold V.B;omega,by unfold V.B;omega,by unfold V.B;omega,by unfold V.B;omega,h1,h2,h3,by rw [hg'];exact short (by omega)⟩,hg'⟩
theorem gol {g:Str} (h:g∈goL):g.length≤100:=by
 have:=gal
 rw [List.all_eq_true]at this
 simpa using this g h
theorem jab {a y:Str} (h:Txt.startswith y (Str.ofString "/")=true):jo a y=y:=by unfold jo;rw [if_pos h]
theorem pfa {p:Str} (hp:p∈paL): ∀x,(x=p∨x=Txt.upper p)→x.length≤100∧HOk x∧Txt.lower x=p∧PyData.strOk x=true∧Builtin.Str.tooLong (Txt.upper p).length=false:=by
 have h:=naa
 rw [List.all_eq_true]at h
 have h:=h p hp
 rw [Bool.and_eq_true]at h
 obtain⟨h1,h2⟩:=h
 unfold hChk at h1 h2
 simp only [Bool.and_eq_true,decide_eq_true_eq,Bool.not_eq_true',beq_iff_eq]at h1 h2
 intro x hx
 rcases hx with rfl | rfl
 ·exact⟨h1.1.1.1.1,⟨by omega,h1.1.1.1.2,by rw [h1.1.1.2];omega,by rw [h1.1.1.2];exact h1.1.1.1.2⟩,h1.1.1.2,h1.1.2,h1.2⟩
 ·exact⟨h2.1.1.1.1,⟨by omega,h2.1.1.1.2,by rw [h2.1.1.2];omega,by rw [h2.1.1.2];exact h1.1.1.1.2⟩,h2.1.1.2,h2.1.2,h2.2⟩
theorem ral {p d g:Str} {f:Nat} (h:rAl p d=true) (hg:g∈goL) (hf:f=1∨f=2):rC d (textOf p g f) g=true∧rC d (Txt.upper (textOf p g f)) g=true:=by
 unfold rAl at h
 rw [List.all_eq_true]at h
 have h:=h g hg
 rw [List.all_eq_true]at h
 have h:=h f (by rcases hf with rfl | rfl<;>simp)
 rwa [Bool.and_eq_true]at h
theorem ao {g:Str} (hg:g∈goL):aC (Str.ofString "/.."++g) g=true∧aC (Txt.upper (Str.ofString "/.."++g)) g=true:=by
 have h:=aa
 unfold aA at h
 rw [Bool.and_eq_true,List.all_eq_true]at h
 have h:=h.1 g hg
 rwa [Bool.and_eq_true]at h
theorem abs_d:aC upD upD=true:=by
 have h:=aa
 unfold aA at h
 rw [Bool.and_eq_true]at h
 exact h.2
theorem uD:upD∈goL:=by decide+kernel
theorem text0 {p g:Str}:textOf p g 0=Str.ofString "/.."++g:=by
 unfold textOf lTe
 exact if_pos rfl
theorem dirs {p:Str} (hp:p∈paL): ∀x,(x=p∨x=Txt.upper p)→(di x).length≤100∧rAl p (di x)=true:=by
 have h:=dal
 simp only [Bool.and_eq_true,beq_iff_eq]at h
 obtain⟨⟨⟨⟨⟨⟨⟨⟨⟨a1,a2⟩,a3⟩,a4⟩,a5⟩,a6⟩,a7⟩,a8⟩,a9⟩,a10⟩:=h
 obtain⟨l1,l2,l3,l4,l5,l6,l7⟩:=dle
 have hp:p=pA∨p=pAB∨p=pB∨p=pBC∨p=pCA:=by
  unfold paL at hp
  simp only [List.mem_cons,List.not_mem_nil,or_false]at hp
  exact hp
 intro x hx
 rcases hp with rfl | rfl | rfl | rfl | rfl<;>rcases hx with rfl | rfl
 ·rw [a1];exact⟨l1,rel1⟩
 ·rw [a2];exact⟨l1,rel1⟩
 ·rw [a3];exact⟨l2,rel2⟩
 ·rw [a4];exact⟨l3,rel3⟩
 ·rw [a5];exact⟨l1,rel4⟩
 ·rw [a6];exact⟨l1,rel4⟩
 ·rw [a7];exact⟨l4,rel5⟩
 ·rw [a8];exact⟨l5,rel6⟩
 ·rw [a9];exact⟨l6,rel7⟩
 ·rw [a10];exact⟨l7,rel8⟩
theorem paf {p x y g:Str} (hp:p∈paL) (hx:x=p∨x=Txt.upper p) (h:(y,g)∈tG p):POk x y∧gO x y=g∧TOk y∧PyData.strOk y=true∧g∈goL:=by
 obtain⟨xl,_⟩:=pfa hp x hx
 obtain⟨dl,dr⟩:=dirs hp x hx
 have ab: ∀{y g:Str},g∈goL→aC y g=true→POk x y∧gO x y=g∧TOk y∧PyData.strOk y=true∧g∈goL:=by
  intro y g hg h
  unfold aC at h
  simp only [Bool.and_eq_true]at h
  obtain⟨⟨h1,h2⟩,h3⟩:=h
  have:=jOk (jab h2) xl h1 dl (gol hg) h3
  exact⟨this.1,this.2,(tOk h1).1,(tOk h1).2,hg⟩
 have re: ∀{y g:Str},g∈goL→rC (di x) y g=true→POk x y∧gO x y=g∧TOk y∧PyData.strOk y=true∧g∈goL:=by
  intro y g hg h
  unfold rC at h
  rw [Bool.and_eq_true]at h
  have:=jOk rfl xl h.1 dl (gol hg) h.2
  exact⟨this.1,this.2,(tOk h.1).1,(tOk h.1).2,hg⟩
 rcases List.mem_append.mp h with h | h
 ·obtain⟨g',hg,h⟩:=List.mem_flatMap.mp h
  obtain⟨f,hf,h⟩:=List.mem_flatMap.mp h
  simp only [List.mem_cons,List.not_mem_nil,or_false,Prod.mk.injEq]at h hf
  rcases hf with rfl | hf
  ·have ha:=ao hg
   rw [←text0 (p:=p)]at ha
   rcases h with⟨rfl,rfl⟩ | ⟨rfl,rfl⟩
   ·exact ab hg ha.1
   ·exact ab hg ha.2
  ·have hr:=ral dr hg hf
   rcases h with⟨rfl,rfl⟩ | ⟨rfl,rfl⟩
   ·exact re hg hr.1
   ·exact re hg hr.2
 ·simp only [List.mem_cons,List.not_mem_nil,or_false,Prod.mk.injEq]at h
  obtain⟨rfl,rfl⟩:=h
  exact ab uD abs_d
structure RoO (r:Row):Prop where
 page:r.page∈paL
 name:r.name=r.page∨r.name=Txt.upper r.page
 text:(r.text,r.goal)∈tG r.page
theorem mRo (n:Int):RoO (mR n):=by
 refine⟨(pai n).2,?_,?_⟩
 ·show(if _ then _ else _)=_∨(if _ then _ else _)=_
  split
  ·exact .inr rfl
  ·exact .inl rfl
 ·obtain⟨f,hf,e⟩:=lTm (pAt n) (gA n) (n.fdiv 70)
  show((if _ then _ else _),gA n)∈tG (pAt n)
  rw [e]
  refine List.mem_append.mpr (.inl (List.mem_flatMap.mpr ⟨gA n,(gin n).2,List.mem_flatMap.mpr ⟨f,?_,?_⟩⟩))
  ·have:f=0∨f=1∨f=2:=by omega
   rcases this with rfl | rfl | rfl<;>simp
  ·split<;>simp
noncomputable def ROk (rs:List Row):Prop:= ∀r∈rs,RoO r
noncomputable def hsO (rs:List Row):List (Str×Str):=rs.map fun r=>(r.name,r.text)
theorem RoO.low {r:Row} (h:RoO r):Txt.lower r.name=r.page:=(pfa h.page r.name h.name).2.2.1
theorem lOs {rs:List Row} {r:Row}:lO (rs++ [r])=aL (lO rs) r.page r.goal:=by unfold lO;rw [List.foldl_append];rfl
theorem aLp {L:List (Str×Str)} {x y z:Str}:pL (aL L x y) z=(pL L z).or (if x=z then some y else none):=by
 unfold aL
 split
 ·rename_i h
  by_cases e:x=z
  ·subst e
   obtain⟨v,hv⟩:=Option.isSome_iff_exists.mp h
   rw [hv];rfl
  ·rw [if_neg e];cases pL L z<;>rfl
 ·rename_i h
  have h:pL L x=none:=by simpa using h
  rw [pLs h]
  by_cases e:z=x
  ·subst e;rw [if_pos rfl,h,if_pos rfl];rfl
  ·rw [if_neg e,if_neg (Ne.symm e)];cases pL L z<;>rfl
theorem lpa (p:Str) (rs:List Row):pL (lO rs) p=(rs.find? fun r=>decide (r.page=p)).map (·.goal):=by
 have key: ∀(rs:List Row) (L:List (Str×Str)),pL (rs.foldl (fun L r=>aL L r.page r.goal) L) p=(pL L p).or ((rs.find? fun r=>decide (r.page=p)).map (·.goal)):=by
  intro rs
  induction rs with
  | nil=>intro L;cases h:pL L p<;>simp [h]
  | cons r rs ih=>
   intro L
   rw [List.foldl_cons,ih,aLp]
   by_cases e:r.page=p
   ·rw [if_pos e,List.find?_cons_of_pos (by simpa using e)]
    cases pL L p<;>rfl
   ·rw [if_neg e,List.find?_cons_of_neg (by simpa using e)]
    cases pL L p<;>rfl
 have:=key rs []
 unfold lO
 rw [this]
 rfl
theorem lnd (rs:List Row):ND (lO rs):=by
 have: ∀(rs:List Row) (L:List (Str×Str)),ND L→ND (rs.foldl (fun L r=>aL L r.page r.goal) L):=by
  intro rs
  induction rs with
  | nil=>intro L h;exact h
  | cons r rs ih=>intro L h;exact ih _ (aLn h)
 exact this rs [] List.nodup_nil
theorem lso {rs:List Row} {p g:Str} (h:pL (lO rs) p=some g): ∃r∈rs,r.page=p∧r.goal=g:=by
 rw [lpa]at h
 rcases e:rs.find? (fun r=>decide (r.page=p))with _ | r
 ·rw [e]at h;cases h
 ·rw [e]at h
  have:=List.find?_some e
  exact⟨r,List.mem_of_find?_eq_some e,by simpa using this,Option.some.inj h⟩
theorem pag {p:Str} (h:p∈paL):p∈goL:=List.mem_append.mpr (.inl h)
theorem lke {rs:List Row} (ok:ROk rs): ∀x∈(lO rs).map (·.1),x∈paL:=by
 intro x hx
 obtain⟨q,hq,rfl⟩:=List.mem_map.mp hx
 have h:(pL (lO rs) q.1).isSome=true:=by
  unfold pL
  rw [Option.isSome_map,List.find?_isSome]
  exact⟨q,hq,by simp⟩
 obtain⟨g,hg⟩:=Option.isSome_iff_exists.mp h
 obtain⟨r,hr,e,_⟩:=lso hg
 rw [←e];exact(ok r hr).page
theorem lil {rs:List Row} (ok:ROk rs):(lO rs).length≤5:=by
 have h:=List.Nodup.length_le_of_subset (lnd rs) (lke ok)
 rw [List.length_map]at h
 exact h
theorem ngo {rs:List Row} (ok:ROk rs): ∀x∈nO (lO rs),x∈goL:=by
 have: ∀(L:List (Str×Str)) (N:List Str),(∀q∈L,q.1∈goL∧q.2∈goL)→(∀x∈N,x∈goL)→ ∀x∈L.foldl (fun N p=>aN (aN N p.1) p.2) N,x∈goL:=by
  intro L
  induction L with
  | nil=>intro N u h;exact h
  | cons q L ih=>
   intro N h1 h2
   refine ih _ (fun q hq=>h1 q (.tail _ hq)) (fun x hx=> ?_)
   have h3:=h1 q (.head _)
   rcases aNm.mp hx with hx | rfl
   ·rcases aNm.mp hx with hx | rfl
    ·exact h2 x hx
    ·exact h3.1
   ·exact h3.2
 refine this _ [] (fun q hq=> ?_) (fun x hx=>by cases hx)
 refine⟨pag (lke ok q.1 (List.mem_map.mpr ⟨q,hq,rfl⟩)),?_⟩
 have hm:pL (lO rs) q.1=some q.2:=by
  have nd:=lnd rs
  unfold pL
  have: ∀(L:List (Str×Str)),ND L→q∈L→(L.find? fun p=>decide (p.1=q.1))=some q:=by
   intro L
   induction L with
   | nil=>intro u h;cases h
   | cons p L ih=>
    intro nd h
    unfold ND at nd
    rw [List.map_cons]at nd
    obtain⟨n1,n2⟩:=List.nodup_cons.mp nd
    rcases List.mem_cons.mp h with rfl | h
    ·rw [List.find?_cons_of_pos (by simp)]
    ·rw [List.find?_cons_of_neg (by
      simp only [decide_eq_true_eq]
      intro e;exact n1 (by rw [e];exact List.mem_map.mpr ⟨q,h,rfl⟩))]
     exact ih n2 h
  rw [this _ nd hq];rfl
 obtain⟨r,hr,_,e⟩:=lso hm
 rw [←e]
 exact(paf (ok r hr).page (ok r hr).name (ok r hr).text).2.2.2.2
theorem rli {rs:List Row} (ok:ROk rs):readOf (hsO rs)=lO rs:=by
 have low: ∀r∈rs,Txt.lower r.name=r.page:=fun r hr=>(ok r hr).low
 have key: ∀(suf pre:List Row),rs=pre++suf→(hsO suf).foldl (fun L p=>aL L (Txt.lower p.1) (gO p.1 (getOf (hsO rs) p.1))) (lO pre)=suf.foldl (fun L r=>aL L r.page r.goal) (lO pre):=by
  intro suf
  induction suf with
  | nil=>intro pre u;rfl
  | cons r suf ih=>
   intro pre e
   have hr:r∈rs:=by rw [e];simp
   have st:aL (lO pre) (Txt.lower r.name) (gO r.name (getOf (hsO rs) r.name))=aL (lO pre) r.page r.goal:=by
    rw [low r hr]
    by_cases h:(pL (lO pre) r.page).isSome=true
    ·unfold aL;rw [if_pos h,if_pos h]
    ·have hg:getOf (hsO rs) r.name=r.text:=by
      unfold getOf
      have:(hsO rs).find? (fun p=>Txt.lower p.1==Txt.lower r.name)=some (r.name,r.text):=by
       unfold hsO
       rw [e,List.map_append,List.find?_append]
       have h0:(pre.map fun r=>(r.name,r.text)).find? (fun p=>Txt.lower p.1==Txt.lower r.name)=none:=by
        rw [List.find?_eq_none]
        intro p hp he
        obtain⟨r',hr',rfl⟩:=List.mem_map.mp hp
        have he:Txt.lower r'.name=Txt.lower r.name:=by simpa using he
        rw [low r' (by rw [e];simp [hr']),low r hr]at he
        refine h ?_
        rw [lpa,Option.isSome_map,List.find?_isSome]
        exact⟨r',hr',by simpa using he⟩
       rw [h0,List.map_cons,List.find?_cons_of_pos (by simp)]
       rfl
      rw [this];rfl
     rw [hg,(paf (ok r hr).page (ok r hr).name (ok r hr).text).2.1]
   have:=ih (pre++ [r]) (by rw [e];simp)
   rw [lOs]at this
   show(hsO suf).foldl _ (aL (lO pre) (Txt.lower r.name) _)=suf.foldl _ (aL (lO pre) r.page r.goal)
   rw [st];exact this
 exact key rs [] rfl
noncomputable def live (rs:List Row):Nat:=(paL.filter fun p=>match pL (lO rs) p with | some g=>g !=upD | none=>false).length
theorem liv (rs:List Row):live rs≤5:=List.length_filter_le _ _
theorem fil {α:Type} {p q:α→Bool}: ∀{l:List α},(∀x∈l,p x=true→q x=true)→(∃x∈l,q x=true∧p x=false)→(l.filter p).length<(l.filter q).length
 | [],_,h=>by obtain⟨x,hx,_⟩:=h;cases hx
 | a::l,h1,h2=>by
  have le:(l.filter p).length≤(l.filter q).length:=by
   have: ∀l':List α,(∀x∈l',p x=true→q x=true)→(l'.filter p).length≤(l'.filter q).length:=by
    intro l'
    induction l' with
    | nil=>intro u;exact Nat.le_refl _
    | cons b l' ih=>
     intro h
     have:=ih fun x hx=>h x (.tail _ hx)
     have hb:=h b (.head _)
     rcases hp:p b with _ | _
     ·rw [List.filter_cons_of_neg (by rw [hp];decide)]
      rcases hq:q b with _ | _
      ·rw [List.filter_cons_of_neg (by rw [hq];decide)];exact this
      ·rw [List.filter_cons_of_pos hq];simp only [List.length_cons];omega
     ·rw [List.filter_cons_of_pos hp,List.filter_cons_of_pos (hb hp)];simp only [List.length_cons];omega
   exact this l fun x hx=>h1 x (.tail _ hx)
  rcases hp:p a with _ | _
  ·rw [List.filter_cons_of_neg (by rw [hp];decide)]
   rcases hq:q a with _ | _
   ·rw [List.filter_cons_of_neg (by rw [hq];decide)]
    refine fil (fun x hx=>h1 x (.tail _ hx)) ?_
    obtain⟨x,hx,e1,e2⟩:=h2
    rcases List.mem_cons.mp hx with rfl | hx
    ·rw [hq]at e1;cases e1
    ·exact⟨x,hx,e1,e2⟩
   ·rw [List.filter_cons_of_pos hq];simp only [List.length_cons];omega
  ·rw [List.filter_cons_of_pos hp,List.filter_cons_of_pos (h1 a (.head _) hp)]
   refine Nat.succ_lt_succ (fil (fun x hx=>h1 x (.tail _ hx)) ?_)
   obtain⟨x,hx,e1,e2⟩:=h2
   rcases List.mem_cons.mp hx with rfl | hx
   ·rw [hp]at e2;cases e2
   ·exact⟨x,hx,e1,e2⟩
noncomputable def cutRows (rs:List Row) (r:Str):List Row:=rs.filter fun x=>x.page !=r
noncomputable def newRow (r:Str):Row:=⟨Txt.upper r,r,upD,upD⟩
theorem uDp:upD∉paL:=by decide+kernel
theorem cu {rs:List Row} {r p:Str} (h:p≠r):(cutRows rs r).find? (fun x=>decide (x.page=p))=rs.find? (fun x=>decide (x.page=p)):=by
 unfold cutRows
 induction rs with
 | nil=>rfl
 | cons a rs ih=>
  by_cases ha:a.page=r
  ·rw [List.filter_cons_of_neg (by simp [ha]),List.find?_cons_of_neg (by simp only [decide_eq_true_eq];rw [ha];exact fun e=>h e.symm)];exact ih
  ·rw [List.filter_cons_of_pos (by simpa using ha)]
   by_cases hp:a.page=p
   ·rw [List.find?_cons_of_pos (by simpa using hp),List.find?_cons_of_pos (by simpa using hp)]
   ·rw [List.find?_cons_of_neg (by simpa using hp),List.find?_cons_of_neg (by simpa using hp)];exact ih
theorem cno {rs:List Row} {r:Str}:(cutRows rs r).find? (fun x=>decide (x.page=r))=none:=by
 rw [List.find?_eq_none]
 intro x hx
 unfold cutRows at hx
 have:=(List.mem_filter.mp hx).2
 simpa using this
theorem lcu {rs rs':List Row} {r:Str} (ok:ROk rs) (hr:OnR (pL (lO rs)) r) (h:rs'=cutRows rs r∨rs'=cutRows rs r++ [newRow r]):live rs'<live rs:=by
 obtain⟨y,hy,a⟩:=hr
 obtain⟨x0,hx0,ex0,_⟩:=lso hy
 have hrp:r∈paL:=by rw [←ex0];exact(ok x0 hx0).page
 have hyp:y∈paL:=by
  cases a with
  | refl=>exact hrp
  | step h2 _=>
   obtain⟨x1,hx1,ex1,_⟩:=lso h2
   rw [←ex1];exact(ok x1 hx1).page
 have other: ∀p,p≠r→pL (lO rs') p=pL (lO rs) p:=fun p hp=>by
  rw [lpa,lpa]
  rcases h with rfl | rfl
  ·rw [cu hp]
  ·rw [List.find?_append,cu hp]
   have: [newRow r].find? (fun x=>decide (x.page=p))=none:=by
    rw [List.find?_cons_of_neg (by simp only [decide_eq_true_eq];exact fun e=>hp e.symm)];rfl
   rw [this];simp
 have own:pL (lO rs') r=none∨pL (lO rs') r=some upD:=by
  rw [lpa]
  rcases h with rfl | rfl
  ·rw [cno];exact .inl rfl
  ·rw [List.find?_append,cno]
   right
   rw [List.find?_cons_of_pos (by simp [newRow])];rfl
 refine fil (fun p hp h1=> ?_) ⟨r,hrp,?_,?_⟩
 ·by_cases e:p=r
  ·subst e
   rcases own with z | z
   ·rw [z]at h1;cases h1
   ·rw [z]at h1;simp at h1
  ·rw [other p e]at h1;exact h1
 ·rw [hy]
  show(y !=upD)=true
  rw [bne_iff_ne]
  intro e;rw [e]at hyp;exact uDp hyp
 ·rcases own with z | z
  ·rw [z]
  ·rw [z];simp
theorem cok {rs:List Row} {r:Str} (ok:ROk rs):ROk (cutRows rs r):=fun x hx=>ok x (List.mem_filter.mp hx).1
theorem neo {r:Str} (h:r∈paL):RoO (newRow r):=⟨h,.inr rfl,List.mem_append.mpr (.inr (.head _))⟩
theorem aok {rs:List Row} {r:Row} (ok:ROk rs) (h:RoO r):ROk (rs++ [r]):=fun x hx=>by
 rcases List.mem_append.mp hx with z | z
 ·exact ok x z
 ·simp at z;subst z;exact h
theorem hci {rs:List Row} {r:Str} (ok:ROk rs) (h:r∈paL):hdel (hsO rs) (Txt.upper r)=hsO (cutRows rs r):=by
 unfold hdel hsO cutRows
 rw [List.filter_map]
 congr 1
 apply List.filter_congr
 intro x hx
 show(Txt.lower x.name !=Txt.lower (Txt.upper r))=_
 rw [(ok x hx).low,(pfa h _ (.inr rfl)).2.2.1]
theorem hou {rs:List Row} (ok:ROk rs): ∀p∈hsO rs,HOk p.1:=fun p hp=>by
 obtain⟨r,hr,rfl⟩:=List.mem_map.mp hp
 exact(pfa (ok r hr).page _ (ok r hr).name).2.1
theorem hpc {rs:List Row} (ok:ROk rs): ∀p∈hsO rs,POk p.1 (getOf (hsO rs) p.1):=fun p hp=>by
 obtain⟨r,hr,rfl⟩:=List.mem_map.mp hp
 show POk r.name (getOf (hsO rs) r.name)
 unfold getOf
 rcases e:(hsO rs).find? (fun q=>Txt.lower q.1==Txt.lower r.name)with _ | q
 ·rw [List.find?_eq_none]at e
  exact absurd (e (r.name,r.text) (List.mem_map.mpr ⟨r,hr,rfl⟩)) (by simp)
 ·have h1:=List.find?_some e
  obtain⟨r',hr',rfl⟩:=List.mem_map.mp (List.mem_of_find?_eq_some e)
  have h1:Txt.lower r'.name=Txt.lower r.name:=by simpa using h1
  rw [(ok r' hr').low,(ok r hr).low]at h1
  have ht:=(ok r' hr').text
  rw [h1]at ht
  rw [e]
  exact(paf (ok r hr).page (ok r hr).name ht).1
theorem rex {L:List (Str×Str)} {p:Str} (h:OnR (pL L) p): ∃R,Ri (pL L) p R:=by
 have walk: ∀(N:Nat) (w:List Str) (a:Str),L.length+1 - w.length=N→Lk (pL L) p w a→w.Nodup→(∀x∈w,x=a∨x∈L.map (·.1))→w.length≤L.length+1→ ∃R,Ri (pL L) p R:=by
  intro N
  induction N with
  | zero=>
   intro w a hN l hn hk hz
   rcases e:pL L a with _ | z
   ·exact absurd h (l.not hn (.inl e))
   ·by_cases hzw:z∈w
    ·by_cases hzp:z=p
     ·subst hzp;exact⟨_,l.ring hn e⟩
     ·exact absurd h (l.not hn (.inr ⟨z,e,hzw,hzp⟩))
    ·have sub: ∀x∈w,x∈L.map (·.1):=fun x hx=>by
      rcases hk x hx with rfl | h'
      ·exact ike (by rw [e];rfl)
      ·exact h'
     have:=List.Nodup.length_le_of_subset hn sub
     rw [List.length_map]at this
     omega
  | succ N ih=>
   intro w a hN l hn hk hz
   rcases e:pL L a with _ | z
   ·exact absurd h (l.not hn (.inl e))
   ·by_cases hzw:z∈w
    ·by_cases hzp:z=p
     ·subst hzp;exact⟨_,l.ring hn e⟩
     ·exact absurd h (l.not hn (.inr ⟨z,e,hzw,hzp⟩))
    ·have hn2:(w++ [z]).Nodup:=by
      rw [List.nodup_append]
      refine⟨hn,by simp,fun x hx c hc e2=> ?_⟩
      simp at hc;subst hc;subst e2;exact hzw hx
     refine ih (w++ [z]) z (by rw [List.length_append];simp only [List.length_cons,List.length_nil];omega) (.snoc l e) hn2 (fun x hx=> ?_) (by rw [List.length_append];simp only [List.length_cons,List.length_nil];omega)
     rcases List.mem_append.mp hx with hx | hx
     ·rcases hk x hx with rfl | h'
      ·exact .inr (ike (by rw [e];rfl))
      ·exact .inr h'
     ·simp at hx;exact .inl hx
 exact walk _ [p] p rfl .one (by simp) (fun x hx=>by simp at hx;exact .inl hx) (by simp)
end L2
end
section
namespace L2
open Builtin Builtin.Str
local macro_rules | `(tactic| kln_le)=> `(tactic| first
 | (with_reducible assumption)
 | ((with_reducible apply V.Bc)<;>kln_le)
 | ((with_reducible apply V.Bs);kln_le)
 | ((with_reducible apply V.Bm)<;>first | kln_le | omega)
 | ((with_reducible apply V.Bl (x:=Str.ofString _));rfl))
open V (AV AO)
noncomputable def tbJ (t:Nat) (σ:V.St):V.St:=(tbl t [] σ).set ⟨t+2,e0⟩ .junk
theorem Ext.freshT {σ σ₁:V.St} (h:Ext σ σ₁) (t:Nat): ∃m:Nat,t<m∧ ∀i,σ₁ ⟨m+i,e0⟩=none:=by
 obtain⟨n,hn⟩:=h.2
 exact⟨n+t+1,by omega,fun i=>hn _ (by show n≤n+t+1+i;omega)⟩
theorem etb {t:Nat} {hs hs2:List (Str×Str)} {σ σ2:V.St} {x:Bool} (E:Ext σ σ2):V.Exit (tbl t hs σ) ((tbl t hs2 σ2).set ⟨t+2,e0⟩ .junk) (.ret (.bool x)) (.bool x) (tbJ t σ):=by
 refine⟨fun l o h=> ?_,fun l h=> ?_,fun l o h=> ?_,.inl ⟨rfl,by simp [V.AV.In]⟩⟩
 ·unfold tbJ at h
  by_cases e:l=⟨t+2,e0⟩
  ·subst e;rw [V.set_same]at h⊢;exact h
  ·rw [V.sot e]at h⊢
   unfold tbl at h⊢
   by_cases e1:l=⟨t,e0⟩
   ·rw [if_pos e1]at h⊢;exact h
   ·rw [if_neg e1]at h⊢
    by_cases e2:l=⟨t+1,e0⟩
    ·rw [if_pos e2]at h⊢;exact h
    ·rw [if_neg e2,if_neg e]at h⊢;exact E.1 _ _ h
 ·unfold tbJ
  by_cases e:l=⟨t+2,e0⟩
  ·subst e;rw [V.set_same];rfl
  ·rw [V.sot e,tso (hs':=hs)];exact h
 ·unfold tbJ at h
  by_cases e:l=⟨t+2,e0⟩
  ·subst e;rw [V.set_same]at h;obtain rfl:=Option.some.inj h;exact .inr trivial
  ·rw [V.sot e]at h
   left
   unfold tbl at h⊢
   simpa only [e,if_false]using h
structure SI (t:Nat) (σ:V.St) (rs:List Row) (v:AV) (σ1:V.St):Prop where
 ok:ROk rs
 isl:V.IsL (tbl t (hsO rs) σ1) v (rs.map rA)
 ext:Ext σ σ1
 len:rs.length≤100
theorem sit_go {C:V.Cx} {k:Nat} {sc:Scope} {t:Nat} {σ:V.St} {tgt iter:Expr} {body rest:List Stmt} {pos:Pos} {Q:Type} {M:AV→Q→List (Option AV)} (h0:C.hx=none)
  (Hstep: ∀(i:Int) rs v σ1 o,SI t σ rs v σ1→(∃ms1 ms2 σ2 hs2,V.As C k sc (M v o) (tbl t (hsO rs) σ1) tgt (.int i) ms1 (tbl t (hsO rs) σ1)∧V.Ex C k sc ms1 (tbl t (hsO rs) σ1) body (.ret (.bool true)) ms2 (tbl t hs2 σ2)∧Ext σ σ2)∨
   (∃rs' v' σ2 o' ms1,V.As C k sc (M v o) (tbl t (hsO rs) σ1) tgt (.int i) ms1 (tbl t (hsO rs) σ1)∧V.Ex C k sc ms1 (tbl t (hsO rs) σ1) body .next (M v' o') (tbl t (hsO rs') σ2)∧SI t σ rs' v' σ2∧live rs'<live rs))
  {rs:List Row} {v:AV} {o:Q} (S:SI t σ rs v σ) (Hiter:V.Ev C k sc (M v o) (tbl t (hsO rs) σ) iter (.fld "range" [.int 0,.int 7,.int 1]) (M v o) (tbl t (hsO rs) σ)) (hs: ∀env x,foldedSetIterable iter env x=pure x):
  ∃f ms' σf,V.Ex C k sc (M v o) (tbl t (hsO rs) σ) (.For tgt iter body [] pos::rest) f ms' σf∧V.Exit (tbl t (hsO rs) σ) σf f (.bool true) (tbJ t σ):=by
 have loop: ∀(xs:List Int) (rs:List Row) (v:AV) (σ1:V.St) (o:Q),SI t σ rs v σ1→live rs<xs.length→ ∃ms2 σ2 hs2,V.Lr C k sc (fun u=>True) tgt body (xs.map .int) (M v o) (tbl t (hsO rs) σ1) (.ret (.bool true)) ms2 (tbl t hs2 σ2)∧Ext σ σ2:=by
  intro xs
  induction xs with
  | nil=>intro rs v σ1 o S hl;exact absurd hl (Nat.not_lt_zero _)
  | cons i xs ih=>
   intro rs v σ1 o S hl
   rcases Hstep i rs v σ1 o S with⟨ms1,ms2,σ2,hs2,ha,hx,E⟩ | ⟨rs',v',σ2,o',ms1,ha,hx,S',hlv⟩
   ·exact⟨ms2,σ2,hs2,.stop trivial ha hx (.inr ⟨_,rfl⟩),E⟩
   ·obtain⟨ms3,σ3,hs3,hL,E⟩:=ih rs' v' σ2 o' S' (by simp only [List.length_cons]at hl;omega)
    exact⟨ms3,σ3,hs3,.cons trivial ha hx (.inl rfl) hL,E⟩
 obtain⟨ms2,σ2,hs2,hL,E⟩:=loop [0,1,2,3,4,5,6] rs v σ o S (Nat.lt_of_le_of_lt (liv rs) (by decide))
 have I:=V.Ir (C:=C) (k:=k) (a:=0) (b:=7) (by decide) (by decide) (by decide) h0
 have X:=V.XF (pos:=pos) Hiter I trivial hL hs
 refine⟨_,_,_,V.Ex.forget (l:=⟨t+2,e0⟩) (V.Est X (fun z=>by cases z)) (by rw [t2a];rfl),etb E⟩
theorem rO {rs:List Row} (ok:ROk rs): ∀r∈rs,PyData.strOk r.name=true∧PyData.strOk r.text=true:=fun r hr=>
 ⟨(pfa (ok r hr).page _ (ok r hr).name).2.2.2.1,(paf (ok r hr).page (ok r hr).name (ok r hr).text).2.2.2.1⟩
theorem pca {α:Type} {f g:α→Str}: ∀(l:List α),(∀x∈l,PyData.strOk (f x)=true∧PyData.strOk (g x)=true)→PyData.canLayAll0 (l.map fun x=> .tuple [.str (f x),.str (g x)])=true
 | [],_=>rfl
 | x::l,h=>by
  show((PyData.strOk (f x) && (PyData.strOk (g x) && true)) && PyData.canLayAll0 (l.map fun x=> .tuple [.str (f x),.str (g x)]))=true
  rw [(h x (.head _)).1,(h x (.head _)).2,pca l fun y hy=>h y (.tail _ hy)];rfl
theorem pde {α:Type} {f g:α→Str}: ∀(l:List α),PyData.depthAll (l.map fun x=> .tuple [.str (f x),.str (g x)])≤1
 | []=>by show 0≤1;decide
 | x::l=>by
  show max (max 0 (max 0 0)+1) (PyData.depthAll (l.map fun x=> .tuple [.str (f x),.str (g x)]))≤1
  have:=pde (f:=f) (g:=g) l
  omega
theorem Rp {C:V.Cx} {σ:V.St} {α:Type} {f g:α→Str} (l:List α):V.Rds C σ (l.map fun x=>AV.tup [.str (f x),.str (g x)]) (l.map fun x=> .tuple [.str (f x),.str (g x)]):=
 V.Rm (fun x=>V.Rtu (V.Rco V.Rsa (V.Rco V.Rsa V.Rn))) l
theorem cul {rs:List Row} {r:Str} (h: ∃x∈rs,x.page=r):(cutRows rs r).length+1≤rs.length:=by
 obtain⟨x,hx,e⟩:=h
 have:=fil (l:=rs) (p:=fun x=>x.page !=r) (q:=fun u=>true) (fun u v w=>rfl) ⟨x,hx,rfl,by simp [e]⟩
 rw [List.filter_eq_self.mpr (fun u v=>rfl)]at this
 exact this
theorem ske {C:V.Cx} {k:Nat} {sc:Scope} {t:Nat} {σ:V.St} {rs:List Row} {tgt:Expr} {body rest:List Stmt} {Q:Type} {M:AV→Q→List (Option AV)} {i:Int} {ms msa ms5:List (Option AV)} {τ τ5:V.St}
  (ha:V.As C k sc ms τ tgt (.int i) msa τ) (pre: ∀f ms' σ',V.Ex C k sc ms5 τ5 rest f ms' σ'→V.Ex C k sc msa τ body f ms' σ')
  (post:(∃ms2 σ2 hs2,V.Ex C k sc ms5 τ5 rest (.ret (.bool true)) ms2 (tbl t hs2 σ2)∧Ext σ σ2)∨ ∃rs' v' σ2 o',V.Ex C k sc ms5 τ5 rest .next (M v' o') (tbl t (hsO rs') σ2)∧SI t σ rs' v' σ2∧live rs'<live rs):
  (∃ms1 ms2 σ2 hs2,V.As C k sc ms τ tgt (.int i) ms1 τ∧V.Ex C k sc ms1 τ body (.ret (.bool true)) ms2 (tbl t hs2 σ2)∧Ext σ σ2)∨
   (∃rs' v' σ2 o' ms1,V.As C k sc ms τ tgt (.int i) ms1 τ∧V.Ex C k sc ms1 τ body .next (M v' o') (tbl t (hsO rs') σ2)∧SI t σ rs' v' σ2∧live rs'<live rs):=by
 rcases post with⟨ms2,σ2,hs2,h,E⟩ | ⟨rs',v',σ2,o',h,S,l⟩
 ·exact .inl ⟨msa,ms2,σ2,hs2,ha,pre _ _ _ h,E⟩
 ·exact .inr ⟨rs',v',σ2,o',msa,ha,pre _ _ _ h,S,l⟩
theorem sk2 {C:V.Cx} {k:Nat} {sc:Scope} {t:Nat} {σ:V.St} {rs:List Row} {rest rest2:List Stmt} {Q:Type} {M:AV→Q→List (Option AV)} {ms5 ms8:List (Option AV)} {τ5 τ8:V.St}
  (pre: ∀f ms' σ',V.Ex C k sc ms8 τ8 rest2 f ms' σ'→V.Ex C k sc ms5 τ5 rest f ms' σ')
  (post: ∃rs' v' σ2 o',V.Ex C k sc ms8 τ8 rest2 .next (M v' o') (tbl t (hsO rs') σ2)∧SI t σ rs' v' σ2∧live rs'<live rs):
  ∃rs' v' σ2 o',V.Ex C k sc ms5 τ5 rest .next (M v' o') (tbl t (hsO rs') σ2)∧SI t σ rs' v' σ2∧live rs'<live rs:=by
 obtain⟨rs',v',σ2,o',h,S,l⟩:=post
 exact⟨rs',v',σ2,o',pre _ _ _ h,S,l⟩
theorem csi {C:V.Cx} (h:Is C) {k:Nat} {σ:V.St} {t:Nat} {rs:List Row} {v:AV} {turn st:Int} (S:SI t σ rs v σ) (hst:st=1∨st= -1):
  V.Cd C (k+6) (tbl t (hsO rs) σ) (.ext 489) [.loc ⟨t,e0⟩,v,.int turn,.int st] [] (.bool true) (tbJ t σ):=by
 have hx0:=h.hx
 refine V.Cnm h.ok ⟨⟨_,_,_,by rw [h.K];exact rfl⟩,rfl,rfl,rfl,rfl,by rw [h.K];rfl,rfl,rfl,by decide+kernel⟩ [(Str.ofString "table",.local),(Str.ofString "rows",.local),(Str.ofString "turn",.local),(Str.ofString "step",.local),(Str.ofString "sitting",.local),(Str.ofString "links",.local),(Str.ofString "name",.local),(Str.ofString "named",.local),(Str.ofString "ring",.cell),(Str.ofString "range",.globalImplicit),(Str.ofString "_law_links",.globalImplicit),(Str.ofString "list",.globalImplicit),(Str.ofString "_law_read",.globalImplicit),(Str.ofString "_law_named",.globalImplicit),(Str.ofString "_law_ring",.globalImplicit),(Str.ofString "_law_driven",.globalImplicit)] rfl [(Str.ofString "table",.loc ⟨t,e0⟩),(Str.ofString "rows",v),(Str.ofString "turn",.int turn),(Str.ofString "step",.int st)] _
  (V.Bp (V.le4 fun a0 a1 a2 a3=>rfl) rfl) rfl rfl fun sc hF n hn=> ?_
 obtain⟨n0,n1,n2,n3,n4,n5,n6,n7,n8,n9,n10,n11,n12,n13,n14,n15,_⟩:=hF
 refine sit_go (C:=C) (k:=k+5) (sc:=sc) (t:=t) (σ:=σ) (M:=fun(v:AV) (o:Option AV×Option AV×Option AV×Option AV×Option AV)=> [some (.loc ⟨t,e0⟩),some (v),some (.int turn),some (.int st),o.1,o.2.1,o.2.2.1,o.2.2.2.1,o.2.2.2.2,none,none,none,none,none,none,none]) (o:=(none,none,none,none,none)) hx0 ?_ S (V.ECa (V.EGl h.ok n9 (gra h)) (V.Eco V.EIn V.En (fun u=>rfl)) V.Kty V.Cr (fun u=>rfl) (fun u=>rfl)) (fun u w=>rfl)
 intro i rs v σ1 o S
 obtain⟨o1,o2,o3,o4,o5⟩:=o
 have hsz:(hsO rs).length≤1000:=by unfold hsO;rw [List.length_map];have:=S.len;omega
 have hnd:=lnd rs
 have hll:=lil S.ok
 have hsm:(hsO rs).map hd=rs.map fun r=>AV.tup [.str r.name,.str r.text]:=by unfold hsO;rw [List.map_map];rfl
 have hes:(lk (lO rs)).map (fun p=>AV.tup [.str p.1,p.2])=(lO rs).map fun p=>AV.tup [.str p.1,.str p.2]:=by unfold lk;rw [List.map_map];rfl
 have fl:rs.filter (fun u=>true)=rs:=List.filter_eq_self.mpr fun u w=>rfl
 have tp_pur: ∀r:Row,(AV.tup [.str r.name,.str r.text]).Pur:=fun r=>V.Ptu fun D=>by simp [V.AV.Ins,V.AV.In]
 have lstr: ∀q∈lO rs,PyData.strOk q.1=true∧PyData.strOk q.2=true:=fun q hq=>by
  have h1:=lke S.ok q.1 (List.mem_map.mpr ⟨q,hq,rfl⟩)
  have nm: ∀(L:List (Str×Str)) (N:List Str) (q:Str×Str),q∈L→q.2∈L.foldl (fun N p=>aN (aN N p.1) p.2) N:=by
   intro L
   induction L with
   | nil=>intro N q h;cases h
   | cons p L ih=>
    intro N q h
    have keep: ∀(L:List (Str×Str)) (N:List Str) (x:Str),x∈N→x∈L.foldl (fun N p=>aN (aN N p.1) p.2) N:=by
     intro L
     induction L with
     | nil=>intro N x h;exact h
     | cons p L ih=>intro N x h;exact ih _ x (aNm.mpr (.inl (aNm.mpr (.inl h))))
    rcases List.mem_cons.mp h with rfl | h
    ·exact keep L _ _ (aNm.mpr (.inr rfl))
    ·exact ih _ q h
  exact⟨(gf q.1 (pag h1)).2.2.1,(gf q.2 (ngo S.ok q.2 (nm _ [] q hq))).2.2.1⟩
 obtain⟨lr,hlr⟩: ∃z:Option Row,z=rs.foldl (fun u x=>some x) none:=⟨_,rfl⟩
 obtain⟨res,hres⟩:=Cyc.exists (par:=pL (lO rs)) (nO (lO rs)) fun x hx=>rex hx
 obtain⟨m,hmt,hm⟩:=S.ext.freshT (t+2)
 have m0:=hm 0
 rw [Nat.add_zero]at m0
 have ov: ∀{hs:List (Str×Str)} {τ:V.St} (j:Nat) (o:AO),(tbl t hs τ).set ⟨m+j,e0⟩ o=tbl t hs (τ.set ⟨m+j,e0⟩ o):=fun j o=>tov (.inr (by show t+2<m+j;omega))
 have lo: ∀{hs:List (Str×Str)} {τ:V.St} (j:Nat),tbl t hs τ ⟨m+j,e0⟩=τ ⟨m+j,e0⟩:=fun j=>tou (.inr (by show t+2<m+j;omega))
 obtain⟨σa,hσa⟩: ∃τ,τ=σ1.set ⟨m+0,e0⟩ (.dict (lk (lO rs))):=⟨_,rfl⟩
 obtain⟨σb,hσb⟩: ∃τ,τ=σa.set ⟨m+1,e0⟩ (.dict (lk (lO rs))):=⟨_,rfl⟩
 have ne: ∀{a c:Nat},a≠c→(⟨m+a,e0⟩:V.Loc)≠⟨m+c,e0⟩:=fun h e=>by injection e with e1;omega
 have a1:σa ⟨m+1,e0⟩=none:=by rw [hσa,V.sot (ne (by decide))];exact hm 1
 have a2:σb ⟨m+2,e0⟩=none:=by rw [hσb,V.sot (ne (by decide)),hσa,V.sot (ne (by decide))];exact hm 2
 have Ea:Ext σ σa:=by rw [hσa];exact S.ext.set (hm 0)
 have Eb:Ext σ σb:=by rw [hσb];exact Ea.set a1
 have isla:V.IsL (tbl t (hsO rs) σa) v (rs.map rA):=by rw [hσa,←ov 0];exact S.isl.set (by rw [lo];exact hm 0)
 have islb:V.IsL (tbl t (hsO rs) σb) v (rs.map rA):=by rw [hσb,←ov 1];exact isla.set (by rw [lo];exact a1)
 have hDb1:tbl t (hsO rs) σb ⟨m+0,e0⟩=some (.dict (lk (lO rs))):=by rw [lo,hσb,V.sot (ne (by decide)),hσa,V.set_same]
 have hDb2:tbl t (hsO rs) σb ⟨m+1,e0⟩=some (.dict (lk (lO rs))):=by rw [lo,hσb,V.set_same]
 have clinks:V.Ca C (k+5) (tbl t (hsO rs) σ1) (.ext 444) [v] [] (.loc ⟨m+0,e0⟩) (tbl t (hsO rs) σa):=by
  have z:=V.Cd.ca (cli h (k:=k+4) S.isl (D:=m+0) (by rw [lo];exact hm 0) (by have:=S.len;omega))
  rwa [ov 0,←hσa]at z
 have cread:V.Ca C (k+5) (tbl t (hsO rs) σa) (.ext 470) [.loc ⟨t,e0⟩] [] (.loc ⟨m+1,e0⟩) (tbl t (hsO rs) σb):=by
  have z:=V.Cd.ca (crb h (k:=k) (t:=t) (D:=m+1) (hs:=hsO rs) (σ:=σa) (by rw [lo];exact a1) (hou S.ok) hsz (hpc S.ok))
  rwa [ov 1,rli S.ok,←hσb]at z
 refine ske (rest:= ?r1) (msa:= [some (.loc ⟨t,e0⟩),some (v),some (.int turn),some (.int st),some (.int i),o2,o3,o4,o5,none,none,none,none,none,none,none]) (ms5:= [some (.loc ⟨t,e0⟩),some (v),some (.int turn),some (.int st),some (.int i),some (.loc ⟨m+0,e0⟩),o3,some (.lst ((nO (lO rs)).map .str)),some (.lst ((res.getD []).map .str)),none,none,none,none,none,none,none]) (τ5:=tbl t (hsO rs) σb) (V.AL' n4 rfl) (fun f ms' σ' hh=> ?_) ?_
 rotate_left
 ·refine V.Eca (V.X1A (V.ECa (V.EGl h.ok n10 (gll h)) (V.Eco (V.ELo n1 rfl) V.En (fun u=>rfl)) (KX h rfl) clinks (fun u=>rfl) (fun u=>rfl)) (V.AL' n5 rfl) (fun u=>rfl) (fun u=>rfl) (fun u=>rfl)) ?_
  refine V.EIF (V.TCo (c:=false) (V.EMC (V.ELo n0 rfl) (mit h tb0 tb1) V.En (KX h rfl) (V.Cd.ca (cia h hsz)) (fun u w=>rfl) (fun u=>rfl) rfl (fun u=>rfl)) (V.ELC (link:= []) (ms2':= [none,lr.map fun r=> .str r.name,lr.map fun r=> .str r.page,lr.map fun r=> .str r.text,lr.map fun r=> .str r.goal]) ⟨(V.all1 rfl),V.al0,rfl,by decide+kernel,(V.ELo n1 rfl),V.Il hx0,isla,fun u w=>rfl⟩ (fun la hla=> ?_) rfl (V.Pu (fun r=>tp_pur r))) (V.NEs (d:= .list (rs.map fun r:Row=>PyData.tuple [.str r.name,.str r.text])) (V.Rli (.lst _) (by rw [hsm];exact Rp (f:=Row.name) (g:=Row.text) rs)) (V.Rli (.lst _) (Rp (f:=Row.name) (g:=Row.text) rs)) (pca (f:=Row.name) (g:=Row.text) rs (rO S.ok)) (by show PyData.depthAll _+1≤9;have:=pde (f:=Row.name) (g:=Row.text) rs;omega)) rfl) ?_
  ·have nla: ∀xs,V.IsL ((tbl t (hsO rs) σa).set la (.list xs)) v (rs.map rA):=fun xs=>isla.set hla
   have W:=fun(elt:Expr) (scope:Scope) (pos:Pos) (gens:List Comprehension) (g:Comprehension) (e:g.ifs= []) ha hv=>V.CLl (C:=C) (k:=k+5) (sc:=V.uc scope) (enc:=rA) (val:=fun r:Row=>AV.tup [.str r.name,.str r.text]) (p:=fun u=>true) (M:=fun o:Option Row=> [none,o.map fun r=> .str r.name,o.map fun r=> .str r.page,o.map fun r=> .str r.text,o.map fun r=> .str r.goal]) (Sg:=fun out=>(tbl t (hsO rs) σa).set la (.list out)) (ok:=fun σ'=>V.IsL σ' v (rs.map rA)) (la:=la) (elt:=elt) (gens:=gens) (scope:=scope) (pos:=pos) (g:=g) (xs₀:=rs) (fun out=>nla out) (fun out=>V.set_same) (fun out out'=>V.set_set) ha (.inl ⟨e,fun u=>rfl⟩) hv rs [] none (fun u z=>z) (V.lof (n:=([]:List AV).length+rs.length) (m:=1000) (by have:=S.len;simp only [List.length_nil];omega) (by decide))
   rw [fl,←hlr]at W
   refine W _ _ _ _ _ rfl (fun o x out hx=> ?_) (fun x out hx u=> ?_)
   ·exact(V.ATu (V.Ac (V.AL' (i:=1) rfl rfl) (V.Ac (V.AL' (i:=2) rfl rfl) (V.Ac (V.AL' (i:=3) rfl rfl) (V.Ac (V.AL' (i:=4) rfl rfl) V.An (fun u=>rfl)) (fun u=>rfl)) (fun u=>rfl)) (fun u=>rfl)) rfl (fun u=>rfl) (fun u=>rfl) hx0)
   ·exact V.ETu (V.Eco (V.ELo (i:=1) rfl rfl) (V.Eco (V.ELo (i:=3) rfl rfl) V.En (fun u=>rfl)) (fun u=>rfl)) (Nat.le_of_ble_eq_true rfl)
  refine V.EIF (V.TCo (c:=false) (V.ECa (V.EGl h.ok n11 (gli h)) (V.Eco (V.EMC (V.ECa (V.EGl h.ok n12 (gla h)) (V.Eco (V.ELo n0 rfl) V.En (fun u=>rfl)) (KX h rfl) cread (fun u=>rfl) (fun u=>rfl)) (V.Mdi (.inl hDb2)) V.En V.Kbi (V.Cdi (.inl hDb2) hnd.dn) (fun u w=>rfl) (fun u=>rfl) rfl (fun u=>rfl)) V.En (fun u=>rfl)) V.Kty (V.ClI (.inl hDb2) hnd.dn (V.lof (m:=1000) (by rw [lle];omega) (by decide)) hx0) (fun u=>rfl) (fun u=>rfl)) (V.ECa (V.EGl h.ok n11 (gli h)) (V.Eco (V.EMC (V.ELo n5 rfl) (V.Mdi (.inl hDb1)) V.En V.Kbi (V.Cdi (.inl hDb1) hnd.dn) (fun u w=>rfl) (fun u=>rfl) rfl (fun u=>rfl)) V.En (fun u=>rfl)) V.Kty (V.ClI (.inl hDb1) hnd.dn (V.lof (m:=1000) (by rw [lle];omega) (by decide)) hx0) (fun u=>rfl) (fun u=>rfl)) (V.NEs (d:= .list ((lO rs).map fun p:Str×Str=>PyData.tuple [.str p.1,.str p.2])) (V.Rli (.lst _) (by rw [hes];exact Rp (f:=Prod.fst) (g:=Prod.snd) _)) (V.Rli (.lst _) (by rw [hes];exact Rp (f:=Prod.fst) (g:=Prod.snd) _)) (pca (f:=Prod.fst) (g:=Prod.snd) _ lstr) (by show PyData.depthAll _+1≤9;have:=pde (f:=Prod.fst) (g:=Prod.snd) (lO rs);omega)) rfl) ?_
  refine V.Eca (V.X1A (V.ECa (V.EGl h.ok n13 (gln h)) (V.Eco (V.ELo n5 rfl) V.En (fun u=>rfl)) (KX h rfl) (V.Cd.ca (cnb h hDb1 hnd (by omega))) (fun u=>rfl) (fun u=>rfl)) (V.AL' n7 rfl) (fun u=>rfl) (fun u=>rfl) (fun u=>rfl)) ?_
  refine V.Eca (V.X1A (V.ECa (V.EGl h.ok n14 (gri h)) (V.Eco (V.ELo n5 rfl) (V.Eco (V.ELo n7 rfl) V.En (fun u=>rfl)) (fun u=>rfl)) (KX h rfl) (V.Cd.ca (cri h hDb1 hnd (by omega) hres)) (fun u=>rfl) (fun u=>rfl)) (V.AC' n8 rfl) (fun u=>rfl) (fun u=>rfl) (fun u=>rfl)) ?_
  refine V.EIF (V.TNo (b:=true) (V.Tva (b:=true) (V.ECa (V.EGl h.ok n15 (gld h)) (V.Eco (V.ELo n5 rfl) (V.Eco (V.ELo n7 rfl) (V.Eco (V.ECe n8 rfl) (V.Eco (V.ELo n3 rfl) V.En (fun u=>rfl)) (fun u=>rfl)) (fun u=>rfl)) (fun u=>rfl)) (KX h rfl) (V.Cd.ca (cdr h hDb1 hnd (by omega) (ngo S.ok) hst hres)) (fun u=>rfl) (fun u=>rfl)) V.btr (fun u w=>rfl))) ?_
  exact hh
 rcases res with _ | RL
 ·left
  refine⟨[some (.loc ⟨t,e0⟩),some (v),some (.int turn),some (.int st),some (.int i),some (.loc ⟨m+0,e0⟩),o3,some (.lst ((nO (lO rs)).map .str)),some (.lst (([]:List Str).map .str)),none,none,none,none,none,none,none],σb,hsO rs,?_,Eb⟩
  refine V.EIT (V.TNo (b:=false) (V.Tva (b:=false) (V.ECe n8 rfl) (V.Ltr (.lst _) (Nat.zero_le _) rfl) (fun u w=>rfl))) ?_
  exact V.Er V.EBo
 ·right
  obtain⟨pre,r,post,epre,hpre,hring⟩:=id hres
  obtain⟨hf0,hfe⟩:=hring.first
  have hon:=hring.on
  have hrow: ∃x∈rs,x.page=r:=by
   obtain⟨y,hy,_⟩:=hon
   obtain⟨x,hx,e,_⟩:=lso hy
   exact⟨x,hx,e⟩
  have hrp:r∈paL:=by obtain⟨x,hx,e⟩:=hrow;rw [←e];exact(S.ok x hx).page
  obtain⟨_,uOk,_,_,uShort⟩:=pfa hrp (Txt.upper r) (.inr rfl)
  have hclen:=cul hrow
  have hRz:RL.length≤1000:=by
   obtain⟨x,t,p,nd,e,rfl⟩:=hring
   have sub: ∀y∈x::t,y∈(lO rs).map (·.1):=by
    have key: ∀(l:List Str),Pth (pL (lO rs)) r l→ ∀y∈l,y∈(lO rs).map (·.1):=by
     intro l pl
     induction pl with
     | one=>intro y hy;simp at hy;subst hy;exact ike (by rw [e];rfl)
     | cons hp pl ih=>
      intro y hy
      rcases List.mem_cons.mp hy with rfl | hy
      ·exact ike (by rw [hp];rfl)
      ·exact ih y hy
    exact key _ p
   have:=List.Nodup.length_le_of_subset nd sub
   rw [List.length_map]at this
   simp only [List.length_append,List.length_reverse,List.length_cons,List.length_nil]at this⊢;omega
  have Rz:(RL.map AV.str).length≤sizeLine:=V.lof (m:=1000) (by rw [List.length_map];exact hRz) (by decide)
  have Re:(!(RL.map AV.str).isEmpty)=true:=by rw [List.isEmpty_map,hfe];rfl
  obtain⟨σc,hσc⟩: ∃τ,τ=σb.set ⟨m+2,e0⟩ (.list ((cutRows rs r).map rA)):=⟨_,rfl⟩
  have Ec:Ext σ σc:=by rw [hσc];exact Eb.set a2
  have lc: ∀hs,tbl t hs σc ⟨m+2,e0⟩=some (.list ((cutRows rs r).map rA)):=fun hs=>by rw [lo,hσc,V.set_same]
  obtain⟨lr2,hlr2⟩: ∃z:Option Row,z=rs.foldl (fun u x=>some x) none:=⟨_,rfl⟩
  have hoks:=hou S.ok
  have tU:TOk upD:=(paf hrp (x:=r) (.inl rfl) (List.mem_append.mpr (.inr (.head _)))).2.2.1
  refine sk2 (rest2:= ?r2) (ms8:= [some (.loc ⟨t,e0⟩),some (.loc ⟨m+2,e0⟩),some (.int turn),some (.int st),some (.int i),some (.loc ⟨m+0,e0⟩),some (.str (Txt.upper r)),some (.lst ((nO (lO rs)).map .str)),some (.lst (RL.map .str)),none,none,none,none,none,none,none]) (τ8:=tbl t (hsO rs) σc) (fun f ms' σ' hh=> ?_) ?_
  rotate_left
  ·refine V.EIF (V.TNo (b:=true) (V.Tva (b:=true) (V.ECe n8 rfl) (V.Ltr (.lst _) Rz Re) (fun u w=>rfl))) ?_
   refine V.Eca (V.X1A (V.EMC (V.ESu (V.ECe n8 rfl) V.EIn (V.BL (.lst _)) (V.Lia (.lst _) (by decide) (by decide) (by rw [List.getElem?_map];exact congrArg (Option.map AV.str) hf0))) V.Mu V.En V.Kbi (V.Cu uShort) (fun u w=>rfl) (fun u=>rfl) rfl (fun u=>rfl)) (V.AL' n6 rfl) (fun u=>rfl) (fun u=>rfl) (fun u=>rfl)) ?_
   refine V.Eca (V.XLo (link:= [(8,2)]) (ms2':= [none,lr.map rA,some (.lst (RL.map .str))]) (σ₂:=tbl t (hsO rs) σc) ⟨m+2,e0⟩ ⟨(V.all1 rfl),V.all1 ⟨_,n8,rfl⟩,rfl,by decide+kernel,(V.ELo n1 rfl),V.Il hx0,islb,fun u w=>rfl⟩ (by rw [lo];exact a2) ?_ rfl (fun env=>⟨_,rfl⟩) (fun u=>rfl) (fun u=>rfl) (V.AL' n1 rfl)) ?_
   ·have nlb: ∀xs,V.IsL ((tbl t (hsO rs) σb).set ⟨m+2,e0⟩ (.list xs)) v (rs.map rA):=fun xs=>islb.set (by rw [lo];exact a2)
    have W:=fun(elt c:Expr) (scope:Scope) (pos:Pos) (gens:List Comprehension) (g:Comprehension) (e:g.ifs= [c]) ha hc hv=>V.CLl (C:=C) (k:=k+5) (sc:=V.uc scope) (enc:=rA) (val:=rA) (p:=fun x:Row=>x.page !=r) (M:=fun o:Option Row=> [none,o.map rA,some (.lst (RL.map .str))]) (Sg:=fun out=>(tbl t (hsO rs) σb).set ⟨m+2,e0⟩ (.list out)) (ok:=fun σ'=>V.IsL σ' v (rs.map rA)) (la:=⟨m+2,e0⟩) (elt:=elt) (gens:=gens) (scope:=scope) (pos:=pos) (g:=g) (xs₀:=rs) (fun out=>nlb out) (fun out=>V.set_same) (fun out out'=>V.set_set) ha (.inr ⟨c,e,hc⟩) hv rs [] none (fun u z=>z) (V.lof (n:=([]:List AV).length+rs.length) (m:=1000) (by have:=S.len;simp only [List.length_nil];omega) (by decide))
    rw [←hlr]at W
    have ec:tbl t (hsO rs) σc=(tbl t (hsO rs) σb).set ⟨m+2,e0⟩ (.list ([]++(rs.filter fun x=>x.page !=r).map rA)):=by rw [hσc,ov 2];rfl
    rw [ec]
    refine W _ _ _ _ _ _ rfl (fun o x out hx=> ?_) (fun x out hx=> ?_) (fun x out hx u=> ?_)
    ·exact V.AL' (i:=1) rfl rfl
    ·exact(V.TCo (c:=_) (V.ESu (V.ELo (i:=1) rfl rfl) V.EIn V.Bt (V.Ti (by decide) (by simp) (by decide) rfl)) (V.ESu (V.ECe (i:=2) rfl rfl) V.EIn (V.BL (.lst _)) (V.Lia (.lst _) (by decide) (by decide) (by rw [List.getElem?_map];exact congrArg (Option.map AV.str) hf0))) (V.sne rfl) rfl)
    ·exact V.ELo (i:=1) rfl rfl
   exact hh
  rcases par:((turn+i).fmod 2 !=0)with _ | _
  ·refine⟨cutRows rs r,.loc ⟨m+2,e0⟩,σc,(some (.int i),some (.loc ⟨m+0,e0⟩),some (.str (Txt.upper r)),some (.lst ((nO (lO rs)).map .str)),some (.lst (RL.map .str))),?_,⟨cok S.ok,.loc (lc _),Ec,by have:=S.len;omega⟩,lcu S.ok hon (.inl rfl)⟩
   rw [←hci S.ok hrp]
   refine V.EIF (V.Tva (b:=false) (V.EBO (V.EBO (V.ELo n2 rfl) (V.ELo n4 rfl) V.iad) V.EIn (V.imo (by decide) rfl)) (V.itr par) (fun u w=>rfl)) ?_
   exact V.Eca (V.XS (V.ELo n0 rfl) (V.ELo n6 rfl) (V.O2d h.ok tb0 tb1 (by rw [h.K];kernel_rfl) (by rw [h.K];kernel_rfl) (by rw [h.K];kernel_rfl) (V.Cd.ca (cde h uOk hoks hsz)))) V.Eni
  ·have ap:V.Ca C (k+5) (tbl t (hdel (hsO rs) (Txt.upper r)++ [(Txt.upper r,upD)]) σc) (.bi "list.append") [.loc ⟨m+2,e0⟩,rA (newRow r)] [] .none (tbl t (hsO (cutRows rs r++ [newRow r])) (σb.set ⟨m+2,e0⟩ (.list ((cutRows rs r++ [newRow r]).map rA)))):=by
    have z:=V.Cap (C:=C) (k:=k+5) (x:=rA (newRow r)) (lc (hdel (hsO rs) (Txt.upper r)++ [(Txt.upper r,upD)])) (V.lof (m:=1000) (by rw [List.length_map];have:=S.len;omega) (by decide))
    rw [ov 2,hσc,V.set_set,show(cutRows rs r).map rA++ [rA (newRow r)]=(cutRows rs r++ [newRow r]).map rA by rw [List.map_append];rfl,hci S.ok hrp]at z
    have eh:hsO (cutRows rs r)++ [(Txt.upper r,upD)]=hsO (cutRows rs r++ [newRow r]):=by unfold hsO;rw [List.map_append];rfl
    rw [eh]at z
    rw [hσc,hci S.ok hrp,eh]
    exact z
   refine⟨cutRows rs r++ [newRow r],.loc ⟨m+2,e0⟩,σb.set ⟨m+2,e0⟩ (.list ((cutRows rs r++ [newRow r]).map rA)),(some (.int i),some (.loc ⟨m+0,e0⟩),some (.str (Txt.upper r)),some (.lst ((nO (lO rs)).map .str)),some (.lst (RL.map .str))),?_,⟨aok (cok S.ok) (neo hrp),.loc (by rw [lo,V.set_same]),Eb.set a2,by have:=S.len;rw [List.length_append];simp only [List.length_cons,List.length_nil];omega⟩,lcu S.ok hon (.inr rfl)⟩
   refine V.EIT (V.Tva (b:=true) (V.EBO (V.EBO (V.ELo n2 rfl) (V.ELo n4 rfl) V.iad) V.EIn (V.imo (by decide) rfl)) (V.itr par) (fun u w=>rfl)) ?_
   refine V.Eca (V.X1A V.ESt (V.ASu (V.ELo n0 rfl) (V.ELo n6 rfl) (V.O3 h.ok tb0 tb1 (by rw [h.K];kernel_rfl) (by rw [h.K];kernel_rfl) (by rw [h.K];kernel_rfl) (V.Cd.ca (c_set h uOk tU hoks hsz)))) (fun u=>rfl) (fun u=>rfl) (fun u=>rfl)) ?_
   exact V.Eca (V.X1E (V.EMC (V.ELo n1 rfl) (V.Map (lc _)) (V.Eco (V.ETu (V.Eco (V.ELo n6 rfl) (V.Eco (V.ESu (V.ECe n8 rfl) V.EIn (V.BL (.lst _)) (V.Lia (.lst _) (by decide) (by decide) (by rw [List.getElem?_map];exact congrArg (Option.map AV.str) hf0))) (V.Eco V.ESt (V.Eco V.ESt V.En (fun u=>rfl)) (fun u=>rfl)) (fun u=>rfl)) (fun u=>rfl)) (Nat.le_of_ble_eq_true rfl)) V.En (fun u=>rfl)) V.Kbi ap (fun u w=>rfl) (fun u=>rfl) rfl (fun u=>rfl)) (fun u w=>rfl)) V.Eni
end L2
end
section
namespace L2
open Builtin Builtin.Str
local macro_rules | `(tactic| kln_le)=> `(tactic| first
 | (with_reducible assumption)
 | ((with_reducible apply V.Bc)<;>kln_le)
 | ((with_reducible apply V.Bs);kln_le)
 | ((with_reducible apply V.Bm)<;>first | kln_le | omega)
 | ((with_reducible apply V.Bl (x:=Str.ofString _));rfl))
open V (AV AO)
noncomputable def fiL:List Int:= [81,392,13,341,94,100,237]
noncomputable def fx (k:Int):Int:=fiL[k.toNat]?.getD 0
noncomputable def ksL:List Int:= [0,1,2,3,4,5,6]
theorem fx_at: ∀k∈ksL,0≤k∧k<1000000∧fiL[k.toNat]? =some (fx k):=by decide
noncomputable def numAt (ns:List Int) (k:Int):Int:=fx k+(V.lpi ns (some k) none (some 7)).sum
theorem rng7:V.rng 0 7=ksL.map .int:=by rfl
theorem exJ {σ:V.St} {t:Nat} {x:Bool} (hn: ∀l:V.Loc,t≤l.tag→σ l=none):V.Exit σ (tbJ t σ) (.ret (.bool x)) (.bool x) σ:=by
 refine⟨fun l o h=> ?_,fun u z=>z,fun u v z=> .inl z,.inl ⟨rfl,by simp [V.AV.In]⟩⟩
 have hl:l.tag<t:=by
  rcases Nat.lt_or_ge l.tag t with z | z
  ·exact z
  ·rw [hn l z]at h;cases h
 unfold tbJ
 rw [V.sot (fun e=>by rw [e]at hl;simp only at hl;omega),tou (.inl hl)];exact h
theorem rOk (ns:List Int):ROk (ns.map mR):=fun r hr=>by
 obtain⟨n,_,rfl⟩:=List.mem_map.mp hr
 exact mRo n
theorem c_law {C:V.Cx} (h:Is C) {k:Nat} {σ:V.St} {ns:List Int} (hz:ns.length≤1000):
  V.Cd C (k+7) σ (.ext 494) [.lst (ns.map .int)] [] (.bool true) σ:=by
 have hx0:=h.hx
 refine V.Cnm h.ok ⟨⟨_,_,_,by rw [h.K];exact rfl⟩,rfl,rfl,rfl,rfl,by rw [h.K];rfl,rfl,rfl,by decide+kernel⟩ [(Str.ofString "script",.cell),(Str.ofString "fixed",.cell),(Str.ofString "turn",.local),(Str.ofString "rows",.local),(Str.ofString "table",.local),(Str.ofString "name",.local),(Str.ofString "page",.local),(Str.ofString "text",.local),(Str.ofString "goal",.local),(Str.ofString "sum",.globalImplicit),(Str.ofString "_law_rows",.globalImplicit),(Str.ofString "range",.globalImplicit),(Str.ofString "Headers",.globalImplicit),(Str.ofString "_law_sittings",.globalImplicit)] rfl [(Str.ofString "script",.lst (ns.map .int))] _
  (V.Bp (V.l1a fun a0=>rfl) rfl) rfl rfl fun sc hF n hn=> ?_
 obtain⟨n0,n1,n2,n3,n4,n5,n6,n7,n8,n9,n10,n11,n12,n13,_⟩:=hF
 obtain⟨nums,hnums⟩: ∃z:List Int,z=ksL.map (numAt ns):=⟨_,rfl⟩
 have hnl:nums.length=7:=by rw [hnums];rfl
 have hsl:(ns.map AV.int).length≤sizeLine:=V.lof (m:=1000) (by rw [List.length_map];exact hz) (by decide)
 have fl:ksL.filter (fun u=>true)=ksL:=List.filter_eq_self.mpr fun u v=>rfl
 obtain⟨lr,hlr⟩: ∃z:Option Int,z=ksL.foldl (fun u x=>some x) none:=⟨_,rfl⟩
 have I7:=V.Ir (C:=C) (k:=k+6) (a:=0) (b:=7) (by decide) (by decide) (by decide) hx0
 rw [rng7]at I7
 have mk:=V.Cm h.ok (k:=k+5) (c:=419) (fi:=311) (kw:= []) (as:= []) (σ:=σ) (l:=⟨n,e0⟩) (d:=⟨n+1,e0⟩) (by rw [h.K];kernel_rfl) (by rw [h.K];kernel_rfl) (by rw [h.K];kernel_rfl) (hn _ (Nat.le_refl _)) (hn _ (by simp)) (by simp) (chi h (k:=k+4) (σ:=σ) (t:=n) (hn _ (by simp)))
 have free: ∀hs,tbl n hs σ ⟨n+10,e0⟩=none:=fun hs=>by rw [tou (.inr (by show n+2<n+10;omega))];exact hn _ (by simp)
 refine V.ogo (σf:=tbJ n σ) ?_ (exJ hn)
 refine V.Gco (V.X1b (V.ETu (V.Eco (V.ELs (V.Eco V.EIn (V.Eco V.EIn (V.Eco V.EIn (V.Eco V.EIn (V.Eco V.EIn (V.Eco V.EIn (V.Eco V.EIn V.En (fun u=>rfl)) (fun u=>rfl)) (fun u=>rfl)) (fun u=>rfl)) (fun u=>rfl)) (fun u=>rfl)) (fun u=>rfl)) (Nat.le_of_ble_eq_true rfl)) (V.Eco (V.ECa (V.EGl h.ok n9 (gsu h)) (V.Eco (V.ECe n0 rfl) V.En (fun u=>rfl)) V.Kbi (V.Csu (.lst _) hx0) (fun u=>rfl) (fun u=>rfl)) V.En (fun u=>rfl)) (fun u=>rfl)) (Nat.le_of_ble_eq_true rfl)) (V.ATu (V.Ac (V.AC' n1 rfl) (V.Ac (V.AL' n2 rfl) V.An (fun u=>rfl)) (fun u=>rfl)) rfl (fun u=>rfl) (fun u=>rfl) hx0) (fun u=>rfl) (fun env hk hb=>V.s2n (by rw [hk 1 _ _ n1];rfl) hb rfl) (fun u=>rfl)) ?_
 refine V.Gco (V.X1A (V.ECa (V.EGl h.ok n10 (gro h)) (V.Eco (V.ELC (out:=nums.map .int) (link:= [(1,3),(0,4)]) (ms2':= [none,lr.map AV.int,none,some (.lst (fiL.map .int)),some (.lst (ns.map .int))]) ⟨(V.all1 rfl),V.all2 ⟨_,n1,rfl⟩ ⟨_,n0,rfl⟩,rfl,by decide+kernel,(V.ECa (V.EGl h.ok n11 (gra h)) (V.Eco V.EIn V.En (fun u=>rfl)) V.Kty V.Cr (fun u=>rfl) (fun u=>rfl)),I7,trivial,fun u v=>rfl⟩ (fun la hla=> ?_) rfl (V.Pu (fun x=>V.Pui))) V.En (fun u=>rfl)) (KX h rfl) (V.Cd.ca (crd h (k:=k+4) (by omega))) (fun u=>rfl) (fun u=>rfl)) (V.AL' n3 rfl) (fun u=>rfl) (fun u=>rfl) (fun u=>rfl)) ?_
 ·have W:=fun(elt:Expr) (scope:Scope) (pos:Pos) (gens:List Comprehension) (g:Comprehension) (e:g.ifs= []) ha hv=>V.CLl (C:=C) (k:=k+6) (sc:=V.uc scope) (enc:=AV.int) (val:=fun x:Int=>AV.int (numAt ns x)) (p:=fun u=>true) (M:=fun o:Option Int=> [none,o.map AV.int,none,some (.lst (fiL.map .int)),some (.lst (ns.map .int))]) (Sg:=fun out=>σ.set la (.list out)) (ok:=fun u=>True) (la:=la) (elt:=elt) (gens:=gens) (scope:=scope) (pos:=pos) (g:=g) (xs₀:=ksL) (fun out=>trivial) (fun out=>V.set_same) (fun out out'=>V.set_set) ha (.inl ⟨e,fun u=>rfl⟩) hv ksL [] none (fun u z=>z) (Nat.le_of_ble_eq_true rfl)
  rw [fl,←hlr]at W
  have en:([]:List AV)++ksL.map (fun x:Int=>AV.int (numAt ns x))=nums.map .int:=by rw [hnums,List.map_map];rfl
  rw [en]at W
  refine W _ _ _ _ _ rfl (fun o x out hx=> ?_) (fun x out hx u=> ?_)
  ·exact V.AL' (i:=1) rfl rfl
  ·obtain⟨k1,k2,k3⟩:=fx_at x hx
   exact V.EBO (V.ESu (V.ECe (i:=3) rfl rfl) (V.ELo (i:=1) rfl rfl) (V.BL (.lst _)) (V.Lia (.lst _) k1 k2 (by rw [List.getElem?_map,k3];rfl))) (V.ECa (V.EGl h.ok (i:=2) rfl (gsu h)) (V.Eco (V.ESu (V.ECe (i:=4) rfl rfl) (V.ESl (V.Pso (V.ELo (i:=1) rfl rfl)) V.Pn (V.Pso V.EIn)) (V.BL (.lst _)) (V.Ls (.lst _) (V.PtI.int _) .none (V.PtI.int _) (by decide) hsl (V.lma AV.int ns _ _ _))) V.En (fun u=>rfl)) V.Kbi (V.Csu (.lst _) hx0) (fun u=>rfl) (fun u=>rfl)) V.iad
 refine V.Gco (V.X1A (V.ECa (V.EGl h.ok n12 (gH h)) V.En (KX h rfl) mk (fun u=>rfl) (fun u=>rfl)) (V.AL' n4 rfl) (fun u=>rfl) (fun u=>rfl) (fun u=>rfl)) ?_
 have turns:=fun(tgt:Expr) (body:List Stmt) hturn=>V.Lf (C:=C) (k:=k+6) (sc:=sc) (ok:=fun u=>True) (tgt:=tgt) (body:=body) (enc:=rA)
  (M:=fun(a:List Row×Option Row)=> [some (.lst (ns.map .int)),some (.lst (fiL.map .int)),some (.int ns.sum),some (.lst ((nums.map mR).map rA)),some (.loc ⟨n,e0⟩),a.2.map fun r=> .str r.name,a.2.map fun r=> .str r.page,a.2.map fun r=> .str r.text,a.2.map fun r=> .str r.goal,none,none,none,none,none])
  (Sg:=fun a=>tbl n (hsO a.1) σ) (step:=fun a r=>(a.1++ [r],some r)) (P:=fun a xs=>a.1.length+xs.length≤100∧ ∀r∈xs,RoO r)
  (fun u v w=>trivial) (fun a x xs hP=>⟨by have:=hP.1;simp only [List.length_append,List.length_cons,List.length_nil]at this⊢;omega,fun r hr=>hP.2 r (.tail _ hr)⟩) hturn (nums.map mR) ([],none) ⟨by rw [List.length_map];simp only [List.length_nil];omega,rOk nums⟩
 have pr: ∀(xs:List Row) (z:List Row×Option Row),(xs.foldl (fun(a:List Row×Option Row) r=>(a.1++ [r],some r)) z).1=z.1++xs:=by
  intro xs
  induction xs with
  | nil=>intro z;simp
  | cons x xs ih=>intro z;rw [List.foldl_cons,ih];simp
 simp only [pr,List.nil_append]at turns
 refine V.GFo (V.ELo n3 rfl) (V.Ils hx0) trivial (turns _ _ ?_) (fun u v=>rfl) ?_
 ·rintro ⟨a,o⟩ r xs ⟨hl,hok⟩
  have hr:=hok r (.head _)
  have al:(hsO a).length≤1000:=by unfold hsO;rw [List.length_map];have:a.length+(r::xs).length≤100:=hl;omega
  have eh:hsO a++ [(r.name,r.text)]=hsO (a++ [r]):=by unfold hsO;rw [List.map_append];rfl
  have ca:=V.Cd.ca (cad h (k:=k+4) (t:=n) (d:=n+10) (σ:=σ) (x:=r.name) (y:=r.text) (free (hsO a)) (pfa hr.page _ hr.name).2.1 (paf hr.page hr.name hr.text).2.2.1 al)
  rw [eh]at ca
  refine V.Tu (V.ATu (V.Ac (V.AL' n5 rfl) (V.Ac (V.AL' n6 rfl) (V.Ac (V.AL' n7 rfl) (V.Ac (V.AL' n8 rfl) V.An (fun u=>rfl)) (fun u=>rfl)) (fun u=>rfl)) (fun u=>rfl)) rfl (fun u=>rfl) (fun u=>rfl) hx0) ?_
  exact V.Eca (V.X1E (V.EMC (V.ELo n4 rfl) (mah h tb0 tb1) (V.Eco (V.ELo n5 rfl) (V.Eco (V.ELo n7 rfl) V.En (fun u=>rfl)) (fun u=>rfl)) (KX h rfl) ca (fun u v=>rfl) (fun u=>rfl) rfl (fun u=>rfl)) (fun u v=>rfl)) V.Eni
 ·have S:SI n σ (nums.map mR) (.lst ((nums.map mR).map rA)) σ:=⟨rOk nums,.lst _,.refl hn,by rw [List.length_map];omega⟩
  rcases par:((ns.sum.fdiv 2).fmod 2 !=0)with _ | _
  ·exact V.Gre (V.ECa (V.EGl h.ok n13 (gls h)) (V.Eco (V.ELo n4 rfl) (V.Eco (V.ELo n3 rfl) (V.Eco (V.ELo n2 rfl) (V.Eco (V.EEx (b:=false) (V.Tva (b:=false) (V.EBO (V.EBO (V.ELo n2 rfl) V.EIn (V.idi (by decide) rfl rfl)) V.EIn (V.imo (by decide) rfl)) (V.itr par) (fun u v=>rfl)) V.EIn) V.En (fun u=>rfl)) (fun u=>rfl)) (fun u=>rfl)) (fun u=>rfl)) (KX h rfl) (V.Cd.ca (csi h (k:=k) S (.inl rfl))) (fun u=>rfl) (fun u=>rfl))
  ·exact V.Gre (V.ECa (V.EGl h.ok n13 (gls h)) (V.Eco (V.ELo n4 rfl) (V.Eco (V.ELo n3 rfl) (V.Eco (V.ELo n2 rfl) (V.Eco (V.EEx (b:=true) (V.Tva (b:=true) (V.EBO (V.EBO (V.ELo n2 rfl) V.EIn (V.idi (by decide) rfl rfl)) V.EIn (V.imo (by decide) rfl)) (V.itr par) (fun u v=>rfl)) (V.EUO V.EIn V.ina)) V.En (fun u=>rfl)) (fun u=>rfl)) (fun u=>rfl)) (fun u=>rfl)) (KX h rfl) (V.Cd.ca (csi h (k:=k) S (.inr rfl))) (fun u=>rfl) (fun u=>rfl))
end L2
end
section
set_option maxRecDepth 1000000
set_option maxHeartbeats 0
namespace H2
open PySem.Challenge
noncomputable abbrev kp:List Nat:= [0,1,3,4,5,6,7,9,11,13,14,16,18,20,21,22,23,24,26,27,28,30,32,33,34,35,36,37,38,39,40,41,42]
noncomputable abbrev qv:Program:=view pw_ik0233_02 kp
noncomputable abbrev lo:List Str:= [Str.ofString "_NodeInfo",Str.ofString "tspecials",Str.ofString "_name_disallowed_re",Str.ofString "_value_disallowed_re",Str.ofString "_formatparam"]
noncomputable abbrev hk:Hook:=kHook K as_ (fun _=>by kernel_rfl)
noncomputable abbrev xt (s:Shared):Bool:=xlAt qv [] s && recOk (RowW.records rw_ik0233_02.row.toRowW) s
theorem check (w:World):(HD.top pw_ik0233_02 (stepT (denote treeTable) (opening pw_ik0233_02) w) (stepT (denote treeTable) pw_ik0233_02 w) (fun t=>t.atExitBegin.map List.isEmpty) stepOk (start (opening pw_ik0233_02)) (fenceModules? pw_ik0233_02) Heap.nsMap 3600).map (fun r=>(staticsOk (importedModules pw_ik0233_02.main.body) r.1.heap r.2.abs.heap && namesBound pw_ik0233_02 r.2.abs.heap && gensDone r.2.abs && laidKept r.1.heap r.2.abs.heap,openSeen qv lo (importedModules pw_ik0233_02.main.body) xt true r.2.abs,as_.map r.2.abs.heap.get?))=some (true,openGood qv lo,(K w.params).map fun p=>some p.2):=by
 rw [PySem.W.Fast.te10156331382660048174,PySem.W.Fast.te11892475500146522536,PySem.W.Fast.te14364793385576792824,PySem.W.Fast.te6613529449190102663,PySem.W.Fast.te1435165496053646825,PySem.W.Fast.te14289696077712309145,PySem.W.Fast.te3805553451399329143,PySem.W.Fast.te8920871248978507458,PySem.W.Fast.te4187177175401517315,PySem.W.Fast.te5923862056798008813]
 kernel_rfl
theorem left:LeftO rw_ik0233_02.row.prog qv lo xt hk.obs hk.val 3600:=fun w=>by
 obtain⟨s0,s1,e,f⟩:=HD.top_of (F:=fun u s=>(openSeen qv lo (importedModules pw_ik0233_02.main.body) xt true s,as_.map s.heap.get?)) (check w)
 show(openEnds treeTable pw_ik0233_02 w 3600).map _=_
 rw [e]
 exact congrArg some f
theorem said:rw_ik0233_02.wellSaid=true:=by
 rw [PySem.W.Fast.te9446332074065402090]
 kernel_rfl
theorem hd (walk: ∀(d:DefRec),defOf qv rw_ik0233_02.row.name=some (d,[])→WalkO qv lo (XL qv []) hk.says rw_ik0233_02.row.toRowW d [] fun f vs=>PySem.call f vs):rw_ik0233_02.Holds:=by
 refine holds_law said fun said=> ?_
 refine holds_open (q:=qv) (loose:=lo) (Xt:=xt) (XP:=XL qv []) (Yf:=hk.obs) (Ya:=hk.val) (YP:=hk.says) (N:=3600) left hk.of hk.keeps (fun s e=>xl_of s (Bool.and_eq_true_iff.mp e).1) XL.keeps (by rfl) (by rfl) (by rfl) (fun s e=>recFacts_of (Bool.and_eq_true_iff.mp e).2) (by rfl) said (by decide+kernel) ⟨rfl,rfl,rfl,rfl,rfl,by decide+kernel⟩ ?hw ?hc
 case hw=>w_witness2
 case hc=>exact walk _ rfl
end H2
end
section
namespace L2
theorem ire {W:V.Wd}: ∀{vs:List Value} {ns:List Int},IntsAre vs ns→V.VRe W (ns.map .int) vs:=by
 intro vs ns h
 induction h with
 | nil=>exact .nil
 | cons n t _ ih=>exact .cons V.Vi ih
theorem tla {w:World} {s₁:Shared} {mg mb:Str→Option Value} {fa a:Addr} {ns:List Int} {vs:List Value} {p:Program} {loose:List Str} {mean:ExcName→Option Value} {d:WData}
  (T:Top p loose mean mg mb s₁.heap) (KX:(H2.K w.params).In s₁.heap) (hg:s₁.gens= #[]) (hmg:mg (Str.ofString "law")=some (.ref fa)) (hL:s₁.heap.IsList a vs.toArray) (w1:Well w.params s₁.heap (.ref a) d) (hI:IntsAre vs ns) (hz:ns.length≤63)
  {R:Result→Shared→Prop} (hR: ∀s',(∀b o,s₁.heap.get? b=some o→s'.heap.get? b=some o)→s'.os=s₁.os→s'.gens= #[]→R (.ok (.ret (.bool true))) s'):
  codeAny (model Challenge.rw_ik0233_02.row.prog w) callerA (.call (.ref fa) ⟨[.ref a],[]⟩) R s₁:=by
 obtain⟨C,hC⟩: ∃C:V.Cx,C=⟨Challenge.rw_ik0233_02.row.prog,w,H2.K w.params,s₁.heap,s₁.os,mg,mb,none,s₁.toks⟩:=⟨_,rfl⟩
 have O:C.Ok:=by subst hC;exact⟨KX,T.g,T.b,T.builtins,T.nolimit⟩
 have I:Is C:=⟨O,by subst hC;rfl,by subst hC;rfl⟩
 have hm:C.mg (Str.ofString "law")=some (.ref 494):=(L2.mg I _).trans (by kernel_rfl)
 have hfa:fa=494:=by
  have:C.mg=mg:=by subst hC;rfl
  rw [this,hmg]at hm
  exact Value.ref.inj (Option.some.inj hm)
 subst hfa
 obtain⟨W,hW⟩: ∃W:V.Wd,W=⟨fun u=>none,s₁.heap.get?⟩:=⟨_,rfl⟩
 have hobj:s₁.heap.get? a=some {cls:= .type "list",data:= .seq vs.toArray}:=by
  obtain⟨o,ho,hc,n,hd⟩:=hL
  have key: ∀o',s₁.heap.get? a=some o'→o'.cls= .type "list"∧o'.data= .seq vs.toArray n:=fun o' e=>by
   rw [ho]at e;obtain rfl:=Option.some.inj e;exact⟨hc,hd⟩
  clear ho hc hd
  cases w1
  case list h1 h2=>
   have e:=(key _ h2).2
   simp only [Data.seq.injEq]at e
   rw [h2,e.1]
  all_goals
   exfalso
   have e:=(key _ (by assumption)).1
   simp at e
 have hv:V.VR W (.lst (ns.map .int)) (.ref a):=by
  unfold V.VR
  exact⟨a,_,vs,0,rfl,by rw [hW];exact hobj,rfl,rfl,ire hI⟩
 have inv:V.Inv C W (fun u=>none) s₁:=by
  subst hC hW
  refine⟨fun l=>rfl,fun l l' a e=>(by cases e),fun l a o e=>(by cases e),fun l a e=>(by cases e),fun a o e=>⟨o,e,.refl o⟩,fun a o e=>e,fun a o e=>e,hg,rfl,Nat.le_refl _,?_,fun l a e=>(by cases e)⟩
  obtain⟨o,es,ep,ho,_⟩:=T.g
  exact⟨o,ho⟩
 have call:=c_law I (k:=0) (σ:=fun u=>none) (ns:=ns) (by omega) W (.ref 494) [.ref a] [] (by unfold V.VR;rfl) (.cons hv .nil) rfl callerA s₁ [] ⟨by decide+kernel,by decide+kernel,fun u=>rfl⟩ rfl (fun e he=>(by cases he)) inv
 have eM:C.M=model Challenge.rw_ik0233_02.row.prog w:=by subst hC;rfl
 rw [eM]at call
 refine codeAny_mono call fun r s' h=> ?_
 match r,h with
 | .ok (.ret r),h=>
  obtain⟨W',le,I',q⟩:=h
  unfold V.VR at q
  subst q
  refine hR s' (fun b o e=>I'.kept b o (by subst hC;exact e)) (I'.os.trans (by subst hC;rfl)) I'.gens
 | .ok .next,h=>exact h.elim
 | .ok .brk,h=>exact h.elim
 | .ok .cont,h=>exact h.elim
 | .error _,h=>exact h.elim
end L2
end
set_option maxRecDepth 100000 in
set_option maxHeartbeats 8000000 in
theorem PySem.Challenge.cw_ik0233_02_holds : PySem.Challenge.rw_ik0233_02.Holds := by
 refine H2.hd fun d hdd=> ?_
 intro w s₀ s₁ mg mb G Y fa o pm cd doc dV kV ho hd hcd hD hmg hg args vals as hpre hlay hrd hwl hlo
 have KX:=kIn_of Y
 have hmg:mg (Str.ofString "law")=some (.ref fa):=(congrArg mg (defOf_name hdd)).symm.trans hmg
 refine Ground.open G ?_
 intro T B D TE TW
 clear hd hD hcd D
 wrow_args hpre hlay hrd hwl hlo
 refine enter_call ?_
 rename_i hL _ w1 _ hI _ hcond _
 refine L2.tla T KX hg hmg hL w1 hI (by omega) fun s' h1 h2 h3=> ?_
 exact GoodW.toG ⟨.inl ⟨.bool true,.bool true,[],rfl,fun _=>rfl,.bool true,(by kernel_rfl),unshared_nil⟩,h1,h2,h3⟩
