import PyProof.Rows.All
import Wide.All
import OpenK.AllK
import Wide.FinOn
import Lean
import PySem.Challenge.RW_kq0045_01
open PySem PySem.W PyProof.Rows
set_option Elab.async false
set_option maxRecDepth 100000
namespace Mine
def word : Str := Str.ofString "a"
def word2 : Str := word
theorem word_eq : word2 = word := rfl
name_quick tw5922269515862055079 for Mine.word by Mine.word_eq
name_quick tw3564935655522394888 for Mine.word by Mine.word_eq
name_quick tw13326372587034936317 for Mine.word by Mine.word_eq
name_quick tw8075568018651887793 for Mine.word by Mine.word_eq
name_quick tw4750710694148020226 for Mine.word by Mine.word_eq
name_quick tw16161577474301301655 for Mine.word by Mine.word_eq
name_quick tw4171869358110156762 for Mine.word by Mine.word_eq
name_quick tw12282317666342685634 for Mine.word by Mine.word_eq
name_quick tw14570686136959624382 for Mine.word by Mine.word_eq
name_quick tw14654518384597184485 for Mine.word by Mine.word_eq
name_quick tw14979626087600564940 for Mine.word by Mine.word_eq
name_quick tw13336175834630783545 for Mine.word by Mine.word_eq
name_quick tw13191295725559111208 for Mine.word by Mine.word_eq
name_quick tw3170173484996775446 for Mine.word by Mine.word_eq
name_quick tw2949557819572172630 for Mine.word by Mine.word_eq
name_quick tw2894108277570489172 for Mine.word by Mine.word_eq
name_quick tw13479600455187215721 for Mine.word by Mine.word_eq
name_quick tw13853819408611901635 for Mine.word by Mine.word_eq
name_quick tw15194748194917737719 for Mine.word by Mine.word_eq
name_quick tw5065222861578795731 for Mine.word by Mine.word_eq
name_quick tw18011524253729791491 for Mine.word by Mine.word_eq
name_quick tw14096952598973939363 for Mine.word by Mine.word_eq
name_quick tw7231524377534056507 for Mine.word by Mine.word_eq
name_quick tw8588708647495961459 for Mine.word by Mine.word_eq
name_quick tw18428756778242999024 for Mine.word by Mine.word_eq
name_quick tw3421647286062184163 for Mine.word by Mine.word_eq
name_quick tw7802139600951554647 for Mine.word by Mine.word_eq
name_quick tw7503421922109321716 for Mine.word by Mine.word_eq
name_quick tw6990963922061375149 for Mine.word by Mine.word_eq
name_quick tw9893030918988833448 for Mine.word by Mine.word_eq
name_quick tw10138199336372458610 for Mine.word by Mine.word_eq
name_quick tw482417222145425773 for Mine.word by Mine.word_eq
name_quick tw6434265647005701932 for Mine.word by Mine.word_eq
name_quick tw10424941004445345732 for Mine.word by Mine.word_eq
name_quick tw11994158751524154303 for Mine.word by Mine.word_eq
name_quick tw7269565832213808900 for Mine.word by Mine.word_eq
set_option maxHeartbeats 8000000 in
open_top hd for PySem.Challenge.rw_kq0045_01
theorem walk_off : True := by
  w_top off
  exact True.intro
end Mine

namespace Mine
open PySem.Calls PySem.Spec

abbrev Led := List (Addr × Obj)

/-- what stays the same through the whole proof -/
structure Gl where
  prog : Program
  w : World
  K : Frag
  p : Program
  loose : List Str
  mean : ExcName → Option Value
  mg : Str → Option Value
  mb : Str → Option Value

/-- a frame at hand: the function env runs, its names are m, its base is h₀, the ledger news -/
structure Cx (Γ : Gl) (A : Around) (env : Env) (L : Addr) (h₀ : Heap) (m : Str → Option Value) (h : Heap) (news : Led) : Prop where
  below : ∃ A₀ base outer, Below A₀ base outer h₀ ∧ A.frames = some (env :: outer)
  fr : Fr h₀ L h m
  kin : Γ.K.In h₀
  nw : News h₀ L h news
  top : Top Γ.p Γ.loose Γ.mean Γ.mg Γ.mb h₀
  hf : env.frame = some L
  hk : env.scope.kind = .function
  hh : A.handled = none

abbrev St (s : Shared) (h : Heap) (tk : Nat) : Shared := { s with heap := h, toks := tk }

/-- the call of f upon args ends, with P of what it gives and of the ledger behind -/
def Calls (Γ : Gl) (d : Nat) (f : Value) (args : List Value) (news : Led) (P : Value → Led → Prop) : Prop :=
  ∀ (A : Around) (env : Env) (L : Addr) (h₀ : Heap) (m : Str → Option Value) (s : Shared) (Q E : Value → Shared → Prop),
    Cx Γ A env L h₀ m s.heap news → A.depth + d < recursionLimit →
    (∀ r h' tk news', Fr h₀ L h' m → News h₀ L h' news' → P r news' → Q r (St s h' tk)) →
    wpAny (model Γ.prog Γ.w) A (call f args) Q E s

def flowV : Flow → Value
  | .ret v => v
  | _ => .none

/-- the body of a def does P -/
def Body (Γ : Gl) (d : Nat) (mk : Addr → Env) (body : List Stmt) (binds : List (Str × Value)) (news : Led) (P : Value → Led → Prop) : Prop :=
  ∀ (A : Around) (L : Addr) (g : Heap) (s : Shared) (Q : Flow → Shared → Prop) (E : Value → Shared → Prop),
    Cx Γ A (mk L) L g (fun y => binds.reverse.lookup y) s.heap news → A.depth + d < recursionLimit →
    (∀ fl h' tk news' m', Fr g L h' m' → News g L h' news' → P (flowV fl) news' → Q fl (St s h' tk)) →
    wpAny (model Γ.prog Γ.w) A (execs body (mk L)) Q E s

theorem Calls.of_def {Γ : Gl} {d : Nat} {news : Led} {P : Value → Led → Prop} {name qual : Str} {params : Arguments} {body : List Stmt} {scope : Scope} {dV kV doc pm cdv ct oc : Value} {an od : Option Addr}
    {osl : Array (Option Value)} {f : Addr} {args : List Value} {binds : List (Str × Value)}
    (ho : List.lookup f Γ.K = some ⟨oc, od, .func (fnOf name qual params body scope dV kV doc pm an cdv ct), osl⟩) (hcd : codeIn Γ.K cdv qual = true)
    (hbind : ∀ s, BindsTo s (fnOf name qual params body scope dV kV doc pm an cdv ct) ⟨args, []⟩ binds) (hloc : (binds.all fun x => decide (List.lookup x.1 scope.names = some NameKind.local)) = true)
    (h1 : scope.isCoroutine = false) (h2 : scope.isGenerator = false) (h3 : scope.kind = .function) (h4 : ∀ x ∈ scope.names, x.2 ≠ .cell)
    (hbody : Body Γ d (fun L => envOf qual scope L f cdv) body binds news P) : Calls Γ (d + 1) (.ref f) args news P := by
  intro A env L h₀ m s Q E C hd hQ
  obtain ⟨A₀, base, outer, B, hA⟩ := C.below
  refine wpAny_call (code_def B C.fr C.kin C.nw C.top hA C.hf C.hk ho hcd (by omega) (hbind s) (locs hloc) (fun g L' h₁ FG F' N' B' X' T' => ?_) h1 h2 h3 h4)
  refine hbody _ L' g _ _ _ ⟨⟨_, _, _, B', Around.frames_deeper hA⟩, F', X', N', T', rfl, h3, C.hh⟩ (by show A.depth + 1 + d < _; omega) fun fl h' tk news' m' F2 N2 hP => ?_
  refine leaveK_ F2 N2 fun kF kN => ?_
  cases fl <;> exact hQ _ _ _ _ kF kN hP

/-- arguments that are read without a change -/
structure ArgsOk (env : Env) (L : Addr) (m : Str → Option Value) (news : Led) (es : List Expr) (vs : List Value) : Prop where
  star : ∀ e ∈ es, ∀ r, starEach (e :: r) env = (false, eval e env) :: starEach r env
  len : es.length = vs.length
  run : ∀ (prog : Program) (w : World) (A : Around) (E : Value → Shared → Prop) (h₀ : Heap) (s : Shared) (Q : List Value → Shared → Prop) (pos : Pos),
    Fr h₀ L s.heap m → News h₀ L s.heap news → (∀ tk, Q vs (St s s.heap tk)) → wpAny (model prog w) A (spliced (backTo pos (starEach es env))) Q E s

theorem ArgsOk.plain {env : Env} {L : Addr} {m : Str → Option Value} {news : Led} {vs : List Value} : ∀ {es : List Expr}, (∀ e ∈ es, ∀ r, starEach (e :: r) env = (false, eval e env) :: starEach r env) →
    ∀ pos, ((backTo pos (starEach es env)).any (·.1)) = false
  | [], _, _ => rfl
  | e :: r, h, pos => by
    rw [h e (.head _) r]
    show (false || (backTo pos (starEach r env)).any (·.1)) = false
    rw [ArgsOk.plain (news := news) (L := L) (m := m) (vs := vs) (fun e he => h e (.tail _ he)) pos]; rfl

/-- a call by its spelling, the function's keeper known -/
theorem callWith_args {Γ : Gl} {A : Around} {env : Env} {L : Addr} {h₀ : Heap} {m : Str → Option Value} {s : Shared} {news : Led} {f : Value} {first : List Value} {es : List Expr} {vs : List Value} {pos : Pos} {d : Nat}
    {P : Value → Led → Prop} {Q E : Value → Shared → Prop} (C : Cx Γ A env L h₀ m s.heap news) (hd : A.depth + d < recursionLimit) (ok : ArgsOk env L m news es vs)
    (kp : ∀ h, Fr h₀ L h m → News h₀ L h news → ∃ k, (k = Keeper.frame ∨ k = Keeper.machine ∨ k = Keeper.boundFrame) ∧ Looks (model Γ.prog Γ.w) h (keeperOf f) k)
    (H : Calls Γ d f (first ++ vs) news P) (hQ : ∀ r h' tk news', Fr h₀ L h' m → News h₀ L h' news' → P r news' → Q r (St s h' tk)) :
    wpAny (model Γ.prog Γ.w) A (callWith pos f first (backTo pos (starEach es env)) []) Q E s := by
  have hp := ArgsOk.plain (news := news) (L := L) (m := m) (vs := vs) ok.star pos
  refine callWith_of (P := fun h => Fr h₀ L h m ∧ News h₀ L h news) (by rw [hp]; rfl) (fun h x => kp h x.1 x.2) ?_
  have go : ∀ tk, (Fr h₀ L (St s s.heap tk).heap m ∧ News h₀ L (St s s.heap tk).heap news) ∧ wpAny (model Γ.prog Γ.w) A (call f (first ++ vs) []) Q E (St s s.heap tk) := fun tk =>
    ⟨⟨C.fr, C.nw⟩, H A env L h₀ m (St s s.heap tk) Q E ⟨C.below, C.fr, C.kin, C.nw, C.top, C.hf, C.hk, C.hh⟩ hd fun r h' tk' news' F N hP => hQ r h' tk' news' F N hP⟩
  have run := ok.run Γ.prog Γ.w A E h₀ s (fun xs s₁ => (Fr h₀ L s₁.heap m ∧ News h₀ L s₁.heap news) ∧ wpAny (model Γ.prog Γ.w) A (call f (first ++ xs) []) Q E s₁) pos C.fr C.nw go
  cases es with
  | nil =>
    have e0 : vs = [] := List.length_eq_zero_iff.mp ok.len.symm
    subst e0
    exact evalArgs_nil3 (go s.toks)
  | cons e r =>
    rw [ok.star e (.head _) r] at run ⊢
    exact evalArgs_plain run
end Mine

namespace Mine
open PySem.Calls PySem.Spec

theorem args_names {cn : Str} {cs : Scope} {L a : Addr} {ccd : Value} {cl : List (Str × Addr)} {m : Str → Option Value} {news : Led} (hk : cs.kind = .function) :
    ∀ (xs : List (Str × Pos)) (vs : List Value), (∀ x ∈ xs, cs.names.lookup x.1 = some .local ∧ (x.1 == ("__debug__" : Str)) = false) → xs.map (fun x => m x.1) = vs.map some →
    ArgsOk (envX cn cs L a ccd cl) L m news (xs.map fun x => .Name x.1 x.2) vs
  | [], [], _, _ => ⟨fun _ h => absurd h List.not_mem_nil, rfl, fun prog w A E h₀ s Q pos F N h => args_nil (h s.toks)⟩
  | [], _ :: _, _, e => nomatch e
  | _ :: _, [], _, e => nomatch e
  | x :: xs, v :: vs, hx, e => by
    have e1 := List.cons.inj e
    have ih := args_names (cn := cn) (L := L) (a := a) (ccd := ccd) (cl := cl) (m := m) (news := news) hk xs vs (fun y hy => hx y (.tail _ hy)) e1.2
    refine ⟨fun y hy r => ?_, congrArg Nat.succ ih.len, fun prog w A E h₀ s Q pos F N h => ?_⟩
    · rcases List.mem_cons.mp hy with rfl | hy
      · rfl
      · exact ih.star y hy r
    · obtain ⟨q1, q2⟩ := hx x (.head _)
      exact args_cons (nameX_L F e1.1 (ih.run prog w A E h₀ s (fun xs s' => Q (v :: xs) s') pos F N h) hk q1 q2) rfl

/-- the method NAME of v, called upon args, does P -/
def Meth (Γ : Gl) (d : Nat) (name : Str) (v : Value) (args : List Value) (news : Led) (P : Value → Led → Prop) : Prop :=
  ∀ (A : Around) (env : Env) (L : Addr) (h₀ : Heap) (m : Str → Option Value) (s : Shared) (Q E : Value → Shared → Prop) (pos : Pos) (es : List Expr) (pl : Sem Bool),
    Cx Γ A env L h₀ m s.heap news → A.depth + d < recursionLimit → ArgsOk env L m news es args →
    (∀ r h' tk news', Fr h₀ L h' m → News h₀ L h' news' → P r news' → Q r (St s h' tk)) →
    wpAny (model Γ.prog Γ.w) A (getMethod v name pl) (fun fx s₂ => wpAny (model Γ.prog Γ.w) A (callWith pos fx.1 fx.2 (backTo pos (starEach es env)) []) Q E s₂) E s

theorem Meth.of_fn {Γ : Gl} {d : Nat} {name : Str} {x C dx f : Addr} {es : List DictEntry} {n : Nat} {args : List Value} {news : Led} {P : Value → Led → Prop}
    (hx : (x, instObj C dx) ∈ news) (hdx : (dx, dictOf es n) ∈ news) (hg : plainGet Γ.K C name = true) (hf : findIn Γ.K (.ref C) name = some (some (.ref f))) (ht : isFn Γ.K (.ref f) = true)
    (hkp : keepIn Γ.K (.ref f) = true) (hl : getL name es = some none) (H : Calls Γ d (.ref f) (.ref x :: args) news P) : Meth Γ d name (.ref x) args news P := by
  intro A env L h₀ m s Q E pos es' pl C hd ok hQ
  refine method_inst C.fr C.kin (InstAt.of_news C.nw hx hdx) hg hf ht hl ?_
  exact callWith_args C hd ok (fun h F N => keeps_K hkp h (C.kin.keeps F.keep)) H hQ

/-- what the class has under that name gives way to what the object has -/
def givesWay (K : Frag) : Option Value → Bool
  | some a => (specialIn K a "__get__").isSome && takesIn K a == some false
  | none => true
/-- .. and is a def, or nothing -/
def defOrNone (K : Frag) : Option Value → Bool
  | some a => typeIn K a == some (.type "function")
  | none => true
theorem findObj_mine {K : Frag} {C : Addr} {od : Obj} {name : Str} {v : Value} {attr : Option Value} (hh : hasDictIn K C = true) (ha : findIn K (.ref C) name = some attr)
    (hn : givesWay K attr = true) (hl : lookIn name od = some (some v)) :
    findObj K C (some od) name = some (.value v) := by
  unfold hasDictIn at hh
  cases hc : clsIn K C with
  | none => rw [hc] at hh; cases hh
  | some cd =>
    rw [hc] at hh
    have hd : cd.hasDict = true := hh
    have ho : W.ownOf cd (some od) name = some (some v) := by unfold W.ownOf; rw [if_pos hd]; exact hl
    unfold findObj
    rw [hc, Option.bind_some, ha, Option.bind_some]
    cases attr with
    | none => simp [ho]
    | some a =>
      obtain ⟨h1, h2⟩ := Bool.and_eq_true_iff.mp hn
      obtain ⟨g, hg⟩ := Option.isSome_iff_exists.mp h1
      have ht : takesIn K a = some false := beq_iff_eq.mp h2
      cases g <;> simp [hg, ht, ho]

theorem method_own {prog : Program} {w : World} {A : Around} {E : Value → Shared → Prop} {s : Shared} {K : Frag} {name : Str} {x C : Addr} {ox : Obj} {dx : Addr} {od : Obj} {pl : Sem Bool} {Q : Value × List Value → Shared → Prop} {attr : Option Value} {v : Value}
    (X : K.In s.heap) (I : InstAt s.heap x ox C (some od)) (hox : ox.dict = some dx) (hga : findIn K (.ref C) "__getattribute__" = some (some (.builtin "object.__getattribute__"))) (hk : findIn K (.ref C) "__getattr__" = some none)
    (hf : findIn K (.ref C) name = some attr) (ht : defOrNone K attr = true) (hl : lookIn name od = some (some v))
    (h : wpAny (model prog w) A (getAttr (.ref x) name) (fun v => Q (v, [])) E s) : wpAny (model prog w) A (getMethod (.ref x) name pl) Q E s := by
  cases attr with
  | none => exact method_usual X I hga hk hf rfl h
  | some a =>
    have hcan := PySem.F.canon_object_ga
    have u : wpAny (model prog w) A (do return (← getAttr (.ref x) name, ([] : List Value))) Q E s := wpAny_bind (wpAny_mono h (fun _ _ z => wpAny_pure z) fun _ _ z => z)
    unfold getMethod specialOf
    refine wpAny_bind (wpAny_bind (I.type.here ((looks_findIn X hga).here ?_)))
    dsimp only
    rw [hcan, if_neg (by decide)]
    refine wpAny_bind (wpAny_bind (I.type.here ((looks_findIn X hk).here ?_)))
    refine wpAny_bind (wpAny_bind (I.type.here ((looks_findIn X hf).here (wpAny_bind ((looks_typeIn X (beq_iff_eq.mp ht)).here ?_)))))
    rw [if_neg (by decide +kernel)]
    refine wpAny_bind (wpAny_loadPart I.at_ ?_)
    have hd := I.dict
    rw [hox] at hd
    rw [hox]
    refine wpAny_bind (wpAny_bind (wpAny_loadPart hd ?_))
    rw [nsLook_of hl]
    exact wpAny_pure u

theorem Meth.of_own {Γ : Gl} {d : Nat} {name : Str} {x C dx f : Addr} {es : List DictEntry} {n : Nat} {args : List Value} {news : Led} {P : Value → Led → Prop} {attr : Option Value} {oc : Value} {od : Option Addr} {fd : FuncData} {sl : Array (Option Value)}
    (hx : (x, instObj C dx) ∈ news) (hdx : (dx, dictOf es n) ∈ news) (hg : plainGet Γ.K C name = true) (hh : hasDictIn Γ.K C = true) (hf : findIn Γ.K (.ref C) name = some attr)
    (hn : givesWay Γ.K attr = true)
    (ht : defOrNone Γ.K attr = true) (hl : getL name es = some (some (.ref f)))
    (hfn : (f, ⟨oc, od, .func fd, sl⟩) ∈ news) (H : Calls Γ d (.ref f) args news P) : Meth Γ d name (.ref x) args news P := by
  intro A env L h₀ m s Q E pos es' pl C hd ok hQ
  obtain ⟨g1, g2⟩ := plainGet_of hg
  refine method_own (C.kin.keeps C.fr.keep) (InstAt.of_news C.nw hx hdx) rfl g1 g2 hf ht hl ?_
  refine get_value (C.kin.keeps C.fr.keep) (InstAt.of_news C.nw hx hdx) g1 (findObj_mine hh hf hn hl) rfl ?_
  exact callWith_args (Γ := Γ) (first := []) (s := { s with toks := s.toks + 1 }) ⟨C.below, C.fr, C.kin, C.nw, C.top, C.hf, C.hk, C.hh⟩ hd ok (fun h F N => keeps_F _ (FnAt.of N hfn)) H
    fun r h' tk news' F N hP => hQ r h' tk news' F N hP

/-- a method call by its spelling -/
abbrev MCallEq (o : Expr) (name : Str) (apos pos : Pos) (args : List Expr) (env : Env) (pl : Sem Bool) : Prop :=
  eval (.Call (.Attribute o name apos) args [] pos) env = (do
    let ov ← eval o env
    standAt apos.atName
    let (f, first) ← holding [ov] (getMethod ov name pl)
    callWith pos f first (backTo pos (starEach args env)) [])
/-- self.H.NAME(a, ..) -/
theorem hop_call {Γ : Gl} {d : Nat} {hn name : Str} {x C dx : Addr} {des : List DictEntry} {n : Nat} {args : List Value} {news : Led} {P : Value → Led → Prop} {attr : Option Value} {v : Value}
    {A : Around} {cn : Str} {cs : Scope} {L a : Addr} {ccd : Value} {h₀ : Heap} {m : Str → Option Value} {s : Shared} {Q E : Value → Shared → Prop} {p1 p2 p3 p4 : Pos} {es : List Expr} {pl : Sem Bool}
    (hx : (x, instObj C dx) ∈ news) (hdx : (dx, dictOf des n) ∈ news) (hg : plainGet Γ.K C hn = true) (hh : hasDictIn Γ.K C = true) (hf : findIn Γ.K (.ref C) hn = some attr) (hno : noGet Γ.K attr = true)
    (hl : getL hn des = some (some v)) (hv : handedIn v = true) (hs : m ("self" : Str) = some (.ref x)) (hls : cs.names.lookup ("self" : Str) = some NameKind.local) (ok : ArgsOk (envX cn cs L a ccd []) L m news es args)
    (Cc : Cx Γ A (envX cn cs L a ccd []) L h₀ m s.heap news) (hd : A.depth + d < recursionLimit)
    (H : Meth Γ d name v args news P) (he : MCallEq (.Attribute (.Name "self" p1) hn p2) name p3 p4 es (envX cn cs L a ccd []) pl)
    (hQ : ∀ r h' tk news', Fr h₀ L h' m → News h₀ L h' news' → P r news' → Q r (St s h' tk)) :
    wpAny (model Γ.prog Γ.w) A (eval (.Call (.Attribute (.Attribute (.Name "self" p1) hn p2) name p3) es [] p4) (envX cn cs L a ccd [])) Q E s := by
  refine MethodCall_ ?_ he
  refine Attribute_Name_ (nameX_L Cc.fr hs ?_ Cc.hk hls)
  refine get_own Cc.fr Cc.kin (InstAt.of_news Cc.nw hx hdx) hg hh hf hno hl hv ?_
  exact H A _ L h₀ m { s with toks := s.toks + 1 } Q E p4 es _ ⟨Cc.below, Cc.fr, Cc.kin, Cc.nw, Cc.top, Cc.hf, Cc.hk, Cc.hh⟩ hd ok fun r h' tk news' F N hP => hQ r h' tk news' F N hP
end Mine

namespace Mine
open PySem.Calls PySem.Spec

noncomputable abbrev G0 (w : World) (p : Program) (loose : List Str) (mean : ExcName → Option Value) (mg mb : Str → Option Value) : Gl :=
  ⟨PySem.Challenge.rw_kq0045_01.row.prog, w, hd.heap_39 w.params, p, loose, mean, mg, mb⟩

noncomputable abbrev ent (w : World) (x : Str) (t : Tok) (v : Value) : DictEntry := ⟨PyData.keyHash w.params x, .str x t, v⟩
/-- a filter's dict -/
noncomputable abbrev fdict (w : World) (t0 t1 t2 t3 t4 : Tok) (v0 v1 v2 v3 : Value) : List DictEntry :=
  [ent w "_cont_handler" t0 v0, ent w "_dtd_handler" t1 v1, ent w "_ent_handler" t2 v2, ent w "_err_handler" t3 v3, ent w "_parent" t4 .none]

def namesIn (es : List Expr) : List (Str × Pos) := es.filterMap fun | .Name x p => some (x, p) | _ => none
def HopE (P : Value → Led → Prop) : Value → Led → Prop := fun r n => r = .none ∧ ∃ r₀, P r₀ n

/-- the table of the text is at hand for the tactics from here on -/
theorem fill (w : World) : PySem.Challenge.rw_kq0045_01 = PySem.Challenge.rw_kq0045_01 ∧ hd.heap_39 w.params = hd.heap_39 w.params := by
  k_fill
  exact ⟨rfl, rfl⟩

theorem bodyE {Γ : Gl} {d : Nat} {hn name : Str} {x C dx : Addr} {des : List DictEntry} {n : Nat} {args : List Value} {news : Led} {P : Value → Led → Prop} {attr : Option Value} {v : Value}
    {cn : Str} {cs : Scope} {a : Addr} {ccd : Value} {p1 p2 p3 p4 p5 : Pos} {es : List Expr} {binds : List (Str × Value)} {pl : Sem Bool}
    (hx : (x, instObj C dx) ∈ news) (hdx : (dx, dictOf des n) ∈ news) (hg : plainGet Γ.K C hn = true) (hh : hasDictIn Γ.K C = true) (hf : findIn Γ.K (.ref C) hn = some attr) (hno : noGet Γ.K attr = true)
    (hl : getL hn des = some (some v)) (hv : handedIn v = true) (hs : binds.reverse.lookup ("self" : Str) = some (.ref x)) (hls : cs.names.lookup ("self" : Str) = some NameKind.local)
    (hes : es = (namesIn es).map fun x => .Name x.1 x.2) (hxs : ∀ x ∈ namesIn es, cs.names.lookup x.1 = some .local ∧ (x.1 == ("__debug__" : Str)) = false) (hvs : (namesIn es).map (fun x => binds.reverse.lookup x.1) = args.map some)
    (H : Meth Γ d name v args news P) (he : ∀ L, MCallEq (.Attribute (.Name "self" p1) hn p2) name p3 p4 es (envOf cn cs L a ccd) pl) (hsw : ∀ L, swapsWith (.Call (.Attribute (.Attribute (.Name "self" p1) hn p2) name p3) es [] p4) none p5.line (envOf cn cs L a ccd) = pure false)
    (hin : ∀ L, interactive (envOf cn cs L a ccd) = false) :
    Body Γ d (fun L => envOf cn cs L a ccd) [.Expr (.Call (.Attribute (.Attribute (.Name "self" p1) hn p2) name p3) es [] p4) p5] binds news (HopE P) := by
  intro A L g s Q E C hd hQ
  refine wpAny_execs_cons (wpAny_Expr_any ?_ (hin L) (hsw L))
  refine hop_call hx hdx hg hh hf hno hl hv hs hls (by rw [hes]; exact args_names C.hk _ args hxs hvs) C hd H (he L) fun r h' tk news' F N hP => ?_
  exact wpAny_execs_nil (hQ .next h' tk news' _ F N ⟨rfl, r, hP⟩)

theorem bodyR {Γ : Gl} {d : Nat} {hn name : Str} {x C dx : Addr} {des : List DictEntry} {n : Nat} {args : List Value} {news : Led} {P : Value → Led → Prop} {attr : Option Value} {v : Value}
    {cn : Str} {cs : Scope} {a : Addr} {ccd : Value} {p1 p2 p3 p4 p5 : Pos} {es : List Expr} {binds : List (Str × Value)} {pl : Sem Bool}
    (hx : (x, instObj C dx) ∈ news) (hdx : (dx, dictOf des n) ∈ news) (hg : plainGet Γ.K C hn = true) (hh : hasDictIn Γ.K C = true) (hf : findIn Γ.K (.ref C) hn = some attr) (hno : noGet Γ.K attr = true)
    (hl : getL hn des = some (some v)) (hv : handedIn v = true) (hs : binds.reverse.lookup ("self" : Str) = some (.ref x)) (hls : cs.names.lookup ("self" : Str) = some NameKind.local)
    (hes : es = (namesIn es).map fun x => .Name x.1 x.2) (hxs : ∀ x ∈ namesIn es, cs.names.lookup x.1 = some .local ∧ (x.1 == ("__debug__" : Str)) = false) (hvs : (namesIn es).map (fun x => binds.reverse.lookup x.1) = args.map some)
    (H : Meth Γ d name v args news P) (he : ∀ L, MCallEq (.Attribute (.Name "self" p1) hn p2) name p3 p4 es (envOf cn cs L a ccd) pl) :
    Body Γ d (fun L => envOf cn cs L a ccd) [.Return (some (.Call (.Attribute (.Attribute (.Name "self" p1) hn p2) name p3) es [] p4)) p5] binds news P := by
  intro A L g s Q E C hd hQ
  refine wpAny_execs_cons (wpAny_Return_some ?_)
  refine hop_call hx hdx hg hh hf hno hl hv hs hls (by rw [hes]; exact args_names C.hk _ args hxs hvs) C hd H (he L) fun r h' tk news' F N hP => ?_
  exact hQ (.ret r) h' tk news' _ F N hP

end Mine

namespace Mine
open PySem.Calls PySem.Spec
local macro_rules | `(tactic| k_room) => `(tactic| ((try simp only [depth_under_make, depth_under_kw, depth_in1, depth_deeper, depth_caller]); (try dsimp only); omega))
local macro_rules | `(tactic| k_mem) => `(tactic| first | with_reducible assumption | (with_reducible k_memK) | ((repeat with_reducible refine List.Mem.tail _ ?_); assumption))
local macro_rules | `(tactic| k_all) => `(tactic| assumption)
/-- the call of f raises the exception e, whose tuple is t; rest is the ledger without the two -/
def CallsE (Γ : Gl) (d : Nat) (f : Value) (args : List Value) (news : Led) (e : Addr) (xs : List Value) (rest : Led) : Prop :=
  ∀ (A A₀ : Around) (env : Env) (outer : List Env) (base : Heap) (L : Addr) (h₀ : Heap) (m : Str → Option Value) (s : Shared) (Q E : Value → Shared → Prop),
    Below A₀ base outer h₀ → A.frames = some (env :: outer) → Cx Γ A env L h₀ m s.heap news → A.depth + d < recursionLimit →
    (∀ h' tk g₂ t, Fr h₀ L g₂ m → g₂.UpToSlots h' → RaisedK base (env :: outer) e (.type "ValueError") t xs rest h' → E (.ref e) (St s h' tk)) →
    wpAny (model Γ.prog Γ.w) A (call f args) Q E s
def MethE (Γ : Gl) (d : Nat) (name : Str) (v : Value) (args : List Value) (news : Led) (e : Addr) (xs : List Value) (rest : Led) : Prop :=
  ∀ (A A₀ : Around) (env : Env) (outer : List Env) (base : Heap) (L : Addr) (h₀ : Heap) (m : Str → Option Value) (s : Shared) (Q E : Value → Shared → Prop) (pos : Pos) (es : List Expr) (pl : Sem Bool),
    Below A₀ base outer h₀ → A.frames = some (env :: outer) → Cx Γ A env L h₀ m s.heap news → A.depth + d < recursionLimit → ArgsOk env L m news es args →
    (∀ h' tk g₂ t, Fr h₀ L g₂ m → g₂.UpToSlots h' → RaisedK base (env :: outer) e (.type "ValueError") t xs rest h' → E (.ref e) (St s h' tk)) →
    wpAny (model Γ.prog Γ.w) A (getMethod v name pl) (fun fx s₂ => wpAny (model Γ.prog Γ.w) A (callWith pos fx.1 fx.2 (backTo pos (starEach es env)) []) Q E s₂) E s

theorem callWith_gen {prog : Program} {w : World} {A : Around} {env' : Env} {L : Addr} {h₀ : Heap} {m : Str → Option Value} {s : Shared} {news : Led} {f : Value} {first : List Value} {es : List Expr} {vs : List Value} {pos : Pos}
    {Q E : Value → Shared → Prop} (F : Fr h₀ L s.heap m) (N : News h₀ L s.heap news) (ok : ArgsOk env' L m news es vs)
    (kp : ∀ h, Fr h₀ L h m → News h₀ L h news → ∃ k, (k = Keeper.frame ∨ k = Keeper.machine ∨ k = Keeper.boundFrame) ∧ Looks (model prog w) h (keeperOf f) k)
    (H : ∀ tk, wpAny (model prog w) A (call f (first ++ vs)) Q E (St s s.heap tk)) :
    wpAny (model prog w) A (callWith pos f first (backTo pos (starEach es env')) []) Q E s := by
  have hp := ArgsOk.plain (news := news) (L := L) (m := m) (vs := vs) ok.star pos
  refine callWith_of (P := fun h => Fr h₀ L h m ∧ News h₀ L h news) (by rw [hp]; rfl) (fun h x => kp h x.1 x.2) ?_
  have go : ∀ tk, (Fr h₀ L (St s s.heap tk).heap m ∧ News h₀ L (St s s.heap tk).heap news) ∧ wpAny (model prog w) A (call f (first ++ vs) []) Q E (St s s.heap tk) := fun tk => ⟨⟨F, N⟩, H tk⟩
  have run := ok.run prog w A E h₀ s (fun xs s₁ => (Fr h₀ L s₁.heap m ∧ News h₀ L s₁.heap news) ∧ wpAny (model prog w) A (call f (first ++ xs) []) Q E s₁) pos F N go
  cases es with
  | nil =>
    have e0 : vs = [] := List.length_eq_zero_iff.mp ok.len.symm
    subst e0
    exact evalArgs_nil3 (go s.toks)
  | cons e r =>
    rw [ok.star e (.head _) r] at run ⊢
    exact evalArgs_plain run

section
variable {Γ : Gl} {d : Nat} {name : Str} {x C dx f e : Addr} {es : List DictEntry} {n : Nat} {args xs : List Value} {news rest : Led}
theorem MethE.of_fn (hx : (x, instObj C dx) ∈ news) (hdx : (dx, dictOf es n) ∈ news) (hg : plainGet Γ.K C name = true) (hf : findIn Γ.K (.ref C) name = some (some (.ref f))) (ht : isFn Γ.K (.ref f) = true)
    (hkp : keepIn Γ.K (.ref f) = true) (hl : getL name es = some none) (H : CallsE Γ d (.ref f) (.ref x :: args) news e xs rest) : MethE Γ d name (.ref x) args news e xs rest := by
  intro A A₀ env outer base L h₀ m s Q E pos es' pl B hA C hd ok hQ
  refine method_inst C.fr C.kin (InstAt.of_news C.nw hx hdx) hg hf ht hl ?_
  exact callWith_gen C.fr C.nw ok (fun h F N => keeps_K hkp h (C.kin.keeps F.keep)) fun tk => H A A₀ env outer base L h₀ m (St s s.heap tk) Q E B hA ⟨C.below, C.fr, C.kin, C.nw, C.top, C.hf, C.hk, C.hh⟩ hd fun h' tk' g₂ t a b c => hQ h' tk' g₂ t a b c

/-- the frame at hand can be left with e -/
def Leaves (Γ : Gl) (A : Around) (env : Env) (e : Addr) (xs : List Value) (rest : Led) (g base : Heap) (outer : List Env) (s' : Shared) : Prop :=
  ∀ (Q : Unit → Shared → Prop) (E' : Value → Shared → Prop), (∀ h'' t, RaisedK base outer e (.type "ValueError") t xs rest h'' → g.UpToSlots h'' → Q () { s' with heap := h'' }) → wpAny (model Γ.prog Γ.w) (A.deeper env) (leaving env (.ref e)) Q E' s'

def BodyX (Γ : Gl) (d : Nat) (mk : Addr → Env) (body : List Stmt) (binds : List (Str × Value)) (news : Led) (e : Addr) (xs : List Value) (rest : Led) : Prop :=
  ∀ (A : Around) (base : Heap) (outer : List Env) (L : Addr) (g : Heap) (s : Shared) (Q : Flow → Shared → Prop) (E : Value → Shared → Prop), Below A base outer g →
    Cx Γ (A.deeper (mk L)) (mk L) L g (fun y => binds.reverse.lookup y) s.heap news → A.depth + 1 + d < recursionLimit →
    (∀ h' tk, Leaves Γ A (mk L) e xs rest g base outer (St s h' tk) → E (.ref e) (St s h' tk)) → wpAny (model Γ.prog Γ.w) (A.deeper (mk L)) (execs body (mk L)) Q E s

theorem CallsE.of_def {fname qual : Str} {params : Arguments} {body : List Stmt} {scope : Scope} {dV kV doc pm cdv ct oc : Value} {an od : Option Addr}
    {osl : Array (Option Value)} {binds : List (Str × Value)}
    (ho : List.lookup f Γ.K = some ⟨oc, od, .func (fnOf fname qual params body scope dV kV doc pm an cdv ct), osl⟩) (hcd : codeIn Γ.K cdv qual = true)
    (hbind : ∀ s, BindsTo s (fnOf fname qual params body scope dV kV doc pm an cdv ct) ⟨args, []⟩ binds) (hloc : (binds.all fun x => decide (List.lookup x.1 scope.names = some NameKind.local)) = true)
    (h1 : scope.isCoroutine = false) (h2 : scope.isGenerator = false) (h3 : scope.kind = .function) (h4 : ∀ x ∈ scope.names, x.2 ≠ .cell)
    (hbody : BodyX Γ d (fun L => envOf qual scope L f cdv) body binds news e xs rest) : CallsE Γ (d + 1) (.ref f) args news e xs rest := by
  intro A A₀ env outer base L h₀ m s Q E B hA C hd hQ
  refine wpAny_call (code_def B C.fr C.kin C.nw C.top hA C.hf C.hk ho hcd (by omega) (hbind s) (locs hloc) (fun g L' h₁ FG F' N' B' X' T' => ?_) h1 h2 h3 h4)
  refine hbody A base (env :: outer) L' g _ _ _ B' ⟨⟨_, _, _, B', Around.frames_deeper hA⟩, F', X', N', T', rfl, h3, C.hh⟩ (by omega) fun h' tk lv => ?_
  exact lv _ _ fun h'' t R sm => hQ h'' tk g t FG sm R

theorem CallsE.le {fv : Value} {d' : Nat} (h : d ≤ d') (H : CallsE Γ d fv args news e xs rest) : CallsE Γ d' fv args news e xs rest :=
  fun A A₀ env outer base L h₀ m s Q E B hA C hd hQ => H A A₀ env outer base L h₀ m s Q E B hA C (by omega) hQ
theorem MethE.le {v : Value} {d' : Nat} (h : d ≤ d') (H : MethE Γ d name v args news e xs rest) : MethE Γ d' name v args news e xs rest :=
  fun A A₀ env outer base L h₀ m s Q E pos es pl B hA C hd ok hQ => H A A₀ env outer base L h₀ m s Q E pos es pl B hA C (by omega) ok hQ
end

abbrev excObj (t : Addr) : Obj := { cls := .type "ValueError", data := .fields #[.ref t, .none, .none, .none, .bool false, .none] }

/-- raise x, x the exception e made before -/
theorem bodyRaise {Γ : Gl} {d : Nat} {cn : Str} {cs : Scope} {a : Addr} {ccd : Value} {x : Str} {p q : Pos} {e t : Addr} {xs : List Value} {binds : List (Str × Value)} {news rest : Led} (hs : binds.reverse.lookup x = some (.ref e)) (hls : cs.names.lookup x = some NameKind.local) (hb : (x == ("__debug__" : Str)) = false)
    (he : (e, excObj t) ∈ news) (ht : (t, ({ cls := .type "tuple", data := .seq xs.toArray } : Obj)) ∈ news) (hr : ∀ q ∈ rest, q ∈ news ∧ q.1 ≠ e ∧ q.1 ≠ t) :
    BodyX Γ d (fun L => envOf cn cs L a ccd) [.Raise (some (.Name x p)) none q] binds news e xs rest := by
  intro A base outer L g s Q E B C hd hE
  have ee := (C.nw _ he).1
  have et := (C.nw _ ht).1
  have hne : (t : Nat) ≠ e := fun h => by rw [h] at et; rw [ee] at et; have := congrArg Obj.cls (Option.some.inj et); injection this with this; exact absurd this (by decide)
  refine wpAny_execs_cons (Raise_new C.hh ?_)
  refine nameX_L C.fr hs ⟨e, _, _, _, _, _, excClass_ValueError, rfl, ee, rfl, rfl, rfl, ?_⟩ C.hk hls hb
  refine hE s.heap s.toks fun Q' E' hQ' => ?_
  have gne : ∀ b, (b = e ∨ b = t) → g.get? b = none := fun b hb => by
    rcases hb with rfl | rfl
    · exact (C.nw _ he).2.2
    · exact (C.nw _ ht).2.2
  have keepG : ∀ b o, s.heap.get? b = some o → b ≠ e → b ≠ t → (hideAll s.heap [e, t]).get? b = some o := fun b o h h1 h2 => hideAll_get _ h (by
    intro hm
    rcases List.mem_cons.mp hm with h | h
    · exact h1 h
    · exact h2 (List.mem_singleton.mp h))
  have hLe : (L : Nat) ≠ e := fun h => (C.nw _ he).2.1 h.symm
  have hLt : (L : Nat) ≠ t := fun h => (C.nw _ ht).2.1 h.symm
  have F' : Fr g L (hideAll s.heap [e, t]) (fun y => binds.reverse.lookup y) := by
    obtain ⟨⟨oL, es, ep, k1, k2, k3, k4⟩, fk, fa⟩ := C.fr
    refine ⟨⟨oL, es, ep, keepG _ _ k1 hLe hLt, k2, k3, k4⟩, fun b o h => keepG b o (fk b o h) (fun h2 => ?_) fun h2 => ?_, fa⟩
    · rw [gne b (.inl h2)] at h; cases h
    · rw [gne b (.inr h2)] at h; cases h
  refine leave_raiseK (h := hideAll s.heap [e, t]) (news := rest) (vs := xs) (cls := .type "ValueError") B ⟨fun b o h => of_hideAll _ h, hideAll_none _ (.head _), t, ee, hideAll_none _ (.tail _ (.head _)), et⟩ F' (fun q hq => ?_) (fun h' t' R sm => ?_) C.hk
  · obtain ⟨h1, h2, h3⟩ := hr q hq
    exact ⟨keepG _ _ (C.nw q h1).1 h2 h3, (C.nw q h1).2⟩
  · exact hQ' h' t' R sm
theorem bodyXE {Γ : Gl} {d : Nat} {hn name : Str} {x C dx e : Addr} {des : List DictEntry} {n : Nat} {args xs : List Value} {news rest : Led} {attr : Option Value} {v : Value}
    {cn : Str} {cs : Scope} {a : Addr} {ccd : Value} {p1 p2 p3 p4 p5 : Pos} {es : List Expr} {binds : List (Str × Value)} {pl : Sem Bool}
    (hx : (x, instObj C dx) ∈ news) (hdx : (dx, dictOf des n) ∈ news) (hg : plainGet Γ.K C hn = true) (hh : hasDictIn Γ.K C = true) (hf : findIn Γ.K (.ref C) hn = some attr) (hno : noGet Γ.K attr = true)
    (hl : getL hn des = some (some v)) (hv : handedIn v = true) (hs : binds.reverse.lookup ("self" : Str) = some (.ref x)) (hls : cs.names.lookup ("self" : Str) = some NameKind.local)
    (hes : es = (namesIn es).map fun x => .Name x.1 x.2) (hxs : ∀ x ∈ namesIn es, cs.names.lookup x.1 = some .local ∧ (x.1 == ("__debug__" : Str)) = false) (hvs : (namesIn es).map (fun x => binds.reverse.lookup x.1) = args.map some)
    (H : MethE Γ d name v args news e xs rest) (he : ∀ L, MCallEq (.Attribute (.Name "self" p1) hn p2) name p3 p4 es (envOf cn cs L a ccd) pl) (hsw : ∀ L, swapsWith (.Call (.Attribute (.Attribute (.Name "self" p1) hn p2) name p3) es [] p4) none p5.line (envOf cn cs L a ccd) = pure false)
    (hin : ∀ L, interactive (envOf cn cs L a ccd) = false) :
    BodyX Γ d (fun L => envOf cn cs L a ccd) [.Expr (.Call (.Attribute (.Attribute (.Name "self" p1) hn p2) name p3) es [] p4) p5] binds news e xs rest := by
  intro A base outer L g s Q E B C hd hE
  refine wpAny_execs_cons (wpAny_Expr_any ?_ (hin L) (hsw L))
  refine MethodCall_ ?_ (he L)
  refine Attribute_Name_ (nameX_L C.fr hs ?_ C.hk hls)
  refine get_own C.fr C.kin (InstAt.of_news C.nw hx hdx) hg hh hf hno hl hv ?_
  refine H (A.deeper (envOf cn cs L a ccd)) A (envOf cn cs L a ccd) outer base L g _ { s with toks := s.toks + 1 } _ E p4 es _ B (Around.frames_deeper B.stack) ⟨C.below, C.fr, C.kin, C.nw, C.top, C.hf, C.hk, C.hh⟩ hd (by rw [hes]; exact args_names C.hk _ args hxs hvs) fun h' tk g₂ t F sm R => ?_
  exact hE h' tk fun Q' E' hQ' => leave_onK B F R sm fun h'' R' sm' => hQ' h'' t R' sm'
end Mine

namespace Mine
open PySem.Calls PySem.Spec
local macro_rules | `(tactic| k_room) => `(tactic| ((try simp only [depth_under_make, depth_under_kw, depth_in1, depth_deeper, depth_caller]); (try dsimp only); omega))
local macro_rules | `(tactic| k_mem) => `(tactic| assumption)
theorem fill4 (w : World) : PySem.Challenge.rw_kq0045_01 = PySem.Challenge.rw_kq0045_01 ∧ hd.heap_39 w.params = hd.heap_39 w.params := by
  k_fill
  exact ⟨rfl, rfl⟩

/-- what a new filter lays -/
noncomputable abbrev newFilter (w : World) (x d c dc t dt r dr e de : Addr) (tl t0 t1 t2 t3 t4 : Tok) : Led :=
  [(e, instObj 52 de), (de, dictOf [] 0), (r, instObj 213 dr), (dr, dictOf [] 0), (t, instObj 192 dt), (dt, dictOf [] 0), (c, instObj 164 dc), (dc, dictOf [ent w "_locator" tl .none] 1),
   (x, instObj 543 d), (d, dictOf (fdict w t0 t1 t2 t3 t4 (.ref c) (.ref t) (.ref r) (.ref e)) 5)]

set_option maxHeartbeats 4000000 in
theorem mk_filter {w : World} {p : Program} {loose : List Str} {mean : ExcName → Option Value} {mg mb : Str → Option Value} {news : Led} :
    Calls (G0 w p loose mean mg mb) 8 (.ref 543) [] news fun v n => ∃ x d c dc t dt r dr e de : Nat, ∃ tl t0 t1 t2 t3 t4 : Tok, v = .ref x ∧ n = newFilter w x d c dc t dt r dr e de tl t0 t1 t2 t3 t4 ++ news ∧
      (∀ q ∈ news, q.1 < d) ∧ d < x ∧ x < dc ∧ dc < c ∧ c < dt ∧ dt < t ∧ t < dr ∧ dr < r ∧ r < de ∧ de < e := by
  intro A env L h₀ m s Q E C hdp hQ
  obtain ⟨⟨A₀, base, outer, B, hA⟩, F, X, N, T, hf, hk, hh⟩ := C
  obtain ⟨ah, dp, fr, gd, un⟩ := A
  obtain ⟨⟨kind, nms, ig, ic, mr⟩, locals, globals, cells, qual, func, code, frame, builtins⟩ := env
  dsimp only at hA hf hk hh
  subst hA hf hk hh
  dsimp only [G0] at hdp X T ⊢
  k_steps
  refine hQ _ _ _ _ (by assumption) (by assumption) ⟨_, _, _, _, _, _, _, _, _, _, _, _, _, _, _, _, rfl, rfl, by assumption, ?_⟩
  omega
end Mine

namespace Mine
open PySem.Calls PySem.Spec
local macro_rules | `(tactic| k_room) => `(tactic| ((try simp only [depth_under_make, depth_under_kw, depth_in1, depth_deeper, depth_caller]); (try dsimp only); omega))
local macro_rules | `(tactic| k_mem) => `(tactic| first | with_reducible assumption | (with_reducible k_memK) | ((repeat with_reducible refine List.Mem.tail _ ?_); assumption))
local macro_rules | `(tactic| k_all) => `(tactic| assumption)
local macro_rules | `(tactic| kn_code) => `(tactic| first | exact codeHd_of_K (c := 558) (P := 554) (by k_asm) (by kernel_rfl) | exact codeHd_of_K (c := 551) (P := 547) (by k_asm) (by kernel_rfl))
local macro_rules | `(tactic| walk_at "eval Lambda") => `(tactic| ((refine' kla_eval ?d0 ?_; (case d0 => exact rfl)); (refine' kla_hit ?F ?N ?T ?C ?cd ?mem ?t ?n ?cl ?_; (case F => k_asm); (case N => k_asm); (case T => k_asm); (case cd => exact rfl); (case C => kn_code); (case mem => (repeat with_reducible refine List.Mem.tail _ ?_); assumption); (case t => kn_triples); (case n => kn_hit); (case cl => exact rfl); k_whole); intro f' ct' h' tk' F' N' l1; (try dsimp only at N'); (try k_lt l1)))
theorem fill5 (w : World) : PySem.Challenge.rw_kq0045_01 = PySem.Challenge.rw_kq0045_01 ∧ hd.heap_39 w.params = hd.heap_39 w.params := by
  k_fill
  exact ⟨rfl, rfl⟩

abbrev tupObj (vs : List Value) : Obj := { cls := .type "tuple", data := .seq vs.toArray }

/-- a listener's lambda: f hears kind for number, size arguments; S is what it stands on -/
def Lam (Γ : Gl) (heard : Addr) (number kind : Int) (size : Nat) (f : Addr) (S : Led) : Prop :=
  (∃ oc od fd sl, (f, (⟨oc, od, .func fd, sl⟩ : Obj)) ∈ S) ∧
  ∀ (news : Led) (k : Nat) (args : List Value), args.length = size → (∀ q ∈ S, q ∈ news) → (∀ q ∈ news, q.1 ≠ heard) →
    Calls Γ 3 (.ref f) args ((heard, W.listOf #[] k) :: news) fun r n => ∃ t l : Nat, ∃ tk tn tq : Tok, r = .str (Str.ofString "") tk ∧
      n = (t, tupObj [.int number tn, .int kind tq, .ref l]) :: (l, W.listOf args.toArray 0) :: (heard, W.listOf #[.ref t] (k + 1)) :: news ∧ (∀ q ∈ news, q.1 < l) ∧ heard < l ∧ l < t

def hq : Str := Str.ofString "_law_hears" ++ Str.ofString ".<locals>." ++ Str.ofString "<lambda>"
def CodeIs (n : Led) (c : Addr) (q : Str) : Prop := ∃ oc vs t, (c, oc) ∈ n ∧ oc.data = .fields vs ∧ vs[1]? = some (.str q t)
/-- the table of _law_hears is full -/
def HearsTab (n : Led) : Prop := ∃ c0 c1 c2 c3 c4 : Nat,
  (554, tabObj #[rawInt 233, rawInt 12, .ref c0, rawInt 233, rawInt 60, .ref c1, rawInt 233, rawInt 111, .ref c2, rawInt 233, rawInt 168, .ref c3, rawInt 233, rawInt 231, .ref c4]) ∈ n ∧
    CodeIs n c0 hq ∧ CodeIs n c1 hq ∧ CodeIs n c2 hq ∧ CodeIs n c3 hq ∧ CodeIs n c4 hq

/-- an object that nothing here ever changes, by its kind -/
def still (o : Obj) : Bool := match o.data with
  | .func _ => true
  | .fields vs => (match (vs[1]? : Option Value) with | some (.str _ _) => true | _ => false)
  | .cell _ => true
  | _ => false
theorem still_fields {o : Obj} {vs : Array Value} {x : Str} {t : Tok} (h : o.data = .fields vs) (hv : vs[1]? = some (.str x t)) : still o = true := by
  unfold still; rw [h]; dsimp only; rw [hv]
theorem still_cell {o : Obj} {v : Option Value} (h : o.data = .cell v) : still o = true := by unfold still; rw [h]
/-- what a call of _law_hears gives: nf, that f stands on, is of base, the table, or new over news -/
def Heard (Γ : Gl) (heard : Addr) (number kind : Int) (size : Nat) (base news : Led) (v : Value) (n : Led) : Prop :=
  ∃ f nf, v = .ref f ∧ (∀ q ∈ nf, q ∈ n) ∧ (∀ q ∈ nf, q ∈ base ∨ q.1 = 554 ∨ ∀ z ∈ news, @LT.lt Nat _ z.1 q.1) ∧ (∃ S, (∀ q ∈ S, q ∈ nf) ∧ (∀ q ∈ S, still q.2 = true) ∧ Lam Γ heard number kind size f S) ∧ HearsTab nf ∧ ∀ q ∈ news, q.1 ≠ 554 → q ∈ n

theorem CodeIs.mono {n n' : Led} {c : Addr} {q : Str} (h : ∀ z ∈ n, z ∈ n') : CodeIs n c q → CodeIs n' c q := fun ⟨oc, vs, t, a, b, d⟩ => ⟨oc, vs, t, h _ a, b, d⟩
theorem HearsTab.mono {n n' : Led} (h : ∀ z ∈ n, z ∈ n') : HearsTab n → HearsTab n' := fun ⟨c0, c1, c2, c3, c4, a, b0, b1, b2, b3, b4⟩ => ⟨c0, c1, c2, c3, c4, h _ a, b0.mono h, b1.mono h, b2.mono h, b3.mono h, b4.mono h⟩

section
variable {Γ : Gl} {heard : Addr} {number kind : Int} {size : Nat} {f c cn ck ch : Addr} {n base news : Led} {oc on ok oh : Obj} {nm q : Str} {ps : Arguments} {b : Expr} {sc : Scope} {x1 x2 x3 x4 : Str} {t4 : Tok} {pm ctv : Value}
    {vs : Array Value} {v1 v2 v3 : Option Value}
theorem heard_hit (hb : ∀ q ∈ base, q ∈ n) (hT : HearsTab base) (hk : ∀ q ∈ news, q ∈ n)
    (h1 : (f, kla_obj nm q ps b sc [(x1, cn), (x2, ck), (x3, ch)] pm c ctv) ∈ n) (h2 : (c, oc) ∈ base) (h3 : (cn, on) ∈ n) (h4 : (ck, ok) ∈ n) (h5 : (ch, oh) ∈ n)
    (k2 : oc.data = .fields vs) (k2' : vs[1]? = some (.str x4 t4)) (k3 : on.data = .cell v1) (k4 : ok.data = .cell v2) (k5 : oh.data = .cell v3)
    (g1 : ∀ z ∈ news, @LT.lt Nat _ z.1 f) (g3 : ∀ z ∈ news, @LT.lt Nat _ z.1 cn) (g4 : ∀ z ∈ news, @LT.lt Nat _ z.1 ck) (g5 : ∀ z ∈ news, @LT.lt Nat _ z.1 ch)
    (hL : Lam Γ heard number kind size f [(f, kla_obj nm q ps b sc [(x1, cn), (x2, ck), (x3, ch)] pm c ctv), (c, oc), (cn, on), (ck, ok), (ch, oh)]) :
    Heard Γ heard number kind size base news (.ref f) n := by
  refine ⟨f, [(f, kla_obj nm q ps b sc [(x1, cn), (x2, ck), (x3, ch)] pm c ctv), (cn, on), (ck, ok), (ch, oh)] ++ base, rfl, ?_, ?_, ⟨_, ?_, ?_, hL⟩, ?_, fun q hq _ => hk q hq⟩
  · intro z hz
    simp only [List.cons_append, List.nil_append, List.mem_cons] at hz
    rcases hz with rfl | rfl | rfl | rfl | hz
    all_goals first | assumption | exact hb _ hz
  · intro z hz
    simp only [List.cons_append, List.nil_append, List.mem_cons] at hz
    rcases hz with rfl | rfl | rfl | rfl | hz
    · exact .inr (.inr g1)
    · exact .inr (.inr g3)
    · exact .inr (.inr g4)
    · exact .inr (.inr g5)
    · exact .inl hz
  · intro z hz
    simp only [List.mem_cons, List.not_mem_nil, or_false] at hz
    simp only [List.cons_append, List.nil_append, List.mem_cons]
    rcases hz with rfl | rfl | rfl | rfl | rfl
    · exact .inl rfl
    · exact .inr (.inr (.inr (.inr h2)))
    · exact .inr (.inl rfl)
    · exact .inr (.inr (.inl rfl))
    · exact .inr (.inr (.inr (.inl rfl)))
  · intro z hz
    simp only [List.mem_cons, List.not_mem_nil, or_false] at hz
    rcases hz with rfl | rfl | rfl | rfl | rfl
    · rfl
    · exact still_fields k2 k2'
    · exact still_cell k3
    · exact still_cell k4
    · exact still_cell k5
  · exact hT.mono fun q hq => List.mem_append.mpr (.inr hq)
theorem heard_first {c0 c1 c2 c3 c4 : Nat} {o0 o1 o2 o3 o4 : Obj} {w0 w1 w2 w3 w4 : Array Value} {t0 t1 t2 t3 : Tok} (hk : ∀ q ∈ news, q.1 ≠ 554 → q ∈ n)
    (hM : (554, tabObj #[rawInt 233, rawInt 12, .ref c0, rawInt 233, rawInt 60, .ref c1, rawInt 233, rawInt 111, .ref c2, rawInt 233, rawInt 168, .ref c3, rawInt 233, rawInt 231, .ref c4]) ∈ n)
    (m0 : (c0, o0) ∈ n) (m1 : (c1, o1) ∈ n) (m2 : (c2, o2) ∈ n) (m3 : (c3, o3) ∈ n) (m4 : (c4, o4) ∈ n)
    (d0 : o0.data = .fields w0) (d1 : o1.data = .fields w1) (d2 : o2.data = .fields w2) (d3 : o3.data = .fields w3) (d4 : o4.data = .fields w4)
    (e0 : w0[1]? = some (.str hq t0)) (e1 : w1[1]? = some (.str hq t1)) (e2 : w2[1]? = some (.str hq t2)) (e3 : w3[1]? = some (.str hq t3)) (e4 : w4[1]? = some (.str hq t4))
    (h1 : (f, kla_obj nm q ps b sc [(x1, cn), (x2, ck), (x3, ch)] pm c1 ctv) ∈ n) (h3 : (cn, on) ∈ n) (h4 : (ck, ok) ∈ n) (h5 : (ch, oh) ∈ n)
    (k3 : on.data = .cell v1) (k4 : ok.data = .cell v2) (k5 : oh.data = .cell v3)
    (a0 : ∀ z ∈ news, @LT.lt Nat _ z.1 c0) (a1 : ∀ z ∈ news, @LT.lt Nat _ z.1 c1) (a2 : ∀ z ∈ news, @LT.lt Nat _ z.1 c2) (a3 : ∀ z ∈ news, @LT.lt Nat _ z.1 c3) (a4 : ∀ z ∈ news, @LT.lt Nat _ z.1 c4)
    (g1 : ∀ z ∈ news, @LT.lt Nat _ z.1 f) (g3 : ∀ z ∈ news, @LT.lt Nat _ z.1 cn) (g4 : ∀ z ∈ news, @LT.lt Nat _ z.1 ck) (g5 : ∀ z ∈ news, @LT.lt Nat _ z.1 ch)
    (hL : Lam Γ heard number kind size f [(f, kla_obj nm q ps b sc [(x1, cn), (x2, ck), (x3, ch)] pm c1 ctv), (c1, o1), (cn, on), (ck, ok), (ch, oh)]) :
    Heard Γ heard number kind size [] news (.ref f) n := by
  refine ⟨f, (554, tabObj #[rawInt 233, rawInt 12, .ref c0, rawInt 233, rawInt 60, .ref c1, rawInt 233, rawInt 111, .ref c2, rawInt 233, rawInt 168, .ref c3, rawInt 233, rawInt 231, .ref c4]) ::
    [(f, kla_obj nm q ps b sc [(x1, cn), (x2, ck), (x3, ch)] pm c1 ctv), (cn, on), (ck, ok), (ch, oh), (c0, o0), (c1, o1), (c2, o2), (c3, o3), (c4, o4)], rfl, ?_, ?_, ⟨_, ?_, ?_, hL⟩, ?_, hk⟩
  · intro z hz
    simp only [List.mem_cons, List.not_mem_nil, or_false] at hz
    rcases hz with rfl | rfl | rfl | rfl | rfl | rfl | rfl | rfl | rfl | rfl
    all_goals assumption
  · intro z hz
    simp only [List.mem_cons, List.not_mem_nil, or_false] at hz
    rcases hz with rfl | rfl | rfl | rfl | rfl | rfl | rfl | rfl | rfl | rfl
    · exact .inr (.inl rfl)
    all_goals exact .inr (.inr (by assumption))
  · intro z hz
    simp only [List.mem_cons, List.not_mem_nil, or_false] at hz
    simp only [List.mem_cons]
    rcases hz with rfl | rfl | rfl | rfl | rfl
    all_goals simp
  · intro z hz
    simp only [List.mem_cons, List.not_mem_nil, or_false] at hz
    rcases hz with rfl | rfl | rfl | rfl | rfl
    · rfl
    · exact still_fields d1 e1
    · exact still_cell k3
    · exact still_cell k4
    · exact still_cell k5
  · exact ⟨c0, c1, c2, c3, c4, .head _, ⟨o0, w0, t0, by simp, d0, e0⟩, ⟨o1, w1, t1, by simp, d1, e1⟩, ⟨o2, w2, t2, by simp, d2, e2⟩, ⟨o3, w3, t3, by simp, d3, e3⟩, ⟨o4, w4, t4, by simp, d4, e4⟩⟩
end
theorem len0 {l : List Value} (h : l.length = 0) : l = [] := List.length_eq_zero_iff.mp h
theorem len1 {l : List Value} (h : l.length = 1) : ∃ a, l = [a] := by
  rcases l with _ | ⟨a, _ | ⟨b, r⟩⟩ <;> simp at h; exact ⟨a, rfl⟩
theorem len2 {l : List Value} (h : l.length = 2) : ∃ a b, l = [a, b] := by
  rcases l with _ | ⟨a, l⟩ <;> simp at h; obtain ⟨b, rfl⟩ := len1 h; exact ⟨a, b, rfl⟩
theorem len3 {l : List Value} (h : l.length = 3) : ∃ a b c, l = [a, b, c] := by
  rcases l with _ | ⟨a, l⟩ <;> simp at h; obtain ⟨b, c, rfl⟩ := len2 h; exact ⟨a, b, c, rfl⟩
theorem len4 {l : List Value} (h : l.length = 4) : ∃ a b c d, l = [a, b, c, d] := by
  rcases l with _ | ⟨a, l⟩ <;> simp at h; obtain ⟨b, c, d, rfl⟩ := len3 h; exact ⟨a, b, c, d, rfl⟩

theorem allLt_all {a : Addr} {l : Led} (h : AllLt a l) : ∀ q ∈ l, q.1 < a := fun q hq => tb_ltOf h q hq
theorem fresh_of {news : Led} {L : Addr} (h : ∀ p : Addr × Obj, p ∈ news → p.fst < L) : ∀ p : Addr × Obj, p ∈ news → @LT.lt Nat _ p.1 L := h
theorem fresh_of2 {news : Led} {o : Obj} {L : Addr} (h : @LT.lt Nat _ 554 L ∧ AllLt L news) : ∀ p : Addr × Obj, p ∈ (554, o) :: news → @LT.lt Nat _ p.1 L := fun p hp => (List.mem_cons.mp hp).elim (fun e => e ▸ h.1) (allLt_all h.2 p)

set_option maxHeartbeats 4000000 in
theorem hears_first {w : World} {p : Program} {loose : List Str} {mean : ExcName → Option Value} {mg mb : Str → Option Value} {news : Led} {heard : Addr} {number kind : Int} {tn tk ts : Tok} (hne : ∀ q ∈ news, q.1 ≠ 554) :
    Calls (G0 w p loose mean mg mb) 8 (.ref 559) [.ref heard, .int number tn, .int kind tk, .int 1 ts] ((554, tabObj #[]) :: news) (Heard (G0 w p loose mean mg mb) heard number kind 1 [] ((554, tabObj #[]) :: news)) := by
  intro A env L h₀ m s Q E C hdp hQ
  obtain ⟨⟨A₀, base, outer, B, hA⟩, F, X, N, T, hf, hk, hh⟩ := C
  obtain ⟨ah, dp, fr, gd, un⟩ := A
  obtain ⟨⟨kind, nms, ig, ic, mr⟩, locals, globals, cells, qual, func, code, frame, builtins⟩ := env
  dsimp only at hA hf hk hh
  subst hA hf hk hh
  dsimp only [G0] at hdp X T ⊢
  have CH : CodeHd h₀ 558 554 := codeHd_of_K X (by kernel_rfl)
  k_steps
  refine hQ _ _ _ _ (by assumption) (by assumption) (heard_first ?_ (by k_mem) (by k_mem) (by k_mem) (by k_mem) (by k_mem) (by k_mem) (by assumption) (by assumption) (by assumption) (by assumption) (by assumption)  (by assumption) (by assumption) (by assumption) (by assumption) (by assumption)  (by k_mem) (by k_mem) (by k_mem) (by k_mem) (by assumption) (by assumption) (by assumption)  (fun z hz => by have h0 := fresh_of2 (by assumption) z hz; show @LT.lt Nat _ _ _; omega) (fun z hz => by have h0 := fresh_of2 (by assumption) z hz; show @LT.lt Nat _ _ _; omega) (fun z hz => by have h0 := fresh_of2 (by assumption) z hz; show @LT.lt Nat _ _ _; omega) (fun z hz => by have h0 := fresh_of2 (by assumption) z hz; show @LT.lt Nat _ _ _; omega) (fun z hz => by have h0 := fresh_of2 (by assumption) z hz; show @LT.lt Nat _ _ _; omega) (fun z hz => by have h0 := fresh_of2 (by assumption) z hz; show @LT.lt Nat _ _ _; omega) (fun z hz => by have h0 := fresh_of2 (by assumption) z hz; show @LT.lt Nat _ _ _; omega) (fun z hz => by have h0 := fresh_of2 (by assumption) z hz; show @LT.lt Nat _ _ _; omega) (fun z hz => by have h0 := fresh_of2 (by assumption) z hz; show @LT.lt Nat _ _ _; omega)  ?_)
  · intro q hq hq'
    rcases List.mem_cons.mp hq with rfl | hq
    · exact absurd rfl hq'
    · repeat (first | exact hq | refine List.Mem.tail _ ?_)
  refine ⟨⟨_, _, _, _, List.Mem.head _⟩, fun news' k args hlen hsub hne => ?_⟩
  obtain ⟨xa, rfl⟩ := len1 hlen
  have m1 := hsub _ (.head _)
  have m2 := hsub _ (.tail _ (.head _))
  have m3 := hsub _ (.tail _ (.tail _ (.head _)))
  have m4 := hsub _ (.tail _ (.tail _ (.tail _ (.head _))))
  have m5 := hsub _ (.tail _ (.tail _ (.tail _ (.tail _ (.head _)))))
  intro A env L h₀ m s Q E C hdp hQ
  obtain ⟨⟨A₀, base, outer, B, hA⟩, F, X, N, T, hf, hk, hh⟩ := C
  obtain ⟨ah, dp, fr, gd, un⟩ := A
  obtain ⟨⟨kind, nms, ig, ic, mr⟩, locals, globals, cells, qual, func, code, frame, builtins⟩ := env
  dsimp only at hA hf hk hh
  subst hA hf hk hh
  dsimp only [G0] at hdp X T ⊢
  have CH : CodeHd h₀ 558 554 := codeHd_of_K X (by kernel_rfl)
  k_steps
  refine hQ _ _ _ _ (by assumption) (by assumption) ⟨_, _, _, _, _, rfl, rfl, ?_⟩
  exact ⟨allLt_all (And.right (by assumption)), (by show @LT.lt Nat _ _ _; omega), (by show @LT.lt Nat _ _ _; omega)⟩
set_option maxHeartbeats 4000000 in
theorem hears_hit0 {w : World} {p : Program} {loose : List Str} {mean : ExcName → Option Value} {mg mb : Str → Option Value} {news : Led} {heard : Addr} {number kind : Int} {tn tk ts : Tok} {base₀ : Led} (hb₀ : ∀ q ∈ base₀, q ∈ news) (hT : HearsTab base₀) :
    Calls (G0 w p loose mean mg mb) 8 (.ref 559) [.ref heard, .int number tn, .int kind tk, .int 0 ts] news (Heard (G0 w p loose mean mg mb) heard number kind 0 base₀ news) := by
  intro A env L h₀ m s Q E C hdp hQ
  obtain ⟨⟨A₀, base, outer, B, hA⟩, F, X, N, T, hf, hk, hh⟩ := C
  obtain ⟨ah, dp, fr, gd, un⟩ := A
  obtain ⟨⟨kind, nms, ig, ic, mr⟩, locals, globals, cells, qual, func, code, frame, builtins⟩ := env
  dsimp only at hA hf hk hh
  subst hA hf hk hh
  dsimp only [G0] at hdp X T ⊢
  have CH : CodeHd h₀ 558 554 := codeHd_of_K X (by kernel_rfl)
  obtain ⟨c0, c1, c2, c3, c4, hM, ⟨oc0, vs0, t0, hm0, hd0, hv0⟩, ⟨oc1, vs1, t1, hm1, hd1, hv1⟩, ⟨oc2, vs2, t2, hm2, hd2, hv2⟩, ⟨oc3, vs3, t3, hm3, hd3, hv3⟩, ⟨oc4, vs4, t4, hm4, hd4, hv4⟩⟩ := id hT
  have hM' := hb₀ _ hM
  have hm0' := hb₀ _ hm0
  have hm1' := hb₀ _ hm1
  have hm2' := hb₀ _ hm2
  have hm3' := hb₀ _ hm3
  have hm4' := hb₀ _ hm4
  k_steps
  refine hQ _ _ _ _ (by assumption) (by assumption) (heard_hit (fun q hq => by have hq := hb₀ q hq; repeat (first | exact hq | refine List.Mem.tail _ ?_)) hT (fun q hq => by repeat (first | exact hq | refine List.Mem.tail _ ?_)) (by k_mem) (by assumption) (by k_mem) (by k_mem) (by k_mem) (by assumption) (by assumption) (by assumption) (by assumption) (by assumption)  (fun z hz => by have h0 := fresh_of (by assumption) z hz; show @LT.lt Nat _ _ _; omega) (fun z hz => by have h0 := fresh_of (by assumption) z hz; show @LT.lt Nat _ _ _; omega) (fun z hz => by have h0 := fresh_of (by assumption) z hz; show @LT.lt Nat _ _ _; omega) (fun z hz => by have h0 := fresh_of (by assumption) z hz; show @LT.lt Nat _ _ _; omega)  ?_)
  refine ⟨⟨_, _, _, _, List.Mem.head _⟩, fun news' k args hlen hsub hne => ?_⟩
  obtain rfl := len0 hlen
  have m1 := hsub _ (.head _)
  have m2 := hsub _ (.tail _ (.head _))
  have m3 := hsub _ (.tail _ (.tail _ (.head _)))
  have m4 := hsub _ (.tail _ (.tail _ (.tail _ (.head _))))
  have m5 := hsub _ (.tail _ (.tail _ (.tail _ (.tail _ (.head _)))))
  intro A env L h₀ m s Q E C hdp hQ
  obtain ⟨⟨A₀, base, outer, B, hA⟩, F, X, N, T, hf, hk, hh⟩ := C
  obtain ⟨ah, dp, fr, gd, un⟩ := A
  obtain ⟨⟨kind, nms, ig, ic, mr⟩, locals, globals, cells, qual, func, code, frame, builtins⟩ := env
  dsimp only at hA hf hk hh
  subst hA hf hk hh
  dsimp only [G0] at hdp X T ⊢
  have CH : CodeHd h₀ 558 554 := codeHd_of_K X (by kernel_rfl)
  k_steps
  refine hQ _ _ _ _ (by assumption) (by assumption) ⟨_, _, _, _, _, rfl, rfl, ?_⟩
  exact ⟨allLt_all (And.right (by assumption)), (by show @LT.lt Nat _ _ _; omega), (by show @LT.lt Nat _ _ _; omega)⟩
set_option maxHeartbeats 4000000 in
theorem hears_hit1 {w : World} {p : Program} {loose : List Str} {mean : ExcName → Option Value} {mg mb : Str → Option Value} {news : Led} {heard : Addr} {number kind : Int} {tn tk ts : Tok} {base₀ : Led} (hb₀ : ∀ q ∈ base₀, q ∈ news) (hT : HearsTab base₀) :
    Calls (G0 w p loose mean mg mb) 8 (.ref 559) [.ref heard, .int number tn, .int kind tk, .int 1 ts] news (Heard (G0 w p loose mean mg mb) heard number kind 1 base₀ news) := by
  intro A env L h₀ m s Q E C hdp hQ
  obtain ⟨⟨A₀, base, outer, B, hA⟩, F, X, N, T, hf, hk, hh⟩ := C
  obtain ⟨ah, dp, fr, gd, un⟩ := A
  obtain ⟨⟨kind, nms, ig, ic, mr⟩, locals, globals, cells, qual, func, code, frame, builtins⟩ := env
  dsimp only at hA hf hk hh
  subst hA hf hk hh
  dsimp only [G0] at hdp X T ⊢
  have CH : CodeHd h₀ 558 554 := codeHd_of_K X (by kernel_rfl)
  obtain ⟨c0, c1, c2, c3, c4, hM, ⟨oc0, vs0, t0, hm0, hd0, hv0⟩, ⟨oc1, vs1, t1, hm1, hd1, hv1⟩, ⟨oc2, vs2, t2, hm2, hd2, hv2⟩, ⟨oc3, vs3, t3, hm3, hd3, hv3⟩, ⟨oc4, vs4, t4, hm4, hd4, hv4⟩⟩ := id hT
  have hM' := hb₀ _ hM
  have hm0' := hb₀ _ hm0
  have hm1' := hb₀ _ hm1
  have hm2' := hb₀ _ hm2
  have hm3' := hb₀ _ hm3
  have hm4' := hb₀ _ hm4
  k_steps
  refine hQ _ _ _ _ (by assumption) (by assumption) (heard_hit (fun q hq => by have hq := hb₀ q hq; repeat (first | exact hq | refine List.Mem.tail _ ?_)) hT (fun q hq => by repeat (first | exact hq | refine List.Mem.tail _ ?_)) (by k_mem) (by assumption) (by k_mem) (by k_mem) (by k_mem) (by assumption) (by assumption) (by assumption) (by assumption) (by assumption)  (fun z hz => by have h0 := fresh_of (by assumption) z hz; show @LT.lt Nat _ _ _; omega) (fun z hz => by have h0 := fresh_of (by assumption) z hz; show @LT.lt Nat _ _ _; omega) (fun z hz => by have h0 := fresh_of (by assumption) z hz; show @LT.lt Nat _ _ _; omega) (fun z hz => by have h0 := fresh_of (by assumption) z hz; show @LT.lt Nat _ _ _; omega)  ?_)
  refine ⟨⟨_, _, _, _, List.Mem.head _⟩, fun news' k args hlen hsub hne => ?_⟩
  obtain ⟨xa, rfl⟩ := len1 hlen
  have m1 := hsub _ (.head _)
  have m2 := hsub _ (.tail _ (.head _))
  have m3 := hsub _ (.tail _ (.tail _ (.head _)))
  have m4 := hsub _ (.tail _ (.tail _ (.tail _ (.head _))))
  have m5 := hsub _ (.tail _ (.tail _ (.tail _ (.tail _ (.head _)))))
  intro A env L h₀ m s Q E C hdp hQ
  obtain ⟨⟨A₀, base, outer, B, hA⟩, F, X, N, T, hf, hk, hh⟩ := C
  obtain ⟨ah, dp, fr, gd, un⟩ := A
  obtain ⟨⟨kind, nms, ig, ic, mr⟩, locals, globals, cells, qual, func, code, frame, builtins⟩ := env
  dsimp only at hA hf hk hh
  subst hA hf hk hh
  dsimp only [G0] at hdp X T ⊢
  have CH : CodeHd h₀ 558 554 := codeHd_of_K X (by kernel_rfl)
  k_steps
  refine hQ _ _ _ _ (by assumption) (by assumption) ⟨_, _, _, _, _, rfl, rfl, ?_⟩
  exact ⟨allLt_all (And.right (by assumption)), (by show @LT.lt Nat _ _ _; omega), (by show @LT.lt Nat _ _ _; omega)⟩
set_option maxHeartbeats 4000000 in
theorem hears_hit2 {w : World} {p : Program} {loose : List Str} {mean : ExcName → Option Value} {mg mb : Str → Option Value} {news : Led} {heard : Addr} {number kind : Int} {tn tk ts : Tok} {base₀ : Led} (hb₀ : ∀ q ∈ base₀, q ∈ news) (hT : HearsTab base₀) :
    Calls (G0 w p loose mean mg mb) 8 (.ref 559) [.ref heard, .int number tn, .int kind tk, .int 2 ts] news (Heard (G0 w p loose mean mg mb) heard number kind 2 base₀ news) := by
  intro A env L h₀ m s Q E C hdp hQ
  obtain ⟨⟨A₀, base, outer, B, hA⟩, F, X, N, T, hf, hk, hh⟩ := C
  obtain ⟨ah, dp, fr, gd, un⟩ := A
  obtain ⟨⟨kind, nms, ig, ic, mr⟩, locals, globals, cells, qual, func, code, frame, builtins⟩ := env
  dsimp only at hA hf hk hh
  subst hA hf hk hh
  dsimp only [G0] at hdp X T ⊢
  have CH : CodeHd h₀ 558 554 := codeHd_of_K X (by kernel_rfl)
  obtain ⟨c0, c1, c2, c3, c4, hM, ⟨oc0, vs0, t0, hm0, hd0, hv0⟩, ⟨oc1, vs1, t1, hm1, hd1, hv1⟩, ⟨oc2, vs2, t2, hm2, hd2, hv2⟩, ⟨oc3, vs3, t3, hm3, hd3, hv3⟩, ⟨oc4, vs4, t4, hm4, hd4, hv4⟩⟩ := id hT
  have hM' := hb₀ _ hM
  have hm0' := hb₀ _ hm0
  have hm1' := hb₀ _ hm1
  have hm2' := hb₀ _ hm2
  have hm3' := hb₀ _ hm3
  have hm4' := hb₀ _ hm4
  k_steps
  refine hQ _ _ _ _ (by assumption) (by assumption) (heard_hit (fun q hq => by have hq := hb₀ q hq; repeat (first | exact hq | refine List.Mem.tail _ ?_)) hT (fun q hq => by repeat (first | exact hq | refine List.Mem.tail _ ?_)) (by k_mem) (by assumption) (by k_mem) (by k_mem) (by k_mem) (by assumption) (by assumption) (by assumption) (by assumption) (by assumption)  (fun z hz => by have h0 := fresh_of (by assumption) z hz; show @LT.lt Nat _ _ _; omega) (fun z hz => by have h0 := fresh_of (by assumption) z hz; show @LT.lt Nat _ _ _; omega) (fun z hz => by have h0 := fresh_of (by assumption) z hz; show @LT.lt Nat _ _ _; omega) (fun z hz => by have h0 := fresh_of (by assumption) z hz; show @LT.lt Nat _ _ _; omega)  ?_)
  refine ⟨⟨_, _, _, _, List.Mem.head _⟩, fun news' k args hlen hsub hne => ?_⟩
  obtain ⟨xa, xb, rfl⟩ := len2 hlen
  have m1 := hsub _ (.head _)
  have m2 := hsub _ (.tail _ (.head _))
  have m3 := hsub _ (.tail _ (.tail _ (.head _)))
  have m4 := hsub _ (.tail _ (.tail _ (.tail _ (.head _))))
  have m5 := hsub _ (.tail _ (.tail _ (.tail _ (.tail _ (.head _)))))
  intro A env L h₀ m s Q E C hdp hQ
  obtain ⟨⟨A₀, base, outer, B, hA⟩, F, X, N, T, hf, hk, hh⟩ := C
  obtain ⟨ah, dp, fr, gd, un⟩ := A
  obtain ⟨⟨kind, nms, ig, ic, mr⟩, locals, globals, cells, qual, func, code, frame, builtins⟩ := env
  dsimp only at hA hf hk hh
  subst hA hf hk hh
  dsimp only [G0] at hdp X T ⊢
  have CH : CodeHd h₀ 558 554 := codeHd_of_K X (by kernel_rfl)
  k_steps
  refine hQ _ _ _ _ (by assumption) (by assumption) ⟨_, _, _, _, _, rfl, rfl, ?_⟩
  exact ⟨allLt_all (And.right (by assumption)), (by show @LT.lt Nat _ _ _; omega), (by show @LT.lt Nat _ _ _; omega)⟩
set_option maxHeartbeats 4000000 in
theorem hears_hit3 {w : World} {p : Program} {loose : List Str} {mean : ExcName → Option Value} {mg mb : Str → Option Value} {news : Led} {heard : Addr} {number kind : Int} {tn tk ts : Tok} {base₀ : Led} (hb₀ : ∀ q ∈ base₀, q ∈ news) (hT : HearsTab base₀) :
    Calls (G0 w p loose mean mg mb) 8 (.ref 559) [.ref heard, .int number tn, .int kind tk, .int 3 ts] news (Heard (G0 w p loose mean mg mb) heard number kind 3 base₀ news) := by
  intro A env L h₀ m s Q E C hdp hQ
  obtain ⟨⟨A₀, base, outer, B, hA⟩, F, X, N, T, hf, hk, hh⟩ := C
  obtain ⟨ah, dp, fr, gd, un⟩ := A
  obtain ⟨⟨kind, nms, ig, ic, mr⟩, locals, globals, cells, qual, func, code, frame, builtins⟩ := env
  dsimp only at hA hf hk hh
  subst hA hf hk hh
  dsimp only [G0] at hdp X T ⊢
  have CH : CodeHd h₀ 558 554 := codeHd_of_K X (by kernel_rfl)
  obtain ⟨c0, c1, c2, c3, c4, hM, ⟨oc0, vs0, t0, hm0, hd0, hv0⟩, ⟨oc1, vs1, t1, hm1, hd1, hv1⟩, ⟨oc2, vs2, t2, hm2, hd2, hv2⟩, ⟨oc3, vs3, t3, hm3, hd3, hv3⟩, ⟨oc4, vs4, t4, hm4, hd4, hv4⟩⟩ := id hT
  have hM' := hb₀ _ hM
  have hm0' := hb₀ _ hm0
  have hm1' := hb₀ _ hm1
  have hm2' := hb₀ _ hm2
  have hm3' := hb₀ _ hm3
  have hm4' := hb₀ _ hm4
  k_steps
  refine hQ _ _ _ _ (by assumption) (by assumption) (heard_hit (fun q hq => by have hq := hb₀ q hq; repeat (first | exact hq | refine List.Mem.tail _ ?_)) hT (fun q hq => by repeat (first | exact hq | refine List.Mem.tail _ ?_)) (by k_mem) (by assumption) (by k_mem) (by k_mem) (by k_mem) (by assumption) (by assumption) (by assumption) (by assumption) (by assumption)  (fun z hz => by have h0 := fresh_of (by assumption) z hz; show @LT.lt Nat _ _ _; omega) (fun z hz => by have h0 := fresh_of (by assumption) z hz; show @LT.lt Nat _ _ _; omega) (fun z hz => by have h0 := fresh_of (by assumption) z hz; show @LT.lt Nat _ _ _; omega) (fun z hz => by have h0 := fresh_of (by assumption) z hz; show @LT.lt Nat _ _ _; omega)  ?_)
  refine ⟨⟨_, _, _, _, List.Mem.head _⟩, fun news' k args hlen hsub hne => ?_⟩
  obtain ⟨xa, xb, xc, rfl⟩ := len3 hlen
  have m1 := hsub _ (.head _)
  have m2 := hsub _ (.tail _ (.head _))
  have m3 := hsub _ (.tail _ (.tail _ (.head _)))
  have m4 := hsub _ (.tail _ (.tail _ (.tail _ (.head _))))
  have m5 := hsub _ (.tail _ (.tail _ (.tail _ (.tail _ (.head _)))))
  intro A env L h₀ m s Q E C hdp hQ
  obtain ⟨⟨A₀, base, outer, B, hA⟩, F, X, N, T, hf, hk, hh⟩ := C
  obtain ⟨ah, dp, fr, gd, un⟩ := A
  obtain ⟨⟨kind, nms, ig, ic, mr⟩, locals, globals, cells, qual, func, code, frame, builtins⟩ := env
  dsimp only at hA hf hk hh
  subst hA hf hk hh
  dsimp only [G0] at hdp X T ⊢
  have CH : CodeHd h₀ 558 554 := codeHd_of_K X (by kernel_rfl)
  k_steps
  refine hQ _ _ _ _ (by assumption) (by assumption) ⟨_, _, _, _, _, rfl, rfl, ?_⟩
  exact ⟨allLt_all (And.right (by assumption)), (by show @LT.lt Nat _ _ _; omega), (by show @LT.lt Nat _ _ _; omega)⟩
set_option maxHeartbeats 4000000 in
theorem hears_hit4 {w : World} {p : Program} {loose : List Str} {mean : ExcName → Option Value} {mg mb : Str → Option Value} {news : Led} {heard : Addr} {number kind : Int} {tn tk ts : Tok} {base₀ : Led} (hb₀ : ∀ q ∈ base₀, q ∈ news) (hT : HearsTab base₀) :
    Calls (G0 w p loose mean mg mb) 8 (.ref 559) [.ref heard, .int number tn, .int kind tk, .int 4 ts] news (Heard (G0 w p loose mean mg mb) heard number kind 4 base₀ news) := by
  intro A env L h₀ m s Q E C hdp hQ
  obtain ⟨⟨A₀, base, outer, B, hA⟩, F, X, N, T, hf, hk, hh⟩ := C
  obtain ⟨ah, dp, fr, gd, un⟩ := A
  obtain ⟨⟨kind, nms, ig, ic, mr⟩, locals, globals, cells, qual, func, code, frame, builtins⟩ := env
  dsimp only at hA hf hk hh
  subst hA hf hk hh
  dsimp only [G0] at hdp X T ⊢
  have CH : CodeHd h₀ 558 554 := codeHd_of_K X (by kernel_rfl)
  obtain ⟨c0, c1, c2, c3, c4, hM, ⟨oc0, vs0, t0, hm0, hd0, hv0⟩, ⟨oc1, vs1, t1, hm1, hd1, hv1⟩, ⟨oc2, vs2, t2, hm2, hd2, hv2⟩, ⟨oc3, vs3, t3, hm3, hd3, hv3⟩, ⟨oc4, vs4, t4, hm4, hd4, hv4⟩⟩ := id hT
  have hM' := hb₀ _ hM
  have hm0' := hb₀ _ hm0
  have hm1' := hb₀ _ hm1
  have hm2' := hb₀ _ hm2
  have hm3' := hb₀ _ hm3
  have hm4' := hb₀ _ hm4
  k_steps
  refine hQ _ _ _ _ (by assumption) (by assumption) (heard_hit (fun q hq => by have hq := hb₀ q hq; repeat (first | exact hq | refine List.Mem.tail _ ?_)) hT (fun q hq => by repeat (first | exact hq | refine List.Mem.tail _ ?_)) (by k_mem) (by assumption) (by k_mem) (by k_mem) (by k_mem) (by assumption) (by assumption) (by assumption) (by assumption) (by assumption)  (fun z hz => by have h0 := fresh_of (by assumption) z hz; show @LT.lt Nat _ _ _; omega) (fun z hz => by have h0 := fresh_of (by assumption) z hz; show @LT.lt Nat _ _ _; omega) (fun z hz => by have h0 := fresh_of (by assumption) z hz; show @LT.lt Nat _ _ _; omega) (fun z hz => by have h0 := fresh_of (by assumption) z hz; show @LT.lt Nat _ _ _; omega)  ?_)
  refine ⟨⟨_, _, _, _, List.Mem.head _⟩, fun news' k args hlen hsub hne => ?_⟩
  obtain ⟨xa, xb, xc, xd, rfl⟩ := len4 hlen
  have m1 := hsub _ (.head _)
  have m2 := hsub _ (.tail _ (.head _))
  have m3 := hsub _ (.tail _ (.tail _ (.head _)))
  have m4 := hsub _ (.tail _ (.tail _ (.tail _ (.head _))))
  have m5 := hsub _ (.tail _ (.tail _ (.tail _ (.tail _ (.head _)))))
  intro A env L h₀ m s Q E C hdp hQ
  obtain ⟨⟨A₀, base, outer, B, hA⟩, F, X, N, T, hf, hk, hh⟩ := C
  obtain ⟨ah, dp, fr, gd, un⟩ := A
  obtain ⟨⟨kind, nms, ig, ic, mr⟩, locals, globals, cells, qual, func, code, frame, builtins⟩ := env
  dsimp only at hA hf hk hh
  subst hA hf hk hh
  dsimp only [G0] at hdp X T ⊢
  have CH : CodeHd h₀ 558 554 := codeHd_of_K X (by kernel_rfl)
  k_steps
  refine hQ _ _ _ _ (by assumption) (by assumption) ⟨_, _, _, _, _, rfl, rfl, ?_⟩
  exact ⟨allLt_all (And.right (by assumption)), (by show @LT.lt Nat _ _ _; omega), (by show @LT.lt Nat _ _ _; omega)⟩
end Mine

namespace Mine
open PySem.Calls PySem.Spec

def evName (κ : Nat) : Str := ([Str.ofString "setDocumentLocator", Str.ofString "startDocument", Str.ofString "endDocument", Str.ofString "startPrefixMapping", Str.ofString "endPrefixMapping", Str.ofString "startElement", Str.ofString "endElement",
  Str.ofString "startElementNS", Str.ofString "endElementNS", Str.ofString "characters", Str.ofString "ignorableWhitespace", Str.ofString "processingInstruction", Str.ofString "skippedEntity", Str.ofString "notationDecl", Str.ofString "unparsedEntityDecl",
  Str.ofString "resolveEntity", Str.ofString "error", Str.ofString "fatalError", Str.ofString "warning"] : List Str).getD κ Str.empty
def evSort (κ : Nat) : Nat := ([0, 0, 0, 0, 0, 0, 0, 0, 0, 0, 0, 0, 0, 1, 1, 2, 3, 3, 3] : List Nat).getD κ 0
def evSize (κ : Nat) : Nat := ([1, 0, 0, 2, 1, 2, 1, 3, 2, 1, 1, 2, 1, 3, 4, 2, 1, 1, 1] : List Nat).getD κ 0

/-- a lambda of _law_calls: it hands on to the method name -/
def CLam (Γ : Gl) (name : Str) (ar : Nat) (f : Addr) (S : Led) : Prop :=
  (∃ oc od fd sl, (f, (⟨oc, od, .func fd, sl⟩ : Obj)) ∈ S) ∧
  (∀ (news : Led) (x : Value) (told : Addr) (k : Nat) (vs : List Value) (d : Nat) (P : Value → Led → Prop), vs.length = 4 → (∀ q ∈ S, q ∈ news) → (told, W.listOf vs.toArray k) ∈ news →
    Meth Γ d name x (vs.take ar) news P → Calls Γ (d + 1) (.ref f) [x, .ref told] news P) ∧
  ∀ (news : Led) (x : Value) (told : Addr) (k : Nat) (vs : List Value) (d : Nat) (e : Addr) (xs : List Value) (rest : Led), vs.length = 4 → (∀ q ∈ S, q ∈ news) → (told, W.listOf vs.toArray k) ∈ news →
    MethE Γ d name x (vs.take ar) news e xs rest → CallsE Γ (d + 1) (.ref f) [x, .ref told] news e xs rest

/-- told[i], .. as arguments -/
def toldIn (es : List Expr) : List (Nat × Pos × Pos × Pos) := es.filterMap fun
  | .Subscript (.Name _ p1) (.Constant (.int (.ofNat i)) 0 p2) p3 => some (i, p1, p2, p3)
  | _ => none
theorem args_told {cn : Str} {cs : Scope} {L a : Addr} {ccd : Value} {cl : List (Str × Addr)} {m : Str → Option Value} {news : Led} {told : Addr} {k : Nat} {xs : List Value} (hk : cs.kind = .function) (hm : m ("told" : Str) = some (.ref told))
    (hls : cs.names.lookup ("told" : Str) = some NameKind.local) (hn : (told, W.listOf xs.toArray k) ∈ news) : ∀ (es : List (Nat × Pos × Pos × Pos)) (vs : List Value), es.map (fun e => xs[e.1]?) = vs.map some → (∀ e ∈ es, e.1 < 4) →
    ArgsOk (envX cn cs L a ccd cl) L m news (es.map fun e => .Subscript (.Name "told" e.2.1) (.Constant (.int (.ofNat e.1)) 0 e.2.2.1) e.2.2.2) vs
  | [], [], _, _ => ⟨fun _ h => absurd h List.not_mem_nil, rfl, fun prog w A E h₀ s Q pos F N h => args_nil (h s.toks)⟩
  | [], _ :: _, e, _ => nomatch e
  | _ :: _, [], e, _ => nomatch e
  | x :: es, v :: vs, e, hlt => by
    have e1 := List.cons.inj e
    have ih := args_told (cn := cn) (L := L) (a := a) (ccd := ccd) (cl := cl) (news := news) hk hm hls hn es vs e1.2 fun y hy => hlt y (.tail _ hy)
    have h4 := hlt x (.head _)
    refine ⟨fun y hy r => ?_, congrArg Nat.succ ih.len, fun prog w A E h₀ s Q pos F N h => ?_⟩
    · rcases List.mem_cons.mp hy with rfl | hy
      · rfl
      · exact ih.star y hy r
    · refine args_cons (Subscript_ (nameX_L F hm ?_ hk hls)) rfl
      refine wpAny_Constant_int ?_
      refine item_litK (News.isList N hn) (Int.natCast_nonneg _) (by show ((x.1 : Nat) : Int) < 2 ^ 63; omega) (by show xs[x.1]? = _; exact e1.1) ?_
      exact ih.run prog w A E h₀ { s with toks := s.toks + 1 } (fun ys s' => Q (v :: ys) s') pos F N fun tk => h tk

theorem clam_intro {Γ : Gl} {name : Str} {ar : Nat} {f c : Addr} {n : Led} {oc : Obj} {nm q : Str} {ps : Arguments} {sc : Scope} {pm ctv : Value} {vs : Array Value} {t : Tok} {p1 p2 p3 : Pos} {es : List Expr} {pl : Addr → Addr → Value → Sem Bool}
    (h1 : (f, kla_obj nm q ps (.Call (.Attribute (.Name "one" p1) name p2) es [] p3) sc [] pm c ctv) ∈ n) (h2 : (c, oc) ∈ n) (k2 : oc.data = .fields vs) (k3 : vs[1]? = some (.str q t))
    (hb : ∀ a b, bindArgs (kla_fn nm q ps (.Call (.Attribute (.Name "one" p1) name p2) es [] p3) sc [] pm (.ref c) ctv) ⟨[a, b], []⟩ = pure [(Str.ofString "one", a), (Str.ofString "told", b)])
    (hl1 : sc.names.lookup ("one" : Str) = some NameKind.local) (hl2 : sc.names.lookup ("told" : Str) = some NameKind.local) (c1 : sc.isCoroutine = false) (c2 : sc.isGenerator = false) (c3 : sc.kind = .function) (c4 : ∀ x ∈ sc.names, x.2 ≠ .cell)
    (hes : es = (toldIn es).map fun e => .Subscript (.Name "told" e.2.1) (.Constant (.int (.ofNat e.1)) 0 e.2.2.1) e.2.2.2) (his : (toldIn es).map (·.1) = List.range ar) (har : ar ≤ 4)
    (he : ∀ L a ccd, MCallEq (.Name "one" p1) name p2 p3 es (envX q sc L a ccd []) (pl L a ccd)) :
    ∃ S, (∀ q ∈ S, q ∈ n) ∧ CLam Γ name ar f S := by
  refine ⟨[(f, kla_obj nm q ps (.Call (.Attribute (.Name "one" p1) name p2) es [] p3) sc [] pm c ctv), (c, oc)], ?_, ⟨_, _, _, _, List.Mem.head _⟩, fun news x told k xs d P hlen hsub htold H => ?_, fun news x told k xs d e ys rest hlen hsub htold H => ?_⟩
  · intro z hz
    simp only [List.mem_cons, List.not_mem_nil, or_false] at hz
    rcases hz with rfl | rfl <;> assumption
  · have m1 := hsub _ (.head _)
    have m2 := hsub _ (.tail _ (.head _))
    intro A env L h₀ m s Q E C hd hQ
    obtain ⟨A₀, base, outer, B, hA⟩ := C.below
    refine wpAny_call (kla_code B C.fr C.kin C.nw C.top hA C.hf C.hk m1 (codeRec_news C.nw m2 k2 k3) (by omega) (hb x (.ref told)) ?_ (fun g L' h₁ FG F' N' B' X' T' => ?_) c1 c2 c3 c4)
    · intro y hy
      simp only [List.mem_cons, List.not_mem_nil, or_false] at hy
      rcases hy with rfl | rfl
      · exact hl1
      · exact hl2
    · refine MethodCall_ (nameX_L F' (by rfl) ?_ c3 hl1) (he _ _ _)
      have ok : ArgsOk (envX q sc L' f (.ref c) []) L' (fun y => List.lookup y [((Str.ofString "one"), x), (Str.ofString "told", Value.ref told)].reverse) news es (xs.take ar) := by
        rw [hes]
        refine args_told c3 (by rfl) hl2 htold _ _ ?_ ?_
        · have : (toldIn es).map (fun e => xs[e.1]?) = ((toldIn es).map (·.1)).map fun i => xs[i]? := by rw [List.map_map]; rfl
          rw [this, his]
          apply List.ext_getElem?
          intro i
          simp only [List.getElem?_map, List.getElem?_range', List.getElem?_take]
          by_cases hi : i < ar
          · rw [List.getElem?_range hi]
            have : i < xs.length := by omega
            simp [hi, this]
          · rw [List.getElem?_eq_none (by simp; omega)]
            simp [hi]
        · intro e hee
          have : e.1 ∈ (toldIn es).map (·.1) := List.mem_map_of_mem hee
          rw [his] at this
          have := List.mem_range.mp this
          omega
      refine H _ _ L' g _ _ _ _ p3 es _ ⟨⟨_, _, _, B', Around.frames_deeper hA⟩, F', X', N', T', rfl, c3, C.hh⟩ (by show A.depth + 1 + d < _; omega) ok fun r h' tk news' F2 N2 hP => ?_
      exact leaveK_ F2 N2 fun kF kN => hQ _ _ _ _ kF kN hP
  · have m1 := hsub _ (.head _)
    have m2 := hsub _ (.tail _ (.head _))
    intro A A₀ env outer base L h₀ m s Q E B hA C hd hQ
    refine wpAny_call (kla_code B C.fr C.kin C.nw C.top hA C.hf C.hk m1 (codeRec_news C.nw m2 k2 k3) (by omega) (hb x (.ref told)) ?_ (fun g L' h₁ FG F' N' B' X' T' => ?_) c1 c2 c3 c4)
    · intro y hy
      simp only [List.mem_cons, List.not_mem_nil, or_false] at hy
      rcases hy with rfl | rfl
      · exact hl1
      · exact hl2
    · refine MethodCall_ (nameX_L F' (by rfl) ?_ c3 hl1) (he _ _ _)
      have ok : ArgsOk (envX q sc L' f (.ref c) []) L' (fun y => List.lookup y [((Str.ofString "one"), x), (Str.ofString "told", Value.ref told)].reverse) news es (xs.take ar) := by
        rw [hes]
        refine args_told c3 (by rfl) hl2 htold _ _ ?_ ?_
        · have : (toldIn es).map (fun e => xs[e.1]?) = ((toldIn es).map (·.1)).map fun i => xs[i]? := by rw [List.map_map]; rfl
          rw [this, his]
          apply List.ext_getElem?
          intro i
          simp only [List.getElem?_map, List.getElem?_range', List.getElem?_take]
          by_cases hi : i < ar
          · rw [List.getElem?_range hi]
            have : i < xs.length := by omega
            simp [hi, this]
          · rw [List.getElem?_eq_none (by simp; omega)]
            simp [hi]
        · intro e hee
          have : e.1 ∈ (toldIn es).map (·.1) := List.mem_map_of_mem hee
          rw [his] at this
          have := List.mem_range.mp this
          omega
      refine H (A.deeper (envX q sc L' f (.ref c) [])) A (envX q sc L' f (.ref c) []) (env :: outer) base L' g _ _ _ _ p3 es _ B' (Around.frames_deeper hA) ⟨⟨_, _, _, B', Around.frames_deeper hA⟩, F', X', N', T', rfl, c3, C.hh⟩ (by show A.depth + 1 + d < _; omega) ok fun h' tk g₂ t' F2 sm R => ?_
      exact leave_onK B' F2 R sm fun h'' R' sm' => hQ h'' tk g t' FG sm' R'
end Mine

namespace Mine
open PySem.Calls PySem.Spec
local macro_rules | `(tactic| k_room) => `(tactic| ((try simp only [depth_under_make, depth_under_kw, depth_in1, depth_deeper, depth_caller]); (try dsimp only); omega))
local macro_rules | `(tactic| k_mem) => `(tactic| first | with_reducible assumption | (with_reducible k_memK) | ((repeat with_reducible refine List.Mem.tail _ ?_); assumption))
local macro_rules | `(tactic| k_all) => `(tactic| assumption)
local macro_rules | `(tactic| kn_code) => `(tactic| first | exact codeHd_of_K (c := 558) (P := 554) (by k_asm) (by kernel_rfl) | exact codeHd_of_K (c := 551) (P := 547) (by k_asm) (by kernel_rfl))
local macro_rules | `(tactic| walk_at "eval Lambda") => `(tactic| ((refine' kla_eval ?d0 ?_; (case d0 => exact rfl)); (refine' kla_hit ?F ?N ?T ?C ?cd ?mem ?t ?n ?cl ?_; (case F => k_asm); (case N => k_asm); (case T => k_asm); (case cd => exact rfl); (case C => exact codeHd_of_K (c := 551) (P := 547) (by k_asm) (by kernel_rfl)); (case mem => (repeat with_reducible refine List.Mem.tail _ ?_); assumption); (case t => kn_triples); (case n => kn_hit); (case cl => exact rfl); k_whole); intro f' ct' h' tk' F' N' l1; (try dsimp only at N')))
theorem fill6 (w : World) : PySem.Challenge.rw_kq0045_01 = PySem.Challenge.rw_kq0045_01 ∧ hd.heap_39 w.params = hd.heap_39 w.params := by
  k_fill
  exact ⟨rfl, rfl⟩

def cq : Str := Str.ofString "_law_calls" ++ Str.ofString ".<locals>." ++ Str.ofString "<lambda>"
/-- the table of _law_calls is full -/
def CallsTab (n : Led) : Prop := ∃ c : Nat → Nat, (547, tabObj #[rawInt 213, rawInt 0, .ref (c 0), rawInt 214, rawInt 0, .ref (c 1), rawInt 215, rawInt 0, .ref (c 2), rawInt 216, rawInt 0, .ref (c 3), rawInt 217, rawInt 0, .ref (c 4), rawInt 218, rawInt 0, .ref (c 5), rawInt 219, rawInt 0, .ref (c 6), rawInt 220, rawInt 0, .ref (c 7), rawInt 221, rawInt 0, .ref (c 8), rawInt 222, rawInt 0, .ref (c 9), rawInt 223, rawInt 0, .ref (c 10), rawInt 224, rawInt 0, .ref (c 11), rawInt 225, rawInt 0, .ref (c 12), rawInt 226, rawInt 0, .ref (c 13), rawInt 227, rawInt 0, .ref (c 14), rawInt 228, rawInt 0, .ref (c 15), rawInt 229, rawInt 0, .ref (c 16), rawInt 230, rawInt 0, .ref (c 17), rawInt 231, rawInt 0, .ref (c 18)]) ∈ n ∧ ∀ i < 19, CodeIs n (c i) cq

/-- the κ-th row that _law_calls gives -/
def Elt (Γ : Gl) (n : Led) (κ t f : Nat) : Prop := ∃ ta tb, (t, tupObj [.int (evSort κ) ta, .int (evSize κ) tb, .ref f]) ∈ n ∧ ∃ S, (∀ q ∈ S, q ∈ n) ∧ CLam Γ (evName κ) (evSize κ) f S
/-- what a call of _law_calls gives -/
def CallsOut (Γ : Gl) (news : Led) (v : Value) (n : Led) : Prop :=
  ∃ l : Addr, ∃ T F : Nat → Nat, v = .ref l ∧ (l, W.listOf ((List.range 19).map fun i => Value.ref (T i)).toArray 0) ∈ n ∧ (∀ κ < 19, Elt Γ n κ (T κ) (F κ)) ∧ (∀ q ∈ news, q ∈ n)
theorem elt_intro {Γ : Gl} {n : Led} {κ t f : Nat} {i j : Int} {ta tb : Tok} {ob : Obj} (h1 : (t, ob) ∈ n) (h2 : ob = tupObj [.int i ta, .int j tb, .ref f]) (hi : i = evSort κ) (hj : j = evSize κ) (hS : ∃ S, (∀ q ∈ S, q ∈ n) ∧ CLam Γ (evName κ) (evSize κ) f S) : Elt Γ n κ t f := by
  subst h2 hi hj
  exact ⟨ta, tb, h1, hS⟩
theorem lt19 {κ : Nat} (h : κ < 19) : κ = 0 ∨ κ = 1 ∨ κ = 2 ∨ κ = 3 ∨ κ = 4 ∨ κ = 5 ∨ κ = 6 ∨ κ = 7 ∨ κ = 8 ∨ κ = 9 ∨ κ = 10 ∨ κ = 11 ∨ κ = 12 ∨ κ = 13 ∨ κ = 14 ∨ κ = 15 ∨ κ = 16 ∨ κ = 17 ∨ κ = 18 := (by decide : ∀ κ < 19, κ = 0 ∨ κ = 1 ∨ κ = 2 ∨ κ = 3 ∨ κ = 4 ∨ κ = 5 ∨ κ = 6 ∨ κ = 7 ∨ κ = 8 ∨ κ = 9 ∨ κ = 10 ∨ κ = 11 ∨ κ = 12 ∨ κ = 13 ∨ κ = 14 ∨ κ = 15 ∨ κ = 16 ∨ κ = 17 ∨ κ = 18) κ h
theorem callsOut_intro {Γ : Gl} {news n : Led} {l : Addr} {t0 t1 t2 t3 t4 t5 t6 t7 t8 t9 t10 t11 t12 t13 t14 t15 t16 t17 t18 : Nat} (hl : (l, W.listOf #[.ref t0, .ref t1, .ref t2, .ref t3, .ref t4, .ref t5, .ref t6, .ref t7, .ref t8, .ref t9, .ref t10, .ref t11, .ref t12, .ref t13, .ref t14, .ref t15, .ref t16, .ref t17, .ref t18] 0) ∈ n)
    (h0 : ∃ f, Elt Γ n 0 t0 f) (h1 : ∃ f, Elt Γ n 1 t1 f) (h2 : ∃ f, Elt Γ n 2 t2 f) (h3 : ∃ f, Elt Γ n 3 t3 f) (h4 : ∃ f, Elt Γ n 4 t4 f) (h5 : ∃ f, Elt Γ n 5 t5 f) (h6 : ∃ f, Elt Γ n 6 t6 f) (h7 : ∃ f, Elt Γ n 7 t7 f) (h8 : ∃ f, Elt Γ n 8 t8 f) (h9 : ∃ f, Elt Γ n 9 t9 f) (h10 : ∃ f, Elt Γ n 10 t10 f) (h11 : ∃ f, Elt Γ n 11 t11 f) (h12 : ∃ f, Elt Γ n 12 t12 f) (h13 : ∃ f, Elt Γ n 13 t13 f) (h14 : ∃ f, Elt Γ n 14 t14 f) (h15 : ∃ f, Elt Γ n 15 t15 f) (h16 : ∃ f, Elt Γ n 16 t16 f) (h17 : ∃ f, Elt Γ n 17 t17 f) (h18 : ∃ f, Elt Γ n 18 t18 f) (hN : ∀ q ∈ news, q ∈ n) : CallsOut Γ news (.ref l) n := by
  obtain ⟨f0, h0⟩ := h0
  obtain ⟨f1, h1⟩ := h1
  obtain ⟨f2, h2⟩ := h2
  obtain ⟨f3, h3⟩ := h3
  obtain ⟨f4, h4⟩ := h4
  obtain ⟨f5, h5⟩ := h5
  obtain ⟨f6, h6⟩ := h6
  obtain ⟨f7, h7⟩ := h7
  obtain ⟨f8, h8⟩ := h8
  obtain ⟨f9, h9⟩ := h9
  obtain ⟨f10, h10⟩ := h10
  obtain ⟨f11, h11⟩ := h11
  obtain ⟨f12, h12⟩ := h12
  obtain ⟨f13, h13⟩ := h13
  obtain ⟨f14, h14⟩ := h14
  obtain ⟨f15, h15⟩ := h15
  obtain ⟨f16, h16⟩ := h16
  obtain ⟨f17, h17⟩ := h17
  obtain ⟨f18, h18⟩ := h18
  refine ⟨l, fun i => [t0, t1, t2, t3, t4, t5, t6, t7, t8, t9, t10, t11, t12, t13, t14, t15, t16, t17, t18].getD i 0, fun i => [f0, f1, f2, f3, f4, f5, f6, f7, f8, f9, f10, f11, f12, f13, f14, f15, f16, f17, f18].getD i 0, rfl, hl, fun κ hκ => ?_, hN⟩
  rcases lt19 hκ with rfl | rfl | rfl | rfl | rfl | rfl | rfl | rfl | rfl | rfl | rfl | rfl | rfl | rfl | rfl | rfl | rfl | rfl | rfl
  · exact h0
  · exact h1
  · exact h2
  · exact h3
  · exact h4
  · exact h5
  · exact h6
  · exact h7
  · exact h8
  · exact h9
  · exact h10
  · exact h11
  · exact h12
  · exact h13
  · exact h14
  · exact h15
  · exact h16
  · exact h17
  · exact h18

set_option maxHeartbeats 8000000 in
theorem calls_hit {w : World} {p : Program} {loose : List Str} {mean : ExcName → Option Value} {mg mb : Str → Option Value} {news : Led} (hT : CallsTab news) :
    Calls (G0 w p loose mean mg mb) 8 (.ref 552) [] news (CallsOut (G0 w p loose mean mg mb) news) := by
  intro A env L h₀ m s Q E C hdp hQ
  obtain ⟨⟨A₀, base, outer, B, hA⟩, F, X, N, T, hf, hk, hh⟩ := C
  obtain ⟨ah, dp, fr, gd, un⟩ := A
  obtain ⟨⟨kind, nms, ig, ic, mr⟩, locals, globals, cells, qual, func, code, frame, builtins⟩ := env
  dsimp only at hA hf hk hh
  subst hA hf hk hh
  dsimp only [G0] at hdp X T ⊢
  have CH : CodeHd h₀ 551 547 := codeHd_of_K X (by kernel_rfl)
  obtain ⟨c, hM, hc⟩ := id hT
  k_steps
  refine hQ _ _ _ _ (by assumption) (by assumption) ?_
  refine callsOut_intro (by k_mem) ?_ ?_ ?_ ?_ ?_ ?_ ?_ ?_ ?_ ?_ ?_ ?_ ?_ ?_ ?_ ?_ ?_ ?_ ?_ ?_
  · obtain ⟨oc, vs, t, e1, e2, e3⟩ := hc 0 (by decide)
    refine' ⟨_, elt_intro ?ax0 ?bx0 ?cx0 ?dx0 ?ex0⟩
    case ax0 => k_mem
    case bx0 => rfl
    case cx0 => rfl
    case dx0 => rfl
    · refine' clam_intro ?a1x0 ?a2x0 e2 e3 ?b1x0 ?b2x0 ?b3x0 ?b4x0 ?b5x0 ?b6x0 ?b7x0 ?b8x0 ?b9x0 ?b10x0 ?b11x0
      case a1x0 => k_mem
      case a2x0 => repeat (first | exact e1 | refine List.Mem.tail _ ?_)
      case b1x0 => exact fun _ _ => rfl
      case b2x0 => rfl
      case b3x0 => rfl
      case b4x0 => rfl
      case b5x0 => rfl
      case b6x0 => rfl
      case b7x0 => decide
      case b8x0 => rfl
      case b9x0 => rfl
      case b10x0 => decide
      case b11x0 => exact fun _ _ _ => rfl
  · obtain ⟨oc, vs, t, e1, e2, e3⟩ := hc 1 (by decide)
    refine' ⟨_, elt_intro ?ax1 ?bx1 ?cx1 ?dx1 ?ex1⟩
    case ax1 => k_mem
    case bx1 => rfl
    case cx1 => rfl
    case dx1 => rfl
    · refine' clam_intro ?a1x1 ?a2x1 e2 e3 ?b1x1 ?b2x1 ?b3x1 ?b4x1 ?b5x1 ?b6x1 ?b7x1 ?b8x1 ?b9x1 ?b10x1 ?b11x1
      case a1x1 => k_mem
      case a2x1 => repeat (first | exact e1 | refine List.Mem.tail _ ?_)
      case b1x1 => exact fun _ _ => rfl
      case b2x1 => rfl
      case b3x1 => rfl
      case b4x1 => rfl
      case b5x1 => rfl
      case b6x1 => rfl
      case b7x1 => decide
      case b8x1 => rfl
      case b9x1 => rfl
      case b10x1 => decide
      case b11x1 => exact fun _ _ _ => rfl
  · obtain ⟨oc, vs, t, e1, e2, e3⟩ := hc 2 (by decide)
    refine' ⟨_, elt_intro ?ax2 ?bx2 ?cx2 ?dx2 ?ex2⟩
    case ax2 => k_mem
    case bx2 => rfl
    case cx2 => rfl
    case dx2 => rfl
    · refine' clam_intro ?a1x2 ?a2x2 e2 e3 ?b1x2 ?b2x2 ?b3x2 ?b4x2 ?b5x2 ?b6x2 ?b7x2 ?b8x2 ?b9x2 ?b10x2 ?b11x2
      case a1x2 => k_mem
      case a2x2 => repeat (first | exact e1 | refine List.Mem.tail _ ?_)
      case b1x2 => exact fun _ _ => rfl
      case b2x2 => rfl
      case b3x2 => rfl
      case b4x2 => rfl
      case b5x2 => rfl
      case b6x2 => rfl
      case b7x2 => decide
      case b8x2 => rfl
      case b9x2 => rfl
      case b10x2 => decide
      case b11x2 => exact fun _ _ _ => rfl
  · obtain ⟨oc, vs, t, e1, e2, e3⟩ := hc 3 (by decide)
    refine' ⟨_, elt_intro ?ax3 ?bx3 ?cx3 ?dx3 ?ex3⟩
    case ax3 => k_mem
    case bx3 => rfl
    case cx3 => rfl
    case dx3 => rfl
    · refine' clam_intro ?a1x3 ?a2x3 e2 e3 ?b1x3 ?b2x3 ?b3x3 ?b4x3 ?b5x3 ?b6x3 ?b7x3 ?b8x3 ?b9x3 ?b10x3 ?b11x3
      case a1x3 => k_mem
      case a2x3 => repeat (first | exact e1 | refine List.Mem.tail _ ?_)
      case b1x3 => exact fun _ _ => rfl
      case b2x3 => rfl
      case b3x3 => rfl
      case b4x3 => rfl
      case b5x3 => rfl
      case b6x3 => rfl
      case b7x3 => decide
      case b8x3 => rfl
      case b9x3 => rfl
      case b10x3 => decide
      case b11x3 => exact fun _ _ _ => rfl
  · obtain ⟨oc, vs, t, e1, e2, e3⟩ := hc 4 (by decide)
    refine' ⟨_, elt_intro ?ax4 ?bx4 ?cx4 ?dx4 ?ex4⟩
    case ax4 => k_mem
    case bx4 => rfl
    case cx4 => rfl
    case dx4 => rfl
    · refine' clam_intro ?a1x4 ?a2x4 e2 e3 ?b1x4 ?b2x4 ?b3x4 ?b4x4 ?b5x4 ?b6x4 ?b7x4 ?b8x4 ?b9x4 ?b10x4 ?b11x4
      case a1x4 => k_mem
      case a2x4 => repeat (first | exact e1 | refine List.Mem.tail _ ?_)
      case b1x4 => exact fun _ _ => rfl
      case b2x4 => rfl
      case b3x4 => rfl
      case b4x4 => rfl
      case b5x4 => rfl
      case b6x4 => rfl
      case b7x4 => decide
      case b8x4 => rfl
      case b9x4 => rfl
      case b10x4 => decide
      case b11x4 => exact fun _ _ _ => rfl
  · obtain ⟨oc, vs, t, e1, e2, e3⟩ := hc 5 (by decide)
    refine' ⟨_, elt_intro ?ax5 ?bx5 ?cx5 ?dx5 ?ex5⟩
    case ax5 => k_mem
    case bx5 => rfl
    case cx5 => rfl
    case dx5 => rfl
    · refine' clam_intro ?a1x5 ?a2x5 e2 e3 ?b1x5 ?b2x5 ?b3x5 ?b4x5 ?b5x5 ?b6x5 ?b7x5 ?b8x5 ?b9x5 ?b10x5 ?b11x5
      case a1x5 => k_mem
      case a2x5 => repeat (first | exact e1 | refine List.Mem.tail _ ?_)
      case b1x5 => exact fun _ _ => rfl
      case b2x5 => rfl
      case b3x5 => rfl
      case b4x5 => rfl
      case b5x5 => rfl
      case b6x5 => rfl
      case b7x5 => decide
      case b8x5 => rfl
      case b9x5 => rfl
      case b10x5 => decide
      case b11x5 => exact fun _ _ _ => rfl
  · obtain ⟨oc, vs, t, e1, e2, e3⟩ := hc 6 (by decide)
    refine' ⟨_, elt_intro ?ax6 ?bx6 ?cx6 ?dx6 ?ex6⟩
    case ax6 => k_mem
    case bx6 => rfl
    case cx6 => rfl
    case dx6 => rfl
    · refine' clam_intro ?a1x6 ?a2x6 e2 e3 ?b1x6 ?b2x6 ?b3x6 ?b4x6 ?b5x6 ?b6x6 ?b7x6 ?b8x6 ?b9x6 ?b10x6 ?b11x6
      case a1x6 => k_mem
      case a2x6 => repeat (first | exact e1 | refine List.Mem.tail _ ?_)
      case b1x6 => exact fun _ _ => rfl
      case b2x6 => rfl
      case b3x6 => rfl
      case b4x6 => rfl
      case b5x6 => rfl
      case b6x6 => rfl
      case b7x6 => decide
      case b8x6 => rfl
      case b9x6 => rfl
      case b10x6 => decide
      case b11x6 => exact fun _ _ _ => rfl
  · obtain ⟨oc, vs, t, e1, e2, e3⟩ := hc 7 (by decide)
    refine' ⟨_, elt_intro ?ax7 ?bx7 ?cx7 ?dx7 ?ex7⟩
    case ax7 => k_mem
    case bx7 => rfl
    case cx7 => rfl
    case dx7 => rfl
    · refine' clam_intro ?a1x7 ?a2x7 e2 e3 ?b1x7 ?b2x7 ?b3x7 ?b4x7 ?b5x7 ?b6x7 ?b7x7 ?b8x7 ?b9x7 ?b10x7 ?b11x7
      case a1x7 => k_mem
      case a2x7 => repeat (first | exact e1 | refine List.Mem.tail _ ?_)
      case b1x7 => exact fun _ _ => rfl
      case b2x7 => rfl
      case b3x7 => rfl
      case b4x7 => rfl
      case b5x7 => rfl
      case b6x7 => rfl
      case b7x7 => decide
      case b8x7 => rfl
      case b9x7 => rfl
      case b10x7 => decide
      case b11x7 => exact fun _ _ _ => rfl
  · obtain ⟨oc, vs, t, e1, e2, e3⟩ := hc 8 (by decide)
    refine' ⟨_, elt_intro ?ax8 ?bx8 ?cx8 ?dx8 ?ex8⟩
    case ax8 => k_mem
    case bx8 => rfl
    case cx8 => rfl
    case dx8 => rfl
    · refine' clam_intro ?a1x8 ?a2x8 e2 e3 ?b1x8 ?b2x8 ?b3x8 ?b4x8 ?b5x8 ?b6x8 ?b7x8 ?b8x8 ?b9x8 ?b10x8 ?b11x8
      case a1x8 => k_mem
      case a2x8 => repeat (first | exact e1 | refine List.Mem.tail _ ?_)
      case b1x8 => exact fun _ _ => rfl
      case b2x8 => rfl
      case b3x8 => rfl
      case b4x8 => rfl
      case b5x8 => rfl
      case b6x8 => rfl
      case b7x8 => decide
      case b8x8 => rfl
      case b9x8 => rfl
      case b10x8 => decide
      case b11x8 => exact fun _ _ _ => rfl
  · obtain ⟨oc, vs, t, e1, e2, e3⟩ := hc 9 (by decide)
    refine' ⟨_, elt_intro ?ax9 ?bx9 ?cx9 ?dx9 ?ex9⟩
    case ax9 => k_mem
    case bx9 => rfl
    case cx9 => rfl
    case dx9 => rfl
    · refine' clam_intro ?a1x9 ?a2x9 e2 e3 ?b1x9 ?b2x9 ?b3x9 ?b4x9 ?b5x9 ?b6x9 ?b7x9 ?b8x9 ?b9x9 ?b10x9 ?b11x9
      case a1x9 => k_mem
      case a2x9 => repeat (first | exact e1 | refine List.Mem.tail _ ?_)
      case b1x9 => exact fun _ _ => rfl
      case b2x9 => rfl
      case b3x9 => rfl
      case b4x9 => rfl
      case b5x9 => rfl
      case b6x9 => rfl
      case b7x9 => decide
      case b8x9 => rfl
      case b9x9 => rfl
      case b10x9 => decide
      case b11x9 => exact fun _ _ _ => rfl
  · obtain ⟨oc, vs, t, e1, e2, e3⟩ := hc 10 (by decide)
    refine' ⟨_, elt_intro ?ax10 ?bx10 ?cx10 ?dx10 ?ex10⟩
    case ax10 => k_mem
    case bx10 => rfl
    case cx10 => rfl
    case dx10 => rfl
    · refine' clam_intro ?a1x10 ?a2x10 e2 e3 ?b1x10 ?b2x10 ?b3x10 ?b4x10 ?b5x10 ?b6x10 ?b7x10 ?b8x10 ?b9x10 ?b10x10 ?b11x10
      case a1x10 => k_mem
      case a2x10 => repeat (first | exact e1 | refine List.Mem.tail _ ?_)
      case b1x10 => exact fun _ _ => rfl
      case b2x10 => rfl
      case b3x10 => rfl
      case b4x10 => rfl
      case b5x10 => rfl
      case b6x10 => rfl
      case b7x10 => decide
      case b8x10 => rfl
      case b9x10 => rfl
      case b10x10 => decide
      case b11x10 => exact fun _ _ _ => rfl
  · obtain ⟨oc, vs, t, e1, e2, e3⟩ := hc 11 (by decide)
    refine' ⟨_, elt_intro ?ax11 ?bx11 ?cx11 ?dx11 ?ex11⟩
    case ax11 => k_mem
    case bx11 => rfl
    case cx11 => rfl
    case dx11 => rfl
    · refine' clam_intro ?a1x11 ?a2x11 e2 e3 ?b1x11 ?b2x11 ?b3x11 ?b4x11 ?b5x11 ?b6x11 ?b7x11 ?b8x11 ?b9x11 ?b10x11 ?b11x11
      case a1x11 => k_mem
      case a2x11 => repeat (first | exact e1 | refine List.Mem.tail _ ?_)
      case b1x11 => exact fun _ _ => rfl
      case b2x11 => rfl
      case b3x11 => rfl
      case b4x11 => rfl
      case b5x11 => rfl
      case b6x11 => rfl
      case b7x11 => decide
      case b8x11 => rfl
      case b9x11 => rfl
      case b10x11 => decide
      case b11x11 => exact fun _ _ _ => rfl
  · obtain ⟨oc, vs, t, e1, e2, e3⟩ := hc 12 (by decide)
    refine' ⟨_, elt_intro ?ax12 ?bx12 ?cx12 ?dx12 ?ex12⟩
    case ax12 => k_mem
    case bx12 => rfl
    case cx12 => rfl
    case dx12 => rfl
    · refine' clam_intro ?a1x12 ?a2x12 e2 e3 ?b1x12 ?b2x12 ?b3x12 ?b4x12 ?b5x12 ?b6x12 ?b7x12 ?b8x12 ?b9x12 ?b10x12 ?b11x12
      case a1x12 => k_mem
      case a2x12 => repeat (first | exact e1 | refine List.Mem.tail _ ?_)
      case b1x12 => exact fun _ _ => rfl
      case b2x12 => rfl
      case b3x12 => rfl
      case b4x12 => rfl
      case b5x12 => rfl
      case b6x12 => rfl
      case b7x12 => decide
      case b8x12 => rfl
      case b9x12 => rfl
      case b10x12 => decide
      case b11x12 => exact fun _ _ _ => rfl
  · obtain ⟨oc, vs, t, e1, e2, e3⟩ := hc 13 (by decide)
    refine' ⟨_, elt_intro ?ax13 ?bx13 ?cx13 ?dx13 ?ex13⟩
    case ax13 => k_mem
    case bx13 => rfl
    case cx13 => rfl
    case dx13 => rfl
    · refine' clam_intro ?a1x13 ?a2x13 e2 e3 ?b1x13 ?b2x13 ?b3x13 ?b4x13 ?b5x13 ?b6x13 ?b7x13 ?b8x13 ?b9x13 ?b10x13 ?b11x13
      case a1x13 => k_mem
      case a2x13 => repeat (first | exact e1 | refine List.Mem.tail _ ?_)
      case b1x13 => exact fun _ _ => rfl
      case b2x13 => rfl
      case b3x13 => rfl
      case b4x13 => rfl
      case b5x13 => rfl
      case b6x13 => rfl
      case b7x13 => decide
      case b8x13 => rfl
      case b9x13 => rfl
      case b10x13 => decide
      case b11x13 => exact fun _ _ _ => rfl
  · obtain ⟨oc, vs, t, e1, e2, e3⟩ := hc 14 (by decide)
    refine' ⟨_, elt_intro ?ax14 ?bx14 ?cx14 ?dx14 ?ex14⟩
    case ax14 => k_mem
    case bx14 => rfl
    case cx14 => rfl
    case dx14 => rfl
    · refine' clam_intro ?a1x14 ?a2x14 e2 e3 ?b1x14 ?b2x14 ?b3x14 ?b4x14 ?b5x14 ?b6x14 ?b7x14 ?b8x14 ?b9x14 ?b10x14 ?b11x14
      case a1x14 => k_mem
      case a2x14 => repeat (first | exact e1 | refine List.Mem.tail _ ?_)
      case b1x14 => exact fun _ _ => rfl
      case b2x14 => rfl
      case b3x14 => rfl
      case b4x14 => rfl
      case b5x14 => rfl
      case b6x14 => rfl
      case b7x14 => decide
      case b8x14 => rfl
      case b9x14 => rfl
      case b10x14 => decide
      case b11x14 => exact fun _ _ _ => rfl
  · obtain ⟨oc, vs, t, e1, e2, e3⟩ := hc 15 (by decide)
    refine' ⟨_, elt_intro ?ax15 ?bx15 ?cx15 ?dx15 ?ex15⟩
    case ax15 => k_mem
    case bx15 => rfl
    case cx15 => rfl
    case dx15 => rfl
    · refine' clam_intro ?a1x15 ?a2x15 e2 e3 ?b1x15 ?b2x15 ?b3x15 ?b4x15 ?b5x15 ?b6x15 ?b7x15 ?b8x15 ?b9x15 ?b10x15 ?b11x15
      case a1x15 => k_mem
      case a2x15 => repeat (first | exact e1 | refine List.Mem.tail _ ?_)
      case b1x15 => exact fun _ _ => rfl
      case b2x15 => rfl
      case b3x15 => rfl
      case b4x15 => rfl
      case b5x15 => rfl
      case b6x15 => rfl
      case b7x15 => decide
      case b8x15 => rfl
      case b9x15 => rfl
      case b10x15 => decide
      case b11x15 => exact fun _ _ _ => rfl
  · obtain ⟨oc, vs, t, e1, e2, e3⟩ := hc 16 (by decide)
    refine' ⟨_, elt_intro ?ax16 ?bx16 ?cx16 ?dx16 ?ex16⟩
    case ax16 => k_mem
    case bx16 => rfl
    case cx16 => rfl
    case dx16 => rfl
    · refine' clam_intro ?a1x16 ?a2x16 e2 e3 ?b1x16 ?b2x16 ?b3x16 ?b4x16 ?b5x16 ?b6x16 ?b7x16 ?b8x16 ?b9x16 ?b10x16 ?b11x16
      case a1x16 => k_mem
      case a2x16 => repeat (first | exact e1 | refine List.Mem.tail _ ?_)
      case b1x16 => exact fun _ _ => rfl
      case b2x16 => rfl
      case b3x16 => rfl
      case b4x16 => rfl
      case b5x16 => rfl
      case b6x16 => rfl
      case b7x16 => decide
      case b8x16 => rfl
      case b9x16 => rfl
      case b10x16 => decide
      case b11x16 => exact fun _ _ _ => rfl
  · obtain ⟨oc, vs, t, e1, e2, e3⟩ := hc 17 (by decide)
    refine' ⟨_, elt_intro ?ax17 ?bx17 ?cx17 ?dx17 ?ex17⟩
    case ax17 => k_mem
    case bx17 => rfl
    case cx17 => rfl
    case dx17 => rfl
    · refine' clam_intro ?a1x17 ?a2x17 e2 e3 ?b1x17 ?b2x17 ?b3x17 ?b4x17 ?b5x17 ?b6x17 ?b7x17 ?b8x17 ?b9x17 ?b10x17 ?b11x17
      case a1x17 => k_mem
      case a2x17 => repeat (first | exact e1 | refine List.Mem.tail _ ?_)
      case b1x17 => exact fun _ _ => rfl
      case b2x17 => rfl
      case b3x17 => rfl
      case b4x17 => rfl
      case b5x17 => rfl
      case b6x17 => rfl
      case b7x17 => decide
      case b8x17 => rfl
      case b9x17 => rfl
      case b10x17 => decide
      case b11x17 => exact fun _ _ _ => rfl
  · obtain ⟨oc, vs, t, e1, e2, e3⟩ := hc 18 (by decide)
    refine' ⟨_, elt_intro ?ax18 ?bx18 ?cx18 ?dx18 ?ex18⟩
    case ax18 => k_mem
    case bx18 => rfl
    case cx18 => rfl
    case dx18 => rfl
    · refine' clam_intro ?a1x18 ?a2x18 e2 e3 ?b1x18 ?b2x18 ?b3x18 ?b4x18 ?b5x18 ?b6x18 ?b7x18 ?b8x18 ?b9x18 ?b10x18 ?b11x18
      case a1x18 => k_mem
      case a2x18 => repeat (first | exact e1 | refine List.Mem.tail _ ?_)
      case b1x18 => exact fun _ _ => rfl
      case b2x18 => rfl
      case b3x18 => rfl
      case b4x18 => rfl
      case b5x18 => rfl
      case b6x18 => rfl
      case b7x18 => decide
      case b8x18 => rfl
      case b9x18 => rfl
      case b10x18 => decide
      case b11x18 => exact fun _ _ _ => rfl
  · exact fun q hq => by repeat (first | exact hq | refine List.Mem.tail _ ?_)
end Mine

namespace Mine
open PySem.Calls PySem.Spec
local macro_rules | `(tactic| k_room) => `(tactic| ((try simp only [depth_under_make, depth_under_kw, depth_in1, depth_deeper, depth_caller]); (try dsimp only); omega))
local macro_rules | `(tactic| k_mem) => `(tactic| first | with_reducible assumption | (with_reducible k_memK) | ((repeat with_reducible refine List.Mem.tail _ ?_); assumption))
local macro_rules | `(tactic| k_all) => `(tactic| assumption)
theorem fill7 (w : World) : PySem.Challenge.rw_kq0045_01 = PySem.Challenge.rw_kq0045_01 ∧ hd.heap_39 w.params = hd.heap_39 w.params := by
  k_fill
  exact ⟨rfl, rfl⟩

section
variable {M : Model} {A : Around} {E : Value → Shared → Prop} {s : Shared} {h₀ : Heap} {L a c P : Addr} {m mg mb : Str → Option Value} {cn : Str} {cs : Scope} {ccd : Value} {cl : List (Str × Addr)} {news : Led}
  {p : Program} {loose : List Str} {mean : ExcName → Option Value} {name qual : Str} {params : Arguments} {body : Expr} {scope : Scope} {ps : Array Value} {pos : Pos} {firstLine : Nat} {clos : List (Str × Addr)}
/-- a lambda made for the first time: its code is laid into the table, which goes to the ledger's front -/
theorem nest_front {Q : Value → Shared → Prop} (F : Fr h₀ L s.heap m) (N : News h₀ L s.heap news) (T : Top p loose mean mg mb h₀) (C : CodeHd h₀ c P) (hcd : ccd = .ref c) (hm : (P, tabObj ps) ∈ news) (ht : TriplesOk ps.toList) (hnf : codeAmong pos ps.toList = none)
    (hcl : closureFor scope (envX cn cs L a ccd cl) = pure clos)
    (h : ∀ f c' oc vs t ctv h' tk n, Fr h₀ L h' m → News h₀ L h' n →
      n = (P, tabObj (ps ++ #[rawInt pos.line, rawInt pos.col, .ref c'])) :: (f, kla_obj name qual params body scope clos ((mg "__name__").getD .none) c' ctv) :: (c', oc) :: news.filter (fun q => decide (q.1 ≠ P)) →
      oc.data = .fields vs → vs[1]? = some (.str qual t) → @LT.lt Nat _ P c' → Q (.ref f) { s with heap := h', toks := tk }) :
    wpAny M A (makeFunction name qual params (.expr body) scope (envX cn cs L a ccd cl) [] [] [] pos firstLine) Q E s := by
  have N2 : News h₀ L s.heap ((P, tabObj ps) :: news.filter (fun q => decide (q.1 ≠ P))) := fun q hq => by
    rcases List.mem_cons.mp hq with rfl | hq
    · exact N _ hm
    · exact N _ (List.mem_filter.mp hq).1
  refine kla_nest F N2 T C hcd (UpdF.head fun q hq => ?_) ht hnf hcl fun f c' oc vs t ctv h' tk F' N' h1 h2 h3 _ => ?_
  · exact of_decide_eq_true (List.mem_filter.mp hq).2
  · refine h f c' oc vs t ctv h' tk _ F' (fun q hq => ?_) rfl h1 h2 (h3 _ (.head _))
    refine N' q ?_
    simp only [List.mem_cons] at hq ⊢
    rcases hq with h | h | h | h
    · exact .inr (.inr (.inl h))
    · exact .inl h
    · exact .inr (.inl h)
    · exact .inr (.inr (.inr h))
end

/-- a code's table, by its places -/
def trip (l : List (Pos × Nat)) : List Value := l.flatMap fun x => [rawInt x.1.line, rawInt x.1.col, .ref x.2]
theorem trip_ok : ∀ l, TriplesOk (trip l)
  | [] => True.intro
  | _ :: r => trip_ok r
theorem trip_none {pos : Pos} : ∀ {l : List (Pos × Nat)}, (∀ x ∈ l, (x.1.line, x.1.col) ≠ (pos.line, pos.col)) → codeAmong pos (trip l) = none
  | [], _ => rfl
  | x :: r, h => by
    have h1 := h x (.head _)
    show (if ((x.1.line : Int) == (pos.line : Int) && (x.1.col : Int) == (pos.col : Int)) = true then _ else codeAmong pos (trip r)) = none
    rw [if_neg, trip_none fun y hy => h y (.tail _ hy)]
    intro e
    obtain ⟨e1, e2⟩ := Bool.and_eq_true_iff.mp e
    have e1 := beq_iff_eq.mp e1
    have e2 := beq_iff_eq.mp e2
    exact h1 (Prod.ext (by show x.1.line = pos.line; omega) (by show x.1.col = pos.col; omega))

structure Row where
  i : Int
  z : Int
  k1 : Nat
  k2 : Nat
  k : Nat
  p1 : Pos
  p2 : Pos
  q : Pos
  pos : Pos
  params : Arguments
  body : Expr
  sc : Scope
def Row.expr (r : Row) : Expr := .Tuple [.Constant (.int r.i) r.k1 r.p1, .Constant (.int r.z) r.k2 r.p2, .Lambda r.params r.body r.sc r.pos] r.k r.q
def rowOf : Expr → Option Row
  | .Tuple [.Constant (.int i) k1 p1, .Constant (.int z) k2 p2, .Lambda params body sc pos] k q => some ⟨i, z, k1, k2, k, p1, p2, q, pos, params, body, sc⟩
  | _ => none
def rowsIn (es : List Expr) : List Row := es.filterMap rowOf

/-- the rows made: their tuples -/
def Made (n : Led) (P : Addr) : List Row → List Nat → Prop
  | [], [] => True
  | r :: rs, t :: ts => (∃ ta tb f, (t, tupObj [.int r.i ta, .int r.z tb, .ref f]) ∈ n) ∧ t ≠ P ∧ Made n P rs ts
  | _, _ => False
theorem Made.mono {n n' : Led} {P : Addr} (h : ∀ q ∈ n, q.1 ≠ P → q ∈ n') : ∀ {rs : List Row} {ts : List Nat}, Made n P rs ts → Made n' P rs ts
  | [], [], _ => True.intro
  | _ :: _, _ :: _, ⟨⟨ta, tb, f, a⟩, b, c⟩ => ⟨⟨ta, tb, f, h _ a b⟩, b, c.mono h⟩

section
variable {M : Model} {A : Around} {E : Value → Shared → Prop} {h₀ : Heap} {L a c P : Addr} {m mg mb : Str → Option Value} {cn : Str} {cs : Scope} {cl : List (Str × Addr)} {p : Program} {loose : List Str} {mean : ExcName → Option Value}
theorem rows_first (T : Top p loose mean mg mb h₀) (C : CodeHd h₀ c P) : ∀ (rs : List Row) (tr : List (Pos × Nat)) (s : Shared) (news : Led) (pos : Pos) (Q : List Value → Shared → Prop), Fr h₀ L s.heap m → News h₀ L s.heap news →
    (P, tabObj (trip tr).toArray) ∈ news → (∀ x ∈ tr, CodeIs news x.2 (cn ++ Str.ofString ".<locals>." ++ Str.ofString "<lambda>") ∧ x.2 ≠ P) →
    rs.map (fun r => defaultsOf r.params (envX cn cs L a (.ref c) cl)) = rs.map (fun _ => ([], [])) → rs.map (fun r => closureFor r.sc (envX cn cs L a (.ref c) cl)) = rs.map (fun _ => pure []) →
    (tr.map (fun x => (x.1.line, x.1.col)) ++ rs.map (fun r => (r.pos.line, r.pos.col))).Nodup →
    (∀ ts tr' h' tk n, Fr h₀ L h' m → News h₀ L h' n → ts.length = rs.length → tr'.map (·.1) = tr.map (·.1) ++ rs.map (·.pos) → (P, tabObj (trip tr').toArray) ∈ n → (∀ x ∈ tr', CodeIs n x.2 (cn ++ Str.ofString ".<locals>." ++ Str.ofString "<lambda>") ∧ x.2 ≠ P) →
      (∀ q ∈ news, q.1 ≠ P → q ∈ n) → Made n P rs ts → Q (ts.map .ref) { s with heap := h', toks := tk }) →
    wpAny M A (spliced (backTo pos (starEach (rs.map Row.expr) (envX cn cs L a (.ref c) cl)))) Q E s
  | [], tr, s, news, pos, Q, F, N, hm, hc, _, _, _, h => args_nil (h [] tr s.heap s.toks news F N rfl (by simp) hm hc (fun q hq _ => hq) True.intro)
  | r :: rs, tr, s, news, pos, Q, F, N, hm, hc, hd, hcl, hnd, h => by
    have hd1 := List.cons.inj hd
    have hcl1 := List.cons.inj hcl
    refine args_cons ?_ rfl
    show wpAny M A (eval (.Tuple [.Constant (.int r.i) r.k1 r.p1, .Constant (.int r.z) r.k2 r.p2, .Lambda r.params r.body r.sc r.pos] r.k r.q) (envX cn cs L a (.ref c) cl)) _ E s
    refine Tuple_ (args_cons (wpAny_Constant_int (args_cons (wpAny_Constant_int (args_cons (kla_eval hd1.1 ?_) rfl)) rfl)) rfl)
    refine nest_front (s := { s with toks := s.toks + 1 + 1 }) F N T C rfl hm (by rw [List.toList_toArray]; exact trip_ok tr) (by
      rw [List.toList_toArray]
      refine trip_none fun x hx e => ?_
      have := (List.nodup_append.mp hnd).2.2 _ (List.mem_map_of_mem hx) _ (List.mem_map_of_mem (f := fun r : Row => (r.pos.line, r.pos.col)) (.head _))
      exact this e) hcl1.1 fun f c' oc vs t ctv h' tk n F' N' hn k1 k2 k3 => ?_
    refine args_nil ?_
    refine kup_newTuple (s := { s with heap := h', toks := tk }) F' N' (fun D h2 F2 N2 hD => ?_) (show 3 ≤ sizeLine by decide)
    have hP : (P, tabObj (trip (tr ++ [(r.pos, c')])).toArray) ∈ n := by
      rw [hn]
      have : tabObj ((trip tr).toArray ++ #[rawInt r.pos.line, rawInt r.pos.col, Value.ref c']) = tabObj (trip (tr ++ [(r.pos, c')])).toArray := by
        have e : trip (tr ++ [(r.pos, c')]) = trip tr ++ [rawInt r.pos.line, rawInt r.pos.col, Value.ref c'] := by unfold trip; rw [List.flatMap_append]; rfl
        rw [e, List.append_toArray]
      rw [← this]; exact .head _
    have hDP : D ≠ P := fun e => by
      have := hD _ hP
      rw [e] at this
      exact Nat.lt_irrefl _ this
    have hcP : c' ≠ P := Nat.ne_of_gt k3
    have old : ∀ q ∈ news, q.1 ≠ P → q ∈ (D, tupObj [Value.int r.i s.toks, Value.int r.z (s.toks + 1), Value.ref f]) :: n := fun q hq hne => by
      refine .tail _ ?_
      rw [hn]
      exact .tail _ (.tail _ (.tail _ (List.mem_filter.mpr ⟨hq, decide_eq_true hne⟩)))
    have cold : ∀ {x q}, CodeIs news x q → x ≠ P → CodeIs ((D, tupObj [Value.int r.i s.toks, Value.int r.z (s.toks + 1), Value.ref f]) :: n) x q := fun ⟨oc, vs, t, a, b, e⟩ hx => ⟨oc, vs, t, old _ a hx, b, e⟩
    refine rows_first T C rs (tr ++ [(r.pos, c')]) { s with heap := h2, toks := tk } _ pos _ F2 N2 (.tail _ hP) (fun x hx => ?_) hd1.2 hcl1.2 (by simpa [List.map_append, List.append_assoc] using hnd) fun ts tr' h3 tk3 n3 F3 N3 hl htr hP3 hc3 ho3 hm3 => ?_
    · rcases List.mem_append.mp hx with hx | hx
      · exact ⟨cold (hc x hx).1 (hc x hx).2, (hc x hx).2⟩
      · obtain rfl := List.mem_singleton.mp hx
        exact ⟨⟨oc, vs, t, .tail _ (by rw [hn]; exact .tail _ (.tail _ (.head _))), k1, k2⟩, hcP⟩
    · exact h (D :: ts) tr' h3 tk3 n3 F3 N3 (congrArg Nat.succ hl) (by rw [htr, List.map_append, List.append_assoc]; rfl) hP3 hc3 (fun q hq hne => ho3 q (old q hq hne) hne)
        ⟨⟨_, _, f, ho3 _ (.head _) hDP⟩, hDP, hm3⟩
end

theorem trip_zip : ∀ (tr : List (Pos × Nat)) (ls : List (Nat × Nat)), tr.map (fun x => (x.1.line, x.1.col)) = ls → trip tr = (ls.zip (tr.map (·.2))).flatMap fun x => [rawInt x.1.1, rawInt x.1.2, .ref x.2]
  | [], [], _ => rfl
  | [], _ :: _, h => nomatch h
  | _ :: _, [], h => nomatch h
  | x :: tr, l :: ls, h => by
    have h1 := List.cons.inj h
    have ih := trip_zip tr ls h1.2
    obtain ⟨h2, h3⟩ := h1
    subst h2
    show [rawInt x.1.line, rawInt x.1.col, Value.ref x.2] ++ trip tr = _
    rw [ih]; rfl
theorem range_getD {cs : List Nat} {k : Nat} (h : cs.length = k) : cs = (List.range k).map fun i => cs.getD i 0 := by
  subst h
  apply List.ext_getElem (by simp)
  intro i h1 h2
  simp [h1]
theorem callsTab_of {n : Led} {tr : List (Pos × Nat)} (h1 : tr.map (fun x => (x.1.line, x.1.col)) = (List.range 19).map fun i => (213 + i, 0)) (h2 : (547, tabObj (trip tr).toArray) ∈ n) (h3 : ∀ x ∈ tr, CodeIs n x.2 cq) : CallsTab n := by
  have hl : (tr.map (·.2)).length = 19 := by
    have := congrArg List.length h1
    simpa using this
  refine ⟨fun i => (tr.map (·.2)).getD i 0, ?_, fun i hi => ?_⟩
  · rw [trip_zip tr _ h1, range_getD hl] at h2
    exact h2
  · have hi' : i < (tr.map (·.2)).length := by omega
    have : (tr.map (·.2)).getD i 0 = (tr.map (·.2))[i] := by rw [List.getD_eq_getElem?_getD, List.getElem?_eq_getElem hi']; rfl
    show CodeIs n ((tr.map (·.2)).getD i 0) cq
    rw [this]
    have hm : (tr.map (·.2))[i] ∈ tr.map (·.2) := List.getElem_mem hi'
    obtain ⟨x, hx, e⟩ := List.mem_map.mp hm
    rw [← e]
    exact h3 x hx
theorem Made.get {n : Led} {P : Addr} : ∀ {rs : List Row} {ts : List Nat}, Made n P rs ts → ∀ i (h : i < rs.length), ∃ ta tb f, (ts.getD i 0, tupObj [.int rs[i].i ta, .int rs[i].z tb, .ref f]) ∈ n
  | _ :: _, _ :: _, ⟨a, _, _⟩, 0, _ => a
  | _ :: _, _ :: _, ⟨_, _, c⟩, i + 1, h => c.get i (Nat.lt_of_succ_lt_succ h)

/-- what is read off _law_calls: each row's sort and size -/
def CallsRead (news : Led) (v : Value) (n : Led) : Prop :=
  ∃ l : Addr, ∃ T F : Nat → Nat, v = .ref l ∧ (l, W.listOf ((List.range 19).map fun i => Value.ref (T i)).toArray 0) ∈ n ∧ (∀ κ < 19, ∃ ta tb, (T κ, tupObj [.int (evSort κ) ta, .int (evSize κ) tb, .ref (F κ)]) ∈ n) ∧ CallsTab n ∧ (∀ q ∈ news, q.1 ≠ 547 → q ∈ n)

theorem CallsTab.mono {n n' : Led} (h : ∀ q ∈ n, q ∈ n') : CallsTab n → CallsTab n' := fun ⟨c, a, b⟩ => ⟨c, h _ a, fun i hi => (b i hi).mono h⟩
theorem CallsOut.read {Γ : Gl} {news n : Led} {v : Value} (hT : CallsTab news) : CallsOut Γ news v n → CallsRead news v n := fun ⟨l, T, F, h1, h2, h3, h4⟩ =>
  ⟨l, T, F, h1, h2, fun κ hκ => let ⟨ta, tb, a, _⟩ := h3 κ hκ; ⟨ta, tb, a⟩, hT.mono h4, fun q hq _ => h4 q hq⟩

theorem body_first {Γ : Gl} {d : Nat} {a : Addr} {cs : Scope} {elts : List Expr} {p1 p2 : Pos} {news : Led} (hm : (547, tabObj #[]) ∈ news) (hC : ∀ g, Γ.K.In g → CodeHd g 551 547)
    (hes : elts = (rowsIn elts).map Row.expr) (hd : ∀ L, (rowsIn elts).map (fun r => defaultsOf r.params (envOf "_law_calls" cs L a (.ref 551))) = (rowsIn elts).map (fun _ => ([], [])))
    (hcl : ∀ L, (rowsIn elts).map (fun r => closureFor r.sc (envOf "_law_calls" cs L a (.ref 551))) = (rowsIn elts).map (fun _ => pure []))
    (hp : (rowsIn elts).map (fun r => (r.pos.line, r.pos.col)) = (List.range 19).map fun i => (213 + i, 0))
    (hi : (rowsIn elts).map (·.i) = (List.range 19).map fun κ => (evSort κ : Int)) (hz : (rowsIn elts).map (·.z) = (List.range 19).map fun κ => (evSize κ : Int)) :
    Body Γ d (fun L => envOf "_law_calls" cs L a (.ref 551)) [.Return (some (.List elts p1)) p2] [] news (CallsRead news) := by
  intro A L g s Q E C hdp hQ
  have hlen : (rowsIn elts).length = 19 := by have := congrArg List.length hp; simpa using this
  refine wpAny_execs_cons (wpAny_Return_some (List_ ?_))
  rw [hes]
  refine rows_first (cn := "_law_calls") (cl := []) C.top (hC g C.kin) (rowsIn elts) [] s news p1 _ C.fr C.nw hm (fun _ h => absurd h List.not_mem_nil) (hd L) (hcl L) ?_ fun ts tr' h' tk n F' N' hl htr hP hc ho hmd => ?_
  · rw [hp]
    show (List.map (fun i => (213 + i, 0)) (List.range 19)).Nodup
    decide
  · refine newList_K (s := { s with heap := h', toks := tk }) F' N' (fun l h2 F2 N2 hl2 => ?_) (by rw [List.length_map, hl, hlen]; decide)
    refine hQ (.ret (.ref l)) h2 tk _ _ F2 N2 ⟨l, fun i => ts.getD i 0, ?_⟩
    have hlt : ts.length = 19 := hl.trans hlen
    have hmd := hmd.get
    have each : ∀ κ, κ < 19 → ∃ f, ∃ ta tb, (ts.getD κ 0, tupObj [Value.int (evSort κ) ta, Value.int (evSize κ) tb, Value.ref f]) ∈ n := fun κ hκ => by
      obtain ⟨ta, tb, f, h⟩ := hmd κ (by omega)
      have e1 : (rowsIn elts)[κ].i = (evSort κ : Int) := by
        have := congrArg (fun l => l[κ]?) hi
        simpa [hlen, hκ, List.getElem?_range hκ] using this
      have e2 : (rowsIn elts)[κ].z = (evSize κ : Int) := by
        have := congrArg (fun l => l[κ]?) hz
        simpa [hlen, hκ, List.getElem?_range hκ] using this
      rw [e1, e2] at h
      exact ⟨f, ta, tb, h⟩
    refine ⟨fun κ => if h : κ < 19 then (each κ h).choose else 0, rfl, ?_, fun κ hκ => ?_, ?_, ?_⟩
    · have : ts.map Value.ref = (List.range 19).map fun i => Value.ref (ts.getD i 0) := by
        conv => lhs; rw [range_getD hlt]
        rw [List.map_map]; rfl
      rw [this]; exact .head _
    · obtain ⟨ta, tb, h⟩ := (each κ hκ).choose_spec
      refine ⟨ta, tb, .tail _ ?_⟩
      simp only [hκ, dif_pos]
      exact h
    · refine CallsTab.mono (fun q hq => .tail _ hq) (callsTab_of (tr := tr') ?_ hP fun x hx => (hc x hx).1)
      have : tr'.map (fun x => (x.1.line, x.1.col)) = (tr'.map (·.1)).map fun p => (p.line, p.col) := by rw [List.map_map]; rfl
      rw [this, htr, ← hp, List.map_nil, List.nil_append, List.map_map]; rfl
    · exact fun q hq hne => .tail _ (ho q hq hne)

theorem calls_first {w : World} {p : Program} {loose : List Str} {mean : ExcName → Option Value} {mg mb : Str → Option Value} {news : Led} (hm : (547, tabObj #[]) ∈ news) :
    Calls (G0 w p loose mean mg mb) 8 (.ref 552) [] news (CallsRead news) := by
  refine' Calls.of_def ?ho ?hcd ?hb ?hl ?h1 ?h2 ?h3 ?h4 ?body
  case ho => show List.lookup _ (hd.heap_39 w.params) = _; k_is
  case hcd => show codeIn (hd.heap_39 w.params) _ _ = _; k_is
  case hb => exact fun s => BindsTo.of_eq rfl
  case hl => rfl
  case h1 => rfl
  case h2 => rfl
  case h3 => rfl
  case h4 => decide
  refine body_first hm (fun g X => codeHd_of_K X (by kernel_rfl)) ?_ ?_ ?_ ?_ ?_ ?_
  · rfl
  · exact fun L => rfl
  · exact fun L => rfl
  · rfl
  · rfl
  · rfl
end Mine

namespace Mine
open PySem.Calls PySem.Spec
local macro_rules | `(tactic| k_room) => `(tactic| ((try simp only [depth_under_make, depth_under_kw, depth_in1, depth_deeper, depth_caller]); (try dsimp only); omega))
local macro_rules | `(tactic| k_mem) => `(tactic| first | with_reducible assumption | (with_reducible k_memK) | ((repeat with_reducible refine List.Mem.tail _ ?_); assumption))
local macro_rules | `(tactic| k_all) => `(tactic| assumption)
theorem fill8 (w : World) : PySem.Challenge.rw_kq0045_01 = PySem.Challenge.rw_kq0045_01 ∧ hd.heap_39 w.params = hd.heap_39 w.params := by
  k_fill
  exact ⟨rfl, rfl⟩

def Stop (P : Prop) : Prop := P
theorem stop_ {P : Prop} (h : Stop P) : P := h
local macro_rules | `(tactic| walk_at "call ref") => `(tactic| ((with_reducible show wpAny _ _ (call (.ref 552) _ _) _ _ _); refine stop_ ?_))
local macro_rules | `(tactic| walk_at "CompSrc") => `(tactic| refine stop_ ?_)
local macro_rules | `(tactic| walk_at "exec Assign cons ListComp") => `(tactic| refine stop_ ?_)

theorem Cx.sub {Γ : Gl} {A : Around} {env : Env} {L : Addr} {h₀ : Heap} {m : Str → Option Value} {h : Heap} {news news' : Led} (C : Cx Γ A env L h₀ m h news) (hs : ∀ q ∈ news', q ∈ news) : Cx Γ A env L h₀ m h news' :=
  ⟨C.below, C.fr, C.kin, fun q hq => C.nw q (hs q hq), C.top, C.hf, C.hk, C.hh⟩
theorem Calls.sub {Γ : Gl} {d : Nat} {f : Value} {args : List Value} {news news' : Led} {P : Value → Led → Prop} (H : Calls Γ d f args news' P) (hs : ∀ q ∈ news', q ∈ news) : Calls Γ d f args news P :=
  fun A env L h₀ m s Q E C hd hQ => H A env L h₀ m s Q E (C.sub hs) hd hQ
theorem Calls.mono {Γ : Gl} {d : Nat} {f : Value} {args : List Value} {news : Led} {P P' : Value → Led → Prop} (H : Calls Γ d f args news P) (hs : ∀ v n, P v n → P' v n) : Calls Γ d f args news P' :=
  fun A env L h₀ m s Q E C hd hQ => H A env L h₀ m s Q E C hd fun r h' tk n F N hP => hQ r h' tk n F N (hs _ _ hP)
/-- a contract put to use at a call -/
theorem Calls.at {Γ : Gl} {d : Nat} {f : Value} {args : List Value} {news : Led} {P : Value → Led → Prop} {A A₀ : Around} {env : Env} {outer : List Env} {L : Addr} {h₀ base : Heap} {m : Str → Option Value} {s : Shared} {Q E : Value → Shared → Prop}
    (F : Fr h₀ L s.heap m) (N : News h₀ L s.heap news) (X : Γ.K.In h₀) (T : Top Γ.p Γ.loose Γ.mean Γ.mg Γ.mb h₀) (B : Below A₀ base outer h₀) (hA : A.frames = some (env :: outer)) (hf : env.frame = some L) (hk : env.scope.kind = .function) (hh : A.handled = none)
    (hd : A.depth + d < recursionLimit) (H : Calls Γ d f args news P) (hQ : ∀ r h' tk news', Fr h₀ L h' m → News h₀ L h' news' → P r news' → Q r (St s h' tk)) : wpAny (model Γ.prog Γ.w) A (call f args) Q E s :=
  H A env L h₀ m s Q E ⟨⟨A₀, base, outer, B, hA⟩, F, X, N, T, hf, hk, hh⟩ hd hQ

/-- the ledger without the entries of a -/
def del (a : Addr) (n : Led) : Led := n.filter fun q => decide (q.1 ≠ a)
theorem mem_del {a : Addr} {n : Led} {q : Addr × Obj} (h : q ∈ n) (hne : q.1 ≠ a) : q ∈ del a n := List.mem_filter.mpr ⟨h, decide_eq_true hne⟩
theorem of_del {a : Addr} {n : Led} {q : Addr × Obj} (h : q ∈ del a n) : q ∈ n ∧ q.1 ≠ a := ⟨(List.mem_filter.mp h).1, of_decide_eq_true (List.mem_filter.mp h).2⟩
theorem to_front {h₀ h : Heap} {L a : Addr} {o : Obj} {n : Led} (N : News h₀ L h n) (hm : (a, o) ∈ n) : News h₀ L h ((a, o) :: del a n) := fun q hq => by
  rcases List.mem_cons.mp hq with rfl | hq
  · exact N _ hm
  · exact N _ (of_del hq).1
theorem front_off {a : Addr} {n : Led} : ∀ q ∈ del a n, q.1 ≠ a := fun _ hq => (of_del hq).2
theorem News_fn {h₀ h : Heap} {L a : Addr} {o o' : Obj} {n : Led} (N : News h₀ L h n) (h1 : (a, o) ∈ n) (h2 : (a, o') ∈ n) : o = o' := by
  have e1 := (N _ h1).1
  have e2 := (N _ h2).1
  exact Option.some.inj (e1.symm.trans e2)

theorem ne_of_obj {h₀ h : Heap} {L a b : Addr} {o o' : Obj} {n : Led} (N : News h₀ L h n) (h1 : (a, o) ∈ n) (h2 : (b, o') ∈ n) (hne : o ≠ o') : a ≠ b := fun e => by
  subst e; exact hne (News_fn N h1 h2)
theorem HearsTab.mono' {n n' : Led} (h1 : ∀ ps, (554, tabObj ps) ∈ n → (554, tabObj ps) ∈ n') (h2 : ∀ q ∈ n, still q.2 = true → (∃ vs, q.2.data = .fields vs) → q ∈ n') : HearsTab n → HearsTab n' := fun ⟨c0, c1, c2, c3, c4, a, b0, b1, b2, b3, b4⟩ =>
  have g : ∀ {c}, CodeIs n c hq → CodeIs n' c hq := fun ⟨oc, vs, t, x, y, z⟩ => ⟨oc, vs, t, h2 _ x (still_fields y z) ⟨_, y⟩, y, z⟩
  ⟨c0, c1, c2, c3, c4, h1 _ a, g b0, g b1, g b2, g b3, g b4⟩
theorem CallsTab.mono' {n n' : Led} (h1 : ∀ ps, (547, tabObj ps) ∈ n → (547, tabObj ps) ∈ n') (h2 : ∀ q ∈ n, still q.2 = true → (∃ vs, q.2.data = .fields vs) → q ∈ n') : CallsTab n → CallsTab n' := fun ⟨c, a, b⟩ =>
  ⟨c, h1 _ a, fun i hi => let ⟨oc, vs, t, x, y, z⟩ := b i hi; ⟨oc, vs, t, h2 _ x (still_fields y z) ⟨_, y⟩, y, z⟩⟩
theorem HearsTab.at {n : Led} : HearsTab n ∨ (554, tabObj #[]) ∈ n → ∃ ps, (554, tabObj ps) ∈ n ∧ still (tabObj ps) = false
  | .inl ⟨_, _, _, _, _, h, _⟩ => ⟨_, h, rfl⟩
  | .inr h => ⟨_, h, rfl⟩
theorem CallsTab.at {n : Led} : CallsTab n ∨ (547, tabObj #[]) ∈ n → ∃ ps, (547, tabObj ps) ∈ n ∧ still (tabObj ps) = false
  | .inl ⟨_, h, _⟩ => ⟨_, h, rfl⟩
  | .inr h => ⟨_, h, rfl⟩
theorem still_ne {h₀ h : Heap} {L a : Addr} {o : Obj} {n : Led} (N : News h₀ L h n) (hm : (a, o) ∈ n) (hs : still o = false) : ∀ q ∈ n, still q.2 = true → q.1 ≠ a := fun q hq hst e => by
  obtain ⟨b, o'⟩ := q
  have e : b = a := e
  subst e
  have := News_fn N hq hm
  subst this
  rw [hs] at hst; cases hst

theorem calls_any {w : World} {p : Program} {loose : List Str} {mean : ExcName → Option Value} {mg mb : Str → Option Value} {news : Led} (h : CallsTab news ∨ (547, tabObj #[]) ∈ news) :
    Calls (G0 w p loose mean mg mb) 8 (.ref 552) [] news (CallsRead news) := by
  rcases h with h | h
  · exact (calls_hit h).mono fun v n hn => hn.read h
  · exact calls_first h

section
variable {prog : Program} {w : World} {A : Around} {s : Shared} {h₀ : Heap} {L : Addr} {m : Str → Option Value} {env : Env}
theorem compRest_ind {elt : Expr} {x : Str} {scope : Scope} {cl : List (Str × Addr)} {S : Led → Prop} {P : Nat → Value → Prop} {Fin : List Value → Led → Prop} {n : Nat} (Inv : Nat → List Value → Led → Prop)
    (hfin : ∀ ys news, Inv n ys news → Fin ys news)
    (hturn : ∀ i ys news, i < n → Inv i ys news → ∀ v I oI C oC D m₂ h tk (E' : Value → Shared → Prop), P i v → LCg.NsObj oC m₂ → m₂ x = some v → Fr h₀ L h m → News h₀ L h ((I, oI) :: (C, oC) :: (D, LCg.lst ys) :: news) → LCg.Off3 I C D news → ((@Ne Nat I C) ∧ (@Ne Nat I D) ∧ (@Ne Nat C D)) →
      wpAny (model prog w) A (eval elt (compEnvC scope cl C env)) (LCg.CompEnd h₀ L m { s with heap := h, toks := tk } I oI C oC D (LCg.lst ys) S (fun y news' => Inv (i + 1) (ys ++ [y]) news')) E' { s with heap := h, toks := tk }) :
    ∀ k i, i + k = n → ∀ ys news, Inv i ys news → LCg.CompRest prog w A h₀ L m env elt x scope cl s S P Fin k i ys news
  | 0, i, e, ys, news, hi => LCg.CompRest.zero (hfin ys news (by rw [← e]; exact hi))
  | k + 1, i, e, ys, news, hi => LCg.CompRest.succ fun v I oI C oC D m₂ h tk E' h1 h2 h3 h4 h5 h6 h7 =>
    wpAny_mono (hturn i ys news (by omega) hi v I oI C oC D m₂ h tk E' h1 h2 h3 h4 h5 h6 h7) (fun y s₂ ⟨h', tk', news', e1, e2, e3, e4, e5, e6⟩ => ⟨h', tk', news', e1, e2, e3, e4, e5, compRest_ind Inv hfin hturn k (i + 1) (by omega) _ _ e6⟩) fun _ _ e => e
end

theorem hears_any {w : World} {p : Program} {loose : List Str} {mean : ExcName → Option Value} {mg mb : Str → Option Value} {news base : Led} {heard : Addr} {number kind : Int} {tn tk ts : Tok} {size : Nat} (hs : size < 5) (hb : ∀ q ∈ base, q ∈ news)
    (h : HearsTab base ∨ (554, tabObj #[]) ∈ base ∧ size = 1) : Calls (G0 w p loose mean mg mb) 8 (.ref 559) [.ref heard, .int number tn, .int kind tk, .int size ts] news (Heard (G0 w p loose mean mg mb) heard number kind size base news) := by
  rcases h with h | ⟨h, rfl⟩
  · match size, hs with
    | 0, _ => exact hears_hit0 hb h
    | 1, _ => exact hears_hit1 hb h
    | 2, _ => exact hears_hit2 hb h
    | 3, _ => exact hears_hit3 hb h
    | 4, _ => exact hears_hit4 hb h
  · have hm := hb _ h
    refine ((hears_first (news := del 554 news) front_off).sub fun q hq => ?_).mono fun v n ⟨f, nf, a, b, c, d, e, g⟩ => ?_
    · rcases List.mem_cons.mp hq with rfl | hq
      · exact hm
      · exact (of_del hq).1
    · refine ⟨f, nf, a, b, fun q hq => (c q hq).elim (fun h => absurd h List.not_mem_nil) fun h => .inr (h.imp id fun h z hz => ?_), d, e, fun q hq hne => g q (.tail _ (mem_del hq hne)) hne⟩
      by_cases hz' : z.1 = 554
      · rw [hz']; exact h _ (.head _)
      · exact h z (.tail _ (mem_del hz hz'))

/-- the listener's lambdas so far -/
structure HInv (Γ : Gl) (heard : Addr) (number : Int) (n1 : Led) (i : Nat) (ys : List Value) (news : Led) : Prop where
  keep : ∀ q ∈ n1, q.1 ≠ 554 → q ∈ news
  tab : HearsTab news ∨ (554, tabObj #[]) ∈ news ∧ i = 0
  len : ys.length = i
  lams : ∀ j < i, ∃ f S, ys[j]? = some (.ref f) ∧ (∀ q ∈ S, q ∈ news) ∧ (∀ q ∈ S, q.1 ≠ 554) ∧ (∀ q ∈ S, still q.2 = true) ∧ Lam Γ heard number j (evSize j) f S

theorem HInv.step {Γ : Gl} {heard : Addr} {number : Int} {n1 : Led} {i : Nat} {ys : List Value} {news n : Led} {I C D L : Addr} {oI oC oD : Obj} {v : Value} {h₀ h : Heap} (V : HInv Γ heard number n1 i ys news) (off : LCg.Off3 I C D news)
    (N : News h₀ L h n) (H : Heard Γ heard number i (evSize i) news ((I, oI) :: (C, oC) :: (D, oD) :: news) v n) :
    ∃ news', (∀ p ∈ (I, oI) :: (C, oC) :: (D, oD) :: news', p ∈ n) ∧ LCg.Off3 I C D news' ∧ HInv Γ heard number n1 (i + 1) (ys ++ [v]) news' := by
  obtain ⟨f, nf, rfl, hnf, hor, ⟨S, hS, hst, hL⟩, hT, hk⟩ := H
  have hoff := off.mem
  have h554 : ∃ o, (554, o) ∈ news := V.tab.elim (fun ⟨_, _, _, _, _, h, _⟩ => ⟨_, h⟩) fun h => ⟨_, h.1⟩
  obtain ⟨o554, h554⟩ := h554
  obtain ⟨nI, nC, nD⟩ := hoff _ h554
  have fresh : ∀ q ∈ nf, q.1 ≠ I ∧ q.1 ≠ C ∧ q.1 ≠ D := fun q hq => by
    rcases hor q hq with h | h | h
    · exact hoff q h
    · rw [h]; exact ⟨nI, nC, nD⟩
    · have a1 := h _ (.head _)
      have a2 := h _ (.tail _ (.head _))
      have a3 := h _ (.tail _ (.tail _ (.head _)))
      exact ⟨fun e => absurd a1 (by rw [e]; exact Nat.lt_irrefl _), fun e => absurd a2 (by rw [e]; exact Nat.lt_irrefl _), fun e => absurd a3 (by rw [e]; exact Nat.lt_irrefl _)⟩
  have inn : ∀ q ∈ n, q.1 ≠ I → q.1 ≠ C → q.1 ≠ D → q ∈ del I (del C (del D n)) := fun q hq a b c => mem_del (mem_del (mem_del hq c) b) a
  have old : ∀ q ∈ news, q.1 ≠ 554 → q ∈ del I (del C (del D n)) := fun q hq hne => inn q (hk q (.tail _ (.tail _ (.tail _ hq))) hne) (hoff q hq).1 (hoff q hq).2.1 (hoff q hq).2.2
  have new : ∀ q ∈ nf, q ∈ del I (del C (del D n)) := fun q hq => inn q (hnf q hq) (fresh q hq).1 (fresh q hq).2.1 (fresh q hq).2.2
  refine ⟨del I (del C (del D n)), fun q hq => ?_, LCg.Off3.of fun q hq => ⟨(of_del hq).2, (of_del (of_del hq).1).2, (of_del (of_del (of_del hq).1).1).2⟩, ?_⟩
  · rcases List.mem_cons.mp hq with rfl | hq
    · exact hk _ (.head _) (Ne.symm nI)
    · rcases List.mem_cons.mp hq with rfl | hq
      · exact hk _ (.tail _ (.head _)) (Ne.symm nC)
      · rcases List.mem_cons.mp hq with rfl | hq
        · exact hk _ (.tail _ (.tail _ (.head _))) (Ne.symm nD)
        · exact (of_del (of_del (of_del hq).1).1).1
  · refine ⟨fun q hq hne => old q (V.keep q hq hne) hne, .inl (hT.mono new), by rw [List.length_append, V.len]; rfl, fun j hj => ?_⟩
    rcases Nat.lt_succ_iff_lt_or_eq.mp hj with hj | rfl
    · obtain ⟨f, S, a, b, c, d, e⟩ := V.lams j hj
      refine ⟨f, S, ?_, fun q hq => old q (b q hq) (c q hq), c, d, e⟩
      rw [List.getElem?_append_left (by rw [V.len]; exact hj)]; exact a
    · refine ⟨f, S, ?_, fun q hq => new q (hS q hq), fun q hq e => ?_, hst, hL⟩
      · rw [← V.len, List.getElem?_append_right (Nat.le_refl _), Nat.sub_self]; rfl
      · obtain ⟨c0, c1, c2, c3, c4, hM, _⟩ := hT
        have h1 := hnf _ (hS q hq)
        have h2 := hst q hq
        obtain ⟨a, o⟩ := q
        have e : a = 554 := e
        subst e
        have := News_fn N h1 (hnf _ hM)
        subst this
        cases h2

theorem callWith_args2 {Γ : Gl} {A : Around} {env env' : Env} {L : Addr} {h₀ : Heap} {m : Str → Option Value} {s : Shared} {news : Led} {f : Value} {first : List Value} {es : List Expr} {vs : List Value} {pos : Pos} {d : Nat}
    {P : Value → Led → Prop} {Q E : Value → Shared → Prop} (C : Cx Γ A env L h₀ m s.heap news) (hd : A.depth + d < recursionLimit) (ok : ArgsOk env' L m news es vs)
    (kp : ∀ h, Fr h₀ L h m → News h₀ L h news → ∃ k, (k = Keeper.frame ∨ k = Keeper.machine ∨ k = Keeper.boundFrame) ∧ Looks (model Γ.prog Γ.w) h (keeperOf f) k)
    (H : Calls Γ d f (first ++ vs) news P) (hQ : ∀ r h' tk news', Fr h₀ L h' m → News h₀ L h' news' → P r news' → Q r (St s h' tk)) :
    wpAny (model Γ.prog Γ.w) A (callWith pos f first (backTo pos (starEach es env')) []) Q E s := by
  have hp := ArgsOk.plain (news := news) (L := L) (m := m) (vs := vs) ok.star pos
  refine callWith_of (P := fun h => Fr h₀ L h m ∧ News h₀ L h news) (by rw [hp]; rfl) (fun h x => kp h x.1 x.2) ?_
  have go : ∀ tk, (Fr h₀ L (St s s.heap tk).heap m ∧ News h₀ L (St s s.heap tk).heap news) ∧ wpAny (model Γ.prog Γ.w) A (call f (first ++ vs) []) Q E (St s s.heap tk) := fun tk =>
    ⟨⟨C.fr, C.nw⟩, H A env L h₀ m (St s s.heap tk) Q E ⟨C.below, C.fr, C.kin, C.nw, C.top, C.hf, C.hk, C.hh⟩ hd fun r h' tk' news' F N hP => hQ r h' tk' news' F N hP⟩
  have run := ok.run Γ.prog Γ.w A E h₀ s (fun xs s₁ => (Fr h₀ L s₁.heap m ∧ News h₀ L s₁.heap news) ∧ wpAny (model Γ.prog Γ.w) A (call f (first ++ xs) []) Q E s₁) pos C.fr C.nw go
  cases es with
  | nil =>
    have e0 : vs = [] := List.length_eq_zero_iff.mp ok.len.symm
    subst e0
    exact evalArgs_nil3 (go s.toks)
  | cons e r =>
    rw [ok.star e (.head _) r] at run ⊢
    exact evalArgs_plain run
theorem ArgsOk.nil {env : Env} {L : Addr} {m : Str → Option Value} {news : Led} : ArgsOk env L m news [] [] :=
  ⟨fun _ h => absurd h List.not_mem_nil, rfl, fun prog w A E h₀ s Q pos F N h => args_nil (h s.toks)⟩
theorem ArgsOk.cons {env : Env} {L : Addr} {m : Str → Option Value} {news : Led} {e : Expr} {v : Value} {es : List Expr} {vs : List Value} (hst : ∀ r, starEach (e :: r) env = (false, eval e env) :: starEach r env)
    (h1 : ∀ (prog : Program) (w : World) (A : Around) (E : Value → Shared → Prop) (h₀ : Heap) (s : Shared) (Q : Value → Shared → Prop), Fr h₀ L s.heap m → News h₀ L s.heap news → (∀ tk, Q v (St s s.heap tk)) → wpAny (model prog w) A (eval e env) Q E s)
    (ih : ArgsOk env L m news es vs) : ArgsOk env L m news (e :: es) (v :: vs) := by
  refine ⟨fun y hy r => ?_, congrArg Nat.succ ih.len, fun prog w A E h₀ s Q pos F N h => ?_⟩
  · rcases List.mem_cons.mp hy with rfl | hy
    · exact hst r
    · exact ih.star y hy r
  · exact args_cons (h1 prog w A E h₀ s _ F N fun tk => ih.run prog w A E h₀ (St s s.heap tk) (fun ys s' => Q (v :: ys) s') pos F N fun tk' => h tk') (hst _)

theorem item_tupK {prog : Program} {w : World} {A : Around} {E : Value → Shared → Prop} {s : Shared} {value slice : Expr} {t : Addr} {l : List Value} {k : Int} {u : Tok} {j : Nat} {x : Value} {Q : Value → Shared → Prop} (ht : IsTup s.heap t l.toArray)
    (hlo : -(2 ^ 63) ≤ k) (hhi : k < 2 ^ 63) (hj : seqIndex? k l.length = some j) (hx : l[j]? = some x) (h : Q x s)
    (hs : subscripted slice false (.ref t) (.int k u) = operate [.ref t, .int k u] (getItem (.ref t) (.int k u)) := by with_unfolding_all rfl) :
    wpAny (model prog w) A (subscriptTail value slice (.ref t) (.int k u)) Q E s :=
  tail_any ht.typeIs slot_tuple_getitem.lookup (getItem_tuple ht hlo hhi (by simpa using hj) (by simpa using hx) h) hs

theorem off1_mem {D : Addr} : ∀ {l : Led}, LCg.Off1 D l → ∀ p ∈ l, p.1 ≠ D
  | [], _, _, h => nomatch h
  | _ :: _, x, p, h => by
    rcases List.mem_cons.mp h with rfl | h
    · exact x.1
    · exact off1_mem x.2 p h
theorem fin_ledger {h₀ h : Heap} {L D x d : Addr} {oD ox od : Obj} {news : Led} (N2 : News h₀ L h ((D, oD) :: news)) (mx : (x, ox) ∈ news) (md : (d, od) ∈ news) (o1 : LCg.Off1 D news) (hne : ox ≠ od) :
    News h₀ L h ((d, od) :: (x, ox) :: (D, oD) :: del d news) ∧ (∀ q ∈ (x, ox) :: (D, oD) :: del d news, q.1 ≠ d) ∧ ∀ q ∈ news, q.1 ≠ d → q ∈ del d news := by
  refine ⟨fun q hq => ?_, fun q hq => ?_, fun q hq hne => mem_del hq hne⟩
  · rcases List.mem_cons.mp hq with rfl | hq
    · exact N2 _ (.tail _ md)
    · rcases List.mem_cons.mp hq with rfl | hq
      · exact N2 _ (.tail _ mx)
      · rcases List.mem_cons.mp hq with rfl | hq
        · exact N2 _ (.head _)
        · exact N2 _ (.tail _ (of_del hq).1)
  · rcases List.mem_cons.mp hq with rfl | hq
    · exact ne_of_obj N2 (.tail _ mx) (.tail _ md) hne
    · rcases List.mem_cons.mp hq with rfl | hq
      · exact Ne.symm (off1_mem o1 _ md)
      · exact (of_del hq).2
theorem fields_ne {h₀ h : Heap} {L a : Addr} {o : Obj} {n : Led} {v : Option Value} (N : News h₀ L h n) (hm : (a, o) ∈ n) (hd : o.data = .cell v) : ∀ q ∈ n, (∃ vs, q.2.data = .fields vs) → q.1 ≠ a := fun q hq hf e => by
  obtain ⟨vs, hf⟩ := hf
  obtain ⟨b, o'⟩ := q
  have e : b = a := e
  subst e
  have := News_fn N hq hm
  subst this
  rw [hf] at hd
  cases hd
theorem evSize_lt {κ : Nat} (h : κ < 19) : evSize κ < 5 := by
  rcases lt19 h with rfl | rfl | rfl | rfl | rfl | rfl | rfl | rfl | rfl | rfl | rfl | rfl | rfl | rfl | rfl | rfl | rfl | rfl | rfl <;> decide
theorem HInv.all {Γ : Gl} {heard : Addr} {number : Int} {n1 : Led} {ys : List Value} {news : Led} (V : HInv Γ heard number n1 19 ys news) :
    ∃ (f : Nat → Nat) (S : Nat → Led), ys = (List.range 19).map (fun j => Value.ref (f j)) ∧ ∀ j < 19, (∀ q ∈ S j, q ∈ news) ∧ (∀ q ∈ S j, still q.2 = true) ∧ Lam Γ heard number j (evSize j) (f j) (S j) := by
  refine ⟨fun j => if h : j < 19 then (V.lams j h).choose else 0, fun j => if h : j < 19 then (V.lams j h).choose_spec.choose else [], ?_, fun j hj => ?_⟩
  · apply List.ext_getElem?
    intro j
    by_cases hj : j < 19
    · rw [(V.lams j hj).choose_spec.choose_spec.1, List.getElem?_map, List.getElem?_range hj]
      simp only [hj, dif_pos, Option.map_some]
    · rw [List.getElem?_eq_none (by rw [V.len]; omega), List.getElem?_eq_none (by simp; omega)]
  · obtain ⟨a, b, c, d, e⟩ := (V.lams j hj).choose_spec.choose_spec
    simp only [hj, dif_pos]
    exact ⟨b, d, e⟩

/-- x with the dict d is a listener: each event's name is a lambda that hears it -/
def Listens (Γ : Gl) (heard : Addr) (number : Int) (n : Led) (x d : Addr) : Prop :=
  ∃ es k, (x, instObj 164 d) ∈ n ∧ (d, dictOf es k) ∈ n ∧ ∀ κ < 19, ∃ f S, getL (evName κ) es = some (some (.ref f)) ∧ (∀ q ∈ S, q ∈ n) ∧ (∀ q ∈ S, still q.2 = true) ∧ Lam Γ heard number κ (evSize κ) f S
theorem listens_intro {Γ : Gl} {heard : Addr} {number : Int} {n : Led} {x d : Addr} {es : List DictEntry} {k : Nat} {f : Nat → Nat} {S : Nat → Led} (h1 : (x, instObj 164 d) ∈ n) (h2 : (d, dictOf es k) ∈ n)
    (h3 : (List.range 19).map (fun κ => getL (evName κ) es) = (List.range 19).map fun κ => some (some (.ref (f κ)))) (h4 : ∀ κ < 19, (∀ q ∈ S κ, q ∈ n) ∧ (∀ q ∈ S κ, still q.2 = true) ∧ Lam Γ heard number κ (evSize κ) (f κ) (S κ)) : Listens Γ heard number n x d := by
  refine ⟨es, k, h1, h2, fun κ hκ => ⟨f κ, S κ, ?_, h4 κ hκ⟩⟩
  have := congrArg (fun l => l[κ]?) h3
  simpa [List.getElem?_range hκ, hκ] using this

set_option maxHeartbeats 4000000 in
theorem listener_make {w : World} {p : Program} {loose : List Str} {mean : ExcName → Option Value} {mg mb : Str → Option Value} {news : Led} {heard : Addr} {number : Int} {tn : Tok} (h1 : HearsTab news ∨ (554, tabObj #[]) ∈ news) (h2 : CallsTab news ∨ (547, tabObj #[]) ∈ news) :
    Calls (G0 w p loose mean mg mb) 20 (.ref 564) [.ref heard, .int number tn] news fun v n => ∃ x d, v = .ref x ∧ Listens (G0 w p loose mean mg mb) heard number n x d ∧ (∀ z ∈ news, @LT.lt Nat _ z.1 d) ∧ @LT.lt Nat _ d x ∧ HearsTab n ∧ CallsTab n ∧ ∀ q ∈ news, q.1 ≠ 554 → q.1 ≠ 547 → q ∈ n := by
  intro A env L h₀ m s Q E C hdp hQ
  obtain ⟨⟨A₀, base, outer, B, hA⟩, F, X, N, T, hf, hk, hh⟩ := C
  obtain ⟨ah, dp, fr, gd, un⟩ := A
  obtain ⟨⟨kind, nms, ig, ic, mr⟩, locals, globals, cells, qual, func, code, frame, builtins⟩ := env
  dsimp only at hA hf hk hh
  subst hA hf hk hh
  dsimp only [G0] at hdp X T ⊢
  obtain ⟨p547, h547, s547⟩ := CallsTab.at h2
  obtain ⟨p554, h554, s554⟩ := HearsTab.at h1
  have st547 := still_ne N h547 s547
  have st554 := still_ne N h554 s554
  k_steps
  show wpAny _ _ (call (.ref 552) [] []) _ _ _
  refine' Calls.at (Γ := G0 w p loose mean mg mb) ?F ?N ?X ?T ?B ?hA ?hf ?hk ?hh ?hd (calls_any ?tab) ?_
  case F => k_asm
  case N => k_asm
  case X => k_asm
  case T => k_asm
  case B => k_asm
  case hA => rfl
  case hf => rfl
  case hk => rfl
  case hh => rfl
  case hd => k_room
  case tab => exact h2.imp (fun h => h.mono fun q hq => by repeat (first | exact hq | refine List.Mem.tail _ ?_)) fun h => by repeat (first | exact h | refine List.Mem.tail _ ?_)
  intro rc hc tkc nc Fc Nc Pc
  obtain ⟨l, T, F, rfl, hl, hT, hCT, hkeep⟩ := Pc
  have gL := fresh_of (news := news) (by assumption) _ h547
  have g547 := allLt_all (And.right (And.right (And.right (by assumption)))) _ h547
  have gL2 := fresh_of (news := news) (by assumption) _ h554
  have g554 := allLt_all (And.right (And.right (And.right (by assumption)))) _ h554
  have kx := hkeep _ (.head _) (by intro e; have e : (_ : Nat) = 547 := e; omega)
  have kd := hkeep _ (.tail _ (.head _)) (by intro e; have e : (_ : Nat) = 547 := e; omega)
  have kc3 := hkeep _ (.tail _ (.tail _ (.head _))) (by intro e; have e : (_ : Nat) = 547 := e; omega)
  have kc2 := hkeep _ (.tail _ (.tail _ (.tail _ (.head _)))) (by intro e; have e : (_ : Nat) = 547 := e; omega)
  have kc1 := hkeep _ (.tail _ (.tail _ (.tail _ (.tail _ (.head _))))) (by intro e; have e : (_ : Nat) = 547 := e; omega)
  refine storeX_C Fc (to_front Nc kc3) (by rfl) (UpdF.head front_off) (by assumption) ?_
  intro hp1 oc F1 N1 dc
  (try dsimp only at N1)
  k_steps
  show wpAny _ _ (exec _ _) _ _ _
  k_dflt (refine LCg.Assign_ListComp_U (F₀ := by k_asm) (by rfl) (by with_unfolding_all rfl) (by with_unfolding_all rfl) (by decide) (by rfl) (by decide) (by rfl) (by rfl) (by rfl) ?_)
  k_dflt lcg_toSrc
  unfold Stop
  k_dflt (refine LCg.CompSrc.range (n := 19) (by rfl) (by k_asm) (by k_asm) (by assumption) (by first | decide | rfl) (by first | rfl | decide) (by first | size_fits | exact Nat.le_of_ble_eq_true rfl) ?_)
  intro g'
  refine' compRest_ind (HInv (G0 w p loose mean mg mb) heard number (_ :: del _ nc)) ?fin ?turn 19 0 rfl [] _ ⟨fun q hq _ => hq, ?tab0, rfl, fun j hj => absurd hj (Nat.not_lt_zero j)⟩
  case tab0 =>
    have ne554 : (554 : Nat) ≠ 547 := by decide
    have g0 := fun ps (h : (554, tabObj ps) ∈ news) => hkeep _ (.tail _ (.tail _ (.tail _ (.tail _ (.tail _ h))))) ne554
    refine h1.imp (fun h => ?_) fun h => ⟨.tail _ (mem_del (g0 _ h) (by intro e; have e : (554 : Nat) = _ := e; omega)), rfl⟩
    refine h.mono' (fun ps h => .tail _ (mem_del (g0 ps h) (by intro e; have e : (554 : Nat) = _ := e; omega))) fun q hq hs _ => .tail _ (mem_del (hkeep _ (.tail _ (.tail _ (.tail _ (.tail _ (.tail _ hq))))) (st547 q hq hs)) ?_)
    intro e
    have := fresh_of (news := news) (by assumption) _ hq
    rw [e] at this
    omega
  case turn =>
    intro i ys news₁ hi V v I oI C oC D m₂ h tk E' hv hC hx F2 N2 off hne
    obtain ⟨tv, rfl⟩ := hv
    rw [Int.zero_add] at hx
    obtain ⟨ta, tb, mT⟩ := hT i hi
    have up : ∀ q ∈ nc, q.1 ≠ 554 → q.1 ≠ _ → q ∈ (I, oI) :: (C, oC) :: (D, LCg.lst ys) :: news₁ := fun q hq a b => .tail _ (.tail _ (.tail _ (V.keep _ (.tail _ (mem_del hq b)) a)))
    have m1 := up _ kc1 (by intro e; have e : (_ : Nat) = 554 := e; omega) (by intro e; have e : @Eq Nat _ _ := e; omega)
    have m2 := up _ kc2 (by intro e; have e : (_ : Nat) = 554 := e; omega) (by intro e; have e : @Eq Nat _ _ := e; omega)
    have m3 : (_, oc) ∈ (I, oI) :: (C, oC) :: (D, LCg.lst ys) :: news₁ := .tail _ (.tail _ (.tail _ (V.keep _ (.head _) (by intro e; have e : (_ : Nat) = 554 := e; omega))))
    have n554 := hkeep _ (.tail _ (.tail _ (.tail _ (.tail _ (.tail _ h554))))) (fun e => absurd (show (554 : Nat) = 547 from e) (by decide))
    have mL := up _ hl (ne_of_obj Nc hl n554 (by intro e; cases e)) (ne_of_obj Nc hl kc3 (by intro e; subst e; (have d0 := (by assumption : Obj.data (W.listOf _ _) = .cell _)); cases d0))
    have mT := up _ mT (ne_of_obj Nc mT n554 (by intro e; cases e)) (ne_of_obj Nc mT kc3 (by intro e; subst e; (have d0 := (by assumption : Obj.data (tupObj _) = .cell _)); cases d0))
    have es := evSize_lt hi
    refine Call_ (LCgL.ld_global F2 (by k_asm) (by k_asm) (by k_is) ?_)
    refine' callWith_args2 (Γ := G0 w p loose mean mg mb) (vs := [.ref heard, .int number tn, .int i tv, .int (evSize i) tb]) ⟨⟨_, _, _, by k_asm, ?hA⟩, F2, by k_asm, N2, by k_asm, ?hf, ?hk, ?hh⟩ ?hd ?ok ?kp (hears_any es (fun q hq => .tail _ (.tail _ (.tail _ hq))) (V.tab.imp id fun h => ⟨h.1, by rw [h.2]; rfl⟩)) fun r h' tk' n F3 N3 hP => ?_
    case hA => rfl
    case hf => rfl
    case hk => rfl
    case hh => rfl
    case hd => k_room
    case kp => exact fun h F N => keeps_K (K := hd.heap_39 w.params) (by k_is) h (Frag.In.keeps (by k_asm) F.keep)
    case ok =>
      refine .cons (fun _ => rfl) (fun prog w A E h₀ s Q F N hq => lcf_cell N (by rfl) m1 (by assumption) (hq _) (by rfl) (by rfl)) ?_
      refine .cons (fun _ => rfl) (fun prog w A E h₀ s Q F N hq => lcf_cell N (by rfl) m2 (by assumption) (hq _) (by rfl) (by rfl)) ?_
      refine .cons (fun _ => rfl) (fun prog w A E h₀ s Q F N hq => LCgL.ld_own N (.tail _ (.head _)) hC hx (hq _)) ?_
      refine .cons (fun _ => rfl) (fun prog w A E h₀ s Q F N hq => ?_) .nil
      refine Subscript_ (Subscript_ (lcf_cell N (by rfl) m3 dc ?_ (by rfl) (by rfl)))
      refine LCgL.ld_own N (.tail _ (.head _)) hC hx ?_
      refine item_litK (News.isList N mL) (Int.natCast_nonneg _) (by show ((i : Nat) : Int) < 2 ^ 63; omega) (by rw [Int.toNat_natCast, List.getElem?_map, List.getElem?_range hi]; rfl) ?_
      refine wpAny_Constant_int ?_
      exact item_tupK (j := 1) (News.isTup N mT) (by decide) (by decide) (by rfl) (by rfl) (hq _)
    obtain ⟨news', sub, off', V'⟩ := V.step off N3 hP
    exact LCg.CompEnd.intro F3 N3 news' sub off' True.intro V'
  case fin =>
    intro ys news₁ V D h tk F2 N2 o1
    obtain ⟨f, S, rfl, hfS⟩ := V.all
    have mx := V.keep _ (.tail _ (mem_del kx (by intro e; have e : @Eq Nat _ _ := e; omega))) (by intro e; have e : (_ : Nat) = 554 := e; omega)
    have md := V.keep _ (.tail _ (mem_del kd (by intro e; have e : @Eq Nat _ _ := e; omega))) (by intro e; have e : (_ : Nat) = 554 := e; omega)
    obtain ⟨N3, off3, up2⟩ := fin_ledger N2 mx md o1 (by intro e; cases e)
    replace N3 : News _ _ h ((_, _) :: (_, instObj 164 _) :: (D, W.listOf #[.ref (f 0), .ref (f 1), .ref (f 2), .ref (f 3), .ref (f 4), .ref (f 5), .ref (f 6), .ref (f 7), .ref (f 8), .ref (f 9), .ref (f 10), .ref (f 11), .ref (f 12), .ref (f 13), .ref (f 14), .ref (f 15), .ref (f 16), .ref (f 17), .ref (f 18)] 19) :: del _ news₁) := N3
    replace off3 : ∀ q ∈ (_, instObj 164 _) :: (D, W.listOf #[.ref (f 0), .ref (f 1), .ref (f 2), .ref (f 3), .ref (f 4), .ref (f 5), .ref (f 6), .ref (f 7), .ref (f 8), .ref (f 9), .ref (f 10), .ref (f 11), .ref (f 12), .ref (f 13), .ref (f 14), .ref (f 15), .ref (f 16), .ref (f 17), .ref (f 18)] 19) :: del _ news₁, q.1 ≠ _ := off3
    have stn := still_ne Nc (hkeep _ (.tail _ (.tail _ (.tail _ (.tail _ (.tail _ h554))))) (fun e => absurd (show (554 : Nat) = 547 from e) (by decide))) s554
    have nc3 := fields_ne Nc kc3 (by assumption)
    have sd := still_ne N2 (.tail _ md) rfl
    clear N2
    k_steps
    refine hQ _ _ _ _ (by assumption) (by assumption) ⟨_, _, rfl, listens_intro (by k_mem) (by k_mem) (by rfl) fun κ hκ => ⟨fun q hq => ?_, (hfS κ hκ).2⟩, fun z hz => ?_, ?_, ?_, ?_, fun q hq ne1 ne2 => ?_⟩
    · have := up2 q ((hfS κ hκ).1 q hq) (sd q (.tail _ ((hfS κ hκ).1 q hq)) ((hfS κ hκ).2.1 q hq))
      repeat (first | exact this | refine List.Mem.tail _ ?_)
    · exact allLt_all (And.right (And.right (And.right (by assumption)))) _ hz
    · show @LT.lt Nat _ _ _
      omega
    · refine (V.tab.resolve_right fun h => absurd h.2 (by decide)).mono' (fun ps hm => ?_) fun q hq hs _ => ?_
      · have := up2 _ hm (by intro e; have e : (554 : Nat) = _ := e; omega)
        repeat (first | exact this | refine List.Mem.tail _ ?_)
      · have := up2 q hq (sd q (.tail _ hq) hs)
        repeat (first | exact this | refine List.Mem.tail _ ?_)
    · refine hCT.mono' (fun ps hm => ?_) fun q hq hs hf => ?_
      · have := up2 _ (V.keep _ (.tail _ (mem_del hm (by intro e; have e : (547 : Nat) = _ := e; omega))) (fun e => absurd (show (547 : Nat) = 554 from e) (by decide))) (by intro e; have e : (547 : Nat) = _ := e; omega)
        repeat (first | exact this | refine List.Mem.tail _ ?_)
      · have h1 := V.keep _ (.tail _ (mem_del hq (nc3 q hq hf))) (stn q hq hs)
        have := up2 q h1 (sd q (.tail _ h1) hs)
        repeat (first | exact this | refine List.Mem.tail _ ?_)
    · have h1 := hkeep _ (.tail _ (.tail _ (.tail _ (.tail _ (.tail _ hq))))) ne2
      have l1 := fresh_of (news := news) (by assumption) _ hq
      have l2 := allLt_all (And.right (And.right (And.right (by assumption)))) _ hq
      have h2 := V.keep _ (.tail _ (mem_del h1 (by intro e; rw [e] at l1; omega))) ne1
      have := up2 q h2 (by intro e; rw [e] at l2; exact absurd l2 (Nat.lt_irrefl _))
      repeat (first | exact this | refine List.Mem.tail _ ?_)
end Mine

namespace Mine
open PySem.Calls PySem.Spec
local macro_rules | `(tactic| k_room) => `(tactic| ((try simp only [depth_under_make, depth_under_kw, depth_in1, depth_deeper, depth_caller]); (try dsimp only); omega))
local macro_rules | `(tactic| k_mem) => `(tactic| first | with_reducible assumption | (with_reducible k_memK) | ((repeat with_reducible refine List.Mem.tail _ ?_); assumption))
local macro_rules | `(tactic| k_all) => `(tactic| assumption)
theorem fill9 (w : World) : PySem.Challenge.rw_kq0045_01 = PySem.Challenge.rw_kq0045_01 ∧ hd.heap_39 w.params = hd.heap_39 w.params := by
  k_fill
  exact ⟨rfl, rfl⟩

theorem bodyP {Γ : Gl} {d : Nat} {mk : Addr → Env} {p : Pos} {binds : List (Str × Value)} {news : Led} : Body Γ d mk [.Pass p] binds news fun r n => r = .none ∧ n = news := by
  intro A L g s Q E C hd hQ
  refine wpAny_execs_cons (wpAny_Pass ?_)
  exact wpAny_execs_nil (hQ .next _ s.toks _ _ C.fr C.nw ⟨rfl, rfl⟩)
theorem bodyN {Γ : Gl} {d : Nat} {cn : Str} {cs : Scope} {a : Addr} {ccd : Value} {x : Str} {p q : Pos} {v : Value} {binds : List (Str × Value)} {news : Led} (hs : binds.reverse.lookup x = some v) (hls : cs.names.lookup x = some NameKind.local) (hb : (x == ("__debug__" : Str)) = false) :
    Body Γ d (fun L => envOf cn cs L a ccd) [.Return (some (.Name x p)) q] binds news fun r n => r = v ∧ n = news := by
  intro A L g s Q E C hd hQ
  refine wpAny_execs_cons (wpAny_Return_some ?_)
  exact nameX_L C.fr hs (hQ (.ret v) _ s.toks _ _ C.fr C.nw ⟨rfl, rfl⟩) C.hk hls hb
def HopP (κ : Nat) (P : Value → Led → Prop) : Value → Led → Prop := if κ = 15 then P else HopE P
theorem Meth.congr_args {Γ : Gl} {d : Nat} {n : Str} {v : Value} {a b : List Value} {news : Led} {P : Value → Led → Prop} (e : a = b) (h : Meth Γ d n v a news P) : Meth Γ d n v b news P := e ▸ h

theorem hop_0 {w : World} {p : Program} {loose : List Str} {mean : ExcName → Option Value} {mg mb : Str → Option Value} {news : Led} {d : Nat} {x dx v0 v1 v2 v3 : Addr} {t0 t1 t2 t3 t4 : Tok} {args : List Value} {P : Value → Led → Prop} (hx : (x, instObj 543 dx) ∈ news) (hdx : (dx, dictOf (fdict w t0 t1 t2 t3 t4 (.ref v0) (.ref v1) (.ref v2) (.ref v3)) 5) ∈ news)
    (ha : args.length = 1) (H : Meth (G0 w p loose mean mg mb) d (evName 0) (.ref v0) args news P) : Meth (G0 w p loose mean mg mb) (d + 1) (evName 0) (.ref x) args news (HopP 0 P) := by
  obtain ⟨xa, rfl⟩ := len1 ha
  refine' Meth.of_fn hx hdx ?a ?b ?c ?e ?g (Calls.of_def ?ho ?hcd ?hb ?hl ?h1 ?h2 ?h3 ?h4 ?body)
  case b => show findIn (hd.heap_39 w.params) _ _ = _; k_is
  case a => show plainGet (hd.heap_39 w.params) _ _ = _; k_is
  case c => show isFn (hd.heap_39 w.params) _ = _; k_is
  case e => show keepIn (hd.heap_39 w.params) _ = _; k_is
  case g => rfl
  case ho => show List.lookup _ (hd.heap_39 w.params) = _; k_is
  case hcd => show codeIn (hd.heap_39 w.params) _ _ = _; k_is
  case hb => exact fun s => BindsTo.of_eq rfl
  case hl => rfl
  case h1 => rfl
  case h2 => rfl
  case h3 => rfl
  case h4 => decide
  show Body _ _ _ _ _ _ (HopE P)
  refine' bodyE hx hdx ?a ?b ?c ?e ?f ?g ?h ?i ?j ?k ?l H ?n ?o ?q
  case c => show findIn (hd.heap_39 w.params) _ _ = _; k_is
  case a => show plainGet (hd.heap_39 w.params) _ _ = _; k_is
  case b => show hasDictIn (hd.heap_39 w.params) _ = _; k_is
  case e => show noGet (hd.heap_39 w.params) _ = _; k_is
  case f => rfl
  case g => rfl
  case h => rfl
  case i => rfl
  case j => rfl
  case k => decide
  case l => rfl
  case n => exact fun L => rfl
  case o => exact fun L => rfl
  case q => exact fun L => rfl

theorem hop_1 {w : World} {p : Program} {loose : List Str} {mean : ExcName → Option Value} {mg mb : Str → Option Value} {news : Led} {d : Nat} {x dx v0 v1 v2 v3 : Addr} {t0 t1 t2 t3 t4 : Tok} {args : List Value} {P : Value → Led → Prop} (hx : (x, instObj 543 dx) ∈ news) (hdx : (dx, dictOf (fdict w t0 t1 t2 t3 t4 (.ref v0) (.ref v1) (.ref v2) (.ref v3)) 5) ∈ news)
    (ha : args.length = 0) (H : Meth (G0 w p loose mean mg mb) d (evName 1) (.ref v0) args news P) : Meth (G0 w p loose mean mg mb) (d + 1) (evName 1) (.ref x) args news (HopP 1 P) := by
  obtain rfl := len0 ha
  refine' Meth.of_fn hx hdx ?a ?b ?c ?e ?g (Calls.of_def ?ho ?hcd ?hb ?hl ?h1 ?h2 ?h3 ?h4 ?body)
  case b => show findIn (hd.heap_39 w.params) _ _ = _; k_is
  case a => show plainGet (hd.heap_39 w.params) _ _ = _; k_is
  case c => show isFn (hd.heap_39 w.params) _ = _; k_is
  case e => show keepIn (hd.heap_39 w.params) _ = _; k_is
  case g => rfl
  case ho => show List.lookup _ (hd.heap_39 w.params) = _; k_is
  case hcd => show codeIn (hd.heap_39 w.params) _ _ = _; k_is
  case hb => exact fun s => BindsTo.of_eq rfl
  case hl => rfl
  case h1 => rfl
  case h2 => rfl
  case h3 => rfl
  case h4 => decide
  show Body _ _ _ _ _ _ (HopE P)
  refine' bodyE hx hdx ?a ?b ?c ?e ?f ?g ?h ?i ?j ?k ?l H ?n ?o ?q
  case c => show findIn (hd.heap_39 w.params) _ _ = _; k_is
  case a => show plainGet (hd.heap_39 w.params) _ _ = _; k_is
  case b => show hasDictIn (hd.heap_39 w.params) _ = _; k_is
  case e => show noGet (hd.heap_39 w.params) _ = _; k_is
  case f => rfl
  case g => rfl
  case h => rfl
  case i => rfl
  case j => rfl
  case k => decide
  case l => rfl
  case n => exact fun L => rfl
  case o => exact fun L => rfl
  case q => exact fun L => rfl

theorem hop_2 {w : World} {p : Program} {loose : List Str} {mean : ExcName → Option Value} {mg mb : Str → Option Value} {news : Led} {d : Nat} {x dx v0 v1 v2 v3 : Addr} {t0 t1 t2 t3 t4 : Tok} {args : List Value} {P : Value → Led → Prop} (hx : (x, instObj 543 dx) ∈ news) (hdx : (dx, dictOf (fdict w t0 t1 t2 t3 t4 (.ref v0) (.ref v1) (.ref v2) (.ref v3)) 5) ∈ news)
    (ha : args.length = 0) (H : Meth (G0 w p loose mean mg mb) d (evName 2) (.ref v0) args news P) : Meth (G0 w p loose mean mg mb) (d + 1) (evName 2) (.ref x) args news (HopP 2 P) := by
  obtain rfl := len0 ha
  refine' Meth.of_fn hx hdx ?a ?b ?c ?e ?g (Calls.of_def ?ho ?hcd ?hb ?hl ?h1 ?h2 ?h3 ?h4 ?body)
  case b => show findIn (hd.heap_39 w.params) _ _ = _; k_is
  case a => show plainGet (hd.heap_39 w.params) _ _ = _; k_is
  case c => show isFn (hd.heap_39 w.params) _ = _; k_is
  case e => show keepIn (hd.heap_39 w.params) _ = _; k_is
  case g => rfl
  case ho => show List.lookup _ (hd.heap_39 w.params) = _; k_is
  case hcd => show codeIn (hd.heap_39 w.params) _ _ = _; k_is
  case hb => exact fun s => BindsTo.of_eq rfl
  case hl => rfl
  case h1 => rfl
  case h2 => rfl
  case h3 => rfl
  case h4 => decide
  show Body _ _ _ _ _ _ (HopE P)
  refine' bodyE hx hdx ?a ?b ?c ?e ?f ?g ?h ?i ?j ?k ?l H ?n ?o ?q
  case c => show findIn (hd.heap_39 w.params) _ _ = _; k_is
  case a => show plainGet (hd.heap_39 w.params) _ _ = _; k_is
  case b => show hasDictIn (hd.heap_39 w.params) _ = _; k_is
  case e => show noGet (hd.heap_39 w.params) _ = _; k_is
  case f => rfl
  case g => rfl
  case h => rfl
  case i => rfl
  case j => rfl
  case k => decide
  case l => rfl
  case n => exact fun L => rfl
  case o => exact fun L => rfl
  case q => exact fun L => rfl

theorem hop_3 {w : World} {p : Program} {loose : List Str} {mean : ExcName → Option Value} {mg mb : Str → Option Value} {news : Led} {d : Nat} {x dx v0 v1 v2 v3 : Addr} {t0 t1 t2 t3 t4 : Tok} {args : List Value} {P : Value → Led → Prop} (hx : (x, instObj 543 dx) ∈ news) (hdx : (dx, dictOf (fdict w t0 t1 t2 t3 t4 (.ref v0) (.ref v1) (.ref v2) (.ref v3)) 5) ∈ news)
    (ha : args.length = 2) (H : Meth (G0 w p loose mean mg mb) d (evName 3) (.ref v0) args news P) : Meth (G0 w p loose mean mg mb) (d + 1) (evName 3) (.ref x) args news (HopP 3 P) := by
  obtain ⟨xa, xb, rfl⟩ := len2 ha
  refine' Meth.of_fn hx hdx ?a ?b ?c ?e ?g (Calls.of_def ?ho ?hcd ?hb ?hl ?h1 ?h2 ?h3 ?h4 ?body)
  case b => show findIn (hd.heap_39 w.params) _ _ = _; k_is
  case a => show plainGet (hd.heap_39 w.params) _ _ = _; k_is
  case c => show isFn (hd.heap_39 w.params) _ = _; k_is
  case e => show keepIn (hd.heap_39 w.params) _ = _; k_is
  case g => rfl
  case ho => show List.lookup _ (hd.heap_39 w.params) = _; k_is
  case hcd => show codeIn (hd.heap_39 w.params) _ _ = _; k_is
  case hb => exact fun s => BindsTo.of_eq rfl
  case hl => rfl
  case h1 => rfl
  case h2 => rfl
  case h3 => rfl
  case h4 => decide
  show Body _ _ _ _ _ _ (HopE P)
  refine' bodyE hx hdx ?a ?b ?c ?e ?f ?g ?h ?i ?j ?k ?l H ?n ?o ?q
  case c => show findIn (hd.heap_39 w.params) _ _ = _; k_is
  case a => show plainGet (hd.heap_39 w.params) _ _ = _; k_is
  case b => show hasDictIn (hd.heap_39 w.params) _ = _; k_is
  case e => show noGet (hd.heap_39 w.params) _ = _; k_is
  case f => rfl
  case g => rfl
  case h => rfl
  case i => rfl
  case j => rfl
  case k => decide
  case l => rfl
  case n => exact fun L => rfl
  case o => exact fun L => rfl
  case q => exact fun L => rfl

theorem hop_4 {w : World} {p : Program} {loose : List Str} {mean : ExcName → Option Value} {mg mb : Str → Option Value} {news : Led} {d : Nat} {x dx v0 v1 v2 v3 : Addr} {t0 t1 t2 t3 t4 : Tok} {args : List Value} {P : Value → Led → Prop} (hx : (x, instObj 543 dx) ∈ news) (hdx : (dx, dictOf (fdict w t0 t1 t2 t3 t4 (.ref v0) (.ref v1) (.ref v2) (.ref v3)) 5) ∈ news)
    (ha : args.length = 1) (H : Meth (G0 w p loose mean mg mb) d (evName 4) (.ref v0) args news P) : Meth (G0 w p loose mean mg mb) (d + 1) (evName 4) (.ref x) args news (HopP 4 P) := by
  obtain ⟨xa, rfl⟩ := len1 ha
  refine' Meth.of_fn hx hdx ?a ?b ?c ?e ?g (Calls.of_def ?ho ?hcd ?hb ?hl ?h1 ?h2 ?h3 ?h4 ?body)
  case b => show findIn (hd.heap_39 w.params) _ _ = _; k_is
  case a => show plainGet (hd.heap_39 w.params) _ _ = _; k_is
  case c => show isFn (hd.heap_39 w.params) _ = _; k_is
  case e => show keepIn (hd.heap_39 w.params) _ = _; k_is
  case g => rfl
  case ho => show List.lookup _ (hd.heap_39 w.params) = _; k_is
  case hcd => show codeIn (hd.heap_39 w.params) _ _ = _; k_is
  case hb => exact fun s => BindsTo.of_eq rfl
  case hl => rfl
  case h1 => rfl
  case h2 => rfl
  case h3 => rfl
  case h4 => decide
  show Body _ _ _ _ _ _ (HopE P)
  refine' bodyE hx hdx ?a ?b ?c ?e ?f ?g ?h ?i ?j ?k ?l H ?n ?o ?q
  case c => show findIn (hd.heap_39 w.params) _ _ = _; k_is
  case a => show plainGet (hd.heap_39 w.params) _ _ = _; k_is
  case b => show hasDictIn (hd.heap_39 w.params) _ = _; k_is
  case e => show noGet (hd.heap_39 w.params) _ = _; k_is
  case f => rfl
  case g => rfl
  case h => rfl
  case i => rfl
  case j => rfl
  case k => decide
  case l => rfl
  case n => exact fun L => rfl
  case o => exact fun L => rfl
  case q => exact fun L => rfl

theorem hop_5 {w : World} {p : Program} {loose : List Str} {mean : ExcName → Option Value} {mg mb : Str → Option Value} {news : Led} {d : Nat} {x dx v0 v1 v2 v3 : Addr} {t0 t1 t2 t3 t4 : Tok} {args : List Value} {P : Value → Led → Prop} (hx : (x, instObj 543 dx) ∈ news) (hdx : (dx, dictOf (fdict w t0 t1 t2 t3 t4 (.ref v0) (.ref v1) (.ref v2) (.ref v3)) 5) ∈ news)
    (ha : args.length = 2) (H : Meth (G0 w p loose mean mg mb) d (evName 5) (.ref v0) args news P) : Meth (G0 w p loose mean mg mb) (d + 1) (evName 5) (.ref x) args news (HopP 5 P) := by
  obtain ⟨xa, xb, rfl⟩ := len2 ha
  refine' Meth.of_fn hx hdx ?a ?b ?c ?e ?g (Calls.of_def ?ho ?hcd ?hb ?hl ?h1 ?h2 ?h3 ?h4 ?body)
  case b => show findIn (hd.heap_39 w.params) _ _ = _; k_is
  case a => show plainGet (hd.heap_39 w.params) _ _ = _; k_is
  case c => show isFn (hd.heap_39 w.params) _ = _; k_is
  case e => show keepIn (hd.heap_39 w.params) _ = _; k_is
  case g => rfl
  case ho => show List.lookup _ (hd.heap_39 w.params) = _; k_is
  case hcd => show codeIn (hd.heap_39 w.params) _ _ = _; k_is
  case hb => exact fun s => BindsTo.of_eq rfl
  case hl => rfl
  case h1 => rfl
  case h2 => rfl
  case h3 => rfl
  case h4 => decide
  show Body _ _ _ _ _ _ (HopE P)
  refine' bodyE hx hdx ?a ?b ?c ?e ?f ?g ?h ?i ?j ?k ?l H ?n ?o ?q
  case c => show findIn (hd.heap_39 w.params) _ _ = _; k_is
  case a => show plainGet (hd.heap_39 w.params) _ _ = _; k_is
  case b => show hasDictIn (hd.heap_39 w.params) _ = _; k_is
  case e => show noGet (hd.heap_39 w.params) _ = _; k_is
  case f => rfl
  case g => rfl
  case h => rfl
  case i => rfl
  case j => rfl
  case k => decide
  case l => rfl
  case n => exact fun L => rfl
  case o => exact fun L => rfl
  case q => exact fun L => rfl

theorem hop_6 {w : World} {p : Program} {loose : List Str} {mean : ExcName → Option Value} {mg mb : Str → Option Value} {news : Led} {d : Nat} {x dx v0 v1 v2 v3 : Addr} {t0 t1 t2 t3 t4 : Tok} {args : List Value} {P : Value → Led → Prop} (hx : (x, instObj 543 dx) ∈ news) (hdx : (dx, dictOf (fdict w t0 t1 t2 t3 t4 (.ref v0) (.ref v1) (.ref v2) (.ref v3)) 5) ∈ news)
    (ha : args.length = 1) (H : Meth (G0 w p loose mean mg mb) d (evName 6) (.ref v0) args news P) : Meth (G0 w p loose mean mg mb) (d + 1) (evName 6) (.ref x) args news (HopP 6 P) := by
  obtain ⟨xa, rfl⟩ := len1 ha
  refine' Meth.of_fn hx hdx ?a ?b ?c ?e ?g (Calls.of_def ?ho ?hcd ?hb ?hl ?h1 ?h2 ?h3 ?h4 ?body)
  case b => show findIn (hd.heap_39 w.params) _ _ = _; k_is
  case a => show plainGet (hd.heap_39 w.params) _ _ = _; k_is
  case c => show isFn (hd.heap_39 w.params) _ = _; k_is
  case e => show keepIn (hd.heap_39 w.params) _ = _; k_is
  case g => rfl
  case ho => show List.lookup _ (hd.heap_39 w.params) = _; k_is
  case hcd => show codeIn (hd.heap_39 w.params) _ _ = _; k_is
  case hb => exact fun s => BindsTo.of_eq rfl
  case hl => rfl
  case h1 => rfl
  case h2 => rfl
  case h3 => rfl
  case h4 => decide
  show Body _ _ _ _ _ _ (HopE P)
  refine' bodyE hx hdx ?a ?b ?c ?e ?f ?g ?h ?i ?j ?k ?l H ?n ?o ?q
  case c => show findIn (hd.heap_39 w.params) _ _ = _; k_is
  case a => show plainGet (hd.heap_39 w.params) _ _ = _; k_is
  case b => show hasDictIn (hd.heap_39 w.params) _ = _; k_is
  case e => show noGet (hd.heap_39 w.params) _ = _; k_is
  case f => rfl
  case g => rfl
  case h => rfl
  case i => rfl
  case j => rfl
  case k => decide
  case l => rfl
  case n => exact fun L => rfl
  case o => exact fun L => rfl
  case q => exact fun L => rfl

theorem hop_7 {w : World} {p : Program} {loose : List Str} {mean : ExcName → Option Value} {mg mb : Str → Option Value} {news : Led} {d : Nat} {x dx v0 v1 v2 v3 : Addr} {t0 t1 t2 t3 t4 : Tok} {args : List Value} {P : Value → Led → Prop} (hx : (x, instObj 543 dx) ∈ news) (hdx : (dx, dictOf (fdict w t0 t1 t2 t3 t4 (.ref v0) (.ref v1) (.ref v2) (.ref v3)) 5) ∈ news)
    (ha : args.length = 3) (H : Meth (G0 w p loose mean mg mb) d (evName 7) (.ref v0) args news P) : Meth (G0 w p loose mean mg mb) (d + 1) (evName 7) (.ref x) args news (HopP 7 P) := by
  obtain ⟨xa, xb, xc, rfl⟩ := len3 ha
  refine' Meth.of_fn hx hdx ?a ?b ?c ?e ?g (Calls.of_def ?ho ?hcd ?hb ?hl ?h1 ?h2 ?h3 ?h4 ?body)
  case b => show findIn (hd.heap_39 w.params) _ _ = _; k_is
  case a => show plainGet (hd.heap_39 w.params) _ _ = _; k_is
  case c => show isFn (hd.heap_39 w.params) _ = _; k_is
  case e => show keepIn (hd.heap_39 w.params) _ = _; k_is
  case g => rfl
  case ho => show List.lookup _ (hd.heap_39 w.params) = _; k_is
  case hcd => show codeIn (hd.heap_39 w.params) _ _ = _; k_is
  case hb => exact fun s => BindsTo.of_eq rfl
  case hl => rfl
  case h1 => rfl
  case h2 => rfl
  case h3 => rfl
  case h4 => decide
  show Body _ _ _ _ _ _ (HopE P)
  refine' bodyE hx hdx ?a ?b ?c ?e ?f ?g ?h ?i ?j ?k ?l H ?n ?o ?q
  case c => show findIn (hd.heap_39 w.params) _ _ = _; k_is
  case a => show plainGet (hd.heap_39 w.params) _ _ = _; k_is
  case b => show hasDictIn (hd.heap_39 w.params) _ = _; k_is
  case e => show noGet (hd.heap_39 w.params) _ = _; k_is
  case f => rfl
  case g => rfl
  case h => rfl
  case i => rfl
  case j => rfl
  case k => decide
  case l => rfl
  case n => exact fun L => rfl
  case o => exact fun L => rfl
  case q => exact fun L => rfl

theorem hop_8 {w : World} {p : Program} {loose : List Str} {mean : ExcName → Option Value} {mg mb : Str → Option Value} {news : Led} {d : Nat} {x dx v0 v1 v2 v3 : Addr} {t0 t1 t2 t3 t4 : Tok} {args : List Value} {P : Value → Led → Prop} (hx : (x, instObj 543 dx) ∈ news) (hdx : (dx, dictOf (fdict w t0 t1 t2 t3 t4 (.ref v0) (.ref v1) (.ref v2) (.ref v3)) 5) ∈ news)
    (ha : args.length = 2) (H : Meth (G0 w p loose mean mg mb) d (evName 8) (.ref v0) args news P) : Meth (G0 w p loose mean mg mb) (d + 1) (evName 8) (.ref x) args news (HopP 8 P) := by
  obtain ⟨xa, xb, rfl⟩ := len2 ha
  refine' Meth.of_fn hx hdx ?a ?b ?c ?e ?g (Calls.of_def ?ho ?hcd ?hb ?hl ?h1 ?h2 ?h3 ?h4 ?body)
  case b => show findIn (hd.heap_39 w.params) _ _ = _; k_is
  case a => show plainGet (hd.heap_39 w.params) _ _ = _; k_is
  case c => show isFn (hd.heap_39 w.params) _ = _; k_is
  case e => show keepIn (hd.heap_39 w.params) _ = _; k_is
  case g => rfl
  case ho => show List.lookup _ (hd.heap_39 w.params) = _; k_is
  case hcd => show codeIn (hd.heap_39 w.params) _ _ = _; k_is
  case hb => exact fun s => BindsTo.of_eq rfl
  case hl => rfl
  case h1 => rfl
  case h2 => rfl
  case h3 => rfl
  case h4 => decide
  show Body _ _ _ _ _ _ (HopE P)
  refine' bodyE hx hdx ?a ?b ?c ?e ?f ?g ?h ?i ?j ?k ?l H ?n ?o ?q
  case c => show findIn (hd.heap_39 w.params) _ _ = _; k_is
  case a => show plainGet (hd.heap_39 w.params) _ _ = _; k_is
  case b => show hasDictIn (hd.heap_39 w.params) _ = _; k_is
  case e => show noGet (hd.heap_39 w.params) _ = _; k_is
  case f => rfl
  case g => rfl
  case h => rfl
  case i => rfl
  case j => rfl
  case k => decide
  case l => rfl
  case n => exact fun L => rfl
  case o => exact fun L => rfl
  case q => exact fun L => rfl

theorem hop_9 {w : World} {p : Program} {loose : List Str} {mean : ExcName → Option Value} {mg mb : Str → Option Value} {news : Led} {d : Nat} {x dx v0 v1 v2 v3 : Addr} {t0 t1 t2 t3 t4 : Tok} {args : List Value} {P : Value → Led → Prop} (hx : (x, instObj 543 dx) ∈ news) (hdx : (dx, dictOf (fdict w t0 t1 t2 t3 t4 (.ref v0) (.ref v1) (.ref v2) (.ref v3)) 5) ∈ news)
    (ha : args.length = 1) (H : Meth (G0 w p loose mean mg mb) d (evName 9) (.ref v0) args news P) : Meth (G0 w p loose mean mg mb) (d + 1) (evName 9) (.ref x) args news (HopP 9 P) := by
  obtain ⟨xa, rfl⟩ := len1 ha
  refine' Meth.of_fn hx hdx ?a ?b ?c ?e ?g (Calls.of_def ?ho ?hcd ?hb ?hl ?h1 ?h2 ?h3 ?h4 ?body)
  case b => show findIn (hd.heap_39 w.params) _ _ = _; k_is
  case a => show plainGet (hd.heap_39 w.params) _ _ = _; k_is
  case c => show isFn (hd.heap_39 w.params) _ = _; k_is
  case e => show keepIn (hd.heap_39 w.params) _ = _; k_is
  case g => rfl
  case ho => show List.lookup _ (hd.heap_39 w.params) = _; k_is
  case hcd => show codeIn (hd.heap_39 w.params) _ _ = _; k_is
  case hb => exact fun s => BindsTo.of_eq rfl
  case hl => rfl
  case h1 => rfl
  case h2 => rfl
  case h3 => rfl
  case h4 => decide
  show Body _ _ _ _ _ _ (HopE P)
  refine' bodyE hx hdx ?a ?b ?c ?e ?f ?g ?h ?i ?j ?k ?l H ?n ?o ?q
  case c => show findIn (hd.heap_39 w.params) _ _ = _; k_is
  case a => show plainGet (hd.heap_39 w.params) _ _ = _; k_is
  case b => show hasDictIn (hd.heap_39 w.params) _ = _; k_is
  case e => show noGet (hd.heap_39 w.params) _ = _; k_is
  case f => rfl
  case g => rfl
  case h => rfl
  case i => rfl
  case j => rfl
  case k => decide
  case l => rfl
  case n => exact fun L => rfl
  case o => exact fun L => rfl
  case q => exact fun L => rfl

theorem hop_10 {w : World} {p : Program} {loose : List Str} {mean : ExcName → Option Value} {mg mb : Str → Option Value} {news : Led} {d : Nat} {x dx v0 v1 v2 v3 : Addr} {t0 t1 t2 t3 t4 : Tok} {args : List Value} {P : Value → Led → Prop} (hx : (x, instObj 543 dx) ∈ news) (hdx : (dx, dictOf (fdict w t0 t1 t2 t3 t4 (.ref v0) (.ref v1) (.ref v2) (.ref v3)) 5) ∈ news)
    (ha : args.length = 1) (H : Meth (G0 w p loose mean mg mb) d (evName 10) (.ref v0) args news P) : Meth (G0 w p loose mean mg mb) (d + 1) (evName 10) (.ref x) args news (HopP 10 P) := by
  obtain ⟨xa, rfl⟩ := len1 ha
  refine' Meth.of_fn hx hdx ?a ?b ?c ?e ?g (Calls.of_def ?ho ?hcd ?hb ?hl ?h1 ?h2 ?h3 ?h4 ?body)
  case b => show findIn (hd.heap_39 w.params) _ _ = _; k_is
  case a => show plainGet (hd.heap_39 w.params) _ _ = _; k_is
  case c => show isFn (hd.heap_39 w.params) _ = _; k_is
  case e => show keepIn (hd.heap_39 w.params) _ = _; k_is
  case g => rfl
  case ho => show List.lookup _ (hd.heap_39 w.params) = _; k_is
  case hcd => show codeIn (hd.heap_39 w.params) _ _ = _; k_is
  case hb => exact fun s => BindsTo.of_eq rfl
  case hl => rfl
  case h1 => rfl
  case h2 => rfl
  case h3 => rfl
  case h4 => decide
  show Body _ _ _ _ _ _ (HopE P)
  refine' bodyE hx hdx ?a ?b ?c ?e ?f ?g ?h ?i ?j ?k ?l H ?n ?o ?q
  case c => show findIn (hd.heap_39 w.params) _ _ = _; k_is
  case a => show plainGet (hd.heap_39 w.params) _ _ = _; k_is
  case b => show hasDictIn (hd.heap_39 w.params) _ = _; k_is
  case e => show noGet (hd.heap_39 w.params) _ = _; k_is
  case f => rfl
  case g => rfl
  case h => rfl
  case i => rfl
  case j => rfl
  case k => decide
  case l => rfl
  case n => exact fun L => rfl
  case o => exact fun L => rfl
  case q => exact fun L => rfl

theorem hop_11 {w : World} {p : Program} {loose : List Str} {mean : ExcName → Option Value} {mg mb : Str → Option Value} {news : Led} {d : Nat} {x dx v0 v1 v2 v3 : Addr} {t0 t1 t2 t3 t4 : Tok} {args : List Value} {P : Value → Led → Prop} (hx : (x, instObj 543 dx) ∈ news) (hdx : (dx, dictOf (fdict w t0 t1 t2 t3 t4 (.ref v0) (.ref v1) (.ref v2) (.ref v3)) 5) ∈ news)
    (ha : args.length = 2) (H : Meth (G0 w p loose mean mg mb) d (evName 11) (.ref v0) args news P) : Meth (G0 w p loose mean mg mb) (d + 1) (evName 11) (.ref x) args news (HopP 11 P) := by
  obtain ⟨xa, xb, rfl⟩ := len2 ha
  refine' Meth.of_fn hx hdx ?a ?b ?c ?e ?g (Calls.of_def ?ho ?hcd ?hb ?hl ?h1 ?h2 ?h3 ?h4 ?body)
  case b => show findIn (hd.heap_39 w.params) _ _ = _; k_is
  case a => show plainGet (hd.heap_39 w.params) _ _ = _; k_is
  case c => show isFn (hd.heap_39 w.params) _ = _; k_is
  case e => show keepIn (hd.heap_39 w.params) _ = _; k_is
  case g => rfl
  case ho => show List.lookup _ (hd.heap_39 w.params) = _; k_is
  case hcd => show codeIn (hd.heap_39 w.params) _ _ = _; k_is
  case hb => exact fun s => BindsTo.of_eq rfl
  case hl => rfl
  case h1 => rfl
  case h2 => rfl
  case h3 => rfl
  case h4 => decide
  show Body _ _ _ _ _ _ (HopE P)
  refine' bodyE hx hdx ?a ?b ?c ?e ?f ?g ?h ?i ?j ?k ?l H ?n ?o ?q
  case c => show findIn (hd.heap_39 w.params) _ _ = _; k_is
  case a => show plainGet (hd.heap_39 w.params) _ _ = _; k_is
  case b => show hasDictIn (hd.heap_39 w.params) _ = _; k_is
  case e => show noGet (hd.heap_39 w.params) _ = _; k_is
  case f => rfl
  case g => rfl
  case h => rfl
  case i => rfl
  case j => rfl
  case k => decide
  case l => rfl
  case n => exact fun L => rfl
  case o => exact fun L => rfl
  case q => exact fun L => rfl

theorem hop_12 {w : World} {p : Program} {loose : List Str} {mean : ExcName → Option Value} {mg mb : Str → Option Value} {news : Led} {d : Nat} {x dx v0 v1 v2 v3 : Addr} {t0 t1 t2 t3 t4 : Tok} {args : List Value} {P : Value → Led → Prop} (hx : (x, instObj 543 dx) ∈ news) (hdx : (dx, dictOf (fdict w t0 t1 t2 t3 t4 (.ref v0) (.ref v1) (.ref v2) (.ref v3)) 5) ∈ news)
    (ha : args.length = 1) (H : Meth (G0 w p loose mean mg mb) d (evName 12) (.ref v0) args news P) : Meth (G0 w p loose mean mg mb) (d + 1) (evName 12) (.ref x) args news (HopP 12 P) := by
  obtain ⟨xa, rfl⟩ := len1 ha
  refine' Meth.of_fn hx hdx ?a ?b ?c ?e ?g (Calls.of_def ?ho ?hcd ?hb ?hl ?h1 ?h2 ?h3 ?h4 ?body)
  case b => show findIn (hd.heap_39 w.params) _ _ = _; k_is
  case a => show plainGet (hd.heap_39 w.params) _ _ = _; k_is
  case c => show isFn (hd.heap_39 w.params) _ = _; k_is
  case e => show keepIn (hd.heap_39 w.params) _ = _; k_is
  case g => rfl
  case ho => show List.lookup _ (hd.heap_39 w.params) = _; k_is
  case hcd => show codeIn (hd.heap_39 w.params) _ _ = _; k_is
  case hb => exact fun s => BindsTo.of_eq rfl
  case hl => rfl
  case h1 => rfl
  case h2 => rfl
  case h3 => rfl
  case h4 => decide
  show Body _ _ _ _ _ _ (HopE P)
  refine' bodyE hx hdx ?a ?b ?c ?e ?f ?g ?h ?i ?j ?k ?l H ?n ?o ?q
  case c => show findIn (hd.heap_39 w.params) _ _ = _; k_is
  case a => show plainGet (hd.heap_39 w.params) _ _ = _; k_is
  case b => show hasDictIn (hd.heap_39 w.params) _ = _; k_is
  case e => show noGet (hd.heap_39 w.params) _ = _; k_is
  case f => rfl
  case g => rfl
  case h => rfl
  case i => rfl
  case j => rfl
  case k => decide
  case l => rfl
  case n => exact fun L => rfl
  case o => exact fun L => rfl
  case q => exact fun L => rfl

theorem hop_13 {w : World} {p : Program} {loose : List Str} {mean : ExcName → Option Value} {mg mb : Str → Option Value} {news : Led} {d : Nat} {x dx v0 v1 v2 v3 : Addr} {t0 t1 t2 t3 t4 : Tok} {args : List Value} {P : Value → Led → Prop} (hx : (x, instObj 543 dx) ∈ news) (hdx : (dx, dictOf (fdict w t0 t1 t2 t3 t4 (.ref v0) (.ref v1) (.ref v2) (.ref v3)) 5) ∈ news)
    (ha : args.length = 3) (H : Meth (G0 w p loose mean mg mb) d (evName 13) (.ref v1) args news P) : Meth (G0 w p loose mean mg mb) (d + 1) (evName 13) (.ref x) args news (HopP 13 P) := by
  obtain ⟨xa, xb, xc, rfl⟩ := len3 ha
  refine' Meth.of_fn hx hdx ?a ?b ?c ?e ?g (Calls.of_def ?ho ?hcd ?hb ?hl ?h1 ?h2 ?h3 ?h4 ?body)
  case b => show findIn (hd.heap_39 w.params) _ _ = _; k_is
  case a => show plainGet (hd.heap_39 w.params) _ _ = _; k_is
  case c => show isFn (hd.heap_39 w.params) _ = _; k_is
  case e => show keepIn (hd.heap_39 w.params) _ = _; k_is
  case g => rfl
  case ho => show List.lookup _ (hd.heap_39 w.params) = _; k_is
  case hcd => show codeIn (hd.heap_39 w.params) _ _ = _; k_is
  case hb => exact fun s => BindsTo.of_eq rfl
  case hl => rfl
  case h1 => rfl
  case h2 => rfl
  case h3 => rfl
  case h4 => decide
  show Body _ _ _ _ _ _ (HopE P)
  refine' bodyE hx hdx ?a ?b ?c ?e ?f ?g ?h ?i ?j ?k ?l H ?n ?o ?q
  case c => show findIn (hd.heap_39 w.params) _ _ = _; k_is
  case a => show plainGet (hd.heap_39 w.params) _ _ = _; k_is
  case b => show hasDictIn (hd.heap_39 w.params) _ = _; k_is
  case e => show noGet (hd.heap_39 w.params) _ = _; k_is
  case f => rfl
  case g => rfl
  case h => rfl
  case i => rfl
  case j => rfl
  case k => decide
  case l => rfl
  case n => exact fun L => rfl
  case o => exact fun L => rfl
  case q => exact fun L => rfl

theorem hop_14 {w : World} {p : Program} {loose : List Str} {mean : ExcName → Option Value} {mg mb : Str → Option Value} {news : Led} {d : Nat} {x dx v0 v1 v2 v3 : Addr} {t0 t1 t2 t3 t4 : Tok} {args : List Value} {P : Value → Led → Prop} (hx : (x, instObj 543 dx) ∈ news) (hdx : (dx, dictOf (fdict w t0 t1 t2 t3 t4 (.ref v0) (.ref v1) (.ref v2) (.ref v3)) 5) ∈ news)
    (ha : args.length = 4) (H : Meth (G0 w p loose mean mg mb) d (evName 14) (.ref v1) args news P) : Meth (G0 w p loose mean mg mb) (d + 1) (evName 14) (.ref x) args news (HopP 14 P) := by
  obtain ⟨xa, xb, xc, xd, rfl⟩ := len4 ha
  refine' Meth.of_fn hx hdx ?a ?b ?c ?e ?g (Calls.of_def ?ho ?hcd ?hb ?hl ?h1 ?h2 ?h3 ?h4 ?body)
  case b => show findIn (hd.heap_39 w.params) _ _ = _; k_is
  case a => show plainGet (hd.heap_39 w.params) _ _ = _; k_is
  case c => show isFn (hd.heap_39 w.params) _ = _; k_is
  case e => show keepIn (hd.heap_39 w.params) _ = _; k_is
  case g => rfl
  case ho => show List.lookup _ (hd.heap_39 w.params) = _; k_is
  case hcd => show codeIn (hd.heap_39 w.params) _ _ = _; k_is
  case hb => exact fun s => BindsTo.of_eq rfl
  case hl => rfl
  case h1 => rfl
  case h2 => rfl
  case h3 => rfl
  case h4 => decide
  show Body _ _ _ _ _ _ (HopE P)
  refine' bodyE hx hdx ?a ?b ?c ?e ?f ?g ?h ?i ?j ?k ?l H ?n ?o ?q
  case c => show findIn (hd.heap_39 w.params) _ _ = _; k_is
  case a => show plainGet (hd.heap_39 w.params) _ _ = _; k_is
  case b => show hasDictIn (hd.heap_39 w.params) _ = _; k_is
  case e => show noGet (hd.heap_39 w.params) _ = _; k_is
  case f => rfl
  case g => rfl
  case h => rfl
  case i => rfl
  case j => rfl
  case k => decide
  case l => rfl
  case n => exact fun L => rfl
  case o => exact fun L => rfl
  case q => exact fun L => rfl

theorem hop_15 {w : World} {p : Program} {loose : List Str} {mean : ExcName → Option Value} {mg mb : Str → Option Value} {news : Led} {d : Nat} {x dx v0 v1 v2 v3 : Addr} {t0 t1 t2 t3 t4 : Tok} {args : List Value} {P : Value → Led → Prop} (hx : (x, instObj 543 dx) ∈ news) (hdx : (dx, dictOf (fdict w t0 t1 t2 t3 t4 (.ref v0) (.ref v1) (.ref v2) (.ref v3)) 5) ∈ news)
    (ha : args.length = 2) (H : Meth (G0 w p loose mean mg mb) d (evName 15) (.ref v2) args news P) : Meth (G0 w p loose mean mg mb) (d + 1) (evName 15) (.ref x) args news (HopP 15 P) := by
  obtain ⟨xa, xb, rfl⟩ := len2 ha
  refine' Meth.of_fn hx hdx ?a ?b ?c ?e ?g (Calls.of_def ?ho ?hcd ?hb ?hl ?h1 ?h2 ?h3 ?h4 ?body)
  case b => show findIn (hd.heap_39 w.params) _ _ = _; k_is
  case a => show plainGet (hd.heap_39 w.params) _ _ = _; k_is
  case c => show isFn (hd.heap_39 w.params) _ = _; k_is
  case e => show keepIn (hd.heap_39 w.params) _ = _; k_is
  case g => rfl
  case ho => show List.lookup _ (hd.heap_39 w.params) = _; k_is
  case hcd => show codeIn (hd.heap_39 w.params) _ _ = _; k_is
  case hb => exact fun s => BindsTo.of_eq rfl
  case hl => rfl
  case h1 => rfl
  case h2 => rfl
  case h3 => rfl
  case h4 => decide
  show Body _ _ _ _ _ _ P
  refine' bodyR hx hdx ?a ?b ?c ?e ?f ?g ?h ?i ?j ?k ?l H ?n 
  case c => show findIn (hd.heap_39 w.params) _ _ = _; k_is
  case a => show plainGet (hd.heap_39 w.params) _ _ = _; k_is
  case b => show hasDictIn (hd.heap_39 w.params) _ = _; k_is
  case e => show noGet (hd.heap_39 w.params) _ = _; k_is
  case f => rfl
  case g => rfl
  case h => rfl
  case i => rfl
  case j => rfl
  case k => decide
  case l => rfl
  case n => exact fun L => rfl

theorem hop_16 {w : World} {p : Program} {loose : List Str} {mean : ExcName → Option Value} {mg mb : Str → Option Value} {news : Led} {d : Nat} {x dx v0 v1 v2 v3 : Addr} {t0 t1 t2 t3 t4 : Tok} {args : List Value} {P : Value → Led → Prop} (hx : (x, instObj 543 dx) ∈ news) (hdx : (dx, dictOf (fdict w t0 t1 t2 t3 t4 (.ref v0) (.ref v1) (.ref v2) (.ref v3)) 5) ∈ news)
    (ha : args.length = 1) (H : Meth (G0 w p loose mean mg mb) d (evName 16) (.ref v3) args news P) : Meth (G0 w p loose mean mg mb) (d + 1) (evName 16) (.ref x) args news (HopP 16 P) := by
  obtain ⟨xa, rfl⟩ := len1 ha
  refine' Meth.of_fn hx hdx ?a ?b ?c ?e ?g (Calls.of_def ?ho ?hcd ?hb ?hl ?h1 ?h2 ?h3 ?h4 ?body)
  case b => show findIn (hd.heap_39 w.params) _ _ = _; k_is
  case a => show plainGet (hd.heap_39 w.params) _ _ = _; k_is
  case c => show isFn (hd.heap_39 w.params) _ = _; k_is
  case e => show keepIn (hd.heap_39 w.params) _ = _; k_is
  case g => rfl
  case ho => show List.lookup _ (hd.heap_39 w.params) = _; k_is
  case hcd => show codeIn (hd.heap_39 w.params) _ _ = _; k_is
  case hb => exact fun s => BindsTo.of_eq rfl
  case hl => rfl
  case h1 => rfl
  case h2 => rfl
  case h3 => rfl
  case h4 => decide
  show Body _ _ _ _ _ _ (HopE P)
  refine' bodyE hx hdx ?a ?b ?c ?e ?f ?g ?h ?i ?j ?k ?l H ?n ?o ?q
  case c => show findIn (hd.heap_39 w.params) _ _ = _; k_is
  case a => show plainGet (hd.heap_39 w.params) _ _ = _; k_is
  case b => show hasDictIn (hd.heap_39 w.params) _ = _; k_is
  case e => show noGet (hd.heap_39 w.params) _ = _; k_is
  case f => rfl
  case g => rfl
  case h => rfl
  case i => rfl
  case j => rfl
  case k => decide
  case l => rfl
  case n => exact fun L => rfl
  case o => exact fun L => rfl
  case q => exact fun L => rfl

theorem hop_17 {w : World} {p : Program} {loose : List Str} {mean : ExcName → Option Value} {mg mb : Str → Option Value} {news : Led} {d : Nat} {x dx v0 v1 v2 v3 : Addr} {t0 t1 t2 t3 t4 : Tok} {args : List Value} {P : Value → Led → Prop} (hx : (x, instObj 543 dx) ∈ news) (hdx : (dx, dictOf (fdict w t0 t1 t2 t3 t4 (.ref v0) (.ref v1) (.ref v2) (.ref v3)) 5) ∈ news)
    (ha : args.length = 1) (H : Meth (G0 w p loose mean mg mb) d (evName 17) (.ref v3) args news P) : Meth (G0 w p loose mean mg mb) (d + 1) (evName 17) (.ref x) args news (HopP 17 P) := by
  obtain ⟨xa, rfl⟩ := len1 ha
  refine' Meth.of_fn hx hdx ?a ?b ?c ?e ?g (Calls.of_def ?ho ?hcd ?hb ?hl ?h1 ?h2 ?h3 ?h4 ?body)
  case b => show findIn (hd.heap_39 w.params) _ _ = _; k_is
  case a => show plainGet (hd.heap_39 w.params) _ _ = _; k_is
  case c => show isFn (hd.heap_39 w.params) _ = _; k_is
  case e => show keepIn (hd.heap_39 w.params) _ = _; k_is
  case g => rfl
  case ho => show List.lookup _ (hd.heap_39 w.params) = _; k_is
  case hcd => show codeIn (hd.heap_39 w.params) _ _ = _; k_is
  case hb => exact fun s => BindsTo.of_eq rfl
  case hl => rfl
  case h1 => rfl
  case h2 => rfl
  case h3 => rfl
  case h4 => decide
  show Body _ _ _ _ _ _ (HopE P)
  refine' bodyE hx hdx ?a ?b ?c ?e ?f ?g ?h ?i ?j ?k ?l H ?n ?o ?q
  case c => show findIn (hd.heap_39 w.params) _ _ = _; k_is
  case a => show plainGet (hd.heap_39 w.params) _ _ = _; k_is
  case b => show hasDictIn (hd.heap_39 w.params) _ = _; k_is
  case e => show noGet (hd.heap_39 w.params) _ = _; k_is
  case f => rfl
  case g => rfl
  case h => rfl
  case i => rfl
  case j => rfl
  case k => decide
  case l => rfl
  case n => exact fun L => rfl
  case o => exact fun L => rfl
  case q => exact fun L => rfl

theorem hop_18 {w : World} {p : Program} {loose : List Str} {mean : ExcName → Option Value} {mg mb : Str → Option Value} {news : Led} {d : Nat} {x dx v0 v1 v2 v3 : Addr} {t0 t1 t2 t3 t4 : Tok} {args : List Value} {P : Value → Led → Prop} (hx : (x, instObj 543 dx) ∈ news) (hdx : (dx, dictOf (fdict w t0 t1 t2 t3 t4 (.ref v0) (.ref v1) (.ref v2) (.ref v3)) 5) ∈ news)
    (ha : args.length = 1) (H : Meth (G0 w p loose mean mg mb) d (evName 18) (.ref v3) args news P) : Meth (G0 w p loose mean mg mb) (d + 1) (evName 18) (.ref x) args news (HopP 18 P) := by
  obtain ⟨xa, rfl⟩ := len1 ha
  refine' Meth.of_fn hx hdx ?a ?b ?c ?e ?g (Calls.of_def ?ho ?hcd ?hb ?hl ?h1 ?h2 ?h3 ?h4 ?body)
  case b => show findIn (hd.heap_39 w.params) _ _ = _; k_is
  case a => show plainGet (hd.heap_39 w.params) _ _ = _; k_is
  case c => show isFn (hd.heap_39 w.params) _ = _; k_is
  case e => show keepIn (hd.heap_39 w.params) _ = _; k_is
  case g => rfl
  case ho => show List.lookup _ (hd.heap_39 w.params) = _; k_is
  case hcd => show codeIn (hd.heap_39 w.params) _ _ = _; k_is
  case hb => exact fun s => BindsTo.of_eq rfl
  case hl => rfl
  case h1 => rfl
  case h2 => rfl
  case h3 => rfl
  case h4 => decide
  show Body _ _ _ _ _ _ (HopE P)
  refine' bodyE hx hdx ?a ?b ?c ?e ?f ?g ?h ?i ?j ?k ?l H ?n ?o ?q
  case c => show findIn (hd.heap_39 w.params) _ _ = _; k_is
  case a => show plainGet (hd.heap_39 w.params) _ _ = _; k_is
  case b => show hasDictIn (hd.heap_39 w.params) _ = _; k_is
  case e => show noGet (hd.heap_39 w.params) _ = _; k_is
  case f => rfl
  case g => rfl
  case h => rfl
  case i => rfl
  case j => rfl
  case k => decide
  case l => rfl
  case n => exact fun L => rfl
  case o => exact fun L => rfl
  case q => exact fun L => rfl

theorem dflt_1 {w : World} {p : Program} {loose : List Str} {mean : ExcName → Option Value} {mg mb : Str → Option Value} {news : Led} {d : Nat} {x dx : Addr} {tl : Tok} {vl : Value} {args : List Value} (hx : (x, instObj 164 dx) ∈ news) (hdx : (dx, dictOf [ent w "_locator" tl vl] 1) ∈ news) (ha : args.length = 0) :
    Meth (G0 w p loose mean mg mb) (d + 1) (evName 1) (.ref x) args news fun r n => r = .none ∧ n = news := by
  obtain rfl := len0 ha
  refine' Meth.of_fn hx hdx ?a ?b ?c ?e ?g (Calls.of_def ?ho ?hcd ?hb ?hl ?h1 ?h2 ?h3 ?h4 ?body)
  case b => show findIn (hd.heap_39 w.params) _ _ = _; k_is
  case a => show plainGet (hd.heap_39 w.params) _ _ = _; k_is
  case c => show isFn (hd.heap_39 w.params) _ = _; k_is
  case e => show keepIn (hd.heap_39 w.params) _ = _; k_is
  case g => rfl
  case ho => show List.lookup _ (hd.heap_39 w.params) = _; k_is
  case hcd => show codeIn (hd.heap_39 w.params) _ _ = _; k_is
  case hb => exact fun s => BindsTo.of_eq rfl
  case hl => rfl
  case h1 => rfl
  case h2 => rfl
  case h3 => rfl
  case h4 => decide
  exact bodyP

theorem dflt_2 {w : World} {p : Program} {loose : List Str} {mean : ExcName → Option Value} {mg mb : Str → Option Value} {news : Led} {d : Nat} {x dx : Addr} {tl : Tok} {vl : Value} {args : List Value} (hx : (x, instObj 164 dx) ∈ news) (hdx : (dx, dictOf [ent w "_locator" tl vl] 1) ∈ news) (ha : args.length = 0) :
    Meth (G0 w p loose mean mg mb) (d + 1) (evName 2) (.ref x) args news fun r n => r = .none ∧ n = news := by
  obtain rfl := len0 ha
  refine' Meth.of_fn hx hdx ?a ?b ?c ?e ?g (Calls.of_def ?ho ?hcd ?hb ?hl ?h1 ?h2 ?h3 ?h4 ?body)
  case b => show findIn (hd.heap_39 w.params) _ _ = _; k_is
  case a => show plainGet (hd.heap_39 w.params) _ _ = _; k_is
  case c => show isFn (hd.heap_39 w.params) _ = _; k_is
  case e => show keepIn (hd.heap_39 w.params) _ = _; k_is
  case g => rfl
  case ho => show List.lookup _ (hd.heap_39 w.params) = _; k_is
  case hcd => show codeIn (hd.heap_39 w.params) _ _ = _; k_is
  case hb => exact fun s => BindsTo.of_eq rfl
  case hl => rfl
  case h1 => rfl
  case h2 => rfl
  case h3 => rfl
  case h4 => decide
  exact bodyP

theorem dflt_3 {w : World} {p : Program} {loose : List Str} {mean : ExcName → Option Value} {mg mb : Str → Option Value} {news : Led} {d : Nat} {x dx : Addr} {tl : Tok} {vl : Value} {args : List Value} (hx : (x, instObj 164 dx) ∈ news) (hdx : (dx, dictOf [ent w "_locator" tl vl] 1) ∈ news) (ha : args.length = 2) :
    Meth (G0 w p loose mean mg mb) (d + 1) (evName 3) (.ref x) args news fun r n => r = .none ∧ n = news := by
  obtain ⟨xa, xb, rfl⟩ := len2 ha
  refine' Meth.of_fn hx hdx ?a ?b ?c ?e ?g (Calls.of_def ?ho ?hcd ?hb ?hl ?h1 ?h2 ?h3 ?h4 ?body)
  case b => show findIn (hd.heap_39 w.params) _ _ = _; k_is
  case a => show plainGet (hd.heap_39 w.params) _ _ = _; k_is
  case c => show isFn (hd.heap_39 w.params) _ = _; k_is
  case e => show keepIn (hd.heap_39 w.params) _ = _; k_is
  case g => rfl
  case ho => show List.lookup _ (hd.heap_39 w.params) = _; k_is
  case hcd => show codeIn (hd.heap_39 w.params) _ _ = _; k_is
  case hb => exact fun s => BindsTo.of_eq rfl
  case hl => rfl
  case h1 => rfl
  case h2 => rfl
  case h3 => rfl
  case h4 => decide
  exact bodyP

theorem dflt_4 {w : World} {p : Program} {loose : List Str} {mean : ExcName → Option Value} {mg mb : Str → Option Value} {news : Led} {d : Nat} {x dx : Addr} {tl : Tok} {vl : Value} {args : List Value} (hx : (x, instObj 164 dx) ∈ news) (hdx : (dx, dictOf [ent w "_locator" tl vl] 1) ∈ news) (ha : args.length = 1) :
    Meth (G0 w p loose mean mg mb) (d + 1) (evName 4) (.ref x) args news fun r n => r = .none ∧ n = news := by
  obtain ⟨xa, rfl⟩ := len1 ha
  refine' Meth.of_fn hx hdx ?a ?b ?c ?e ?g (Calls.of_def ?ho ?hcd ?hb ?hl ?h1 ?h2 ?h3 ?h4 ?body)
  case b => show findIn (hd.heap_39 w.params) _ _ = _; k_is
  case a => show plainGet (hd.heap_39 w.params) _ _ = _; k_is
  case c => show isFn (hd.heap_39 w.params) _ = _; k_is
  case e => show keepIn (hd.heap_39 w.params) _ = _; k_is
  case g => rfl
  case ho => show List.lookup _ (hd.heap_39 w.params) = _; k_is
  case hcd => show codeIn (hd.heap_39 w.params) _ _ = _; k_is
  case hb => exact fun s => BindsTo.of_eq rfl
  case hl => rfl
  case h1 => rfl
  case h2 => rfl
  case h3 => rfl
  case h4 => decide
  exact bodyP

theorem dflt_5 {w : World} {p : Program} {loose : List Str} {mean : ExcName → Option Value} {mg mb : Str → Option Value} {news : Led} {d : Nat} {x dx : Addr} {tl : Tok} {vl : Value} {args : List Value} (hx : (x, instObj 164 dx) ∈ news) (hdx : (dx, dictOf [ent w "_locator" tl vl] 1) ∈ news) (ha : args.length = 2) :
    Meth (G0 w p loose mean mg mb) (d + 1) (evName 5) (.ref x) args news fun r n => r = .none ∧ n = news := by
  obtain ⟨xa, xb, rfl⟩ := len2 ha
  refine' Meth.of_fn hx hdx ?a ?b ?c ?e ?g (Calls.of_def ?ho ?hcd ?hb ?hl ?h1 ?h2 ?h3 ?h4 ?body)
  case b => show findIn (hd.heap_39 w.params) _ _ = _; k_is
  case a => show plainGet (hd.heap_39 w.params) _ _ = _; k_is
  case c => show isFn (hd.heap_39 w.params) _ = _; k_is
  case e => show keepIn (hd.heap_39 w.params) _ = _; k_is
  case g => rfl
  case ho => show List.lookup _ (hd.heap_39 w.params) = _; k_is
  case hcd => show codeIn (hd.heap_39 w.params) _ _ = _; k_is
  case hb => exact fun s => BindsTo.of_eq rfl
  case hl => rfl
  case h1 => rfl
  case h2 => rfl
  case h3 => rfl
  case h4 => decide
  exact bodyP

theorem dflt_6 {w : World} {p : Program} {loose : List Str} {mean : ExcName → Option Value} {mg mb : Str → Option Value} {news : Led} {d : Nat} {x dx : Addr} {tl : Tok} {vl : Value} {args : List Value} (hx : (x, instObj 164 dx) ∈ news) (hdx : (dx, dictOf [ent w "_locator" tl vl] 1) ∈ news) (ha : args.length = 1) :
    Meth (G0 w p loose mean mg mb) (d + 1) (evName 6) (.ref x) args news fun r n => r = .none ∧ n = news := by
  obtain ⟨xa, rfl⟩ := len1 ha
  refine' Meth.of_fn hx hdx ?a ?b ?c ?e ?g (Calls.of_def ?ho ?hcd ?hb ?hl ?h1 ?h2 ?h3 ?h4 ?body)
  case b => show findIn (hd.heap_39 w.params) _ _ = _; k_is
  case a => show plainGet (hd.heap_39 w.params) _ _ = _; k_is
  case c => show isFn (hd.heap_39 w.params) _ = _; k_is
  case e => show keepIn (hd.heap_39 w.params) _ = _; k_is
  case g => rfl
  case ho => show List.lookup _ (hd.heap_39 w.params) = _; k_is
  case hcd => show codeIn (hd.heap_39 w.params) _ _ = _; k_is
  case hb => exact fun s => BindsTo.of_eq rfl
  case hl => rfl
  case h1 => rfl
  case h2 => rfl
  case h3 => rfl
  case h4 => decide
  exact bodyP

theorem dflt_7 {w : World} {p : Program} {loose : List Str} {mean : ExcName → Option Value} {mg mb : Str → Option Value} {news : Led} {d : Nat} {x dx : Addr} {tl : Tok} {vl : Value} {args : List Value} (hx : (x, instObj 164 dx) ∈ news) (hdx : (dx, dictOf [ent w "_locator" tl vl] 1) ∈ news) (ha : args.length = 3) :
    Meth (G0 w p loose mean mg mb) (d + 1) (evName 7) (.ref x) args news fun r n => r = .none ∧ n = news := by
  obtain ⟨xa, xb, xc, rfl⟩ := len3 ha
  refine' Meth.of_fn hx hdx ?a ?b ?c ?e ?g (Calls.of_def ?ho ?hcd ?hb ?hl ?h1 ?h2 ?h3 ?h4 ?body)
  case b => show findIn (hd.heap_39 w.params) _ _ = _; k_is
  case a => show plainGet (hd.heap_39 w.params) _ _ = _; k_is
  case c => show isFn (hd.heap_39 w.params) _ = _; k_is
  case e => show keepIn (hd.heap_39 w.params) _ = _; k_is
  case g => rfl
  case ho => show List.lookup _ (hd.heap_39 w.params) = _; k_is
  case hcd => show codeIn (hd.heap_39 w.params) _ _ = _; k_is
  case hb => exact fun s => BindsTo.of_eq rfl
  case hl => rfl
  case h1 => rfl
  case h2 => rfl
  case h3 => rfl
  case h4 => decide
  exact bodyP

theorem dflt_8 {w : World} {p : Program} {loose : List Str} {mean : ExcName → Option Value} {mg mb : Str → Option Value} {news : Led} {d : Nat} {x dx : Addr} {tl : Tok} {vl : Value} {args : List Value} (hx : (x, instObj 164 dx) ∈ news) (hdx : (dx, dictOf [ent w "_locator" tl vl] 1) ∈ news) (ha : args.length = 2) :
    Meth (G0 w p loose mean mg mb) (d + 1) (evName 8) (.ref x) args news fun r n => r = .none ∧ n = news := by
  obtain ⟨xa, xb, rfl⟩ := len2 ha
  refine' Meth.of_fn hx hdx ?a ?b ?c ?e ?g (Calls.of_def ?ho ?hcd ?hb ?hl ?h1 ?h2 ?h3 ?h4 ?body)
  case b => show findIn (hd.heap_39 w.params) _ _ = _; k_is
  case a => show plainGet (hd.heap_39 w.params) _ _ = _; k_is
  case c => show isFn (hd.heap_39 w.params) _ = _; k_is
  case e => show keepIn (hd.heap_39 w.params) _ = _; k_is
  case g => rfl
  case ho => show List.lookup _ (hd.heap_39 w.params) = _; k_is
  case hcd => show codeIn (hd.heap_39 w.params) _ _ = _; k_is
  case hb => exact fun s => BindsTo.of_eq rfl
  case hl => rfl
  case h1 => rfl
  case h2 => rfl
  case h3 => rfl
  case h4 => decide
  exact bodyP

theorem dflt_9 {w : World} {p : Program} {loose : List Str} {mean : ExcName → Option Value} {mg mb : Str → Option Value} {news : Led} {d : Nat} {x dx : Addr} {tl : Tok} {vl : Value} {args : List Value} (hx : (x, instObj 164 dx) ∈ news) (hdx : (dx, dictOf [ent w "_locator" tl vl] 1) ∈ news) (ha : args.length = 1) :
    Meth (G0 w p loose mean mg mb) (d + 1) (evName 9) (.ref x) args news fun r n => r = .none ∧ n = news := by
  obtain ⟨xa, rfl⟩ := len1 ha
  refine' Meth.of_fn hx hdx ?a ?b ?c ?e ?g (Calls.of_def ?ho ?hcd ?hb ?hl ?h1 ?h2 ?h3 ?h4 ?body)
  case b => show findIn (hd.heap_39 w.params) _ _ = _; k_is
  case a => show plainGet (hd.heap_39 w.params) _ _ = _; k_is
  case c => show isFn (hd.heap_39 w.params) _ = _; k_is
  case e => show keepIn (hd.heap_39 w.params) _ = _; k_is
  case g => rfl
  case ho => show List.lookup _ (hd.heap_39 w.params) = _; k_is
  case hcd => show codeIn (hd.heap_39 w.params) _ _ = _; k_is
  case hb => exact fun s => BindsTo.of_eq rfl
  case hl => rfl
  case h1 => rfl
  case h2 => rfl
  case h3 => rfl
  case h4 => decide
  exact bodyP

theorem dflt_10 {w : World} {p : Program} {loose : List Str} {mean : ExcName → Option Value} {mg mb : Str → Option Value} {news : Led} {d : Nat} {x dx : Addr} {tl : Tok} {vl : Value} {args : List Value} (hx : (x, instObj 164 dx) ∈ news) (hdx : (dx, dictOf [ent w "_locator" tl vl] 1) ∈ news) (ha : args.length = 1) :
    Meth (G0 w p loose mean mg mb) (d + 1) (evName 10) (.ref x) args news fun r n => r = .none ∧ n = news := by
  obtain ⟨xa, rfl⟩ := len1 ha
  refine' Meth.of_fn hx hdx ?a ?b ?c ?e ?g (Calls.of_def ?ho ?hcd ?hb ?hl ?h1 ?h2 ?h3 ?h4 ?body)
  case b => show findIn (hd.heap_39 w.params) _ _ = _; k_is
  case a => show plainGet (hd.heap_39 w.params) _ _ = _; k_is
  case c => show isFn (hd.heap_39 w.params) _ = _; k_is
  case e => show keepIn (hd.heap_39 w.params) _ = _; k_is
  case g => rfl
  case ho => show List.lookup _ (hd.heap_39 w.params) = _; k_is
  case hcd => show codeIn (hd.heap_39 w.params) _ _ = _; k_is
  case hb => exact fun s => BindsTo.of_eq rfl
  case hl => rfl
  case h1 => rfl
  case h2 => rfl
  case h3 => rfl
  case h4 => decide
  exact bodyP

theorem dflt_11 {w : World} {p : Program} {loose : List Str} {mean : ExcName → Option Value} {mg mb : Str → Option Value} {news : Led} {d : Nat} {x dx : Addr} {tl : Tok} {vl : Value} {args : List Value} (hx : (x, instObj 164 dx) ∈ news) (hdx : (dx, dictOf [ent w "_locator" tl vl] 1) ∈ news) (ha : args.length = 2) :
    Meth (G0 w p loose mean mg mb) (d + 1) (evName 11) (.ref x) args news fun r n => r = .none ∧ n = news := by
  obtain ⟨xa, xb, rfl⟩ := len2 ha
  refine' Meth.of_fn hx hdx ?a ?b ?c ?e ?g (Calls.of_def ?ho ?hcd ?hb ?hl ?h1 ?h2 ?h3 ?h4 ?body)
  case b => show findIn (hd.heap_39 w.params) _ _ = _; k_is
  case a => show plainGet (hd.heap_39 w.params) _ _ = _; k_is
  case c => show isFn (hd.heap_39 w.params) _ = _; k_is
  case e => show keepIn (hd.heap_39 w.params) _ = _; k_is
  case g => rfl
  case ho => show List.lookup _ (hd.heap_39 w.params) = _; k_is
  case hcd => show codeIn (hd.heap_39 w.params) _ _ = _; k_is
  case hb => exact fun s => BindsTo.of_eq rfl
  case hl => rfl
  case h1 => rfl
  case h2 => rfl
  case h3 => rfl
  case h4 => decide
  exact bodyP

theorem dflt_12 {w : World} {p : Program} {loose : List Str} {mean : ExcName → Option Value} {mg mb : Str → Option Value} {news : Led} {d : Nat} {x dx : Addr} {tl : Tok} {vl : Value} {args : List Value} (hx : (x, instObj 164 dx) ∈ news) (hdx : (dx, dictOf [ent w "_locator" tl vl] 1) ∈ news) (ha : args.length = 1) :
    Meth (G0 w p loose mean mg mb) (d + 1) (evName 12) (.ref x) args news fun r n => r = .none ∧ n = news := by
  obtain ⟨xa, rfl⟩ := len1 ha
  refine' Meth.of_fn hx hdx ?a ?b ?c ?e ?g (Calls.of_def ?ho ?hcd ?hb ?hl ?h1 ?h2 ?h3 ?h4 ?body)
  case b => show findIn (hd.heap_39 w.params) _ _ = _; k_is
  case a => show plainGet (hd.heap_39 w.params) _ _ = _; k_is
  case c => show isFn (hd.heap_39 w.params) _ = _; k_is
  case e => show keepIn (hd.heap_39 w.params) _ = _; k_is
  case g => rfl
  case ho => show List.lookup _ (hd.heap_39 w.params) = _; k_is
  case hcd => show codeIn (hd.heap_39 w.params) _ _ = _; k_is
  case hb => exact fun s => BindsTo.of_eq rfl
  case hl => rfl
  case h1 => rfl
  case h2 => rfl
  case h3 => rfl
  case h4 => decide
  exact bodyP

theorem dflt_13 {w : World} {p : Program} {loose : List Str} {mean : ExcName → Option Value} {mg mb : Str → Option Value} {news : Led} {d : Nat} {x dx : Addr} {args : List Value} (hx : (x, instObj 192 dx) ∈ news) (hdx : (dx, dictOf [] 0) ∈ news) (ha : args.length = 3) :
    Meth (G0 w p loose mean mg mb) (d + 1) (evName 13) (.ref x) args news fun r n => r = .none ∧ n = news := by
  obtain ⟨xa, xb, xc, rfl⟩ := len3 ha
  refine' Meth.of_fn hx hdx ?a ?b ?c ?e ?g (Calls.of_def ?ho ?hcd ?hb ?hl ?h1 ?h2 ?h3 ?h4 ?body)
  case b => show findIn (hd.heap_39 w.params) _ _ = _; k_is
  case a => show plainGet (hd.heap_39 w.params) _ _ = _; k_is
  case c => show isFn (hd.heap_39 w.params) _ = _; k_is
  case e => show keepIn (hd.heap_39 w.params) _ = _; k_is
  case g => rfl
  case ho => show List.lookup _ (hd.heap_39 w.params) = _; k_is
  case hcd => show codeIn (hd.heap_39 w.params) _ _ = _; k_is
  case hb => exact fun s => BindsTo.of_eq rfl
  case hl => rfl
  case h1 => rfl
  case h2 => rfl
  case h3 => rfl
  case h4 => decide
  exact bodyP

theorem dflt_14 {w : World} {p : Program} {loose : List Str} {mean : ExcName → Option Value} {mg mb : Str → Option Value} {news : Led} {d : Nat} {x dx : Addr} {args : List Value} (hx : (x, instObj 192 dx) ∈ news) (hdx : (dx, dictOf [] 0) ∈ news) (ha : args.length = 4) :
    Meth (G0 w p loose mean mg mb) (d + 1) (evName 14) (.ref x) args news fun r n => r = .none ∧ n = news := by
  obtain ⟨xa, xb, xc, xd, rfl⟩ := len4 ha
  refine' Meth.of_fn hx hdx ?a ?b ?c ?e ?g (Calls.of_def ?ho ?hcd ?hb ?hl ?h1 ?h2 ?h3 ?h4 ?body)
  case b => show findIn (hd.heap_39 w.params) _ _ = _; k_is
  case a => show plainGet (hd.heap_39 w.params) _ _ = _; k_is
  case c => show isFn (hd.heap_39 w.params) _ = _; k_is
  case e => show keepIn (hd.heap_39 w.params) _ = _; k_is
  case g => rfl
  case ho => show List.lookup _ (hd.heap_39 w.params) = _; k_is
  case hcd => show codeIn (hd.heap_39 w.params) _ _ = _; k_is
  case hb => exact fun s => BindsTo.of_eq rfl
  case hl => rfl
  case h1 => rfl
  case h2 => rfl
  case h3 => rfl
  case h4 => decide
  exact bodyP

theorem dflt_15 {w : World} {p : Program} {loose : List Str} {mean : ExcName → Option Value} {mg mb : Str → Option Value} {news : Led} {d : Nat} {x dx : Addr} {xa xb : Value} (hx : (x, instObj 213 dx) ∈ news) (hdx : (dx, dictOf [] 0) ∈ news) :
    Meth (G0 w p loose mean mg mb) (d + 1) (evName 15) (.ref x) [xa, xb] news fun r n => r = xb ∧ n = news := by
  refine' Meth.of_fn hx hdx ?a ?b ?c ?e ?g (Calls.of_def ?ho ?hcd ?hb ?hl ?h1 ?h2 ?h3 ?h4 ?body)
  case b => show findIn (hd.heap_39 w.params) _ _ = _; k_is
  case a => show plainGet (hd.heap_39 w.params) _ _ = _; k_is
  case c => show isFn (hd.heap_39 w.params) _ = _; k_is
  case e => show keepIn (hd.heap_39 w.params) _ = _; k_is
  case g => rfl
  case ho => show List.lookup _ (hd.heap_39 w.params) = _; k_is
  case hcd => show codeIn (hd.heap_39 w.params) _ _ = _; k_is
  case hb => exact fun s => BindsTo.of_eq rfl
  case hl => rfl
  case h1 => rfl
  case h2 => rfl
  case h3 => rfl
  case h4 => decide
  exact bodyN rfl rfl rfl
set_option maxHeartbeats 4000000 in
theorem dflt_0 {w : World} {p : Program} {loose : List Str} {mean : ExcName → Option Value} {mg mb : Str → Option Value} {news : Led} {d : Nat} {x dx : Addr} {tl : Tok} {vl xa : Value} (hx : (x, instObj 164 dx) ∈ news) (hoff : ∀ q ∈ news, q.1 ≠ dx) :
    Meth (G0 w p loose mean mg mb) (d + 1) (evName 0) (.ref x) [xa] ((dx, dictOf [ent w "_locator" tl vl] 1) :: news) fun r n => r = .none ∧ ∃ t, n = (dx, dictOf [ent w "_locator" t xa] 1) :: news := by
  have hx := List.Mem.tail (dx, dictOf [ent w "_locator" tl vl] 1) hx
  have hdx := List.Mem.head (a := (dx, dictOf [ent w "_locator" tl vl] 1)) news
  refine' Meth.of_fn hx hdx ?a ?b ?c ?e ?g (Calls.of_def ?ho ?hcd ?hb ?hl ?h1 ?h2 ?h3 ?h4 ?body)
  case b => show findIn (hd.heap_39 w.params) _ _ = _; k_is
  case a => show plainGet (hd.heap_39 w.params) _ _ = _; k_is
  case c => show isFn (hd.heap_39 w.params) _ = _; k_is
  case e => show keepIn (hd.heap_39 w.params) _ = _; k_is
  case g => rfl
  case ho => show List.lookup _ (hd.heap_39 w.params) = _; k_is
  case hcd => show codeIn (hd.heap_39 w.params) _ _ = _; k_is
  case hb => exact fun s => BindsTo.of_eq rfl
  case hl => rfl
  case h1 => rfl
  case h2 => rfl
  case h3 => rfl
  case h4 => decide
  intro A L g s Q E C hdp hQ
  obtain ⟨⟨A₀, base, outer, B, hA⟩, F, X, N, T, hf, hk, hh⟩ := C
  obtain ⟨ah, dp, fr, gd, un⟩ := A
  dsimp only at hA hf hk hh
  subst hA hh
  dsimp only [G0] at hdp X T ⊢
  k_steps
  exact hQ _ _ _ _ _ (by assumption) (by assumption) ⟨rfl, _, rfl⟩
end Mine

namespace Mine
open PySem.Calls PySem.Spec
local macro_rules | `(tactic| k_room) => `(tactic| ((try simp only [depth_under_make, depth_under_kw, depth_in1, depth_deeper, depth_caller]); (try dsimp only); omega))
local macro_rules | `(tactic| k_mem) => `(tactic| first | with_reducible assumption | (with_reducible k_memK) | ((repeat with_reducible refine List.Mem.tail _ ?_); assumption))
local macro_rules | `(tactic| k_all) => `(tactic| assumption)
theorem fill10 (w : World) : PySem.Challenge.rw_kq0045_01 = PySem.Challenge.rw_kq0045_01 ∧ hd.heap_39 w.params = hd.heap_39 w.params := by
  k_fill
  exact ⟨rfl, rfl⟩

structure Sta where
  heard : Nat
  X : Nat → Nat
  D : Nat → Nat
  H : Nat → Nat → Nat
  HD : Nat → Nat → Nat
  q : Nat → Nat
abbrev Routes := Nat → Nat → Option Nat
def hnd (σ : Sta) (R : Routes) (s i : Nat) : Nat := match R s i with | some t => σ.X t | none => σ.H s i
def hcls (s : Nat) : Nat := ([164, 192, 213, 52] : List Nat).getD s 0
def RouteV (o : Option Nat) (v : Value) : Prop := match o with | none => v = .none | some t => ∃ tk, v = .int t tk

structure Shows (Γ : Gl) (σ : Sta) (R Rq : Routes) (n : Led) : Prop where
  filt : ∀ i < 3, (σ.X i, instObj 543 (σ.D i)) ∈ n
  fdic : ∀ i < 3, ∃ t0 t1 t2 t3 t4, (σ.D i, dictOf (fdict Γ.w t0 t1 t2 t3 t4 (.ref (hnd σ R 0 i)) (.ref (hnd σ R 1 i)) (.ref (hnd σ R 2 i)) (.ref (hnd σ R 3 i))) 5) ∈ n
  lis : ∀ i : Nat, 3 ≤ i → i < 5 → Listens Γ σ.heard i n (σ.X i) (σ.D i)
  dobj : ∀ s < 4, ∀ i < 3, (σ.H s i, instObj (hcls s) (σ.HD s i)) ∈ n
  cont : ∀ i < 3, ∃ t v, (σ.HD 0 i, dictOf [ent Γ.w "_locator" t v] 1) ∈ n
  ddic : ∀ s, 0 < s → s < 4 → ∀ i < 3, (σ.HD s i, dictOf [] 0) ∈ n
  rts : ∀ s < 4, ∃ v0 v1 v2 k, (σ.q s, W.listOf #[v0, v1, v2] k) ∈ n ∧ RouteV (Rq s 0) v0 ∧ RouteV (Rq s 1) v1 ∧ RouteV (Rq s 2) v2
  xoff : ∀ q ∈ n, q.1 ≠ σ.heard
  fn : ∀ a o o', (a, o) ∈ n → (a, o') ∈ n → o = o'
  dinj : ∀ i < 3, ∀ j < 3, σ.D i = σ.D j → i = j
  qinj : ∀ i < 4, ∀ j < 4, σ.q i = σ.q j → i = j

def Valid (R : Routes) : Prop := ∀ s i t, R s i = some t → i < t ∧ t < 5
def chase (R : Routes) (s : Nat) : Nat → Nat → Option Nat
  | 0, i => some i
  | f + 1, i => if 3 ≤ i then some i else match R s i with
    | none => none
    | some t => chase R s f t

theorem Meth.le {Γ : Gl} {d d' : Nat} {n : Str} {v : Value} {args : List Value} {news : Led} {P : Value → Led → Prop} (h : d ≤ d') (H : Meth Γ d n v args news P) : Meth Γ d' n v args news P :=
  fun A env L h₀ m s Q E pos es pl C hdp ok hQ => H A env L h₀ m s Q E pos es pl C (by omega) ok hQ
theorem Meth.mono {Γ : Gl} {d : Nat} {n : Str} {v : Value} {args : List Value} {news : Led} {P P' : Value → Led → Prop} (H : Meth Γ d n v args news P) (h : ∀ r n', P r n' → P' r n') : Meth Γ d n v args news P' :=
  fun A env L h₀ m s Q E pos es pl C hdp ok hQ => H A env L h₀ m s Q E pos es pl C hdp ok fun r h' tk n' F N hP => hQ r h' tk n' F N (h r n' hP)
theorem ArgsOk.sub {env : Env} {L : Addr} {m : Str → Option Value} {news news' : Led} {es : List Expr} {vs : List Value} (ok : ArgsOk env L m news es vs) (hs : ∀ q ∈ news, q ∈ news') : ArgsOk env L m news' es vs :=
  ⟨ok.star, ok.len, fun prog w A E h₀ s Q pos F N h => ok.run prog w A E h₀ s Q pos F (fun q hq => N q (hs q hq)) h⟩
theorem ArgsOk.same {env : Env} {L : Addr} {m : Str → Option Value} {news news' : Led} {es : List Expr} {vs : List Value} (ok : ArgsOk env L m news es vs) (hs : ∀ q ∈ news, q ∈ news') : ArgsOk env L m news' es vs := ok.sub hs
theorem Meth.sub {Γ : Gl} {d : Nat} {n : Str} {v : Value} {args : List Value} {news news' : Led} {P : Value → Led → Prop} (H : Meth Γ d n v args news' P) (h1 : ∀ q ∈ news', q ∈ news) (h2 : ∀ q ∈ news, q ∈ news') : Meth Γ d n v args news P :=
  fun A env L h₀ m s Q E pos es pl C hdp ok hQ => H A env L h₀ m s Q E pos es pl (C.sub h1) hdp (ok.sub h2) hQ
theorem HopP.twice {κ : Nat} {P : Value → Led → Prop} (r : Value) (n : Led) : HopP κ (HopP κ P) r n → HopP κ P r n := by
  unfold HopP HopE
  by_cases h : κ = 15
  · rw [if_pos h, if_pos h]; exact id
  · rw [if_neg h, if_neg h]; exact fun ⟨a, r', b, c⟩ => ⟨a, c⟩

theorem hop_any {w : World} {p : Program} {loose : List Str} {mean : ExcName → Option Value} {mg mb : Str → Option Value} {news : Led} {κ : Nat} (hκ : κ < 19) {d : Nat} {x dx : Addr} {v : Nat → Nat} {t0 t1 t2 t3 t4 : Tok} {args : List Value} {P : Value → Led → Prop} (hx : (x, instObj 543 dx) ∈ news)
    (hdx : (dx, dictOf (fdict w t0 t1 t2 t3 t4 (.ref (v 0)) (.ref (v 1)) (.ref (v 2)) (.ref (v 3))) 5) ∈ news) (ha : args.length = evSize κ) (H : Meth (G0 w p loose mean mg mb) d (evName κ) (.ref (v (evSort κ))) args news P) : Meth (G0 w p loose mean mg mb) (d + 1) (evName κ) (.ref x) args news (HopP κ P) := by
  rcases lt19 hκ with rfl | rfl | rfl | rfl | rfl | rfl | rfl | rfl | rfl | rfl | rfl | rfl | rfl | rfl | rfl | rfl | rfl | rfl | rfl
  · exact hop_0 hx hdx ha H
  · exact hop_1 hx hdx ha H
  · exact hop_2 hx hdx ha H
  · exact hop_3 hx hdx ha H
  · exact hop_4 hx hdx ha H
  · exact hop_5 hx hdx ha H
  · exact hop_6 hx hdx ha H
  · exact hop_7 hx hdx ha H
  · exact hop_8 hx hdx ha H
  · exact hop_9 hx hdx ha H
  · exact hop_10 hx hdx ha H
  · exact hop_11 hx hdx ha H
  · exact hop_12 hx hdx ha H
  · exact hop_13 hx hdx ha H
  · exact hop_14 hx hdx ha H
  · exact hop_15 hx hdx ha H
  · exact hop_16 hx hdx ha H
  · exact hop_17 hx hdx ha H
  · exact hop_18 hx hdx ha H

theorem own_any {w : World} {κ : Nat} (hκ : κ < 19) : plainGet (hd.heap_39 w.params) 164 (evName κ) = true ∧ ∃ attr, findIn (hd.heap_39 w.params) (.ref 164) (evName κ) = some attr ∧ givesWay (hd.heap_39 w.params) attr = true ∧ defOrNone (hd.heap_39 w.params) attr = true := by
  rcases lt19 hκ with rfl | rfl | rfl | rfl | rfl | rfl | rfl | rfl | rfl | rfl | rfl | rfl | rfl | rfl | rfl | rfl | rfl | rfl | rfl
  · refine ⟨by k_is, _, by k_is, ?_, ?_⟩ <;> first | rfl | k_is | decide +kernel
  · refine ⟨by k_is, _, by k_is, ?_, ?_⟩ <;> first | rfl | k_is | decide +kernel
  · refine ⟨by k_is, _, by k_is, ?_, ?_⟩ <;> first | rfl | k_is | decide +kernel
  · refine ⟨by k_is, _, by k_is, ?_, ?_⟩ <;> first | rfl | k_is | decide +kernel
  · refine ⟨by k_is, _, by k_is, ?_, ?_⟩ <;> first | rfl | k_is | decide +kernel
  · refine ⟨by k_is, _, by k_is, ?_, ?_⟩ <;> first | rfl | k_is | decide +kernel
  · refine ⟨by k_is, _, by k_is, ?_, ?_⟩ <;> first | rfl | k_is | decide +kernel
  · refine ⟨by k_is, _, by k_is, ?_, ?_⟩ <;> first | rfl | k_is | decide +kernel
  · refine ⟨by k_is, _, by k_is, ?_, ?_⟩ <;> first | rfl | k_is | decide +kernel
  · refine ⟨by k_is, _, by k_is, ?_, ?_⟩ <;> first | rfl | k_is | decide +kernel
  · refine ⟨by k_is, _, by k_is, ?_, ?_⟩ <;> first | rfl | k_is | decide +kernel
  · refine ⟨by k_is, _, by k_is, ?_, ?_⟩ <;> first | rfl | k_is | decide +kernel
  · refine ⟨by k_is, _, by k_is, ?_, ?_⟩ <;> first | rfl | k_is | decide +kernel
  · refine ⟨by k_is, _, by k_is, ?_, ?_⟩ <;> first | rfl | k_is | decide +kernel
  · refine ⟨by k_is, _, by k_is, ?_, ?_⟩ <;> first | rfl | k_is | decide +kernel
  · refine ⟨by k_is, _, by k_is, ?_, ?_⟩ <;> first | rfl | k_is | decide +kernel
  · refine ⟨by k_is, _, by k_is, ?_, ?_⟩ <;> first | rfl | k_is | decide +kernel
  · refine ⟨by k_is, _, by k_is, ?_, ?_⟩ <;> first | rfl | k_is | decide +kernel
  · refine ⟨by k_is, _, by k_is, ?_, ?_⟩ <;> first | rfl | k_is | decide +kernel

/-- what a listener does to the ledger -/
def ToldP (heard e κ : Nat) (args : List Value) (k : Nat) (n : Led) (r : Value) (n' : Led) : Prop :=
  ∃ t l : Nat, ∃ tk tn tq : Tok, r = .str (Str.ofString "") tk ∧ n' = (t, tupObj [.int e tn, .int κ tq, .ref l]) :: (l, W.listOf args.toArray 0) :: (heard, W.listOf #[.ref t] (k + 1)) :: n ∧ (∀ q ∈ n, q.1 < l) ∧ heard < l ∧ l < t

theorem ev_heard {w : World} {p : Program} {loose : List Str} {mean : ExcName → Option Value} {mg mb : Str → Option Value} {σ : Sta} {R Rq : Routes} {n : Led} (S : Shows (G0 w p loose mean mg mb) σ R Rq n) (V : Valid R) {κ : Nat} (hκ : κ < 19) {args : List Value} (ha : args.length = evSize κ) {e k : Nat} :
    ∀ f i, i < 5 → 5 ≤ i + f → chase R (evSort κ) f i = some e → Meth (G0 w p loose mean mg mb) (3 + f) (evName κ) (.ref (σ.X i)) args ((σ.heard, W.listOf #[] k) :: n) (if 3 ≤ i then ToldP σ.heard e κ args k n else HopP κ (ToldP σ.heard e κ args k n))
  | 0, i, h1, h2, _ => absurd h1 (by omega)
  | f + 1, i, h1, h2, hc => by
    by_cases h3 : 3 ≤ i
    · rw [if_pos h3]
      unfold chase at hc
      rw [if_pos h3] at hc
      obtain rfl := Option.some.inj hc
      obtain ⟨es, kk, l1, l2, l3⟩ := S.lis i h3 h1
      obtain ⟨g, Sg, l4, l5, l6, l7⟩ := l3 κ hκ
      obtain ⟨⟨oc, od, fd, sl, l8⟩, l9⟩ := l7
      obtain ⟨o1, attr, o2, o3, o4⟩ := own_any (w := w) hκ
      refine (Meth.of_own (attr := attr) (.tail _ l1) (.tail _ l2) o1 (by show hasDictIn (hd.heap_39 w.params) _ = _; k_is) o2 o3 o4 l4 (.tail _ (l5 _ l8)) (l9 n k args ha l5 S.xoff)).le (by omega)
    · rw [if_neg h3]
      unfold chase at hc
      rw [if_neg h3] at hc
      have h3 : i < 3 := by omega
      obtain ⟨t0, t1, t2, t3, t4, hf⟩ := S.fdic i h3
      cases hr : R (evSort κ) i with
      | none => rw [hr] at hc; cases hc
      | some t =>
        rw [hr] at hc
        obtain ⟨v1, v2⟩ := V _ _ _ hr
        have ih := ev_heard S V hκ ha (k := k) f t v2 (by omega) hc
        have ee : hnd σ R (evSort κ) i = σ.X t := by unfold hnd; rw [hr]
        rw [← ee] at ih
        refine (hop_any (v := fun s => hnd σ R s i) hκ (.tail _ (S.filt i h3)) (.tail _ hf) ha ih).mono fun r n' => ?_
        by_cases h4 : 3 ≤ t
        · rw [if_pos h4]; exact id
        · rw [if_neg h4]; exact HopP.twice r n'

section
variable {Γ : Gl} {σ : Sta} {R Rq : Routes} {n : Led}
theorem list_ne_dict {a : Array Value} {k n : Nat} {es : List DictEntry} : W.listOf a k ≠ dictOf es n := fun e => by
  have := congrArg Obj.cls e
  injection this with this
  exact absurd this (by decide)
theorem dict_ne {k n : Nat} {es es' : List DictEntry} (h : es.length ≠ es'.length) : dictOf es k ≠ dictOf es' n := fun e => by
  have := Data.dict.inj (congrArg Obj.data e)
  have := congrArg Array.size this.1
  simp at this
  exact h this
theorem dict_inj {k n : Nat} {es es' : List DictEntry} (e : dictOf es k = dictOf es' n) : es = es' := by
  have := Data.dict.inj (congrArg Obj.data e)
  simpa using this.1
theorem keep_set {a : Addr} {o o' : Obj} (fn : ∀ a o o', (a, o) ∈ n → (a, o') ∈ n → o = o') (h : (a, o) ∈ n) : ∀ q ∈ n, q.2 ≠ o → q ∈ (a, o') :: del a n := fun q hq hne => .tail _ (mem_del hq fun e => hne (by
  obtain ⟨b, ob⟩ := q
  have e : b = a := e
  subst e
  exact fn _ _ _ hq h))
theorem fn_set {a : Addr} {o' : Obj} (fn : ∀ a o o', (a, o) ∈ n → (a, o') ∈ n → o = o') : ∀ b o₁ o₂, (b, o₁) ∈ (a, o') :: del a n → (b, o₂) ∈ (a, o') :: del a n → o₁ = o₂ := fun b o₁ o₂ h1 h2 => by
  rcases List.mem_cons.mp h1 with e1 | h1 <;> rcases List.mem_cons.mp h2 with e2 | h2
  · exact (Prod.mk.inj e1).2.trans (Prod.mk.inj e2).2.symm
  · exact absurd (Prod.mk.inj e1).1 (of_del h2).2
  · exact absurd (Prod.mk.inj e2).1 (of_del h1).2
  · exact fn _ _ _ (of_del h1).1 (of_del h2).1
theorem Listens.keep {heard x d : Addr} {number : Int} {n' : Led} {o : Obj} (h : Listens Γ heard number n x d) (hk : ∀ q ∈ n, q.2 ≠ o → q ∈ n') (h1 : still o = false) (h2 : o ≠ instObj 164 d) (h3 : ∀ es k v, getL (evName 1) es = some (some v) → o ≠ dictOf es k) : Listens Γ heard number n' x d := by
  obtain ⟨es, k, a, b, c⟩ := h
  obtain ⟨f1, S1, d1, _⟩ := c 1 (by decide)
  refine ⟨es, k, hk _ a (Ne.symm h2), hk _ b (Ne.symm (h3 es k _ d1)), fun κ hκ => ?_⟩
  obtain ⟨f, S, d1, d2, d3, d4⟩ := c κ hκ
  exact ⟨f, S, d1, fun q hq => hk q (d2 q hq) (fun e => by have := d3 q hq; rw [e, h1] at this; cases this), d3, d4⟩
theorem xoff_set {a : Addr} {o o' : Obj} (S : Shows Γ σ R Rq n) (h : (a, o) ∈ n) : ∀ q ∈ (a, o') :: del a n, q.1 ≠ σ.heard := fun q hq => by
  rcases List.mem_cons.mp hq with rfl | hq
  · exact (show a ≠ σ.heard from S.xoff (a, o) h)
  · exact S.xoff _ (of_del hq).1
/-- a default content handler's locator is set -/
theorem Shows.setLoc {i : Nat} {t t' : Tok} {v v' : Value} (S : Shows Γ σ R Rq n) (hi : i < 3) (h : (σ.HD 0 i, dictOf [ent Γ.w "_locator" t v] 1) ∈ n) : Shows Γ σ R Rq ((σ.HD 0 i, dictOf [ent Γ.w "_locator" t' v'] 1) :: del (σ.HD 0 i) n) := by
  have hk := keep_set (o' := dictOf [ent Γ.w "_locator" t' v'] 1) S.fn h
  refine ⟨fun j hj => hk _ (S.filt j hj) (by intro e; cases e), fun j hj => ?_, fun j h1 h2 => (S.lis j h1 h2).keep hk rfl (by intro e; cases e) (fun es k v he e => ?_), fun s hs j hj => hk _ (S.dobj s hs j hj) (by intro e; cases e), fun j hj => ?_,
    fun s h1 h2 j hj => hk _ (S.ddic s h1 h2 j hj) (dict_ne (by show 0 ≠ 1; decide)), fun s hs => ?_, xoff_set S h, fn_set S.fn, S.dinj, S.qinj⟩
  · obtain ⟨t0, t1, t2, t3, t4, a⟩ := S.fdic j hj
    exact ⟨t0, t1, t2, t3, t4, hk _ a (dict_ne (by show 5 ≠ 1; decide))⟩
  · rw [← dict_inj e] at he
    have he := (show getL (evName 1) [ent Γ.w "_locator" _ _] = some none from rfl).symm.trans he
    cases he
  · obtain ⟨tt, vv, a⟩ := S.cont j hj
    by_cases e : σ.HD 0 j = σ.HD 0 i
    · rw [e]; exact ⟨_, _, .head _⟩
    · exact ⟨tt, vv, .tail _ (mem_del a e)⟩
  · obtain ⟨v0, v1, v2, k, a, b⟩ := S.rts s hs
    exact ⟨v0, v1, v2, k, hk _ a list_ne_dict, b⟩
end

/-- what a default handler does to the ledger -/
def QuietP (Γ : Gl) (σ : Sta) (R Rq : Routes) (κ : Nat) (args : List Value) (k : Nat) (n : Led) (r : Value) (n' : Led) : Prop :=
  r = (if κ = 15 then args.getD 1 .none else .none) ∧ ∃ n'', (∀ q ∈ (σ.heard, W.listOf #[] k) :: n'', q ∈ n') ∧ Shows Γ σ R Rq n'' ∧ ∀ q ∈ n, (∀ i < 3, q.1 ≠ σ.HD 0 i) → q ∈ n''
theorem lt16 {κ : Nat} (h : κ < 16) : κ = 0 ∨ κ = 1 ∨ κ = 2 ∨ κ = 3 ∨ κ = 4 ∨ κ = 5 ∨ κ = 6 ∨ κ = 7 ∨ κ = 8 ∨ κ = 9 ∨ κ = 10 ∨ κ = 11 ∨ κ = 12 ∨ κ = 13 ∨ κ = 14 ∨ κ = 15 := (by decide : ∀ κ < 16, κ = 0 ∨ κ = 1 ∨ κ = 2 ∨ κ = 3 ∨ κ = 4 ∨ κ = 5 ∨ κ = 6 ∨ κ = 7 ∨ κ = 8 ∨ κ = 9 ∨ κ = 10 ∨ κ = 11 ∨ κ = 12 ∨ κ = 13 ∨ κ = 14 ∨ κ = 15) κ h
theorem dflt_any {w : World} {p : Program} {loose : List Str} {mean : ExcName → Option Value} {mg mb : Str → Option Value} {σ : Sta} {R Rq : Routes} {n : Led} (S : Shows (G0 w p loose mean mg mb) σ R Rq n) {κ : Nat} (hκ : κ < 16) {args : List Value} (ha : args.length = evSize κ) {k d i : Nat} (hi : i < 3) :
    Meth (G0 w p loose mean mg mb) (d + 1) (evName κ) (.ref (σ.H (evSort κ) i)) args ((σ.heard, W.listOf #[] k) :: n) (QuietP (G0 w p loose mean mg mb) σ R Rq κ args k n) := by
  obtain ⟨tl, vl, hl⟩ := S.cont i hi
  have q0 : ∀ (r : Value) (n' : Led), κ ≠ 15 → r = .none ∧ n' = (σ.heard, W.listOf #[] k) :: n → QuietP (G0 w p loose mean mg mb) σ R Rq κ args k n r n' := fun r n' h15 h => ⟨by rw [if_neg h15]; exact h.1, n, fun q hq => h.2 ▸ hq, S, fun q hq _ => hq⟩
  rcases lt16 hκ with rfl | rfl | rfl | rfl | rfl | rfl | rfl | rfl | rfl | rfl | rfl | rfl | rfl | rfl | rfl | rfl
  · obtain ⟨xa, rfl⟩ := len1 ha
    have hx := S.dobj 0 (by decide) i hi
    have hdx : (σ.HD 0 i : Nat) ≠ σ.heard := S.xoff _ hl
    have hxd : (σ.H 0 i : Nat) ≠ σ.HD 0 i := fun e => by
      rw [e] at hx
      cases S.fn _ _ _ hx hl
    have hoff : ∀ q ∈ (σ.heard, W.listOf #[] k) :: del (σ.HD 0 i) n, q.1 ≠ σ.HD 0 i := fun q hq => by
      rcases List.mem_cons.mp hq with rfl | hq
      · exact Ne.symm hdx
      · exact (of_del hq).2
    refine ((dflt_0 (news := (σ.heard, W.listOf #[] k) :: del (σ.HD 0 i) n) (tl := tl) (vl := vl) (xa := xa) (.tail _ (mem_del hx hxd)) hoff).sub (fun q hq => ?_) fun q hq => ?_).mono fun r n' h => ⟨h.1, ?_⟩
    · rcases List.mem_cons.mp hq with rfl | hq
      · exact .tail _ hl
      · rcases List.mem_cons.mp hq with rfl | hq
        · exact .head _
        · exact .tail _ (of_del hq).1
    · rcases List.mem_cons.mp hq with rfl | hq
      · exact .tail _ (.head _)
      · by_cases e : q.1 = σ.HD 0 i
        · obtain ⟨b, o⟩ := q
          have e : b = σ.HD 0 i := e
          subst e
          rw [S.fn _ _ _ hq hl]
          exact .head _
        · exact .tail _ (.tail _ (mem_del hq e))
    · obtain ⟨_, t, rfl⟩ := h
      refine ⟨_, fun q hq => ?_, S.setLoc hi hl (t' := t) (v' := xa), fun q hq hne => .tail _ (mem_del hq (hne i hi))⟩
      rcases List.mem_cons.mp hq with rfl | hq
      · exact .tail _ (.head _)
      · rcases List.mem_cons.mp hq with rfl | hq
        · exact .head _
        · exact .tail _ (.tail _ hq)
  · exact (dflt_1 (tl := tl) (vl := vl) (.tail _ (S.dobj 0 (by decide) i hi)) (.tail _ hl) ha).mono fun r n' h => q0 r n' (by decide) h
  · exact (dflt_2 (tl := tl) (vl := vl) (.tail _ (S.dobj 0 (by decide) i hi)) (.tail _ hl) ha).mono fun r n' h => q0 r n' (by decide) h
  · exact (dflt_3 (tl := tl) (vl := vl) (.tail _ (S.dobj 0 (by decide) i hi)) (.tail _ hl) ha).mono fun r n' h => q0 r n' (by decide) h
  · exact (dflt_4 (tl := tl) (vl := vl) (.tail _ (S.dobj 0 (by decide) i hi)) (.tail _ hl) ha).mono fun r n' h => q0 r n' (by decide) h
  · exact (dflt_5 (tl := tl) (vl := vl) (.tail _ (S.dobj 0 (by decide) i hi)) (.tail _ hl) ha).mono fun r n' h => q0 r n' (by decide) h
  · exact (dflt_6 (tl := tl) (vl := vl) (.tail _ (S.dobj 0 (by decide) i hi)) (.tail _ hl) ha).mono fun r n' h => q0 r n' (by decide) h
  · exact (dflt_7 (tl := tl) (vl := vl) (.tail _ (S.dobj 0 (by decide) i hi)) (.tail _ hl) ha).mono fun r n' h => q0 r n' (by decide) h
  · exact (dflt_8 (tl := tl) (vl := vl) (.tail _ (S.dobj 0 (by decide) i hi)) (.tail _ hl) ha).mono fun r n' h => q0 r n' (by decide) h
  · exact (dflt_9 (tl := tl) (vl := vl) (.tail _ (S.dobj 0 (by decide) i hi)) (.tail _ hl) ha).mono fun r n' h => q0 r n' (by decide) h
  · exact (dflt_10 (tl := tl) (vl := vl) (.tail _ (S.dobj 0 (by decide) i hi)) (.tail _ hl) ha).mono fun r n' h => q0 r n' (by decide) h
  · exact (dflt_11 (tl := tl) (vl := vl) (.tail _ (S.dobj 0 (by decide) i hi)) (.tail _ hl) ha).mono fun r n' h => q0 r n' (by decide) h
  · exact (dflt_12 (tl := tl) (vl := vl) (.tail _ (S.dobj 0 (by decide) i hi)) (.tail _ hl) ha).mono fun r n' h => q0 r n' (by decide) h
  · exact (dflt_13 (.tail _ (S.dobj 1 (by decide) i hi)) (.tail _ (S.ddic 1 (by decide) (by decide) i hi)) ha).mono fun r n' h => q0 r n' (by decide) h
  · exact (dflt_14 (.tail _ (S.dobj 1 (by decide) i hi)) (.tail _ (S.ddic 1 (by decide) (by decide) i hi)) ha).mono fun r n' h => q0 r n' (by decide) h
  · obtain ⟨xa, xb, rfl⟩ := len2 ha
    exact (dflt_15 (.tail _ (S.dobj 2 (by decide) i hi)) (.tail _ (S.ddic 2 (by decide) (by decide) i hi))).mono fun r n' h => ⟨h.1, n, fun q hq => h.2 ▸ hq, S, fun q hq _ => hq⟩

theorem ev_none {w : World} {p : Program} {loose : List Str} {mean : ExcName → Option Value} {mg mb : Str → Option Value} {σ : Sta} {R Rq : Routes} {n : Led} (S : Shows (G0 w p loose mean mg mb) σ R Rq n) (V : Valid R) {κ : Nat} (hκ : κ < 16) {args : List Value} (ha : args.length = evSize κ) {k : Nat} :
    ∀ f i, i < 5 → 5 ≤ i + f → chase R (evSort κ) f i = none → Meth (G0 w p loose mean mg mb) (3 + f) (evName κ) (.ref (σ.X i)) args ((σ.heard, W.listOf #[] k) :: n) (QuietP (G0 w p loose mean mg mb) σ R Rq κ args k n)
  | 0, i, h1, h2, _ => absurd h1 (by omega)
  | f + 1, i, h1, h2, hc => by
    by_cases h3 : 3 ≤ i
    · unfold chase at hc
      rw [if_pos h3] at hc
      cases hc
    · unfold chase at hc
      rw [if_neg h3] at hc
      have h3 : i < 3 := by omega
      obtain ⟨t0, t1, t2, t3, t4, hf⟩ := S.fdic i h3
      have fin : Meth (G0 w p loose mean mg mb) (3 + f) (evName κ) (.ref (hnd σ R (evSort κ) i)) args ((σ.heard, W.listOf #[] k) :: n) (QuietP (G0 w p loose mean mg mb) σ R Rq κ args k n) := by
        unfold hnd
        cases hr : R (evSort κ) i with
        | none => exact (dflt_any (d := 2) S hκ ha h3).le (by omega)
        | some t =>
          rw [hr] at hc
          obtain ⟨v1, v2⟩ := V _ _ _ hr
          exact ev_none S V hκ ha f t v2 (by omega) hc
      refine (hop_any (v := fun s => hnd σ R s i) (by omega) (.tail _ (S.filt i h3)) (.tail _ hf) ha fin).mono fun r n' => ?_
      unfold HopP HopE
      by_cases h15 : κ = 15
      · rw [if_pos h15]; exact id
      · rw [if_neg h15]
        exact fun ⟨a, r', b, c⟩ => ⟨by rw [if_neg h15]; exact a, c⟩
end Mine

namespace Mine
open PySem.Calls PySem.Spec
local macro_rules | `(tactic| k_room) => `(tactic| ((try simp only [depth_under_make, depth_under_kw, depth_in1, depth_deeper, depth_caller]); (try dsimp only); omega))
local macro_rules | `(tactic| k_mem) => `(tactic| first | with_reducible assumption | (with_reducible k_memK) | ((repeat with_reducible refine List.Mem.tail _ ?_); assumption))
local macro_rules | `(tactic| k_all) => `(tactic| assumption)
theorem fill11 (w : World) : PySem.Challenge.rw_kq0045_01 = PySem.Challenge.rw_kq0045_01 ∧ hd.heap_39 w.params = hd.heap_39 w.params := by
  k_fill
  exact ⟨rfl, rfl⟩

theorem hopE_16 {w : World} {p : Program} {loose : List Str} {mean : ExcName → Option Value} {mg mb : Str → Option Value} {news rest : Led} {d : Nat} {x dx v0 v1 v2 v3 e : Addr} {t0 t1 t2 t3 t4 : Tok} {args xs : List Value} (hx : (x, instObj 543 dx) ∈ news) (hdx : (dx, dictOf (fdict w t0 t1 t2 t3 t4 (.ref v0) (.ref v1) (.ref v2) (.ref v3)) 5) ∈ news)
    (ha : args.length = 1) (H : MethE (G0 w p loose mean mg mb) d (evName 16) (.ref v3) args news e xs rest) : MethE (G0 w p loose mean mg mb) (d + 1) (evName 16) (.ref x) args news e xs rest := by
  obtain ⟨xa, rfl⟩ := len1 ha
  refine' MethE.of_fn hx hdx ?a ?b ?c ?e ?g (CallsE.of_def ?ho ?hcd ?hb ?hl ?h1 ?h2 ?h3 ?h4 ?body)
  case b => show findIn (hd.heap_39 w.params) _ _ = _; k_is
  case a => show plainGet (hd.heap_39 w.params) _ _ = _; k_is
  case c => show isFn (hd.heap_39 w.params) _ = _; k_is
  case e => show keepIn (hd.heap_39 w.params) _ = _; k_is
  case g => rfl
  case ho => show List.lookup _ (hd.heap_39 w.params) = _; k_is
  case hcd => show codeIn (hd.heap_39 w.params) _ _ = _; k_is
  case hb => exact fun s => BindsTo.of_eq rfl
  case hl => rfl
  case h1 => rfl
  case h2 => rfl
  case h3 => rfl
  case h4 => decide
  refine' bodyXE hx hdx ?a ?b ?c ?e ?f ?g ?h ?i ?j ?k ?l H ?n ?o ?q
  case c => show findIn (hd.heap_39 w.params) _ _ = _; k_is
  case a => show plainGet (hd.heap_39 w.params) _ _ = _; k_is
  case b => show hasDictIn (hd.heap_39 w.params) _ = _; k_is
  case e => show noGet (hd.heap_39 w.params) _ = _; k_is
  case f => rfl
  case g => rfl
  case h => rfl
  case i => rfl
  case j => rfl
  case k => decide
  case l => rfl
  case n => exact fun L => rfl
  case o => exact fun L => rfl
  case q => exact fun L => rfl

theorem dfltE_16 {w : World} {p : Program} {loose : List Str} {mean : ExcName → Option Value} {mg mb : Str → Option Value} {news rest : Led} {d : Nat} {x dx e t : Addr} {xs : List Value} (hx : (x, instObj 52 dx) ∈ news) (hdx : (dx, dictOf [] 0) ∈ news)
    (he : (e, excObj t) ∈ news) (ht : (t, ({ cls := .type "tuple", data := .seq xs.toArray } : Obj)) ∈ news) (hr : ∀ q ∈ rest, q ∈ news ∧ q.1 ≠ e ∧ q.1 ≠ t) :
    MethE (G0 w p loose mean mg mb) (d + 1) (evName 16) (.ref x) [.ref e] news e xs rest := by
  refine' MethE.of_fn hx hdx ?a ?b ?c ?e ?g (CallsE.of_def ?ho ?hcd ?hb ?hl ?h1 ?h2 ?h3 ?h4 ?body)
  case b => show findIn (hd.heap_39 w.params) _ _ = _; k_is
  case a => show plainGet (hd.heap_39 w.params) _ _ = _; k_is
  case c => show isFn (hd.heap_39 w.params) _ = _; k_is
  case e => show keepIn (hd.heap_39 w.params) _ = _; k_is
  case g => rfl
  case ho => show List.lookup _ (hd.heap_39 w.params) = _; k_is
  case hcd => show codeIn (hd.heap_39 w.params) _ _ = _; k_is
  case hb => exact fun s => BindsTo.of_eq rfl
  case hl => rfl
  case h1 => rfl
  case h2 => rfl
  case h3 => rfl
  case h4 => decide
  exact bodyRaise rfl rfl rfl he ht hr

theorem hopE_17 {w : World} {p : Program} {loose : List Str} {mean : ExcName → Option Value} {mg mb : Str → Option Value} {news rest : Led} {d : Nat} {x dx v0 v1 v2 v3 e : Addr} {t0 t1 t2 t3 t4 : Tok} {args xs : List Value} (hx : (x, instObj 543 dx) ∈ news) (hdx : (dx, dictOf (fdict w t0 t1 t2 t3 t4 (.ref v0) (.ref v1) (.ref v2) (.ref v3)) 5) ∈ news)
    (ha : args.length = 1) (H : MethE (G0 w p loose mean mg mb) d (evName 17) (.ref v3) args news e xs rest) : MethE (G0 w p loose mean mg mb) (d + 1) (evName 17) (.ref x) args news e xs rest := by
  obtain ⟨xa, rfl⟩ := len1 ha
  refine' MethE.of_fn hx hdx ?a ?b ?c ?e ?g (CallsE.of_def ?ho ?hcd ?hb ?hl ?h1 ?h2 ?h3 ?h4 ?body)
  case b => show findIn (hd.heap_39 w.params) _ _ = _; k_is
  case a => show plainGet (hd.heap_39 w.params) _ _ = _; k_is
  case c => show isFn (hd.heap_39 w.params) _ = _; k_is
  case e => show keepIn (hd.heap_39 w.params) _ = _; k_is
  case g => rfl
  case ho => show List.lookup _ (hd.heap_39 w.params) = _; k_is
  case hcd => show codeIn (hd.heap_39 w.params) _ _ = _; k_is
  case hb => exact fun s => BindsTo.of_eq rfl
  case hl => rfl
  case h1 => rfl
  case h2 => rfl
  case h3 => rfl
  case h4 => decide
  refine' bodyXE hx hdx ?a ?b ?c ?e ?f ?g ?h ?i ?j ?k ?l H ?n ?o ?q
  case c => show findIn (hd.heap_39 w.params) _ _ = _; k_is
  case a => show plainGet (hd.heap_39 w.params) _ _ = _; k_is
  case b => show hasDictIn (hd.heap_39 w.params) _ = _; k_is
  case e => show noGet (hd.heap_39 w.params) _ = _; k_is
  case f => rfl
  case g => rfl
  case h => rfl
  case i => rfl
  case j => rfl
  case k => decide
  case l => rfl
  case n => exact fun L => rfl
  case o => exact fun L => rfl
  case q => exact fun L => rfl

theorem dfltE_17 {w : World} {p : Program} {loose : List Str} {mean : ExcName → Option Value} {mg mb : Str → Option Value} {news rest : Led} {d : Nat} {x dx e t : Addr} {xs : List Value} (hx : (x, instObj 52 dx) ∈ news) (hdx : (dx, dictOf [] 0) ∈ news)
    (he : (e, excObj t) ∈ news) (ht : (t, ({ cls := .type "tuple", data := .seq xs.toArray } : Obj)) ∈ news) (hr : ∀ q ∈ rest, q ∈ news ∧ q.1 ≠ e ∧ q.1 ≠ t) :
    MethE (G0 w p loose mean mg mb) (d + 1) (evName 17) (.ref x) [.ref e] news e xs rest := by
  refine' MethE.of_fn hx hdx ?a ?b ?c ?e ?g (CallsE.of_def ?ho ?hcd ?hb ?hl ?h1 ?h2 ?h3 ?h4 ?body)
  case b => show findIn (hd.heap_39 w.params) _ _ = _; k_is
  case a => show plainGet (hd.heap_39 w.params) _ _ = _; k_is
  case c => show isFn (hd.heap_39 w.params) _ = _; k_is
  case e => show keepIn (hd.heap_39 w.params) _ = _; k_is
  case g => rfl
  case ho => show List.lookup _ (hd.heap_39 w.params) = _; k_is
  case hcd => show codeIn (hd.heap_39 w.params) _ _ = _; k_is
  case hb => exact fun s => BindsTo.of_eq rfl
  case hl => rfl
  case h1 => rfl
  case h2 => rfl
  case h3 => rfl
  case h4 => decide
  exact bodyRaise rfl rfl rfl he ht hr

theorem ev_raise {w : World} {p : Program} {loose : List Str} {mean : ExcName → Option Value} {mg mb : Str → Option Value} {σ : Sta} {R Rq : Routes} {n news rest : Led} (S : Shows (G0 w p loose mean mg mb) σ R Rq n) (V : Valid R) (hn : ∀ q ∈ n, q ∈ news) {κ : Nat} (hκ : κ = 16 ∨ κ = 17)
    {e t : Addr} {xs : List Value} (he : (e, excObj t) ∈ news) (ht : (t, ({ cls := .type "tuple", data := .seq xs.toArray } : Obj)) ∈ news) (hr : ∀ q ∈ rest, q ∈ news ∧ q.1 ≠ e ∧ q.1 ≠ t) :
    ∀ f i, i < 5 → 5 ≤ i + f → chase R (evSort κ) f i = none → MethE (G0 w p loose mean mg mb) (3 + f) (evName κ) (.ref (σ.X i)) [.ref e] news e xs rest
  | 0, i, h1, h2, _ => absurd h1 (by omega)
  | f + 1, i, h1, h2, hc => by
    by_cases h3 : 3 ≤ i
    · unfold chase at hc
      rw [if_pos h3] at hc
      cases hc
    · unfold chase at hc
      rw [if_neg h3] at hc
      have h3 : i < 3 := by omega
      obtain ⟨t0, t1, t2, t3, t4, hf⟩ := S.fdic i h3
      have hs : evSort κ = 3 := by rcases hκ with rfl | rfl <;> rfl
      have fin : MethE (G0 w p loose mean mg mb) (3 + f) (evName κ) (.ref (hnd σ R 3 i)) [.ref e] news e xs rest := by
        unfold hnd
        rw [hs] at hc
        cases hr' : R 3 i with
        | none =>
          have o1 := hn _ (S.dobj 3 (by decide) i h3)
          have o2 := hn _ (S.ddic 3 (by decide) (by decide) i h3)
          rcases hκ with rfl | rfl
          · exact (dfltE_16 (d := 2) o1 o2 he ht hr).le (by omega)
          · exact (dfltE_17 (d := 2) o1 o2 he ht hr).le (by omega)
        | some u =>
          rw [hr'] at hc
          obtain ⟨v1, v2⟩ := V _ _ _ hr'
          exact ev_raise S V hn hκ he ht hr f u v2 (by omega) (by rw [hs]; exact hc)
      rcases hκ with rfl | rfl
      · exact hopE_16 (hn _ (S.filt i h3)) (hn _ hf) rfl fin
      · exact hopE_17 (hn _ (S.filt i h3)) (hn _ hf) rfl fin
end Mine

namespace Mine
open PySem.Calls PySem.Spec
local macro_rules | `(tactic| k_room) => `(tactic| ((try simp only [depth_under_make, depth_under_kw, depth_in1, depth_deeper, depth_caller]); (try dsimp only); omega))
local macro_rules | `(tactic| k_mem) => `(tactic| first | with_reducible assumption | (with_reducible k_memK) | ((repeat with_reducible refine List.Mem.tail _ ?_); assumption))
local macro_rules | `(tactic| k_all) => `(tactic| assumption)
theorem fill12 (w : World) : PySem.Challenge.rw_kq0045_01 = PySem.Challenge.rw_kq0045_01 ∧ hd.heap_39 w.params = hd.heap_39 w.params := by
  k_fill
  exact ⟨rfl, rfl⟩

set_option maxHeartbeats 4000000 in
theorem register_0 {w : World} {p : Program} {loose : List Str} {mean : ExcName → Option Value} {mg mb : Str → Option Value} {news : Led} {x d y : Addr} {ts t0 t1 t2 t3 t4 : Tok} {v0 v1 v2 v3 : Value} (hx : (x, instObj 543 d) ∈ news) (hoff : ∀ q ∈ news, q.1 ≠ d) :
    Calls (G0 w p loose mean mg mb) 8 (.ref 571) [.ref x, .int 0 ts, .ref y] ((d, dictOf (fdict w t0 t1 t2 t3 t4 v0 v1 v2 v3) 5) :: news) fun r n => r = .none ∧ ∀ q ∈ (d, dictOf (fdict w t0 t1 t2 t3 t4 (.ref y) v1 v2 v3) 5) :: news, q ∈ n := by
  intro A env L h₀ m s Q E C hdp hQ
  obtain ⟨⟨A₀, base, outer, B, hA⟩, F, X, N, T, hf, hk, hh⟩ := C
  obtain ⟨ah, dp, fr, gd, un⟩ := A
  obtain ⟨⟨kind, nms, ig, ic, mr⟩, locals, globals, cells, qual, func, code, frame, builtins⟩ := env
  dsimp only at hA hf hk hh
  subst hA hf hk hh
  dsimp only [G0] at hdp X T ⊢
  k_steps
  refine hQ _ _ _ _ (by assumption) (by assumption) ⟨rfl, fun q hq => ?_⟩
  repeat (first | exact hq | refine List.Mem.tail _ ?_)

set_option maxHeartbeats 4000000 in
theorem register_1 {w : World} {p : Program} {loose : List Str} {mean : ExcName → Option Value} {mg mb : Str → Option Value} {news : Led} {x d y : Addr} {ts t0 t1 t2 t3 t4 : Tok} {v0 v1 v2 v3 : Value} (hx : (x, instObj 543 d) ∈ news) (hoff : ∀ q ∈ news, q.1 ≠ d) :
    Calls (G0 w p loose mean mg mb) 8 (.ref 571) [.ref x, .int 1 ts, .ref y] ((d, dictOf (fdict w t0 t1 t2 t3 t4 v0 v1 v2 v3) 5) :: news) fun r n => r = .none ∧ ∀ q ∈ (d, dictOf (fdict w t0 t1 t2 t3 t4 v0 (.ref y) v2 v3) 5) :: news, q ∈ n := by
  intro A env L h₀ m s Q E C hdp hQ
  obtain ⟨⟨A₀, base, outer, B, hA⟩, F, X, N, T, hf, hk, hh⟩ := C
  obtain ⟨ah, dp, fr, gd, un⟩ := A
  obtain ⟨⟨kind, nms, ig, ic, mr⟩, locals, globals, cells, qual, func, code, frame, builtins⟩ := env
  dsimp only at hA hf hk hh
  subst hA hf hk hh
  dsimp only [G0] at hdp X T ⊢
  k_steps
  refine hQ _ _ _ _ (by assumption) (by assumption) ⟨rfl, fun q hq => ?_⟩
  repeat (first | exact hq | refine List.Mem.tail _ ?_)

set_option maxHeartbeats 4000000 in
theorem register_2 {w : World} {p : Program} {loose : List Str} {mean : ExcName → Option Value} {mg mb : Str → Option Value} {news : Led} {x d y : Addr} {ts t0 t1 t2 t3 t4 : Tok} {v0 v1 v2 v3 : Value} (hx : (x, instObj 543 d) ∈ news) (hoff : ∀ q ∈ news, q.1 ≠ d) :
    Calls (G0 w p loose mean mg mb) 8 (.ref 571) [.ref x, .int 2 ts, .ref y] ((d, dictOf (fdict w t0 t1 t2 t3 t4 v0 v1 v2 v3) 5) :: news) fun r n => r = .none ∧ ∀ q ∈ (d, dictOf (fdict w t0 t1 t2 t3 t4 v0 v1 (.ref y) v3) 5) :: news, q ∈ n := by
  intro A env L h₀ m s Q E C hdp hQ
  obtain ⟨⟨A₀, base, outer, B, hA⟩, F, X, N, T, hf, hk, hh⟩ := C
  obtain ⟨ah, dp, fr, gd, un⟩ := A
  obtain ⟨⟨kind, nms, ig, ic, mr⟩, locals, globals, cells, qual, func, code, frame, builtins⟩ := env
  dsimp only at hA hf hk hh
  subst hA hf hk hh
  dsimp only [G0] at hdp X T ⊢
  k_steps
  refine hQ _ _ _ _ (by assumption) (by assumption) ⟨rfl, fun q hq => ?_⟩
  repeat (first | exact hq | refine List.Mem.tail _ ?_)

set_option maxHeartbeats 4000000 in
theorem register_3 {w : World} {p : Program} {loose : List Str} {mean : ExcName → Option Value} {mg mb : Str → Option Value} {news : Led} {x d y : Addr} {ts t0 t1 t2 t3 t4 : Tok} {v0 v1 v2 v3 : Value} (hx : (x, instObj 543 d) ∈ news) (hoff : ∀ q ∈ news, q.1 ≠ d) :
    Calls (G0 w p loose mean mg mb) 8 (.ref 571) [.ref x, .int 3 ts, .ref y] ((d, dictOf (fdict w t0 t1 t2 t3 t4 v0 v1 v2 v3) 5) :: news) fun r n => r = .none ∧ ∀ q ∈ (d, dictOf (fdict w t0 t1 t2 t3 t4 v0 v1 v2 (.ref y)) 5) :: news, q ∈ n := by
  intro A env L h₀ m s Q E C hdp hQ
  obtain ⟨⟨A₀, base, outer, B, hA⟩, F, X, N, T, hf, hk, hh⟩ := C
  obtain ⟨ah, dp, fr, gd, un⟩ := A
  obtain ⟨⟨kind, nms, ig, ic, mr⟩, locals, globals, cells, qual, func, code, frame, builtins⟩ := env
  dsimp only at hA hf hk hh
  subst hA hf hk hh
  dsimp only [G0] at hdp X T ⊢
  k_steps
  refine hQ _ _ _ _ (by assumption) (by assumption) ⟨rfl, fun q hq => ?_⟩
  repeat (first | exact hq | refine List.Mem.tail _ ?_)

set_option maxHeartbeats 4000000 in
theorem registered {w : World} {p : Program} {loose : List Str} {mean : ExcName → Option Value} {mg mb : Str → Option Value} {news : Led} {x d : Addr} {t0 t1 t2 t3 t4 : Tok} {v0 v1 v2 v3 : Addr} (hx : (x, instObj 543 d) ∈ news) (hdd : (d, dictOf (fdict w t0 t1 t2 t3 t4 (.ref v0) (.ref v1) (.ref v2) (.ref v3)) 5) ∈ news) :
    Calls (G0 w p loose mean mg mb) 8 (.ref 578) [.ref x] news fun r n => ∃ l : Nat, r = .ref l ∧ n = (l, W.listOf #[.ref v0, .ref v1, .ref v2, .ref v3] 0) :: news ∧ ∀ q ∈ news, q.1 < l := by
  intro A env L h₀ m s Q E C hdp hQ
  obtain ⟨⟨A₀, base, outer, B, hA⟩, F, X, N, T, hf, hk, hh⟩ := C
  obtain ⟨ah, dp, fr, gd, un⟩ := A
  obtain ⟨⟨kind, nms, ig, ic, mr⟩, locals, globals, cells, qual, func, code, frame, builtins⟩ := env
  dsimp only at hA hf hk hh
  subst hA hf hk hh
  dsimp only [G0] at hdp X T ⊢
  k_steps
  refine hQ _ _ _ _ (by assumption) (by assumption) ⟨_, rfl, rfl, ?_⟩
  assumption
end Mine

namespace Mine
open PySem.Calls PySem.Spec
local macro_rules | `(tactic| k_room) => `(tactic| ((try simp only [depth_under_make, depth_under_kw, depth_in1, depth_deeper, depth_caller]); (try dsimp only); omega))
local macro_rules | `(tactic| k_mem) => `(tactic| first | with_reducible assumption | (with_reducible k_memK) | ((repeat with_reducible refine List.Mem.tail _ ?_); assumption))
local macro_rules | `(tactic| k_all) => `(tactic| assumption)
/-- R with the target t for filter i, sort s -/
def setR (R : Routes) (s i t : Nat) : Routes := fun s' i' => if s' = s ∧ i' = i then some t else R s' i'
theorem setR_valid {R : Routes} {s i t : Nat} (V : Valid R) (h1 : i < t) (h2 : t < 5) : Valid (setR R s i t) := fun s' i' t' h => by
  unfold setR at h
  by_cases e : s' = s ∧ i' = i
  · rw [if_pos e] at h
    obtain rfl := Option.some.inj h
    obtain ⟨_, rfl⟩ := e
    exact ⟨h1, h2⟩
  · rw [if_neg e] at h
    exact V _ _ _ h

section
variable {Γ : Gl} {σ : Sta} {R Rq : Routes} {n : Led}
/-- an item of a routes list is set -/
theorem Shows.setQ {s i t k k' : Nat} {o : Obj} {v0 v1 v2 : Value} (S : Shows Γ σ R Rq n) (hs : s < 4) (ho : (σ.q s, o) ∈ n) (hl : o.cls = .type "list") (h3 : ∃ v0 v1 v2 k, o = W.listOf #[v0, v1, v2] k)
    (h0 : RouteV (setR Rq s i t s 0) v0) (h1 : RouteV (setR Rq s i t s 1) v1) (h2 : RouteV (setR Rq s i t s 2) v2) :
    Shows Γ σ R (setR Rq s i t) ((σ.q s, W.listOf #[v0, v1, v2] k') :: del (σ.q s) n) := by
  obtain ⟨u0, u1, u2, ku, rfl⟩ := h3
  have hk := keep_set (o' := W.listOf #[v0, v1, v2] k') S.fn ho
  refine ⟨fun j hj => hk _ (S.filt j hj) (by intro e; cases e), fun j hj => ?_, fun j a b => (S.lis j a b).keep hk rfl (by intro e; cases e) (fun es k v he e => list_ne_dict e), fun s' a j hj => hk _ (S.dobj s' a j hj) (by intro e; cases e), fun j hj => ?_,
    fun s' a b j hj => hk _ (S.ddic s' a b j hj) (fun e => list_ne_dict e.symm), fun s' hs' => ?_, xoff_set S ho, fn_set S.fn, S.dinj, S.qinj⟩
  · obtain ⟨t0, t1, t2, t3, t4, a⟩ := S.fdic j hj
    exact ⟨t0, t1, t2, t3, t4, hk _ a (fun e => list_ne_dict e.symm)⟩
  · obtain ⟨tt, vv, a⟩ := S.cont j hj
    exact ⟨tt, vv, hk _ a (fun e => list_ne_dict e.symm)⟩
  · by_cases e : s' = s
    · subst e
      exact ⟨v0, v1, v2, k', .head _, h0, h1, h2⟩
    · obtain ⟨w0, w1, w2, kw, a, b⟩ := S.rts s' hs'
      refine ⟨w0, w1, w2, kw, .tail _ (mem_del a fun h => e (S.qinj _ hs' _ hs h)), ?_⟩
      have z : ∀ j, setR Rq s i t s' j = Rq s' j := fun j => if_neg fun h => e h.1
      rw [z, z, z]
      exact b
/-- a filter's handler is set -/
theorem Shows.setD {s i t : Nat} {o o' : Obj} (S : Shows Γ σ R Rq n) (hi : i < 3) {t0 t1 t2 t3 t4 : Tok}
    (ho : (σ.D i, dictOf (fdict Γ.w t0 t1 t2 t3 t4 (.ref (hnd σ R 0 i)) (.ref (hnd σ R 1 i)) (.ref (hnd σ R 2 i)) (.ref (hnd σ R 3 i))) 5) ∈ n) :
    Shows Γ σ (setR R s i t) Rq ((σ.D i, dictOf (fdict Γ.w t0 t1 t2 t3 t4 (.ref (hnd σ (setR R s i t) 0 i)) (.ref (hnd σ (setR R s i t) 1 i)) (.ref (hnd σ (setR R s i t) 2 i)) (.ref (hnd σ (setR R s i t) 3 i))) 5) :: del (σ.D i) n) := by
  have hk := keep_set (o' := dictOf (fdict Γ.w t0 t1 t2 t3 t4 (.ref (hnd σ (setR R s i t) 0 i)) (.ref (hnd σ (setR R s i t) 1 i)) (.ref (hnd σ (setR R s i t) 2 i)) (.ref (hnd σ (setR R s i t) 3 i))) 5) S.fn ho
  refine ⟨fun j hj => hk _ (S.filt j hj) (by intro e; cases e), fun j hj => ?_, fun j a b => (S.lis j a b).keep hk rfl (by intro e; cases e) (fun es k v he e => ?_), fun s' a j hj => hk _ (S.dobj s' a j hj) (by intro e; cases e), fun j hj => ?_,
    fun s' a b j hj => hk _ (S.ddic s' a b j hj) (dict_ne (by show 0 ≠ 5; decide)), fun s' hs' => ?_, xoff_set S ho, fn_set S.fn, S.dinj, S.qinj⟩
  · by_cases e : j = i
    · subst e
      exact ⟨t0, t1, t2, t3, t4, .head _⟩
    · obtain ⟨u0, u1, u2, u3, u4, a⟩ := S.fdic j hj
      refine ⟨u0, u1, u2, u3, u4, .tail _ (mem_del ?_ fun h => e (S.dinj _ hj _ hi h))⟩
      have z : ∀ s', hnd σ (setR R s i t) s' j = hnd σ R s' j := fun s' => by
        unfold hnd
        rw [show setR R s i t s' j = R s' j from if_neg fun h => e h.2]
      rw [z, z, z, z]
      exact a
  · rw [← dict_inj e] at he
    have he := (show getL (evName 1) (fdict Γ.w t0 t1 t2 t3 t4 _ _ _ _) = some none from rfl).symm.trans he
    cases he
  · obtain ⟨tt, vv, a⟩ := S.cont j hj
    exact ⟨tt, vv, hk _ a (dict_ne (by show 1 ≠ 5; decide))⟩
  · obtain ⟨v0, v1, v2, k, a, b⟩ := S.rts s' hs'
    exact ⟨v0, v1, v2, k, hk _ a list_ne_dict, b⟩
end
end Mine

namespace Mine
open PySem.Calls PySem.Spec
local macro_rules | `(tactic| k_room) => `(tactic| ((try simp only [depth_under_make, depth_under_kw, depth_in1, depth_deeper, depth_caller]); (try dsimp only); omega))
local macro_rules | `(tactic| k_mem) => `(tactic| first | with_reducible assumption | (with_reducible k_memK) | ((repeat with_reducible refine List.Mem.tail _ ?_); assumption))
local macro_rules | `(tactic| k_all) => `(tactic| assumption)
def defBody : Stmt → List Stmt
  | .FunctionDef _ _ b _ _ _ _ _ _ _ => b
  | _ => []
def defScope : Stmt → Scope
  | .FunctionDef _ _ _ _ _ _ s _ _ _ => s
  | _ => { kind := .function, names := [], isGenerator := false, isCoroutine := false }
def forBody : Stmt → List Stmt
  | .For _ _ b _ _ => b
  | _ => []
def lawStmt : Stmt := PySem.Challenge.pw_kq0045_01.main.body.getLast?.getD (.Pass ⟨0, 0, 0, 0⟩)
def lawBody : List Stmt := defBody lawStmt
def lawScope : Scope := defScope lawStmt
def turnBody : List Stmt := forBody (lawBody.getD 7 (.Pass ⟨0, 0, 0, 0⟩))
theorem fill14 (w : World) : PySem.Challenge.rw_kq0045_01 = PySem.Challenge.rw_kq0045_01 ∧ hd.heap_39 w.params = hd.heap_39 w.params := by
  k_fill
  exact ⟨rfl, rfl⟩

/-- what stays true of the law's ledger from turn to turn -/
structure Lw (Γ : Gl) (σ : Sta) (R : Routes) (nd st fs rt : Nat) (cnt : Nat) (n : Led) : Prop where
  shows : Shows Γ σ R R n
  vr : Valid R
  nodes : ∃ k, (nd, W.listOf #[.ref (σ.X 0), .ref (σ.X 1), .ref (σ.X 2), .ref (σ.X 3), .ref (σ.X 4)] k) ∈ n
  steps : ∃ (items : List Value) (k : Nat), (st, W.listOf items.toArray k) ∈ n ∧ items.length = cnt ∧ ∀ j < cnt, ∃ t way num : Nat, ∃ ta tb : Tok, items[j]? = some (.ref t) ∧ (t, tupObj [.int way ta, .int num tb]) ∈ n
  routes : ∃ k, (rt, W.listOf #[.ref (σ.q 0), .ref (σ.q 1), .ref (σ.q 2), .ref (σ.q 3)] k) ∈ n
  first : ∃ (g : Nat → Nat) (k : Nat), (fs, W.listOf #[.ref (g 0), .ref (g 1), .ref (g 2)] k) ∈ n ∧ ∀ i < 3, ∃ k, (g i, W.listOf #[.ref (σ.H 0 i), .ref (σ.H 1 i), .ref (σ.H 2 i), .ref (σ.H 3 i)] k) ∈ n
  calls : CallsTab n
  tab : ∃ ps, (554, tabObj ps) ∈ n
/-- the names of the law that the loops read -/
structure Nm (σ : Sta) (nd st fs rt : Nat) (m : Str → Option Value) : Prop where
  heard : m "heard" = some (.ref σ.heard)
  nodes : m "nodes" = some (.ref nd)
  steps : m "steps" = some (.ref st)
  first : m "first" = some (.ref fs)
  routes : m "routes" = some (.ref rt)
theorem Nm.nest {σ : Sta} {nd st fs rt : Nat} {m : Str → Option Value} (h : Nm σ nd st fs rt m) :
    m = fun y : Str => if y = ("heard" : Str) then some (.ref σ.heard) else if y = ("nodes" : Str) then some (.ref nd) else if y = ("steps" : Str) then some (.ref st) else if y = ("first" : Str) then some (.ref fs) else if y = ("routes" : Str) then some (.ref rt) else m y := by
  funext y
  by_cases h1 : y = ("heard" : Str)
  · rw [if_pos h1, h1]; exact h.heard
  · rw [if_neg h1]
    by_cases h2 : y = ("nodes" : Str)
    · rw [if_pos h2, h2]; exact h.nodes
    · rw [if_neg h2]
      by_cases h3 : y = ("steps" : Str)
      · rw [if_pos h3, h3]; exact h.steps
      · rw [if_neg h3]
        by_cases h4 : y = ("first" : Str)
        · rw [if_pos h4, h4]; exact h.first
        · rw [if_neg h4]
          by_cases h5 : y = ("routes" : Str)
          · rw [if_pos h5, h5]; exact h.routes
          · rw [if_neg h5]


theorem Nm.set {σ : Sta} {nd st fs rt : Nat} {m : Str → Option Value} (h : Nm σ nd st fs rt m) {x : Str} {v : Value} (h1 : ("heard" : Str) ≠ x) (h2 : ("nodes" : Str) ≠ x) (h3 : ("steps" : Str) ≠ x) (h4 : ("first" : Str) ≠ x) (h5 : ("routes" : Str) ≠ x) :
    Nm σ nd st fs rt (fun y => if y = x then some v else m y) :=
  ⟨(if_neg h1).trans h.heard, (if_neg h2).trans h.nodes, (if_neg h3).trans h.steps, (if_neg h4).trans h.first, (if_neg h5).trans h.routes⟩
theorem nest1 {m : Str → Option Value} {x : Str} {v : Value} (h : m x = some v) : m = fun y : Str => if y = x then some v else m y := by
  funext y
  by_cases e : y = x
  · rw [if_pos e, e, h]
  · rw [if_neg e]

theorem fmod_nat (n k : Nat) : (n : Int).fmod (k : Int) = ((n % k : Nat) : Int) := by
  rw [Int.fmod_eq_emod_of_nonneg _ (Int.natCast_nonneg k), Int.natCast_emod]
theorem fdiv_nat (n k : Nat) : (n : Int).fdiv (k : Int) = ((n / k : Nat) : Int) := by
  rw [Int.fdiv_eq_ediv_of_nonneg _ (Int.natCast_nonneg k), Int.natCast_ediv]
/-- names of a turn -/
structure Tm (i way num one : Nat) (m : Str → Option Value) : Prop where
  k : ∃ t, m "k" = some (.int (i : Nat) t)
  way : ∃ t, m "way" = some (.int (way : Nat) t)
  n : ∃ t, m "n" = some (.int (num : Nat) t)
  one : ∃ t, m "one" = some (.int (one : Nat) t)

theorem register_any {w : World} {p : Program} {loose : List Str} {mean : ExcName → Option Value} {mg mb : Str → Option Value} {news : Led} {x d y : Addr} {s : Nat} {ts t0 t1 t2 t3 t4 : Tok} {v v' : Nat → Value} (hs : s < 4) (hv : ∀ j < 4, v' j = if j = s then .ref y else v j)
    (hx : (x, instObj 543 d) ∈ news) (hoff : ∀ q ∈ news, q.1 ≠ d) :
    Calls (G0 w p loose mean mg mb) 8 (.ref 571) [.ref x, .int (s : Nat) ts, .ref y] ((d, dictOf (fdict w t0 t1 t2 t3 t4 (v 0) (v 1) (v 2) (v 3)) 5) :: news) fun r n => r = .none ∧ ∀ q ∈ (d, dictOf (fdict w t0 t1 t2 t3 t4 (v' 0) (v' 1) (v' 2) (v' 3)) 5) :: news, q ∈ n := by
  have e0 := hv 0 (by decide)
  have e1 := hv 1 (by decide)
  have e2 := hv 2 (by decide)
  have e3 := hv 3 (by decide)
  rw [e0, e1, e2, e3]
  match s, hs with
  | 0, _ => exact register_0 hx hoff
  | 1, _ => exact register_1 hx hoff
  | 2, _ => exact register_2 hx hoff
  | 3, _ => exact register_3 hx hoff

section
variable {prog : Program} {w : World} {A : Around} {E : Value → Shared → Prop} {s : Shared} {h₀ : Heap} {L D : Addr} {m : Str → Option Value} {news : Led} {vs : List Value} {n : Nat} {k : Int} {t : Tok}
theorem setAt_front {v : Value} {Q : Unit → Shared → Prop} (F : Fr h₀ L s.heap m) (N : News h₀ L s.heap ((D, W.listOf vs.toArray n) :: news)) (off : ∀ q ∈ news, q.1 ≠ D) (h0 : 0 ≤ k) (h1 : k < vs.length) (hfit : k < 2 ^ 63)
    (h : ∀ h', Fr h₀ L h' m → News h₀ L h' ((D, W.listOf (vs.set k.toNat v).toArray n) :: news) → Q () { s with heap := h' }) :
    wpAny (model prog w) A (setItem (.ref D) (.int k t) v) Q E s := by
  have z := N (D, W.listOf vs.toArray n) (.head _)
  refine ki_setAt z.1 h0 hfit (by rw [List.size_toArray]; exact h1) (h _ (F.change (Heap.SameBut.update ..) z.2.1 z.2.2) (ki_turn (pre := []) _ N (fun _ h => absurd h List.not_mem_nil) off ?_ ?_))
  · show vs.toArray.setIfInBounds k.toNat v = (vs.set k.toNat v).toArray
    apply Array.toList_inj.mp
    simp
  · simp
end

section
variable {prog : Program} {w : World} {A₀ : Around} {E : Value → Shared → Prop} {s' : Shared} {h₀ h : Heap} {outer : List Env} {L a e t : Addr} {m : Str → Option Value} {name : Str} {scope : Scope} {cd : Value} {cl : List (Str × Addr)}
  {vs : List Value} {n : Str} {b₀ : Stmt} {suite : List Stmt} {pos np : Pos} {rest : List ExceptHandler} {Q : Flow → Shared → Prop} {news : Led}
  {p : Program} {loose : List Str} {mg mb : Str → Option Value}
/-- a ValueError is caught in a function whose variables are closed over -/
theorem caughtC (K : Below A₀ h₀ outer h₀) (F : Fr h₀ L h m) (hsm : h.UpToSlots s'.heap) (R : RaisedK h₀ (envX name scope L a cd cl :: outer) e (.type "ValueError") t vs news s'.heap) (T : TopRead p loose mg mb h₀)
    (k : ∀ h' tk E', Fr h₀ L h' (fun y => if y = n then some (.ref e) else m y) → News h₀ L h' news →
      wpAny (model prog w) ((A₀.deeper (envX name scope L a cd cl)).mark (some (.ref e))) (execs (b₀ :: suite) (envX name scope L a cd cl))
        (fun f s₄ => wpAny (model prog w) (A₀.deeper (envX name scope L a cd cl)) (do bindName (envX name scope L a cd cl) n .none; unbindBehindTheSuite (envX name scope L a cd cl) n pos) (fun _ s₅ => Q f s₅) E s₄) E' { s' with heap := h', toks := tk })
    (hmg : mg ("ValueError" : Str) = none)
    (hk : scope.kind = .function := by rfl) (hlo : (envX name scope L a cd cl).kindOf n = some .local := by rfl) (hx : (envX name scope L a cd cl).kindOf "ValueError" = some .globalImplicit := by rfl) :
    wpAny (model prog w) (A₀.deeper (envX name scope L a cd cl)) (noteFrame (.ref e) (envX name scope L a cd cl))
      (fun _ s₂ => wpAny (model prog w) (A₀.deeper (envX name scope L a cd cl)) (setFlight (.ref e) none) (fun _ s₃ =>
        wpAny (model prog w) (A₀.deeper (envX name scope L a cd cl)) (handleBy (.ref e) (envX name scope L a cd cl) (.ExceptHandler (some (.Name "ValueError" np)) (some n) (b₀ :: suite) pos :: rest)) Q E s₃) E s₂) E s' := by
  obtain ⟨⟨B, hB, hl, hfl, hnew⟩, htup⟩ := R
  have hL : B.get? L = none := by
    obtain ⟨_, ⟨L', _, hf, hn', _⟩, _⟩ := hfl.2.2.1
    obtain rfl : L = L' := Option.some.inj hf
    exact hn'
  refine wpAny_looks_onW (Around.frames_deeper K.stack) rfl hfl fun g₁ held₁ sm₁ => ?_
  refine wpAny_landsW held₁ fun g₂ fl₂ sm₂ => ?_
  have fl₂' := flyingW_base hB fl₂
  have F₂ := F.of_stays fl₂'.1 (hsm.trans (sm₁.trans sm₂))
  obtain ⟨ob, hob, hobc⟩ := fl₂'.there
  refine wpAny_handleBy_builtin_as (X := "ValueError") (T := "ValueError") (b := true) PySem.F.isExc_ValueError PySem.F.notTuple_ValueError (by rw [isSubtype_type]; kernel_rfl)
    (Name_function_global hk hx (loadGlobal_builtin (env := envX name scope L a cd cl) (T.g.keeps F₂.keep) hmg (T.b.keeps F₂.keep) ((T.builtins _ (by decide +kernel)).trans PyProof.Rows.Boot.«ValueError») ⟨rfl, ⟨ob, hob, hobc⟩, ?_⟩) (by decide))
  refine lands_againW fl₂ fun g₃ fl₃ sm₃ => ?_
  have fl₃' := flyingW_base hB fl₃
  have F₃ := F₂.of_stays fl₃'.1 sm₃
  have N₃ : News h₀ L g₃ news := fun q hq => ⟨fl₃.1 _ _ (hl q hq).1, (fun z => by have := (hl q hq).1; rw [z, hL] at this; cases this), (hl q hq).2⟩
  refine wpAny_storeName_local hlo F₃.ns (fun g₄ hn hs => ?_) (by show (scope.kind == .class || (scope.kind == .module && L != mainGlobals)) = false; rw [hk]; rfl)
  exact k g₄ _ _ (F₃.set hn hs) (N₃.set hs)
end
end Mine

namespace Mine
open PySem.Calls PySem.Spec

/-- the iterator over a range -/
def rangeIt (x left step : Int) : Obj := { cls := .type "range_iterator", dict := none, data := .fields #[rawInt x, rawInt left, rawInt step], slots := #[] }
theorem it_ne {o : Obj} {a : String} {x l c : Int} (h : o.cls = .type a) (ha : a ≠ "range_iterator") : o ≠ rangeIt x l c := fun e => by
  rw [e] at h
  injection h with h
  exact ha h.symm
theorem it_ne0 {o : Obj} {x l c : Int} (h : o.cls = .none) : o ≠ rangeIt x l c := fun e => by
  rw [e] at h
  cases h
theorem it_ne' {o : Obj} {b : Nat} {x l c : Int} (h : o.cls = .ref b) : o ≠ rangeIt x l c := fun e => by
  rw [e] at h
  cases h
section
variable {Γ : Gl} {σ : Sta} {R Rq : Routes} {n n' : Led}
theorem Shows.move {o : Obj} (S : Shows Γ σ R Rq n) (hk : ∀ q ∈ n, q.2 ≠ o → q ∈ n') (ho : ∃ x l c, o = rangeIt x l c) (hs : ∀ q ∈ n', q ∈ n ∨ q.1 ≠ σ.heard) (hf : ∀ a o o', (a, o) ∈ n' → (a, o') ∈ n' → o = o') : Shows Γ σ R Rq n' := by
  obtain ⟨x, l, c, rfl⟩ := ho
  refine ⟨fun j hj => hk _ (S.filt j hj) (it_ne' rfl), fun j hj => ?_, fun j h1 h2 => (S.lis j h1 h2).keep hk rfl (Ne.symm (it_ne' rfl)) (fun es k v he e => it_ne (a := "dict") rfl (by decide) e.symm), fun s hs j hj => hk _ (S.dobj s hs j hj) (it_ne' rfl), fun j hj => ?_,
    fun s h1 h2 j hj => hk _ (S.ddic s h1 h2 j hj) (it_ne (a := "dict") rfl (by decide)), fun s hs => ?_, fun q hq => (hs q hq).elim (S.xoff q) id, hf, S.dinj, S.qinj⟩
  · obtain ⟨t0, t1, t2, t3, t4, a⟩ := S.fdic j hj
    exact ⟨t0, t1, t2, t3, t4, hk _ a (it_ne (a := "dict") rfl (by decide))⟩
  · obtain ⟨tt, vv, a⟩ := S.cont j hj
    exact ⟨tt, vv, hk _ a (it_ne (a := "dict") rfl (by decide))⟩
  · obtain ⟨v0, v1, v2, k, a, b⟩ := S.rts s hs
    exact ⟨v0, v1, v2, k, hk _ a (it_ne (a := "list") rfl (by decide)), b⟩
theorem Lw.move {nd st fs rt cnt : Nat} {o : Obj} (Y : Lw Γ σ R nd st fs rt cnt n) (hk : ∀ q ∈ n, q.2 ≠ o → q ∈ n') (ho : ∃ x l c, o = rangeIt x l c) (hs : ∀ q ∈ n', q ∈ n ∨ q.1 ≠ σ.heard) (hf : ∀ a o o', (a, o) ∈ n' → (a, o') ∈ n' → o = o') : Lw Γ σ R nd st fs rt cnt n' := by
  have Sh := Y.shows.move hk ho hs hf
  obtain ⟨x, l, c, rfl⟩ := ho
  refine ⟨Sh, Y.vr, ?_, ?_, ?_, ?_, ?_, let ⟨ps, h⟩ := Y.tab; ⟨ps, hk _ h (it_ne0 (o := tabObj ps) rfl)⟩⟩
  · obtain ⟨k, a⟩ := Y.nodes
    exact ⟨k, hk _ a (it_ne (a := "list") rfl (by decide))⟩
  · obtain ⟨items, k, a, b, cc⟩ := Y.steps
    refine ⟨items, k, hk _ a (it_ne (a := "list") rfl (by decide)), b, fun j hj => ?_⟩
    obtain ⟨t, way, num, ta, tb, d, e⟩ := cc j hj
    exact ⟨t, way, num, ta, tb, d, hk _ e (it_ne (a := "tuple") rfl (by decide))⟩
  · obtain ⟨k, a⟩ := Y.routes
    exact ⟨k, hk _ a (it_ne (a := "list") rfl (by decide))⟩
  · obtain ⟨g, k, a, b⟩ := Y.first
    refine ⟨g, k, hk _ a (it_ne (a := "list") rfl (by decide)), fun i hi => ?_⟩
    obtain ⟨k, d⟩ := b i hi
    exact ⟨k, hk _ d (it_ne (a := "list") rfl (by decide))⟩
  · exact Y.calls.mono' (fun ps h => hk _ h (it_ne0 (o := tabObj ps) rfl)) (fun q hq h _ => hk q hq (fun e => by rw [e] at h; cases h))
end
end Mine

namespace Mine
open PySem.Calls PySem.Spec
local macro_rules | `(tactic| k_room) => `(tactic| ((try simp only [depth_under_make, depth_under_kw, depth_in1, depth_deeper, depth_caller]); (try dsimp only); omega))
local macro_rules | `(tactic| k_mem) => `(tactic| first | with_reducible assumption | (with_reducible k_memK) | ((repeat with_reducible refine List.Mem.tail _ ?_); assumption))
local macro_rules | `(tactic| k_all) => `(tactic| assumption)
theorem fillT1 (w : World) : PySem.Challenge.rw_kq0045_01 = PySem.Challenge.rw_kq0045_01 ∧ hd.heap_39 w.params = hd.heap_39 w.params := by
  k_fill
  exact ⟨rfl, rfl⟩

set_option maxHeartbeats 1000000 in
theorem turn_a {w : World} {p : Program} {loose : List Str} {mean : ExcName → Option Value} {mg mb : Str → Option Value} {A₀ : Around} {outer : List Env} {h₀ : Heap} {L fa : Addr} {cd : Value} {s : Shared} {m : Str → Option Value}
    {Q : Flow → Shared → Prop} {E : Value → Shared → Prop} {σ : Sta} {R : Routes} {nd st fs rt cnt i kk : Nat} {ti : Tok} {n : Led}
    (B : Below A₀ h₀ outer h₀) (hh : A₀.handled = none) (hdp : A₀.depth + 50 < recursionLimit) (X : (hd.heap_39 w.params).In h₀) (T : Top p loose mean mg mb h₀)
    (F : Fr h₀ L s.heap (fun y => if y = ("k" : Str) then some (.int i ti) else m y)) (N : News h₀ L s.heap ((σ.heard, W.listOf #[] kk) :: n)) (Y : Lw (G0 w p loose mean mg mb) σ R nd st fs rt cnt n) (M : Nm σ nd st fs rt m) (hi : i < cnt) (hcnt : cnt < 2 ^ 62)
    (hQ : ∀ h' tk m' way num, Fr h₀ L h' m' → News h₀ L h' ((σ.heard, W.listOf #[] kk) :: n) → Nm σ nd st fs rt m' → Tm i way num (num % 3) m' →
       wpAny (model PySem.Challenge.rw_kq0045_01.row.prog w) (A₀.deeper (envOfC "law" lawScope L fa cd)) (execs (turnBody.drop 2) (envOfC "law" lawScope L fa cd)) Q E (St s h' tk)) :
    wpAny (model PySem.Challenge.rw_kq0045_01.row.prog w) (A₀.deeper (envOfC "law" lawScope L fa cd)) (execs turnBody (envOfC "law" lawScope L fa cd)) Q E s := by
  obtain ⟨ah, dp, fr, gd, un⟩ := A₀
  dsimp only at hh hdp
  subst hh
  generalize hg : turnBody.drop 2 = g at hQ
  conv at hg => lhs; whnf
  unfold turnBody lawBody lawStmt PySem.Challenge.pw_kq0045_01
  dsimp only [List.getLast?, List.getLast, Option.getD, defBody, defScope, forBody, List.getD, List.get?Internal, getElem?_def]
  rw [hg]
  clear hg
  rw [M.nest] at F
  obtain ⟨knd, hnd⟩ := Y.nodes
  obtain ⟨items, kst, hst, hil, hit⟩ := Y.steps
  obtain ⟨krt, hrt⟩ := Y.routes
  k_steps
  obtain ⟨tt, way, num, ta, tb, hitem, htt⟩ := hit i hi
  k_dflt (refine item_litK (News.isList N (.tail _ hst)) (Int.natCast_nonneg _) (by show ((i : Nat) : Int) < 2 ^ 63; omega) (by rw [Int.toNat_natCast]; exact hitem) ?_)
  k_steps
  rename Fr _ _ _ _ => F
  rw [show (num : Int).fmod 3 = ((num % 3 : Nat) : Int) from fmod_nat num 3] at F
  refine hQ _ _ _ way num F (by assumption) ⟨?_, ?_, ?_, ?_, ?_⟩ ⟨?_, ?_, ?_, ?_⟩ <;> first | with_unfolding_all rfl | with_unfolding_all exact ⟨_, rfl⟩
end Mine

namespace Mine
open PySem.Calls PySem.Spec
local macro_rules | `(tactic| k_room) => `(tactic| ((try simp only [depth_under_make, depth_under_kw, depth_in1, depth_deeper, depth_caller]); (try dsimp only); omega))
local macro_rules | `(tactic| k_mem) => `(tactic| first | with_reducible assumption | (with_reducible k_memK) | ((repeat with_reducible refine List.Mem.tail _ ?_); assumption))
local macro_rules | `(tactic| k_all) => `(tactic| assumption)
local macro_rules | `(tactic| walk_at "binaryOp Mod int int") => `(tactic| (refine mod_int' (by omega) ?_))
local macro_rules | `(tactic| walk_at "subscriptTail") => `(tactic| (refine stop_ ?_))
local macro_rules | `(tactic| walk_at "getItem ref int") => `(tactic| (refine stop_ ?_))
local macro_rules | `(tactic| walk_at "setItem ref int") => `(tactic| (refine stop_ ?_))
local macro_rules | `(tactic| walk_at "call ref") => `(tactic| (refine stop_ ?_))
theorem fillT3 (w : World) : PySem.Challenge.rw_kq0045_01 = PySem.Challenge.rw_kq0045_01 ∧ hd.heap_39 w.params = hd.heap_39 w.params := by
  k_fill
  exact ⟨rfl, rfl⟩

theorem get4 (f : Nat → Value) {j : Nat} (h : j < 4) : ([f 0, f 1, f 2, f 3] : List Value)[j]? = some (f j) := by
  match j, h with
  | 0, _ => rfl
  | 1, _ => rfl
  | 2, _ => rfl
  | 3, _ => rfl
theorem get5 (f : Nat → Value) {j : Nat} (h : j < 5) : ([f 0, f 1, f 2, f 3, f 4] : List Value)[j]? = some (f j) := by
  match j, h with
  | 0, _ => rfl
  | 1, _ => rfl
  | 2, _ => rfl
  | 3, _ => rfl
  | 4, _ => rfl
theorem set3 (v v0 v1 v2 : Value) {j : Nat} (h : j < 3) : ([v0, v1, v2] : List Value).set j v = [if j = 0 then v else v0, if j = 1 then v else v1, if j = 2 then v else v2] := by
  match j, h with
  | 0, _ => rfl
  | 1, _ => rfl
  | 2, _ => rfl
theorem get3 {v0 v1 v2 : Value} (R : Nat → Option Nat) (h0 : RouteV (R 0) v0) (h1 : RouteV (R 1) v1) (h2 : RouteV (R 2) v2) {j : Nat} (h : j < 3) : ∃ v, ([v0, v1, v2] : List Value)[j]? = some v ∧ RouteV (R j) v := by
  match j, h with
  | 0, _ => exact ⟨_, rfl, h0⟩
  | 1, _ => exact ⟨_, rfl, h1⟩
  | 2, _ => exact ⟨_, rfl, h2⟩
theorem routeV_set {R : Routes} {s i t j : Nat} {v vj : Value} (hv : ∃ tk, v = .int (t : Nat) tk) (h : RouteV (R s j) vj) : RouteV (setR R s i t s j) (if i = j then v else vj) := by
  unfold setR
  by_cases e : i = j
  · rw [if_pos e, if_pos ⟨rfl, e.symm⟩]; exact hv
  · rw [if_neg e, if_neg fun h => e h.2.symm]; exact h
theorem off_q {Γ : Gl} {σ : Sta} {R Rq : Routes} {n : Led} (S : Shows Γ σ R Rq n) {s a k : Nat} {l : List Value} {x : Addr} (hs : s < 4) (h : (a, W.listOf l.toArray k) ∈ n) (hl : l[0]? = some (.ref x)) : a ≠ σ.q s := fun e => by
  obtain ⟨v0, v1, v2, kq, hq, r0, _⟩ := S.rts s hs
  rw [← e] at hq
  have := Data.seq.inj (congrArg Obj.data (S.fn _ _ _ h hq))
  have e2 := congrArg Array.toList this.1
  rw [List.toList_toArray] at e2
  rw [e2] at hl
  have hl := Option.some.inj hl
  subst hl
  revert r0
  unfold RouteV
  cases Rq s 0 with
  | none => intro h; cases h
  | some t => rintro ⟨tk, h⟩; cases h
theorem list_size_ne {a b : Array Value} {k n : Nat} (h : a.size ≠ b.size) : W.listOf a k ≠ W.listOf b n := fun e => by
  have := Data.seq.inj (congrArg Obj.data e)
  exact h (by rw [this.1])
/-- an item of a routes list is set: what the ledger shows then -/
theorem setRoute {prog : Program} {w : World} {A : Around} {E : Value → Shared → Prop} {s : Shared} {h₀ : Heap} {L : Addr} {m : Str → Option Value} {Q : Unit → Shared → Prop} {Γ : Gl} {σ : Sta} {R : Routes} {n : Led} {v0 v1 v2 : Value} {kq kk sx one t : Nat} {z : Int} {to tz : Tok}
    (Sh : Shows Γ σ R R n) (F : Fr h₀ L s.heap m) (N : News h₀ L s.heap ((σ.q sx, W.listOf #[v0, v1, v2] kq) :: (σ.heard, W.listOf #[] kk) :: del (σ.q sx) n)) (hs : sx < 4) (ho : one < 3) (hz : z = (t : Nat)) (hq : (σ.q sx, W.listOf #[v0, v1, v2] kq) ∈ n)
    (r0 : RouteV (R sx 0) v0) (r1 : RouteV (R sx 1) v1) (r2 : RouteV (R sx 2) v2)
    (h : ∀ h' tk w0 w1 w2 n1 tvt, Fr h₀ L h' m → News h₀ L h' ((σ.heard, W.listOf #[] kk) :: n1) → Shows Γ σ R (setR R sx one t) n1 → (σ.q sx, W.listOf #[w0, w1, w2] kq) ∈ n1 → ([w0, w1, w2] : List Value)[one]? = some (.int (t : Nat) tvt) → (∀ q ∈ n, q.1 ≠ σ.q sx → q ∈ n1) → Q () (St s h' tk)) :
    wpAny (model prog w) A (setItem (.ref (σ.q sx)) (.int (one : Nat) to) (.int z tz)) Q E s := by
  subst hz
  have hqh : (σ.heard : Nat) ≠ σ.q sx := fun e => Sh.xoff _ hq e.symm
  refine setAt_front (vs := [v0, v1, v2]) F N ?_ (Int.natCast_nonneg _) (by show (one : Int) < 3; omega) (by omega) ?_
  · intro z hz
    rcases List.mem_cons.mp hz with rfl | hz
    · exact hqh
    · exact (of_del hz).2
  intro h1 F1 N1
  rw [Int.toNat_natCast, set3 _ _ _ _ ho] at N1
  have S1 := Sh.setQ (k := kq) (k' := kq) (i := one) (t := t) hs hq rfl ⟨_, _, _, _, rfl⟩ (routeV_set ⟨tz, rfl⟩ r0) (routeV_set ⟨tz, rfl⟩ r1) (routeV_set ⟨tz, rfl⟩ r2)
  have q0 := routeV_set (i := one) (t := t) ⟨tz, rfl⟩ r0
  have q1 := routeV_set (i := one) (t := t) ⟨tz, rfl⟩ r1
  have q2 := routeV_set (i := one) (t := t) ⟨tz, rfl⟩ r2
  obtain ⟨vt, hvt, hrvt⟩ := get3 (setR R sx one t sx) q0 q1 q2 ho
  have hself : setR R sx one t sx one = some t := if_pos ⟨rfl, rfl⟩
  rw [hself] at hrvt
  obtain ⟨tvt, rfl⟩ := hrvt
  refine h h1 _ _ _ _ _ tvt F1 (fun q hq => ?_) S1 (.head _) hvt fun q hq hne => .tail _ (mem_del hq hne)
  rcases List.mem_cons.mp hq with rfl | hq
  · exact N1 _ (.tail _ (.head _))
  · rcases List.mem_cons.mp hq with rfl | hq
    · exact N1 _ (.head _)
    · exact N1 _ (.tail _ (.tail _ hq))

theorem registerCall {w : World} {p : Program} {loose : List Str} {mean : ExcName → Option Value} {mg mb : Str → Option Value} {σ : Sta} {R Rq : Routes} {n : Led} {kk sx one t : Nat} {z : Int} {tz : Tok} (S : Shows (G0 w p loose mean mg mb) σ R Rq n) (hs : sx < 4) (ho : one < 3) (hz : z = (sx : Nat)) :
    Calls (G0 w p loose mean mg mb) 8 (.ref 571) [.ref (σ.X one), .int z tz, .ref (σ.X t)] ((σ.heard, W.listOf #[] kk) :: n) fun r n' => r = .none ∧ ∃ n2, (∀ q ∈ (σ.heard, W.listOf #[] kk) :: n2, q ∈ n') ∧ Shows (G0 w p loose mean mg mb) σ (setR R sx one t) Rq n2 ∧ ∀ q ∈ n, q.1 ≠ σ.D one → q ∈ n2 := by
  subst hz
  obtain ⟨t0, t1, t2, t3, t4, hD⟩ := S.fdic one ho
  have hv : ∀ j < 4, (Value.ref (hnd σ (setR R sx one t) j one)) = if j = sx then .ref (σ.X t) else .ref (hnd σ R j one) := fun j _ => by
    unfold hnd setR
    by_cases e : j = sx
    · rw [if_pos e, if_pos ⟨e, rfl⟩]
    · rw [if_neg e, if_neg fun h => e h.1]
  have hX := S.filt one ho
  have hne : (σ.X one : Nat) ≠ σ.D one := fun e => by
    rw [e] at hX
    cases S.fn _ _ _ hX hD
  have hh : (σ.heard : Nat) ≠ σ.D one := fun e => S.xoff _ hD e.symm
  refine ((register_any (v := fun j => .ref (hnd σ R j one)) (v' := fun j => .ref (hnd σ (setR R sx one t) j one)) (t0 := t0) (t1 := t1) (t2 := t2) (t3 := t3) (t4 := t4) (d := σ.D one) (news := del (σ.D one) ((σ.heard, W.listOf #[] kk) :: n)) hs hv (mem_del (.tail _ hX) hne) front_off).sub fun q hq => ?_).mono fun r n' h12 => ?_
  · rcases List.mem_cons.mp hq with rfl | hq
    · exact .tail _ hD
    · exact (of_del hq).1
  · obtain ⟨h1, h2⟩ := h12
    refine ⟨h1, _, fun q hq => ?_, S.setD (s := sx) (t := t) (o := instObj 0 0) (o' := instObj 0 0) ho hD, fun q hq hne => .tail _ (mem_del hq hne)⟩
    rcases List.mem_cons.mp hq with rfl | hq
    · exact h2 _ (.tail _ (mem_del (.head _) hh))
    · rcases List.mem_cons.mp hq with rfl | hq
      · exact h2 _ (.head _)
      · exact h2 _ (.tail _ (mem_del (.tail _ (of_del hq).1) (of_del hq).2))

/-- the law's ledger where a route and its handler have changed -/
theorem Lw.route {Γ : Gl} {σ : Sta} {R R' : Routes} {nd st fs rt cnt s i : Nat} {n n' : Led} (Y : Lw Γ σ R nd st fs rt cnt n) (V : Valid R') (hc : 0 < cnt) (S : Shows Γ σ R' R' n') (hs : s < 4) (hi : i < 3) (hk : ∀ q ∈ n, q.1 ≠ σ.D i → q.1 ≠ σ.q s → q ∈ n') : Lw Γ σ R' nd st fs rt cnt n' := by
  obtain ⟨u0, u1, u2, u3, u4, hD⟩ := Y.shows.fdic i hi
  obtain ⟨v0, v1, v2, kq, hq, _⟩ := Y.shows.rts s hs
  have offD : ∀ {a : Nat} {o : Obj}, (a, o) ∈ n → o.cls ≠ .type "dict" → a ≠ σ.D i := fun h hc e => by
    rw [e] at h
    exact hc (by rw [Y.shows.fn _ _ _ h hD])
  have offQ : ∀ {a : Nat} {o : Obj}, (a, o) ∈ n → o.cls ≠ .type "list" → a ≠ σ.q s := fun h hc e => by
    rw [e] at h
    exact hc (by rw [Y.shows.fn _ _ _ h hq])
  have tn : ∀ a b : String, a ≠ b → Value.type a ≠ .type b := fun a b h e => h (by injection e)
  have lst : ∀ {a k x : Nat} {l : List Value}, (a, W.listOf l.toArray k) ∈ n → l[0]? = some (.ref x) → (a, W.listOf l.toArray k) ∈ n' := fun h hl => hk _ h (offD h (tn _ _ (by decide))) (off_q Y.shows hs h hl)
  refine ⟨S, V, ?_, ?_, ?_, ?_, ?_, let ⟨ps, h⟩ := Y.tab; ⟨ps, hk _ h (offD h (by intro e; cases e)) (offQ h (by intro e; cases e))⟩⟩
  · obtain ⟨k, a⟩ := Y.nodes
    exact ⟨k, lst (l := [_, _, _, _, _]) a rfl⟩
  · obtain ⟨items, k, a, b, cc⟩ := Y.steps
    obtain ⟨t0, _, _, _, _, h0, _⟩ := cc 0 hc
    refine ⟨items, k, lst a h0, b, fun j hj => ?_⟩
    obtain ⟨t, way, num, ta, tb, d, e⟩ := cc j hj
    exact ⟨t, way, num, ta, tb, d, hk _ e (offD e (tn _ _ (by decide))) (offQ e (tn _ _ (by decide)))⟩
  · obtain ⟨k, a⟩ := Y.routes
    exact ⟨k, lst (l := [_, _, _, _]) a rfl⟩
  · obtain ⟨g, k, a, b⟩ := Y.first
    refine ⟨g, k, lst (l := [_, _, _]) a rfl, fun j hj => ?_⟩
    obtain ⟨k, c⟩ := b j hj
    exact ⟨k, lst (l := [_, _, _, _]) c rfl⟩
  · exact Y.calls.mono' (fun ps h => hk _ h (offD h (by intro e; cases e)) (offQ h (by intro e; cases e))) (fun q hq' h _ => hk q hq'
      (fun e => by
        obtain ⟨a, o⟩ := q
        have e : a = _ := e
        subst e
        rw [Y.shows.fn _ _ _ hq' hD] at h
        cases h)
      (fun e => by
        obtain ⟨a, o⟩ := q
        have e : a = _ := e
        subst e
        rw [Y.shows.fn _ _ _ hq' hq] at h
        cases h))

set_option maxHeartbeats 2000000 in
theorem turn_b0 {w : World} {p : Program} {loose : List Str} {mean : ExcName → Option Value} {mg mb : Str → Option Value} {A₀ : Around} {outer : List Env} {h₀ : Heap} {L fa : Addr} {cd : Value} {s : Shared} {m : Str → Option Value}
    {Q : Flow → Shared → Prop} {E : Value → Shared → Prop} {σ : Sta} {R : Routes} {nd st fs rt cnt i kk num one : Nat} {n : Led}
    (B : Below A₀ h₀ outer h₀) (hh : A₀.handled = none) (hdp : A₀.depth + 50 < recursionLimit) (X : (hd.heap_39 w.params).In h₀) (T : Top p loose mean mg mb h₀)
    (F : Fr h₀ L s.heap m) (N : News h₀ L s.heap ((σ.heard, W.listOf #[] kk) :: n)) (Y : Lw (G0 w p loose mean mg mb) σ R nd st fs rt cnt n) (M : Nm σ nd st fs rt m) (U : Tm i 0 num one m) (ho : one < 3) (hc : 0 < cnt)
    (hQ : ∀ h' tk R' n', Fr h₀ L h' m → News h₀ L h' ((σ.heard, W.listOf #[] kk) :: n') → Lw (G0 w p loose mean mg mb) σ R' nd st fs rt cnt n' → (∀ q ∈ n, (∀ j, j < 3 → q.1 ≠ σ.D j) → (∀ j, j < 4 → q.1 ≠ σ.q j) → q ∈ n') → Q .cont (St s h' tk)) :
    wpAny (model PySem.Challenge.rw_kq0045_01.row.prog w) (A₀.deeper (envOfC "law" lawScope L fa cd)) (execs (turnBody.drop 2) (envOfC "law" lawScope L fa cd)) Q E s := by
  obtain ⟨ah, dp, fr, gd, un⟩ := A₀
  dsimp only at hh hdp
  subst hh
  generalize hg : turnBody.drop 2 = g
  conv at hg => lhs; whnf
  subst hg
  obtain ⟨⟨tk', uk⟩, ⟨tw, uw⟩, ⟨tn, un'⟩, ⟨to, uo⟩⟩ := U
  have M' := M
  have uw : m "way" = some (.int 0 tw) := uw
  rw [M.nest] at F
  rw [nest1 uk] at F
  rw [nest1 uw] at F
  rw [nest1 un'] at F
  rw [nest1 uo] at F
  obtain ⟨knd, hnd⟩ := Y.nodes
  obtain ⟨krt, hrt⟩ := Y.routes
  obtain ⟨v0, v1, v2, kq, hq, r0, r1, r2⟩ := Y.shows.rts (num / 3 % 4) (Nat.mod_lt _ (by decide))
  have hs4 : num / 3 % 4 < 4 := Nat.mod_lt _ (by decide)
  have es : ((num : Int).fdiv 3).fmod 4 = ((num / 3 % 4 : Nat) : Int) := by rw [show (num : Int).fdiv 3 = _ from fdiv_nat num 3]; exact fmod_nat _ 4
  have et : ((one : Int) + 1) + ((num : Int).fdiv 12).fmod (4 - (one : Int)) = ((one + 1 + num / 12 % (4 - one) : Nat) : Int) := by
    rw [show (num : Int).fdiv 12 = _ from fdiv_nat num 12, show (4 : Int) - (one : Int) = ((4 - one : Nat) : Int) by omega, fmod_nat]
    push_cast; rfl
  generalize num / 3 % 4 = sx at *
  have ht : one < one + 1 + num / 12 % (4 - one) ∧ one + 1 + num / 12 % (4 - one) < 5 := by
    have := Nat.mod_lt (num / 12) (show 0 < 4 - one by omega)
    omega
  generalize one + 1 + num / 12 % (4 - one) = t at *
  have hnq := off_q (l := [_, _, _, _, _]) Y.shows hs4 hnd rfl
  have hrq := off_q (l := [_, _, _, _]) Y.shows hs4 hrt rfl
  have hrt' := mem_del hrt hrq
  have hqh : (σ.heard : Nat) ≠ σ.q sx := fun e => Y.shows.xoff _ hq e.symm
  have N2 : News h₀ L s.heap ((σ.q sx, W.listOf [v0, v1, v2].toArray kq) :: (σ.heard, W.listOf #[] kk) :: del (σ.q sx) n) := fun z hz => by
    rcases List.mem_cons.mp hz with rfl | hz
    · exact N _ (.tail _ hq)
    · rcases List.mem_cons.mp hz with rfl | hz
      · exact N _ (.head _)
      · exact N _ (.tail _ (of_del hz).1)
  clear N
  k_steps
  unfold Stop
  k_dflt (refine item_litK (News.isList (by assumption) (.tail _ (.tail _ hrt'))) (by rw [es]; exact Int.natCast_nonneg _) (by rw [es]; omega) (by rw [es, Int.toNat_natCast]; exact get4 (fun j => .ref (σ.q j)) hs4) ?_)
  k_steps
  unfold Stop
  k_dflt (refine setRoute Y.shows (by assumption) (by assumption) hs4 ho et hq r0 r1 r2 ?_)
  intro h1 tk1 w0 w1 w2 n1 tvt F1 N1 S1 hq2 hget hk1
  have hnd2 := hk1 _ hnd hnq
  have hrt2 := hk1 _ hrt hrq
  k_steps
  unfold Stop
  k_dflt (refine item_litK (News.isList (by assumption) (.tail _ hnd2)) (Int.natCast_nonneg _) (by show (one : Int) < 2 ^ 63; omega) (by rw [Int.toNat_natCast]; exact get5 (fun j => .ref (σ.X j)) (by omega)) ?_)
  k_steps
  unfold Stop
  k_dflt (refine item_litK (News.isList (by assumption) (.tail _ hrt2)) (by rw [es]; exact Int.natCast_nonneg _) (by rw [es]; omega) (by rw [es, Int.toNat_natCast]; exact get4 (fun j => .ref (σ.q j)) hs4) ?_)
  k_steps
  unfold Stop
  k_dflt (refine item_litK (News.isList (by assumption) (.tail _ hq2)) (Int.natCast_nonneg _) (by show (one : Int) < 2 ^ 63; omega) (by rw [Int.toNat_natCast]; exact hget) ?_)
  k_steps
  unfold Stop
  k_dflt (refine item_litK (News.isList (by assumption) (.tail _ hnd2)) (Int.natCast_nonneg _) (by show (t : Int) < 2 ^ 63; omega) (by rw [Int.toNat_natCast]; exact get5 (fun j => .ref (σ.X j)) ht.2) ?_)
  k_steps
  unfold Stop
  k_dflt (refine' Calls.at (Γ := G0 _ _ _ _ _ _) ?F ?N ?X ?T ?B ?hA ?hf ?hk ?hh ?hd (registerCall S1 hs4 ho es) ?_; (case F => k_asm); (case N => k_asm); (case X => k_asm); (case T => k_asm); (case B => k_asm); (case hA => exact Around.frames_deeper B.stack); (case hf => rfl); (case hk => rfl); (case hh => rfl); (case hd => k_room))
  rintro _ hv tkv n3 F3 N3 ⟨rfl, n2, hn2, S2, hk2⟩
  have N4 : News h₀ L hv ((σ.heard, W.listOf #[] kk) :: n2) := fun q hq => N3 q (hn2 q hq)
  k_steps
  have keep : ∀ q ∈ n, q.1 ≠ σ.D one → q.1 ≠ σ.q sx → q ∈ n2 := fun q hq h1 h2 => hk2 _ (hk1 _ hq h2) h1
  refine hQ _ _ _ n2 ?_ N4 (Y.route (setR_valid Y.vr ht.1 ht.2) hc S2 hs4 ho keep) fun q hq h1 h2 => keep q hq (h1 one ho) (h2 sx hs4)
  rw [M.nest, nest1 uk, nest1 uw, nest1 un', nest1 uo]
  assumption
end Mine

namespace Mine
open PySem.Calls PySem.Spec
local macro_rules | `(tactic| k_room) => `(tactic| ((try simp only [depth_under_make, depth_under_kw, depth_in1, depth_deeper, depth_caller]); (try dsimp only); omega))
local macro_rules | `(tactic| k_mem) => `(tactic| first | with_reducible assumption | (with_reducible k_memK) | ((repeat with_reducible refine List.Mem.tail _ ?_); assumption))
local macro_rules | `(tactic| k_all) => `(tactic| assumption)
local macro_rules | `(tactic| walk_at "subscriptTail") => `(tactic| (refine stop_ ?_))
local macro_rules | `(tactic| walk_at "getItem ref int") => `(tactic| (refine stop_ ?_))
local macro_rules | `(tactic| walk_at "setItem ref int") => `(tactic| (refine stop_ ?_))
local macro_rules | `(tactic| walk_at "call ref") => `(tactic| (refine stop_ ?_))
theorem fillT4 (w : World) : PySem.Challenge.rw_kq0045_01 = PySem.Challenge.rw_kq0045_01 ∧ hd.heap_39 w.params = hd.heap_39 w.params := by
  k_fill
  exact ⟨rfl, rfl⟩

theorem pull2 {h₀ h : Heap} {L : Addr} {x : Addr × Obj} {pre n : Led} (N : News h₀ L h (pre ++ x :: n)) (off : ∀ q ∈ n, q.1 ≠ x.1) (hp : ∀ q ∈ pre, q.1 ≠ x.1) : News h₀ L h (x :: (pre ++ n)) ∧ ∀ q ∈ pre ++ n, q.1 ≠ x.1 :=
  ⟨fun q hq => N q (by
    rcases List.mem_cons.mp hq with rfl | hq
    · exact List.mem_append_right _ (.head _)
    · rcases List.mem_append.mp hq with h | h
      · exact List.mem_append_left _ h
      · exact List.mem_append_right _ (.tail _ h)), fun q hq => (List.mem_append.mp hq).elim (hp q) (off q)⟩
/-- names of an event -/
structure Tk (κ f : Nat) (m : Str → Option Value) : Prop where
  kind : ∃ t, m "kind" = some (.int (κ : Nat) t)
  sort : ∃ t, m "sort" = some (.int (evSort κ : Nat) t)
  size : ∃ t, m "size" = some (.int (evSize κ : Nat) t)
  call : m "call" = some (.ref f)

theorem intTok {h₀ h : Heap} {L : Addr} {x : Str} {m : Str → Option Value} {z z' : Int} {t : Tok} {P : Prop} (F : Fr h₀ L h (fun y => if y = x then some (.int z t) else m y)) (e : z = z') (k : ∀ t', Fr h₀ L h (fun y => if y = x then some (.int z' t') else m y) → P) : P := k t (e ▸ F)
theorem getR {f : Nat → Value} {n j : Nat} (h : j < n) : ((List.range n).map f)[j]? = some (f j) := by
  rw [List.getElem?_map, List.getElem?_range h]; rfl

set_option maxHeartbeats 2000000 in
theorem turn_c {w : World} {p : Program} {loose : List Str} {mean : ExcName → Option Value} {mg mb : Str → Option Value} {A₀ : Around} {outer : List Env} {h₀ : Heap} {L fa : Addr} {cd : Value} {s : Shared} {m : Str → Option Value}
    {Q : Flow → Shared → Prop} {E : Value → Shared → Prop} {σ : Sta} {R : Routes} {nd st fs rt cnt i kk way num one : Nat} {n : Led}
    (B : Below A₀ h₀ outer h₀) (hh : A₀.handled = none) (hdp : A₀.depth + 50 < recursionLimit) (X : (hd.heap_39 w.params).In h₀) (T : Top p loose mean mg mb h₀)
    (F : Fr h₀ L s.heap m) (N : News h₀ L s.heap ((σ.heard, W.listOf #[] kk) :: n)) (Y : Lw (G0 w p loose mean mg mb) σ R nd st fs rt cnt n) (M : Nm σ nd st fs rt m) (U : Tm i way num one m) (hw : way ≠ 0)
    (hQ : ∀ h' tk m' n' f S, Fr h₀ L h' m' → News h₀ L h' ((σ.heard, W.listOf #[] kk) :: n') → (∀ q ∈ n, q ∈ n') → (∀ q ∈ n', q.1 ≠ σ.heard) → Nm σ nd st fs rt m' → Tm i way num one m' → Tk (num / 3 % 19) f m' → (∀ q ∈ S, q ∈ (σ.heard, W.listOf #[] kk) :: n') → CLam (G0 w p loose mean mg mb) (evName (num / 3 % 19)) (evSize (num / 3 % 19)) f S →
      wpAny (model PySem.Challenge.rw_kq0045_01.row.prog w) (A₀.deeper (envOfC "law" lawScope L fa cd)) (execs (turnBody.drop 5) (envOfC "law" lawScope L fa cd)) Q E (St s h' tk)) :
    wpAny (model PySem.Challenge.rw_kq0045_01.row.prog w) (A₀.deeper (envOfC "law" lawScope L fa cd)) (execs (turnBody.drop 2) (envOfC "law" lawScope L fa cd)) Q E s := by
  obtain ⟨ah, dp, fr, gd, un⟩ := A₀
  dsimp only at hh hdp
  subst hh
  generalize hg5 : turnBody.drop 5 = g5 at hQ
  generalize hg : turnBody.drop 2 = g
  conv at hg => lhs; whnf
  conv at hg5 => lhs; whnf
  rw [hg5] at hg
  clear hg5
  subst hg
  obtain ⟨⟨tk', uk⟩, ⟨tw, uw⟩, ⟨tn, un'⟩, ⟨to, uo⟩⟩ := U
  rw [M.nest] at F
  rw [nest1 uk] at F
  rw [nest1 uw] at F
  rw [nest1 un'] at F
  rw [nest1 uo] at F
  have hw1 : ((way : Int) == 0) = false := by
    simp only [beq_eq_false_iff_ne, ne_eq]; omega
  k_steps
  have ek : ((num : Int).fdiv 3).fmod 19 = ((num / 3 % 19 : Nat) : Int) := by rw [show (num : Int).fdiv 3 = _ from fdiv_nat num 3]; exact fmod_nat _ 19
  have hκ : num / 3 % 19 < 19 := Nat.mod_lt _ (by decide)
  rename Fr _ _ _ _ => F1
  refine intTok F1 ek fun tkk F2 => ?_
  clear F1
  unfold Stop
  k_dflt (refine' Calls.at (Γ := G0 _ _ _ _ _ _) ?F ?N ?X ?T ?B ?hA ?hf ?hk ?hh ?hd (calls_hit (news := (σ.heard, W.listOf #[] kk) :: n) (Y.calls.mono fun q h => .tail _ h)) ?_; (case F => k_asm); (case N => k_asm); (case X => k_asm); (case T => k_asm); (case B => k_asm); (case hA => exact Around.frames_deeper B.stack); (case hf => rfl); (case hk => rfl); (case hh => rfl); (case hd => k_room))
  rintro _ hv tkv n3 F3 N3 ⟨l, TT, FF, rfl, hl, hE, hk3⟩
  obtain ⟨ta, tb, htup, S, hS, hC⟩ := hE _ hκ
  k_steps
  unfold Stop
  k_dflt (refine item_litK (News.isList (by assumption) hl) (Int.natCast_nonneg _) (by omega) (by rw [Int.toNat_natCast]; exact getR hκ) ?_)
  k_steps
  rename Fr _ _ _ _ => F5
  rename News _ _ _ _ => N5
  have hh0 : (σ.heard, W.listOf #[] kk) ∈ n3 := hk3 _ (.head _)
  have two : ∀ q ∈ n3, q ∈ (σ.heard, W.listOf #[] kk) :: del σ.heard n3 := fun q hq => by
    by_cases e : q.1 = σ.heard
    · obtain ⟨a, o⟩ := q
      have e : a = σ.heard := e
      subst e
      rw [News_fn N5 hq hh0]
      exact .head _
    · exact .tail _ (mem_del hq e)
  refine hQ _ _ _ (del σ.heard n3) (FF (num / 3 % 19)) S F5 (to_front N5 hh0) (fun q hq => mem_del (hk3 _ (.tail _ hq)) (Y.shows.xoff q hq)) front_off ⟨?_, ?_, ?_, ?_, ?_⟩ ⟨?_, ?_, ?_, ?_⟩ ⟨?_, ?_, ?_, ?_⟩ (fun q hq => two q (hS q hq)) hC <;> first | with_unfolding_all rfl | with_unfolding_all exact ⟨_, rfl⟩
end Mine

namespace Mine
open PySem.Calls PySem.Spec
local macro_rules | `(tactic| k_room) => `(tactic| ((try simp only [depth_under_make, depth_under_kw, depth_in1, depth_deeper, depth_caller]); (try dsimp only); omega))
local macro_rules | `(tactic| k_mem) => `(tactic| first | with_reducible assumption | (with_reducible k_memK) | ((repeat with_reducible refine List.Mem.tail _ ?_); assumption))
local macro_rules | `(tactic| k_all) => `(tactic| assumption)
local macro_rules | `(tactic| walk_at "subscriptTail") => `(tactic| (refine stop_ ?_))
local macro_rules | `(tactic| walk_at "getItem ref int") => `(tactic| (refine stop_ ?_))
local macro_rules | `(tactic| walk_at "setItem ref int") => `(tactic| (refine stop_ ?_))
local macro_rules | `(tactic| walk_at "call ref") => `(tactic| (refine stop_ ?_))
local macro_rules | `(tactic| walk_at "WhlRest") => `(tactic| (refine stop_ ?_))
theorem fillT2 (w : World) : PySem.Challenge.rw_kq0045_01 = PySem.Challenge.rw_kq0045_01 ∧ hd.heap_39 w.params = hd.heap_39 w.params := by
  k_fill
  exact ⟨rfl, rfl⟩

theorem dupF {h₀ h : Heap} {L : Addr} {x : Str} {a b : Option Value} {c : Str → Option Value} (F : Fr h₀ L h (fun y => if y = x then a else if y = x then b else c y)) : Fr h₀ L h (fun y => if y = x then a else c y) := by
  have e : (fun y => if y = x then a else c y) = (fun y => if y = x then a else if y = x then b else c y) := by
    funext y
    by_cases h : y = x
    · rw [if_pos h, if_pos h]
    · rw [if_neg h, if_neg h, if_neg h]
  rw [e]; exact F
def whileStmt : Stmt := turnBody.getD 8 (.Pass ⟨0, 0, 0, 0⟩)
def whTest : Expr := match whileStmt with | .While t _ _ _ => t | _ => .Constant .none 0 ⟨0, 0, 0, 0⟩
def whBody : List Stmt := match whileStmt with | .While _ b _ _ => b | _ => []

set_option maxHeartbeats 2000000 in
theorem while_ {w : World} {p : Program} {loose : List Str} {mean : ExcName → Option Value} {mg mb : Str → Option Value} {A₀ : Around} {outer : List Env} {h₀ : Heap} {L fa : Addr} {cd : Value} {m : Str → Option Value}
    {Q : Flow → Shared → Prop} {E : Value → Shared → Prop} {σ : Sta} {R : Routes} {nd st fs rt cnt kk so : Nat} {ts : Tok} {n : Led}
    (B : Below A₀ h₀ outer h₀) (hh : A₀.handled = none) (hdp : A₀.depth + 50 < recursionLimit) (X : (hd.heap_39 w.params).In h₀) (T : Top p loose mean mg mb h₀)
    (Y : Lw (G0 w p loose mean mg mb) σ R nd st fs rt cnt n) (M : Nm σ nd st fs rt m) (us : m "sort" = some (.int (so : Nat) ts)) (hso : so < 4) (hE : PassesOwn (model PySem.Challenge.rw_kq0045_01.row.prog w) (A₀.deeper (envOfC "law" lawScope L fa cd)) (envOfC "law" lawScope L fa cd) E) :
    ∀ (f : Nat) (o : Option Nat) (V : Value) (s : Shared), RouteV o V → (∀ i, o = some i → i < 5 ∧ 5 ≤ i + f) → Fr h₀ L s.heap (fun y => if y = ("end" : Str) then some V else m y) → News h₀ L s.heap ((σ.heard, W.listOf #[] kk) :: n) →
      (∀ h' tk V', RouteV (o.bind (chase R so f)) V' → Fr h₀ L h' (fun y => if y = ("end" : Str) then some V' else m y) → News h₀ L h' ((σ.heard, W.listOf #[] kk) :: n) → Q .next (St s h' tk)) →
      WhlRest PySem.Challenge.rw_kq0045_01.row.prog w (A₀.deeper (envOfC "law" lawScope L fa cd)) E (envOfC "law" lawScope L fa cd) whTest whBody [] Q (f + 1) s := by
  obtain ⟨ah, dp, fr, gd, un⟩ := A₀
  dsimp only at hh hdp
  subst hh
  generalize hg1 : whTest = gT
  generalize hg2 : whBody = gB
  conv at hg1 => lhs; whnf
  conv at hg2 => lhs; whnf
  subst hg1 hg2
  intro f
  induction f with
  | zero =>
    intro o V s hV ho F N hQ
    rw [M.nest, nest1 us] at F
    cases o with
    | none =>
      obtain rfl : V = .none := hV
      refine whl_turn hE ?_
      k_steps
      rename Fr _ _ _ _ => F6
      refine hQ _ _ .none rfl ?_ (by assumption)
      rw [M.nest, nest1 us]
      exact F6
    | some i =>
      have := ho i rfl
      omega
  | succ f ih =>
    intro o V s hV ho F N hQ
    cases o with
    | none =>
      obtain rfl : V = .none := hV
      rw [M.nest, nest1 us] at F
      refine whl_turn hE ?_
      k_steps
      rename Fr _ _ _ _ => F6
      refine hQ _ _ .none rfl ?_ (by assumption)
      rw [M.nest, nest1 us]
      exact F6
    | some i =>
      obtain ⟨ti, rfl⟩ := hV
      have hi := ho i rfl
      by_cases h3 : 3 ≤ i
      · have c1 : ¬ ((i : Int) < 3) := by omega
        rw [M.nest, nest1 us] at F
        refine whl_turn hE ?_
        k_steps
        rename Fr _ _ _ _ => F6
        have ec : (some i).bind (chase R so (f + 1)) = some i := by
          show chase R so (f + 1) i = some i
          unfold chase
          rw [if_pos h3]
        rw [ec] at hQ
        refine hQ _ _ (.int i ti) ⟨ti, rfl⟩ ?_ (by assumption)
        rw [M.nest, nest1 us]
        exact F6
      · have c1 : ((i : Int) < 3) := by omega
        have c2 : i < 3 := by omega
        obtain ⟨krt, hrt⟩ := Y.routes
        obtain ⟨v0, v1, v2, kq, hq, r0, r1, r2⟩ := Y.shows.rts so hso
        obtain ⟨vt, hvt, hrvt⟩ := get3 (R so) r0 r1 r2 c2
        have ec : (some i).bind (chase R so (f + 1)) = (R so i).bind (chase R so f) := by
          show chase R so (f + 1) i = _
          unfold chase
          rw [if_neg h3]
          cases R so i <;> rfl
        rw [ec] at hQ
        have hV := Y.vr so i
        rw [M.nest, nest1 us] at F
        refine whl_turn hE ?_
        k_steps
        unfold Stop
        k_dflt (refine item_litK (News.isList (by assumption) (.tail _ hrt)) (Int.natCast_nonneg _) (by show (so : Int) < 2 ^ 63; omega) (by rw [Int.toNat_natCast]; exact get4 (fun j => .ref (σ.q j)) hso) ?_)
        k_steps
        unfold Stop
        k_dflt (refine item_litK (News.isList (by assumption) (.tail _ hq)) (Int.natCast_nonneg _) (by show (i : Int) < 2 ^ 63; omega) (by rw [Int.toNat_natCast]; exact hvt) ?_)
        k_steps
        unfold Stop
        rename Fr _ _ _ _ => F6
        have F7 := dupF F6
        refine ih (R so i) vt _ hrvt (fun t ht => ?_) ?_ (by assumption) ?_
        · have := hV t ht
          omega
        · rw [M.nest, nest1 us]
          exact F7
        · intro h' tk V' a b c
          exact hQ h' tk V' a b c
end Mine

namespace Mine
open PySem.Calls PySem.Spec
local macro_rules | `(tactic| k_room) => `(tactic| ((try simp only [depth_under_make, depth_under_kw, depth_in1, depth_deeper, depth_caller]); (try dsimp only); omega))
local macro_rules | `(tactic| k_mem) => `(tactic| first | with_reducible assumption | (with_reducible k_memK) | ((repeat with_reducible refine List.Mem.tail _ ?_); assumption))
local macro_rules | `(tactic| k_all) => `(tactic| assumption)
local macro_rules | `(tactic| walk_at "subscriptTail") => `(tactic| (refine stop_ ?_))
local macro_rules | `(tactic| walk_at "getItem ref int") => `(tactic| (refine stop_ ?_))
local macro_rules | `(tactic| walk_at "setItem ref int") => `(tactic| (refine stop_ ?_))
local macro_rules | `(tactic| walk_at "call ref") => `(tactic| (refine stop_ ?_))
theorem fillT5 (w : World) : PySem.Challenge.rw_kq0045_01 = PySem.Challenge.rw_kq0045_01 ∧ hd.heap_39 w.params = hd.heap_39 w.params := by
  k_fill
  exact ⟨rfl, rfl⟩

theorem mkExc {prog : Program} {w : World} {A : Around} {E : Value → Shared → Prop} {s : Shared} {h₀ : Heap} {L : Addr} {m : Str → Option Value} {Q : Value → Shared → Prop} {news : Led} {v : Value} (F : Fr h₀ L s.heap m) (N : News h₀ L s.heap news)
    (h : ∀ h' e t, Fr h₀ L h' m → News h₀ L h' ((e, excObj t) :: (t, ({ cls := .type "tuple", data := .seq #[v] } : Obj)) :: news) → (∀ q ∈ news, q.1 ≠ e ∧ q.1 ≠ t) → e ≠ t → Q (.ref e) { s with heap := h' }) :
    wpAny (model prog w) A (call (.type "ValueError") [v]) Q E s := by
  obtain ⟨hp, g, d, tk, os⟩ := s
  refine wpAny_call_exc PySem.F.excCall_ValueError (fun h' e hm => ?_) (by show 1 ≤ sizeLine; decide)
  obtain ⟨k, hn, t, he, htn, ht⟩ := hm
  have F1 := F.of_stays (fun b o q => k b o (F.keep b o q)) (Heap.UpToSlots.of_keeps k)
  have N1 : News h₀ L h' news := fun q hq => ⟨k _ _ (N q hq).1, (N q hq).2⟩
  have off : ∀ q ∈ news, q.1 ≠ e ∧ q.1 ≠ t := fun q hq => by
    have z := (N q hq).1
    constructor
    · intro e1; rw [e1, hn] at z; cases z
    · intro e1; rw [e1, htn] at z; cases z
  refine h h' e t F1 (News.more F1 (News.more F1 N1 ht (fun es n q => by cases q) (fresh_of_stays F.keep htn)) he (fun es n q => by cases q) (fresh_of_stays F.keep hn)) off fun e1 => ?_
  subst e1
  rw [he] at ht
  have ht := congrArg Obj.cls (Option.some.inj ht)
  injection ht with ht
  exact absurd ht (by decide)

local macro_rules | `(tactic| walk_at "call type:ValueError") => `(tactic| (k_dflt (refine' mkExc ?F ?N ?_; (case F => k_asm); (case N => k_asm)); intro _ _ _ _ _ _ _))
/-- an exception made for this turn -/
def ExcAt (heard : Addr) (n n' : Led) (v : Value) : Prop := ∃ e t x, v = .ref e ∧ (e, excObj t) ∈ n' ∧ (t, ({ cls := .type "tuple", data := .seq #[x] } : Obj)) ∈ n' ∧ (∀ q ∈ n, q.1 ≠ e ∧ q.1 ≠ t) ∧ heard ≠ e ∧ heard ≠ t
theorem pull {h₀ h : Heap} {L : Addr} {x : Addr × Obj} {pre n : Led} (N : News h₀ L h (pre ++ x :: n)) : News h₀ L h (x :: (pre ++ n)) := fun q hq => N q (by
  rcases List.mem_cons.mp hq with rfl | hq
  · exact List.mem_append_right _ (.head _)
  · rcases List.mem_append.mp hq with h | h
    · exact List.mem_append_left _ h
    · exact List.mem_append_right _ (.tail _ h))
set_option maxHeartbeats 2000000 in
theorem turn_d1 {w : World} {p : Program} {loose : List Str} {mean : ExcName → Option Value} {mg mb : Str → Option Value} {A₀ : Around} {outer : List Env} {h₀ : Heap} {L fa : Addr} {cd : Value} {s : Shared} {m : Str → Option Value}
    {Q : Flow → Shared → Prop} {E : Value → Shared → Prop} {σ : Sta} {nd st fs rt i kk way num one κ f : Nat} {n : Led}
    (B : Below A₀ h₀ outer h₀) (hh : A₀.handled = none) (hdp : A₀.depth + 50 < recursionLimit) (X : (hd.heap_39 w.params).In h₀) (T : Top p loose mean mg mb h₀)
    (F : Fr h₀ L s.heap m) (N : News h₀ L s.heap ((σ.heard, W.listOf #[] kk) :: n)) (off : ∀ q ∈ n, q.1 ≠ σ.heard) (M : Nm σ nd st fs rt m) (U : Tm i way num one m) (V : Tk κ f m)
    (hQ : ∀ h' tk m' n' told (vs : List Value), Fr h₀ L h' m' → News h₀ L h' ((σ.heard, W.listOf #[] kk) :: n') → (∀ q ∈ n, q ∈ n') → (∀ q ∈ n', q.1 ≠ σ.heard) → Nm σ nd st fs rt m' → Tm i way num one m' → Tk κ f m' → m' "told" = some (.ref told) → (told, W.listOf vs.toArray 0) ∈ n' → vs.length = 4 → (∀ v ∈ vs, ExcAt σ.heard n n' v) →
      wpAny (model PySem.Challenge.rw_kq0045_01.row.prog w) (A₀.deeper (envOfC "law" lawScope L fa cd)) (execs (turnBody.drop 6) (envOfC "law" lawScope L fa cd)) Q E (St s h' tk)) :
    wpAny (model PySem.Challenge.rw_kq0045_01.row.prog w) (A₀.deeper (envOfC "law" lawScope L fa cd)) (execs (turnBody.drop 5) (envOfC "law" lawScope L fa cd)) Q E s := by
  obtain ⟨ah, dp, fr, gd, un⟩ := A₀
  dsimp only at hh hdp
  subst hh
  generalize hg5 : turnBody.drop 6 = g5 at hQ
  generalize hg : turnBody.drop 5 = g
  conv at hg => lhs; whnf
  conv at hg5 => lhs; whnf
  rw [hg5] at hg
  clear hg5
  subst hg
  obtain ⟨⟨tk', uk⟩, ⟨tw, uw⟩, ⟨tn, un'⟩, ⟨to, uo⟩⟩ := U
  obtain ⟨⟨tkk, vk⟩, ⟨tks, vs⟩, ⟨tkz, vz⟩, vc⟩ := V
  rw [M.nest] at F
  rw [nest1 uk] at F
  rw [nest1 un'] at F
  rw [nest1 uo] at F
  rw [nest1 vk] at F
  rw [nest1 vs] at F
  rw [nest1 vz] at F
  rw [nest1 vc] at F
  rw [nest1 uw] at F
  k_steps
  rename_i h1 e0 t0 a0 b0 h2 e1 t1 a1 b1 h3 e2 t2 a2 b2 h4 e3 t3 a3 b3 l h5 l1 h6 F6 N6
  have x0 : ¬ @Eq Nat σ.heard e0 := (a0 (σ.heard, W.listOf #[] kk) (.head _)).1
  have y0 : ¬ @Eq Nat σ.heard t0 := (a0 (σ.heard, W.listOf #[] kk) (.head _)).2
  have x1 : ¬ @Eq Nat σ.heard e1 := (a1 (σ.heard, W.listOf #[] kk) (.tail _ (.tail _ (.head _)))).1
  have y1 : ¬ @Eq Nat σ.heard t1 := (a1 (σ.heard, W.listOf #[] kk) (.tail _ (.tail _ (.head _)))).2
  have x2 : ¬ @Eq Nat σ.heard e2 := (a2 (σ.heard, W.listOf #[] kk) (.tail _ (.tail _ (.tail _ (.tail _ (.head _)))))).1
  have y2 : ¬ @Eq Nat σ.heard t2 := (a2 (σ.heard, W.listOf #[] kk) (.tail _ (.tail _ (.tail _ (.tail _ (.head _)))))).2
  have x3 : ¬ @Eq Nat σ.heard e3 := (a3 (σ.heard, W.listOf #[] kk) (.tail _ (.tail _ (.tail _ (.tail _ (.tail _ (.tail _ (.head _)))))))).1
  have y3 : ¬ @Eq Nat σ.heard t3 := (a3 (σ.heard, W.listOf #[] kk) (.tail _ (.tail _ (.tail _ (.tail _ (.tail _ (.tail _ (.head _)))))))).2
  have N7 := pull2 (pre := [_, _, _, _, _, _, _, _, _]) N6 off (by intro q hq; simp only [List.mem_cons, List.not_mem_nil, or_false] at hq; rcases hq with rfl | rfl | rfl | rfl | rfl | rfl | rfl | rfl | rfl <;> (intro e; have e : @Eq Nat _ _ := e; omega))
  refine hQ _ _ _ _ l [.ref e0, .ref e1, .ref e2, .ref e3] F6 N7.1 (fun q hq => List.mem_append_right _ hq) N7.2 ⟨?_, ?_, ?_, ?_, ?_⟩ ⟨?_, ?_, ?_, ?_⟩ ⟨?_, ?_, ?_, ?_⟩ ?_ (.head _) rfl ?_
  all_goals first | with_unfolding_all rfl | with_unfolding_all exact ⟨_, rfl⟩ | skip
  intro v hv
  rcases List.mem_cons.mp hv with rfl | hv
  · exact ⟨e0, t0, _, rfl, (.tail _ (.tail _ (.tail _ (.tail _ (.tail _ (.tail _ (.tail _ (.head _)))))))), (.tail _ (.tail _ (.tail _ (.tail _ (.tail _ (.tail _ (.tail _ (.tail _ (.head _))))))))), fun q hq => a0 q (.tail _ hq), (a0 _ (.head _)).1, (a0 _ (.head _)).2⟩
  rcases List.mem_cons.mp hv with rfl | hv
  · exact ⟨e1, t1, _, rfl, (.tail _ (.tail _ (.tail _ (.tail _ (.tail _ (.head _)))))), (.tail _ (.tail _ (.tail _ (.tail _ (.tail _ (.tail _ (.head _))))))), fun q hq => a1 q (.tail _ (.tail _ (.tail _ hq))), (a1 _ (.tail _ (.tail _ (.head _)))).1, (a1 _ (.tail _ (.tail _ (.head _)))).2⟩
  rcases List.mem_cons.mp hv with rfl | hv
  · exact ⟨e2, t2, _, rfl, (.tail _ (.tail _ (.tail _ (.head _)))), (.tail _ (.tail _ (.tail _ (.tail _ (.head _))))), fun q hq => a2 q (.tail _ (.tail _ (.tail _ (.tail _ (.tail _ hq))))), (a2 _ (.tail _ (.tail _ (.tail _ (.tail _ (.head _)))))).1, (a2 _ (.tail _ (.tail _ (.tail _ (.tail _ (.head _)))))).2⟩
  rcases List.mem_cons.mp hv with rfl | hv
  · exact ⟨e3, t3, _, rfl, (.tail _ (.head _)), (.tail _ (.tail _ (.head _))), fun q hq => a3 q (.tail _ (.tail _ (.tail _ (.tail _ (.tail _ (.tail _ (.tail _ hq))))))), (a3 _ (.tail _ (.tail _ (.tail _ (.tail _ (.tail _ (.tail _ (.head _)))))))).1, (a3 _ (.tail _ (.tail _ (.tail _ (.tail _ (.tail _ (.tail _ (.head _)))))))).2⟩
  cases hv
end Mine

namespace Mine
open PySem.Calls PySem.Spec
local macro_rules | `(tactic| k_room) => `(tactic| ((try simp only [depth_under_make, depth_under_kw, depth_in1, depth_deeper, depth_caller]); (try dsimp only); omega))
local macro_rules | `(tactic| k_mem) => `(tactic| first | with_reducible assumption | (with_reducible k_memK) | ((repeat with_reducible refine List.Mem.tail _ ?_); assumption))
local macro_rules | `(tactic| k_all) => `(tactic| assumption)
local macro_rules | `(tactic| walk_at "subscriptTail") => `(tactic| (refine stop_ ?_))
local macro_rules | `(tactic| walk_at "getItem ref int") => `(tactic| (refine stop_ ?_))
local macro_rules | `(tactic| walk_at "setItem ref int") => `(tactic| (refine stop_ ?_))
local macro_rules | `(tactic| walk_at "call ref") => `(tactic| (refine stop_ ?_))
theorem fillT6 (w : World) : PySem.Challenge.rw_kq0045_01 = PySem.Challenge.rw_kq0045_01 ∧ hd.heap_39 w.params = hd.heap_39 w.params := by
  k_fill
  exact ⟨rfl, rfl⟩

set_option maxHeartbeats 2000000 in
theorem turn_d2 {w : World} {p : Program} {loose : List Str} {mean : ExcName → Option Value} {mg mb : Str → Option Value} {A₀ : Around} {outer : List Env} {h₀ : Heap} {L fa : Addr} {cd : Value} {s : Shared} {m : Str → Option Value}
    {Q : Flow → Shared → Prop} {E : Value → Shared → Prop} {σ : Sta} {nd st fs rt i kk way num one κ f told : Nat} {vs : List Value} {n : Led}
    (B : Below A₀ h₀ outer h₀) (hh : A₀.handled = none) (hdp : A₀.depth + 50 < recursionLimit) (X : (hd.heap_39 w.params).In h₀) (T : Top p loose mean mg mb h₀)
    (F : Fr h₀ L s.heap m) (N : News h₀ L s.heap ((σ.heard, W.listOf #[] kk) :: n)) (off : ∀ q ∈ n, q.1 ≠ σ.heard) (M : Nm σ nd st fs rt m) (U : Tm i way num one m) (V : Tk κ f m) (hT : m "told" = some (.ref told)) (hm : (told, W.listOf vs.toArray 0) ∈ n)
    (hQ : ∀ h' tk m' n' told' vs', Fr h₀ L h' m' → News h₀ L h' ((σ.heard, W.listOf #[] kk) :: n') → (∀ q ∈ n, q ∈ n') → (∀ q ∈ n', q.1 ≠ σ.heard) → Nm σ nd st fs rt m' → Tm i way num one m' → Tk κ f m' → m' "told" = some (.ref told') → (told', W.listOf vs'.toArray 0) ∈ n' → (vs' = vs ∨ κ < 16 ∧ ∃ t a b, vs' = [.none, .str (Str.ofString "") t, .ref a, .ref b]) → m' "end" = m' "one" →
      wpAny (model PySem.Challenge.rw_kq0045_01.row.prog w) (A₀.deeper (envOfC "law" lawScope L fa cd)) (execs (turnBody.drop 8) (envOfC "law" lawScope L fa cd)) Q E (St s h' tk)) :
    wpAny (model PySem.Challenge.rw_kq0045_01.row.prog w) (A₀.deeper (envOfC "law" lawScope L fa cd)) (execs (turnBody.drop 6) (envOfC "law" lawScope L fa cd)) Q E s := by
  obtain ⟨ah, dp, fr, gd, un⟩ := A₀
  dsimp only at hh hdp
  subst hh
  generalize hg5 : turnBody.drop 8 = g5 at hQ
  generalize hg : turnBody.drop 6 = g
  conv at hg => lhs; whnf
  conv at hg5 => lhs; whnf
  rw [hg5] at hg
  clear hg5
  subst hg
  obtain ⟨⟨tk', uk⟩, ⟨tw, uw⟩, ⟨tn, un'⟩, ⟨to, uo⟩⟩ := U
  obtain ⟨⟨tkk, vk⟩, ⟨tks, vs'⟩, ⟨tkz, vz⟩, vc⟩ := V
  rw [M.nest] at F
  rw [nest1 uk] at F
  rw [nest1 un'] at F
  rw [nest1 uo] at F
  rw [nest1 vk] at F
  rw [nest1 vs'] at F
  rw [nest1 vz] at F
  rw [nest1 vc] at F
  rw [nest1 uw] at F
  rw [nest1 hT] at F
  have ek : ((num : Int).fdiv 57).fmod 2 = ((num / 57 % 2 : Nat) : Int) := by rw [show (num : Int).fdiv 57 = _ from fdiv_nat num 57]; exact fmod_nat _ 2
  by_cases h16 : κ < 16
  · have c1 : ((κ : Int) < 16) := by omega
    by_cases hb : num / 57 % 2 = 1
    · have c2 : (((num : Int).fdiv 57).fmod 2 == 1) = true := by rw [ek, hb]; rfl
      clear ek
      k_steps
      rename Fr _ _ _ _ => F6
      rename News _ _ _ _ => N6
      have N7 := pull2 (pre := [_, _, _]) N6 off (by intro q hq; simp only [List.mem_cons, List.not_mem_nil, or_false] at hq; rcases hq with rfl | rfl | rfl <;> (intro e; have e : @Eq Nat _ _ := e; omega))
      refine hQ _ _ _ _ _ [.none, .str _ _, .ref _, .ref _] F6 N7.1 (fun q hq => List.mem_append_right _ hq) N7.2 ⟨?_, ?_, ?_, ?_, ?_⟩ ⟨?_, ?_, ?_, ?_⟩ ⟨?_, ?_, ?_, ?_⟩ ?_ (.head _) (.inr ⟨h16, _, _, _, rfl⟩) ?_ <;> first | with_unfolding_all rfl | with_unfolding_all exact ⟨_, rfl⟩
    · have c2 : (((num : Int).fdiv 57).fmod 2 == 1) = false := by rw [ek]; simp only [beq_eq_false_iff_ne, ne_eq]; omega
      clear ek
      k_steps
      rename Fr _ _ _ _ => F6
      rename News _ _ _ _ => N6
      refine hQ _ _ _ n told vs F6 N6 (fun q hq => hq) off ⟨?_, ?_, ?_, ?_, ?_⟩ ⟨?_, ?_, ?_, ?_⟩ ⟨?_, ?_, ?_, ?_⟩ ?_ hm (.inl rfl) ?_ <;> first | with_unfolding_all rfl | with_unfolding_all exact ⟨_, rfl⟩
  · have c1 : ¬ ((κ : Int) < 16) := by omega
    clear ek
    k_steps
    rename Fr _ _ _ _ => F6
    rename News _ _ _ _ => N6
    refine hQ _ _ _ n told vs F6 N6 (fun q hq => hq) off ⟨?_, ?_, ?_, ?_, ?_⟩ ⟨?_, ?_, ?_, ?_⟩ ⟨?_, ?_, ?_, ?_⟩ ?_ hm (.inl rfl) ?_ <;> first | with_unfolding_all rfl | with_unfolding_all exact ⟨_, rfl⟩
end Mine

namespace Mine
open PySem.Calls PySem.Spec
local macro_rules | `(tactic| k_room) => `(tactic| ((try simp only [depth_under_make, depth_under_kw, depth_in1, depth_deeper, depth_caller]); (try dsimp only); omega))
local macro_rules | `(tactic| k_mem) => `(tactic| first | with_reducible assumption | (with_reducible k_memK) | ((repeat with_reducible refine List.Mem.tail _ ?_); assumption))
local macro_rules | `(tactic| k_all) => `(tactic| assumption)
local macro_rules | `(tactic| walk_at "subscriptTail") => `(tactic| (refine stop_ ?_))
local macro_rules | `(tactic| walk_at "getItem ref int") => `(tactic| (refine stop_ ?_))
local macro_rules | `(tactic| walk_at "setItem ref int") => `(tactic| (refine stop_ ?_))
local macro_rules | `(tactic| walk_at "call ref") => `(tactic| (refine stop_ ?_))
local macro_rules | `(tactic| walk_at "exec While") => `(tactic| (refine stop_ ?_))
local macro_rules | `(tactic| walk_at "exec While BoolOp") => `(tactic| (refine stop_ ?_))
theorem fillT7 (w : World) : PySem.Challenge.rw_kq0045_01 = PySem.Challenge.rw_kq0045_01 ∧ hd.heap_39 w.params = hd.heap_39 w.params := by
  k_fill
  exact ⟨rfl, rfl⟩

theorem evSort_lt : ∀ {κ : Nat}, κ < 19 → evSort κ < 4 := by
  intro κ h
  rcases lt19 h with rfl | rfl | rfl | rfl | rfl | rfl | rfl | rfl | rfl | rfl | rfl | rfl | rfl | rfl | rfl | rfl | rfl | rfl | rfl <;> decide

set_option maxHeartbeats 2000000 in
theorem turn_f {w : World} {p : Program} {loose : List Str} {mean : ExcName → Option Value} {mg mb : Str → Option Value} {A₀ : Around} {outer : List Env} {h₀ : Heap} {L fa : Addr} {cd : Value} {s : Shared} {m : Str → Option Value}
    {Q : Flow → Shared → Prop} {E : Value → Shared → Prop} {σ : Sta} {R : Routes} {nd st fs rt cnt i kk way num one κ f : Nat} {n : Led}
    (B : Below A₀ h₀ outer h₀) (hh : A₀.handled = none) (hdp : A₀.depth + 50 < recursionLimit) (X : (hd.heap_39 w.params).In h₀) (T : Top p loose mean mg mb h₀)
    (F : Fr h₀ L s.heap m) (N : News h₀ L s.heap ((σ.heard, W.listOf #[] kk) :: n)) (Y : Lw (G0 w p loose mean mg mb) σ R nd st fs rt cnt n) (M : Nm σ nd st fs rt m) (U : Tm i way num one m) (V : Tk κ f m) (hend : m "end" = m "one") (ho : one < 3) (hκ : κ < 19)
    (hE : PassesOwn (model PySem.Challenge.rw_kq0045_01.row.prog w) (A₀.deeper (envOfC "law" lawScope L fa cd)) (envOfC "law" lawScope L fa cd) E)
    (hQ : ∀ h' tk V', RouteV (chase R (evSort κ) 5 one) V' → Fr h₀ L h' (fun y => if y = ("end" : Str) then some V' else m y) → News h₀ L h' ((σ.heard, W.listOf #[] kk) :: n) →
      wpAny (model PySem.Challenge.rw_kq0045_01.row.prog w) (A₀.deeper (envOfC "law" lawScope L fa cd)) (execs (turnBody.drop 9) (envOfC "law" lawScope L fa cd)) Q E (St s h' tk)) :
    wpAny (model PySem.Challenge.rw_kq0045_01.row.prog w) (A₀.deeper (envOfC "law" lawScope L fa cd)) (execs (turnBody.drop 8) (envOfC "law" lawScope L fa cd)) Q E s := by
  generalize hg5 : turnBody.drop 9 = g5 at hQ
  generalize hg : turnBody.drop 8 = g
  conv at hg => lhs; whnf
  conv at hg5 => lhs; whnf
  rw [hg5] at hg
  clear hg5
  subst hg
  obtain ⟨to, uo⟩ := U.one
  obtain ⟨ts, us⟩ := V.sort
  have F1 : Fr h₀ L s.heap (fun y => if y = ("end" : Str) then some (.int (one : Nat) to) else m y) := by
    rw [← nest1 (hend.trans uo)]
    exact F
  refine stop_ ?_
  unfold Stop
  k_steps
  unfold Stop
  refine whl_start (5 + 1) ?_
  refine while_ B hh hdp X T Y M us (evSort_lt hκ) hE 5 (some one) (.int (one : Nat) to) _ ⟨to, rfl⟩ (fun j hj => ?_) F1 N ?_
  · obtain rfl := Option.some.inj hj
    omega
  · intro h' tk V' hV F2 N2
    exact hQ h' tk V' hV F2 N2
end Mine

namespace Mine
open PySem.Calls PySem.Spec
local macro_rules | `(tactic| k_room) => `(tactic| ((try simp only [depth_under_make, depth_under_kw, depth_in1, depth_deeper, depth_caller]); (try dsimp only); omega))
local macro_rules | `(tactic| k_mem) => `(tactic| first | with_reducible assumption | (with_reducible k_memK) | ((repeat with_reducible refine List.Mem.tail _ ?_); assumption))
local macro_rules | `(tactic| k_all) => `(tactic| assumption)
local macro_rules | `(tactic| walk_at "setItem ref int") => `(tactic| (refine stop_ ?_))
local macro_rules | `(tactic| walk_at "call ref") => `(tactic| (refine stop_ ?_))
theorem fillT8 (w : World) : PySem.Challenge.rw_kq0045_01 = PySem.Challenge.rw_kq0045_01 ∧ hd.heap_39 w.params = hd.heap_39 w.params := by
  k_fill
  exact ⟨rfl, rfl⟩

theorem pick_take (vs : List Value) (k : Nat) : (slicePick vs.toArray none (some (k : Int)) none).toList = vs.take k := by
  have e : sliceBounds none (some (k : Int)) none vs.toArray.size = (((0 : Nat) : Int), ((min k vs.toArray.size : Nat) : Int), 1) := by
    simp only [sliceBounds, Option.getD_none, show (1 : Int) > 0 by decide, if_true, if_neg (show ¬ ((k : Int) < 0) by omega)]
    congr 1
    congr 1
    omega
  rw [kmk_pick_nat _ e]
  show (vs.drop 0).take (min k vs.toArray.size - 0) = _
  rw [List.drop_zero, Nat.sub_zero, List.size_toArray, kmk_take_min]
local macro_rules | `(tactic| walk_at "subscriptTail Name Slice ref ref") => `(tactic| (k_dflt (refine' kmk_slice_lit ?F ?N ?l ?p ?q ?e ?_ ?s ?t ?z; (case F => k_asm); (case N => k_asm); (case l => kmk_list); (case p => kmk_part); (case q => kmk_part); (case e => exact pick_take _ _); (case s => with_unfolding_all rfl); (case t => kmk_pure); (case z => kmk_size)); intro D' h' F' N' l1; (try k_lt l1); (try k_sweep)))
local macro_rules | `(tactic| walk_at "subscriptTail Name Constant ref int") => `(tactic| (k_dflt (refine item_litK (News.isList (by k_asm) (by k_mem)) (by decide) (by decide) (by rfl) ?_)))
def ansV (κ : Nat) (a b c : Value) : Value := if κ = 15 then a else if κ = 16 then b else if κ = 17 then c else .none
theorem va3 {κ : Nat} {a b c : Value} {t0 t1 t2 : Tok} : (valueAt (intKeyPairs [(.int 15 t0, a), (.int 16 t1, b), (.int 17 t2, c)]) (κ : Int)).getD .none = ansV κ a b c := by
  unfold ansV
  by_cases h15 : κ = 15
  · subst h15; rfl
  by_cases h16 : κ = 16
  · subst h16; rfl
  by_cases h17 : κ = 17
  · subst h17; rfl
  rw [if_neg h15, if_neg h16, if_neg h17]
  have e15 : ¬ ((15 : Int) = (κ : Int)) := by omega
  have e16 : ¬ ((16 : Int) = (κ : Int)) := by omega
  have e17 : ¬ ((17 : Int) = (κ : Int)) := by omega
  simp [intKeyPairs, valueAt, e15, e16, e17, List.find?]
theorem get_ans {prog : Program} {w : World} {A : Around} {E : Value → Shared → Prop} {s : Shared} {h₀ : Heap} {L d : Addr} {Q : Value → Shared → Prop} {news : Led} {o : Obj} {κ : Nat} {a b c : Value} {t0 t1 t2 tk : Tok}
    (N : News h₀ L s.heap news) (hp : (d, o) ∈ news) (hd : o.IsDictOf (intKind prog w) (intKeyPairs [(.int 15 t0, a), (.int 16 t1, b), (.int 17 t2, c)])) (lo : (d == sysModules) = false) (h : Q (ansV κ a b c) { s with toks := s.toks + 1 }) :
    wpAny (model prog w) A (call (.builtin "dict.get") [.ref d, .int (κ : Nat) tk, .none]) Q E s :=
  kdg_get2 N hp hd lo (intKind_is _ _ _ _) _ rfl (by rw [va3]; exact h)
local macro_rules | `(tactic| walk_at "call builtin:dict.get") => `(tactic| (k_dflt (refine' get_ans ?N ?p ?d ?l ?_; (case N => k_asm); (case p => k_mem); (case d => assumption); (case l => assumption))))
theorem raisF {e κ : Nat} : false = true ↔ (some e = none ∧ 15 < κ) := ⟨fun h => (by cases h), fun h => (by cases h.1)⟩
theorem raisD {κ : Nat} : decide ((15 : Int) < (κ : Int)) = true ↔ ((none : Option Nat) = none ∧ 15 < κ) :=
  ⟨fun h => ⟨rfl, by have := of_decide_eq_true h; omega⟩, fun h => decide_eq_true (by have := h.2; omega)⟩
/-- the list due -/
def DueIs (κ : Nat) (vs : List Value) (n : Led) (du : Nat) : Option Nat → Prop
  | none => (du, W.listOf #[] 0) ∈ n
  | some e => ∃ (dt ds : Nat) (te tk : Tok), (du, W.listOf #[.ref dt] 0) ∈ n ∧ (dt, tupObj [.int (e : Nat) te, .int (κ : Nat) tk, .ref ds]) ∈ n ∧ (ds, W.listOf (vs.take (evSize κ)).toArray 0) ∈ n
def AnsIs (κ : Nat) (vs : List Value) (v : Value) : Option Nat → Prop
  | none => v = ansV κ (vs.getD 1 .none) (vs.getD 0 .none) (vs.getD 0 .none)
  | some _ => ∃ t, v = ansV κ (.str (Str.ofString "") t) (vs.getD 0 .none) (vs.getD 0 .none)
theorem ansN {κ : Nat} {x0 x1 x2 x3 : Value} : AnsIs κ [x0, x1, x2, x3] (ansV κ x1 x0 x0) none := rfl
theorem ansS {κ e : Nat} {x0 x1 x2 x3 : Value} {t : Tok} : AnsIs κ [x0, x1, x2, x3] (ansV κ (.str (Str.ofString "") t) x0 x0) (some e) := ⟨t, rfl⟩
/-- what a turn knows ahead of its call -/
structure Ev (κ : Nat) (vs : List Value) (n : Led) (told : Nat) (o : Option Nat) (m : Str → Option Value) : Prop where
  htold : m "told" = some (.ref told)
  mem : (told, W.listOf vs.toArray 0) ∈ n
  due : ∃ du, m "due" = some (.ref du) ∧ DueIs κ vs n du o
  ans : ∃ v, m "answer" = some v ∧ AnsIs κ vs v o
  raised : ∃ b, m "raised" = some (.bool b) ∧ (b = true ↔ (o = none ∧ 15 < κ))

set_option maxHeartbeats 2000000 in
theorem turn_g_some {w : World} {p : Program} {loose : List Str} {mean : ExcName → Option Value} {mg mb : Str → Option Value} {A₀ : Around} {outer : List Env} {h₀ : Heap} {L fa : Addr} {cd : Value} {s : Shared} {m : Str → Option Value}
    {Q : Flow → Shared → Prop} {E : Value → Shared → Prop} {σ : Sta} {R : Routes} {nd st fs rt cnt i kk way num one κ f told e : Nat} {vs : List Value} {te : Tok} {n : Led}
    (B : Below A₀ h₀ outer h₀) (hh : A₀.handled = none) (hdp : A₀.depth + 50 < recursionLimit) (X : (hd.heap_39 w.params).In h₀) (T : Top p loose mean mg mb h₀)
    (F : Fr h₀ L s.heap m) (N : News h₀ L s.heap ((σ.heard, W.listOf #[] kk) :: n)) (off : ∀ q ∈ n, q.1 ≠ σ.heard) (M : Nm σ nd st fs rt m) (U : Tm i way num one m) (V : Tk κ f m) (hT : m "told" = some (.ref told)) (hm : (told, W.listOf vs.toArray 0) ∈ n) (hlen : vs.length = 4) (hend : m "end" = some (.int (e : Nat) te)) (hκ : κ < 19)
    (hQ : ∀ h' tk m' n', Fr h₀ L h' m' → News h₀ L h' ((σ.heard, W.listOf #[] kk) :: n') → (∀ q ∈ n, q ∈ n') → (∀ q ∈ n', q.1 ≠ σ.heard) → Nm σ nd st fs rt m' → Tm i way num one m' → Tk κ f m' → Ev κ vs n' told (some e) m' →
      wpAny (model PySem.Challenge.rw_kq0045_01.row.prog w) (A₀.deeper (envOfC "law" lawScope L fa cd)) (execs (turnBody.drop 13) (envOfC "law" lawScope L fa cd)) Q E (St s h' tk)) :
    wpAny (model PySem.Challenge.rw_kq0045_01.row.prog w) (A₀.deeper (envOfC "law" lawScope L fa cd)) (execs (turnBody.drop 9) (envOfC "law" lawScope L fa cd)) Q E s := by
  obtain ⟨ah, dp, fr, gd, un⟩ := A₀
  dsimp only at hh hdp
  subst hh
  generalize hg5 : turnBody.drop 13 = g5 at hQ
  generalize hg : turnBody.drop 9 = g
  conv at hg => lhs; whnf
  conv at hg5 => lhs; whnf
  rw [hg5] at hg
  clear hg5
  subst hg
  obtain ⟨⟨tk', uk⟩, ⟨tw, uw⟩, ⟨tn, un'⟩, ⟨to, uo⟩⟩ := U
  obtain ⟨⟨tkk, vk⟩, ⟨tks, vs'⟩, ⟨tkz, vz⟩, vc⟩ := V
  rw [M.nest] at F
  rw [nest1 uk] at F
  rw [nest1 un'] at F
  rw [nest1 uo] at F
  rw [nest1 vk] at F
  rw [nest1 vs'] at F
  rw [nest1 vz] at F
  rw [nest1 vc] at F
  rw [nest1 uw] at F
  rw [nest1 hT] at F
  rw [nest1 hend] at F
  obtain ⟨x0, x1, x2, x3, rfl⟩ := len4 hlen
  k_steps
  rename Fr _ _ _ _ => F6
  rename News _ _ _ _ => N6
  have N7 := pull2 (pre := [_, _, _, _]) N6 off (by intro q hq; simp only [List.mem_cons, List.not_mem_nil, or_false] at hq; rcases hq with rfl | rfl | rfl | rfl <;> (intro e; have e : @Eq Nat _ _ := e; omega))
  refine hQ _ _ _ _ F6 N7.1 (fun q hq => List.mem_append_right _ hq) N7.2 ⟨?_, ?_, ?_, ?_, ?_⟩ ⟨?_, ?_, ?_, ?_⟩ ⟨?_, ?_, ?_, ?_⟩ ⟨?_, List.mem_append_right _ hm, ⟨_, ?_, ⟨_, _, _, _, .tail _ (.head _), .tail _ (.tail _ (.head _)), .tail _ (.tail _ (.tail _ (.head _)))⟩⟩, ?_, ⟨_, ?_, raisF⟩⟩ <;> first | with_unfolding_all rfl | with_unfolding_all exact ⟨_, rfl⟩ | with_unfolding_all exact ⟨_, rfl, ansS⟩

set_option maxHeartbeats 2000000 in
theorem turn_g_none {w : World} {p : Program} {loose : List Str} {mean : ExcName → Option Value} {mg mb : Str → Option Value} {A₀ : Around} {outer : List Env} {h₀ : Heap} {L fa : Addr} {cd : Value} {s : Shared} {m : Str → Option Value}
    {Q : Flow → Shared → Prop} {E : Value → Shared → Prop} {σ : Sta} {R : Routes} {nd st fs rt cnt i kk way num one κ f told : Nat} {vs : List Value} {n : Led}
    (B : Below A₀ h₀ outer h₀) (hh : A₀.handled = none) (hdp : A₀.depth + 50 < recursionLimit) (X : (hd.heap_39 w.params).In h₀) (T : Top p loose mean mg mb h₀)
    (F : Fr h₀ L s.heap m) (N : News h₀ L s.heap ((σ.heard, W.listOf #[] kk) :: n)) (off : ∀ q ∈ n, q.1 ≠ σ.heard) (M : Nm σ nd st fs rt m) (U : Tm i way num one m) (V : Tk κ f m) (hT : m "told" = some (.ref told)) (hm : (told, W.listOf vs.toArray 0) ∈ n) (hlen : vs.length = 4) (hend : m "end" = some .none) (hκ : κ < 18)
    (hQ : ∀ h' tk m' n', Fr h₀ L h' m' → News h₀ L h' ((σ.heard, W.listOf #[] kk) :: n') → (∀ q ∈ n, q ∈ n') → (∀ q ∈ n', q.1 ≠ σ.heard) → Nm σ nd st fs rt m' → Tm i way num one m' → Tk κ f m' → Ev κ vs n' told none m' →
      wpAny (model PySem.Challenge.rw_kq0045_01.row.prog w) (A₀.deeper (envOfC "law" lawScope L fa cd)) (execs (turnBody.drop 13) (envOfC "law" lawScope L fa cd)) Q E (St s h' tk)) :
    wpAny (model PySem.Challenge.rw_kq0045_01.row.prog w) (A₀.deeper (envOfC "law" lawScope L fa cd)) (execs (turnBody.drop 9) (envOfC "law" lawScope L fa cd)) Q E s := by
  obtain ⟨ah, dp, fr, gd, un⟩ := A₀
  dsimp only at hh hdp
  subst hh
  generalize hg5 : turnBody.drop 13 = g5 at hQ
  generalize hg : turnBody.drop 9 = g
  conv at hg => lhs; whnf
  conv at hg5 => lhs; whnf
  rw [hg5] at hg
  clear hg5
  subst hg
  obtain ⟨⟨tk', uk⟩, ⟨tw, uw⟩, ⟨tn, un'⟩, ⟨to, uo⟩⟩ := U
  obtain ⟨⟨tkk, vk⟩, ⟨tks, vs'⟩, ⟨tkz, vz⟩, vc⟩ := V
  rw [M.nest] at F
  rw [nest1 uk] at F
  rw [nest1 un'] at F
  rw [nest1 uo] at F
  rw [nest1 vk] at F
  rw [nest1 vs'] at F
  rw [nest1 vz] at F
  rw [nest1 vc] at F
  rw [nest1 uw] at F
  rw [nest1 hT] at F
  rw [nest1 hend] at F
  obtain ⟨x0, x1, x2, x3, rfl⟩ := len4 hlen
  have c18 : ((κ : Int) == 18) = false := by simp only [beq_eq_false_iff_ne, ne_eq]; omega
  k_steps
  rename Fr _ _ _ _ => F6
  rename News _ _ _ _ => N6
  have N7 := pull2 (pre := [_, _]) N6 off (by intro q hq; simp only [List.mem_cons, List.not_mem_nil, or_false] at hq; rcases hq with rfl | rfl <;> (intro e; have e : @Eq Nat _ _ := e; omega))
  refine hQ _ _ _ _ F6 N7.1 (fun q hq => List.mem_append_right _ hq) N7.2 ⟨?_, ?_, ?_, ?_, ?_⟩ ⟨?_, ?_, ?_, ?_⟩ ⟨?_, ?_, ?_, ?_⟩ ⟨?_, List.mem_append_right _ hm, ⟨_, ?_, .tail _ (.head _)⟩, ?_, ⟨_, ?_, raisD⟩⟩ <;> first | with_unfolding_all rfl | with_unfolding_all exact ⟨_, rfl⟩ | with_unfolding_all exact ⟨_, rfl, ansN⟩

set_option maxHeartbeats 2000000 in
theorem turn_g_18 {w : World} {p : Program} {loose : List Str} {mean : ExcName → Option Value} {mg mb : Str → Option Value} {A₀ : Around} {outer : List Env} {h₀ : Heap} {L fa : Addr} {cd : Value} {s : Shared} {m : Str → Option Value}
    {Q : Flow → Shared → Prop} {E : Value → Shared → Prop} {σ : Sta} {R : Routes} {nd st fs rt cnt i kk way num one κ f told : Nat} {vs : List Value} {n : Led}
    (B : Below A₀ h₀ outer h₀) (hh : A₀.handled = none) (hdp : A₀.depth + 50 < recursionLimit) (X : (hd.heap_39 w.params).In h₀) (T : Top p loose mean mg mb h₀)
    (F : Fr h₀ L s.heap m) (N : News h₀ L s.heap ((σ.heard, W.listOf #[] kk) :: n)) (off : ∀ q ∈ n, q.1 ≠ σ.heard) (M : Nm σ nd st fs rt m) (U : Tm i way num one m) (V : Tk κ f m) (hT : m "told" = some (.ref told)) (hm : (told, W.listOf vs.toArray 0) ∈ n) (hlen : vs.length = 4) (hend : m "end" = some .none) (hκ : κ = 18)
    (hQ : ∀ h' tk, Fr h₀ L h' m → News h₀ L h' ((σ.heard, W.listOf #[] kk) :: n) → Q .cont (St s h' tk)) :
    wpAny (model PySem.Challenge.rw_kq0045_01.row.prog w) (A₀.deeper (envOfC "law" lawScope L fa cd)) (execs (turnBody.drop 9) (envOfC "law" lawScope L fa cd)) Q E s := by
  obtain ⟨ah, dp, fr, gd, un⟩ := A₀
  dsimp only at hh hdp
  subst hh
  generalize hg : turnBody.drop 9 = g
  conv at hg => lhs; whnf
  subst hg
  obtain ⟨⟨tk', uk⟩, ⟨tw, uw⟩, ⟨tn, un'⟩, ⟨to, uo⟩⟩ := U
  obtain ⟨⟨tkk, vk⟩, ⟨tks, vs'⟩, ⟨tkz, vz⟩, vc⟩ := V
  rw [M.nest] at F
  rw [nest1 uk] at F
  rw [nest1 un'] at F
  rw [nest1 uo] at F
  rw [nest1 vk] at F
  rw [nest1 vs'] at F
  rw [nest1 vz] at F
  rw [nest1 vc] at F
  rw [nest1 uw] at F
  rw [nest1 hT] at F
  rw [nest1 hend] at F
  obtain ⟨x0, x1, x2, x3, rfl⟩ := len4 hlen
  subst hκ
  k_steps
  refine hQ _ _ ?_ (by assumption)
  rw [M.nest, nest1 uk, nest1 un', nest1 uo, nest1 vk, nest1 vs', nest1 vz, nest1 vc, nest1 uw, nest1 hT, nest1 hend]
  assumption
end Mine

namespace Mine
open PySem.Calls PySem.Spec
local macro_rules | `(tactic| k_room) => `(tactic| ((try simp only [depth_under_make, depth_under_kw, depth_in1, depth_deeper, depth_caller]); (try dsimp only); omega))
local macro_rules | `(tactic| k_mem) => `(tactic| first | with_reducible assumption | (with_reducible k_memK) | ((repeat with_reducible refine List.Mem.tail _ ?_); assumption))
local macro_rules | `(tactic| k_all) => `(tactic| assumption)
local macro_rules | `(tactic| walk_at "subscriptTail") => `(tactic| (refine stop_ ?_))
local macro_rules | `(tactic| walk_at "getItem ref int") => `(tactic| (refine stop_ ?_))
local macro_rules | `(tactic| walk_at "setItem ref int") => `(tactic| (refine stop_ ?_))
local macro_rules | `(tactic| walk_at "call ref") => `(tactic| (refine stop_ ?_))
local macro_rules | `(tactic| walk_at "exec Try") => `(tactic| (refine wpAny_Try_except ?_))
theorem fillT9 (w : World) : PySem.Challenge.rw_kq0045_01 = PySem.Challenge.rw_kq0045_01 ∧ hd.heap_39 w.params = hd.heap_39 w.params := by
  k_fill
  exact ⟨rfl, rfl⟩

theorem callWith_N {prog : Program} {w : World} {A : Around} {env : Env} {Q E : Value → Shared → Prop} {s : Shared} {h₀ : Heap} {L f : Addr} {news : Led} {oc : Value} {od : Option Addr} {fd : FuncData} {sl : Array (Option Value)} {pos : Pos} {first : List Value} {e : Expr} {rest : List Expr} (hfn : (f, (⟨oc, od, .func fd, sl⟩ : Obj)) ∈ news)
    (h : wpAny (model prog w) A (spliced (backTo pos (starEach (e :: rest) env))) (fun vs s₁ => News h₀ L s₁.heap news ∧ wpAny (model prog w) A (call (.ref f) (first ++ vs)) Q E s₁) E s)
    (he : starEach (e :: rest) env = (false, eval e env) :: starEach rest env := by rfl) (hplain : (backTo pos (starEach rest env)).any (·.1) = false := by rfl) :
    wpAny (model prog w) A (callWith pos (.ref f) first (backTo pos (starEach (e :: rest) env)) []) Q E s := by
  rw [he] at h ⊢
  exact callWith_of (P := fun h => News h₀ L h news) (by show ((false || (backTo pos (starEach rest env)).any (·.1)) || false) = false; rw [hplain]; rfl) (fun h N => keeps_F _ (FnAt.of N hfn)) (evalArgs_plain h)
theorem slot_VE_eq : Slot "ValueError" (cmpInfo .Eq).2.1 "object.__eq__" :=
  .of (owner := "object") (n := "__eq__") (by rw [typeLookup_type, builtinLookup_eq_fast]; kernel_rfl) (by decide +kernel) (by decide +kernel) (by decide +kernel)
    (by first | exact .inl (by decide +kernel) | exact .inr (by decide +kernel)) (by rw [isSubtype_type]; kernel_rfl)
theorem eq_exc {prog : Program} {w : World} {A : Around} {E : Value → Shared → Prop} {s : Shared} {h₀ : Heap} {L e t : Addr} {Q : Value → Shared → Prop} {news : Led} (N : News h₀ L s.heap news) (he : (e, excObj t) ∈ news) (hu : A.units < cLine) (hq : Q (.bool true) s) :
    wpAny (model prog w) A (compareOp .Eq (.ref e) (.ref e)) Q E s := by
  show wpAny _ A (richCompare .Eq _ _) Q E s
  have hT : s.TypeIs (.ref e) "ValueError" := ⟨_, (N _ he).1, rfl⟩
  exact wpAny_richCompare_same_room hT hT slot_VE_eq (wpAny_call_entry slot_VE_eq hT PySem.F.cmpEntry_eq (objEq_entry_same ⟨.bool true, rfl, (by intro e; cases e), hq⟩) (PySem.F.cmpArgs_eq _ _)) hu
def Cmp (κ : Nat) (va r : Value) (n : Led) : Prop :=
  (15 < κ ∧ r = .none) ∨ (κ ≤ 15 ∧ r = .none ∧ va = .none) ∨ (κ ≤ 15 ∧ ∃ t t', r = .str (Str.ofString "") t ∧ va = .str (Str.ofString "") t') ∨ (κ ≤ 15 ∧ ∃ (e t : Nat), r = .ref e ∧ va = .ref e ∧ (e, excObj t) ∈ n)

set_option maxHeartbeats 2000000 in
theorem try_ok {w : World} {p : Program} {loose : List Str} {mean : ExcName → Option Value} {mg mb : Str → Option Value} {A₀ : Around} {outer : List Env} {h₀ : Heap} {L fa : Addr} {cd : Value} {s : Shared} {m : Str → Option Value}
    {Q : Flow → Shared → Prop} {E : Value → Shared → Prop} {σ : Sta} {R : Routes} {nd st fs rt cnt i kk way num one κ f told e : Nat} {va : Value} {n : Led} {P : Value → Led → Prop}
    (hA : A₀ = callerA) (B : Below A₀ h₀ outer h₀) (X : (hd.heap_39 w.params).In h₀) (T : Top p loose mean mg mb h₀)
    (F : Fr h₀ L s.heap m) (N : News h₀ L s.heap ((σ.heard, W.listOf #[] kk) :: n)) (Y : Lw (G0 w p loose mean mg mb) σ R nd st fs rt cnt n) (M : Nm σ nd st fs rt m) (U : Tm i way num one m) (V : Tk κ f m) (dtold : m "told" = some (.ref told)) (dans : m "answer" = some va) (drai : m "raised" = some (.bool false)) (ho : one < 3)
    (hfn : ∃ oc od fd sl, (f, (⟨oc, od, .func fd, sl⟩ : Obj)) ∈ (σ.heard, W.listOf #[] kk) :: n)
    (hcall : Calls (G0 w p loose mean mg mb) 20 (.ref f) [.ref (σ.X one), .ref told] ((σ.heard, W.listOf #[] kk) :: n) P) (hcmp : ∀ r n3, P r n3 → Cmp κ va r n3)
    (hE : PassesOwn (model PySem.Challenge.rw_kq0045_01.row.prog w) (A₀.deeper (envOfC "law" lawScope L fa cd)) (envOfC "law" lawScope L fa cd) E)
    (hQ : ∀ h' tk r n', P r n' → Fr h₀ L h' (fun y => if y = ("right" : Str) then some (.bool true) else m y) → News h₀ L h' n' →
      wpAny (model PySem.Challenge.rw_kq0045_01.row.prog w) (A₀.deeper (envOfC "law" lawScope L fa cd)) (execs (turnBody.drop 14) (envOfC "law" lawScope L fa cd)) Q E (St s h' tk)) :
    wpAny (model PySem.Challenge.rw_kq0045_01.row.prog w) (A₀.deeper (envOfC "law" lawScope L fa cd)) (execs (turnBody.drop 13) (envOfC "law" lawScope L fa cd)) Q E s := by
  subst hA
  generalize hg5 : turnBody.drop 14 = g5 at hQ
  generalize hg : turnBody.drop 13 = g
  conv at hg => lhs; whnf
  conv at hg5 => lhs; whnf
  rw [hg5] at hg
  clear hg5
  subst hg
  obtain ⟨to, uo⟩ := U.one
  obtain ⟨tkk, vk⟩ := V.kind
  have vc := V.call
  obtain ⟨knd, hnd⟩ := Y.nodes
  rw [M.nest] at F
  rw [nest1 uo] at F
  rw [nest1 vk] at F
  rw [nest1 vc] at F
  rw [nest1 dtold] at F
  rw [nest1 dans] at F
  rw [nest1 drai] at F
  obtain ⟨oc, od, fd, sl, hfn⟩ := hfn
  k_steps
  k_dflt (refine callWith_N (h₀ := h₀) (L := L) hfn ?_)
  k_steps
  unfold Stop
  k_dflt (refine item_litK (News.isList (by assumption) (.tail _ hnd)) (Int.natCast_nonneg _) (by show (one : Int) < 2 ^ 63; omega) (by rw [Int.toNat_natCast]; exact get5 (fun j => .ref (σ.X j)) (by omega)) ?_)
  k_steps
  · assumption
  unfold Stop
  k_dflt (refine' Calls.at (Γ := G0 _ _ _ _ _ _) ?F ?N ?X ?T ?B ?hA ?hf ?hk ?hh ?hd hcall ?_; (case F => k_asm); (case N => k_asm); (case X => k_asm); (case T => k_asm); (case B => k_asm); (case hA => exact Around.frames_deeper B.stack); (case hf => rfl); (case hk => rfl); (case hh => rfl); (case hd => k_room))
  intro r hv tkv n3 F3 N3 hP
  rcases hcmp r n3 hP with ⟨hk, rfl⟩ | ⟨hk, rfl, rfl⟩ | ⟨hk, t1, t2, rfl, rfl⟩ | ⟨hk, e1, t1, rfl, rfl, he⟩
  · have c1 : ((κ : Int) > 15) := by omega
    k_steps
    rename Fr _ _ _ _ => F6
    refine hQ _ _ _ _ hP ?_ (by assumption)
    rw [M.nest, nest1 uo, nest1 vk, nest1 vc, nest1 dtold, nest1 dans, nest1 drai]
    exact F6
  · have c1 : ¬ ((κ : Int) > 15) := by omega
    k_steps
    rename Fr _ _ _ _ => F6
    refine hQ _ _ _ _ hP ?_ (by assumption)
    rw [M.nest, nest1 uo, nest1 vk, nest1 vc, nest1 dtold, nest1 dans, nest1 drai]
    exact F6
  · have c1 : ¬ ((κ : Int) > 15) := by omega
    k_steps
    rename Fr _ _ _ _ => F6
    refine hQ _ _ _ _ hP ?_ (by assumption)
    rw [M.nest, nest1 uo, nest1 vk, nest1 vc, nest1 dtold, nest1 dans, nest1 drai]
    exact F6
  · have c1 : ¬ ((κ : Int) > 15) := by omega
    k_steps
    k_dflt (refine eq_exc N3 he (by exact Nat.le_of_ble_eq_true rfl) ?_)
    k_steps
    rename Fr _ _ _ _ => F6
    refine hQ _ _ _ _ hP ?_ (by assumption)
    rw [M.nest, nest1 uo, nest1 vk, nest1 vc, nest1 dtold, nest1 dans, nest1 drai]
    exact F6
end Mine

namespace Mine
open PySem.Calls PySem.Spec
local macro_rules | `(tactic| k_room) => `(tactic| ((try simp only [depth_under_make, depth_under_kw, depth_in1, depth_deeper, depth_caller]); (try dsimp only); omega))
local macro_rules | `(tactic| k_mem) => `(tactic| first | with_reducible assumption | (with_reducible k_memK) | ((repeat with_reducible refine List.Mem.tail _ ?_); assumption))
local macro_rules | `(tactic| k_all) => `(tactic| assumption)
local macro_rules | `(tactic| walk_at "subscriptTail") => `(tactic| (refine stop_ ?_))
local macro_rules | `(tactic| walk_at "getItem ref int") => `(tactic| (refine stop_ ?_))
local macro_rules | `(tactic| walk_at "setItem ref int") => `(tactic| (refine stop_ ?_))
local macro_rules | `(tactic| walk_at "call ref") => `(tactic| (refine stop_ ?_))
local macro_rules | `(tactic| walk_at "exec Try") => `(tactic| (refine wpAny_Try_except ?_))
theorem fillT10 (w : World) : PySem.Challenge.rw_kq0045_01 = PySem.Challenge.rw_kq0045_01 ∧ hd.heap_39 w.params = hd.heap_39 w.params := by
  k_fill
  exact ⟨rfl, rfl⟩

theorem goesC {M : Model} {A : Around} {E : Value → Shared → Prop} {s : Shared} {name : Str} {scope : Scope} {L a : Addr} {cd : Value} {cl : List (Str × Addr)} {h₀ : Heap} {m : Str → Option Value} {news : Led} {n : Str} {pos : Pos} {Q : Unit → Shared → Prop} (F : Fr h₀ L s.heap m) (N : News h₀ L s.heap news)
    (h : ∀ h' v, Fr h₀ L h' (fun x => if x = n then v else m x) → News h₀ L h' news → Q () { s with heap := h', toks := s.toks + 1 })
    (hk : scope.kind = .function := by rfl) (hl : (envX name scope L a cd cl).kindOf n = some .local := by rfl) :
    wpAny M A (do bindName (envX name scope L a cd cl) n .none; unbindBehindTheSuite (envX name scope L a cd cl) n pos) Q E s :=
  wpAny_nameGoes_keeps hl F.ns (by show (scope.kind == .class || (scope.kind == .module && L != mainGlobals)) = false; rw [hk]; rfl) fun h' v hn hs => h h' v (F.set hn hs) (N.set hs)
set_option maxHeartbeats 2000000 in
theorem try_raise {w : World} {p : Program} {loose : List Str} {mean : ExcName → Option Value} {mg mb : Str → Option Value} {A₀ : Around} {outer : List Env} {h₀ : Heap} {L fa : Addr} {cd : Value} {s : Shared} {m : Str → Option Value}
    {Q : Flow → Shared → Prop} {E : Value → Shared → Prop} {σ : Sta} {R : Routes} {nd st fs rt cnt i kk way num one κ f told : Nat} {e : Nat} {xs : List Value} {n rest : Led}
    (hA : A₀ = callerA) (B : Below A₀ h₀ outer h₀) (X : (hd.heap_39 w.params).In h₀) (T : Top p loose mean mg mb h₀)
    (F : Fr h₀ L s.heap m) (N : News h₀ L s.heap ((σ.heard, W.listOf #[] kk) :: n)) (Y : Lw (G0 w p loose mean mg mb) σ R nd st fs rt cnt n) (M : Nm σ nd st fs rt m) (U : Tm i way num one m) (V : Tk κ f m) (dtold : m "told" = some (.ref told)) (dans : m "answer" = some (.ref e)) (drai : m "raised" = some (.bool true)) (ho : one < 3)
    (hfn : ∃ oc od fd sl, (f, (⟨oc, od, .func fd, sl⟩ : Obj)) ∈ (σ.heard, W.listOf #[] kk) :: n)
    (hcall : CallsE (G0 w p loose mean mg mb) 20 (.ref f) [.ref (σ.X one), .ref told] ((σ.heard, W.listOf #[] kk) :: n) e xs rest)
    (hdu : ∃ v, m "due" = some v)
    (hE : PassesOwn (model PySem.Challenge.rw_kq0045_01.row.prog w) (A₀.deeper (envOfC "law" lawScope L fa cd)) (envOfC "law" lawScope L fa cd) E)
    (hQ : ∀ h' tk m', Fr h₀ L h' m' → m' "right" = some (.bool true) → m' "due" = m "due" → Nm σ nd st fs rt m' → News h₀ L h' rest →
      wpAny (model PySem.Challenge.rw_kq0045_01.row.prog w) (A₀.deeper (envOfC "law" lawScope L fa cd)) (execs (turnBody.drop 14) (envOfC "law" lawScope L fa cd)) Q E (St s h' tk)) :
    wpAny (model PySem.Challenge.rw_kq0045_01.row.prog w) (A₀.deeper (envOfC "law" lawScope L fa cd)) (execs (turnBody.drop 13) (envOfC "law" lawScope L fa cd)) Q E s := by
  subst hA
  generalize hg5 : turnBody.drop 14 = g5 at hQ
  generalize hg : turnBody.drop 13 = g
  conv at hg => lhs; whnf
  conv at hg5 => lhs; whnf
  rw [hg5] at hg
  clear hg5
  subst hg
  obtain ⟨to, uo⟩ := U.one
  obtain ⟨tkk, vk⟩ := V.kind
  have vc := V.call
  obtain ⟨vdu, ddu⟩ := hdu
  obtain ⟨knd, hnd⟩ := Y.nodes
  rw [M.nest] at F
  rw [nest1 uo] at F
  rw [nest1 vk] at F
  rw [nest1 vc] at F
  rw [nest1 dtold] at F
  rw [nest1 dans] at F
  rw [nest1 drai] at F
  rw [nest1 ddu] at F
  obtain ⟨oc, od, fd, sl, hfn⟩ := hfn
  k_steps
  k_dflt (refine callWith_N (h₀ := h₀) (L := L) hfn ?_)
  k_steps
  unfold Stop
  k_dflt (refine item_litK (News.isList (by assumption) (.tail _ hnd)) (Int.natCast_nonneg _) (by show (one : Int) < 2 ^ 63; omega) (by rw [Int.toNat_natCast]; exact get5 (fun j => .ref (σ.X j)) (by omega)) ?_)
  k_steps
  · assumption
  unfold Stop
  rename Fr _ _ _ _ => F5
  rename News _ _ _ _ => N5
  k_dflt (refine hcall _ _ _ _ h₀ L h₀ _ _ _ _ B (Around.frames_deeper B.stack) ⟨⟨_, _, _, B, Around.frames_deeper B.stack⟩, F5, X, N5, T, rfl, rfl, rfl⟩ (by k_room) ?_)
  intro h1 tk1 g2 t Fg hup hR
  k_dflt (refine caughtC B Fg hup hR (topRead_of T) ?_ (mg_none_of X T.g (by show nsIn (hd.heap_39 w.params) _ _ = _; k_is)))
  intro h2 tk2 E2 F2 N2
  k_steps
  k_dflt (refine goesC (by assumption) (by assumption) ?_)
  intro h3 v F3 N3
  refine hQ _ _ _ F3 ?_ ?_ ⟨?_, ?_, ?_, ?_, ?_⟩ N3 <;> first | with_unfolding_all rfl | with_unfolding_all exact ddu.symm
end Mine

namespace Mine
open PySem.Calls PySem.Spec
local macro_rules | `(tactic| k_room) => `(tactic| ((try simp only [depth_under_make, depth_under_kw, depth_in1, depth_deeper, depth_caller]); (try dsimp only); omega))
local macro_rules | `(tactic| k_mem) => `(tactic| first | with_reducible assumption | (with_reducible k_memK) | ((repeat with_reducible refine List.Mem.tail _ ?_); assumption))
local macro_rules | `(tactic| k_all) => `(tactic| assumption)
theorem fillD1 (w : World) : PySem.Challenge.rw_kq0045_01 = PySem.Challenge.rw_kq0045_01 ∧ hd.heap_39 w.params = hd.heap_39 w.params := by
  k_fill
  exact ⟨rfl, rfl⟩

open PySem in
theorem del_all {prog : Program} {w : World} {A : Around} {E : Value → Shared → Prop} {s : Shared} {h₀ : Heap} {L l : Addr} {m : Str → Option Value} {Q : Unit → Shared → Prop} {news : Led} {its : List Value} {n : Nat} (hi : its = [] ∨ ∃ x, its = [x])
    (F : Fr h₀ L s.heap m) (N : News h₀ L s.heap ((l, W.listOf its.toArray n) :: news)) (off : ∀ q ∈ news, q.1 ≠ l)
    (h : ∀ h' k', Fr h₀ L h' m → News h₀ L h' ((l, W.listOf #[] k') :: news) → Q () { s with heap := h' }) :
    wpAny (model prog w) A (delItem (.ref l) (.ref s.heap.objs.size)) Q E { s with heap := s.heap.push { cls := .type "slice", data := .fields #[.none, .none, .none] } } := by
  have F1 := F.push { cls := .type "slice", data := .fields #[.none, .none, .none] }
  have N1 : News h₀ L (s.heap.push { cls := .type "slice", data := .fields #[.none, .none, .none] }) ((l, W.listOf its.toArray n) :: news) := N.grown fun _ _ e => Heap.get?_push_of_some _ e
  have z := N1 _ (.head _)
  have hl := z.1
  have hs : Heap.IsSliceOf (s.heap.push { cls := .type "slice", data := .fields #[.none, .none, .none] }) s.heap.objs.size .none .none .none := Heap.IsSliceOf.new ..
  generalize hg : s.heap.push { cls := .type "slice", data := .fields #[.none, .none, .none] } = g at *
  have go : ∀ f : Array Value → Array Value, f its.toArray = #[] → Q () { s with heap := g.update l (Obj.mapSeq f) } := fun f hf =>
    h _ _ (F1.change (Heap.SameBut.update ..) z.2.1 z.2.2) (ki_turn (pre := []) f N1 (fun _ h => absurd h List.not_mem_nil) off hf rfl)
  have hTs : Shared.TypeIs { s with heap := g } (.ref s.heap.objs.size) "slice" := let ⟨os, hos, hcs, _⟩ := hs; ⟨os, hos, hcs⟩
  have hT : Shared.TypeIs { s with heap := g } (.ref l) "list" := ⟨_, hl, rfl⟩
  obtain ⟨os, hos, hcs, hds⟩ := id hs
  refine wpAny_delItem_slot (T := "list") hT (by decide) PySem.F.slot_list_delitem (wpAny_call_entry PySem.F.slot_list_delitem hT PySem.F.entry_list_delitem ?_ (PySem.F.args_list_delitem_2 _ _))
  show wpAny _ _ (Builtin.List.listSubscript? (.ref _) >>= _) _ _ _
  refine wpAny_bind ?_
  unfold Builtin.List.listSubscript?
  refine wpAny_bind (wpAny_specialOf hTs slice_no_index ?_)
  simp only [Option.isNone_none, if_true]
  refine wpAny_pure ?_
  show wpAny _ _ (typeOf (.ref _) >>= _) _ _ _
  refine wpAny_bind (wpAny_typeOf hTs ?_)
  rw [if_neg (by decide)]
  rw [listSliceParts_eq]
  refine wpAny_bind (wpAny_bind (wpAny_field hos hds (x := .none) rfl (wpAny_bind (wpAny_listPart .none ?_))))
  rw [if_neg (by decide)]
  refine wpAny_bind (wpAny_field hos hds (x := .none) rfl (wpAny_bind (wpAny_listPart .none ?_)))
  refine wpAny_bind (wpAny_field hos hds (x := .none) rfl (wpAny_bind (wpAny_listPart .none (wpAny_pure ?_))))
  rcases hi with rfl | ⟨x, rfl⟩
  · refine wpAny_bind (m := Builtin.List.listItems (.ref l)) ?_
    unfold Builtin.List.listItems
    refine wpAny_bind (wpAny_seqItems hl rfl (wpAny_pure ?_))
    refine wpAny_bind (wpAny_of_eq (sliceIndices_raw none none none _ (by intro h; cases h)) ?_)
    refine wpAny_bind (wpAny_rule ?_)
    refine wpAny_bind (m := Builtin.List.listUpdate (.ref l) _) ?_
    unfold Builtin.List.listUpdate
    refine wpAny_updateSeq hl rfl ?_ (by show 0 ≤ sizeLine; decide) (by show 0 ≤ sizeLine + 1; decide)
    refine wpAny_bind (wpAny_letGo (wpAny_pure ⟨.none, rfl, go _ ?_⟩))
    rfl
  · refine wpAny_bind (m := Builtin.List.listItems (.ref l)) ?_
    unfold Builtin.List.listItems
    refine wpAny_bind (wpAny_seqItems hl rfl (wpAny_pure ?_))
    refine wpAny_bind (wpAny_of_eq (sliceIndices_raw none none none _ (by intro h; cases h)) ?_)
    refine wpAny_bind (wpAny_rule ?_)
    refine wpAny_bind (m := Builtin.List.listUpdate (.ref l) _) ?_
    unfold Builtin.List.listUpdate
    refine wpAny_updateSeq hl rfl ?_ (by show 1 ≤ sizeLine; decide) (by show 0 ≤ sizeLine + 1; decide)
    refine wpAny_bind (wpAny_letGo (wpAny_pure ⟨.none, rfl, go _ ?_⟩))
    rfl
end Mine

namespace Mine
open PySem.Calls PySem.Spec
local macro_rules | `(tactic| k_room) => `(tactic| ((try simp only [depth_under_make, depth_under_kw, depth_in1, depth_deeper, depth_caller]); (try dsimp only); omega))
local macro_rules | `(tactic| k_mem) => `(tactic| first | with_reducible assumption | (with_reducible k_memK) | ((repeat with_reducible refine List.Mem.tail _ ?_); assumption))
local macro_rules | `(tactic| k_all) => `(tactic| assumption)
local macro_rules | `(tactic| walk_at "subscriptTail") => `(tactic| (refine stop_ ?_))
local macro_rules | `(tactic| walk_at "getItem ref int") => `(tactic| (refine stop_ ?_))
local macro_rules | `(tactic| walk_at "setItem ref int") => `(tactic| (refine stop_ ?_))
local macro_rules | `(tactic| walk_at "call ref") => `(tactic| (refine stop_ ?_))
local macro_rules | `(tactic| walk_at "compareOp NotEq ref ref") => `(tactic| (refine stop_ ?_))
theorem fillT11 (w : World) : PySem.Challenge.rw_kq0045_01 = PySem.Challenge.rw_kq0045_01 ∧ hd.heap_39 w.params = hd.heap_39 w.params := by
  k_fill
  exact ⟨rfl, rfl⟩

set_option maxHeartbeats 2000000 in
theorem turn_i {w : World} {p : Program} {loose : List Str} {mean : ExcName → Option Value} {mg mb : Str → Option Value} {A₀ : Around} {outer : List Env} {h₀ : Heap} {L fa : Addr} {cd : Value} {s : Shared} {m : Str → Option Value}
    {Q : Flow → Shared → Prop} {E : Value → Shared → Prop} {σ : Sta} {nd st fs rt kk du : Nat} {its : List Value} {n : Led}
    (hA : A₀ = callerA) (B : Below A₀ h₀ outer h₀) (X : (hd.heap_39 w.params).In h₀) (T : Top p loose mean mg mb h₀)
    (F : Fr h₀ L s.heap m) (N : News h₀ L s.heap ((σ.heard, W.listOf its.toArray kk) :: n)) (off : ∀ q ∈ n, q.1 ≠ σ.heard) (M : Nm σ nd st fs rt m) (hr : m "right" = some (.bool true)) (ddu : m "due" = some (.ref du))
    (hi : its = [] ∨ ∃ x, its = [x])
    (hne : ∀ (A : Around) (s : Shared), A.units < 9000 → News h₀ L s.heap ((σ.heard, W.listOf its.toArray kk) :: n) → PySem.SeqAt.RcNeAt A s (.ref σ.heard) (.ref du) false)
    (hQ : ∀ h' tk kk', Fr h₀ L h' m → News h₀ L h' ((σ.heard, W.listOf #[] kk') :: n) → Q .next (St s h' tk)) :
    wpAny (model PySem.Challenge.rw_kq0045_01.row.prog w) (A₀.deeper (envOfC "law" lawScope L fa cd)) (execs (turnBody.drop 14) (envOfC "law" lawScope L fa cd)) Q E s := by
  subst hA
  generalize hg : turnBody.drop 14 = g
  conv at hg => lhs; whnf
  subst hg
  rw [M.nest] at F
  rw [nest1 hr] at F
  rw [nest1 ddu] at F
  k_steps
  unfold Stop
  k_dflt (refine' hne _ _ ?hu ?N _ _ _ _ ?_; (case hu => exact Nat.le_of_ble_eq_true rfl); (case N => assumption))
  k_steps
  k_dflt (refine del_all hi (by assumption) (by assumption) off ?_)
  intro h1 k1 F1 N1
  k_steps
  refine hQ _ _ _ ?_ (by assumption)
  rw [M.nest, nest1 hr, nest1 ddu]
  assumption
end Mine

namespace Mine
open PySem.Calls PySem.Spec
local macro_rules | `(tactic| k_room) => `(tactic| ((try simp only [depth_under_make, depth_under_kw, depth_in1, depth_deeper, depth_caller]); (try dsimp only); omega))
local macro_rules | `(tactic| k_mem) => `(tactic| first | with_reducible assumption | (with_reducible k_memK) | ((repeat with_reducible refine List.Mem.tail _ ?_); assumption))
local macro_rules | `(tactic| k_all) => `(tactic| assumption)
theorem fillT12 (w : World) : PySem.Challenge.rw_kq0045_01 = PySem.Challenge.rw_kq0045_01 ∧ hd.heap_39 w.params = hd.heap_39 w.params := by
  k_fill
  exact ⟨rfl, rfl⟩

open SeqAt in
theorem due_ne {A : Around} {s : Shared} {h₀ : Heap} {L : Addr} {news : Led} {heard du t dt l ds : Nat} {e κ : Int} {a1 a2 b1 b2 : Tok} {k1 k2 k3 k4 : Nat} {xs : Array Value} (hu : A.units < 9000) (N : News h₀ L s.heap news)
    (h1 : (heard, W.listOf #[.ref t] k1) ∈ news) (h2 : (du, W.listOf #[.ref dt] k2) ∈ news) (h3 : (t, tupObj [.int e a1, .int κ a2, .ref l]) ∈ news) (h4 : (dt, tupObj [.int e b1, .int κ b2, .ref ds]) ∈ news)
    (h5 : (l, W.listOf xs k3) ∈ news) (h6 : (ds, W.listOf xs k4) ∈ news) : RcNeAt A s (.ref heard) (.ref du) false := by
  have c : cLine = 9900 := rfl
  have u1 : A.in1.units = A.units + 1 := rfl
  have u2 : A.in1.in1.units = A.units + 1 + 1 := rfl
  have all : ∀ n : Nat, (List.range n).all (fun _ => true) = true := fun n => List.all_eq_true.mpr fun _ _ => rfl
  have inner : EqAt A.in1.in1 s (.ref l) (.ref ds) true := by
    by_cases e1 : l = ds
    · subst e1; exact EqAt.same _
    · have := RcAt.lists (A := A.in1.in1) (s := s) (e := fun _ => true) ⟨_, (N _ h5).1, rfl, _, rfl⟩ ⟨_, (N _ h6).1, rfl, _, rfl⟩ rfl (by rw [u2, c]; omega) (fun j h1 h2 => EqAt.same _)
      rw [all] at this
      exact EqAt.of_refs e1 this
  have mid : EqAt A.in1 s (.ref t) (.ref dt) true := by
    by_cases e1 : t = dt
    · subst e1; exact EqAt.same _
    · have he : ∀ j (h1 : j < #[Value.int e a1, .int κ a2, .ref l].size) (h2 : j < #[Value.int e b1, .int κ b2, .ref ds].size), EqAt A.in1.in1 s #[Value.int e a1, .int κ a2, .ref l][j] #[Value.int e b1, .int κ b2, .ref ds][j] ((fun _ => true) j) := fun j h1 h2 =>
        match j, h1 with
        | 0, _ => by have := EqAt.int_int (A := A.in1.in1) (s := s) e a1 e b1; rw [beq_self_eq_true] at this; exact this
        | 1, _ => by have := EqAt.int_int (A := A.in1.in1) (s := s) κ a2 κ b2; rw [beq_self_eq_true] at this; exact this
        | 2, _ => inner
      have := RcAt.tuples (A := A.in1) (s := s) (e := fun _ => true) ⟨_, (N _ h3).1, rfl, _, rfl⟩ ⟨_, (N _ h4).1, rfl, _, rfl⟩ (by rw [u1, c]; omega) he
      exact EqAt.of_refs e1 this
  have := RcNeAt.lists (A := A) (s := s) (e := fun _ => true) ⟨_, (N _ h1).1, rfl, _, rfl⟩ ⟨_, (N _ h2).1, rfl, _, rfl⟩ rfl (by rw [c]; omega) (fun j h1 h2 => match j, h1 with | 0, _ => mid)
  exact this
open SeqAt in
theorem nil_ne {A : Around} {s : Shared} {h₀ : Heap} {L : Addr} {news : Led} {heard du : Nat} {k1 k2 : Nat} (hu : A.units < 9000) (N : News h₀ L s.heap news) (h1 : (heard, W.listOf #[] k1) ∈ news) (h2 : (du, W.listOf #[] k2) ∈ news) : RcNeAt A s (.ref heard) (.ref du) false := by
  have c : cLine = 9900 := rfl
  have := RcNeAt.lists (A := A) (s := s) (e := fun _ => true) ⟨_, (N _ h1).1, rfl, _, rfl⟩ ⟨_, (N _ h2).1, rfl, _, rfl⟩ rfl (by rw [c]; omega) (fun j h1 h2 => absurd h1 (Nat.not_lt_zero _))
  exact this

theorem Lw.more {Γ : Gl} {σ : Sta} {R : Routes} {nd st fs rt cnt : Nat} {n n' : Led} (Y : Lw Γ σ R nd st fs rt cnt n) (sub : ∀ q ∈ n, q ∈ n') (off : ∀ q ∈ n', q.1 ≠ σ.heard) (fn : ∀ a o o', (a, o) ∈ n' → (a, o') ∈ n' → o = o') : Lw Γ σ R nd st fs rt cnt n' :=
  Y.move (o := rangeIt 0 0 0) (fun q hq _ => sub q hq) ⟨_, _, _, rfl⟩ (fun q hq => .inr (off q hq)) fn
theorem fn_of {h₀ h : Heap} {L : Addr} {n n' : Led} (N : News h₀ L h n) (sub : ∀ q ∈ n', q ∈ n) : ∀ a o o', (a, o) ∈ n' → (a, o') ∈ n' → o = o' := fun _ _ _ h1 h2 => News_fn N (sub _ h1) (sub _ h2)
theorem evSize_le : ∀ {κ : Nat}, κ < 19 → evSize κ ≤ 4 := by
  intro κ h
  rcases lt19 h with rfl | rfl | rfl | rfl | rfl | rfl | rfl | rfl | rfl | rfl | rfl | rfl | rfl | rfl | rfl | rfl | rfl | rfl | rfl <;> decide
theorem Calls.le {Γ : Gl} {d d' : Nat} {f : Value} {args : List Value} {news : Led} {P : Value → Led → Prop} (h : d ≤ d') (H : Calls Γ d f args news P) : Calls Γ d' f args news P :=
  fun A env L h₀ m s Q E C hd hQ => H A env L h₀ m s Q E C (by omega) hQ

set_option maxHeartbeats 2000000 in
theorem end_H {w : World} {p : Program} {loose : List Str} {mean : ExcName → Option Value} {mg mb : Str → Option Value} {A₀ : Around} {outer : List Env} {h₀ : Heap} {L fa : Addr} {cd : Value} {s : Shared} {m : Str → Option Value}
    {Q : Flow → Shared → Prop} {E : Value → Shared → Prop} {σ : Sta} {R : Routes} {nd st fs rt cnt i kk way num one κ f told e : Nat} {vs : List Value} {n S : Led}
    (hA : A₀ = callerA) (B : Below A₀ h₀ outer h₀) (X : (hd.heap_39 w.params).In h₀) (T : Top p loose mean mg mb h₀)
    (F : Fr h₀ L s.heap m) (N : News h₀ L s.heap ((σ.heard, W.listOf #[] kk) :: n)) (Y : Lw (G0 w p loose mean mg mb) σ R nd st fs rt cnt n) (M : Nm σ nd st fs rt m) (U : Tm i way num one m) (V : Tk κ f m) (D : Ev κ vs n told (some e) m) (hlen : vs.length = 4) (hκ : κ < 19) (ho : one < 3)
    (hend : chase R (evSort κ) 5 one = some e) (hS : ∀ q ∈ S, q ∈ (σ.heard, W.listOf #[] kk) :: n) (hC : CLam (G0 w p loose mean mg mb) (evName κ) (evSize κ) f S)
    (hE : PassesOwn (model PySem.Challenge.rw_kq0045_01.row.prog w) (A₀.deeper (envOfC "law" lawScope L fa cd)) (envOfC "law" lawScope L fa cd) E)
    (hQ : ∀ h' tk m' kk' n', Fr h₀ L h' m' → News h₀ L h' ((σ.heard, W.listOf #[] kk') :: n') → Lw (G0 w p loose mean mg mb) σ R nd st fs rt cnt n' → Nm σ nd st fs rt m' → (∀ q ∈ n, q ∈ n') → Q .next (St s h' tk)) :
    wpAny (model PySem.Challenge.rw_kq0045_01.row.prog w) (A₀.deeper (envOfC "law" lawScope L fa cd)) (execs (turnBody.drop 13) (envOfC "law" lawScope L fa cd)) Q E s := by
  obtain ⟨dtold, dmem, ⟨du, ddue, dt, ds, te, tkd, hd1, hd2, hd3⟩, ⟨va, dans, tva, rfl⟩, ⟨b, drai, dR⟩⟩ := D
  have eb : b = false := by
    cases b with
    | false => rfl
    | true => exact absurd (dR.mp rfl).1 (by intro h; cases h)
  subst eb
  have ha : (vs.take (evSize κ)).length = evSize κ := by
    have := evSize_le hκ
    rw [List.length_take, hlen]; omega
  have hM := ev_heard Y.shows Y.vr hκ ha (k := kk) 5 one (by omega) (by omega) hend
  rw [if_neg (by omega)] at hM
  have hcall := (hC.2.1 _ (.ref (σ.X one)) told 0 vs 8 _ hlen hS (.tail _ dmem) hM).le (d' := 20) (by omega)
  obtain ⟨oc, od, fd, sl, hf⟩ := hC.1
  have kp : ∀ r n3, HopP κ (ToldP σ.heard e κ (vs.take (evSize κ)) kk n) r n3 → (κ = 15 ∧ ∃ tk, r = .str (Str.ofString "") tk ∨ False) ∨ (κ ≠ 15 ∧ r = .none) := fun r n3 h => by
    unfold HopP at h
    by_cases e15 : κ = 15
    · rw [if_pos e15] at h
      obtain ⟨t, l, tk, tn, tq, h, _⟩ := h
      exact .inl ⟨e15, tk, .inl h⟩
    · rw [if_neg e15] at h
      exact .inr ⟨e15, h.1⟩
  have kn : ∀ r n3, HopP κ (ToldP σ.heard e κ (vs.take (evSize κ)) kk n) r n3 → ∃ r, ToldP σ.heard e κ (vs.take (evSize κ)) kk n r n3 := fun r n3 h => by
    unfold HopP at h
    by_cases e15 : κ = 15
    · rw [if_pos e15] at h
      exact ⟨r, h⟩
    · rw [if_neg e15] at h
      exact h.2
  refine try_ok (e := e) hA B X T F N Y M U V dtold dans drai ho ⟨oc, od, fd, sl, hS _ hf⟩ hcall (fun r n3 h => ?_) hE fun h' tk r n3 hP F3 N3 => ?_
  · rcases kp r n3 h with ⟨e15, tk, hr | hr⟩ | ⟨e15, hr⟩
    · exact .inr (.inr (.inl ⟨by omega, tk, tva, hr, by unfold ansV; rw [if_pos e15]⟩))
    · exact hr.elim
    · by_cases h15 : 15 < κ
      · exact .inl ⟨h15, hr⟩
      · exact .inr (.inl ⟨by omega, hr, by unfold ansV; rw [if_neg e15, if_neg (by omega), if_neg (by omega)]⟩)
  · obtain ⟨r', t, l, tk', tn, tq, _, rfl, hl1, hl2, hl3⟩ := kn r n3 hP
    have hl4 : ¬ @Eq Nat t σ.heard := by intro e; have e : @Eq Nat _ _ := e; omega
    have hl5 : ¬ @Eq Nat l σ.heard := by intro e; have e : @Eq Nat _ _ := e; omega
    have N4 := pull2 (pre := [_, _]) N3 Y.shows.xoff (by intro q hq; simp only [List.mem_cons, List.not_mem_nil, or_false] at hq; rcases hq with rfl | rfl <;> assumption)
    refine turn_i (its := [.ref t]) hA B X T F3 N4.1 N4.2 (M.set (by decide) (by decide) (by decide) (by decide) (by decide)) (if_pos rfl) ((if_neg (by decide)).trans ddue) (.inr ⟨_, rfl⟩) (fun A s hu N => ?_) fun h2 tk2 kk2 F5 N5 => ?_
    · exact due_ne hu N (.head _) (.tail _ (.tail _ (.tail _ hd1))) (.tail _ (.head _)) (.tail _ (.tail _ (.tail _ hd2))) (.tail _ (.tail _ (.head _))) (.tail _ (.tail _ (.tail _ hd3)))
    · exact hQ h2 tk2 _ kk2 _ F5 N5 (Y.more (fun q hq => .tail _ (.tail _ hq)) N4.2 (fn_of N5 fun q hq => .tail _ hq)) (M.set (by decide) (by decide) (by decide) (by decide) (by decide)) (fun q hq => .tail _ (.tail _ hq))
end Mine

namespace Mine
open PySem.Calls PySem.Spec
local macro_rules | `(tactic| k_room) => `(tactic| ((try simp only [depth_under_make, depth_under_kw, depth_in1, depth_deeper, depth_caller]); (try dsimp only); omega))
local macro_rules | `(tactic| k_mem) => `(tactic| first | with_reducible assumption | (with_reducible k_memK) | ((repeat with_reducible refine List.Mem.tail _ ?_); assumption))
local macro_rules | `(tactic| k_all) => `(tactic| assumption)
theorem fillT13 (w : World) : PySem.Challenge.rw_kq0045_01 = PySem.Challenge.rw_kq0045_01 ∧ hd.heap_39 w.params = hd.heap_39 w.params := by
  k_fill
  exact ⟨rfl, rfl⟩

theorem Lw.quiet {Γ : Gl} {σ : Sta} {R : Routes} {nd st fs rt cnt : Nat} {n n' : Led} (Y : Lw Γ σ R nd st fs rt cnt n) (S : Shows Γ σ R R n') (hk : ∀ q ∈ n, (∀ i < 3, q.1 ≠ σ.HD 0 i) → q ∈ n') : (∀ a o, (a, o) ∈ n → o.cls ≠ .type "dict" → (a, o) ∈ n') ∧ Lw Γ σ R nd st fs rt cnt n' := by
  have tn : ∀ a b : String, a ≠ b → Value.type a ≠ .type b := fun a b h e => h (by injection e)
  have K : ∀ {a : Nat} {o : Obj}, (a, o) ∈ n → o.cls ≠ .type "dict" → (a, o) ∈ n' := fun {a o} h hc => hk _ h fun i hi e => by
    obtain ⟨t, v, hD⟩ := Y.shows.cont i hi
    have e : a = σ.HD 0 i := e
    rw [e] at h
    exact hc (by rw [Y.shows.fn _ _ _ h hD])
  refine ⟨fun a o => K, S, Y.vr, ?_, ?_, ?_, ?_, ?_, let ⟨ps, h⟩ := Y.tab; ⟨ps, K h (by intro e; cases e)⟩⟩
  · obtain ⟨k, a⟩ := Y.nodes
    exact ⟨k, K a (tn _ _ (by decide))⟩
  · obtain ⟨items, k, a, b, cc⟩ := Y.steps
    refine ⟨items, k, K a (tn _ _ (by decide)), b, fun j hj => ?_⟩
    obtain ⟨t, way, num, ta, tb, d, e⟩ := cc j hj
    exact ⟨t, way, num, ta, tb, d, K e (tn _ _ (by decide))⟩
  · obtain ⟨k, a⟩ := Y.routes
    exact ⟨k, K a (tn _ _ (by decide))⟩
  · obtain ⟨g, k, a, b⟩ := Y.first
    refine ⟨g, k, K a (tn _ _ (by decide)), fun j hj => ?_⟩
    obtain ⟨k, c⟩ := b j hj
    exact ⟨k, K c (tn _ _ (by decide))⟩
  · refine Y.calls.mono' (fun ps h => K h (by intro e; cases e)) (fun q hq' h _ => hk q hq' fun i hi e => ?_)
    obtain ⟨t, v, hD⟩ := Y.shows.cont i hi
    obtain ⟨a, o⟩ := q
    have e : a = _ := e
    subst e
    rw [Y.shows.fn _ _ _ hq' hD] at h
    cases h
theorem evSize15 : evSize 15 = 2 := by decide

set_option maxHeartbeats 2000000 in
theorem end_Q {w : World} {p : Program} {loose : List Str} {mean : ExcName → Option Value} {mg mb : Str → Option Value} {A₀ : Around} {outer : List Env} {h₀ : Heap} {L fa : Addr} {cd : Value} {s : Shared} {m : Str → Option Value}
    {Q : Flow → Shared → Prop} {E : Value → Shared → Prop} {σ : Sta} {R : Routes} {nd st fs rt cnt i kk way num one κ f told : Nat} {vs : List Value} {n S : Led}
    (hA : A₀ = callerA) (B : Below A₀ h₀ outer h₀) (X : (hd.heap_39 w.params).In h₀) (T : Top p loose mean mg mb h₀)
    (F : Fr h₀ L s.heap m) (N : News h₀ L s.heap ((σ.heard, W.listOf #[] kk) :: n)) (Y : Lw (G0 w p loose mean mg mb) σ R nd st fs rt cnt n) (M : Nm σ nd st fs rt m) (U : Tm i way num one m) (V : Tk κ f m) (D : Ev κ vs n told none m) (hlen : vs.length = 4) (hκ : κ < 16) (ho : one < 3)
    (hend : chase R (evSort κ) 5 one = none) (hx : κ = 15 → (∃ t, vs.getD 1 .none = .str (Str.ofString "") t) ∨ ∃ (e t : Nat), vs.getD 1 .none = .ref e ∧ (e, excObj t) ∈ n) (hS : ∀ q ∈ S, q ∈ (σ.heard, W.listOf #[] kk) :: n) (hC : CLam (G0 w p loose mean mg mb) (evName κ) (evSize κ) f S)
    (hE : PassesOwn (model PySem.Challenge.rw_kq0045_01.row.prog w) (A₀.deeper (envOfC "law" lawScope L fa cd)) (envOfC "law" lawScope L fa cd) E)
    (hQ : ∀ h' tk m' kk' n', Fr h₀ L h' m' → News h₀ L h' ((σ.heard, W.listOf #[] kk') :: n') → Lw (G0 w p loose mean mg mb) σ R nd st fs rt cnt n' → Nm σ nd st fs rt m' → (∀ q ∈ n, (∀ i < 3, q.1 ≠ σ.HD 0 i) → q ∈ n') → Q .next (St s h' tk)) :
    wpAny (model PySem.Challenge.rw_kq0045_01.row.prog w) (A₀.deeper (envOfC "law" lawScope L fa cd)) (execs (turnBody.drop 13) (envOfC "law" lawScope L fa cd)) Q E s := by
  obtain ⟨dtold, dmem, ⟨du, ddue, hd1⟩, ⟨va, dans, rfl⟩, ⟨b, drai, dR⟩⟩ := D
  have eb : b = false := by
    cases b with
    | false => rfl
    | true => exact absurd (dR.mp rfl).2 (by omega)
  subst eb
  have ha : (vs.take (evSize κ)).length = evSize κ := by
    have := evSize_le (κ := κ) (by omega)
    rw [List.length_take, hlen]; omega
  have hM := ev_none Y.shows Y.vr hκ ha (k := kk) 5 one (by omega) (by omega) hend
  have hcall := (hC.2.1 _ (.ref (σ.X one)) told 0 vs 8 _ hlen hS (.tail _ dmem) hM).le (d' := 20) (by omega)
  obtain ⟨oc, od, fd, sl, hf⟩ := hC.1
  refine try_ok (e := 0) hA B X T F N Y M U V dtold dans drai ho ⟨oc, od, fd, sl, hS _ hf⟩ hcall (fun r n3 h => ?_) hE fun h' tk r n3 hP F3 N3 => ?_
  · obtain ⟨hr, n2, hn2, S2, hk⟩ := h
    obtain ⟨K, Y2⟩ := Y.quiet S2 hk
    by_cases e15 : κ = 15
    · subst e15
      rw [if_pos rfl, evSize15] at hr
      have hr : r = vs.getD 1 .none := by
        obtain ⟨x0, x1, x2, x3, rfl⟩ := len4 hlen
        exact hr
      have hv : ansV 15 (vs.getD 1 .none) (vs.getD 0 .none) (vs.getD 0 .none) = vs.getD 1 .none := if_pos rfl
      rw [hv, hr]
      rcases hx rfl with ⟨t, h⟩ | ⟨e, t, h, he⟩
      · exact .inr (.inr (.inl ⟨by omega, t, t, h, h⟩))
      · exact .inr (.inr (.inr ⟨by omega, e, t, h, h, hn2 _ (.tail _ (K _ _ he (by intro e; injection e with e; revert e; decide)))⟩))
    · rw [if_neg e15] at hr
      exact .inr (.inl ⟨by omega, hr, by unfold ansV; rw [if_neg e15, if_neg (by omega), if_neg (by omega)]⟩)
  · obtain ⟨hr, n2, hn2, S2, hk⟩ := hP
    obtain ⟨K, Y2⟩ := Y.quiet S2 hk
    have N4 : News h₀ L h' ((σ.heard, W.listOf #[] kk) :: n2) := fun q hq => N3 q (hn2 q hq)
    refine turn_i (its := []) hA B X T F3 N4 S2.xoff (M.set (by decide) (by decide) (by decide) (by decide) (by decide)) (if_pos rfl) ((if_neg (by decide)).trans ddue) (.inl rfl) (fun A s hu N => ?_) fun h2 tk2 kk2 F5 N5 => ?_
    · exact nil_ne hu N (.head _) (.tail _ (K _ _ hd1 (by intro e; injection e with e; revert e; decide)))
    · exact hQ h2 tk2 _ kk2 _ F5 N5 Y2 (M.set (by decide) (by decide) (by decide) (by decide) (by decide)) hk

set_option maxHeartbeats 2000000 in
theorem end_R {w : World} {p : Program} {loose : List Str} {mean : ExcName → Option Value} {mg mb : Str → Option Value} {A₀ : Around} {outer : List Env} {h₀ : Heap} {L fa : Addr} {cd : Value} {s : Shared} {m : Str → Option Value}
    {Q : Flow → Shared → Prop} {E : Value → Shared → Prop} {σ : Sta} {R : Routes} {nd st fs rt cnt i kk way num one κ f told : Nat} {vs : List Value} {n n₀ S : Led}
    (hA : A₀ = callerA) (B : Below A₀ h₀ outer h₀) (X : (hd.heap_39 w.params).In h₀) (T : Top p loose mean mg mb h₀)
    (F : Fr h₀ L s.heap m) (N : News h₀ L s.heap ((σ.heard, W.listOf #[] kk) :: n)) (Y : Lw (G0 w p loose mean mg mb) σ R nd st fs rt cnt n) (M : Nm σ nd st fs rt m) (U : Tm i way num one m) (V : Tk κ f m) (D : Ev κ vs n told none m) (hlen : vs.length = 4) (hκ : κ = 16 ∨ κ = 17) (ho : one < 3)
    (off : ∀ q ∈ n, q.1 ≠ σ.heard) (Y0 : Lw (G0 w p loose mean mg mb) σ R nd st fs rt cnt n₀) (h0 : ∀ q ∈ n₀, q ∈ n) (hend : chase R (evSort κ) 5 one = none) (hx : ExcAt σ.heard n₀ n (vs.getD 0 .none)) (hS : ∀ q ∈ S, q ∈ (σ.heard, W.listOf #[] kk) :: n) (hC : CLam (G0 w p loose mean mg mb) (evName κ) (evSize κ) f S)
    (hE : PassesOwn (model PySem.Challenge.rw_kq0045_01.row.prog w) (A₀.deeper (envOfC "law" lawScope L fa cd)) (envOfC "law" lawScope L fa cd) E)
    (hQ : ∀ h' tk m' kk' n', Fr h₀ L h' m' → News h₀ L h' ((σ.heard, W.listOf #[] kk') :: n') → Lw (G0 w p loose mean mg mb) σ R nd st fs rt cnt n' → Nm σ nd st fs rt m' → (∀ q ∈ n₀, q ∈ n') → Q .next (St s h' tk)) :
    wpAny (model PySem.Challenge.rw_kq0045_01.row.prog w) (A₀.deeper (envOfC "law" lawScope L fa cd)) (execs (turnBody.drop 13) (envOfC "law" lawScope L fa cd)) Q E s := by
  obtain ⟨dtold, dmem, ⟨du, ddue, hd1⟩, ⟨va, dans, rfl⟩, ⟨b, drai, dR⟩⟩ := D
  have eb : b = true := dR.mpr ⟨rfl, by omega⟩
  subst eb
  obtain ⟨e, t, x, hxe, he, ht, hoff, hhe, hht⟩ := hx
  have hva : ansV κ (vs.getD 1 .none) (vs.getD 0 .none) (vs.getD 0 .none) = .ref e := by
    rw [← hxe]; unfold ansV
    rcases hκ with rfl | rfl <;> rfl
  rw [hva] at dans
  have fn := fn_of N fun q hq => hq
  have dne : ∀ {b : Nat} {o : Obj}, (b, o) ∈ n → o.cls ≠ .type "list" → ¬ @Eq Nat du b := fun h hc e => by
    rw [← e] at h
    exact hc (by rw [fn _ _ _ (.tail _ h) (.tail _ hd1)])
  have due : ¬ @Eq Nat du e := dne he (by intro e; injection e with e; revert e; decide)
  have dut : ¬ @Eq Nat du t := dne ht (by intro e; injection e with e; revert e; decide)
  have hr : ∀ q ∈ (σ.heard, W.listOf #[] kk) :: (du, W.listOf #[] 0) :: n₀, q ∈ (σ.heard, W.listOf #[] kk) :: n ∧ q.1 ≠ e ∧ q.1 ≠ t := fun q hq => by
    rcases List.mem_cons.mp hq with rfl | hq
    · exact ⟨.head _, hhe, hht⟩
    · rcases List.mem_cons.mp hq with rfl | hq
      · exact ⟨.tail _ hd1, due, dut⟩
      · exact ⟨.tail _ (h0 _ hq), hoff q hq⟩
  have hM := ev_raise (news := (σ.heard, W.listOf #[] kk) :: n) (rest := (σ.heard, W.listOf #[] kk) :: (du, W.listOf #[] 0) :: n₀) (xs := [x]) Y0.shows Y0.vr (fun q hq => .tail _ (h0 q hq)) hκ (.tail _ he) (.tail _ ht) hr 5 one (by omega) (by omega) hend
  have ea : vs.take (evSize κ) = [.ref e] := by
    obtain ⟨x0, x1, x2, x3, rfl⟩ := len4 hlen
    have hxe : x0 = .ref e := hxe
    subst hxe
    rcases hκ with rfl | rfl <;> rfl
  have hcall := (hC.2.2 _ (.ref (σ.X one)) told 0 vs 8 e [x] _ hlen hS (.tail _ dmem) (by rw [ea]; exact hM)).le (d' := 20) (by omega)
  obtain ⟨oc, od, fd, sl, hf⟩ := hC.1
  refine try_raise hA B X T F N Y M U V dtold dans drai ho ⟨oc, od, fd, sl, hS _ hf⟩ hcall ⟨_, ddue⟩ hE fun h' tk m' F3 hr hdu M3 N3 => ?_
  have off' : ∀ q ∈ (du, W.listOf #[] 0) :: n₀, q.1 ≠ σ.heard := fun q hq => by
    rcases List.mem_cons.mp hq with rfl | hq
    · exact off _ hd1
    · exact off _ (h0 q hq)
  refine turn_i (its := []) hA B X T F3 N3 off' M3 hr (hdu.trans ddue) (.inl rfl) (fun A s hu N => nil_ne hu N (.head _) (.tail _ (.head _))) fun h2 tk2 kk2 F5 N5 => ?_
  exact hQ h2 tk2 _ kk2 _ F5 N5 (Y0.more (fun q hq => .tail _ hq) off' (fn_of N5 fun q hq => .tail _ hq)) M3 (fun q hq => .tail _ hq)
end Mine

namespace Mine
open PySem.Calls PySem.Spec
local macro_rules | `(tactic| k_room) => `(tactic| ((try simp only [depth_under_make, depth_under_kw, depth_in1, depth_deeper, depth_caller]); (try dsimp only); omega))
local macro_rules | `(tactic| k_mem) => `(tactic| first | with_reducible assumption | (with_reducible k_memK) | ((repeat with_reducible refine List.Mem.tail _ ?_); assumption))
local macro_rules | `(tactic| k_all) => `(tactic| assumption)
theorem fillT14 (w : World) : PySem.Challenge.rw_kq0045_01 = PySem.Challenge.rw_kq0045_01 ∧ hd.heap_39 w.params = hd.heap_39 w.params := by
  k_fill
  exact ⟨rfl, rfl⟩

theorem chase_ge {R : Routes} {so : Nat} : ∀ f i e, 5 ≤ i + f → chase R so f i = some e → Valid R → i < 5 → 3 ≤ e ∧ e < 5
  | 0, i, e, h, _, _, h5 => absurd h (by omega)
  | f + 1, i, e, h, hc, V, h5 => by
    unfold chase at hc
    by_cases h3 : 3 ≤ i
    · rw [if_pos h3] at hc
      obtain rfl := Option.some.inj hc
      exact ⟨h3, h5⟩
    · rw [if_neg h3] at hc
      cases hr : R so i with
      | none => rw [hr] at hc; cases hc
      | some t =>
        rw [hr] at hc
        obtain ⟨v1, v2⟩ := V _ _ _ hr
        exact chase_ge f t e (by omega) hc V v2

set_option maxHeartbeats 2000000 in
/-- one turn of the loop -/
theorem turn {w : World} {p : Program} {loose : List Str} {mean : ExcName → Option Value} {mg mb : Str → Option Value} {A₀ : Around} {outer : List Env} {h₀ : Heap} {L fa : Addr} {cd : Value} {s : Shared} {m : Str → Option Value}
    {Q : Flow → Shared → Prop} {E : Value → Shared → Prop} {σ : Sta} {R : Routes} {nd st fs rt cnt i kk : Nat} {ti : Tok} {n : Led}
    (hA : A₀ = callerA) (B : Below A₀ h₀ outer h₀) (X : (hd.heap_39 w.params).In h₀) (T : Top p loose mean mg mb h₀)
    (F : Fr h₀ L s.heap (fun y => if y = ("k" : Str) then some (.int i ti) else m y)) (N : News h₀ L s.heap ((σ.heard, W.listOf #[] kk) :: n)) (Y : Lw (G0 w p loose mean mg mb) σ R nd st fs rt cnt n) (M : Nm σ nd st fs rt m) (hi : i < cnt) (hcnt : cnt < 2 ^ 62)
    (hE : PassesOwn (model PySem.Challenge.rw_kq0045_01.row.prog w) (A₀.deeper (envOfC "law" lawScope L fa cd)) (envOfC "law" lawScope L fa cd) E)
    (hQ : ∀ f h' tk m' R' kk' n', f = .next ∨ f = .cont → Fr h₀ L h' m' → News h₀ L h' ((σ.heard, W.listOf #[] kk') :: n') → Lw (G0 w p loose mean mg mb) σ R' nd st fs rt cnt n' → Nm σ nd st fs rt m' →
      (∀ q ∈ n, (∀ j, j < 3 → q.1 ≠ σ.D j) → (∀ j, j < 4 → q.1 ≠ σ.q j) → (∀ j, j < 3 → q.1 ≠ σ.HD 0 j) → q ∈ n') → Q f (St s h' tk)) :
    wpAny (model PySem.Challenge.rw_kq0045_01.row.prog w) (A₀.deeper (envOfC "law" lawScope L fa cd)) (execs turnBody (envOfC "law" lawScope L fa cd)) Q E s := by
  have hh : A₀.handled = none := by subst hA; rfl
  have hdp : A₀.depth + 50 < recursionLimit := by subst hA; k_room
  refine turn_a B hh hdp X T F N Y M hi hcnt fun h1 tk1 m1 way num F1 N1 M1 U1 => ?_
  have ho : num % 3 < 3 := Nat.mod_lt _ (by decide)
  have hc : 0 < cnt := by omega
  by_cases hw : way = 0
  · subst hw
    refine turn_b0 B hh hdp X T F1 N1 Y M1 U1 ho hc fun h2 tk2 R' n' F2 N2 Y2 keep => ?_
    exact hQ .cont h2 tk2 _ R' kk n' (.inr rfl) F2 N2 Y2 M1 (fun q hq a b _ => keep q hq a b)
  refine turn_c B hh hdp X T F1 N1 Y M1 U1 hw fun h2 tk2 m2 n2 f S F2 N2 sub2 off2 M2 U2 V2 hS hC => ?_
  have hκ : num / 3 % 19 < 19 := Nat.mod_lt _ (by decide)
  have Y2 := Y.more sub2 off2 (fn_of N2 fun q hq => .tail _ hq)
  generalize num / 3 % 19 = κ at *
  refine turn_d1 B hh hdp X T F2 N2 off2 M2 U2 V2 fun h3 tk3 m3 n3 told vs F3 N3 sub3 off3 M3 U3 V3 hT3 hm3 hlen hexc => ?_
  refine turn_d2 B hh hdp X T F3 N3 off3 M3 U3 V3 hT3 hm3 fun h4 tk4 m4 n4 told' vs' F4 N4 sub4 off4 M4 U4 V4 hT4 hm4 hvs hend => ?_
  have Y4 := Y2.more (fun q hq => sub4 _ (sub3 _ hq)) off4 (fn_of N4 fun q hq => .tail _ hq)
  have hlen' : vs'.length = 4 := by
    rcases hvs with rfl | ⟨_, t, a, b, rfl⟩
    · exact hlen
    · rfl
  refine turn_f B hh hdp X T F4 N4 Y4 M4 U4 V4 hend ho hκ hE fun h5 tk5 V' hV F5 N5 => ?_
  have M5 := M4.set (x := "end") (v := V') (by decide) (by decide) (by decide) (by decide) (by decide)
  have U5 : Tm i way num (num % 3) (fun y => if y = ("end" : Str) then some V' else m4 y) := ⟨U4.k, U4.way, U4.n, U4.one⟩
  have V5 : Tk κ f (fun y => if y = ("end" : Str) then some V' else m4 y) := ⟨V4.kind, V4.sort, V4.size, V4.call⟩
  have hT5 : (fun y => if y = ("end" : Str) then some V' else m4 y) ("told" : Str) = some (.ref told') := hT4
  have hend5 : (fun y => if y = ("end" : Str) then some V' else m4 y) ("end" : Str) = some V' := if_pos rfl
  have keep4 : ∀ q ∈ n, q ∈ n4 := fun q hq => sub4 _ (sub3 _ (sub2 _ hq))
  cases hch : chase R (evSort κ) 5 (num % 3) with
  | some e =>
    rw [hch] at hV
    obtain ⟨te, rfl⟩ := hV
    refine turn_g_some (R := R) (cnt := cnt) B hh hdp X T F5 N5 off4 M5 U5 V5 hT5 hm4 hlen' hend5 hκ fun h6 tk6 m6 n6 F6 N6 sub6 off6 M6 U6 V6 D6 => ?_
    have Y6 := Y4.more sub6 off6 (fn_of N6 fun q hq => .tail _ hq)
    refine end_H hA B X T F6 N6 Y6 M6 U6 V6 D6 hlen' hκ ho hch (fun q hq => ?_) hC hE fun h7 tk7 m7 kk7 n7 F7 N7 Y7 M7 k7 => ?_
    · rcases List.mem_cons.mp (hS q hq) with rfl | h
      · exact .head _
      · exact .tail _ (sub6 _ (sub4 _ (sub3 _ h)))
    · exact hQ .next h7 tk7 _ R kk7 n7 (.inl rfl) F7 N7 Y7 M7 (fun q hq _ _ _ => k7 _ (sub6 _ (keep4 _ hq)))
  | none =>
    rw [hch] at hV
    obtain rfl : V' = .none := hV
    by_cases h18 : κ = 18
    · refine turn_g_18 (R := R) (cnt := cnt) B hh hdp X T F5 N5 off4 M5 U5 V5 hT5 hm4 hlen' hend5 h18 fun h6 tk6 F6 N6 => ?_
      exact hQ .cont h6 tk6 _ R kk n4 (.inr rfl) F6 N6 Y4 M5 (fun q hq _ _ _ => keep4 _ hq)
    · refine turn_g_none (R := R) (cnt := cnt) B hh hdp X T F5 N5 off4 M5 U5 V5 hT5 hm4 hlen' hend5 (by omega) fun h6 tk6 m6 n6 F6 N6 sub6 off6 M6 U6 V6 D6 => ?_
      have Y6 := Y4.more sub6 off6 (fn_of N6 fun q hq => .tail _ hq)
      have hS6 : ∀ q ∈ S, q ∈ (σ.heard, W.listOf #[] kk) :: n6 := fun q hq => by
        rcases List.mem_cons.mp (hS q hq) with rfl | h
        · exact .head _
        · exact .tail _ (sub6 _ (sub4 _ (sub3 _ h)))
      by_cases h16 : κ < 16
      · refine end_Q hA B X T F6 N6 Y6 M6 U6 V6 D6 hlen' h16 ho hch (fun _ => ?_) hS6 hC hE fun h7 tk7 m7 kk7 n7 F7 N7 Y7 M7 k7 => ?_
        · rcases hvs with rfl | ⟨_, t, a, b, rfl⟩
          · obtain ⟨x0, x1, x2, x3, rfl⟩ := len4 hlen
            obtain ⟨e, t, x, h1, h2, _⟩ := hexc x1 (.tail _ (.head _))
            exact .inr ⟨e, t, h1, sub6 _ (sub4 _ h2)⟩
          · exact .inl ⟨t, rfl⟩
        · exact hQ .next h7 tk7 _ R kk7 n7 (.inl rfl) F7 N7 Y7 M7 (fun q hq _ _ c => k7 _ (sub6 _ (keep4 _ hq)) c)
      · have e16 : κ = 16 ∨ κ = 17 := by omega
        obtain rfl : vs' = vs := by
          rcases hvs with h | ⟨h, _⟩
          · exact h
          · omega
        refine end_R hA B X T F6 N6 Y6 M6 U6 V6 D6 hlen' e16 ho off6 Y2 (fun q hq => sub6 _ (sub4 _ (sub3 _ hq))) hch ?_ hS6 hC hE fun h7 tk7 m7 kk7 n7 F7 N7 Y7 M7 k7 => ?_
        · obtain ⟨x0, x1, x2, x3, rfl⟩ := len4 hlen
          obtain ⟨e, t, x, h1, h2, h3, h4⟩ := hexc x0 (.head _)
          exact ⟨e, t, x, h1, sub6 _ (sub4 _ h2), sub6 _ (sub4 _ h3), h4⟩
        · exact hQ .next h7 tk7 _ R kk7 n7 (.inl rfl) F7 N7 Y7 M7 (fun q hq _ _ _ => k7 _ (sub2 _ hq))
end Mine

namespace Mine
open PySem.Calls PySem.Spec
local macro_rules | `(tactic| k_room) => `(tactic| ((try simp only [depth_under_make, depth_under_kw, depth_in1, depth_deeper, depth_caller]); (try dsimp only); omega))
local macro_rules | `(tactic| k_mem) => `(tactic| first | with_reducible assumption | (with_reducible k_memK) | ((repeat with_reducible refine List.Mem.tail _ ?_); assumption))
local macro_rules | `(tactic| k_all) => `(tactic| assumption)
local macro_rules | `(tactic| walk_at "subscriptTail") => `(tactic| (refine stop_ ?_))
local macro_rules | `(tactic| walk_at "getItem ref int") => `(tactic| (refine stop_ ?_))
local macro_rules | `(tactic| walk_at "setItem ref int") => `(tactic| (refine stop_ ?_))
local macro_rules | `(tactic| walk_at "call ref") => `(tactic| (refine stop_ ?_))
local macro_rules | `(tactic| walk_at "exec For Name Call cons nil") => `(tactic| (refine stop_ ?_))
theorem fillP1 (w : World) : PySem.Challenge.rw_kq0045_01 = PySem.Challenge.rw_kq0045_01 ∧ hd.heap_39 w.params = hd.heap_39 w.params := by
  k_fill
  exact ⟨rfl, rfl⟩

theorem lenAt {prog : Program} {w : World} {A : Around} {E : Value → Shared → Prop} {s : Shared} {h₀ : Heap} {L a : Addr} {Q : Value → Shared → Prop} {news : Led} {items : List Value} {k cnt : Nat} (N : News h₀ L s.heap news) (hm : (a, W.listOf items.toArray k) ∈ news) (hl : items.length = cnt) (hc : cnt < 2 ^ 62)
    (h : ∀ t tk, Q (.int (cnt : Nat) t) (St s s.heap tk)) : wpAny (model prog w) A (call (.builtin "len") [.ref a]) Q E s := by
  have e : items.toArray.size = cnt := by rw [List.size_toArray]; exact hl
  refine call_len_list (News.isList N hm) (by rw [e]; omega) ?_
  rw [e]
  exact h _ _
theorem L_lt {h₀ h : Heap} {L : Addr} {m : Str → Option Value} (F : Fr h₀ L h m) : @LT.lt Nat _ L h.objs.size := by
  obtain ⟨o, es, ep, ho, _⟩ := F.ns
  exact Heap.lt_size ho

open PySem.Spec in
theorem loopAt {w : World} {p : Program} {loose : List Str} {mean : ExcName → Option Value} {mg mb : Str → Option Value} {A₀ : Around} {outer : List Env} {h₀ : Heap} {L fa : Addr} {cd : Value} {s : Shared} {m : Str → Option Value}
    {Q : Flow → Shared → Prop} {E : Value → Shared → Prop} {σ : Sta} {R : Routes} {nd st fs rt cnt kk : Nat} {n : Led}
    (hA : A₀ = callerA) (B : Below A₀ h₀ outer h₀) (X : (hd.heap_39 w.params).In h₀) (T : Top p loose mean mg mb h₀)
    (F : Fr h₀ L s.heap m) (N : News h₀ L s.heap ((σ.heard, W.listOf #[] kk) :: n)) (Y : Lw (G0 w p loose mean mg mb) σ R nd st fs rt cnt n) (M : Nm σ nd st fs rt m) (hcnt : cnt < 2 ^ 60)
    (hE : PassesOwn (model PySem.Challenge.rw_kq0045_01.row.prog w) (A₀.deeper (envOfC "law" lawScope L fa cd)) (envOfC "law" lawScope L fa cd) E)
    (hQ : ∀ h' tk m' R' kk' n', Fr h₀ L h' m' → News h₀ L h' ((σ.heard, W.listOf #[] kk') :: n') → Lw (G0 w p loose mean mg mb) σ R' nd st fs rt cnt n' → Nm σ nd st fs rt m' → Q .next (St s h' tk)) :
    LoopAtV PySem.Challenge.rw_kq0045_01.row.prog w (A₀.deeper (envOfC "law" lawScope L fa cd)) h₀ (envOfC "law" lawScope L fa cd) "k" turnBody Q E (.ref s.heap.objs.size)
      { s with heap := s.heap.push { cls := .type "range_iterator", data := .fields #[rawInt 0, rawInt (Builtin.Range.rangeSize 0 (cnt : Nat) 1), rawInt 1] } } := by
  have es : Builtin.Range.rangeSize 0 (cnt : Nat) 1 = ((cnt : Nat) : Int) := by rw [rangeSize_nat]; omega
  rw [es]
  have hh : (A₀.deeper (envOfC "law" lawScope L fa cd)).handled = none := by subst hA; rfl
  have hI : h₀.get? s.heap.objs.size = none := by
    cases e : h₀.get? s.heap.objs.size with
    | none => rfl
    | some o => exact absurd (Heap.lt_size (F.keep _ o e)) (Nat.lt_irrefl _)
  have hnw : ∀ q ∈ (σ.heard, W.listOf #[] kk) :: n, q.1 ∉ [s.heap.objs.size] := fun q hq h => by
    have h : q.1 = s.heap.objs.size := List.mem_singleton.mp h
    have := Heap.lt_size (N q hq).1
    rw [h] at this
    exact absurd this (Nat.lt_irrefl _)
  refine ⟨s.heap.objs.size, [s.heap.objs.size], [s.heap.objs.size], cnt, _, _, m, (σ.heard, W.listOf #[] kk) :: n,
    fun _ m' news' => Nm σ nd st fs rt m' ∧ ∃ R' kk' n', news' = (σ.heard, W.listOf #[] kk') :: n' ∧ Lw (G0 w p loose mean mg mb) σ R' nd st fs rt cnt n',
    rfl, LCg.range_walks hh 0 cnt, ?_, ?_, hnw, ?_, F.push _, N.grown fun _ _ e => Heap.get?_push_of_some _ e, ⟨M, R, kk, n, rfl, Y⟩, ?_, ?_⟩
  · intro h
    have h : L = s.heap.objs.size := List.mem_singleton.mp h
    have := L_lt F
    rw [h] at this
    exact absurd this (Nat.lt_irrefl _)
  · intro b hb
    rw [List.mem_singleton.mp hb]; exact hI
  · show Heap.get? _ _ = some _
    rw [Heap.get?_push_size _ rfl]
    rfl
  · rintro i v m₁ news₁ s₁ own ⟨g, tg, rfl⟩ hi ⟨ti, rfl⟩ ⟨M1, R1, k1, n1, rfl, Y1⟩ hnw1 hown hget hall hst F1 N1
    rw [Int.zero_add] at F1
    have hoI : ∀ q ∈ own, q = (s.heap.objs.size, rangeIt (0 + ((i + 1 : Nat) : Int) * 1) ((cnt : Int) - ((i + 1 : Nat) : Int)) 1) := fun q hq => by
      obtain ⟨a, o⟩ := q
      have e1 : a = s.heap.objs.size := List.mem_singleton.mp (hown _ hq)
      have e2 := hget _ hq
      subst e1
      have e3 : Heap.get? _ _ = some _ := hst
      rw [e3] at e2
      exact congrArg _ (Option.some.inj e2).symm
    have offI : ∀ q ∈ n1, q.1 ≠ s.heap.objs.size := fun q hq e => hnw1 q (.tail _ hq) (List.mem_singleton.mpr e)
    have hIh : (σ.heard : Nat) ≠ s.heap.objs.size := fun e => hnw1 _ (.head _) (List.mem_singleton.mpr e)
    have N2 := pull N1
    have off2 : ∀ q ∈ own ++ n1, q.1 ≠ σ.heard := fun q hq => (List.mem_append.mp hq).elim (fun h => by rw [hoI q h]; exact fun e => hIh e.symm) (Y1.shows.xoff q)
    have Y2 := Y1.more (fun q hq => List.mem_append_right own hq) off2 (fn_of N2 fun q hq => .tail _ hq)
    refine turn (ti := ti) (kk := k1) hA B X T F1 N2 Y2 M1 hi (by omega) hE fun f h' tk m' R' kk' n' hf F3 N3 Y3 M3 keep => ?_
    have own3 : ∀ q ∈ own, q ∈ n' := fun q hq => by
      refine keep q (List.mem_append_left _ hq) (fun j hj e => ?_) (fun j hj e => ?_) (fun j hj e => ?_)
      · obtain ⟨t0, t1, t2, t3, t4, h⟩ := Y1.shows.fdic j hj
        exact offI _ h (by rw [← e, hoI q hq])
      · obtain ⟨v0, v1, v2, k, h, _⟩ := Y1.shows.rts j hj
        exact offI _ h (by rw [← e, hoI q hq])
      · obtain ⟨t, v, h⟩ := Y1.shows.cont j hj
        exact offI _ h (by rw [← e, hoI q hq])
    have stp : LoopStepU h₀ L [s.heap.objs.size] own (fun m' news' => Nm σ nd st fs rt m' ∧ ∃ R' kk' n', news' = (σ.heard, W.listOf #[] kk') :: n' ∧ Lw (G0 w p loose mean mg mb) σ R' nd st fs rt cnt n') { s with heap := g, toks := tg } .next { s with heap := h', toks := tk } := by
      refine LoopStepU.intro (news₂ := (σ.heard, W.listOf #[] kk') :: del s.heap.objs.size n') F3 (fun q hq => ?_) (fun q hq => ?_) ⟨M3, R', kk', _, rfl, ?_⟩
      · rcases List.mem_append.mp hq with h | h
        · exact N3 _ (.tail _ (own3 q h))
        · rcases List.mem_cons.mp h with rfl | h
          · exact N3 _ (.head _)
          · exact N3 _ (.tail _ (of_del h).1)
      · rcases List.mem_cons.mp hq with rfl | hq
        · exact fun h => hIh (List.mem_singleton.mp h)
        · exact fun h => (of_del hq).2 (List.mem_singleton.mp h)
      · have hin : (s.heap.objs.size, rangeIt (0 + ((i + 1 : Nat) : Int) * 1) ((cnt : Int) - ((i + 1 : Nat) : Int)) 1) ∈ own := hall _ (List.mem_singleton.mpr rfl) hI _ hst
        exact Y3.move (fun q hq hne => mem_del hq fun e => hne (by
          obtain ⟨a, o⟩ := q
          have e : a = s.heap.objs.size := e
          subst e
          exact Y3.shows.fn _ _ _ hq (own3 _ hin))) ⟨_, _, _, rfl⟩ (fun q hq => .inl (of_del hq).1) (fn_of N3 fun q hq => .tail _ (of_del hq).1)
    rcases hf with rfl | rfl
    · exact LoopStepV.next stp
    · exact LoopStepV.cont stp
  · rintro h' tk m' news' F3 N3 _ ⟨M3, R', kk', n', rfl, Y3⟩
    exact hQ h' tk m' R' kk' n' F3 N3 Y3 M3

set_option maxHeartbeats 2000000 in
theorem loop {w : World} {p : Program} {loose : List Str} {mean : ExcName → Option Value} {mg mb : Str → Option Value} {A₀ : Around} {outer : List Env} {h₀ : Heap} {L fa : Addr} {cd : Value} {s : Shared} {m : Str → Option Value}
    {Q : Flow → Shared → Prop} {E : Value → Shared → Prop} {σ : Sta} {R : Routes} {nd st fs rt cnt kk : Nat} {n : Led}
    (hA : A₀ = callerA) (B : Below A₀ h₀ outer h₀) (X : (hd.heap_39 w.params).In h₀) (T : Top p loose mean mg mb h₀)
    (F : Fr h₀ L s.heap m) (N : News h₀ L s.heap ((σ.heard, W.listOf #[] kk) :: n)) (Y : Lw (G0 w p loose mean mg mb) σ R nd st fs rt cnt n) (M : Nm σ nd st fs rt m) (hcnt : cnt < 2 ^ 60)
    (hE : PassesOwn (model PySem.Challenge.rw_kq0045_01.row.prog w) (A₀.deeper (envOfC "law" lawScope L fa cd)) (envOfC "law" lawScope L fa cd) E)
    (hQ : ∀ h' tk m' R' kk' n', Fr h₀ L h' m' → News h₀ L h' ((σ.heard, W.listOf #[] kk') :: n') → Lw (G0 w p loose mean mg mb) σ R' nd st fs rt cnt n' → Nm σ nd st fs rt m' →
      wpAny (model PySem.Challenge.rw_kq0045_01.row.prog w) (A₀.deeper (envOfC "law" lawScope L fa cd)) (execs (lawBody.drop 8) (envOfC "law" lawScope L fa cd)) Q E (St s h' tk)) :
    wpAny (model PySem.Challenge.rw_kq0045_01.row.prog w) (A₀.deeper (envOfC "law" lawScope L fa cd)) (execs (lawBody.drop 7) (envOfC "law" lawScope L fa cd)) Q E s := by
  subst hA
  generalize hg5 : lawBody.drop 8 = g5 at hQ
  generalize hg : lawBody.drop 7 = g
  conv at hg => lhs; whnf
  conv at hg5 => lhs; whnf
  rw [hg5] at hg
  clear hg5
  subst hg
  obtain ⟨items, kst, hst, hil, hit⟩ := Y.steps
  rw [M.nest] at F
  k_steps
  unfold Stop
  refine For_invV h₀ (by rfl) (by rfl) ?_ (hE := hE)
  k_steps
  k_dflt (refine lenAt N (.tail _ hst) hil (by omega) ?_)
  intro tl tkl
  k_steps
  rename_i h1 _ _ _ _ hR F1 N1 _
  k_dflt (refine wpAny_pyIter_range hR (small_one (by decide) (by decide) (by omega) (by omega)) ?_)
  refine loopAt rfl B X T F1 N1 Y ?_ hcnt hE fun h' tk m' R' kk' n' F3 N3 Y3 M3 => hQ h' tk m' R' kk' n' F3 N3 Y3 M3
  rw [← M.nest]
  exact M
end Mine

namespace Mine
open PySem.Calls PySem.Spec
local macro_rules | `(tactic| k_room) => `(tactic| ((try simp only [depth_under_make, depth_under_kw, depth_in1, depth_deeper, depth_caller]); (try dsimp only); omega))
local macro_rules | `(tactic| k_mem) => `(tactic| first | with_reducible assumption | (with_reducible k_memK) | ((repeat with_reducible refine List.Mem.tail _ ?_); assumption))
local macro_rules | `(tactic| k_all) => `(tactic| assumption)
local macro_rules | `(tactic| walk_at "subscriptTail") => `(tactic| (refine stop_ ?_))
local macro_rules | `(tactic| walk_at "getItem ref int") => `(tactic| (refine stop_ ?_))
local macro_rules | `(tactic| walk_at "setItem ref int") => `(tactic| (refine stop_ ?_))
local macro_rules | `(tactic| walk_at "call ref") => `(tactic| (refine stop_ ?_))
theorem fillP2 (w : World) : PySem.Challenge.rw_kq0045_01 = PySem.Challenge.rw_kq0045_01 ∧ hd.heap_39 w.params = hd.heap_39 w.params := by
  k_fill
  exact ⟨rfl, rfl⟩

def epiBody : List Stmt := forBody ((forBody (lawBody.getD 8 (.Pass ⟨0, 0, 0, 0⟩))).getD 0 (.Pass ⟨0, 0, 0, 0⟩))

theorem get3f (f : Nat → Value) {j : Nat} (h : j < 3) : ([f 0, f 1, f 2] : List Value)[j]? = some (f j) := by
  match j, h with
  | 0, _ => rfl
  | 1, _ => rfl
  | 2, _ => rfl
set_option maxHeartbeats 2000000 in
theorem epi {w : World} {p : Program} {loose : List Str} {mean : ExcName → Option Value} {mg mb : Str → Option Value} {A₀ : Around} {outer : List Env} {h₀ : Heap} {L fa : Addr} {cd : Value} {s : Shared} {m : Str → Option Value}
    {Q : Flow → Shared → Prop} {E : Value → Shared → Prop} {σ : Sta} {R : Routes} {nd st fs rt cnt kk one i : Nat} {t1 t2 : Tok} {n : Led}
    (hA : A₀ = callerA) (B : Below A₀ h₀ outer h₀) (X : (hd.heap_39 w.params).In h₀) (T : Top p loose mean mg mb h₀)
    (F : Fr h₀ L s.heap (fun y => if y = ("sort" : Str) then some (.int (i : Nat) t2) else m y)) (N : News h₀ L s.heap ((σ.heard, W.listOf #[] kk) :: n)) (Y : Lw (G0 w p loose mean mg mb) σ R nd st fs rt cnt n) (M : Nm σ nd st fs rt m) (uo : m "one" = some (.int (one : Nat) t1)) (ho : one < 3) (hi : i < 4)
    (hQ : ∀ h' tk m' n', Fr h₀ L h' m' → News h₀ L h' ((σ.heard, W.listOf #[] kk) :: n') → Nm σ nd st fs rt m' → m' "one" = some (.int (one : Nat) t1) → (∀ q ∈ n, q ∈ n') → (∀ q ∈ n', q.1 ≠ σ.heard) → Q .next (St s h' tk)) :
    wpAny (model PySem.Challenge.rw_kq0045_01.row.prog w) (A₀.deeper (envOfC "law" lawScope L fa cd)) (execs epiBody (envOfC "law" lawScope L fa cd)) Q E s := by
  subst hA
  generalize hg : epiBody = g
  conv at hg => lhs; whnf
  subst hg
  obtain ⟨knd, hnd⟩ := Y.nodes
  obtain ⟨krt, hrt⟩ := Y.routes
  obtain ⟨g, kfs, hfs, hgs⟩ := Y.first
  obtain ⟨kg, hg⟩ := hgs one ho
  obtain ⟨v0, v1, v2, kq, hq, r0, r1, r2⟩ := Y.shows.rts i hi
  obtain ⟨vt, hvt, hrvt⟩ := get3 (R i) r0 r1 r2 ho
  obtain ⟨u0, u1, u2, u3, u4, hD⟩ := Y.shows.fdic one ho
  have hX := Y.shows.filt one ho
  rw [M.nest] at F
  rw [nest1 uo] at F
  cases hr : R i one with
  | none =>
    rw [hr] at hrvt
    obtain rfl : vt = .none := hrvt
    have eh : Mine.hnd σ R i one = σ.H i one := by unfold Mine.hnd; rw [hr]
    k_steps
    unfold Stop
    k_dflt (refine item_litK (News.isList (by assumption) (.tail _ hrt)) (Int.natCast_nonneg _) (by show (i : Int) < 2 ^ 63; omega) (by rw [Int.toNat_natCast]; exact get4 (fun j => .ref (σ.q j)) hi) ?_)
    k_steps
    unfold Stop
    k_dflt (refine item_litK (News.isList (by assumption) (.tail _ hq)) (Int.natCast_nonneg _) (by show (one : Int) < 2 ^ 63; omega) (by rw [Int.toNat_natCast]; exact hvt) ?_)
    k_steps
    unfold Stop
    k_dflt (refine item_litK (News.isList (by assumption) (.tail _ hfs)) (Int.natCast_nonneg _) (by show (one : Int) < 2 ^ 63; omega) (by rw [Int.toNat_natCast]; exact get3f (fun j => .ref (g j)) ho) ?_)
    k_steps
    unfold Stop
    k_dflt (refine item_litK (News.isList (by assumption) (.tail _ hg)) (Int.natCast_nonneg _) (by show (i : Int) < 2 ^ 63; omega) (by rw [Int.toNat_natCast]; exact get4 (fun j => .ref (σ.H j one)) hi) ?_)
    k_steps
    unfold Stop
    k_dflt (refine item_litK (News.isList (by assumption) (.tail _ hnd)) (Int.natCast_nonneg _) (by show (one : Int) < 2 ^ 63; omega) (by rw [Int.toNat_natCast]; exact get5 (fun j => .ref (σ.X j)) (by omega)) ?_)
    k_steps
    unfold Stop
    k_dflt (refine' Calls.at (Γ := G0 _ _ _ _ _ _) ?F ?N ?X ?T ?B ?hA ?hf ?hk ?hh ?hd (registered (.tail _ hX) (.tail _ hD)) ?_; (case F => k_asm); (case N => k_asm); (case X => k_asm); (case T => k_asm); (case B => k_asm); (case hA => exact Around.frames_deeper B.stack); (case hf => rfl); (case hk => rfl); (case hh => rfl); (case hd => k_room))
    rintro _ hv tkv n3 F3 N3 ⟨l, rfl, rfl, hlt⟩
    k_steps
    unfold Stop
    k_dflt (refine item_litK (News.isList (by assumption) (.head _)) (Int.natCast_nonneg _) (by show (i : Int) < 2 ^ 63; omega) (by rw [Int.toNat_natCast]; exact get4 (fun j => .ref (Mine.hnd σ R j one)) hi) ?_)
    rw [eh]
    k_steps
    have h1 : @LT.lt Nat _ σ.heard l := hlt _ (.head _)
    have N4 := pull2 (pre := [_]) N3 Y.shows.xoff (by intro q hq; obtain rfl := List.mem_singleton.mp hq; intro e; have e : @Eq Nat l σ.heard := e; omega)
    refine hQ _ _ _ _ F3 N4.1 ⟨?_, ?_, ?_, ?_, ?_⟩ ?_ (fun q hq => .tail _ hq) N4.2 <;> with_unfolding_all rfl
  | some t =>
    rw [hr] at hrvt
    obtain ⟨tv, rfl⟩ := hrvt
    have ht := (Y.vr _ _ _ hr).2
    have eh : Mine.hnd σ R i one = σ.X t := by unfold Mine.hnd; rw [hr]
    k_steps
    unfold Stop
    k_dflt (refine item_litK (News.isList (by assumption) (.tail _ hrt)) (Int.natCast_nonneg _) (by show (i : Int) < 2 ^ 63; omega) (by rw [Int.toNat_natCast]; exact get4 (fun j => .ref (σ.q j)) hi) ?_)
    k_steps
    unfold Stop
    k_dflt (refine item_litK (News.isList (by assumption) (.tail _ hq)) (Int.natCast_nonneg _) (by show (one : Int) < 2 ^ 63; omega) (by rw [Int.toNat_natCast]; exact hvt) ?_)
    k_steps
    unfold Stop
    k_dflt (refine item_litK (News.isList (by assumption) (.tail _ hrt)) (Int.natCast_nonneg _) (by show (i : Int) < 2 ^ 63; omega) (by rw [Int.toNat_natCast]; exact get4 (fun j => .ref (σ.q j)) hi) ?_)
    k_steps
    unfold Stop
    k_dflt (refine item_litK (News.isList (by assumption) (.tail _ hq)) (Int.natCast_nonneg _) (by show (one : Int) < 2 ^ 63; omega) (by rw [Int.toNat_natCast]; exact hvt) ?_)
    k_steps
    unfold Stop
    k_dflt (refine item_litK (News.isList (by assumption) (.tail _ hnd)) (Int.natCast_nonneg _) (by show (t : Int) < 2 ^ 63; omega) (by rw [Int.toNat_natCast]; exact get5 (fun j => .ref (σ.X j)) ht) ?_)
    k_steps
    unfold Stop
    k_dflt (refine item_litK (News.isList (by assumption) (.tail _ hnd)) (Int.natCast_nonneg _) (by show (one : Int) < 2 ^ 63; omega) (by rw [Int.toNat_natCast]; exact get5 (fun j => .ref (σ.X j)) (by omega)) ?_)
    k_steps
    unfold Stop
    k_dflt (refine' Calls.at (Γ := G0 _ _ _ _ _ _) ?F ?N ?X ?T ?B ?hA ?hf ?hk ?hh ?hd (registered (.tail _ hX) (.tail _ hD)) ?_; (case F => k_asm); (case N => k_asm); (case X => k_asm); (case T => k_asm); (case B => k_asm); (case hA => exact Around.frames_deeper B.stack); (case hf => rfl); (case hk => rfl); (case hh => rfl); (case hd => k_room))
    rintro _ hv tkv n3 F3 N3 ⟨l, rfl, rfl, hlt⟩
    k_steps
    unfold Stop
    k_dflt (refine item_litK (News.isList (by assumption) (.head _)) (Int.natCast_nonneg _) (by show (i : Int) < 2 ^ 63; omega) (by rw [Int.toNat_natCast]; exact get4 (fun j => .ref (Mine.hnd σ R j one)) hi) ?_)
    rw [eh]
    k_steps
    have h1 : @LT.lt Nat _ σ.heard l := hlt _ (.head _)
    have N4 := pull2 (pre := [_]) N3 Y.shows.xoff (by intro q hq; obtain rfl := List.mem_singleton.mp hq; intro e; have e : @Eq Nat l σ.heard := e; omega)
    refine hQ _ _ _ _ F3 N4.1 ⟨?_, ?_, ?_, ?_, ?_⟩ ?_ (fun q hq => .tail _ hq) N4.2 <;> with_unfolding_all rfl

open PySem.Spec in
/-- a loop over a range whose turns keep the routes -/
theorem loopG {w : World} {p : Program} {loose : List Str} {mean : ExcName → Option Value} {mg mb : Str → Option Value} {A₀ : Around} {h₀ : Heap} {L fa : Addr} {cd : Value} {s : Shared} {m : Str → Option Value}
    {Q : Flow → Shared → Prop} {E : Value → Shared → Prop} {σ : Sta} {R : Routes} {nd st fs rt cnt c kk : Nat} {n : Led} {x : Str} {body : List Stmt} (Pm : (Str → Option Value) → Prop)
    (hA : A₀ = callerA)
    (F : Fr h₀ L s.heap m) (N : News h₀ L s.heap ((σ.heard, W.listOf #[] kk) :: n)) (Y : Lw (G0 w p loose mean mg mb) σ R nd st fs rt cnt n) (M : Pm m)
    (trn : ∀ (i : Nat) (ti : Tok) (m : Str → Option Value) (n : Led) (s : Shared) (Q' : Flow → Shared → Prop), i < c → Pm m → Lw (G0 w p loose mean mg mb) σ R nd st fs rt cnt n → Fr h₀ L s.heap (fun y => if y = x then some (.int (i : Nat) ti) else m y) → News h₀ L s.heap ((σ.heard, W.listOf #[] kk) :: n) →
      (∀ h' tk m' n', Fr h₀ L h' m' → News h₀ L h' ((σ.heard, W.listOf #[] kk) :: n') → Pm m' → (∀ q ∈ n, q ∈ n') → (∀ q ∈ n', q.1 ≠ σ.heard) → Q' .next (St s h' tk)) →
      wpAny (model PySem.Challenge.rw_kq0045_01.row.prog w) (A₀.deeper (envOfC "law" lawScope L fa cd)) (execs body (envOfC "law" lawScope L fa cd)) Q' E s)
    (hQ : ∀ h' tk m' n', Fr h₀ L h' m' → News h₀ L h' ((σ.heard, W.listOf #[] kk) :: n') → Lw (G0 w p loose mean mg mb) σ R nd st fs rt cnt n' → Pm m' → (∀ q ∈ n, q ∈ n') → Q .next (St s h' tk)) :
    LoopAtV PySem.Challenge.rw_kq0045_01.row.prog w (A₀.deeper (envOfC "law" lawScope L fa cd)) h₀ (envOfC "law" lawScope L fa cd) x body Q E (.ref s.heap.objs.size)
      { s with heap := s.heap.push { cls := .type "range_iterator", data := .fields #[rawInt 0, rawInt (Builtin.Range.rangeSize 0 (c : Nat) 1), rawInt 1] } } := by
  have es : Builtin.Range.rangeSize 0 (c : Nat) 1 = ((c : Nat) : Int) := by rw [rangeSize_nat]; omega
  rw [es]
  have hh : (A₀.deeper (envOfC "law" lawScope L fa cd)).handled = none := by subst hA; rfl
  have hI : h₀.get? s.heap.objs.size = none := by
    cases e : h₀.get? s.heap.objs.size with
    | none => rfl
    | some o => exact absurd (Heap.lt_size (F.keep _ o e)) (Nat.lt_irrefl _)
  have hnw : ∀ q ∈ (σ.heard, W.listOf #[] kk) :: n, q.1 ∉ [s.heap.objs.size] := fun q hq h => by
    have h : q.1 = s.heap.objs.size := List.mem_singleton.mp h
    have := Heap.lt_size (N q hq).1
    rw [h] at this
    exact absurd this (Nat.lt_irrefl _)
  refine ⟨s.heap.objs.size, [s.heap.objs.size], [s.heap.objs.size], c, _, _, m, (σ.heard, W.listOf #[] kk) :: n,
    fun _ m' news' => Pm m' ∧ ∃ n', news' = (σ.heard, W.listOf #[] kk) :: n' ∧ Lw (G0 w p loose mean mg mb) σ R nd st fs rt cnt n' ∧ ∀ q ∈ n, q ∈ n',
    rfl, LCg.range_walks hh 0 c, ?_, ?_, hnw, ?_, F.push _, N.grown fun _ _ e => Heap.get?_push_of_some _ e, ⟨M, n, rfl, Y, fun q hq => hq⟩, ?_, ?_⟩
  · intro h
    have h : L = s.heap.objs.size := List.mem_singleton.mp h
    have := L_lt F
    rw [h] at this
    exact absurd this (Nat.lt_irrefl _)
  · intro b hb
    rw [List.mem_singleton.mp hb]; exact hI
  · show Heap.get? _ _ = some _
    rw [Heap.get?_push_size _ rfl]
    rfl
  · rintro i v m₁ news₁ s₁ own ⟨g, tg, rfl⟩ hi ⟨ti, rfl⟩ ⟨M1, n1, rfl, Y1, sub1⟩ hnw1 hown hget hall hst F1 N1
    rw [Int.zero_add] at F1
    have hoI : ∀ q ∈ own, q = (s.heap.objs.size, rangeIt (0 + ((i + 1 : Nat) : Int) * 1) ((c : Int) - ((i + 1 : Nat) : Int)) 1) := fun q hq => by
      obtain ⟨a, o⟩ := q
      have e1 : a = s.heap.objs.size := List.mem_singleton.mp (hown _ hq)
      have e2 := hget _ hq
      subst e1
      have e3 : Heap.get? _ _ = some _ := hst
      rw [e3] at e2
      exact congrArg _ (Option.some.inj e2).symm
    have offI : ∀ q ∈ n1, q.1 ≠ s.heap.objs.size := fun q hq e => hnw1 q (.tail _ hq) (List.mem_singleton.mpr e)
    have hIh : (σ.heard : Nat) ≠ s.heap.objs.size := fun e => hnw1 _ (.head _) (List.mem_singleton.mpr e)
    have N2 := pull N1
    have off2 : ∀ q ∈ own ++ n1, q.1 ≠ σ.heard := fun q hq => (List.mem_append.mp hq).elim (fun h => by rw [hoI q h]; exact fun e => hIh e.symm) (Y1.shows.xoff q)
    have Y2 := Y1.more (fun q hq => List.mem_append_right own hq) off2 (fn_of N2 fun q hq => .tail _ hq)
    refine trn i ti m₁ (own ++ n1) _ _ hi M1 Y2 F1 N2 fun h' tk m' n' F3 N3 M3 keep off3 => ?_
    have own3 : ∀ q ∈ own, q ∈ n' := fun q hq => keep q (List.mem_append_left _ hq)
    have Y3 := Y2.more keep off3 (fn_of N3 fun q hq => .tail _ hq)
    refine LoopStepV.next (LoopStepU.intro (news₂ := (σ.heard, W.listOf #[] kk) :: del s.heap.objs.size n') F3 (fun q hq => ?_) (fun q hq => ?_) ⟨M3, _, rfl, ?_, fun q hq => ?_⟩)
    · rcases List.mem_append.mp hq with h | h
      · exact N3 _ (.tail _ (own3 q h))
      · rcases List.mem_cons.mp h with rfl | h
        · exact N3 _ (.head _)
        · exact N3 _ (.tail _ (of_del h).1)
    · rcases List.mem_cons.mp hq with rfl | hq
      · exact fun h => hIh (List.mem_singleton.mp h)
      · exact fun h => (of_del hq).2 (List.mem_singleton.mp h)
    · have hin : (s.heap.objs.size, rangeIt (0 + ((i + 1 : Nat) : Int) * 1) ((c : Int) - ((i + 1 : Nat) : Int)) 1) ∈ own := hall _ (List.mem_singleton.mpr rfl) hI _ hst
      exact Y3.move (fun q hq hne => mem_del hq fun e => hne (by
        obtain ⟨a, o⟩ := q
        have e : a = s.heap.objs.size := e
        subst e
        exact Y3.shows.fn _ _ _ hq (own3 _ hin))) ⟨_, _, _, rfl⟩ (fun q hq => .inl (of_del hq).1) (fn_of N3 fun q hq => .tail _ (of_del hq).1)
    · exact mem_del (keep q (List.mem_append_right _ (sub1 q hq))) (offI q (sub1 q hq))
  · rintro h' tk m' news' F3 N3 _ ⟨M3, n', rfl, Y3, sub3⟩
    exact hQ h' tk m' n' F3 N3 Y3 M3 sub3
end Mine

namespace Mine
open PySem.Calls PySem.Spec
local macro_rules | `(tactic| k_room) => `(tactic| ((try simp only [depth_under_make, depth_under_kw, depth_in1, depth_deeper, depth_caller]); (try dsimp only); omega))
local macro_rules | `(tactic| k_mem) => `(tactic| first | with_reducible assumption | (with_reducible k_memK) | ((repeat with_reducible refine List.Mem.tail _ ?_); assumption))
local macro_rules | `(tactic| k_all) => `(tactic| assumption)
local macro_rules | `(tactic| walk_at "subscriptTail") => `(tactic| (refine stop_ ?_))
local macro_rules | `(tactic| walk_at "getItem ref int") => `(tactic| (refine stop_ ?_))
local macro_rules | `(tactic| walk_at "setItem ref int") => `(tactic| (refine stop_ ?_))
local macro_rules | `(tactic| walk_at "call ref") => `(tactic| (refine stop_ ?_))
local macro_rules | `(tactic| walk_at "exec For Name Call cons nil") => `(tactic| (refine stop_ ?_))
local macro_rules | `(tactic| walk_at "pyIter ref") => `(tactic| (refine stop_ ?_))
theorem fillP3 (w : World) : PySem.Challenge.rw_kq0045_01 = PySem.Challenge.rw_kq0045_01 ∧ hd.heap_39 w.params = hd.heap_39 w.params := by
  k_fill
  exact ⟨rfl, rfl⟩

def epiOuter : List Stmt := forBody (lawBody.getD 8 (.Pass ⟨0, 0, 0, 0⟩))

set_option maxHeartbeats 2000000 in
theorem epi_in {w : World} {p : Program} {loose : List Str} {mean : ExcName → Option Value} {mg mb : Str → Option Value} {A₀ : Around} {outer : List Env} {h₀ : Heap} {L fa : Addr} {cd : Value} {s : Shared} {m : Str → Option Value}
    {Q : Flow → Shared → Prop} {E : Value → Shared → Prop} {σ : Sta} {R : Routes} {nd st fs rt cnt kk one : Nat} {t1 : Tok} {n : Led}
    (hA : A₀ = callerA) (B : Below A₀ h₀ outer h₀) (X : (hd.heap_39 w.params).In h₀) (T : Top p loose mean mg mb h₀)
    (F : Fr h₀ L s.heap (fun y => if y = ("one" : Str) then some (.int (one : Nat) t1) else m y)) (N : News h₀ L s.heap ((σ.heard, W.listOf #[] kk) :: n)) (Y : Lw (G0 w p loose mean mg mb) σ R nd st fs rt cnt n) (M : Nm σ nd st fs rt m) (ho : one < 3)
    (hE : PassesOwn (model PySem.Challenge.rw_kq0045_01.row.prog w) (A₀.deeper (envOfC "law" lawScope L fa cd)) (envOfC "law" lawScope L fa cd) E)
    (hQ : ∀ h' tk m' n', Fr h₀ L h' m' → News h₀ L h' ((σ.heard, W.listOf #[] kk) :: n') → Nm σ nd st fs rt m' → (∀ q ∈ n, q ∈ n') → (∀ q ∈ n', q.1 ≠ σ.heard) → Q .next (St s h' tk)) :
    wpAny (model PySem.Challenge.rw_kq0045_01.row.prog w) (A₀.deeper (envOfC "law" lawScope L fa cd)) (execs epiOuter (envOfC "law" lawScope L fa cd)) Q E s := by
  subst hA
  generalize hg : epiOuter = g
  conv at hg => lhs; whnf
  subst hg
  have M1 := M.set (x := "one") (v := .int (one : Nat) t1) (by decide) (by decide) (by decide) (by decide) (by decide)
  have u1 : (fun y => if y = ("one" : Str) then some (.int (one : Nat) t1) else m y) ("one" : Str) = some (.int (one : Nat) t1) := if_pos rfl
  generalize (fun y => if y = ("one" : Str) then some (.int (one : Nat) t1) else m y) = mm at F M1 u1
  k_steps
  unfold Stop
  refine For_invV h₀ (by rfl) (by rfl) ?_ (hE := hE)
  k_steps
  unfold Stop
  rename_i h1 _ _ _ _ hR F1 N1 _
  k_dflt (refine wpAny_pyIter_range hR (small_one (by decide) (by decide) (by decide) (by decide)) ?_)
  refine loopG (c := 4) (fun m => Nm σ nd st fs rt m ∧ m "one" = some (.int (one : Nat) t1)) rfl F1 N1 Y ⟨M1, u1⟩ (fun i ti m n s Q' hi hm Y F N hQ' => epi rfl B X T F N Y hm.1 hm.2 ho hi fun h' tk m' n' F' N' M' u' k o => hQ' h' tk m' n' F' N' ⟨M', u'⟩ k o) fun h' tk m' n' F3 N3 Y3 M3 k3 => ?_
  k_steps
  exact hQ h' tk m' n' F3 N3 M3.1 k3 Y3.shows.xoff

set_option maxHeartbeats 2000000 in
theorem epilogue {w : World} {p : Program} {loose : List Str} {mean : ExcName → Option Value} {mg mb : Str → Option Value} {A₀ : Around} {outer : List Env} {h₀ : Heap} {L fa : Addr} {cd : Value} {s : Shared} {m : Str → Option Value}
    {Q : Flow → Shared → Prop} {E : Value → Shared → Prop} {σ : Sta} {R : Routes} {nd st fs rt cnt kk : Nat} {n : Led}
    (hA : A₀ = callerA) (B : Below A₀ h₀ outer h₀) (X : (hd.heap_39 w.params).In h₀) (T : Top p loose mean mg mb h₀)
    (F : Fr h₀ L s.heap m) (N : News h₀ L s.heap ((σ.heard, W.listOf #[] kk) :: n)) (Y : Lw (G0 w p loose mean mg mb) σ R nd st fs rt cnt n) (M : Nm σ nd st fs rt m)
    (hE : PassesOwn (model PySem.Challenge.rw_kq0045_01.row.prog w) (A₀.deeper (envOfC "law" lawScope L fa cd)) (envOfC "law" lawScope L fa cd) E)
    (hQ : ∀ h' tk m' n', Fr h₀ L h' m' → News h₀ L h' n' → (∃ ps, (554, tabObj ps) ∈ n') → (∃ ps, (547, tabObj ps) ∈ n') → Q (.ret (.bool true)) (St s h' tk)) :
    wpAny (model PySem.Challenge.rw_kq0045_01.row.prog w) (A₀.deeper (envOfC "law" lawScope L fa cd)) (execs (lawBody.drop 8) (envOfC "law" lawScope L fa cd)) Q E s := by
  subst hA
  generalize hg : lawBody.drop 8 = g
  conv at hg => lhs; whnf
  subst hg
  rw [M.nest] at F
  k_steps
  unfold Stop
  refine For_invV h₀ (by rfl) (by rfl) ?_ (hE := hE)
  k_steps
  unfold Stop
  rename_i h1 _ _ _ _ hR F1 N1 _
  k_dflt (refine wpAny_pyIter_range hR (small_one (by decide) (by decide) (by decide) (by decide)) ?_)
  have M1 : Nm σ nd st fs rt m := M
  rw [← M.nest] at F1
  refine loopG (c := 3) (Nm σ nd st fs rt) rfl F1 N1 Y M (fun i ti m n s Q' hi hm Y F N hQ' => epi_in rfl B X T F N Y hm hi hE hQ') fun h' tk m' n' F3 N3 Y3 M3 k3 => ?_
  k_steps
  exact hQ _ _ _ _ F3 N3 (let ⟨ps, h⟩ := Y3.tab; ⟨ps, .tail _ h⟩) (let ⟨_, h, _⟩ := Y3.calls; ⟨_, .tail _ h⟩)
end Mine

namespace Mine
open PySem.Calls PySem.Spec
local macro_rules | `(tactic| k_room) => `(tactic| ((try simp only [depth_under_make, depth_under_kw, depth_in1, depth_deeper, depth_caller]); (try dsimp only); omega))
local macro_rules | `(tactic| k_mem) => `(tactic| first | with_reducible assumption | (with_reducible k_memK) | ((repeat with_reducible refine List.Mem.tail _ ?_); assumption))
local macro_rules | `(tactic| k_all) => `(tactic| assumption)
local macro_rules | `(tactic| walk_at "subscriptTail") => `(tactic| (refine stop_ ?_))
local macro_rules | `(tactic| walk_at "getItem ref int") => `(tactic| (refine stop_ ?_))
local macro_rules | `(tactic| walk_at "setItem ref int") => `(tactic| (refine stop_ ?_))
local macro_rules | `(tactic| walk_at "call ref") => `(tactic| (refine stop_ ?_))
theorem fillQ1 (w : World) : PySem.Challenge.rw_kq0045_01 = PySem.Challenge.rw_kq0045_01 ∧ hd.heap_39 w.params = hd.heap_39 w.params := by
  k_fill
  exact ⟨rfl, rfl⟩

structure Filt (w : World) (n : Led) (x d : Nat) (H HD : Nat → Nat) : Prop where
  filt : (x, instObj 543 d) ∈ n
  fdic : ∃ t0 t1 t2 t3 t4, (d, dictOf (fdict w t0 t1 t2 t3 t4 (.ref (H 0)) (.ref (H 1)) (.ref (H 2)) (.ref (H 3))) 5) ∈ n
  dobj : ∀ s < 4, (H s, instObj (hcls s) (HD s)) ∈ n
  cont : ∃ t v, (HD 0, dictOf [ent w "_locator" t v] 1) ∈ n
  ddic : ∀ s, 0 < s → s < 4 → (HD s, dictOf [] 0) ∈ n
theorem Filt.mono {w : World} {n n' : Led} {x d : Nat} {H HD : Nat → Nat} (h : Filt w n x d H HD) (sub : ∀ q ∈ n, q ∈ n') : Filt w n' x d H HD :=
  ⟨sub _ h.filt, let ⟨a, b, c, e, f, g⟩ := h.fdic; ⟨a, b, c, e, f, sub _ g⟩, fun s hs => sub _ (h.dobj s hs), let ⟨a, b, c⟩ := h.cont; ⟨a, b, sub _ c⟩, fun s a b => sub _ (h.ddic s a b)⟩
/-- a call of XMLFilterBase() -/
def Made1 (w : World) (news : Led) (v : Value) (n : Led) : Prop := ∃ (x d : Nat) (H HD : Nat → Nat) (S : Led), v = .ref x ∧ Filt w S x d H HD ∧ n = S ++ news ∧ (∀ q ∈ S, @LE.le Nat _ d q.1) ∧ ∀ q ∈ news, @LT.lt Nat _ q.1 d
theorem mkF {w : World} {p : Program} {loose : List Str} {mean : ExcName → Option Value} {mg mb : Str → Option Value} {news : Led} : Calls (G0 w p loose mean mg mb) 8 (.ref 543) [] news (Made1 w news) := by
  refine mk_filter.mono fun v n h => ?_
  obtain ⟨x, d, c, dc, t, dt, r, dr, e, de, tl, t0, t1, t2, t3, t4, h1, h2, h3, o1, o2, o3, o4, o5, o6, o7, o8, o9⟩ := h
  refine ⟨x, d, fun s => ([c, t, r, e] : List Nat).getD s 0, fun s => ([dc, dt, dr, de] : List Nat).getD s 0, newFilter w x d c dc t dt r dr e de tl t0 t1 t2 t3 t4, h1, ⟨?_, ?_, ?_, ?_, ?_⟩, h2, ?_, h3⟩
  · exact .tail _ (.tail _ (.tail _ (.tail _ (.tail _ (.tail _ (.tail _ (.tail _ (.head _))))))))
  · exact ⟨t0, t1, t2, t3, t4, .tail _ (.tail _ (.tail _ (.tail _ (.tail _ (.tail _ (.tail _ (.tail _ (.tail _ (.head _)))))))))⟩
  · intro s hs
    match s, hs with
    | 0, _ => exact .tail _ (.tail _ (.tail _ (.tail _ (.tail _ (.tail _ (.head _))))))
    | 1, _ => exact .tail _ (.tail _ (.tail _ (.tail _ (.head _))))
    | 2, _ => exact .tail _ (.tail _ (.head _))
    | 3, _ => exact .head _
  · exact ⟨tl, _, .tail _ (.tail _ (.tail _ (.tail _ (.tail _ (.tail _ (.tail _ (.head _)))))))⟩
  · intro s h0 hs
    match s, h0, hs with
    | 1, _, _ => exact .tail _ (.tail _ (.tail _ (.tail _ (.tail _ (.head _)))))
    | 2, _, _ => exact .tail _ (.tail _ (.tail _ (.head _)))
    | 3, _, _ => exact .tail _ (.head _)
  · intro q hq
    simp only [newFilter, List.mem_cons, List.not_mem_nil, or_false] at hq
    rcases hq with rfl | rfl | rfl | rfl | rfl | rfl | rfl | rfl | rfl | rfl <;> (show @LE.le Nat _ _ _; omega)
end Mine

namespace Mine
open PySem.Calls PySem.Spec
local macro_rules | `(tactic| k_room) => `(tactic| ((try simp only [depth_under_make, depth_under_kw, depth_in1, depth_deeper, depth_caller]); (try dsimp only); omega))
local macro_rules | `(tactic| k_mem) => `(tactic| first | with_reducible assumption | (with_reducible k_memK) | ((repeat with_reducible refine List.Mem.tail _ ?_); assumption))
local macro_rules | `(tactic| k_all) => `(tactic| assumption)
local macro_rules | `(tactic| walk_at "subscriptTail") => `(tactic| (refine stop_ ?_))
local macro_rules | `(tactic| walk_at "getItem ref int") => `(tactic| (refine stop_ ?_))
local macro_rules | `(tactic| walk_at "setItem ref int") => `(tactic| (refine stop_ ?_))
local macro_rules | `(tactic| walk_at "call ref") => `(tactic| (refine stop_ ?_))
theorem fillQ2 (w : World) : PySem.Challenge.rw_kq0045_01 = PySem.Challenge.rw_kq0045_01 ∧ hd.heap_39 w.params = hd.heap_39 w.params := by
  k_fill
  exact ⟨rfl, rfl⟩

theorem Listens.keep2 {Γ : Gl} {n n' : Led} {heard x d : Addr} {number : Int} (h : Listens Γ heard number n x d) (hk : ∀ q ∈ n, (still q.2 = true ∨ (∃ C d, q.2 = instObj C d) ∨ ∃ es k, q.2 = dictOf es k) → q ∈ n') : Listens Γ heard number n' x d := by
  obtain ⟨es, k, a, b, c⟩ := h
  refine ⟨es, k, hk _ a (.inr (.inl ⟨_, _, rfl⟩)), hk _ b (.inr (.inr ⟨_, _, rfl⟩)), fun κ hκ => ?_⟩
  obtain ⟨f, S, d1, d2, d3, d4⟩ := c κ hκ
  exact ⟨f, S, d1, fun q hq => hk q (d2 q hq) (.inl (d3 q hq)), d3, d4⟩
/-- what the ledger shows after the nodes are made -/
structure Pre (Γ : Gl) (σ : Sta) (nd c : Nat) (co : Obj) (n : Led) : Prop where
  filt : ∀ i < 3, (σ.X i, instObj 543 (σ.D i)) ∈ n
  fdic : ∀ i < 3, ∃ t0 t1 t2 t3 t4, (σ.D i, dictOf (fdict Γ.w t0 t1 t2 t3 t4 (.ref (σ.H 0 i)) (.ref (σ.H 1 i)) (.ref (σ.H 2 i)) (.ref (σ.H 3 i))) 5) ∈ n
  lis : ∀ i : Nat, 3 ≤ i → i < 5 → Listens Γ σ.heard i n (σ.X i) (σ.D i)
  dobj : ∀ s < 4, ∀ i < 3, (σ.H s i, instObj (hcls s) (σ.HD s i)) ∈ n
  cont : ∀ i < 3, ∃ t v, (σ.HD 0 i, dictOf [ent Γ.w "_locator" t v] 1) ∈ n
  ddic : ∀ s, 0 < s → s < 4 → ∀ i < 3, (σ.HD s i, dictOf [] 0) ∈ n
  dinj : ∀ i < 3, ∀ j < 3, σ.D i = σ.D j → i = j
  nodes : ∃ k, (nd, W.listOf #[.ref (σ.X 0), .ref (σ.X 1), .ref (σ.X 2), .ref (σ.X 3), .ref (σ.X 4)] k) ∈ n
  calls : CallsTab n
  cell : (c, co) ∈ n
  off : ∀ q ∈ n, q.1 ≠ σ.heard
  tab : ∃ ps, (554, tabObj ps) ∈ n
theorem Pre.more {Γ : Gl} {σ : Sta} {nd c : Nat} {co : Obj} {n n' : Led} (P : Pre Γ σ nd c co n) (sub : ∀ q ∈ n, q ∈ n') (off : ∀ q ∈ n', q.1 ≠ σ.heard) : Pre Γ σ nd c co n' :=
  ⟨fun i hi => sub _ (P.filt i hi), fun i hi => let ⟨a, b, c, d, e, f⟩ := P.fdic i hi; ⟨a, b, c, d, e, sub _ f⟩, fun i a b => (P.lis i a b).keep2 fun q hq _ => sub q hq, fun s hs i hi => sub _ (P.dobj s hs i hi), fun i hi => let ⟨a, b, c⟩ := P.cont i hi; ⟨a, b, sub _ c⟩,
    fun s a b i hi => sub _ (P.ddic s a b i hi), P.dinj, let ⟨k, a⟩ := P.nodes; ⟨k, sub _ a⟩, P.calls.mono sub, sub _ P.cell, off, let ⟨ps, h⟩ := P.tab; ⟨ps, sub _ h⟩⟩

theorem pre_of {Γ : Gl} {l nd x0 x1 x2 x3 x4 d0 d1 d2 d3 d4 c : Nat} {H0 HD0 H1 HD1 H2 HD2 : Nat → Nat} {S0 S1 S2 n3 n4 : Led} {co : Obj} {t1 t2 : Array Value}
    (hF0 : Filt Γ.w S0 x0 d0 H0 HD0) (hF1 : Filt Γ.w S1 x1 d1 H1 HD1) (hF2 : Filt Γ.w S2 x2 d2 H2 HD2) (ho0 : ∀ q ∈ S0, @LE.le Nat _ d0 q.1) (ho1 : ∀ q ∈ S1, @LE.le Nat _ d1 q.1) (ho2 : ∀ q ∈ S2, @LE.le Nat _ d2 q.1)
    (hl0 : ∀ q ∈ [(l, W.listOf #[] 0), (c, co), (554, tabObj #[]), (547, tabObj #[])], @LT.lt Nat _ q.1 d0) (hl1 : ∀ q ∈ S0 ++ [(l, W.listOf #[] 0), (c, co), (554, tabObj #[]), (547, tabObj #[])], @LT.lt Nat _ q.1 d1)
    (hl2 : ∀ q ∈ S1 ++ (S0 ++ [(l, W.listOf #[] 0), (c, co), (554, tabObj #[]), (547, tabObj #[])]), @LT.lt Nat _ q.1 d2) (hc : c ≠ l) (hc1 : c ≠ 554 ∧ c ≠ 547) (hlT : l ≠ 554 ∧ l ≠ 547)
    (hLis3 : Listens Γ l (3 : Int) n3 x3 d3) (hHT3 : HearsTab n3) (hCT3 : CallsTab n3) (hkeep3 : ∀ q ∈ S2 ++ (S1 ++ (S0 ++ [(l, W.listOf #[] 0), (c, co), (554, tabObj #[]), (547, tabObj #[])])), q.1 ≠ 554 → q.1 ≠ 547 → q ∈ n3)
    (hLis4 : Listens Γ l (4 : Int) n4 x4 d4) (hHT4 : HearsTab n4) (hCT4 : CallsTab n4) (hkeep4 : ∀ q ∈ n3, q.1 ≠ 554 → q.1 ≠ 547 → q ∈ n4)
    (fn3 : ∀ a o o', (a, o) ∈ n3 → (a, o') ∈ n3 → o = o') (fn4 : ∀ a o o', (a, o) ∈ n4 → (a, o') ∈ n4 → o = o') (hnd : nd ≠ l) :
    (l, W.listOf #[] 0) ∈ n4 ∧ Pre Γ ⟨l, fun i => ([x0, x1, x2, x3, x4] : List Nat).getD i 0, fun i => ([d0, d1, d2, d3, d4] : List Nat).getD i 0, fun s i => ([H0 s, H1 s, H2 s] : List Nat).getD i 0, fun s i => ([HD0 s, HD1 s, HD2 s] : List Nat).getD i 0, fun _ => 0⟩ nd c co
      (del l ((nd, W.listOf #[.ref x0, .ref x1, .ref x2, .ref x3, .ref x4] 0) :: n4)) := by
  have b554 : (554 : Nat) < d0 := hl0 _ (.tail _ (.tail _ (.head _)))
  have b547 : (547 : Nat) < d0 := hl0 _ (.tail _ (.tail _ (.tail _ (.head _))))
  have bl : l < d0 := hl0 _ (.head _)
  obtain ⟨_, _, _, _, _, hd0⟩ := hF0.fdic
  obtain ⟨_, _, _, _, _, hd1⟩ := hF1.fdic
  have b01 : d0 < d1 := hl1 _ (List.mem_append_left _ hd0)
  have b12 : d1 < d2 := hl2 _ (List.mem_append_left _ hd1)
  have up : ∀ q ∈ S2 ++ (S1 ++ (S0 ++ [(l, W.listOf #[] 0), (c, co), (554, tabObj #[]), (547, tabObj #[])])), ¬ @Eq Nat q.1 554 → ¬ @Eq Nat q.1 547 → q ∈ n4 := fun q hq a b => hkeep4 q (hkeep3 q hq a b) a b
  have hl4 : (l, W.listOf #[] 0) ∈ n4 := up _ (List.mem_append_right _ (List.mem_append_right _ (List.mem_append_right _ (.head _)))) hlT.1 hlT.2
  have low : ∀ q : Addr × Obj, (q ∈ S0 ∨ q ∈ S1 ∨ q ∈ S2) → @LE.le Nat _ d0 q.1 := fun q h => by
    rcases h with h | h | h
    · exact ho0 q h
    · exact Nat.le_trans (Nat.le_of_lt b01) (ho1 q h)
    · exact Nat.le_trans (Nat.le_of_lt (Nat.lt_trans b01 b12)) (ho2 q h)
  have K : ∀ q : Addr × Obj, (q ∈ S0 ∨ q ∈ S1 ∨ q ∈ S2) → q ∈ del l ((nd, W.listOf #[.ref x0, .ref x1, .ref x2, .ref x3, .ref x4] 0) :: n4) := fun q h => by
    have hlow := low q h
    refine mem_del (.tail _ (up q ?_ (by omega) (by omega))) (by intro e; have e : @Eq Nat _ _ := e; omega)
    rcases h with h | h | h
    · exact List.mem_append_right _ (List.mem_append_right _ (List.mem_append_left _ h))
    · exact List.mem_append_right _ (List.mem_append_left _ h)
    · exact List.mem_append_left _ h
  have G0 := hF0.mono (n' := del l ((nd, W.listOf #[.ref x0, .ref x1, .ref x2, .ref x3, .ref x4] 0) :: n4)) fun q h => K q (.inl h)
  have G1 := hF1.mono (n' := del l ((nd, W.listOf #[.ref x0, .ref x1, .ref x2, .ref x3, .ref x4] 0) :: n4)) fun q h => K q (.inr (.inl h))
  have G2 := hF2.mono (n' := del l ((nd, W.listOf #[.ref x0, .ref x1, .ref x2, .ref x3, .ref x4] 0) :: n4)) fun q h => K q (.inr (.inr h))
  have kind : ∀ {q : Addr × Obj} {o : Obj}, (still q.2 = true ∨ (∃ C d, q.2 = instObj C d) ∨ ∃ es k, q.2 = dictOf es k) → q.2 = o → (still o = false) → (∀ C d, o ≠ instObj C d) → (∀ es k, o ≠ dictOf es k) → False := fun h e a b c => by
    rcases h with h | ⟨_, _, h⟩ | ⟨_, _, h⟩
    · rw [e, a] at h; cases h
    · exact b _ _ (e.symm.trans h)
    · exact c _ _ (e.symm.trans h)
  have tabD : ∀ (ps : Array Value) es k, tabObj ps ≠ dictOf es k := fun ps es k e => by have := congrArg Obj.cls e; cases this
  have up34 : ∀ q ∈ n3, (still q.2 = true ∨ (∃ C d, q.2 = instObj C d) ∨ ∃ es k, q.2 = dictOf es k) → q ∈ n4 := fun q hq h => by
    refine hkeep4 q hq (fun e => ?_) (fun e => ?_)
    · obtain ⟨_, _, _, _, _, h5, _⟩ := hHT3
      obtain ⟨a, o⟩ := q
      have e : a = 554 := e
      subst e
      exact kind h (fn3 _ _ _ hq h5) rfl (fun C d e => by cases e) (tabD _)
    · obtain ⟨_, h5, _⟩ := hCT3
      obtain ⟨a, o⟩ := q
      have e : a = 547 := e
      subst e
      exact kind h (fn3 _ _ _ hq h5) rfl (fun C d e => by cases e) (tabD _)
  have up4 : ∀ q ∈ n4, (still q.2 = true ∨ (∃ C d, q.2 = instObj C d) ∨ ∃ es k, q.2 = dictOf es k) → q ∈ del l ((nd, W.listOf #[.ref x0, .ref x1, .ref x2, .ref x3, .ref x4] 0) :: n4) := fun q hq h => by
    refine mem_del (.tail _ hq) fun e => ?_
    obtain ⟨a, o⟩ := q
    have e : a = l := e
    subst e
    exact kind h (fn4 _ _ _ hq hl4) rfl (fun C d e => by cases e) (fun es k => list_ne_dict)
  refine ⟨hl4, ⟨fun i hi => ?_, fun i hi => ?_, fun i h3 h5 => ?_, fun s hs i hi => ?_, fun i hi => ?_, fun s a b i hi => ?_, fun i hi j hj e => ?_, ⟨0, mem_del (.head _) hnd⟩, ?_, ?_, front_off, let ⟨_, _, _, _, _, h, _⟩ := hHT4; ⟨_, mem_del (.tail _ h) fun e => hlT.1 (show l = 554 from e.symm)⟩⟩⟩
  · match i, hi with
    | 0, _ => exact G0.filt
    | 1, _ => exact G1.filt
    | 2, _ => exact G2.filt
  · match i, hi with
    | 0, _ => exact G0.fdic
    | 1, _ => exact G1.fdic
    | 2, _ => exact G2.fdic
  · match i, h3, h5 with
    | 3, _, _ => exact (hLis3.keep2 up34).keep2 up4
    | 4, _, _ => exact hLis4.keep2 up4
  · match i, hi with
    | 0, _ => exact G0.dobj s hs
    | 1, _ => exact G1.dobj s hs
    | 2, _ => exact G2.dobj s hs
  · match i, hi with
    | 0, _ => exact G0.cont
    | 1, _ => exact G1.cont
    | 2, _ => exact G2.cont
  · match i, hi with
    | 0, _ => exact G0.ddic s a b
    | 1, _ => exact G1.ddic s a b
    | 2, _ => exact G2.ddic s a b
  · match i, hi, j, hj with
    | 0, _, 0, _ => rfl
    | 1, _, 1, _ => rfl
    | 2, _, 2, _ => rfl
    | 0, _, 1, _ => have e : d0 = d1 := e; omega
    | 1, _, 0, _ => have e : d1 = d0 := e; omega
    | 0, _, 2, _ => have e : d0 = d2 := e; omega
    | 2, _, 0, _ => have e : d2 = d0 := e; omega
    | 1, _, 2, _ => have e : d1 = d2 := e; omega
    | 2, _, 1, _ => have e : d2 = d1 := e; omega
  · exact hCT4.mono' (fun ps h => mem_del (.tail _ h) fun e => hlT.2 (show l = 547 from e.symm)) fun q hq h _ => up4 q hq (.inl h)
  · exact mem_del (.tail _ (up _ (List.mem_append_right _ (List.mem_append_right _ (List.mem_append_right _ (.tail _ (.head _))))) hc1.1 hc1.2)) hc

set_option maxHeartbeats 1000000 in
theorem pro1 {w : World} {p : Program} {loose : List Str} {mean : ExcName → Option Value} {mg mb : Str → Option Value} {A₀ : Around} {outer : List Env} {h₀ : Heap} {L fa : Addr} {cd : Value} {s : Shared} {m : Str → Option Value}
    {Q : Flow → Shared → Prop} {E : Value → Shared → Prop} {co : Obj}
    (hA : A₀ = callerA) (B : Below A₀ h₀ outer h₀) (X : (hd.heap_39 w.params).In h₀) (T : Top p loose mean mg mb h₀)
    (F : Fr h₀ L s.heap m) (N : News h₀ L s.heap [(L + 1, co), (554, tabObj #[]), (547, tabObj #[])]) (hL : 554 < L)
    (hQ : ∀ h' tk σ nd n, Fr h₀ L h' (fun y => if y = ("nodes" : Str) then some (.ref nd) else if y = ("heard" : Str) then some (.ref σ.heard) else m y) →
      News h₀ L h' ((σ.heard, W.listOf #[] 0) :: n) → Pre (G0 w p loose mean mg mb) σ nd (L + 1) co n →
      wpAny (model PySem.Challenge.rw_kq0045_01.row.prog w) (A₀.deeper (envOfC "law" lawScope L fa cd)) (execs (lawBody.drop 2) (envOfC "law" lawScope L fa cd)) Q E (St s h' tk)) :
    wpAny (model PySem.Challenge.rw_kq0045_01.row.prog w) (A₀.deeper (envOfC "law" lawScope L fa cd)) (execs lawBody (envOfC "law" lawScope L fa cd)) Q E s := by
  subst hA
  generalize hg5 : lawBody.drop 2 = g5 at hQ
  generalize hg : lawBody = g
  conv at hg => lhs; whnf
  conv at hg5 => lhs; whnf
  rw [hg5] at hg
  clear hg5
  subst hg
  k_steps
  rename_i lh hA1 l1 hA2 F1 N1
  unfold Stop
  k_dflt (refine' Calls.at (Γ := G0 _ _ _ _ _ _) ?F ?N ?X ?T ?B ?hA ?hf ?hk ?hh ?hd mkF ?_; (case F => k_asm); (case N => k_asm); (case X => k_asm); (case T => k_asm); (case B => k_asm); (case hA => exact Around.frames_deeper B.stack); (case hf => rfl); (case hk => rfl); (case hh => rfl); (case hd => k_room))
  rintro _ hv tkv _ Fv Nv ⟨x0, d0, H0, HD0, S0, rfl, hF0, rfl, ho0, hl0⟩
  k_steps
  unfold Stop
  k_dflt (refine' Calls.at (Γ := G0 _ _ _ _ _ _) ?F ?N ?X ?T ?B ?hA ?hf ?hk ?hh ?hd mkF ?_; (case F => k_asm); (case N => k_asm); (case X => k_asm); (case T => k_asm); (case B => k_asm); (case hA => exact Around.frames_deeper B.stack); (case hf => rfl); (case hk => rfl); (case hh => rfl); (case hd => k_room))
  rintro _ hv tkv _ Fv Nv ⟨x1, d1, H1, HD1, S1, rfl, hF1, rfl, ho1, hl1⟩
  k_steps
  unfold Stop
  k_dflt (refine' Calls.at (Γ := G0 _ _ _ _ _ _) ?F ?N ?X ?T ?B ?hA ?hf ?hk ?hh ?hd mkF ?_; (case F => k_asm); (case N => k_asm); (case X => k_asm); (case T => k_asm); (case B => k_asm); (case hA => exact Around.frames_deeper B.stack); (case hf => rfl); (case hk => rfl); (case hh => rfl); (case hd => k_room))
  rintro _ hv tkv _ Fv Nv ⟨x2, d2, H2, HD2, S2, rfl, hF2, rfl, ho2, hl2⟩
  k_steps
  unfold Stop
  k_dflt (refine' Calls.at (Γ := G0 _ _ _ _ _ _) ?F ?N ?X ?T ?B ?hA ?hf ?hk ?hh ?hd (listener_make (.inr (List.mem_append_right _ (List.mem_append_right _ (List.mem_append_right _ (.tail _ (.tail _ (.head _))))))) (.inr (List.mem_append_right _ (List.mem_append_right _ (List.mem_append_right _ (.tail _ (.tail _ (.tail _ (.head _))))))))) ?_; (case F => k_asm); (case N => k_asm); (case X => k_asm); (case T => k_asm); (case B => k_asm); (case hA => exact Around.frames_deeper B.stack); (case hf => rfl); (case hk => rfl); (case hh => rfl); (case hd => k_room))
  rintro _ hv tkv n3 Fv N3 ⟨x3, d3, rfl, hLis3, ol3, o30, hHT3, hCT3, hkeep3⟩
  have fn3 := fn_of N3 fun q hq => hq
  k_steps
  unfold Stop
  k_dflt (refine' Calls.at (Γ := G0 _ _ _ _ _ _) ?F ?N ?X ?T ?B ?hA ?hf ?hk ?hh ?hd (listener_make (.inl hHT3) (.inl hCT3)) ?_; (case F => k_asm); (case N => k_asm); (case X => k_asm); (case T => k_asm); (case B => k_asm); (case hA => exact Around.frames_deeper B.stack); (case hf => rfl); (case hk => rfl); (case hh => rfl); (case hd => k_room))
  rintro _ hv tkv n4 Fv N4 ⟨x4, d4, rfl, hLis4, ol4, o40, hHT4, hCT4, hkeep4⟩
  have fn4 := fn_of N4 fun q hq => hq
  k_steps
  rename_i nd hB1 l2 hB2 F6 N6
  have hl1' : @LT.lt Nat _ (L + 1) lh ∧ @LT.lt Nat _ 554 lh ∧ @LT.lt Nat _ 547 lh := l1
  have hLn : @LT.lt Nat _ 554 L := hL
  have hnd : (nd : Nat) ≠ lh := fun e => by
    have h := hkeep4 _ (hkeep3 (lh, W.listOf #[] 0) (List.mem_append_right _ (List.mem_append_right _ (List.mem_append_right _ (.head _)))) (by intro e; have e : @Eq Nat _ _ := e; omega) (by intro e; have e : @Eq Nat _ _ := e; omega)) (by intro e; have e : @Eq Nat _ _ := e; omega) (by intro e; have e : @Eq Nat _ _ := e; omega)
    have h : @LT.lt Nat _ lh nd := l2 _ h
    have e : @Eq Nat nd lh := e
    omega
  obtain ⟨hl4, P⟩ := pre_of (Γ := G0 w p loose mean mg mb) (nd := nd) (t1 := #[]) (t2 := #[]) hF0 hF1 hF2 ho0 ho1 ho2 hl0 hl1 hl2 (by intro e; have e : @Eq Nat _ _ := e; omega) ⟨by intro e; have e : @Eq Nat _ _ := e; omega, by intro e; have e : @Eq Nat _ _ := e; omega⟩ ⟨by intro e; have e : @Eq Nat _ _ := e; omega, by intro e; have e : @Eq Nat _ _ := e; omega⟩ hLis3 hHT3 hCT3 hkeep3 hLis4 hHT4 hCT4 hkeep4 fn3 fn4 hnd
  exact hQ _ _ _ nd _ F6 (to_front N6 (.tail _ hl4)) P
end Mine

namespace Mine
open PySem.Calls PySem.Spec
local macro_rules | `(tactic| k_room) => `(tactic| ((try simp only [depth_under_make, depth_under_kw, depth_in1, depth_deeper, depth_caller]); (try dsimp only); omega))
local macro_rules | `(tactic| k_mem) => `(tactic| first | with_reducible assumption | (with_reducible k_memK) | ((repeat with_reducible refine List.Mem.tail _ ?_); assumption))
local macro_rules | `(tactic| k_all) => `(tactic| assumption)
local macro_rules | `(tactic| walk_at "subscriptTail") => `(tactic| (refine stop_ ?_))
local macro_rules | `(tactic| walk_at "getItem ref int") => `(tactic| (refine stop_ ?_))
local macro_rules | `(tactic| walk_at "setItem ref int") => `(tactic| (refine stop_ ?_))
local macro_rules | `(tactic| walk_at "call ref") => `(tactic| (refine stop_ ?_))
local macro_rules | `(tactic| walk_at "CompSrc") => `(tactic| refine stop_ ?_)
local macro_rules | `(tactic| walk_at "exec Assign cons ListComp") => `(tactic| refine stop_ ?_)
theorem fillR1 (w : World) : PySem.Challenge.rw_kq0045_01 = PySem.Challenge.rw_kq0045_01 ∧ hd.heap_39 w.params = hd.heap_39 w.params := by
  k_fill
  exact ⟨rfl, rfl⟩

/-- the rows of steps -/
def StepsAt (cnt : Nat) (n : Led) (items : List Value) : Prop := items.length = cnt ∧ ∀ j < cnt, ∃ t way num : Nat, ∃ ta tb : Tok, items[j]? = some (.ref t) ∧ (t, tupObj [.int way ta, .int num tb]) ∈ n
theorem StepsAt.mono {cnt : Nat} {n n' : Led} {items : List Value} (h : StepsAt cnt n items) (sub : ∀ q ∈ n, q ∈ n') : StepsAt cnt n' items :=
  ⟨h.1, fun j hj => let ⟨a, b, c, d, e, f, g⟩ := h.2 j hj; ⟨a, b, c, d, e, f, sub _ g⟩⟩
/-- the steps so far -/
structure SInv (heard : Nat) (n0 : Led) (i : Nat) (ys : List Value) (news : Led) : Prop where
  keep : ∀ q ∈ n0, q ∈ news
  rows : StepsAt i news ys

theorem SInv.step {heard i : Nat} {n0 news : Led} {ys : List Value} {I C D D' : Addr} {oI oC oD ob : Obj} (V : SInv heard n0 i ys news) (off : LCg.Off3 I C D news) (lt : @LT.lt Nat _ I D' ∧ @LT.lt Nat _ C D' ∧ @LT.lt Nat _ D D') (ho : ∃ (way num : Nat) (ta tb : Tok), ob = tupObj [.int way ta, .int num tb]) :
    ∃ news', (∀ p ∈ (I, oI) :: (C, oC) :: (D, oD) :: news', p ∈ (D', ob) :: (I, oI) :: (C, oC) :: (D, oD) :: news) ∧ LCg.Off3 I C D news' ∧ SInv heard n0 (i + 1) (ys ++ [.ref D']) news' := by
  refine ⟨(D', ob) :: news, fun q hq => ?_, LCg.Off3.of fun q hq => ?_, ⟨fun q hq => .tail _ (V.keep q hq), ?_, fun j hj => ?_⟩⟩
  · rcases List.mem_cons.mp hq with rfl | hq
    · exact .tail _ (.head _)
    · rcases List.mem_cons.mp hq with rfl | hq
      · exact .tail _ (.tail _ (.head _))
      · rcases List.mem_cons.mp hq with rfl | hq
        · exact .tail _ (.tail _ (.tail _ (.head _)))
        · rcases List.mem_cons.mp hq with rfl | hq
          · exact .head _
          · exact .tail _ (.tail _ (.tail _ (.tail _ hq)))
  · rcases List.mem_cons.mp hq with rfl | hq
    · refine ⟨?_, ?_, ?_⟩ <;> (intro e; have e : @Eq Nat _ _ := e; omega)
    · exact off.mem q hq
  · rw [List.length_append, V.rows.1]; rfl
  · rcases Nat.lt_succ_iff_lt_or_eq.mp hj with hj | rfl
    · obtain ⟨t, way, num, ta, tb, a, b⟩ := V.rows.2 j hj
      refine ⟨t, way, num, ta, tb, ?_, .tail _ b⟩
      rw [List.getElem?_append_left (by rw [V.rows.1]; exact hj)]; exact a
    · obtain ⟨way, num, ta, tb, rfl⟩ := ho
      refine ⟨D', way, num, ta, tb, ?_, .head _⟩
      rw [← V.rows.1, List.getElem?_append_right (Nat.le_refl _), Nat.sub_self]; rfl
theorem row_of (x : Int) (i : Nat) (ta tb : Tok) : ∃ (way num : Nat) (ta' tb' : Tok), ({ cls := .type "tuple", data := .seq #[.int (x.fmod 3) ta, .int ((if x.fdiv 3 < 0 then -x.fdiv 3 else x.fdiv 3) + (i : Int)) tb] } : Obj) = tupObj [.int way ta', .int num tb'] := by
  have e1 : ((x.fmod 3).toNat : Int) = x.fmod 3 := Int.toNat_of_nonneg (by rw [Int.fmod_eq_emod_of_nonneg _ (by decide)]; exact Int.emod_nonneg _ (by decide))
  have e2 : (((if x.fdiv 3 < 0 then -x.fdiv 3 else x.fdiv 3) + (i : Int)).toNat : Int) = (if x.fdiv 3 < 0 then -x.fdiv 3 else x.fdiv 3) + (i : Int) := Int.toNat_of_nonneg (by split <;> omega)
  exact ⟨(x.fmod 3).toNat, ((if x.fdiv 3 < 0 then -x.fdiv 3 else x.fdiv 3) + (i : Int)).toNat, ta, tb, by rw [e1, e2]⟩
set_option maxHeartbeats 2000000 in
theorem pro2 {w : World} {p : Program} {loose : List Str} {mean : ExcName → Option Value} {mg mb : Str → Option Value} {A₀ : Around} {outer : List Env} {h₀ : Heap} {L fa wl : Addr} {cd : Value} {s : Shared} {m : Str → Option Value}
    {Q : Flow → Shared → Prop} {E : Value → Shared → Prop} {co : Obj} {heard : Nat} {n : Led} {vs : List Value} {ns : List Int}
    (hA : A₀ = callerA) (B : Below A₀ h₀ outer h₀) (X : (hd.heap_39 w.params).In h₀) (T : Top p loose mean mg mb h₀)
    (F : Fr h₀ L s.heap m) (N : News h₀ L s.heap ((heard, W.listOf #[] 0) :: n)) (off : ∀ q ∈ n, q.1 ≠ heard) (hcell : (L + 1, co) ∈ n) (hco : co.data = .cell (some (.ref wl))) (hl : h₀.IsList wl vs.toArray) (hI : IntsAre vs ns) (hlen : ns.length ≤ 63)
    (hQ : ∀ h' tk st items n', Fr h₀ L h' (fun y => if y = ("steps" : Str) then some (.ref st) else m y) → News h₀ L h' ((heard, W.listOf #[] 0) :: n') → (∀ q ∈ n, q ∈ n') → (∀ q ∈ n', q.1 ≠ heard) → StepsAt ns.length n' items → (∃ k, (st, W.listOf items.toArray k) ∈ n') →
      wpAny (model PySem.Challenge.rw_kq0045_01.row.prog w) (A₀.deeper (envOfC "law" lawScope L fa cd)) (execs (lawBody.drop 3) (envOfC "law" lawScope L fa cd)) Q E (St s h' tk)) :
    wpAny (model PySem.Challenge.rw_kq0045_01.row.prog w) (A₀.deeper (envOfC "law" lawScope L fa cd)) (execs (lawBody.drop 2) (envOfC "law" lawScope L fa cd)) Q E s := by
  subst hA
  generalize hg5 : lawBody.drop 3 = g5 at hQ
  generalize hg : lawBody.drop 2 = g
  conv at hg => lhs; whnf
  conv at hg5 => lhs; whnf
  rw [hg5] at hg
  clear hg5
  subst hg
  k_steps
  unfold Stop
  show wpAny _ _ (exec _ _) _ _ _
  k_dflt (refine LCg.Assign_ListComp_U (F₀ := by k_asm) (by rfl) (by with_unfolding_all rfl) (by with_unfolding_all rfl) (by decide) (by rfl) (by decide) (by rfl) (by rfl) (by rfl) ?_)
  k_dflt lcg_toSrc
  unfold Stop
  rename_i h1 _ _ _ _ hR F1 N1 _
  k_dflt (refine LCg.CompSrc.range (n := ns.length) (by rfl) F1 N1 hR (small_one (by decide) (by decide) (by omega) (by omega)) (by rw [rangeSize_nat]; omega) (Nat.le_trans hlen (by decide)) ?_)
  intro g'
  refine' compRest_ind (SInv heard ((heard, W.listOf #[] 0) :: n)) ?fin ?turn ns.length 0 (Nat.zero_add _) [] _ ⟨fun q hq => hq, rfl, fun j hj => absurd hj (Nat.not_lt_zero j)⟩
  case turn =>
    intro i ys news₁ hi V v I oI C oC D m₂ h tk E' hv hC hx F2 N2 off hne
    obtain ⟨tv, rfl⟩ := hv
    rw [Int.zero_add] at hx
    have mc : (L + 1, co) ∈ (I, oI) :: (C, oC) :: (D, LCg.lst ys) :: news₁ := .tail _ (.tail _ (.tail _ (V.keep _ (.tail _ hcell))))
    k_steps
    rename_i tk3 D' h3 F3 N3 l1
    obtain ⟨news', sub, off', V'⟩ := V.step off ⟨l1.1, l1.2.1, l1.2.2.1⟩ (row_of (ns.getD ((i : Int)).toNat 0) i _ _)
    exact LCg.CompEnd.intro F3 N3 news' sub off' True.intro V'
  case fin =>
    intro ys news₁ V D h tk F2 N2 o1
    have hh := V.keep _ (.head _)
    have off1 := off1_mem o1
    exact hQ _ _ D ys (del heard ((D, LCg.lst ys) :: news₁)) F2 (to_front N2 (.tail _ hh)) (fun q hq => mem_del (.tail _ (V.keep _ (.tail _ hq))) (off q hq)) front_off ⟨V.rows.1, fun j hj => (by
      obtain ⟨t, way, num, ta, tb, a, b⟩ := V.rows.2 j hj
      exact ⟨t, way, num, ta, tb, a, mem_del (.tail _ b) (ne_of_obj N2 (.tail _ b) (.tail _ hh) (fun e => by have := congrArg Obj.cls e; injection this with this; revert this; decide))⟩)⟩ ⟨_, mem_del (.head _) (Ne.symm (off1 _ hh))⟩
end Mine

namespace Mine
open PySem.Calls PySem.Spec
local macro_rules | `(tactic| k_room) => `(tactic| ((try simp only [depth_under_make, depth_under_kw, depth_in1, depth_deeper, depth_caller]); (try dsimp only); omega))
local macro_rules | `(tactic| k_mem) => `(tactic| first | with_reducible assumption | (with_reducible k_memK) | ((repeat with_reducible refine List.Mem.tail _ ?_); assumption))
local macro_rules | `(tactic| k_all) => `(tactic| assumption)
local macro_rules | `(tactic| walk_at "subscriptTail") => `(tactic| (refine stop_ ?_))
local macro_rules | `(tactic| walk_at "getItem ref int") => `(tactic| (refine stop_ ?_))
local macro_rules | `(tactic| walk_at "setItem ref int") => `(tactic| (refine stop_ ?_))
local macro_rules | `(tactic| walk_at "call ref") => `(tactic| (refine stop_ ?_))
local macro_rules | `(tactic| walk_at "binaryOp Add ref ref") => `(tactic| refine stop_ ?_)
theorem fillR2 (w : World) : PySem.Challenge.rw_kq0045_01 = PySem.Challenge.rw_kq0045_01 ∧ hd.heap_39 w.params = hd.heap_39 w.params := by
  k_fill
  exact ⟨rfl, rfl⟩

theorem StepsAt.append {a b : Nat} {n : Led} {xs ys : List Value} (h : StepsAt a n xs) (k : StepsAt b n ys) : StepsAt (a + b) n (xs ++ ys) := by
  refine ⟨by rw [List.length_append, h.1, k.1], fun j hj => ?_⟩
  by_cases hja : j < a
  · obtain ⟨t, way, num, ta, tb, e, m⟩ := h.2 j hja
    exact ⟨t, way, num, ta, tb, by rw [List.getElem?_append_left (by rw [h.1]; exact hja)]; exact e, m⟩
  · obtain ⟨t, way, num, ta, tb, e, m⟩ := k.2 (j - a) (by omega)
    exact ⟨t, way, num, ta, tb, by rw [List.getElem?_append_right (by rw [h.1]; omega), h.1]; exact e, m⟩
theorem StepsAt.drop {a : Nat} {pre n : Led} {x : Addr × Obj} {xs : List Value} (h : StepsAt a (pre ++ x :: n) xs) (hx : x.2.cls ≠ .type "tuple") : StepsAt a (pre ++ n) xs :=
  ⟨h.1, fun j hj => by
    obtain ⟨t, way, num, ta, tb, e, m⟩ := h.2 j hj
    refine ⟨t, way, num, ta, tb, e, ?_⟩
    rcases List.mem_append.mp m with m | m
    · exact List.mem_append_left _ m
    · rcases List.mem_cons.mp m with rfl | m
      · exact absurd rfl hx
      · exact List.mem_append_right _ m⟩
theorem addSteps {prog : Program} {w : World} {A : Around} {E : Value → Shared → Prop} {s : Shared} {h₀ : Heap} {L st l : Addr} {m : Str → Option Value} {Q : Value → Shared → Prop} {news : Led} {items items2 : List Value} {c0 d k0 k1 : Nat} (F : Fr h₀ L s.heap m) (N : News h₀ L s.heap news)
    (ha : (st, W.listOf items.toArray k0) ∈ news) (hr : StepsAt c0 news items) (hb : (l, W.listOf items2.toArray k1) ∈ news) (hr2 : StepsAt d news items2) (hc : c0 + d ≤ 100)
    (h : ∀ h' tk D, Fr h₀ L h' m → News h₀ L h' ((D, W.listOf (items ++ items2).toArray 0) :: news) → StepsAt (c0 + d) ((D, W.listOf (items ++ items2).toArray 0) :: news) (items ++ items2) → (∀ q ∈ news, @LT.lt Nat _ q.1 D) → Q (.ref D) (St s h' tk)) :
    wpAny (model prog w) A (binaryOp .Add (.ref st) (.ref l)) Q E s := by
  refine kmk_add_lit (zs := items ++ items2) F N (News.isList N ha) (News.isList N hb) (by simp) (fun D h' F' N' lt => ?_) (by show items.toArray.toList.length + items2.toArray.toList.length ≤ sizeLine; rw [List.toList_toArray, List.toList_toArray, hr.1, hr2.1]; exact Nat.le_trans hc (by decide))
  exact h h' _ D F' N' ((hr.append hr2).mono fun q hq => .tail _ hq) lt
set_option maxHeartbeats 2000000 in
theorem pro3 {w : World} {p : Program} {loose : List Str} {mean : ExcName → Option Value} {mg mb : Str → Option Value} {A₀ : Around} {outer : List Env} {h₀ : Heap} {L fa : Addr} {cd : Value} {s : Shared} {m : Str → Option Value}
    {Q : Flow → Shared → Prop} {E : Value → Shared → Prop} {heard st c0 k0 : Nat} {n : Led} {items : List Value}
    (hA : A₀ = callerA) (B : Below A₀ h₀ outer h₀) (X : (hd.heap_39 w.params).In h₀) (T : Top p loose mean mg mb h₀)
    (F : Fr h₀ L s.heap m) (N : News h₀ L s.heap ((heard, W.listOf #[] 0) :: n)) (off : ∀ q ∈ n, q.1 ≠ heard) (hms : m "steps" = some (.ref st)) (hst : (st, W.listOf items.toArray k0) ∈ n) (hrows : StepsAt c0 n items) (hc0 : c0 ≤ 63)
    (hQ : ∀ h' tk st items n', Fr h₀ L h' (fun y => if y = ("steps" : Str) then some (.ref st) else m y) → News h₀ L h' ((heard, W.listOf #[] 0) :: n') → (∀ q ∈ n, q ∈ n') → (∀ q ∈ n', q.1 ≠ heard) → StepsAt (c0 + 13) n' items → (∃ k, (st, W.listOf items.toArray k) ∈ n') →
      wpAny (model PySem.Challenge.rw_kq0045_01.row.prog w) (A₀.deeper (envOfC "law" lawScope L fa cd)) (execs (lawBody.drop 5) (envOfC "law" lawScope L fa cd)) Q E (St s h' tk)) :
    wpAny (model PySem.Challenge.rw_kq0045_01.row.prog w) (A₀.deeper (envOfC "law" lawScope L fa cd)) (execs (lawBody.drop 3) (envOfC "law" lawScope L fa cd)) Q E s := by
  subst hA
  generalize hg5 : lawBody.drop 5 = g5 at hQ
  generalize hg : lawBody.drop 3 = g
  conv at hg => lhs; whnf
  conv at hg5 => lhs; whnf
  rw [hg5] at hg
  clear hg5
  subst hg
  rw [nest1 hms] at F
  k_steps
  unfold Stop
  rename_i _ N5 _
  k_dflt (refine addSteps (d := 10) (by assumption) N5 (.tail _ (.tail _ (.tail _ (.tail _ (.tail _ (.tail _ (.tail _ (.tail _ (.tail _ (.tail _ (.tail _ (.tail _ hst)))))))))))) (hrows.mono fun q hq => (.tail _ (.tail _ (.tail _ (.tail _ (.tail _ (.tail _ (.tail _ (.tail _ (.tail _ (.tail _ (.tail _ (.tail _ hq))))))))))))) (.head _) ⟨rfl, fun j hj => match j, hj with
      | 0, _ => ⟨_, 0, 24, _, _, rfl, (.tail _ (.tail _ (.tail _ (.tail _ (.tail _ (.tail _ (.tail _ (.tail _ (.tail _ (.tail _ (.head _)))))))))))⟩
      | 1, _ => ⟨_, 0, 14, _, _, rfl, (.tail _ (.tail _ (.tail _ (.tail _ (.tail _ (.tail _ (.tail _ (.tail _ (.tail _ (.head _))))))))))⟩
      | 2, _ => ⟨_, 1, 21, _, _, rfl, (.tail _ (.tail _ (.tail _ (.tail _ (.tail _ (.tail _ (.tail _ (.tail _ (.head _)))))))))⟩
      | 3, _ => ⟨_, 1, 45, _, _, rfl, (.tail _ (.tail _ (.tail _ (.tail _ (.tail _ (.tail _ (.tail _ (.head _))))))))⟩
      | 4, _ => ⟨_, 0, 6, _, _, rfl, (.tail _ (.tail _ (.tail _ (.tail _ (.tail _ (.tail _ (.head _)))))))⟩
      | 5, _ => ⟨_, 1, 45, _, _, rfl, (.tail _ (.tail _ (.tail _ (.tail _ (.tail _ (.head _))))))⟩
      | 6, _ => ⟨_, 1, 42, _, _, rfl, (.tail _ (.tail _ (.tail _ (.tail _ (.head _)))))⟩
      | 7, _ => ⟨_, 0, 3, _, _, rfl, (.tail _ (.tail _ (.tail _ (.head _))))⟩
      | 8, _ => ⟨_, 1, 42, _, _, rfl, (.tail _ (.tail _ (.head _)))⟩
      | 9, _ => ⟨_, 1, 48, _, _, rfl, (.tail _ (.head _))⟩⟩ (by omega) ?_)
  intro h1 tk1 D1 F1 N1 r1 lt1
  have g1 : @LT.lt Nat _ heard D1 := lt1 (heard, W.listOf #[] 0) (.tail _ (.tail _ (.tail _ (.tail _ (.tail _ (.tail _ (.tail _ (.tail _ (.tail _ (.tail _ (.tail _ (.head _))))))))))))
  clear lt1
  k_steps
  unfold Stop
  rename_i _ N6 _
  k_dflt (refine addSteps (d := 3) (by assumption) N6 (.tail _ (.tail _ (.tail _ (.tail _ (.head _))))) (r1.mono fun q hq => (.tail _ (.tail _ (.tail _ (.tail _ hq))))) (.head _) ⟨rfl, fun j hj => match j, hj with
      | 0, _ => ⟨_, 1, 84, _, _, rfl, (.tail _ (.tail _ (.tail _ (.head _))))⟩
      | 1, _ => ⟨_, 0, 19, _, _, rfl, (.tail _ (.tail _ (.head _)))⟩
      | 2, _ => ⟨_, 1, 45, _, _, rfl, (.tail _ (.head _))⟩⟩ (by omega) ?_)
  intro h2 tk2 D2 F2 N2 r2 lt2
  have g2 : @LT.lt Nat _ heard D2 := lt2 (heard, W.listOf #[] 0) (.tail _ (.tail _ (.tail _ (.tail _ (.tail _ (.tail _ (.tail _ (.tail _ (.tail _ (.tail _ (.tail _ (.tail _ (.tail _ (.tail _ (.tail _ (.tail _ (.head _)))))))))))))))))
  clear lt2
  k_steps
  rename Fr _ _ _ _ => F8
  rename News _ _ _ _ => N8
  have N9 := pull2 (pre := [_, _, _, _, _, _, _, _, _, _, _, _, _, _, _, _, _]) N8 off (by intro q hq; simp only [List.mem_cons, List.not_mem_nil, or_false] at hq; rcases hq with rfl | rfl | rfl | rfl | rfl | rfl | rfl | rfl | rfl | rfl | rfl | rfl | rfl | rfl | rfl | rfl | rfl <;> (intro e; have e : @Eq Nat _ _ := e; omega))
  exact hQ _ _ _ _ _ (dupF (dupF F8)) N9.1 (fun q hq => List.mem_append_right _ hq) N9.2 (StepsAt.drop (pre := [_, _, _, _, _, _, _, _, _, _, _, _, _, _, _, _, _]) r2 (by intro e; injection e with e; revert e; decide)) ⟨_, .head _⟩
end Mine

namespace Mine
open PySem.Calls PySem.Spec
local macro_rules | `(tactic| k_room) => `(tactic| ((try simp only [depth_under_make, depth_under_kw, depth_in1, depth_deeper, depth_caller]); (try dsimp only); omega))
local macro_rules | `(tactic| k_mem) => `(tactic| first | with_reducible assumption | (with_reducible k_memK) | ((repeat with_reducible refine List.Mem.tail _ ?_); assumption))
local macro_rules | `(tactic| k_all) => `(tactic| assumption)
local macro_rules | `(tactic| walk_at "getItem ref int") => `(tactic| (refine stop_ ?_))
local macro_rules | `(tactic| walk_at "setItem ref int") => `(tactic| (refine stop_ ?_))
local macro_rules | `(tactic| walk_at "call ref") => `(tactic| (refine stop_ ?_))
local macro_rules | `(tactic| walk_at "CompSrc") => `(tactic| refine stop_ ?_)
local macro_rules | `(tactic| walk_at "exec Assign cons ListComp") => `(tactic| refine stop_ ?_)
theorem fillR3 (w : World) : PySem.Challenge.rw_kq0045_01 = PySem.Challenge.rw_kq0045_01 ∧ hd.heap_39 w.params = hd.heap_39 w.params := by
  k_fill
  exact ⟨rfl, rfl⟩

/-- the handlers read so far -/
structure FInv (σ : Sta) (n0 : Led) (i : Nat) (ys : List Value) (news : Led) : Prop where
  keep : ∀ q ∈ n0, q ∈ news
  len : ys.length = i
  rows : ∀ j < i, ∃ (g k : Nat), ys[j]? = some (.ref g) ∧ (g, W.listOf #[.ref (σ.H 0 j), .ref (σ.H 1 j), .ref (σ.H 2 j), .ref (σ.H 3 j)] k) ∈ news
theorem comp_step {news : Led} {I C D D' : Addr} {oI oC oD ob : Obj} (off : LCg.Off3 I C D news) (lt : ∀ q ∈ (I, oI) :: (C, oC) :: (D, oD) :: news, @LT.lt Nat _ q.1 D') :
    (∀ p ∈ (I, oI) :: (C, oC) :: (D, oD) :: (D', ob) :: news, p ∈ (D', ob) :: (I, oI) :: (C, oC) :: (D, oD) :: news) ∧ LCg.Off3 I C D ((D', ob) :: news) := by
  have l1 := lt _ (.head _)
  have l2 := lt _ (.tail _ (.head _))
  have l3 := lt _ (.tail _ (.tail _ (.head _)))
  dsimp only at l1 l2 l3
  refine ⟨fun q hq => ?_, LCg.Off3.of fun q hq => ?_⟩
  · rcases List.mem_cons.mp hq with rfl | hq
    · exact .tail _ (.head _)
    · rcases List.mem_cons.mp hq with rfl | hq
      · exact .tail _ (.tail _ (.head _))
      · rcases List.mem_cons.mp hq with rfl | hq
        · exact .tail _ (.tail _ (.tail _ (.head _)))
        · rcases List.mem_cons.mp hq with rfl | hq
          · exact .head _
          · exact .tail _ (.tail _ (.tail _ (.tail _ hq)))
  · rcases List.mem_cons.mp hq with rfl | hq
    · refine ⟨?_, ?_, ?_⟩ <;> (intro e; have e : @Eq Nat _ _ := e; omega)
    · exact off.mem q hq

set_option maxHeartbeats 2000000 in
theorem pro4 {w : World} {p : Program} {loose : List Str} {mean : ExcName → Option Value} {mg mb : Str → Option Value} {A₀ : Around} {outer : List Env} {h₀ : Heap} {L fa : Addr} {cd : Value} {s : Shared} {m : Str → Option Value}
    {Q : Flow → Shared → Prop} {E : Value → Shared → Prop} {co : Obj} {nd c : Nat} {σ : Sta} {n : Led}
    (hA : A₀ = callerA) (B : Below A₀ h₀ outer h₀) (X : (hd.heap_39 w.params).In h₀) (T : Top p loose mean mg mb h₀)
    (F : Fr h₀ L s.heap m) (N : News h₀ L s.heap ((σ.heard, W.listOf #[] 0) :: n)) (hmn : m "nodes" = some (.ref nd)) (P : Pre (G0 w p loose mean mg mb) σ nd c co n)
    (hQ : ∀ h' tk fs (g : Nat → Nat) n', Fr h₀ L h' (fun y => if y = ("first" : Str) then some (.ref fs) else m y) → News h₀ L h' ((σ.heard, W.listOf #[] 0) :: n') → (∀ q ∈ n, q ∈ n') → (∀ q ∈ n', q.1 ≠ σ.heard) → (∃ k, (fs, W.listOf #[.ref (g 0), .ref (g 1), .ref (g 2)] k) ∈ n') →
      (∀ i < 3, ∃ k, (g i, W.listOf #[.ref (σ.H 0 i), .ref (σ.H 1 i), .ref (σ.H 2 i), .ref (σ.H 3 i)] k) ∈ n') →
      wpAny (model PySem.Challenge.rw_kq0045_01.row.prog w) (A₀.deeper (envOfC "law" lawScope L fa cd)) (execs (lawBody.drop 6) (envOfC "law" lawScope L fa cd)) Q E (St s h' tk)) :
    wpAny (model PySem.Challenge.rw_kq0045_01.row.prog w) (A₀.deeper (envOfC "law" lawScope L fa cd)) (execs (lawBody.drop 5) (envOfC "law" lawScope L fa cd)) Q E s := by
  subst hA
  generalize hg5 : lawBody.drop 6 = g5 at hQ
  generalize hg : lawBody.drop 5 = g
  conv at hg => lhs; whnf
  conv at hg5 => lhs; whnf
  rw [hg5] at hg
  clear hg5
  subst hg
  obtain ⟨knd, hnd⟩ := P.nodes
  rw [nest1 hmn] at F
  k_steps
  unfold Stop
  show wpAny _ _ (exec _ _) _ _ _
  k_dflt (refine LCg.Assign_ListComp_U (F₀ := by k_asm) (by rfl) (by with_unfolding_all rfl) (by with_unfolding_all rfl) (by decide) (by rfl) (by decide) (by rfl) (by rfl) (by rfl) ?_)
  k_dflt lcg_toSrc
  unfold Stop
  rename_i Dl h1 F1 N1 l1
  k_dflt (refine LCg.CompSrc.ledger (by rfl) F1 N1 (.head _) (by show 3 ≤ sizeLine; decide) ?_)
  intro g'
  refine' compRest_ind (FInv σ ((Dl, W.listOf #[.ref (σ.X 0), .ref (σ.X 1), .ref (σ.X 2)] 0) :: (σ.heard, W.listOf #[] 0) :: n)) ?fin ?turn 3 0 rfl [] _ ⟨fun q hq => hq, rfl, fun j hj => absurd hj (Nat.not_lt_zero j)⟩
  case turn =>
    intro i ys news₁ hi V v I oI C oC D m₂ h tk E' hv hC hx F2 N2 off hne
    have hv3 := get3f (fun j => .ref (σ.X j)) hi
    obtain rfl : v = .ref (σ.X i) := by
      have hv' : ([.ref (σ.X 0), .ref (σ.X 1), .ref (σ.X 2)] : List Value)[i]? = some v := by simpa using hv
      exact Option.some.inj (hv'.symm.trans hv3)
    obtain ⟨u0, u1, u2, u3, u4, hD⟩ := P.fdic i hi
    have up : ∀ q ∈ n, q ∈ (I, oI) :: (C, oC) :: (D, LCg.lst ys) :: news₁ := fun q hq => .tail _ (.tail _ (.tail _ (V.keep _ (.tail _ (.tail _ hq)))))
    refine Call_ (LCgL.ld_global F2 (by k_asm) (by k_asm) (by k_is) ?_)
    refine' callWith_args2 (Γ := G0 w p loose mean mg mb) (vs := [.ref (σ.X i)]) ⟨⟨_, _, _, B, ?hA⟩, F2, X, N2, T, ?hf, ?hk, ?hh⟩ ?hd ?ok ?kp (registered (up _ (P.filt i hi)) (up _ hD)) fun r h' tk' n' F3 N3 hP => ?_
    case hA => exact Around.frames_deeper B.stack
    case hf => rfl
    case hk => rfl
    case hh => rfl
    case hd => k_room
    case kp => exact fun h F N => keeps_K (K := hd.heap_39 w.params) (by k_is) h (Frag.In.keeps X F.keep)
    case ok => exact .cons (fun _ => rfl) (fun prog w A E h₀ s Q F N hq => LCgL.ld_own N (.tail _ (.head _)) hC hx (hq _)) .nil
    obtain ⟨l, rfl, rfl, hlt⟩ := hP
    obtain ⟨sub, off'⟩ := comp_step (ob := W.listOf #[.ref (σ.H 0 i), .ref (σ.H 1 i), .ref (σ.H 2 i), .ref (σ.H 3 i)] 0) off hlt
    refine LCg.CompEnd.intro F3 N3 _ sub off' (.inr ⟨_, .tail _ (V.keep _ (.head _)), rfl, _, rfl⟩) ⟨fun q hq => .tail _ (V.keep q hq), by rw [List.length_append, V.len]; rfl, fun j hj => ?_⟩
    rcases Nat.lt_succ_iff_lt_or_eq.mp hj with hj | rfl
    · obtain ⟨g, k, a, b⟩ := V.rows j hj
      exact ⟨g, k, by rw [List.getElem?_append_left (by rw [V.len]; exact hj)]; exact a, .tail _ b⟩
    · exact ⟨l, 0, by rw [← V.len, List.getElem?_append_right (Nat.le_refl _), Nat.sub_self]; rfl, .head _⟩
  case fin =>
    intro ys news₁ V D h tk F2 N2 o1
    have hh := V.keep _ (.tail _ (.head _))
    have off1 := off1_mem o1
    have hl := V.len
    have hr := V.rows
    obtain ⟨y0, y1, y2, rfl⟩ := len3 hl
    obtain ⟨g0, k0, e0, m0⟩ := hr 0 (by decide)
    obtain ⟨g1, k1, e1, m1⟩ := hr 1 (by decide)
    obtain ⟨g2, k2, e2, m2⟩ := hr 2 (by decide)
    obtain rfl := Option.some.inj e0
    obtain rfl := Option.some.inj e1
    obtain rfl := Option.some.inj e2
    have ne : ∀ {a k : Nat} {l : List Value}, (a, W.listOf l.toArray k) ∈ news₁ → l ≠ [] → a ≠ σ.heard := fun hm hl e => by
      rw [e] at hm
      have := Data.seq.inj (congrArg Obj.data (News_fn N2 (.tail _ hm) (.tail _ hh)))
      have e2 := congrArg Array.toList this.1
      exact hl (by simpa using e2)
    refine hQ _ _ D (fun i => ([g0, g1, g2] : List Nat).getD i 0) (del σ.heard ((D, LCg.lst [.ref g0, .ref g1, .ref g2]) :: news₁)) ?_ (to_front N2 (.tail _ hh)) (fun q hq => mem_del (.tail _ (V.keep _ (.tail _ (.tail _ hq)))) (P.off q hq)) front_off ⟨_, mem_del (.head _) (Ne.symm (off1 _ hh))⟩ (fun i hi => ?_)
    · rw [← nest1 hmn] at F2
      exact F2
    · match i, hi with
      | 0, _ => exact ⟨k0, mem_del (.tail _ m0) (ne (l := [_, _, _, _]) m0 (by intro h; cases h))⟩
      | 1, _ => exact ⟨k1, mem_del (.tail _ m1) (ne (l := [_, _, _, _]) m1 (by intro h; cases h))⟩
      | 2, _ => exact ⟨k2, mem_del (.tail _ m2) (ne (l := [_, _, _, _]) m2 (by intro h; cases h))⟩
end Mine

namespace Mine
open PySem.Calls PySem.Spec
local macro_rules | `(tactic| k_room) => `(tactic| ((try simp only [depth_under_make, depth_under_kw, depth_in1, depth_deeper, depth_caller]); (try dsimp only); omega))
local macro_rules | `(tactic| k_mem) => `(tactic| first | with_reducible assumption | (with_reducible k_memK) | ((repeat with_reducible refine List.Mem.tail _ ?_); assumption))
local macro_rules | `(tactic| k_all) => `(tactic| assumption)
local macro_rules | `(tactic| walk_at "getItem ref int") => `(tactic| (refine stop_ ?_))
local macro_rules | `(tactic| walk_at "setItem ref int") => `(tactic| (refine stop_ ?_))
local macro_rules | `(tactic| walk_at "call ref") => `(tactic| (refine stop_ ?_))
local macro_rules | `(tactic| walk_at "CompSrc") => `(tactic| refine stop_ ?_)
local macro_rules | `(tactic| walk_at "exec Assign cons ListComp") => `(tactic| refine stop_ ?_)
theorem fillR4 (w : World) : PySem.Challenge.rw_kq0045_01 = PySem.Challenge.rw_kq0045_01 ∧ hd.heap_39 w.params = hd.heap_39 w.params := by
  k_fill
  exact ⟨rfl, rfl⟩


/-- the routes made so far -/
structure RInv (n0 : Led) (i : Nat) (ys : List Value) (news : Led) : Prop where
  keep : ∀ q ∈ n0, q ∈ news
  len : ys.length = i
  rows : ∃ qf : Nat → Nat, (∀ j < i, ys[j]? = some (.ref (qf j)) ∧ ∃ k, (qf j, W.listOf #[.none, .none, .none] k) ∈ news) ∧ ∀ j < i, ∀ j' < i, qf j = qf j' → j = j'
theorem RInv.step {i : Nat} {n0 news : Led} {ys : List Value} {D' : Nat} (V : RInv n0 i ys news) (lt : ∀ q ∈ news, @LT.lt Nat _ q.1 D') : RInv n0 (i + 1) (ys ++ [.ref D']) ((D', W.listOf #[.none, .none, .none] 0) :: news) := by
  obtain ⟨qf, a, b⟩ := V.rows
  have lo : ∀ j < i, qf j < D' := fun j hj => let ⟨_, k, m⟩ := a j hj; lt _ m
  refine ⟨fun q hq => .tail _ (V.keep q hq), by rw [List.length_append, V.len]; rfl, fun j => if j = i then D' else qf j, fun j hj => ?_, fun j hj j' hj' e => ?_⟩
  · dsimp only
    rcases Nat.lt_succ_iff_lt_or_eq.mp hj with hj | rfl
    · rw [if_neg (by omega)]
      obtain ⟨c, k, m⟩ := a j hj
      exact ⟨by rw [List.getElem?_append_left (by rw [V.len]; exact hj)]; exact c, k, .tail _ m⟩
    · rw [if_pos rfl]
      exact ⟨by rw [← V.len, List.getElem?_append_right (Nat.le_refl _), Nat.sub_self]; rfl, 0, .head _⟩
  · dsimp only at e
    rcases Nat.lt_succ_iff_lt_or_eq.mp hj with hj | rfl <;> rcases Nat.lt_succ_iff_lt_or_eq.mp hj' with hj' | rfl
    · rw [if_neg (by omega), if_neg (by omega)] at e
      exact b j hj j' hj' e
    · rw [if_neg (by omega), if_pos rfl] at e
      have := lo j hj; omega
    · rw [if_pos rfl, if_neg (by omega)] at e
      have := lo j' hj'; omega
    · rfl

set_option maxHeartbeats 2000000 in
theorem pro5 {w : World} {p : Program} {loose : List Str} {mean : ExcName → Option Value} {mg mb : Str → Option Value} {A₀ : Around} {outer : List Env} {h₀ : Heap} {L fa : Addr} {cd : Value} {s : Shared} {m : Str → Option Value}
    {Q : Flow → Shared → Prop} {E : Value → Shared → Prop} {heard : Nat} {n : Led}
    (hA : A₀ = callerA) (B : Below A₀ h₀ outer h₀) (X : (hd.heap_39 w.params).In h₀) (T : Top p loose mean mg mb h₀)
    (F : Fr h₀ L s.heap m) (N : News h₀ L s.heap ((heard, W.listOf #[] 0) :: n)) (off : ∀ q ∈ n, q.1 ≠ heard)
    (hQ : ∀ h' tk rt (qf : Nat → Nat) n', Fr h₀ L h' (fun y => if y = ("routes" : Str) then some (.ref rt) else m y) → News h₀ L h' ((heard, W.listOf #[] 0) :: n') → (∀ q ∈ n, q ∈ n') → (∀ q ∈ n', q.1 ≠ heard) → (∃ k, (rt, W.listOf #[.ref (qf 0), .ref (qf 1), .ref (qf 2), .ref (qf 3)] k) ∈ n') →
      (∀ i < 4, ∃ k, (qf i, W.listOf #[.none, .none, .none] k) ∈ n') → (∀ i < 4, ∀ j < 4, qf i = qf j → i = j) →
      wpAny (model PySem.Challenge.rw_kq0045_01.row.prog w) (A₀.deeper (envOfC "law" lawScope L fa cd)) (execs (lawBody.drop 7) (envOfC "law" lawScope L fa cd)) Q E (St s h' tk)) :
    wpAny (model PySem.Challenge.rw_kq0045_01.row.prog w) (A₀.deeper (envOfC "law" lawScope L fa cd)) (execs (lawBody.drop 6) (envOfC "law" lawScope L fa cd)) Q E s := by
  subst hA
  generalize hg5 : lawBody.drop 7 = g5 at hQ
  generalize hg : lawBody.drop 6 = g
  conv at hg => lhs; whnf
  conv at hg5 => lhs; whnf
  rw [hg5] at hg
  clear hg5
  subst hg
  k_steps
  unfold Stop
  show wpAny _ _ (exec _ _) _ _ _
  k_dflt (refine LCg.Assign_ListComp_U (F₀ := by k_asm) (by rfl) (by with_unfolding_all rfl) (by with_unfolding_all rfl) (by decide) (by rfl) (by decide) (by rfl) (by rfl) (by rfl) ?_)
  k_dflt lcg_toSrc
  unfold Stop
  rename_i h1 _ _ _ _ hR F1 N1 _
  k_dflt (refine LCg.CompSrc.range (n := 4) (by rfl) F1 N1 hR (small_one (by decide) (by decide) (by decide) (by decide)) (by rw [rangeSize_nat]; rfl) (by decide) ?_)
  intro g'
  refine' compRest_ind (RInv ((heard, W.listOf #[] 0) :: n)) ?fin ?turn 4 0 (Nat.zero_add _) [] _ ⟨fun q hq => hq, rfl, fun _ => 0, fun j hj => absurd hj (Nat.not_lt_zero j), fun j hj => absurd hj (Nat.not_lt_zero j)⟩
  case turn =>
    intro i ys news₁ hi V v I oI C oC D m₂ h tk E' hv hC hx F2 N2 off hne
    obtain ⟨tv, rfl⟩ := hv
    rw [Int.zero_add] at hx
    k_steps
    rename_i D' h3 F3 N3 l1
    have lt1 : ∀ q ∈ news₁, @LT.lt Nat _ q.1 D' := fun q hq => allLt_all l1.2.2.2 q hq
    obtain ⟨sub, off'⟩ := comp_step (oI := oI) (oC := oC) (oD := LCg.lst ys) (ob := W.listOf #[.none, .none, .none] 0) off (fun q hq => by
      rcases List.mem_cons.mp hq with rfl | hq
      · exact l1.1
      · rcases List.mem_cons.mp hq with rfl | hq
        · exact l1.2.1
        · rcases List.mem_cons.mp hq with rfl | hq
          · exact l1.2.2.1
          · exact lt1 q hq)
    exact LCg.CompEnd.intro F3 N3 _ sub off' True.intro (V.step lt1)
  case fin =>
    intro ys news₁ V D h tk F2 N2 o1
    have hh := V.keep _ (.head _)
    have off1 := off1_mem o1
    have hl := V.len
    obtain ⟨qf, hr, hinj⟩ := V.rows
    obtain ⟨y0, y1, y2, y3, rfl⟩ := len4 hl
    obtain ⟨e0, k0, m0⟩ := hr 0 (by decide)
    obtain ⟨e1, k1, m1⟩ := hr 1 (by decide)
    obtain ⟨e2, k2, m2⟩ := hr 2 (by decide)
    obtain ⟨e3, k3, m3⟩ := hr 3 (by decide)
    obtain rfl := Option.some.inj e0
    obtain rfl := Option.some.inj e1
    obtain rfl := Option.some.inj e2
    obtain rfl := Option.some.inj e3
    refine hQ _ _ D qf (del heard ((D, LCg.lst [.ref (qf 0), .ref (qf 1), .ref (qf 2), .ref (qf 3)]) :: news₁)) F2 (to_front N2 (.tail _ hh)) (fun q hq => mem_del (.tail _ (V.keep _ (.tail _ hq))) (off q hq)) front_off ⟨_, mem_del (.head _) (Ne.symm (off1 _ hh))⟩ (fun i hi => ?_) hinj
    obtain ⟨_, k, m⟩ := hr i hi
    exact ⟨k, mem_del (.tail _ m) fun e => by
      have e : qf i = heard := e
      rw [e] at m
      have := Data.seq.inj (congrArg Obj.data (News_fn N2 (.tail _ m) (.tail _ hh)))
      have e2 := congrArg Array.toList this.1
      cases e2⟩
end Mine

namespace Mine
open PySem.Calls PySem.Spec
local macro_rules | `(tactic| k_room) => `(tactic| ((try simp only [depth_under_make, depth_under_kw, depth_in1, depth_deeper, depth_caller]); (try dsimp only); omega))
local macro_rules | `(tactic| k_mem) => `(tactic| first | with_reducible assumption | (with_reducible k_memK) | ((repeat with_reducible refine List.Mem.tail _ ?_); assumption))
local macro_rules | `(tactic| k_all) => `(tactic| assumption)
theorem fillR5 (w : World) : PySem.Challenge.rw_kq0045_01 = PySem.Challenge.rw_kq0045_01 ∧ hd.heap_39 w.params = hd.heap_39 w.params := by
  k_fill
  exact ⟨rfl, rfl⟩

theorem law_body {w : World} {p : Program} {loose : List Str} {mean : ExcName → Option Value} {mg mb : Str → Option Value} {A₀ : Around} {outer : List Env} {h₀ : Heap} {L fa wl : Addr} {cd : Value} {s : Shared} {m : Str → Option Value}
    {Q : Flow → Shared → Prop} {E : Value → Shared → Prop} {co : Obj} {vs : List Value} {ns : List Int}
    (hA : A₀ = callerA) (B : Below A₀ h₀ outer h₀) (X : (hd.heap_39 w.params).In h₀) (T : Top p loose mean mg mb h₀)
    (F : Fr h₀ L s.heap m) (N : News h₀ L s.heap [(L + 1, co), (554, tabObj #[]), (547, tabObj #[])]) (hL : 554 < L) (hco : co.data = .cell (some (.ref wl))) (hl : h₀.IsList wl vs.toArray) (hI : IntsAre vs ns) (hlen : ns.length ≤ 63)
    (hE : PassesOwn (model PySem.Challenge.rw_kq0045_01.row.prog w) (A₀.deeper (envOfC "law" lawScope L fa cd)) (envOfC "law" lawScope L fa cd) E)
    (hQ : ∀ h' tk m' n', Fr h₀ L h' m' → News h₀ L h' n' → (∃ ps, (554, tabObj ps) ∈ n') → (∃ ps, (547, tabObj ps) ∈ n') → Q (.ret (.bool true)) (St s h' tk)) :
    wpAny (model PySem.Challenge.rw_kq0045_01.row.prog w) (A₀.deeper (envOfC "law" lawScope L fa cd)) (execs lawBody (envOfC "law" lawScope L fa cd)) Q E s := by
  refine pro1 hA B X T F N hL fun h1 tk1 σ nd n1 F1 N1 P1 => ?_
  refine pro2 hA B X T F1 N1 P1.off P1.cell hco hl hI hlen fun h2 tk2 st0 items0 n2 F2 N2 sub2 off2 rows2 hst2 => ?_
  obtain ⟨k2, hst2⟩ := hst2
  have P2 := P1.more sub2 off2
  refine pro3 hA B X T F2 N2 off2 (if_pos rfl) hst2 rows2 hlen fun h3 tk3 st items n3 F3 N3 sub3 off3 rows3 hst3 => ?_
  obtain ⟨k3, hst3⟩ := hst3
  have P3 := P2.more sub3 off3
  refine pro4 hA B X T F3 N3 (by with_unfolding_all rfl) P3 fun h4 tk4 fs g n4 F4 N4 sub4 off4 hfs hg => ?_
  refine pro5 hA B X T F4 N4 off4 fun h5 tk5 rt qf n5 F5 N5 sub5 off5 hrt hq hinj => ?_
  have P5 := P3.more (fun q hq => sub5 _ (sub4 _ hq)) off5
  have Y : Lw (G0 w p loose mean mg mb) ⟨σ.heard, σ.X, σ.D, σ.H, σ.HD, qf⟩ (fun _ _ => none) nd st fs rt (ns.length + 13) n5 := by
    refine ⟨⟨P5.filt, P5.fdic, P5.lis, P5.dobj, P5.cont, P5.ddic, fun s hs => ?_, off5, fn_of N5 fun q hq => .tail _ hq, P5.dinj, hinj⟩, (fun _ _ _ h => nomatch h), P5.nodes, ?_, hrt, ?_, P5.calls, P5.tab⟩
    · obtain ⟨k, h⟩ := hq s hs
      exact ⟨_, _, _, k, h, rfl, rfl, rfl⟩
    · have r := rows3.mono fun q hq => sub5 _ (sub4 _ hq)
      exact ⟨items, k3, sub5 _ (sub4 _ hst3), r.1, r.2⟩
    · obtain ⟨k, h⟩ := hfs
      refine ⟨g, k, sub5 _ h, fun i hi => ?_⟩
      obtain ⟨k, h⟩ := hg i hi
      exact ⟨k, sub5 _ h⟩
  refine loop (σ := ⟨σ.heard, σ.X, σ.D, σ.H, σ.HD, qf⟩) hA B X T F5 N5 Y ?M (by omega) hE fun h6 tk6 m6 R6 kk6 n6 F6 N6 Y6 M6 => ?_
  case M => exact ⟨by with_unfolding_all rfl, by with_unfolding_all rfl, by with_unfolding_all rfl, by with_unfolding_all rfl, by with_unfolding_all rfl⟩
  refine epilogue hA B X T F6 N6 Y6 M6 hE fun h7 tk7 m7 n7 F7 N7 a7 b7 => ?_
  exact hQ h7 tk7 m7 n7 F7 N7 a7 b7
end Mine

namespace Mine
open PySem.Calls PySem.Spec
local macro_rules | `(tactic| k_room) => `(tactic| ((try simp only [depth_under_make, depth_under_kw, depth_in1, depth_deeper, depth_caller]); (try dsimp only); omega))
local macro_rules | `(tactic| k_mem) => `(tactic| first | with_reducible assumption | (with_reducible k_memK) | ((repeat with_reducible refine List.Mem.tail _ ?_); assumption))
local macro_rules | `(tactic| k_all) => `(tactic| assumption)
theorem fillL2 (w : World) : PySem.Challenge.rw_kq0045_01 = PySem.Challenge.rw_kq0045_01 ∧ hd.heap_39 w.params = hd.heap_39 w.params := by
  k_fill
  exact ⟨rfl, rfl⟩

set_option maxHeartbeats 1000000 in
theorem law_walk : PySem.Challenge.rw_kq0045_01.Holds := hd (by
  w_strict (k_go0; (all_goals try k_fold))
  rename Below _ _ _ _ => KB
  rename Top _ _ _ _ _ _ => TT
  rename News _ _ _ _ => NN
  rename Fr _ _ _ _ => FF
  rename IntsAre _ _ => II
  rename Frag.In _ _ => XX
  rename Obj.data _ = Data.cell _ => RR
  refine' law_body rfl ?B ?X ?T ?F ?N ?hL ?hco ?hl ?hI ?hlen ?hE ?hQ
  case B => exact KB
  case X => exact XX
  case T => exact TT
  case F => exact FF
  case N => exact NN
  case hI => exact II
  case hl => assumption
  case hlen => omega
  case hL => exact And.left (by assumption)
  case hE => passes_own
  case hco => exact RR.trans (by with_unfolding_all rfl)
  intro h' tk m' n' F7 N7 g1 g2
  obtain ⟨p1, g1⟩ := g1
  obtain ⟨p2, g2⟩ := g2
  refine ⟨?_, ⟨p1, (N7 _ g1).1⟩, ⟨p2, (N7 _ g2).1⟩, True.intro⟩
  show GoodW _ _ _ _ _ (.ok (.ret (.bool _))) _
  refine goodW_bool F7 ?gens0 (raisesW_false ?rais0) ?post0
  case gens0 => assumption
  case rais0 => wrow_none_raised
  case post0 => wrow_post)
end Mine

set_option maxHeartbeats 4000000 in
theorem PySem.Challenge.cw_kq0045_01_holds : PySem.Challenge.rw_kq0045_01.Holds := by
  exact Mine.law_walk
