import PyProof.Rows.All
import Wide.All
import OpenK.AllK
import Wide.FinOn
import PySem.Challenge.RW_pg0060_01
open PySem PySem.W PySem.Spec PySem.Calls PyProof.Rows
set_option Elab.async false
set_option compiler.extract_closed false
set_option linter.all false
section -- LHead
set_option maxRecDepth 100000 in
set_option maxHeartbeats 0 in
set_option synthInstance.maxSize 1 in
open_top Mine.hd for PySem.Challenge.rw_pg0060_01
end
section -- LBase
namespace Mine

noncomputable def loG : List Str := looseW hd.view_39 [] ++ (recsOf hd.view_39).map (·.name) ++ (litsOf hd.view_39).map (·.1) ++ (clssOf hd.view_39 (looseW hd.view_39 [])).map (·.name)
abbrev Know := Addr → Obj → Prop
def Know.more (P : Know) (tl : List (Addr × Obj)) : Know := fun a o => P a o ∨ (a, o) ∈ tl
theorem Know.more_l {P : Know} {tl} {a o} (h : P a o) : P.more tl a o := .inl h
theorem Know.more_r {P : Know} {tl} {a o} (h : (a, o) ∈ tl) : P.more tl a o := .inr h
def Know.le (P Q : Know) : Prop := ∀ a o, P a o → Q a o

def Does (w : World) (mean : ExcName → Option Value) (mg mb : Str → Option Value) (f : Addr) (vs : List Value) (n : Nat) (P : Know) (Post : Know → Value → Prop) : Prop :=
  ∀ (dp un : Nat) (gd : Option (List Code)) (cn : Str) (cs : Scope) (a : Addr) (ccd : Value) (cl : List (Str × Addr)) (outer : List Env) (A₀ : Around) (base h₀ : Heap) (L : Addr) (m : Str → Option Value) (s : Shared)
    (Q E : Value → Shared → Prop),
    Below A₀ base outer h₀ → Fr h₀ L s.heap m → (hd.heap_39 w.params).In h₀ → Top topProg loG mean mg mb h₀ → cs.kind = .function → dp + n < recursionLimit → un + 8 * n < cLine →
    (∀ a o, P a o → s.heap.get? a = some o) →
    (∀ r tl h' tk', s.heap.StaysIn h' → (∀ p ∈ tl, h'.get? p.1 = some p.2 ∧ s.heap.get? p.1 = none) → Post (P.more tl) r → Q r { s with heap := h', toks := tk' }) →
    wpAny (model PySem.Challenge.pw_pg0060_01 w) (ktrTop dp un gd cn cs L a ccd cl outer) (call (.ref f) vs) Q E s

section
variable {prog : Program} {w : World} {A₀ A : Around} {s : Shared} {base h₀ : Heap} {outer : List Env} {L : Addr} {m mg mb : Str → Option Value} {env : Env} {K : Frag} {p : Program} {loose : List Str} {mean : ExcName → Option Value}
  {Q E : Value → Shared → Prop} {name qual : Str} {params : Arguments} {body : List Stmt} {scope : Scope} {dV kV doc pm cdv ct oc : Value} {an od : Option Addr} {osl : Array (Option Value)} {f : Addr} {args : Args} {binds : List (Str × Value)} {P : Know} {Post : Know → Value → Prop}

def Ends (h : Heap) (P : Know) (Post : Know → Value → Prop) (s : Shared) (r : Value) (s' : Shared) : Prop :=
  ∃ tl h' tk', s' = { s with heap := h', toks := tk' } ∧ h.StaysIn h' ∧ (∀ p ∈ tl, h'.get? p.1 = some p.2 ∧ h.get? p.1 = none) ∧ Post (P.more tl) r

theorem Ends.of {g h' : Heap} {L' : Addr} {m' : Str → Option Value} {news : List (Addr × Obj)} {r : Value} {tk : Nat} {s : Shared} (F : Fr g L' h' m') (N : News g L' h' news) (hp : Post (P.more news) r) :
    Ends g P Post s r { s with heap := h', toks := tk } := ⟨news, h', tk, rfl, F.keep, fun p hp => ⟨(N p hp).1, (N p hp).2.2⟩, hp⟩

end
theorem mem_step {α : Type _} {P : α → Prop} {a : α} {l : List α} (h1 : P a) (h2 : ∀ q ∈ l, P q) : ∀ q ∈ a :: l, P q := fun q hq => (List.mem_cons.mp hq).elim (fun e => e ▸ h1) (h2 q)
theorem mem_app {α : Type _} {P : α → Prop} {l₁ l₂ : List α} (h1 : ∀ q ∈ l₁, P q) (h2 : ∀ q ∈ l₂, P q) : ∀ q ∈ l₁ ++ l₂, P q := fun q hq => (List.mem_append.mp hq).elim (h1 q) (h2 q)
theorem mem_none {α : Type _} {P : α → Prop} : ∀ q ∈ ([] : List α), P q := fun _ h => nomatch h
end Mine
end
section -- LKit
namespace Mine

structure Stop (p : Prop) : Prop where
  out : p

theorem stop_wp {α : Type} {M : Model} {A : Around} {t : Sem α} {Q : α → Shared → Prop} {E : Value → Shared → Prop} {s : Shared} (h : Stop (wpAny M A t Q E s)) : wpAny M A t Q E s := h.out

abbrev tupO (vs : List Value) : Obj := { cls := .type "tuple", data := .seq vs.toArray }
abbrev listO (vs : List Value) (n : Nat) : Obj := { cls := .type "list", data := .seq vs.toArray n }

theorem Does.use {w : World} {mean : ExcName → Option Value} {mg mb : Str → Option Value} {f : Addr} {vs : List Value} {n : Nat} {P : Know} {Post : Know → Value → Prop}
    {dp un : Nat} {gd : Option (List Code)} {cn : Str} {cs : Scope} {a : Addr} {ccd : Value} {cl : List (Str × Addr)} {outer : List Env} {A₀ : Around} {base h₀ : Heap} {L : Addr} {m : Str → Option Value} {s : Shared}
    {Q E : Value → Shared → Prop} {news : List (Addr × Obj)} (hP : ∀ a o, P a o → h₀.get? a = some o)
    (C : Does w mean mg mb f vs n (P.more news) Post)
    (B : Below A₀ base outer h₀) (F : Fr h₀ L s.heap m) (X : (hd.heap_39 w.params).In h₀) (N : News h₀ L s.heap news) (T : Top topProg loG mean mg mb h₀) (hk : cs.kind = .function)
    (hdp : dp + n < recursionLimit) (hun : un + 8 * n < cLine)
    (ret : ∀ r tl h' tk', Fr h₀ L h' m → News h₀ L h' (tl ++ news) → (∀ p ∈ news, ∀ q ∈ tl, p.1 ≠ q.1) → Post (P.more (tl ++ news)) r → Q r { s with heap := h', toks := tk' })
    (mono : ∀ P' Q' r, (∀ a o, P' a o → Q' a o) → Post P' r → Post Q' r) :
    wpAny (model PySem.Challenge.pw_pg0060_01 w) (ktrTop dp un gd cn cs L a ccd cl outer) (call (.ref f) vs) Q E s := by
  refine C dp un gd cn cs a ccd cl outer A₀ base h₀ L m s Q E B F X T hk hdp hun (fun a o h => h.elim (fun h => F.keep _ _ (hP a o h)) fun h => (N _ h).1) fun r tl h' tk' hst htl hp => ?_
  obtain ⟨oL, es, ep, hL, hr⟩ := F.ns
  refine ret r tl h' tk' ⟨⟨oL, es, ep, hst _ _ hL, hr⟩, fun b o e => hst b o (F.keep b o e), F.above⟩ (fun p hp => ?_) (fun p hp q hq e => ?_) (mono _ _ _ (fun a o h => ?_) hp)
  · rcases List.mem_append.mp hp with hp | hp
    · have z := (htl p hp).2
      refine ⟨(htl p hp).1, fun e => ?_, ?_⟩
      · rw [e, hL] at z; cases z
      · cases q : h₀.get? p.1 with
        | none => rfl
        | some o => rw [F.keep _ _ q] at z; cases z
    · exact ⟨hst _ _ (N p hp).1, (N p hp).2⟩
  · have z := (htl q hq).2
    rw [← e, (N p hp).1] at z; cases z
  · rcases h with (h | h) | h
    · exact .inl h
    · exact .inr (List.mem_append_right _ h)
    · exact .inr (List.mem_append_left _ h)
end Mine
end
section -- LCell
namespace Mine

section
variable {prog : Program} {w : World} {A₀ A : Around} {s : Shared} {base h₀ : Heap} {outer : List Env} {L : Addr} {m mg mb : Str → Option Value} {env : Env} {K : Frag} {p : Program} {loose : List Str} {mean : ExcName → Option Value}
  {Q E : Value → Shared → Prop} {name qual : Str} {params : Arguments} {body : List Stmt} {scope : Scope} {dV kV doc pm cdv ct oc : Value} {an od : Option Addr} {osl : Array (Option Value)} {f : Addr} {args : Args} {binds : List (Str × Value)} {P : Know} {Post : Know → Value → Prop}

end
end Mine
end
section -- LHen
namespace Mine
set_option genInjectivity false in
set_option genSizeOf false in
structure Base where
  w : World
  mean : ExcName → Option Value
  mg : Str → Option Value
  mb : Str → Option Value
  P : Know
  dp : Nat
  un : Nat
  gd : Option (List Code)
  cn : Str
  cs : Scope
  L : Addr
  a : Addr
  ccd : Value
  cl : List (Str × Addr)
  outer : List Env
  base : Heap
  g : Heap
  L' : Addr
  s : Shared
  Q : Flow → Shared → Prop
theorem Base.ne : Nonempty Base :=
  ⟨⟨⟨fun _ _ => 0, { strHash := fun _ => 0, shareClass := fun _ => 0, mergeTok := fun x => x, idOf := fun _ => 0, idOfShared := fun _ _ => 0, followText := fun _ => false, idOfImm := fun _ => 0 }⟩,
    fun _ => none, fun _ => none, fun _ => none, fun _ _ => False, 0, 0, none, default, default, 0, 0, .none, [], [], default, default, 0, {}, fun _ _ => True⟩⟩
inductive OkAt {α : Type} (S : α → Prop) (b : α) : Prop
  | mk (h : S b → ∀ a, S a) : OkAt S b
theorem OkAt.ex {α : Type} (ne : Nonempty α) (S : α → Prop) : ∃ b, OkAt S b :=
  (Classical.em (∀ b, S b)).elim (fun h => ne.elim fun b => ⟨b, ⟨fun _ => h⟩⟩) fun h => (Classical.not_forall.mp h).elim fun b hb => ⟨b, ⟨fun k => absurd k hb⟩⟩
theorem OkAt.all {α : Type} {S : α → Prop} (h : ∃ b, OkAt S b) (k : S (Classical.choose h)) : ∀ a, S a := (Classical.choose_spec h).casesOn fun j => j k
theorem Base.some (S : Base → Prop) : ∃ b, S b → ∀ b, S b :=
  (Classical.em (∀ b, S b)).elim (fun h => Base.ne.elim fun b => ⟨b, fun _ => h⟩) fun h => (Classical.not_forall.mp h).elim fun b hb => ⟨b, fun k => absurd k hb⟩

inductive DoesAt (b : Base) (f : Addr) (vs : List Value) (n : Nat) (Post : Know → Value → Prop) : Prop
  | mk
    {name qual : Str} {params : Arguments} {body : List Stmt} {scope : Scope} {dV kV doc pm cdv ct oc : Value} {an od : Option Addr} {osl : Array (Option Value)} {binds : List (Str × Value)}
    (ho : (hd.heap_39 b.w.params).lookup f = some ⟨oc, od, .func (fnOf name qual params body scope dV kV doc pm an cdv ct), osl⟩) (hcd : codeIn (hd.heap_39 b.w.params) cdv qual = true)
    (hbind : ∀ s, BindsTo s (fnOf name qual params body scope dV kV doc pm an cdv ct) ⟨vs, []⟩ binds) (hloc : ∀ y ∈ binds, scope.names.lookup y.1 = some .local)
    (hco : scope.isCoroutine = false) (hgen : scope.isGenerator = false) (hk : scope.kind = .function)
    (hcell : ∀ x ∈ scope.names, x.2 ≠ .cell)
    (h : ∀ (h₁ : Heap) (t₁ : Nat),
      (∀ a o, b.P a o → b.g.get? a = some o) → Fr b.g b.L' h₁ (fun y => binds.reverse.lookup y) → News b.g b.L' h₁ [] → Below (ktrTop b.dp b.un b.gd b.cn b.cs b.L b.a b.ccd b.cl b.outer) b.base (envX b.cn b.cs b.L b.a b.ccd b.cl :: b.outer) b.g → (hd.heap_39 b.w.params).In b.g →
      Top topProg loG b.mean b.mg b.mb b.g → b.g.objs.size = b.L' → b.cs.kind = .function → b.dp + n < recursionLimit → b.un + 8 * n < cLine → (∀ fl s', Ends b.g b.P Post b.s (match fl with | .ret v => v | _ => .none) s' → b.Q fl s') →
      wpAny (model PySem.Challenge.pw_pg0060_01 b.w) ((ktrTop b.dp b.un b.gd b.cn b.cs b.L b.a b.ccd b.cl b.outer).deeper (envOf qual scope b.L' f cdv)) (execs body (envOf qual scope b.L' f cdv))
        b.Q (fun _ _ => False)
        { b.s with heap := h₁, toks := t₁ }) : DoesAt b f vs n Post
section
variable {prog : Program} {w : World} {A₀ A : Around} {s : Shared} {base h₀ : Heap} {outer : List Env} {L : Addr} {m mg mb : Str → Option Value} {env : Env} {K : Frag} {p : Program} {loose : List Str} {mean : ExcName → Option Value}
  {Q E : Value → Shared → Prop} {name qual : Str} {params : Arguments} {body : List Stmt} {scope : Scope} {dV kV doc pm cdv ct oc : Value} {an od : Option Addr} {osl : Array (Option Value)} {f : Addr} {args : Args} {binds : List (Str × Value)} {P : Know} {Post : Know → Value → Prop}
theorem enterS (B : Below A₀ base outer h₀) (F : Fr h₀ L s.heap m) (X₀ : K.In h₀) (T : Top p loose mean mg mb h₀) (hA : A.frames = some (env :: outer)) (hf : env.frame = some L) (hke : env.scope.kind = .function)
    (ho : K.lookup f = some ⟨oc, od, .func (fnOf name qual params body scope dV kV doc pm an cdv ct), osl⟩) (hcd : codeIn K cdv qual = true) (hroom : A.depth < recursionLimit)
    (hbind : BindsTo s (fnOf name qual params body scope dV kV doc pm an cdv ct) args binds) (hloc : ∀ y ∈ binds, scope.names.lookup y.1 = some .local)
    (hP : ∀ a o, P a o → s.heap.get? a = some o)
    (hret : ∀ r tl h' tk', s.heap.StaysIn h' → (∀ p ∈ tl, h'.get? p.1 = some p.2 ∧ s.heap.get? p.1 = none) → Post (P.more tl) r → Q r { s with heap := h', toks := tk' })
    (h : ∀ h₁ t₁, (∀ a o, P a o → s.heap.get? a = some o) → Fr s.heap s.heap.objs.size h₁ (fun y => binds.reverse.lookup y) → News s.heap s.heap.objs.size h₁ [] → Below A base (env :: outer) s.heap → K.In s.heap → Top p loose mean mg mb s.heap → s.heap.objs.size = s.heap.objs.size →
      wpAny (model prog w) (A.deeper (envOf qual scope s.heap.objs.size f cdv)) (execs body (envOf qual scope s.heap.objs.size f cdv))
        (fun fl s' => Ends s.heap P Post s (match fl with | .ret v => v | _ => .none) s') (fun _ _ => False)
        { s with heap := h₁, toks := t₁ })
    (hco : scope.isCoroutine = false) (hgen : scope.isGenerator = false) (hk : scope.kind = .function)
    (hcell : ∀ x ∈ scope.names, x.2 ≠ .cell) :
    codeAny (model prog w) A (.call (.ref f) args) (fun r s' => match r with | .ok (.ret v) => Q v s' | .ok _ => False | .error e => E e s') s := by
  obtain ⟨FG, BG, st, lv⟩ := groundX (R := fun _ _ => True) (news := []) B F News.nil hA hf hke
  refine codeAny_call_def (fd := fnOf name qual params body scope dV kV doc pm an cdv ct) (body := body) (binds := binds) hroom ((X₀.keeps F.keep) _ _ ho) rfl (T.nolimit.keeps F.keep) (codeRec_of (X₀.keeps F.keep) hcd) rfl hbind hcell hloc (fun h₁ hns hk₁ => ?_) hco hgen hk
  refine wpAny_mono (h h₁ _ hP ⟨hns, hk₁, Nat.le_refl _⟩ News.nil BG (X₀.keeps F.keep) (T.keeps F.keep) rfl) (fun fl s' hl => ?_) fun _ _ y => y.elim
  obtain ⟨tl, h', tk', rfl, hst, htl, hp⟩ := hl
  exact hret _ tl h' tk' hst htl hp
end
theorem Does.of {w mean mg mb} {f : Addr} {vs : List Value} {n : Nat} {P : Know} {Post : Know → Value → Prop}
    (h : ∀ dp un gd cn cs L a ccd cl outer base g L' s Q, DoesAt ⟨w, mean, mg, mb, P, dp, un, gd, cn, cs, L, a, ccd, cl, outer, base, g, L', s, Q⟩ f vs n Post) : Does w mean mg mb f vs n P Post := by
  intro dp un gd cn cs a ccd cl outer A₀ base h₀ L m s Q E B F X T hck hdp hun hP hret
  cases h dp un gd cn cs L a ccd cl outer base s.heap s.heap.objs.size s _ with
  | @mk name qual params body scope dV kV doc pm cdv ct oc an od osl binds ho hcd hbind hloc hco hgen hk hcell hw =>
  exact wpAny_call (enterS B F X T rfl rfl hck ho hcd (by show dp < recursionLimit; omega) (hbind s) hloc hP hret
    (fun h₁ t₁ hP' F' N' B' X' T' hL' => hw h₁ t₁ hP' F' N' B' X' T' hL' hck hdp hun fun _ _ x => x) hco hgen hk hcell)
inductive DoesAtC (b : Base) (f : Addr) (vs : List Value) (n : Nat) (Post : Know → Value → Prop) : Prop
  | mk
    {name qual : Str} {params : Arguments} {body : List Stmt} {scope : Scope} {dV kV doc pm cdv ct oc : Value} {an od : Option Addr} {osl : Array (Option Value)} {binds : List (Str × Value)}
    (ho : (hd.heap_39 b.w.params).lookup f = some ⟨oc, od, .func (fnOf name qual params body scope dV kV doc pm an cdv ct), osl⟩) (hcd : codeIn (hd.heap_39 b.w.params) cdv qual = true)
    (hbind : ∀ s, BindsTo s (fnOf name qual params body scope dV kV doc pm an cdv ct) ⟨vs, []⟩ binds)
    (hkind : ∀ n, ∀ x ∈ binds, scope.names.lookup x.1 = some .local ∨ (scope.names.lookup x.1 = some .cell ∧ ((cellsFrom n scope.names []).lookup x.1).isSome = true))
    (hnd : ((cellsFrom 0 scope.names []).map (·.1)).Nodup)
    (hco : scope.isCoroutine = false) (hgen : scope.isGenerator = false) (hk : scope.kind = .function)
    (h : ∀ (h₁ : Heap) (t₁ : Nat) (cells : List (Addr × Obj)),
      (∀ a o, b.P a o → b.g.get? a = some o) → Fr b.g b.L' h₁ (bindL (envOfC qual scope b.L' f cdv).kindOf binds fun _ => none) → News b.g b.L' h₁ cells →
      CellsAre (bindC (envOfC qual scope b.L' f cdv).kindOf binds fun _ => none) (cellsFrom (b.L' + 1) scope.names []) cells →
      Below (ktrTop b.dp b.un b.gd b.cn b.cs b.L b.a b.ccd b.cl b.outer) b.base (envX b.cn b.cs b.L b.a b.ccd b.cl :: b.outer) b.g → (hd.heap_39 b.w.params).In b.g →
      Top topProg loG b.mean b.mg b.mb b.g → b.g.objs.size = b.L' → b.cs.kind = .function → b.dp + n < recursionLimit → b.un + 8 * n < cLine → (∀ fl s', Ends b.g b.P Post b.s (match fl with | .ret v => v | _ => .none) s' → b.Q fl s') →
      wpAny (model PySem.Challenge.pw_pg0060_01 b.w) ((ktrTop b.dp b.un b.gd b.cn b.cs b.L b.a b.ccd b.cl b.outer).deeper (envOfC qual scope b.L' f cdv)) (execs body (envOfC qual scope b.L' f cdv))
        b.Q (fun _ _ => False)
        { b.s with heap := h₁, toks := t₁ }) : DoesAtC b f vs n Post
theorem Does.ofC {w mean mg mb} {f : Addr} {vs : List Value} {n : Nat} {P : Know} {Post : Know → Value → Prop}
    (h : ∀ dp un gd cn cs L a ccd cl outer base g L' s Q, DoesAtC ⟨w, mean, mg, mb, P, dp, un, gd, cn, cs, L, a, ccd, cl, outer, base, g, L', s, Q⟩ f vs n Post) : Does w mean mg mb f vs n P Post := by
  intro dp un gd cn cs a ccd cl outer A₀ base h₀ L m s Q E B F X T hck hdp hun hP hret
  cases h dp un gd cn cs L a ccd cl outer base s.heap s.heap.objs.size s (fun fl s' => Ends s.heap P Post s (match fl with | .ret v => v | _ => .none) s') with
  | @mk name qual params body scope dV kV doc pm cdv ct oc an od osl binds ho hcd hbind hkind hnd hco hgen hk hw =>
  refine wpAny_call ?_
  obtain ⟨FG, BG, st, lv⟩ := groundX (R := fun _ _ => True) (news := []) B F News.nil (A := ktrTop dp un gd cn cs L a ccd cl outer) (env := envX cn cs L a ccd cl) (outer := outer) rfl rfl hck
  refine codeAny_call_function (by show dp < recursionLimit; omega) ((X.keeps F.keep) _ _ ho) rfl hco hgen rfl (codeRec_of (X.keeps F.keep) hcd) (hbind s _ _ _ _ ?_)
  refine wpAny_newFunctionEnv_cells hk (hkind _) fun env' he s' x => ?_
  subst he
  refine ⟨(T.nolimit.keeps F.keep).keeps x.toInCall.keep, codeAny_func ?_⟩
  obtain ⟨h₁, tk, rfl, _⟩ := x.done
  obtain ⟨cells, NC, Y⟩ := Cl.news (h₀ := s.heap) (Nat.le_refl _) fun n c hm => ⟨x.cell n c (lookup_of_mem_nodup (cellsFrom_names scope.names 0 (s.heap.objs.size + 1) [] [] rfl ▸ hnd) hm), x.above n c hm⟩
  refine wpAny_mono (hw h₁ tk cells hP ⟨x.toInCall.ns, x.toInCall.keep, Nat.le_refl _⟩ NC Y BG (X.keeps F.keep) (T.keeps F.keep) rfl hck hdp hun fun _ _ x => x) (fun fl s' hl => ?_) fun _ _ y => y.elim
  obtain ⟨tl, h', tk', rfl, hst, htl, hp⟩ := hl
  exact hret _ tl h' tk' hst htl hp
end Mine
end
section -- LOps
namespace Mine
open AutoSeq1 (wpAny_loadPart')
open MeetsSeq MeetsSeq2 MeetsSeq3 SeqRoads2 SeqAt

set_option maxRecDepth 100000 in
set_option maxHeartbeats 4000000 in
theorem pair_ltAt (l b : Addr) (a1 a2 b1 b2 : Int) (t1 t2 u1 u2 : Tok) (n n2 : Nat) (dd dd2 : Option Addr) (sl sl2 : Array (Option Value)) :
    Meets (Builtin.«tuple.__lt__» ⟨[.ref l, .ref b], []⟩)
      (fun A R s => s.heap.get? l = some { cls := .type "tuple", dict := dd, data := .seq #[.int a1 t1, .int a2 t2] n, slots := sl } ∧ s.heap.get? b = some { cls := .type "tuple", dict := dd2, data := .seq #[.int b1 u1, .int b2 u2] n2, slots := sl2 } ∧
        R (.ok (.ret (.bool (decide (a1 < b1 ∨ a1 = b1 ∧ a2 < b2))))) s) :=
  .of_wp fun prog w A R s h => by
    obtain ⟨hp, g, d, tk, os⟩ := s; obtain ⟨hl, hb, h⟩ := h
    have f2 := AutoSeq1.sub_tuple_tuple
    wp_walk using wpAny_loadPart' hl, wpAny_loadPart' hb, wpAny_forIn_list _ (fun rest b s' => b.1 = none ∧ s' = ⟨hp, g, d, tk, os⟩ ∧
      (rest = [(Value.int a1 t1, Value.int b1 u1), (Value.int a2 t2, Value.int b2 u2)] ∨ (rest = [(Value.int a2 t2, Value.int b2 u2)] ∧ a1 = b1) ∨ (rest = [] ∧ a1 = b1 ∧ a2 = b2))) _
    case turn =>
      rintro ⟨y, x⟩ rest b s' ⟨hb', rfl, hz⟩
      rcases hz with hz | ⟨hz, e1⟩ | ⟨hz, _⟩
      · injection hz with h1 h2
        injection h1 with hy hx
        subst hy hx h2
        refine wpAny_bind ((EqGives.int a1 b1 t1 u1).at _ _ prog w _ _ ?_)
        cases hy : a1 == b1 with
        | true =>
          wp_walk
          exact ⟨rfl, rfl, .inr (.inl ⟨rfl, by simpa using hy⟩)⟩
        | false =>
          have hne : a1 ≠ b1 := by simpa using hy
          simp only [Bool.not_false, if_true]
          refine wpAny_bind (wpAny_rule (wpAny_bind ?_))
          refine wpAny_lt_int ?_
          wp_walk
          refine ⟨_, rfl, ?_⟩
          simpa [hne] using h
      · injection hz with h1 h2
        injection h1 with hy hx
        subst hy hx h2
        refine wpAny_bind ((EqGives.int a2 b2 t2 u2).at _ _ prog w _ _ ?_)
        cases hy : a2 == b2 with
        | true =>
          wp_walk
          exact ⟨rfl, rfl, .inr (.inr ⟨rfl, e1, by simpa using hy⟩)⟩
        | false =>
          have hne : a2 ≠ b2 := by simpa using hy
          simp only [Bool.not_false, if_true]
          refine wpAny_bind (wpAny_rule (wpAny_bind ?_))
          refine wpAny_lt_int ?_
          wp_walk
          refine ⟨_, rfl, ?_⟩
          simpa [e1] using h
      · cases hz
    case fin =>
      rintro ⟨b1', b2'⟩ s' ⟨hb', rfl, hz⟩
      simp only at hb'
      subst hb'
      rcases hz with hz | ⟨hz, e1⟩ | ⟨_, e1, e2⟩
      · cases hz
      · cases hz
      · wp_walk
        refine ⟨_, rfl, ?_⟩
        simpa [Builtin.Tuple.tupleCompareSizes, e1, e2] using h
    case h =>
      exact ⟨rfl, rfl, .inl rfl⟩

theorem pair_lt {prog : Program} {w : World} {A : Around} {E : Value → Shared → Prop} {s : Shared} {l b : Addr} {a1 a2 b1 b2 : Int} {t1 t2 u1 u2 : Tok} {Q : Value → Shared → Prop}
    (hl : IsTup s.heap l #[.int a1 t1, .int a2 t2]) (hb : IsTup s.heap b #[.int b1 u1, .int b2 u2]) (hu : A.units < cLine) (h : Q (.bool (decide (a1 < b1 ∨ a1 = b1 ∧ a2 < b2))) s) :
    wpAny (model prog w) A (compareOp .Lt (.ref l) (.ref b)) Q E s := by
  obtain ⟨⟨cls, dd, data, sl⟩, ho, hc, n, hd⟩ := id hl
  obtain ⟨⟨cls2, dd2, data2, sl2⟩, ho2, hc2, n2, hd2⟩ := id hb
  simp only at hc hd hc2 hd2
  subst hc hd hc2 hd2
  exact richCompare_meets_room (op := .Lt) ⟨_, ho, rfl⟩ ⟨_, ho2, rfl⟩ F.slot_tuple_lt F.entry_tuple_lt (F.args_tuple_lt_2 _ _) (pair_ltAt l b a1 a2 b1 b2 t1 t2 u1 u2 n n2 dd dd2 sl sl2)
    ⟨ho, ho2, show Value.bool _ ≠ Value.notImplemented ∧ Q (.bool _) s from ⟨(fun x => nomatch x), h⟩⟩ hu

section
variable {prog : Program} {w : World} {A : Around} {E : Value → Shared → Prop} {s : Shared} {h₀ : Heap} {L : Addr} {m : Str → Option Value} {news : List (Addr × Obj)}
theorem sliceApplied_to2 {sl : Addr} {u : Tok} {Q : Int × Int × Nat → Shared → Prop} (hs : s.heap.IsSliceOf sl .none (.int 2 u) .none) (h : Q (0, 1, 2) s) :
    wpAny (model prog w) A (Builtin.Slice.sliceApplied (.ref sl) (pure ((3 : Nat) : Int))) Q E s := by
  obtain ⟨os, hos, hcs, hds⟩ := id hs
  unfold Builtin.Slice.sliceApplied Builtin.Slice.sliceFields
  refine wpAny_bind (wpAny_bind (wpAny_field hos hds (x := .none) rfl (wpAny_bind (wpAny_field hos hds (x := .int 2 u) rfl (wpAny_bind (wpAny_field hos hds (x := .none) rfl (wpAny_pure ?_)))))))
  refine wpAny_bind (slicePart_none ?_)
  show wpAny _ _ (if ((1 : Int) == 0) = true then _ else _) _ _ s
  rw [if_neg (by decide)]
  refine wpAny_bind (slicePart_none (wpAny_bind (slicePart_int (wpAny_bind (wpAny_pure ?_)))))
  exact wpAny_pure h

theorem getItem_tup_to2 {t sl : Addr} {a b c : Value} {u : Tok} {Q : Value → Shared → Prop} (ht : IsTup s.heap t #[a, b, c]) (hs : s.heap.IsSliceOf sl .none (.int 2 u) .none)
    (h : Q (.ref s.heap.objs.size) { s with heap := s.heap.push { cls := .type "tuple", data := .seq #[a, b] } }) : wpAny (model prog w) A (getItem (.ref t) (.ref sl)) Q E s := by
  obtain ⟨os, hos, hcs, hds⟩ := id hs
  have hTs : s.TypeIs (.ref sl) "slice" := ⟨os, hos, hcs⟩
  have hdrop : sizeOk (.seq #[a, b]) := by
    show (#[a, b] : Array Value).size ≤ sizeLine
    rw [sizeLine_eq]; show 2 ≤ 16777216; decide
  unfold getItem
  try with_reducible refine wpAny_holding ?_
  first | refine wpAny_bind (wpAny_pure ?_) | skip
  refine wpAny_bind (wpAny_sequenceKey ht.typeIs (by decide) ?_)
  refine wpAny_bind (wpAny_callSpecial?_slot (name := Str.ofString "__getitem__") ht.typeIs slot_tuple_getitem
    (wpAny_call_entry slot_tuple_getitem ht.typeIs entry_tuple_getitem ?_ (args_tuple_getitem _ _)))
  show wpAny _ _ (Builtin.Tuple.tupleItemsOf (.ref t) >>= _) _ _ s
  refine wpAny_bind (tupleItemsOf_ ht ?_)
  refine wpAny_bind (wpAny_typeOf hTs ?_)
  rw [if_pos (by decide)]
  refine wpAny_bind (sliceApplied_to2 hs ?_)
  show wpAny _ _ (if ((0 : Int) == 0 && (1 : Int) == 1 && (2 : Nat) == (3 : Nat)) = true then _ else _) _ _ s
  rw [if_neg (by decide)]
  first
    | exact wpAny_bind (m := Builtin.Tuple.tupleExact _) (wpAny_newObj_type (wpAny_pure ⟨_, rfl, wpAny_pure h⟩) hdrop)
    | exact wpAny_bind (m := Builtin.Tuple.tupleExact _) (wpAny_newObj_type (wpAny_bind (wpAny_pure (wpAny_pure ⟨_, rfl, wpAny_pure h⟩))) hdrop)
    | exact wpAny_bind (wpAny_bind (m := Builtin.Tuple.tupleExact _) (wpAny_newObj_type (wpAny_pure (wpAny_pure ⟨_, rfl, wpAny_pure h⟩)) hdrop))
    | exact wpAny_bind (wpAny_bind (m := Builtin.Tuple.tupleExact _) (wpAny_newObj_type (wpAny_pure ⟨_, rfl, wpAny_pure h⟩) hdrop))

theorem slice_tup_to2 {value slice : Expr} {t : Addr} {a b c : Value} {u : Tok} {Q : Value → Shared → Prop}
    (F : Fr h₀ L s.heap m) (N : News h₀ L s.heap news) (ht : IsTup s.heap t #[a, b, c])
    (h : ∀ D h', Fr h₀ L h' m → News h₀ L h' ((D, tupO [a, b]) :: news) → (∀ p ∈ news, p.1 < D) → Q (.ref D) { s with heap := h' })
    (hs : subscripted slice false (.ref t) (.ref s.heap.objs.size) = operate [.ref s.heap.objs.size, .ref t] (getItem (.ref t) (.ref s.heap.objs.size)))
    (hg : ∀ r, letTemporaryGo value (.ref t) r = pure ()) :
    wpAny (model prog w) A (subscriptTail value slice (.ref t) (.ref s.heap.objs.size)) Q E { s with heap := s.heap.push { cls := .type "slice", data := .fields #[.none, .int 2 u, .none] } } := by
  have ht' : IsTup (s.heap.push { cls := .type "slice", data := .fields #[.none, .int 2 u, .none] }) t #[a, b, c] := ht.keeps fun _ _ e => Heap.get?_push_of_some _ e
  refine subscriptTail_ops (s := { s with heap := s.heap.push { cls := .type "slice", data := .fields #[.none, .int 2 u, .none] } }) ht'.typeIs slot_tuple_getitem.lookup
    (getItem_tup_to2 ht' (Heap.IsSliceOf.new ..) ?_) hs hg
  have N1 := News.push (F.push { cls := .type "slice", data := .fields #[.none, .int 2 u, .none] }) (N.grown fun _ _ e => Heap.get?_push_of_some _ e) { cls := .type "tuple", data := .seq #[a, b] }
  rw [Heap.size_push] at N1
  show Q (.ref (s.heap.push _).objs.size) _
  rw [Heap.size_push]
  exact h _ _ ((F.push _).push _) N1 fun p hp => Nat.lt_succ_of_lt (Heap.lt_size (N p hp).1)
end

theorem pair_eq {prog : Program} {w : World} {A : Around} {E : Value → Shared → Prop} {s : Shared} {l b : Addr} {f g : Str} {i j : Int} {t1 t2 u1 u2 : Tok} {Q : Value → Shared → Prop}
    (hl : IsTup s.heap l #[.str f t1, .int i t2]) (hb : IsTup s.heap b #[.str g u1, .int j u2]) (hu : A.units < cLine) (h : Q (.bool (decide (f = g ∧ i = j))) s) :
    wpAny (model prog w) A (compareOp .Eq (.ref l) (.ref b)) Q E s := by
  refine eq_tupleAt (e := fun k => if k = 0 then f == g else i == j) hl hb hu (fun k h1 h2 => ?_) ?_
  · match k, h1, h2 with
    | 0, _, _ => exact EqAt.str_str f t1 g u1
    | 1, _, _ => exact EqAt.int_int i t2 j u2
  · have e : ((List.range (min (#[Value.str f t1, Value.int i t2] : Array Value).size (#[Value.str g u1, Value.int j u2] : Array Value).size)).all (fun k => if k = 0 then f == g else i == j) && (#[Value.str f t1, Value.int i t2] : Array Value).size == (#[Value.str g u1, Value.int j u2] : Array Value).size) = decide (f = g ∧ i = j) := by
      show ((List.range 2).all (fun k => if k = 0 then f == g else i == j) && true) = _
      by_cases h1 : f = g <;> by_cases h2 : i = j <;> simp [List.range, List.range.loop, h1, h2]
    rw [e]; exact h
theorem item_base {prog : Program} {w : World} {A : Around} {E : Value → Shared → Prop} {s : Shared} {value slice : Expr} {l : Addr} {vs : List Value} {k : Nat} {u : Tok} {v : Value} {Q : Value → Shared → Prop}
    (hl : s.heap.IsList l vs.toArray) (hx : vs[k]? = some v) (hk : k < 1000) (h : Q v s)
    (hs : subscripted slice false (.ref l) (.int (k : Int) u) = operate [.ref l, .int (k : Int) u] (getItem (.ref l) (.int (k : Int) u))) :
    wpAny (model prog w) A (subscriptTail value slice (.ref l) (.int (k : Int) u)) Q E s :=
  tail_any hl.typeIs slot_list_getitem.lookup (wpAny_getItem_list hl (by omega) (by omega) (by simpa using hx) h) hs
theorem InstAt.of_base {h₀ h : Heap} {x C dx : Addr} {od : Obj} (h1 : h₀.get? x = some (instObj C dx)) (h2 : h₀.get? dx = some od) (k : ∀ b o, h₀.get? b = some o → h.get? b = some o) : InstAt h x (instObj C dx) C (some od) := ⟨k _ _ h1, rfl, rfl, k _ _ h2⟩
end Mine
end
section -- LRep
namespace Mine

structure Ent where
  cc : Int
  nc : Int
  tt : Int
  ct : Int
  cs : List (Str × Int)

inductive Tr where
  | nil
  | node (top : Nat) (e : Ent) (l r : Tr)

def Tr.depth : Tr → Nat
  | .nil => 0
  | .node _ _ l r => max l.depth r.depth + 1
def Tr.size : Tr → Nat
  | .nil => 0
  | .node _ _ l r => l.size + r.size + 1
def Tr.all (p : Nat → Prop) : Tr → Prop
  | .nil => True
  | .node t _ l r => p t ∧ l.all p ∧ r.all p

inductive IntVals : List (Str × Value) → List (Str × Int) → Prop where
  | nil : IntVals [] []
  | cons {k : Str} {i : Int} {t : Tok} {kvs : List (Str × Value)} {cs : List (Str × Int)} : IntVals kvs cs → IntVals ((k, .int i t) :: kvs) ((k, i) :: cs)

abbrev kd (w : World) : KeyKind PySem.Challenge.pw_pg0060_01 w Str := strKind PySem.Challenge.pw_pg0060_01 w

inductive DictR (w : World) (P : Know) : Value → List (Str × Int) → Prop where
  | mk {a : Addr} {o : Obj} {kvs : List (Str × Value)} {cs : List (Str × Int)} : P a o → o.IsDictOf (kd w) kvs → (a == sysModules) = false → IntVals kvs cs → DictR w P (.ref a) cs

inductive EntR (w : World) (P : Know) : Value → Ent → Prop where
  | mk {a : Addr} {i1 i2 i3 i4 : Int} {t1 t2 t3 t4 : Tok} {d : Value} {cs : List (Str × Int)} : P a (tupO [.int i1 t1, .int i2 t2, .int i3 t3, .int i4 t4, d]) → DictR w P d cs → EntR w P (.ref a) ⟨i1, i2, i3, i4, cs⟩

inductive TreeR (w : World) (P : Know) : Value → Tr → Prop where
  | nil : TreeR w P .none .nil
  | node {a : Addr} {i : Nat} {t : Tok} {ev lv rv : Value} {e : Ent} {l r : Tr} : P a (tupO [.int (i : Int) t, ev, lv, rv]) → EntR w P ev e → TreeR w P lv l → TreeR w P rv r → TreeR w P (.ref a) (.node i e l r)

section
variable {w : World} {P Q : Know}
theorem DictR.mono {v : Value} {cs : List (Str × Int)} (h : DictR w P v cs) (hs : ∀ a o, P a o → Q a o) : DictR w Q v cs := by
  cases h with
  | mk h1 h2 h3 h4 => exact .mk (hs _ _ h1) h2 h3 h4
theorem EntR.mono {v : Value} {e : Ent} (h : EntR w P v e) (hs : ∀ a o, P a o → Q a o) : EntR w Q v e := by
  cases h with
  | mk h1 h2 => exact .mk (hs _ _ h1) (h2.mono hs)
theorem TreeR.mono {v : Value} {t : Tr} (h : TreeR w P v t) (hs : ∀ a o, P a o → Q a o) : TreeR w Q v t := by
  induction h with
  | nil => exact .nil
  | node h1 h2 _ _ i1 i2 => exact .node (hs _ _ h1) (h2.mono hs) i1 i2
end

inductive IntsR (P : Know) : Value → List Int → Prop where
  | mk {a : Addr} {vs : List Value} {ns : List Int} {n : Nat} : P a (listO vs n) → IntsAre vs ns → IntsR P (.ref a) ns
theorem IntsR.mono {P Q : Know} {v : Value} {ns : List Int} (h : IntsR P v ns) (hs : ∀ a o, P a o → Q a o) : IntsR Q v ns := by
  cases h with
  | mk h1 h2 => exact .mk (hs _ _ h1) h2

section
variable {w : World} {P : Know} {tl tl' : List (Addr × Obj)}
theorem Know.sub (hs : ∀ p ∈ tl, p ∈ tl') (a : Addr) (o : Obj) (h : P.more tl a o) : P.more tl' a o := h.imp id fun h => hs _ h
theorem DictR.more {v : Value} {cs : List (Str × Int)} (h : DictR w P v cs) : DictR w (P.more tl) v cs := h.mono fun _ _ => .inl
theorem DictR.sub {v : Value} {cs : List (Str × Int)} (h : DictR w (P.more tl) v cs) (hs : ∀ p ∈ tl, p ∈ tl') : DictR w (P.more tl') v cs := h.mono (Know.sub hs)
theorem EntR.more {v : Value} {e : Ent} (h : EntR w P v e) : EntR w (P.more tl) v e := h.mono fun _ _ => .inl
theorem EntR.sub {v : Value} {e : Ent} (h : EntR w (P.more tl) v e) (hs : ∀ p ∈ tl, p ∈ tl') : EntR w (P.more tl') v e := h.mono (Know.sub hs)
theorem TreeR.more {v : Value} {t : Tr} (h : TreeR w P v t) : TreeR w (P.more tl) v t := h.mono fun _ _ => .inl
theorem TreeR.sub {v : Value} {t : Tr} (h : TreeR w (P.more tl) v t) (hs : ∀ p ∈ tl, p ∈ tl') : TreeR w (P.more tl') v t := h.mono (Know.sub hs)
theorem IntsR.more {v : Value} {ns : List Int} (h : IntsR P v ns) : IntsR (P.more tl) v ns := h.mono fun _ _ => .inl
end

def Before (ss : List Int) (i j : Nat) : Bool := decide (ss.getD i 0 < ss.getD j 0 ∨ ss.getD i 0 = ss.getD j 0 ∧ (i : Int) < (j : Int))

def joinT (ss : List Int) : Tr → Tr → Tr
  | .nil, h => h
  | .node i e l r, .nil => .node i e l r
  | .node i e l r, .node j f l' r' => if Before ss i j then .node i e l (joinT ss r (.node j f l' r')) else .node j f (joinT ss (.node i e l r) l') r'
termination_by a b => a.size + b.size
decreasing_by all_goals (simp only [Tr.size]; omega)
end Mine
end
section -- LLoop
namespace Mine
abbrev noE : Value → Shared → Prop := fun _ _ => False

section
variable {prog : Program} {w : World} {A : Around} {s : Shared} {env : Env} {h₀ : Heap}

inductive TurnNext (h₀ : Heap) (L : Addr) (wr : List Addr) (own : List (Addr × Obj)) (Jn : (Str → Option Value) → List (Addr × Obj) → Prop) (q : Heap → Nat → Shared) (s₂ : Shared) : Prop
  | mk (h' : Heap) (tk : Nat) (m₂ : Str → Option Value) (news₂ : List (Addr × Obj)) (e : s₂ = q h' tk) (F : Fr h₀ L h' m₂) (N : News h₀ L h' (own ++ news₂)) (ha : ∀ p ∈ news₂, p.1 ∉ wr) (hJ : Jn m₂ news₂) : TurnNext h₀ L wr own Jn q s₂
inductive LoopJ (h₀ : Heap) (L : Addr) (wr : List Addr) (n : Nat) (St : Nat → Heap → Prop) (J : Nat → (Str → Option Value) → List (Addr × Obj) → Prop) (s : Shared) (k : Nat) (s' : Shared) : Prop
  | mk (h' : Heap) (tk : Nat) (m' : Str → Option Value) (news' : List (Addr × Obj)) (i : Nat) (e : s' = { s with heap := h', toks := tk }) (st : St i h') (F : Fr h₀ L h' m') (N : News h₀ L h' news') (ha : ∀ p ∈ news', p.1 ∉ wr) (hJ : J i m' news') (hi : i ≤ n) (hk : k = n + 1 - i) : LoopJ h₀ L wr n St J s k s'
def TurnEnd (h₀ : Heap) (L : Addr) (wr : List Addr) (own : List (Addr × Obj)) (Jn : (Str → Option Value) → List (Addr × Obj) → Prop) (s : Shared) (Q : Flow → Shared → Prop) (f : Flow) (s₂ : Shared) : Prop :=
  match f with
  | .ret v => Q (.ret v) s₂
  | .brk => Q .next s₂
  | _ => TurnNext h₀ L wr own Jn (fun h tk => { s with heap := h, toks := tk }) s₂

theorem TurnEnd.next {L : Addr} {wr : List Addr} {own news₂ : List (Addr × Obj)} {Jn : (Str → Option Value) → List (Addr × Obj) → Prop} {s : Shared} {Q : Flow → Shared → Prop} {h' : Heap} {tk : Nat} {m₂ : Str → Option Value}
    (F : Fr h₀ L h' m₂) (N : News h₀ L h' (own ++ news₂)) (ha : ∀ p ∈ news₂, p.1 ∉ wr) (hJ : Jn m₂ news₂) : TurnEnd h₀ L wr own Jn s Q .next { s with heap := h', toks := tk } := ⟨h', tk, m₂, news₂, rfl, F, N, ha, hJ⟩

theorem forLoop_any {Q : Flow → Shared → Prop} {target : Expr} {body : List Stmt} {I : Addr} {fp wr : List Addr} {n : Nat} {Pv : Nat → Value → Prop} {St : Nat → Heap → Prop} {m : Str → Option Value}
    {news : List (Addr × Obj)} (W : Walks prog w A I fp wr n Pv St)
    (hLf : env.locals ∉ fp) (hwr : ∀ b ∈ wr, h₀.get? b = none) (hnw : ∀ p ∈ news, p.1 ∉ wr)
    (hst : St 0 s.heap) (F : Fr h₀ env.locals s.heap m) (N : News h₀ env.locals s.heap news)
    (hgo : ∀ i (s' : Shared) v (Q' : Unit → Shared → Prop), St i s'.heap → Q' () s' → wpAny (model prog w) A (letOwnedTupleGo target (.ref I) v) Q' noE s')
    (J : Nat → (Str → Option Value) → List (Addr × Obj) → Prop) (h0 : J 0 m news)
    (step : ∀ i v m₁ news₁ h tk own, i < n → Pv i v → J i m₁ news₁ → (∀ p ∈ news₁, p.1 ∉ wr) → (∀ p ∈ own, p.1 ∈ fp) → Fr h₀ env.locals h m₁ → News h₀ env.locals h (own ++ news₁) →
      wpAny (model prog w) A (assign target env v) (fun _ s₂ => wpAny (model prog w) A (execs body env) (TurnEnd h₀ env.locals wr own (J (i + 1)) s Q) noE s₂) noE { s with heap := h, toks := tk })
    (hR : ∀ h' tk m' news', Fr h₀ env.locals h' m' → News h₀ env.locals h' news' → (∀ p ∈ news', p.1 ∉ wr) → J n m' news' → Q .next { s with heap := h', toks := tk }) {Er : Value → Shared → Prop} :
    codeAny (model prog w) A (.forLoop target (.ref I) body [] env) (fun r s' => match r with | .ok f => Q f s' | .error e => Er e s') s := by
  have hLw : env.locals ∉ wr := fun h => hLf (W.sub _ h)
  have old : ∀ b o, h₀.get? b = some o → b ∉ wr := fun b o e hb => by rw [hwr b hb] at e; cases e
  refine codeAny_forLoop_any
    (LoopJ h₀ env.locals wr n St J s) ?_ (n + 1)
    ⟨s.heap, s.toks, m, news, 0, rfl, hst, F, N, hnw, h0, Nat.zero_le _, rfl⟩
  rintro k s' ⟨h', tk, m', news', i, rfl, hst', F', N', hnw', hJ, hi, rfl⟩
  have next : ∀ h₁ : Heap, (∀ b o, b ∉ wr → h'.get? b = some o → h₁.get? b = some o) → Fr h₀ env.locals h₁ m' ∧ News h₀ env.locals h₁ news' := fun h₁ hk₁ =>
    ⟨⟨F'.ns.at' fun o e => hk₁ _ o hLw e, fun b o e => hk₁ b o (old b o e) (F'.keep b o e), F'.above⟩, fun p hp => ⟨hk₁ _ _ (hnw' p hp) (N' p hp).1, (N' p hp).2⟩⟩
  by_cases hlt : i < n
  · refine W.item i _ _ _ hlt hst' fun v h₁ tk₁ hP hst₁ hk₁ => ?_
    obtain ⟨F₁, N₁⟩ := next h₁ hk₁
    have Nown : News h₀ env.locals h₁ (ownOf h₀ fp h₁) := news_ownOf hLf
    refine wpAny_mono (hgo (i + 1) _ v _ hst₁ ?_) (fun _ _ x => x) (fun _ _ x => x.elim)
    refine wpAny_mono (step i v m' news' h₁ tk₁ (ownOf h₀ fp h₁) hlt hP hJ hnw' ownOf_sub F₁ (Nown.append N₁)) (fun _ s₂ h₂ => wpAny_mono h₂ (fun f s₃ h₃ => ?_) fun _ _ x => x.elim) fun _ _ x => x.elim
    have fin : TurnNext h₀ env.locals wr (ownOf h₀ fp h₁) (J (i + 1)) (fun h tk => { s with heap := h, toks := tk }) s₃ → ∃ k', k' < n + 1 - i ∧ LoopJ h₀ env.locals wr n St J s k' s₃ := by
      rintro ⟨h₃', tk₃, m₂, news₂, rfl, F₃, N₃, ha₃, hJ₃⟩
      refine ⟨n + 1 - (i + 1), by omega, h₃', tk₃, m₂, news₂, i + 1, rfl, ?_, F₃, N₃.right, ha₃, hJ₃, hlt, rfl⟩
      refine W.frame _ _ _ hst₁ fun b hb o e => ?_
      cases hn : h₀.get? b with
      | some o₀ =>
        have : o₀ = o := by have := F₁.keep b o₀ hn; rw [e] at this; exact (Option.some.inj this).symm
        exact this ▸ F₃.keep b o₀ hn
      | none => exact (N₃ _ (List.mem_append_left _ (mem_ownOf hb hn e))).1
    cases f with
    | ret v => exact h₃
    | brk => exact h₃
    | next => exact fin h₃
    | cont => exact fin h₃
  · have hin : i = n := by omega
    subst hin
    refine W.done _ _ _ hst' fun h₁ tk₁ hk₁ => wpAny_execs_nil ?_
    obtain ⟨F₁, N₁⟩ := next h₁ hk₁
    exact hR h₁ tk₁ m' news' F₁ N₁ hnw' hJ

def LoopIs (prog : Program) (w : World) (A : Around) (env : Env) (target : Expr) (body : List Stmt) (Q : Flow → Shared → Prop) (it : Value) (s₂ : Shared) : Prop :=
  ∀ Er : Value → Shared → Prop, codeAny (model prog w) A (.forLoop target it body [] env) (fun r s' => match r with | .ok f => Q f s' | .error e => Er e s') s₂

theorem For_is {Q : Flow → Shared → Prop} {target iter : Expr} {pos : Pos} {body : List Stmt}
    (h : wpAny (model prog w) A (eval iter env) (fun xv s₁ => wpAny (model prog w) A (pyIter xv) (fun it s₂ => LoopIs prog w A env target body Q it s₂) noE s₁) noE s)
    (hs : ∀ x, foldedSetIterable iter env x = pure x) : wpAny (model prog w) A (exec (.For target iter body [] pos) env) Q noE s :=
  wpAny_For (wpAny_mono h (fun xv s₁ h₁ => wpAny_mono h₁ (fun it s₂ h₂ => h₂ _) fun _ _ e => e) fun _ _ e => e) hs

theorem loop_list {Q : Flow → Shared → Prop} {target : Expr} {body : List Stmt} {l : Addr} {vs : List Value} {m : Str → Option Value} {news : List (Addr × Obj)} (hh : A.handled = none)
    (hl : h₀.IsList l vs.toArray) (F : Fr h₀ env.locals s.heap m) (N : News h₀ env.locals s.heap news)
    (J : Nat → (Str → Option Value) → List (Addr × Obj) → Prop) (h0 : J 0 m news)
    (step : ∀ i v I m₁ news₁ h tk own, vs[i]? = some v → J i m₁ news₁ → (∀ p ∈ news₁, p.1 ≠ I) → (∀ p ∈ own, p.1 = I) → Fr h₀ env.locals h m₁ → News h₀ env.locals h (own ++ news₁) →
      wpAny (model prog w) A (assign target env v) (fun _ s₂ => wpAny (model prog w) A (execs body env) (TurnEnd h₀ env.locals [I] own (J (i + 1)) s Q) noE s₂) noE { s with heap := h, toks := tk })
    (hR : ∀ h' tk m' news', Fr h₀ env.locals h' m' → News h₀ env.locals h' news' → J vs.length m' news' → Q .next { s with heap := h', toks := tk }) :
    wpAny (model prog w) A (pyIter (.ref l)) (fun it s₂ => LoopIs prog w A env target body Q it s₂) noE s := by
  have hls : s.heap.IsList l vs.toArray := hl.at fun o e => F.keep l o e
  obtain ⟨ol, hol, _⟩ := id hl
  have hlt : l < h₀.objs.size := Heap.lt_size hol
  have hne : l ≠ s.heap.objs.size := Nat.ne_of_lt (Nat.lt_trans (Nat.lt_of_lt_of_le hlt F.above) F.ns.lt)
  refine wpAny_pyIter_list hls fun Er => ?_
  have W := Walks.list (prog := prog) (w := w) hh s.heap.objs.size l hne vs.toArray
  have hlen : vs.toArray.size = vs.length := by simp
  rw [hlen] at W
  refine forLoop_any (s := { s with heap := _ }) W ?_ ?_ ?_ ⟨⟨_, Heap.get?_push_size _ rfl, rfl, rfl⟩, hls.at fun o e => Heap.get?_push_of_some _ e⟩ (F.push _) (fun p hp => ⟨Heap.get?_push_of_some _ (N p hp).1, (N p hp).2⟩)
    (fun i s' v Q' st hQ' => letGo_listiter st.1 hQ') J h0 ?_ ?_
  · intro hm
    rcases List.mem_cons.mp hm with e | hm
    · exact absurd F.ns.lt (e ▸ Nat.lt_irrefl _)
    · exact absurd (Nat.lt_of_lt_of_le hlt F.above) ((List.mem_singleton.mp hm) ▸ Nat.lt_irrefl _)
  · intro b hb
    rw [List.mem_singleton.mp hb]
    exact next_is_new F
  · intro p hp hI
    exact absurd (Heap.lt_size (N p hp).1) ((List.mem_singleton.mp hI) ▸ Nat.lt_irrefl _)
  · intro i v m₁ news₁ h tk own hi hv hJ hn hown F₁ N₁
    refine step i v s.heap.objs.size m₁ news₁ h tk own (by simpa using hv) hJ (fun p hp e => hn p hp (by simp [e])) (fun p hp => ?_) F₁ N₁
    rcases List.mem_cons.mp (hown p hp) with e | e
    · exact e
    · exfalso
      have := (N₁ p (List.mem_append_left _ hp)).2.2
      rw [List.mem_singleton.mp e, hol] at this
      cases this
  · intro h' tk m' news' F' N' _ hJ
    exact hR h' tk m' news' F' N' hJ

theorem loop_str {Q : Flow → Shared → Prop} {target : Expr} {body : List Stmt} {x : Str} {t : Tok} {m : Str → Option Value} {news : List (Addr × Obj)} (hh : A.handled = none)
    (F : Fr h₀ env.locals s.heap m) (N : News h₀ env.locals s.heap news) (hgo : ∀ it v, letOwnedTupleGo target it v = pure ())
    (J : Nat → (Str → Option Value) → List (Addr × Obj) → Prop) (h0 : J 0 m news)
    (step : ∀ i c u I m₁ news₁ h tk own, x.cps[i]? = some c → J i m₁ news₁ → (∀ p ∈ news₁, p.1 ≠ I) → (∀ p ∈ own, p.1 = I) → Fr h₀ env.locals h m₁ → News h₀ env.locals h (own ++ news₁) →
      wpAny (model prog w) A (assign target env (.str ⟨#[c]⟩ u)) (fun _ s₂ => wpAny (model prog w) A (execs body env) (TurnEnd h₀ env.locals [I] own (J (i + 1)) s Q) noE s₂) noE { s with heap := h, toks := tk })
    (hR : ∀ h' tk m' news', Fr h₀ env.locals h' m' → News h₀ env.locals h' news' → J x.cps.size m' news' → Q .next { s with heap := h', toks := tk }) :
    wpAny (model prog w) A (pyIter (.str x t)) (fun it s₂ => LoopIs prog w A env target body Q it s₂) noE s := by
  refine wpAny_pyIter_str fun o St W hst Er => ?_
  refine forLoop_any (s := { s with heap := _ }) (W A hh) ?_ ?_ ?_ hst (F.push _) (fun p hp => ⟨Heap.get?_push_of_some _ (N p hp).1, (N p hp).2⟩) (fun i s' v Q' st hQ' => by rw [hgo]; exact wpAny_pure hQ') J h0 ?_ ?_
  · intro hm
    exact absurd F.ns.lt ((List.mem_singleton.mp hm) ▸ Nat.lt_irrefl _)
  · intro b hb
    rw [List.mem_singleton.mp hb]
    exact next_is_new F
  · intro p hp hI
    exact absurd (Heap.lt_size (N p hp).1) ((List.mem_singleton.mp hI) ▸ Nat.lt_irrefl _)
  · intro i v m₁ news₁ h tk own hi hv hJ hn hown F₁ N₁
    obtain ⟨c, u, hc, rfl⟩ := hv
    exact step i c u s.heap.objs.size m₁ news₁ h tk own hc hJ (fun p hp e => hn p hp (by simp [e])) (fun p hp => List.mem_singleton.mp (hown p hp)) F₁ N₁
  · intro h' tk m' news' F' N' _ hJ
    exact hR h' tk m' news' F' N' hJ

theorem loop_range {Q : Flow → Shared → Prop} {target : Expr} {body : List Stmt} {r : Addr} {a b c : Int} {t u v : Tok} {n : Nat} {m : Str → Option Value} {news : List (Addr × Obj)} (hh : A.handled = none)
    (hr : IsRange s.heap r a b c t u v) (hsmall : Builtin.Range.small a b c = true) (hn : Builtin.Range.rangeSize a b c = n)
    (F : Fr h₀ env.locals s.heap m) (N : News h₀ env.locals s.heap news) (hgo : ∀ it v, letOwnedTupleGo target it v = pure ())
    (J : Nat → (Str → Option Value) → List (Addr × Obj) → Prop) (h0 : J 0 m news)
    (step : ∀ i ti I m₁ news₁ h tk own, i < n → J i m₁ news₁ → (∀ p ∈ news₁, p.1 ≠ I) → (∀ p ∈ own, p.1 = I) → Fr h₀ env.locals h m₁ → News h₀ env.locals h (own ++ news₁) →
      wpAny (model prog w) A (assign target env (.int (a + i * c) ti)) (fun _ s₂ => wpAny (model prog w) A (execs body env) (TurnEnd h₀ env.locals [I] own (J (i + 1)) s Q) noE s₂) noE { s with heap := h, toks := tk })
    (hR : ∀ h' tk m' news', Fr h₀ env.locals h' m' → News h₀ env.locals h' news' → J n m' news' → Q .next { s with heap := h', toks := tk }) :
    wpAny (model prog w) A (pyIter (.ref r)) (fun it s₂ => LoopIs prog w A env target body Q it s₂) noE s := by
  refine wpAny_pyIter_range hr hsmall fun Er => ?_
  refine forLoop_any (s := { s with heap := _ }) (Walks.range (prog := prog) (w := w) hh s.heap.objs.size a c n) ?_ ?_ ?_ ?_ (F.push _) (fun p hp => ⟨Heap.get?_push_of_some _ (N p hp).1, (N p hp).2⟩) (fun i s' v Q' st hQ' => by rw [hgo]; exact wpAny_pure hQ') J h0 ?_ ?_
  · intro hm
    exact absurd F.ns.lt ((List.mem_singleton.mp hm) ▸ Nat.lt_irrefl _)
  · intro b hb
    rw [List.mem_singleton.mp hb]
    exact next_is_new F
  · intro p hp hI
    exact absurd (Heap.lt_size (N p hp).1) ((List.mem_singleton.mp hI) ▸ Nat.lt_irrefl _)
  · have e1 : a + ((0 : Nat) : Int) * c = a := by simp
    have e2 : (n : Int) - ((0 : Nat) : Int) = Builtin.Range.rangeSize a b c := by rw [hn]; simp
    show IsRangeIter _ _ (a + ((0 : Nat) : Int) * c) ((n : Int) - ((0 : Nat) : Int)) c
    rw [e1, e2]
    exact Heap.get?_push_size _ rfl
  · intro i v m₁ news₁ h tk own hi hv hJ hn hown F₁ N₁
    obtain ⟨u, rfl⟩ := hv
    exact step i u s.heap.objs.size m₁ news₁ h tk own hi hJ (fun p hp e => hn p hp (by simp [e])) (fun p hp => List.mem_singleton.mp (hown p hp)) F₁ N₁
  · intro h' tk m' news' F' N' _ hJ
    exact hR h' tk m' news' F' N' hJ
end
end Mine
end
section -- LComp
namespace Mine

inductive EltEnd (h₀ : Heap) (C : Addr) (m : Str → Option Value) (own : List (Addr × Obj)) (P : Know) (R : Know → Value → Value → Prop) (v : Value) (s₃ : Shared) (y : Value) (s₄ : Shared) : Prop
  | mk (h' : Heap) (tk : Nat) (tl : List (Addr × Obj)) (e : s₄ = { s₃ with heap := h', toks := tk }) (F : Fr h₀ C h' m) (N : News h₀ C h' (tl ++ own)) (hd : ∀ q ∈ tl, ∀ p ∈ own, p.1 ≠ q.1) (hR : R (P.more tl) v y) : EltEnd h₀ C m own P R v s₃ y s₄
inductive TestEnd (h₀ : Heap) (C : Addr) (m : Str → Option Value) (own : List (Addr × Obj)) (s₃ : Shared) (b ok : Bool) (s₄ : Shared) : Prop
  | mk (a : ok = b) (h' : Heap) (tk : Nat) (tl : List (Addr × Obj)) (e : s₄ = { s₃ with heap := h', toks := tk }) (F : Fr h₀ C h' m) (N : News h₀ C h' (tl ++ own)) : TestEnd h₀ C m own s₃ b ok s₄

theorem EltEnd.of {h₀ h' : Heap} {C : Addr} {m : Str → Option Value} {own : List (Addr × Obj)} {P : Know} {R : Know → Value → Value → Prop} {v y : Value} {s₃ : Shared} {tk : Nat} (tl : List (Addr × Obj)) (F : Fr h₀ C h' m) (N : News h₀ C h' (tl ++ own)) (hd : ∀ q ∈ tl, ∀ p ∈ own, p.1 ≠ q.1) (hR : R (P.more tl) v y) :
    EltEnd h₀ C m own P R v s₃ y { s₃ with heap := h', toks := tk } := ⟨h', tk, tl, rfl, F, N, hd, hR⟩
theorem all_news {h₀ h : Heap} {C : Addr} : ∃ own, News h₀ C h own ∧ ∀ b o, b ≠ C → h₀.get? b = none → h.get? b = some o → (b, o) ∈ own := by
  refine ⟨ownOf h₀ ((List.range h.objs.size).filter fun b => decide (b ≠ C)) h, news_ownOf (fun q => ?_), fun b o hb hn e => mem_ownOf (List.mem_filter.mpr ⟨List.mem_range.mpr (Heap.lt_size e), by simpa using hb⟩) hn e⟩
  have := (List.mem_filter.mp q).2
  simp at this
theorem all_stay {h₀ h h' : Heap} {C : Addr} {m m' : Str → Option Value} {own tl : List (Addr × Obj)} (F : Fr h₀ C h m) (F' : Fr h₀ C h' m') (ho : ∀ b o, b ≠ C → h₀.get? b = none → h.get? b = some o → (b, o) ∈ own) (N : News h₀ C h' (tl ++ own)) :
    ∀ b o, b ≠ C → h.get? b = some o → h'.get? b = some o := fun b o hb e => by
  cases q : h₀.get? b with
  | some o' =>
    have := F.keep b o' q
    rw [e] at this; cases this
    exact F'.keep b o q
  | none => exact (N _ (List.mem_append_right _ (ho b o hb q e))).1
theorem tl_fresh {h₀ h h' : Heap} {C : Addr} {m : Str → Option Value} {own tl : List (Addr × Obj)} (ho : ∀ b o, b ≠ C → h₀.get? b = none → h.get? b = some o → (b, o) ∈ own) (N : News h₀ C h' (tl ++ own)) (hd : ∀ q ∈ tl, ∀ p ∈ own, p.1 ≠ q.1) :
    ∀ q ∈ tl, h'.get? q.1 = some q.2 ∧ q.1 ≠ C ∧ h.get? q.1 = none := fun q hq => by
  have z := N q (List.mem_append_left _ hq)
  refine ⟨z.1, z.2.1, ?_⟩
  cases e : h.get? q.1 with
  | none => rfl
  | some o => exact absurd rfl (hd q hq (q.1, o) (ho q.1 o z.2.1 z.2.2 e))

section
variable {prog : Program} {w : World} {A : Around} {E : Value → Shared → Prop} {s : Shared} {env : Env} {P : Know} {R : Know → Value → Value → Prop}

structure Elts (prog : Program) (w : World) (A : Around) (env : Env) (scope : Scope) (cl : List (Str × Addr)) (x : Str) (ifs : List Expr) (elt : Expr) (vs : List Value) (p : Value → Bool) (P : Know) (R : Know → Value → Value → Prop) (s : Shared) : Prop where
  tests : ∀ C (i : Nat) v h₃ tk₃ m₃ own, vs[i]? = some v → Fr s.heap C h₃ m₃ → News s.heap C h₃ own → m₃ x = some v →
    wpAny (model prog w) A (forIn ifs true fun c r => if r = true then do let ok ← isTrue c (compEnvC scope cl C env) (eval c (compEnvC scope cl C env)); pure (ForInStep.yield ok) else pure (ForInStep.yield r))
      (TestEnd s.heap C m₃ own { s with heap := h₃, toks := tk₃ } (p v)) noE { s with heap := h₃, toks := tk₃ }
  elt : ∀ C (i : Nat) v h₃ tk₃ m₃ own, vs[i]? = some v → p v = true → Fr s.heap C h₃ m₃ → News s.heap C h₃ own → m₃ x = some v →
    wpAny (model prog w) A (eval elt (compEnvC scope cl C env)) (EltEnd s.heap C m₃ own P R v { s with heap := h₃, toks := tk₃ }) noE { s with heap := h₃, toks := tk₃ }

theorem paired_mono {P Q : Know} (hm : ∀ P Q v y, (∀ a o, P a o → Q a o) → R P v y → R Q v y) (h : ∀ a o, P a o → Q a o) : ∀ {l ys}, Paired (R P) l ys → Paired (R Q) l ys := by
  intro _ _ p
  induction p with
  | nil => exact .nil
  | cons a _ ih => exact .cons (hm _ _ _ _ h a) ih

inductive CompJ (P : Know) (R : Know → Value → Value → Prop) (p : Value → Bool) (vs : List Value) (s : Shared) (I l D C : Addr) (k : Nat) (s' : Shared) : Prop
  | mk (h' : Heap) (tk : Nat) (m' : Str → Option Value) (ys : List Value) (n : Nat) (tl : List (Addr × Obj)) (i : Nat) (e : s' = { s with heap := h', toks := tk }) (hI : h'.IsListIter I l i) (hD : h'.get? D = some (listO ys n)) (hC : h'.Ns C m') (st : s.heap.StaysIn h')
      (ht : ∀ q ∈ tl, h'.get? q.1 = some q.2 ∧ s.heap.get? q.1 = none ∧ q.1 ≠ D ∧ q.1 ≠ C ∧ q.1 ≠ I) (hp : Paired (R (P.more tl)) ((vs.take i).filter p) ys) (hi : i ≤ vs.length) (hk : k = vs.length + 1 - i) : CompJ P R p vs s I l D C k s'
theorem comp_block {elt iter : Expr} {x : Str} {px : Pos} {ifs : List Expr} {scope : Scope} {cl : List (Str × Addr)} {pos : Pos} {l : Addr} {vs : List Value} {p : Value → Bool} {RR : Value → Addr → Result → Shared → Prop}
    (hh : A.handled = none) (hl : s.heap.IsList l vs.toArray) (hsz : vs.length ≤ 1000)
    (hm : ∀ P Q v y, (∀ a o, P a o → Q a o) → R P v y → R Q v y)
    (hcell : ∀ y ∈ scope.names, y.2 ≠ .cell) (hkind : scope.kind = .function) (hx : scope.names.lookup x = some .local)
    (hq : Elts prog w A env scope cl x ifs elt vs p P R s)
    (hRR : ∀ D C h' tk m' ys n tl, s.heap.get? D = none → s.heap.get? C = none → D ≠ C → h'.Ns C m' → h'.get? D = some (listO ys n) → s.heap.StaysIn h' →
      (∀ q ∈ tl, h'.get? q.1 = some q.2 ∧ s.heap.get? q.1 = none ∧ q.1 ≠ D ∧ q.1 ≠ C) → Paired (R (P.more tl)) (vs.filter p) ys → RR (.ref D) C (.ok .next) { s with heap := h', toks := tk }) :
    wpAny (model prog w) A (pyIter (.ref l)) (fun it s₂ => wpAny (model prog w) A (newList []) (fun acc s₃ => wpAny (model prog w) A (newFunctionEnv scope env.globals cl [] env.qual none .none (some env)) (fun cenv s₄ =>
      codeAny (model prog w) A (.compStart (.ListComp elt [⟨.Name x px, iter, ifs, 0⟩] scope pos) 0 it acc { cenv with scope := relabel scope env }) (RR acc cenv.locals) s₄) E s₃) E s₂) E s := by
  obtain ⟨ol, hol, _⟩ := id hl
  have hlt : l < s.heap.objs.size := Heap.lt_size hol
  refine wpAny_pyIter_list hl ?_
  refine wpAny_newObj_type (hd := by size_fits) (wpAny_newFunctionEnv hcell (by intro y hy; simp at hy) (fun h₁ hns₁ hsb₁ => ?_) hkind)
  dsimp only at hns₁ hsb₁ ⊢
  -- the three new objects: the iterator, the list, the frame
  generalize hH1 : s.heap.push { cls := .type "list_iterator", data := .fields #[.ref l, .int 0 0] } = H1 at hns₁ hsb₁ ⊢
  have eD : H1.objs.size = s.heap.objs.size + 1 := by rw [← hH1, Heap.size_push]
  generalize hH2 : H1.push { cls := .type "list", dict := none, data := .seq ([] : List Value).toArray } = H2 at hns₁ hsb₁ ⊢
  have eC : H2.objs.size = s.heap.objs.size + 2 := by rw [← hH2, Heap.size_push, eD]
  generalize hI : s.heap.objs.size = I at *
  generalize hD : H1.objs.size = D at *
  generalize hC : H2.objs.size = C at *
  have nID : I ≠ D := by omega
  have nIC : I ≠ C := by omega
  have nDC : D ≠ C := by omega
  have ne3 : ∀ b : Nat, b < I → b ≠ I ∧ b ≠ D ∧ b ≠ C := fun b hb => by omega
  have apart : ∀ b o, s.heap.get? b = some o → b ≠ I ∧ b ≠ D ∧ b ≠ C := fun b o e => ne3 b (hI ▸ Heap.lt_size e)
  have old : ∀ b o, s.heap.get? b = some o → h₁.get? b = some o := fun b o e => by
    exact hsb₁.extBut b o (apart b o e).2.2 (Heap.get?_push_of_some _ (hH2 ▸ Heap.get?_push_of_some _ (hH1 ▸ Heap.get?_push_of_some _ e)))
  have hacc : h₁.get? D = some (listO [] 0) := hsb₁.extBut _ _ nDC (Heap.get?_push_of_some _ (hH2 ▸ hD ▸ Heap.get?_push_size _ rfl))
  have hit : h₁.IsListIter I l 0 := ⟨_, hsb₁.extBut _ _ nIC (Heap.get?_push_of_some _ (hH2 ▸ Heap.get?_push_of_some _ (hH1 ▸ hI ▸ Heap.get?_push_size _ rfl))), rfl, rfl⟩
  have fresh : ∀ a, I ≤ a → s.heap.get? a = none := fun a ha => by
    cases e : s.heap.get? a with
    | none => rfl
    | some o' => exact absurd (Heap.lt_size e) (Nat.not_lt.mpr (hI ▸ ha))
  have leD : I ≤ D := by omega
  have leC : I ≤ C := by omega
  have W := Walks.list (prog := prog) (w := w) hh I l (apart _ _ hol).1 vs.toArray
  have hlen : vs.toArray.size = vs.length := by simp
  rw [hlen] at W
  have loop : ∀ s₃ : Shared, s₃ = { s with heap := h₁, toks := s.toks + ([] : List (Str × Value)).length } →
      codeAny (model prog w) A (.compLoop (.ListComp elt [⟨.Name x px, iter, ifs, 0⟩] scope pos) 0 (.ref I) (.ref D) (compEnvC scope cl C env)) (RR (.ref D) C) s₃ := by
    rintro s₃ rfl
    refine codeAny_compLoop_tests (CompJ P R p vs s I l D C) ?_ (vs.length + 1)
      ⟨h₁, _, _, [], 0, [], 0, rfl, hit, hacc, hns₁, old, fun _ h => (nomatch h), by simpa using Paired.nil, Nat.zero_le _, rfl⟩
    rintro k s' ⟨H, tk, m', ys, n, tl, i, rfl, hit', hD', hn', hk, htl, hF, hi, rfl⟩
    have hl' : H.IsList l vs.toArray := hl.at fun o e => hk l o e
    by_cases hlt' : i < vs.length
    · refine W.item i _ _ _ hlt' ⟨hit', hl'⟩ fun v h₂ tk₂ hPv hst₂ hk₂ => ?_
      have hv : vs[i]? = some v := by simpa using hPv
      have up2 : ∀ b o, b ≠ I → H.get? b = some o → h₂.get? b = some o := fun b o hb e => hk₂ b o (by simpa using hb) e
      refine wpAny_assign_Name (wpAny_storeName_local (env := compEnvC scope cl C env) (lookup_relabel_local hx) (hn'.at' fun o e => up2 C o (Ne.symm nIC) e) (fun h₃ hn₃ hs₃ => ?_) (by simp [compEnvC, relabel, hkind]))
      have up3 : ∀ b o, b ≠ I → b ≠ C → H.get? b = some o → h₃.get? b = some o := fun b o h1 h2 e => hs₃.extBut b o h2 (up2 b o h1 e)
      have old3 : s.heap.StaysIn h₃ := fun b o e => up3 b o (apart b o e).1 (apart b o e).2.2 (hk b o e)
      have hI3 : h₃.IsListIter I l (i + 1) := hst₂.1.extBut hs₃.extBut nIC
      have F3 : Fr s.heap C h₃ (fun y => if y = x then some v else m' y) := ⟨hn₃, old3, hI ▸ leC⟩
      obtain ⟨own3, N3, all3⟩ := all_news (h₀ := s.heap) (h := h₃) (C := C)
      refine wpAny_mono (hq.tests C i v h₃ _ _ own3 hv F3 N3 (by simp)) (fun ok s₄ h₄ => ?_) fun _ _ f => f.elim
      obtain ⟨rfl, h₄, tk₄, tl₄, rfl, F4, N4⟩ := h₄
      have up4 := all_stay F3 F4 all3 N4
      have hD4 : h₄.get? D = some (listO ys n) := up4 _ _ nDC (up3 D _ (Ne.symm nID) nDC hD')
      have hI4 : h₄.IsListIter I l (i + 1) := hI3.at fun o e => up4 _ o nIC e
      have hn4 := F4.ns
      have htl4 : ∀ q ∈ tl, h₄.get? q.1 = some q.2 ∧ s.heap.get? q.1 = none ∧ q.1 ≠ D ∧ q.1 ≠ C ∧ q.1 ≠ I := fun q hq => by
        obtain ⟨a, b, c, d, e⟩ := htl q hq
        exact ⟨up4 _ _ d (up3 _ _ e d a), b, c, d, e⟩
      cases hpv : p v with
      | false =>
        simp only [Bool.false_eq_true, if_false]
        refine ⟨vs.length + 1 - (i + 1), by omega, h₄, _, _, ys, n, tl, i + 1, rfl, hI4, hD4, hn4, F4.keep, htl4, ?_, hlt', rfl⟩
        rw [take_succ_filter p _ i v hv, hpv]; simpa using hF
      | true =>
        simp only [if_true]
        obtain ⟨own4, N4', all4⟩ := all_news (h₀ := s.heap) (h := h₄) (C := C)
        refine wpAny_mono (hq.elt C i v h₄ tk₄ _ own4 hv hpv F4 N4' (by simp)) (fun y s₅ h₅ => ?_) fun _ _ f => f.elim
        obtain ⟨h₅, tk₅, tl₅, rfl, F5, N5, hd5, hR⟩ := h₅
        have up5 := all_stay F4 F5 all4 N5
        have htl5 := tl_fresh (m := m') all4 N5 hd5
        have hD5 := up5 _ _ nDC hD4
        have hys : ys.length ≤ vs.length := by
          have e1 := hF.length
          have e2 : ((vs.take i).filter p).length ≤ (vs.take i).length := List.length_filter_le _ _
          have e3 : (vs.take i).length ≤ vs.length := by rw [List.length_take]; omega
          omega
        refine wpAny_list_append_plain (hsz := by rw [sizeLine_eq]; simp; omega) ⟨n, hD5⟩ fun h₆ hl₆ hs₆ => ?_
        obtain ⟨n6, hD6⟩ := hl₆
        refine ⟨vs.length + 1 - (i + 1), by omega, h₆, _, _, ys ++ [y], n6, tl₅ ++ tl, i + 1, rfl, (hI4.at fun o e => up5 _ o nIC e).extBut hs₆.extBut nID, by rw [hD6]; simp [listO], F5.ns.sameBut hs₆ (Ne.symm nDC),
          fun b o e => hs₆.extBut b o (apart b o e).2.1 (F5.keep b o e), fun q hq => ?_, ?_, hlt', rfl⟩
        · rcases List.mem_append.mp hq with hq | hq
          · obtain ⟨a, nC, b⟩ := htl5 q hq
            have nD : q.1 ≠ D := fun e => by rw [e, hD4] at b; cases b
            have nI : q.1 ≠ I := fun e => by obtain ⟨oc, hoc, _⟩ := hI4; rw [e] at b; exact absurd (hoc.symm.trans b) (fun h => nomatch h)
            refine ⟨hs₆.extBut _ _ nD a, ?_, nD, nC, nI⟩
            cases e : s.heap.get? q.1 with
            | none => rfl
            | some o => rw [F4.keep _ _ e] at b; cases b
          · obtain ⟨a, b, c, d, e⟩ := htl4 q hq
            exact ⟨hs₆.extBut _ _ c (up5 _ _ d a), b, c, d, e⟩
        · rw [take_succ_filter p _ i v hv, hpv]
          refine Paired.snoc (paired_mono hm (fun a o h => h.imp id fun h => List.mem_append_right _ h) hF) (hm _ _ _ _ (fun a o h => h.imp id fun h => List.mem_append_left _ h) hR)
    · have hin : i = vs.length := by omega
      subst hin
      refine W.done _ _ _ ⟨hit', hl'⟩ fun h₂ tk₂ hk₂ => ?_
      have up2 : ∀ b o, b ≠ I → H.get? b = some o → h₂.get? b = some o := fun b o hb e => hk₂ b o (by simpa using hb) e
      rw [List.take_length] at hF
      exact hRR D C h₂ _ m' ys n tl (fresh _ leD) (fresh _ leC) nDC (hn'.at' fun o e => up2 C o (Ne.symm nIC) e) (up2 D _ (Ne.symm nID) hD') (fun b o e => up2 b o (apart b o e).1 (hk b o e))
        (fun q hq => by obtain ⟨a, b, c, d, e⟩ := htl q hq; exact ⟨up2 _ _ e a, b, c, d⟩) hF
  exact codeAny_compStart_list (loop _ rfl) (wpAny_pyIter_listiter hit (loop _ rfl))

theorem comp_list {elt iter : Expr} {x : Str} {px : Pos} {ifs : List Expr} {scope : Scope} {cl : List (Str × Addr)} {pos : Pos} {l : Addr} {vs : List Value} (p : Value → Bool) (P : Know) (R : Know → Value → Value → Prop) {Q : Value → Shared → Prop}
    (hh : A.handled = none) (hl : s.heap.IsList l vs.toArray) (hsz : vs.length ≤ 1000)
    (hm : ∀ P Q v y, (∀ a o, P a o → Q a o) → R P v y → R Q v y)
    (hclos : closureFor scope env = pure cl) (hcell : ∀ y ∈ scope.names, y.2 ≠ .cell) (hkind : scope.kind = .function)
    (hnames : ∀ y ∈ scope.names, y.2 = .local → scope.names.lookup y.1 = some .local) (hx : scope.names.lookup x = some .local) (hs : ∀ x, foldedSetIterable iter env x = pure x)
    (hiter : ∀ Q' : Value → Shared → Prop, Q' (.ref l) s → wpAny (model prog w) A (eval iter env) Q' E s)
    (hq : Elts prog w A env scope cl x ifs elt vs p P R s)
    (hQ : ∀ D h' tk ys n tl, s.heap.get? D = none → h'.get? D = some (listO ys n) → s.heap.StaysIn h' →
      (∀ q ∈ tl, h'.get? q.1 = some q.2 ∧ s.heap.get? q.1 = none ∧ q.1 ≠ D) → Paired (R (P.more tl)) (vs.filter p) ys → Q (.ref D) { s with heap := h', toks := tk }) :
    wpAny (model prog w) A (eval (.ListComp elt [⟨.Name x px, iter, ifs, 0⟩] scope pos) env) Q E s := by
  rw [eval_ListComp]
  refine wpAny_comprehension_free (use := none) rfl hs hclos hkind hnames (hiter _ ?_)
  refine comp_block (RR := fun acc C => compPost (model prog w) A E none Q acc C) hh hl hsz hm hcell hkind hx hq ?_
  intro D C h' tk m' ys n tl hD hC hDC hn hl' hk htl hF
  exact ⟨m', hn, fun h'' hs'' => hQ D h'' tk ys n tl hD (hs''.extBut _ _ hDC hl') (fun b o e => hs''.extBut b o (by rintro rfl; rw [hC] at e; cases e) (hk b o e)) (fun q hq => by
    obtain ⟨a, b, c, d⟩ := htl q hq
    exact ⟨hs''.extBut _ _ d a, b, c⟩) hF⟩

theorem comp_assign {elt iter : Expr} {x y : Str} {px py : Pos} {ifs : List Expr} {scope : Scope} {cl : List (Str × Addr)} {pos spos : Pos} {l : Addr} {vs : List Value} {m : Str → Option Value} (p : Value → Bool) (P : Know) (R : Know → Value → Value → Prop) {Q : Flow → Shared → Prop}
    (hh : A.handled = none) (hl : s.heap.IsList l vs.toArray) (hsz : vs.length ≤ 1000)
    (hm : ∀ P Q v y, (∀ a o, P a o → Q a o) → R P v y → R Q v y)
    (hsw : swapsWith (.ListComp elt [⟨.Name x px, iter, ifs, 0⟩] scope pos) (some (.Name y py)) spos.line env = pure true)
    (hclos : closureFor scope env = pure cl) (hcell : ∀ y ∈ scope.names, y.2 ≠ .cell) (hkind : scope.kind = .function)
    (hnames : ∀ y ∈ scope.names, y.2 = .local → scope.names.lookup y.1 = some .local) (hx : scope.names.lookup x = some .local) (hs : ∀ x, foldedSetIterable iter env x = pure x)
    (hy : env.kindOf y = some .local) (hp : (env.scope.kind == .class || (env.scope.kind == .module && env.locals != env.globals)) = false)
    (hn : s.heap.Ns env.locals m)
    (hiter : ∀ Q' : Value → Shared → Prop, Q' (.ref l) s → wpAny (model prog w) A (eval iter env) Q' E s)
    (hq : Elts prog w A env scope cl x ifs elt vs p P R s)
    (hQ : ∀ D h' tk ys n tl, s.heap.get? D = none → h'.get? D = some (listO ys n) → (∀ b o, b ≠ env.locals → s.heap.get? b = some o → h'.get? b = some o) → h'.Ns env.locals (fun z => if z = y then some (.ref D) else m z) →
      (∀ q ∈ tl, h'.get? q.1 = some q.2 ∧ s.heap.get? q.1 = none ∧ q.1 ≠ D) → Paired (R (P.more tl)) (vs.filter p) ys → Q .next { s with heap := h', toks := tk }) :
    wpAny (model prog w) A (exec (.Assign [.Name y py] (.ListComp elt [⟨.Name x px, iter, ifs, 0⟩] scope pos) spos) env) Q E s := by
  rw [exec_Assign_Name_used _ _ _ _ hsw]
  refine wpAny_bind (wpAny_standAt (wpAny_bind ?_))
  show wpAny _ A (do let _ ← comprehension (.ListComp elt [⟨.Name x px, iter, ifs, 0⟩] scope pos) scope env _ (newList []) false (eval iter env) (some (assign (.Name y py) env))) _ _ s
  refine wpAny_bind (wpAny_mono (wpAny_comprehension_free (use := some (assign (.Name y py) env)) (Q := fun _ s' => Q .next s') rfl hs hclos hkind hnames (hiter _ ?_)) (fun _ s' hq => wpAny_pure (wpAny_pure hq)) fun _ _ e => e)
  refine comp_block (RR := fun acc C => compPost (model prog w) A E (some (assign (.Name y py) env)) (fun _ s' => Q .next s') acc C) hh hl hsz hm hcell hkind hx hq ?_
  intro D C h' tk m' ys n tl hD hC hDC hnC hl' hk htl hF
  obtain ⟨oL, _, _, hoL, _⟩ := id hn
  have hLC : env.locals ≠ C := by rintro rfl; rw [hC] at hoL; cases hoL
  have hLD : env.locals ≠ D := by rintro rfl; rw [hD] at hoL; cases hoL
  show wpAny _ A (assign (.Name y py) env (.ref D)) _ _ _
  refine wpAny_assign_Name (wpAny_storeName_local hy (hn.keeps hk) (fun h₂ hn₂ hs₂ => ?_) hp)
  refine ⟨m', hnC.sameBut hs₂ (Ne.symm hLC), fun h₃ hs₃ => ?_⟩
  refine hQ D h₃ _ ys n tl hD (hs₃.extBut _ _ hDC (hs₂.extBut _ _ (Ne.symm hLD) hl')) (fun b o hb e => hs₃.extBut b o (by rintro rfl; rw [hC] at e; cases e) (hs₂.extBut b o hb (hk b o e))) (hn₂.sameBut hs₃ hLC) (fun q hq => ?_) hF
  obtain ⟨a, b, c, d⟩ := htl q hq
  exact ⟨hs₃.extBut _ _ d (hs₂.extBut _ _ (fun e => by rw [e, hoL] at b; cases b) a), b, c⟩
end
end Mine
end
section -- LMin
namespace Mine

def pairLt (a b : Int × Int) : Bool := decide (a.1 < b.1 ∨ a.1 = b.1 ∧ a.2 < b.2)
def minP : List (Int × Int) → Int × Int → Int × Int
  | [], b => b
  | a :: r, b => minP r (if pairLt a b then a else b)

def PairAt (h : Heap) (v : Value) (k : Int × Int) : Prop := ∃ T t u, v = .ref T ∧ h.get? T = some (tupO [.int k.1 t, .int k.2 u])
theorem PairAt.keeps {h h' : Heap} {v : Value} {k : Int × Int} (x : PairAt h v k) (hk : h.StaysIn h') : PairAt h' v k := by
  obtain ⟨T, t, u, rfl, e⟩ := x
  exact ⟨T, t, u, rfl, hk _ _ e⟩
theorem PairAt.isTup {h : Heap} {T : Addr} {a b : Int} {t u : Tok} (e : h.get? T = some (tupO [.int a t, .int b u])) : IsTup h T #[.int a t, .int b u] := ⟨_, e, rfl, _, rfl⟩

theorem type_ne {a b : String} (h : a ≠ b) : Value.type a ≠ Value.type b := fun e => h (by injection e)
theorem cls_apart {h : Heap} {a b : Addr} {o1 o2 : Obj} (e1 : h.get? a = some o1) (e2 : h.get? b = some o2) (hne : o1.cls ≠ o2.cls) : a ≠ b := fun q => by
  rw [q, e2] at e1
  exact hne (congrArg Obj.cls (Option.some.inj e1)).symm
theorem paired_get {α β : Type} {F : α → β → Prop} : ∀ {l₁ : List α} {l₂ : List β}, Paired F l₁ l₂ → ∀ {j : Nat} {v : α}, l₁[j]? = some v → ∃ k, l₂[j]? = some k ∧ F v k := by
  intro _ _ h
  induction h with
  | nil => intro j v hv; exact absurd hv (fun e => nomatch e)
  | cons h t ih =>
    intro j v hv
    cases j with
    | zero => exact ⟨_, rfl, Option.some.inj hv ▸ h⟩
    | succ j => exact ih hv
section
variable {prog : Program} {w : World} {A : Around} {E : Value → Shared → Prop} {s : Shared} {R : Result → Shared → Prop} {l I S : Addr} {vs : List Value}

theorem min_loop (hh : A.handled = none) (hu : A.in1.units < cLine) (hl : s.heap.IsList l vs.toArray) (hI : s.heap.get? I = none) (hS : s.heap.get? S = none) (hIS : I ≠ S) (hlI : l ≠ I)
    (ks : List (Int × Int)) (hks : Paired (PairAt s.heap) vs ks)
    (hR : ∀ v k h' tk, PairAt h' v k → (∀ k0 ∈ ks.head?, k = minP ks.tail k0) → s.heap.StaysIn h' → R (.ok (.ret v)) { s with heap := h', toks := tk }) :
    ∀ (r j : Nat) (h : Heap) (tk : Nat) (vb : Value) (kb : Int × Int) (c : Nat), vs.length - j = r → j ≤ vs.length → s.heap.StaysIn h → h.IsListIter I l j → PairAt h vb kb → (∀ k0 ∈ ks.head?, minP ks.tail k0 = minP (ks.drop j) kb) →
      h.get? S = some { cls := .type "list", dict := none, data := .seq #[vb, vb] c, slots := #[] } →
      codeAny (model prog w) A (.builtin "min.loop" ⟨[.ref I, .none, .ref S], []⟩) R { s with heap := h, toks := tk } := by
  have hname : (toString "min" ++ toString ".loop" : String) = "min.loop" := by decide
  have W := Walks.list (prog := prog) (w := w) (A := A.in1) hh I l hlI vs.toArray
  have hsz : vs.toArray.size = vs.length := List.size_toArray ..
  rw [hsz] at W
  have apart : ∀ b o, s.heap.get? b = some o → b ≠ I ∧ b ≠ S := fun b o e => ⟨(fun q => by rw [q, hI] at e; cases e), (fun q => by rw [q, hS] at e; cases e)⟩
  intro r
  induction r with
  | zero =>
    intro j h tk vb kb c hr hj hst hit hb hbest hSl
    have hin : j = vs.length := by omega
    subst hin
    refine codeAny_builtin PySem.F.entry_min_loop ?_
    rw [Around.under_plainId PySem.F.plain_min_loop _]
    show wpAny _ A.in1 (seqItems? (.ref S) >>= _) _ _ _
    refine wpAny_bind (wpAny_seqItems hSl rfl ?_)
    show wpAny _ A.in1 (tryCatch (pyNext (.ref I)) _ >>= _) _ _ _
    refine wpAny_bind (wpAny_tryCatch (W.done _ _ _ ⟨hit, hl.at fun o e => hst _ o e⟩ fun h' tk' hk' => ?_))
    have up : ∀ b o, b ≠ I → h.get? b = some o → h'.get? b = some o := fun b o hb e => hk' b o (by simpa using hb) e
    show wpAny _ A.in1 (updateSeq S (fun _ => #[]) >>= _) _ _ _
    refine wpAny_bind ?_
    refine wpAny_updateSeq (up _ _ (Ne.symm hIS) hSl) rfl (wpAny_bind (wpAny_letGo (wpAny_pure ?_)))
    have keep : ∀ b o, b ≠ I → b ≠ S → h.get? b = some o → (h'.update S (Obj.mapSeq fun _ => (#[] : Array Value))).get? b = some o := fun b o h1 h2 e => (Heap.get?_update_other _ _ (Ne.symm h2)).trans (up b o h1 e)
    refine hR vb kb _ _ ?_ (fun k0 hk0 => ?_) fun b o e => keep b o (apart b o e).1 (apart b o e).2 (hst b o e)
    · obtain ⟨T, t, u, rfl, e⟩ := hb
      obtain ⟨oi, hoi, hc, _⟩ := hit
      exact ⟨T, t, u, rfl, keep T _ (cls_apart e hoi (by rw [hc]; exact type_ne (by decide))) (cls_apart e hSl (type_ne (by decide))) e⟩
    · have h2 := hbest k0 hk0
      have e : ks.drop vs.length = [] := by rw [hks.length]; exact List.drop_length
      rw [e] at h2
      exact h2.symm
  | succ r ih =>
    intro j h tk vb kb c hr hj hst hit hb hbest hSl
    have hlt : j < vs.length := by omega
    refine codeAny_builtin PySem.F.entry_min_loop ?_
    rw [Around.under_plainId PySem.F.plain_min_loop _]
    show wpAny _ A.in1 (seqItems? (.ref S) >>= _) _ _ _
    refine wpAny_bind (wpAny_seqItems hSl rfl ?_)
    show wpAny _ A.in1 (tryCatch (pyNext (.ref I)) _ >>= _) _ _ _
    refine wpAny_bind (wpAny_tryCatch (W.item j _ _ _ hlt ⟨hit, hl.at fun o e => hst _ o e⟩ fun v h' tk' hP hst' hk' => ?_))
    have up : ∀ b o, b ≠ I → h.get? b = some o → h'.get? b = some o := fun b o hb e => hk' b o (by simpa using hb) e
    have hv : vs[j]? = some v := by simpa using hP
    obtain ⟨k, hk, hvk⟩ := paired_get hks hv
    have hst2 : s.heap.StaysIn h' := fun b o e => up b o (apart b o e).1 (hst b o e)
    have hS' := up _ _ (Ne.symm hIS) hSl
    have hb' : PairAt h' vb kb := by
      obtain ⟨T, t, u, rfl, e⟩ := hb
      obtain ⟨oi, hoi, hc, _⟩ := hit
      exact ⟨T, t, u, rfl, up T _ (cls_apart e hoi (by rw [hc]; exact type_ne (by decide))) e⟩
    have hv' := hvk.keeps hst2
    obtain ⟨T1, t1, u1, e1, g1⟩ := id hv'
    obtain ⟨T2, t2, u2, e2, g2⟩ := id hb'
    show wpAny _ A.in1 (tryCatch (holding [v, v] (richCompare .Lt v vb >>= _)) _ >>= _) _ _ _
    have cmp : ∀ Q9 E9 : Value → Shared → Prop, ∀ s9 : Shared, s9.heap = h' → Q9 (.bool (pairLt k kb)) s9 → wpAny (model prog w) A.in1 (richCompare .Lt v vb) Q9 E9 s9 := by
      intro Q9 E9 s9 hs9 hQ9
      rw [e1, e2]
      exact pair_lt (PairAt.isTup (hs9 ▸ g1)) (PairAt.isTup (hs9 ▸ g2)) hu hQ9
    refine wpAny_bind (wpAny_tryCatch (wpAny_holding (wpAny_bind (cmp _ _ _ rfl ?_))))
    refine wpAny_bind (wpAny_holding (wpAny_truthy_bool ?_))
    refine wpAny_bind (wpAny_letGo (wpAny_pure ?_))
    have hdrop : ks.drop j = k :: ks.drop (j + 1) := by
      obtain ⟨hlt', he⟩ := List.getElem?_eq_some_iff.mp hk
      rw [List.drop_eq_getElem_cons hlt', he]
    rw [hdrop] at hbest
    cases hbt : pairLt k kb with
    | true =>
      simp only [if_true]
      refine wpAny_bind ?_
      refine wpAny_updateSeq hS' rfl (wpAny_bind (wpAny_letGo ?_))
      rw [hname]
      have keep : ∀ b o, b ≠ S → h'.get? b = some o → (h'.update S (Obj.mapSeq fun _ => #[v, v])).get? b = some o := fun b o h2 e => (Heap.get?_update_other _ _ (Ne.symm h2)).trans e
      refine wpAny_pure ⟨plainId_quiet PySem.F.plain_min_loop _, ih (j + 1) _ _ v k _ (by omega) hlt (fun b o e => keep b o (apart b o e).2 (hst2 b o e)) (hst'.1.at fun o e => keep _ o hIS e) ?_ (fun k0 h0 => ?_) (Heap.get?_update_self _ hS' rfl)⟩
      · exact ⟨T1, t1, u1, e1, keep _ _ (cls_apart g1 hS' (type_ne (by decide))) g1⟩
      · have := hbest k0 h0
        rw [minP, if_pos hbt] at this
        exact this
    | false =>
      simp only [Bool.false_eq_true, if_false]
      refine wpAny_bind (wpAny_letGo ?_)
      rw [hname]
      refine wpAny_pure ⟨plainId_quiet PySem.F.plain_min_loop _, ih (j + 1) _ _ vb kb c (by omega) hlt hst2 hst'.1 hb' (fun k0 h0 => ?_) hS'⟩
      have := hbest k0 h0
      rw [minP, if_neg (by rw [hbt]; decide)] at this
      exact this

theorem min_pairs {Q : Value → Shared → Prop} {k0 : Int × Int} {ks : List (Int × Int)} (hh : A.handled = none) (hu : A.in1.units < cLine) (hl : s.heap.IsList l vs.toArray) (hks : Paired (PairAt s.heap) vs (k0 :: ks))
    (hQ : ∀ v h' tk, PairAt h' v (minP ks k0) → s.heap.StaysIn h' → Q v { s with heap := h', toks := tk }) : wpAny (model prog w) A (call (.builtin "min") [.ref l]) Q E s := by
  have hname : (toString "min" ++ toString ".loop" : String) = "min.loop" := by decide
  refine call_function_tree PySem.F.kind_min PySem.F.plain_min PySem.F.entry_min (PySem.F.args_min1 _) ?_
  show wpAny _ A.in1 (Builtin.Builtins.bindParams "min" ["key", "default"] 0 ⟨[], []⟩ >>= _) _ _ s
  refine wpAny_bind (wpAny_of_eq (show Builtin.Builtins.bindParams "min" ["key", "default"] 0 ⟨[], []⟩ = pure [none, none] from rfl) ?_)
  refine wpAny_bind (wpAny_pure ?_)
  refine wpAny_bind (wpAny_pyIter_list hl ?_)
  obtain ⟨ol, hol, _⟩ := id hl
  have hlt : l < s.heap.objs.size := Heap.lt_size hol
  refine wpAny_bind (wpAny_newObj_type ?_)
  rw [hname]
  generalize hH1 : s.heap.push { cls := .type "list_iterator", data := .fields #[.ref l, .int 0 0] } = H1
  have eS : H1.objs.size = s.heap.objs.size + 1 := by rw [← hH1, Heap.size_push]
  have hI : s.heap.get? s.heap.objs.size = none := by
    cases e : s.heap.get? s.heap.objs.size with
    | none => rfl
    | some o => exact absurd (Heap.lt_size e) (Nat.lt_irrefl _)
  have hS : s.heap.get? H1.objs.size = none := by
    cases e : s.heap.get? H1.objs.size with
    | none => rfl
    | some o => have := Heap.lt_size e; rw [eS] at this; exact absurd this (Nat.not_lt.mpr (Nat.le_succ _))
  have hIS : s.heap.objs.size ≠ H1.objs.size := by omega
  have hlI : l ≠ s.heap.objs.size := Nat.ne_of_lt hlt
  have apart : ∀ b o, s.heap.get? b = some o → b ≠ s.heap.objs.size ∧ b ≠ H1.objs.size := fun b o e => ⟨(fun q => by rw [q, hI] at e; cases e), (fun q => by rw [q, hS] at e; cases e)⟩
  have W := Walks.list (prog := prog) (w := w) (A := A.in1) hh s.heap.objs.size l hlI vs.toArray
  have hsz : vs.toArray.size = vs.length := List.size_toArray ..
  rw [hsz] at W
  refine wpAny_pure ⟨plainId_quiet PySem.F.plain_min_loop _, ?_⟩
  cases hks with
  | cons h0 ht =>
  rename_i v0 vr _
  refine codeAny_builtin PySem.F.entry_min_loop ?_
  rw [Around.under_plainId PySem.F.plain_min_loop _]
  show wpAny _ A.in1 (seqItems? (.ref H1.objs.size) >>= _) _ _ _
  have hSl : (H1.push { cls := .type "list", dict := none, data := .seq ([] : List Value).toArray }).get? H1.objs.size = some { cls := .type "list", dict := none, data := .seq #[], slots := #[] } := Heap.get?_push_size _ rfl
  have old : s.heap.StaysIn (H1.push { cls := .type "list", dict := none, data := .seq ([] : List Value).toArray }) := fun b o e => Heap.get?_push_of_some _ (hH1 ▸ Heap.get?_push_of_some _ e)
  refine wpAny_bind (wpAny_seqItems hSl rfl ?_)
  show wpAny _ A.in1 (tryCatch (pyNext (.ref s.heap.objs.size)) _ >>= _) _ _ _
  refine wpAny_bind (wpAny_tryCatch (W.item 0 _ _ _ (by simp) ⟨⟨_, Heap.get?_push_of_some _ (hH1 ▸ Heap.get?_push_size _ rfl), rfl, rfl⟩, hl.at fun o e => old _ o e⟩ fun v h' tk' hP hst' hk' => ?_))
  have up : ∀ b o, b ≠ s.heap.objs.size → (H1.push { cls := .type "list", dict := none, data := .seq ([] : List Value).toArray }).get? b = some o → h'.get? b = some o := fun b o hb e => hk' b o (by simpa using hb) e
  have hv : v0 = v := by simpa using hP
  subst hv
  have hS' := up _ _ (Ne.symm hIS) hSl
  show wpAny _ A.in1 (updateSeq H1.objs.size (fun _ => #[v0, v0]) >>= _) _ _ _
  refine wpAny_bind ?_
  refine wpAny_updateSeq hS' rfl ?_
  rw [hname]
  have keep : ∀ b o, b ≠ H1.objs.size → h'.get? b = some o → (h'.update H1.objs.size (Obj.mapSeq fun _ => #[v0, v0])).get? b = some o := fun b o h2 e => (Heap.get?_update_other _ _ (Ne.symm h2)).trans e
  have st : s.heap.StaysIn (h'.update H1.objs.size (Obj.mapSeq fun _ => #[v0, v0])) := fun b o e => keep b o (apart b o e).2 (up b o (apart b o e).1 (old b o e))
  refine wpAny_pure ⟨plainId_quiet PySem.F.plain_min_loop _, min_loop (s := s) hh hu hl hI hS hIS hlI (k0 :: ks) (.cons h0 ht) (fun v k h'' tk hp hb hst => hQ v h'' tk ?_ hst) _ 1 _ _ v0 k0 _ rfl (by simp) st (hst'.1.at fun o e => keep _ o hIS e) (h0.keeps st) (fun k1 hk1 => ?_) (Heap.get?_update_self _ hS' rfl)⟩
  · have := hb k0 rfl
    rw [this] at hp
    exact hp
  · cases hk1; rfl
end
end Mine
end
section -- LDcomp
namespace Mine
section
variable {prog : Program} {w : World} {A : Around} {E : Value → Shared → Prop} {s : Shared} {env : Env} {K : Type} [DecidableEq K] {knd : KeyKind prog w K}

theorem newDict_at {M : Model} {A : Around} {E : Value → Shared → Prop} {s : Shared} {Q : Value → Shared → Prop} (h : wpAny M A newDict Q E s) : wpAny M A newDict (fun v s' => v = .ref s.heap.objs.size ∧ Q v s') E s := by
  intro Γ p hΓ
  have := h Γ p hΓ
  unfold newDict newObj newObjAsIs at this ⊢
  simp at this ⊢
  exact this
theorem dcomp_assign {kx vx iter : Expr} {x y : Str} {px py : Pos} {scope : Scope} {cl : List (Str × Addr)} {pos spos : Pos} {l : Addr} {vs : List Value} {m : Str → Option Value} (FK : Value → K → Prop) (FV : Value → Value → Prop) {Q : Flow → Shared → Prop}
    (hh : A.handled = none) (hl : s.heap.IsList l vs.toArray) (hsz : vs.length ≤ 1000)
    (hsw : swapsWith (.DictComp kx vx [⟨.Name x px, iter, [], 0⟩] scope pos) (some (.Name y py)) spos.line env = pure true)
    (hclos : closureFor scope env = pure cl) (hcell : ∀ y ∈ scope.names, y.2 ≠ .cell) (hkind : scope.kind = .function)
    (hnames : ∀ y ∈ scope.names, y.2 = .local → scope.names.lookup y.1 = some .local) (hx : scope.names.lookup x = some .local) (hs : ∀ x, foldedSetIterable iter env x = pure x)
    (hy : env.kindOf y = some .local) (hp : (env.scope.kind == .class || (env.scope.kind == .module && env.locals != env.globals)) = false)
    (hn : s.heap.Ns env.locals m)
    (hiter : ∀ Q' : Value → Shared → Prop, Q' (.ref l) s → wpAny (model prog w) A (eval iter env) Q' E s)
    (hkey : ∀ C (i : Nat) v s₃ m₃, vs[i]? = some v → s₃.heap.Ns C m₃ → m₃ x = some v → s.heap.StaysIn s₃.heap →
      wpAny (model prog w) A (eval kx (compEnvC scope cl C env)) (fun key s₄ => (∃ k, knd.is k key = true ∧ FK v k) ∧ Keeps s₃ s₄) noE s₃)
    (hval : ∀ C (i : Nat) v s₃ m₃, vs[i]? = some v → s₃.heap.Ns C m₃ → m₃ x = some v → s.heap.StaysIn s₃.heap →
      wpAny (model prog w) A (eval vx (compEnvC scope cl C env)) (fun y s₄ => FV v y ∧ Keeps s₃ s₄) noE s₃)
    (hQ : ∀ D h' tk kvs o, s.heap.objs.size ≤ D → s.heap.get? D = none → h'.get? D = some o → o.IsDictOf knd kvs → (∀ b o, b ≠ env.locals → s.heap.get? b = some o → h'.get? b = some o) → h'.Ns env.locals (fun z => if z = y then some (.ref D) else m z) →
      StoredAll FK FV vs kvs → Q .next { s with heap := h', toks := tk }) :
    wpAny (model prog w) A (exec (.Assign [.Name y py] (.DictComp kx vx [⟨.Name x px, iter, [], 0⟩] scope pos) spos) env) Q E s := by
  rw [exec_Assign_Name_used _ _ _ _ hsw]
  refine wpAny_bind (wpAny_standAt (wpAny_bind ?_))
  show wpAny _ A (do let _ ← comprehension (.DictComp kx vx [⟨.Name x px, iter, [], 0⟩] scope pos) scope env _ newDict false (eval iter env) (some (assign (.Name y py) env))) _ _ s
  refine wpAny_bind (wpAny_mono (wpAny_comprehension_free (use := some (assign (.Name y py) env)) (Q := fun _ s' => Q .next s') rfl hs hclos hkind hnames (hiter _ ?_)) (fun _ s' hq => wpAny_pure (wpAny_pure hq)) fun _ _ e => e)
  obtain ⟨ol, hol, _⟩ := id hl
  have hlt : l < s.heap.objs.size := Heap.lt_size hol
  have up : ∀ (h₃ : Heap), (∀ b o, b ∉ [s.heap.objs.size] → (s.heap.push { cls := .type "list_iterator", data := .fields #[.ref l, .int 0 0] }).get? b = some o → h₃.get? b = some o) → s.heap.StaysIn h₃ :=
    fun h₃ hk b o e => hk b o (fun hm => absurd (Heap.lt_size e) ((List.mem_singleton.mp hm) ▸ Nat.lt_irrefl _)) (Heap.get?_push_of_some _ e)
  refine wpAny_pyIter_list hl ?_
  refine wpAny_mono (newDict_at (comp_block_walkCD (knd := knd) (RR := fun acc C r s' => acc = .ref (s.heap.push { cls := .type "list_iterator", data := .fields #[.ref l, .int 0 0] }).objs.size → compPost (model prog w) A E (some (assign (.Name y py) env)) (fun _ s' => Q .next s') acc C r s') (Walks.list hh _ _ (Nat.ne_of_lt hlt) vs.toArray)
    (by rw [List.size_toArray, sizeLine_eq]; omega) (fun _ => true) FK FV hcell hkind hx ⟨⟨_, Heap.get?_push_size _ rfl, rfl, rfl⟩, hl.push _⟩ ?_ ⟨?_, ?_, ?_⟩ ?_)) (fun acc s₃ h => wpAny_mono h.2 (fun cenv s₄ h4 => codeAny_mono h4 fun r s' h5 => h5 h.1) fun _ _ e => e) fun _ _ e => e
  · intro b hb
    show b < (s.heap.push _).objs.size
    rw [Heap.size_push]
    rcases List.mem_cons.mp hb with rfl | hb
    · exact Nat.lt_succ_self _
    · rw [List.mem_singleton.mp hb]; exact Nat.lt_succ_of_lt hlt
  · intro C i v s₃ m₃ E' hP hn hm hk
    exact wpAny_pure ⟨rfl, s₃.heap, s₃.toks, rfl, fun _ _ e => e⟩
  · intro C i v s₃ m₃ E' hP _ hn hm hk
    exact wpAny_mono (hkey C i v s₃ m₃ (by simpa using hP) hn hm (up _ hk)) (fun _ _ h => h) fun _ _ f => f.elim
  · intro C i v s₃ m₃ E' hP _ hn hm hk
    exact wpAny_mono (hval C i v s₃ m₃ (by simpa using hP) hn hm (up _ hk)) (fun _ _ h => h) fun _ _ f => f.elim
  · intro D C h' tk m' kvs vs' hD hC hDC hnC hlD hlen hP hF hk hacc
    have hDs : s.heap.objs.size ≤ D := by
      have := Value.ref.inj hacc
      rw [this, Heap.size_push]; exact Nat.le_succ _
    have e : vs' = vs := by simpa using list_of_places hlen hP
    subst e
    rw [List.filter_eq_self.mpr (fun _ _ => rfl)] at hF
    have hk' := up h' hk
    obtain ⟨oL, _, _, hoL, _⟩ := id hn
    have hLC : env.locals ≠ C := by rintro rfl; rw [Heap.get?_push_of_some _ hoL] at hC; cases hC
    have hLD : env.locals ≠ D := by rintro rfl; rw [Heap.get?_push_of_some _ hoL] at hD; cases hD
    have hC0 : ∀ b o, s.heap.get? b = some o → b ≠ C := fun b o e q => by rw [← q, Heap.get?_push_of_some _ e] at hC; cases hC
    have hD0 : s.heap.get? D = none := by
      cases e : s.heap.get? D with
      | none => rfl
      | some o => rw [Heap.get?_push_of_some _ e] at hD; cases hD
    show wpAny _ A (assign (.Name y py) env (.ref D)) _ _ _
    refine wpAny_assign_Name (wpAny_storeName_local hy (hn.keeps hk') (fun h₂ hn₂ hs₂ => ?_) hp)
    refine ⟨m', hnC.sameBut hs₂ (Ne.symm hLC), fun h₃ hs₃ => ?_⟩
    obtain ⟨o, ho, hod⟩ := Heap.dictOf_iff.mp hlD
    exact hQ D h₃ _ kvs o hDs hD0 (hs₃.extBut _ _ hDC (hs₂.extBut _ _ (Ne.symm hLD) ho)) hod (fun b o hb e => hs₃.extBut b o (hC0 b o e) (hs₂.extBut b o hb (hk' b o e))) (hn₂.sameBut hs₃ hLC) hF
end
end Mine
end
section -- LItems
namespace Mine
section
variable {prog : Program} {w : World} {A : Around} {s : Shared} {env : Env} {h₀ : Heap} {K : Type} [DecidableEq K] {knd : KeyKind prog w K}
theorem For_items {Q : Flow → Shared → Prop} {xk xv : Str} {pk pv pt pos apos cpos : Pos} {x1 : Nat} {e : Expr} {body : List Stmt} {d : Addr} {od : Obj} {kvs : List (K × Value)} {m : Str → Option Value} {news : List (Addr × Obj)}
    (hh : A.handled = none) (hd : h₀.get? d = some od) (hk : od.IsDictOf knd kvs) (hdS : (d == sysModules) = false) (F : Fr h₀ env.locals s.heap m) (N : News h₀ env.locals s.heap news)
    (hxk : env.kindOf xk = some .local) (hxv : env.kindOf xv = some .local) (hp : (env.scope.kind == .class || (env.scope.kind == .module && env.locals != env.globals)) = false)
    (hbase : attributeBase e "items" env (eval e env) = eval e env) (hline : (apos.endLine == cpos.line) = true)
    (ho : ∀ Q', Q' (.ref d) s → wpAny (model prog w) A (eval e env) Q' noE s)
    (J : Nat → (Str → Option Value) → List (Addr × Obj) → Prop) (h0 : J 0 m news)
    (step : ∀ i k v key I m₁ news₁ s₁ own, kvs[i]? = some (k, v) → knd.is k key = true → J i m₁ news₁ → (∀ p ∈ news₁, p.1 ≠ I) → (∀ p ∈ own, p.1 = I) →
      Fr h₀ env.locals s₁.heap (fun y => if y = xv then some v else if y = xk then some key else m₁ y) → News h₀ env.locals s₁.heap (own ++ news₁) →
      wpAny (model prog w) A (execs body env) (LoopStepU h₀ env.locals [I] own (J (i + 1)) s₁) noE s₁)
    (hR : ∀ h' tk m' news', Fr h₀ env.locals h' m' → News h₀ env.locals h' news' → J kvs.length m' news' → Q .next { s with heap := h', toks := tk })
    (hs : ∀ x, foldedSetIterable (.Call (.Attribute e "items" apos) [] [] cpos) env x = pure x := by intro _; rfl) :
    wpAny (model prog w) A (exec (.For (.Tuple [.Name xk pk, .Name xv pv] x1 pt) (.Call (.Attribute e "items" apos) [] [] cpos) body [] pos) env) Q noE s := by
  obtain ⟨es, ep, hx, hdat, hks, hps, hnd⟩ := id hk
  have hm : s.heap.DictAt knd d kvs ep := ⟨od, es, F.keep _ _ hd, hx, hdat, hks, hps, hnd⟩
  obtain ⟨oL, _, _, hoL, _⟩ := id F.ns
  have hlt : ∀ b o, s.heap.get? b = some o → b < s.heap.objs.size := fun b o e => Heap.lt_size e
  have hdlt : d < h₀.objs.size := Heap.lt_size hd
  have hdL : d ≠ env.locals := fun q => absurd F.above (Nat.not_le.mpr (q ▸ hdlt))
  refine wpAny_For (wpAny_Call_items hdS hm.dictOf hbase hline ho ?_) hs
  refine wpAny_pyIter_items (knd := knd) (d := d) (kvs := kvs) (ep := ep) ⟨_, Heap.get?_push_size _ rfl, rfl, rfl⟩ (hm.push _) ?_
  have hsz : (s.heap.push { cls := .type "dict_items", data := .fields #[.ref d] }).objs.size = s.heap.objs.size + 1 := Heap.size_push ..
  have hnone : h₀.get? (s.heap.push { cls := .type "dict_items", data := .fields #[.ref d] }).objs.size = none := by
    rw [hsz]
    cases q : h₀.get? (s.heap.objs.size + 1) with
    | none => rfl
    | some o => exact absurd (Heap.lt_size (F.keep _ _ q)) (Nat.not_lt.mpr (Nat.le_succ _))
  refine codeAny_forLoop_items_frU (s := { s with heap := _ }) (h₀ := h₀) (news := news) (m := m) (knd := knd) (R := fun r s' => match r with | .ok f => Q f s' | .error e => cameBackBy (model prog w) A env noE e s') hh hxk hxv hp ?_ hdL ?_ hnone ?_
    (Heap.get?_push_size _ rfl) ((hm.push _).push _) ((F.push _).push _) (fun p hp => ⟨Heap.get?_push_of_some _ (Heap.get?_push_of_some _ (N p hp).1), (N p hp).2⟩) J h0 ?_ ?_
  · show (s.heap.push _).objs.size ≠ env.locals
    rw [hsz]; exact Nat.ne_of_gt (Nat.lt_succ_of_lt (hlt _ _ hoL))
  · show d ≠ (s.heap.push _).objs.size
    rw [hsz]; exact Nat.ne_of_lt (Nat.lt_succ_of_lt (hlt _ _ (F.keep _ _ hd)))
  · intro p hp q
    rw [List.mem_singleton, hsz] at q
    have this := hlt _ _ (N p hp).1
    rw [q] at this
    exact absurd this (Nat.not_lt.mpr (Nat.le_succ _))
  · intro i k v key m₁ news₁ s₁ own hi hkey hJ hn hown _ F₁ N₁
    refine wpAny_mono (step i k v key _ m₁ news₁ s₁ own hi hkey hJ (fun p hp e => hn p hp (by simp [e])) (fun p hp => ?_) F₁ N₁) (fun _ _ x => x) (fun _ _ x => x.elim)
    rcases List.mem_cons.mp (hown p hp) with e | e
    · exact e
    · exfalso
      have := (N₁ p (List.mem_append_left _ hp)).2.2
      rw [List.mem_singleton.mp e, hd] at this
      cases this
  · intro h' tk m' news' F' N' _ hJ
    exact hR h' tk m' news' F' N' hJ
end
section
variable {prog : Program} {w : World} {A : Around} {E : Value → Shared → Prop} {s : Shared} {h₀ : Heap} {L d : Addr} {m : Str → Option Value} {own : List (Addr × Obj)} {o : Obj} {K : Type} [DecidableEq K] {knd : KeyKind prog w K} {kvs : List (K × Value)} {k : K} {key : Value}
theorem setItem_mine {v : Value} {Q : Unit → Shared → Prop} (hkey : knd.is k key = true) (F : Fr h₀ L s.heap m) (N : News h₀ L s.heap (own ++ [(d, o)])) (h1 : ∀ p ∈ own, p.1 ≠ d) (hd : o.IsDictOf knd kvs) (hsz : kvs.length ≤ sizeLine)
    (h : ∀ h' o', Fr h₀ L h' m → News h₀ L h' (own ++ [(d, o')]) → o'.IsDictOf knd (stored kvs k v) → Q () { s with heap := h', toks := s.toks + 1 }) : wpAny (model prog w) A (setItem (.ref d) key v) Q E s := by
  have hm := N (d, o) (List.mem_append_right _ (.head _))
  refine wpAny_setItem_pairs (hsz := hsz) hkey (Heap.dictOf_iff.mpr ⟨o, hm.1, hd⟩) fun h' hmm hs => ?_
  obtain ⟨o', ho', hd'⟩ := Heap.dictOf_iff.mp hmm
  refine h h' o' ⟨F.ns.sameBut hs (Ne.symm hm.2.1), fun b ob e => (hs.2 b fun q => ?_).trans (F.keep b ob e), F.above⟩ (fun p hp => ?_) hd'
  · rw [q, hm.2.2] at e; cases e
  · rcases List.mem_append.mp hp with q | q
    · have P := N p (List.mem_append_left _ q); exact ⟨(hs.2 p.1 (h1 p q)).trans P.1, P.2⟩
    · rw [List.mem_singleton.mp q]; exact ⟨ho', hm.2⟩
theorem in_mine {Q : Value → Shared → Prop} (hkey : knd.is k key = true) (hS : (d == sysModules) = false) (N : News h₀ L s.heap (own ++ [(d, o)])) (hd : o.IsDictOf knd kvs)
    (h : Q (.bool (valueAt kvs k).isSome) { s with toks := s.toks + 1 }) : wpAny (model prog w) A (compareOp .In key (.ref d)) Q E s :=
  wpAny_in_of hkey hS (Heap.dictOf_iff.mpr ⟨o, (N (d, o) (List.mem_append_right _ (.head _))).1, hd⟩).mapOf h
theorem getItem_mine {v : Value} {Q : Value → Shared → Prop} (hkey : knd.is k key = true) (N : News h₀ L s.heap (own ++ [(d, o)])) (hd : o.IsDictOf knd kvs) (hv : valueAt kvs k = some v)
    (h : Q v { s with toks := s.toks + 1 }) : wpAny (model prog w) A (getItem (.ref d) key) Q E s :=
  wpAny_getItem_of hkey (Heap.dictOf_iff.mpr ⟨o, (N (d, o) (List.mem_append_right _ (.head _))).1, hd⟩).mapOf hv h
end

def addOne : List (Str × Int) → Str → Int → List (Str × Int)
  | [], k, v => [(k, v)]
  | (k', v') :: r, k, v => if k' = k then (k', v' + v) :: r else (k', v') :: addOne r k v
def addAll (t s : List (Str × Int)) : List (Str × Int) := s.foldl (fun t kv => addOne t kv.1 kv.2) t
theorem know_map1 {m : Str → Option Value} {x1 : Str} {v1 : Value} (h1 : m x1 = some v1) : m = fun y => if y = x1 then some v1 else m y := by
  funext y
  by_cases e1 : y = x1 <;> simp_all
theorem know_map2 {m : Str → Option Value} {x1 x2 : Str} {v1 v2 : Value} (h1 : m x1 = some v1) (h2 : m x2 = some v2) : m = fun y => if y = x1 then some v1 else if y = x2 then some v2 else m y := by
  funext y
  by_cases e1 : y = x1 <;> by_cases e2 : y = x2 <;> simp_all

theorem isStr_of {w : World} {k : Str} {key : Value} (h : (kd w).is k key = true) : ∃ t, key = .str k t := Value.isStrOf_shape h
theorem stored_new {kvs : List (Str × Value)} {k : Str} {v : Value} (h : k ∉ kvs.map (·.1)) : stored kvs k v = kvs ++ [(k, v)] := by
  unfold stored
  rw [if_neg]
  intro q
  obtain ⟨kv, hm, he⟩ := List.any_eq_true.mp q
  exact h (List.mem_map.mpr ⟨kv, hm, by simpa using he⟩)
theorem take_stored {kvs : List (Str × Value)} (hn : (kvs.map (·.1)).Nodup) {i : Nat} {k : Str} {v : Value} (h : kvs[i]? = some (k, v)) : stored (kvs.take i) k v = kvs.take (i + 1) := by
  have e : kvs.take (i + 1) = kvs.take i ++ [(k, v)] := by rw [List.take_add_one, h]; rfl
  rw [e]
  refine stored_new ?_
  intro hm
  have hn' : ((kvs.take (i + 1)).map (·.1)).Nodup := by rw [List.map_take]; exact hn.sublist (List.take_sublist _ _)
  rw [e, List.map_append, List.nodup_append] at hn'
  exact hn'.2.2 _ hm _ (List.mem_singleton.mpr rfl) rfl
theorem value_ints {kvs : List (Str × Value)} {cs : List (Str × Int)} (h : IntVals kvs cs) (hn : (kvs.map (·.1)).Nodup) (k : Str) (v : Int) :
    ((valueAt kvs k = none) ∧ ∀ t, IntVals (stored kvs k (.int v t)) (addOne cs k v)) ∨
      (∃ i t, valueAt kvs k = some (.int i t) ∧ ∀ t, IntVals (stored kvs k (.int (i + v) t)) (addOne cs k v)) := by
  induction h with
  | nil => exact .inl ⟨rfl, fun t => .cons .nil⟩
  | cons h ih =>
    rename_i k' i' t' kvs' cs'
    have hn2 : k' ∉ kvs'.map (·.1) ∧ (kvs'.map (·.1)).Nodup := List.nodup_cons.mp hn
    by_cases e : k' = k
    · subst e
      refine .inr ⟨i', t', by simp [valueAt], fun t => ?_⟩
      have es : stored ((k', Value.int i' t') :: kvs') k' (.int (i' + v) t) = (k', .int (i' + v) t) :: kvs' := by
        unfold stored
        rw [if_pos (by simp), List.map_cons, if_pos rfl]
        congr 1
        conv => rhs; rw [← List.map_id kvs']
        refine List.map_congr_left fun kv hkv => ?_
        rw [if_neg]
        · rfl
        · intro q; exact hn2.1 (List.mem_map.mpr ⟨kv, hkv, q⟩)
      rw [es, addOne, if_pos rfl]
      exact .cons h
    · have ev : valueAt ((k', Value.int i' t') :: kvs') k = valueAt kvs' k := by simp [valueAt, e]
      have es : ∀ x, stored ((k', Value.int i' t') :: kvs') k x = (k', Value.int i' t') :: stored kvs' k x := by
        intro x
        unfold stored
        simp only [List.any_cons, e, decide_false, Bool.false_or]
        split
        · rw [List.map_cons, if_neg e]
        · rfl
      rw [ev]
      rcases ih hn2.2 with ⟨h1, h2⟩ | ⟨i, t, h1, h2⟩
      · refine .inl ⟨h1, fun t => ?_⟩
        rw [es, addOne, if_neg e]
        exact .cons (h2 t)
      · refine .inr ⟨i, t, h1, fun t => ?_⟩
        rw [es, addOne, if_neg e]
        exact .cons (h2 t)
theorem IntVals.get {kvs : List (Str × Value)} {cs : List (Str × Int)} (h : IntVals kvs cs) : ∀ {i : Nat} {k : Str} {v : Value}, kvs[i]? = some (k, v) → ∃ n t, v = .int n t ∧ cs[i]? = some (k, n) := by
  induction h with
  | nil => intro i k v e; cases i <;> cases e
  | cons h ih =>
    intro i k v e
    cases i with
    | zero => cases e; exact ⟨_, _, rfl, rfl⟩
    | succ i => exact ih e
theorem IntVals.length {kvs : List (Str × Value)} {cs : List (Str × Int)} (h : IntVals kvs cs) : kvs.length = cs.length := by
  induction h with
  | nil => rfl
  | cons h ih => simp [ih]
theorem addOne_length (cs : List (Str × Int)) (k : Str) (v : Int) : (addOne cs k v).length ≤ cs.length + 1 := by
  induction cs with
  | nil => simp [addOne]
  | cons c cs ih =>
    obtain ⟨k', v'⟩ := c
    rw [addOne]
    split <;> simp <;> omega
theorem addAll_length (s : List (Str × Int)) : ∀ t, (addAll t s).length ≤ t.length + s.length := by
  induction s with
  | nil => intro t; simp [addAll]
  | cons c s ih =>
    intro t
    have h := ih (addOne t c.1 c.2)
    have h2 := addOne_length t c.1 c.2
    show (addAll (addOne t c.1 c.2) s).length ≤ _
    simp only [List.length_cons]; omega
end Mine
end
section -- LPct
open PySem PySem.W PySem.Spec PySem.Calls PyProof.Rows Builtin.Str
namespace Mine
theorem neg_text : ∀ k : Fin 99, (45 :: (Str.ofString (toString (((k.1 + 1 : Nat) : Int)))).cps.toList) = (Str.ofString (toString (-((k.1 + 1 : Nat) : Int)))).cps.toList ∧ (Str.ofString (toString (-((k.1 + 1 : Nat) : Int)))).length ≤ 10 := by decide +kernel

theorem after_neg {M : Model} {A : Around} {E : Value → Shared → Prop} {s : Shared} {l : List Nat} {p : List Value} {r : List Nat}
    {f : Nat → List Value × Writer × List Nat → Sem (ForInStep (List Value × Writer × List Nat))} {Q : List Value × Writer × List Nat → Shared → Prop}
    {w : Writer} {T : Str} {N : Nat} {o : Option Value} {c : Percent} {n : Int} {d : List Nat} (hn : n < 0) (hm : -99 ≤ n) (g : KPc.Good w T N) (h1 : c.alt = false) (h2 : c.type = 100 ∨ c.type = 105 ∨ c.type = 117) (h3 : c.prec = none)
    (hd : d = (Str.ofString (toString ((n.natAbs : Nat) : Int))).cps.toList) (ho : o = none) (h : ∀ w', KPc.Good w' (T ++ Str.ofString (toString n)) (N + 10) → wpAny M A (forIn l (p, w', r) f) Q E s) :
    wpAny M A (forIn l (p, w.add ⟨(percentInt c (decide (n < 0)) d).toArray⟩ o, r) f) Q E s := by
  have k0 := neg_text ⟨n.natAbs - 1, by omega⟩
  have e1 : ((n.natAbs - 1 + 1 : Nat) : Int) = -n := by omega
  simp only [e1, Int.neg_neg] at k0
  have e2 : ((n.natAbs : Nat) : Int) = -n := by omega
  have e : percentInt c (decide (n < 0)) d = (Str.ofString (toString n)).cps.toList := by
    rw [hd, e2, ← k0.1]
    unfold percentInt
    rcases h2 with h2 | h2 | h2 <;> simp [h1, h2, h3, hn]
  rw [e]
  exact KPc.after_str g k0.2 (KPc.obj_none ho) h

theorem after_any {M : Model} {A : Around} {E : Value → Shared → Prop} {s : Shared} {l : List Nat} {p : List Value} {r : List Nat}
    {f : Nat → List Value × Writer × List Nat → Sem (ForInStep (List Value × Writer × List Nat))} {Q : List Value × Writer × List Nat → Shared → Prop}
    {w : Writer} {T : Str} {N : Nat} {o : Option Value} {c : Percent} {n : Int} {d : List Nat} (h0 : -99 ≤ n) (h9 : n < 10 ^ 10) (g : KPc.Good w T N) (h1 : c.alt = false) (h2 : c.type = 100 ∨ c.type = 105 ∨ c.type = 117) (h3 : c.prec = none)
    (hd : d = (Str.ofString (toString ((n.natAbs : Nat) : Int))).cps.toList) (ho : o = none) (h : ∀ w', KPc.Good w' (T ++ Str.ofString (toString n)) (N + 10) → wpAny M A (forIn l (p, w', r) f) Q E s) :
    wpAny M A (forIn l (p, w.add ⟨(percentInt c (decide (n < 0)) d).toArray⟩ o, r) f) Q E s := by
  by_cases hn : n < 0
  · exact after_neg hn h0 g h1 h2 h3 hd ho h
  · exact KPc.after_int g h1 h2 h3 (by omega) h9 hd ho h
local macro_rules | `(tactic| kpt_piece) => `(tactic| ((with_reducible show wpAny _ _ (forIn _ (_, Builtin.Str.Writer.add _ (Str.mk (List.toArray (percentInt _ _ _))) _, _) _) _ _ _); refine after_any (by assumption) (by assumption) (by kpc_g) rfl (by kpc_kind) rfl rfl (by kpc_none) ?_; intro _ _))
local macro_rules | `(tactic| kpt_hd) => `(tactic| assumption)
set_option maxRecDepth 100000 in
set_option maxHeartbeats 0 in
theorem pct_at {b : Addr} {f n : Str} {l : Int} {t t1 t2 t3 : Tok} (hf : f.length ≤ 1000000) (hn : n.length ≤ 1000000) (h0 : -99 ≤ l) (h1 : l < 10 ^ 10) :
   Meets (Builtin.«str.__mod__» ⟨[.str ⟨#[37,115,58,37,100,40,37,115,41]⟩ t, .ref b], []⟩) (fun _ R s => IsTup s.heap b #[.str f t1, .int l t2, .str n t3] ∧ ∀ t' k, R (.ok (.ret (.str (f ++ Str.ofString ":" ++ Str.ofString (toString l) ++ Str.ofString "(" ++ n ++ Str.ofString ")") t'))) {s with toks := k}) := by
  have hl2 : l.natAbs.log2 < 1920 := by
    by_cases e : l.natAbs = 0
    · rw [e]; decide
    · rw [Nat.log2_lt e]
      exact Nat.lt_of_lt_of_le (show l.natAbs < 10 ^ 10 by omega) (by decide +kernel)
  kpt_run

theorem pct_tup {prog : Program} {w : World} {A : Around} {E : Value → Shared → Prop} {s : Shared} {Q : Value → Shared → Prop} {b : Addr} {f n : Str} {l : Int} {t t1 t2 t3 : Tok}
    (ht : IsTup s.heap b #[.str f t1, .int l t2, .str n t3]) (hf : f.length ≤ 1000000) (hn : n.length ≤ 1000000) (h0 : -99 ≤ l) (h1 : l < 10 ^ 10)
    (h : ∀ t' k, Q (.str (f ++ Str.ofString ":" ++ Str.ofString (toString l) ++ Str.ofString "(" ++ n ++ Str.ofString ")") t') { s with toks := k }) :
    wpAny (model prog w) A (binaryOp .Mod (.str (Str.ofString "%s:%d(%s)") t) (.ref b)) Q E s := by
  have hX : Str.ofString "%s:%d(%s)" = ⟨#[37,115,58,37,100,40,37,115,41]⟩ := by decide +kernel
  rw [hX]
  have hT : s.TypeIs (.ref b) "tuple" := by
    obtain ⟨o, ho, hc, _⟩ := ht
    exact ⟨o, ho, hc⟩
  exact KPt.bin_left (T := "str") (U := "tuple") (op := .Mod) (by decide) (typeIs_str s _ t) hT F.fills_str_mod KPt.fills_tuple F.slot_str_mod
    (call_meets F.slot_str_mod (typeIs_str s _ t) F.entry_str_mod (F.args_str_mod_2 _ _) (pct_at hf hn h0 h1) ⟨ht, fun t' k => ⟨(fun e => nomatch e), h t' k⟩⟩)
end Mine
end
section -- LCrc
namespace Mine
def crcBit (c : Nat) : Nat := if c % 2 = 1 then (c / 2) ^^^ 3988292384 else c / 2
def crcN : Nat → Nat → Nat
  | 0, c => c
  | n + 1, c => crcBit (crcN n c)
def runAll (r : Nat) (cs : List Nat) : Nat := cs.foldl (fun r c => crcN 8 (r ^^^ c)) r
def runN (cs : List Nat) : Nat := runAll (2 ^ 32 - 1) cs ^^^ (2 ^ 32 - 1)
def pushByte (w c : Nat) : Nat → Nat
  | 0 => w
  | p + 1 => 2 * pushByte w c p + c / 2 ^ p % 2
def pushAll (w : Nat) (cs : List Nat) : Nat := cs.foldl (fun w c => pushByte w c 8) w
def divStep (w place : Nat) : Nat := if w / 2 ^ place % 2 = 1 then w ^^^ (4374732215 * 2 ^ (place - 32)) else w
def divN (w size : Nat) : Nat → Nat
  | 0 => w
  | i + 1 => divStep (divN w size i) (size + 31 - i)
def toldN (w : Nat) : Nat → Nat
  | 0 => 0
  | p + 1 => 2 * toldN w p + (1 - w / 2 ^ p % 2)
def wholeN (cs : List Nat) : Nat := (pushAll 0 cs * 2 ^ 32) ^^^ ((2 ^ 32 - 1) * 2 ^ (8 * cs.length))
def sealN (cs : List Nat) : Nat := toldN (divN (wholeN cs) (8 * cs.length) (8 * cs.length)) 32

def bitsK (k o : Nat) : List Bool := (List.range k).map o.testBit
def bitsOf (cs : List Nat) : List Bool := cs.flatMap (bitsK 8)
def pushN (w : Nat) (bs : List Bool) : Nat := bs.foldl (fun w b => 2 * w + b.toNat) w
def stepN (R : Nat) (b : Bool) : Nat := (2 * R % 2 ^ 32) ^^^ (if (R.testBit 31) != b then 79764919 else 0)
def Wn (R : Nat) (bs : List Bool) : Nat := (R * 2 ^ bs.length) ^^^ (pushN 0 bs * 2 ^ 32)

theorem bit_toNat (c p : Nat) : c / 2 ^ p % 2 = (c.testBit p).toNat := by
  rw [Nat.testBit_eq_decide_div_mod_eq]
  rcases Nat.mod_two_eq_zero_or_one (c / 2 ^ p) with h | h <;> simp [h]
theorem bitsK_length (k o : Nat) : (bitsK k o).length = k := by simp [bitsK]
theorem bitsOf_length (cs : List Nat) : (bitsOf cs).length = 8 * cs.length := by
  induction cs with
  | nil => rfl
  | cons c cs ih =>
    have : bitsOf (c :: cs) = bitsK 8 c ++ bitsOf cs := by simp [bitsOf]
    rw [this, List.length_append, bitsK_length, ih, List.length_cons]; omega
theorem push_byte (w c : Nat) : ∀ p, pushByte w c p = pushN w (bitsK p c)
  | 0 => rfl
  | p + 1 => by
    rw [pushByte, push_byte w c p, bit_toNat]
    simp [pushN, bitsK, List.range_succ]
theorem push_all (cs : List Nat) : ∀ w, pushAll w cs = pushN w (bitsOf cs) := by
  induction cs with
  | nil => intro w; rfl
  | cons c cs ih =>
    intro w
    have e : bitsOf (c :: cs) = bitsK 8 c ++ bitsOf cs := by simp [bitsOf]
    have e2 : pushAll w (c :: cs) = pushAll (pushByte w c 8) cs := rfl
    rw [e2, ih, e, pushN, pushN, List.foldl_append, push_byte]; rfl
theorem pushN_cons (w : Nat) (b : Bool) (bs : List Bool) : pushN w (b :: bs) = pushN (2 * w + b.toNat) bs := rfl
theorem pushN_add (bs : List Bool) : ∀ w, pushN w bs = 2 ^ bs.length * w + pushN 0 bs := by
  induction bs with
  | nil => intro w; simp [pushN]
  | cons b bs ih =>
    intro w
    rw [pushN_cons, ih, pushN_cons, ih (2 * 0 + b.toNat), List.length_cons, Nat.pow_succ]
    have : 2 ^ bs.length * (2 * w + b.toNat) = 2 ^ bs.length * 2 * w + 2 ^ bs.length * b.toNat := by rw [Nat.mul_add, Nat.mul_assoc]
    have h2 : 2 ^ bs.length * (2 * 0 + b.toNat) = 2 ^ bs.length * b.toNat := by simp
    omega
theorem pushN_lt (bs : List Bool) : pushN 0 bs < 2 ^ bs.length := by
  induction bs with
  | nil => simp [pushN]
  | cons b bs ih =>
    rw [pushN_cons, pushN_add, List.length_cons, Nat.pow_succ]
    cases b <;> simp <;> omega
theorem stepN_lt {R : Nat} (b : Bool) : stepN R b < 2 ^ 32 := by
  unfold stepN
  refine Nat.xor_lt_two_pow (Nat.mod_lt _ (by decide)) ?_
  split <;> decide
theorem poly_bits : ∀ k < 32, Nat.testBit 4374732215 k = Nat.testBit 79764919 k := by decide
theorem poly_top : Nat.testBit 4374732215 32 = true := by decide
theorem poly_rev : ∀ i < 32, Nat.testBit 3988292384 i = Nat.testBit 79764919 (31 - i) := by decide

theorem stepN_bit {R : Nat} (b : Bool) (k : Nat) : (stepN R b).testBit k = ((decide (k < 32) && (decide (1 ≤ k) && R.testBit (k - 1))) ^^ (((R.testBit 31) != b) && Nat.testBit 79764919 k)) := by
  unfold stepN
  rw [Nat.testBit_xor, Nat.testBit_mod_two_pow, Nat.mul_comm 2 R, show R * 2 = R * 2 ^ 1 from rfl, Nat.testBit_mul_two_pow]
  cases (R.testBit 31 != b) <;> simp

theorem Wn_bit {R : Nat} (bs : List Bool) (j : Nat) : (Wn R bs).testBit j = ((decide (bs.length ≤ j) && R.testBit (j - bs.length)) ^^ (decide (32 ≤ j) && (pushN 0 bs).testBit (j - 32))) := by
  unfold Wn
  rw [Nat.testBit_xor, Nat.testBit_mul_two_pow, Nat.testBit_mul_two_pow]

theorem pushN_bit (b : Bool) (bs : List Bool) (k : Nat) : (pushN 0 (b :: bs)).testBit k = if k < bs.length then (pushN 0 bs).testBit k else (decide (k = bs.length) && b) := by
  rw [pushN_cons, pushN_add, Nat.testBit_two_pow_mul_add _ (pushN_lt bs)]
  split
  · rfl
  · have e : 2 * 0 + b.toNat = b.toNat := by simp
    rw [e]
    by_cases h : k = bs.length
    · subst h; cases b <;> simp
    · have h1 : b.toNat < 2 ^ (k - bs.length) := by
        have : (2 : Nat) ^ 1 ≤ 2 ^ (k - bs.length) := Nat.pow_le_pow_right (by decide) (by omega)
        cases b <;> simp <;> omega
      rw [Nat.testBit_lt_two_pow h1]
      simp [h]

theorem div_step {R : Nat} (hR : R < 2 ^ 32) (b : Bool) (bs : List Bool) : divStep (Wn R (b :: bs)) (bs.length + 32) = Wn (stepN R b) bs := by
  have hRb : ∀ k, 32 ≤ k → R.testBit k = false := fun k hk => Nat.testBit_lt_two_pow (Nat.lt_of_lt_of_le hR (Nat.pow_le_pow_right (by decide) hk))
  have hVb : ∀ k, bs.length ≤ k → (pushN 0 bs).testBit k = false := fun k hk => Nat.testBit_lt_two_pow (Nat.lt_of_lt_of_le (pushN_lt bs) (Nat.pow_le_pow_right (by decide) hk))
  have hG : ∀ k, 33 ≤ k → Nat.testBit 4374732215 k = false := fun k hk => Nat.testBit_lt_two_pow (Nat.lt_of_lt_of_le (show 4374732215 < 2 ^ 33 by decide) (Nat.pow_le_pow_right (by decide) hk))
  have hG' : ∀ k, 32 ≤ k → Nat.testBit 79764919 k = false := fun k hk => Nat.testBit_lt_two_pow (Nat.lt_of_lt_of_le (show 79764919 < 2 ^ 32 by decide) (Nat.pow_le_pow_right (by decide) hk))
  have top : (Wn R (b :: bs)).testBit (bs.length + 32) = ((R.testBit 31) != b) := by
    rw [Wn_bit, pushN_bit, List.length_cons, show bs.length + 32 - (bs.length + 1) = 31 by omega, show bs.length + 32 - 32 = bs.length by omega]
    simp
  have cond : (Wn R (b :: bs) / 2 ^ (bs.length + 32) % 2 = 1) ↔ ((R.testBit 31) != b) = true := by
    rw [← top, Nat.testBit_eq_decide_div_mod_eq]; simp
  have all : divStep (Wn R (b :: bs)) (bs.length + 32) = Wn R (b :: bs) ^^^ ((if ((R.testBit 31) != b) = true then 4374732215 else 0) * 2 ^ bs.length) := by
    unfold divStep
    by_cases h : ((R.testBit 31) != b) = true
    · rw [if_pos (cond.mpr h), if_pos h, show bs.length + 32 - 32 = bs.length by omega]
    · rw [if_neg (fun q => h (cond.mp q)), if_neg h]; simp
  rw [all]
  refine Nat.eq_of_testBit_eq fun j => ?_
  rw [Nat.testBit_xor, Wn_bit, Wn_bit, Nat.testBit_mul_two_pow, stepN_bit, List.length_cons]
  have eg : ∀ k, (if ((R.testBit 31) != b) = true then 4374732215 else 0 : Nat).testBit k = (((R.testBit 31) != b) && Nat.testBit 4374732215 k) := by
    intro k; cases (R.testBit 31 != b) <;> simp
  rw [eg]
  by_cases hj : j < bs.length
  · have a1 : decide (bs.length + 1 ≤ j) = false := decide_eq_false (by omega)
    have a2 : decide (bs.length ≤ j) = false := decide_eq_false (by omega)
    rw [a1, a2]
    by_cases h32 : 32 ≤ j
    · rw [pushN_bit, if_pos (by omega)]; simp
    · simp [h32]
  · have a2 : decide (bs.length ≤ j) = true := decide_eq_true (by omega)
    rw [a2]
    by_cases hk : j - bs.length < 32
    · have p1 := poly_bits (j - bs.length) hk
      have q1 : (decide (32 ≤ j) && (pushN 0 (b :: bs)).testBit (j - 32)) = (decide (32 ≤ j) && (pushN 0 bs).testBit (j - 32)) := by
        by_cases h32 : 32 ≤ j
        · rw [pushN_bit, if_pos (by omega)]
        · simp [h32]
      rw [q1, p1]
      have q2 : (decide (bs.length + 1 ≤ j) && R.testBit (j - (bs.length + 1))) = (decide (1 ≤ j - bs.length) && R.testBit (j - bs.length - 1)) := by
        have : decide (bs.length + 1 ≤ j) = decide (1 ≤ j - bs.length) := by
          by_cases h : bs.length + 1 ≤ j <;> simp [h] <;> omega
        rw [this, Nat.sub_add_eq]
      rw [q2]
      simp only [hk, decide_true, Bool.true_and]
      cases (decide (1 ≤ j - bs.length) && R.testBit (j - bs.length - 1)) <;> cases (decide (32 ≤ j) && (pushN 0 bs).testBit (j - 32)) <;> cases ((R.testBit 31 != b) && Nat.testBit 79764919 (j - bs.length)) <;> rfl
    · have hV : (pushN 0 bs).testBit (j - 32) = false := hVb _ (by omega)
      have d1 : decide (j - bs.length < 32) = false := decide_eq_false hk
      rw [hG' (j - bs.length) (by omega), hV, d1]
      have d2 : decide (bs.length + 1 ≤ j) = true := decide_eq_true (by omega)
      have d3 : decide (32 ≤ j) = true := decide_eq_true (by omega)
      rw [d2, d3, pushN_bit, if_neg (by omega)]
      by_cases h32 : j - bs.length = 32
      · have e1 : j - (bs.length + 1) = 31 := by omega
        have e2 : j - 32 = bs.length := by omega
        rw [h32, poly_top, e1, e2]
        cases R.testBit 31 <;> cases b <;> simp
      · rw [hRb _ (by omega), hG _ (by omega)]
        have : decide (j - 32 = bs.length) = false := decide_eq_false (by omega)
        rw [this]; simp

theorem div_all (bs : List Bool) : ∀ i, i ≤ bs.length → ∀ R, R < 2 ^ 32 → divN (Wn R bs) bs.length i = Wn ((bs.take i).foldl stepN R) (bs.drop i) ∧ (bs.take i).foldl stepN R < 2 ^ 32 := by
  intro i
  induction i with
  | zero => intro _ R hR; simpa [divN] using hR
  | succ i ih =>
    intro hi R hR
    obtain ⟨h1, h2⟩ := ih (by omega) R hR
    have hlt : i < bs.length := hi
    have ed : bs.drop i = bs[i] :: bs.drop (i + 1) := List.drop_eq_getElem_cons hlt
    have et : bs.take (i + 1) = bs.take i ++ [bs[i]] := by rw [List.take_add_one]; simp [hlt]
    rw [divN, h1, ed, et, List.foldl_append]
    have el : bs.length + 31 - i = (bs.drop (i + 1)).length + 32 := by rw [List.length_drop]; omega
    rw [el, div_step h2]
    exact ⟨rfl, stepN_lt _⟩

theorem whole_is (cs : List Nat) : wholeN cs = Wn (2 ^ 32 - 1) (bitsOf cs) := by
  unfold wholeN Wn
  rw [push_all, bitsOf_length, Nat.xor_comm]

def Refl (r R : Nat) : Prop := r < 2 ^ 32 ∧ R < 2 ^ 32 ∧ ∀ i, i < 32 → r.testBit i = R.testBit (31 - i)

theorem crcBit_bit (c i : Nat) : (crcBit c).testBit i = (c.testBit (i + 1) ^^ (c.testBit 0 && Nat.testBit 3988292384 i)) := by
  unfold crcBit
  rw [Nat.testBit_succ, Nat.testBit_zero]
  by_cases h : c % 2 = 1
  · rw [if_pos h, Nat.testBit_xor]; simp [h]
  · rw [if_neg h]; simp [h]
theorem crcBit_lt {c : Nat} (h : c < 2 ^ 32) : crcBit c < 2 ^ 32 := by
  unfold crcBit
  split
  · exact Nat.xor_lt_two_pow (by omega) (by decide)
  · omega
theorem crcN_lt {c : Nat} (h : c < 2 ^ 32) : ∀ n, crcN n c < 2 ^ 32
  | 0 => h
  | n + 1 => crcBit_lt (crcN_lt h n)
theorem xor_bit_lt {r : Nat} (h : r < 2 ^ 32) (b : Bool) : r ^^^ b.toNat < 2 ^ 32 := Nat.xor_lt_two_pow h (by cases b <;> decide)

theorem refl_step {r R : Nat} (h : Refl r R) (b : Bool) : Refl (crcBit (r ^^^ b.toNat)) (stepN R b) := by
  obtain ⟨h1, h2, h3⟩ := h
  refine ⟨crcBit_lt (xor_bit_lt h1 b), stepN_lt b, fun i hi => ?_⟩
  rw [crcBit_bit, stepN_bit, Nat.testBit_xor, Nat.testBit_xor, poly_rev i hi]
  have b0 : b.toNat.testBit 0 = b := by cases b <;> rfl
  have b1 : b.toNat.testBit (i + 1) = false := by
    refine Nat.testBit_lt_two_pow ?_
    have : (2 : Nat) ^ 1 ≤ 2 ^ (i + 1) := Nat.pow_le_pow_right (by decide) (by omega)
    cases b <;> simp <;> omega
  rw [b0, b1, h3 0 (by omega), show 31 - 0 = 31 from rfl]
  have e : r.testBit (i + 1) = (decide (1 ≤ 31 - i) && R.testBit (31 - i - 1)) := by
    by_cases q : i + 1 < 32
    · rw [h3 _ q, show 31 - (i + 1) = 31 - i - 1 by omega]
      simp [show 1 ≤ 31 - i by omega]
    · rw [Nat.testBit_lt_two_pow (Nat.lt_of_lt_of_le h1 (Nat.pow_le_pow_right (by decide) (by omega)))]
      simp [show ¬ (1 ≤ 31 - i) by omega]
  rw [e]
  have d : decide (31 - i < 32) = true := decide_eq_true (by omega)
  rw [d]
  cases R.testBit 31 <;> cases b <;> simp

theorem refl_all (bs : List Bool) : ∀ r R, Refl r R → Refl (bs.foldl (fun r b => crcBit (r ^^^ b.toNat)) r) (bs.foldl stepN R) := by
  induction bs with
  | nil => intro r R h; exact h
  | cons b bs ih => intro r R h; exact ih _ _ (refl_step h b)

theorem crc_split (r o : Nat) : crcBit (r ^^^ o) = crcBit (r ^^^ (o % 2)) ^^^ (o / 2) := by
  refine Nat.eq_of_testBit_eq fun i => ?_
  rw [crcBit_bit, Nat.testBit_xor, Nat.testBit_xor, Nat.testBit_xor, crcBit_bit, Nat.testBit_xor, Nat.testBit_xor, Nat.testBit_succ o, Nat.testBit_zero o, Nat.testBit_zero (o % 2), Nat.mod_mod]
  have e : (o % 2).testBit (i + 1) = false := by
    refine Nat.testBit_lt_two_pow (Nat.lt_of_lt_of_le (Nat.mod_lt _ (by decide)) ?_)
    have : (2 : Nat) ^ 1 ≤ 2 ^ (i + 1) := Nat.pow_le_pow_right (by decide) (by omega)
    omega
  rw [e]
  cases r.testBit (i + 1) <;> cases (o / 2).testBit i <;> cases ((r.testBit 0 ^^ decide (o % 2 = 1)) && Nat.testBit 3988292384 i) <;> rfl
theorem crcN_in : ∀ n c, crcN (n + 1) c = crcN n (crcBit c)
  | 0, _ => rfl
  | n + 1, c => by rw [crcN, crcN_in n c, crcN]
theorem bitsK_succ (k o : Nat) : bitsK (k + 1) o = decide (o % 2 = 1) :: bitsK k (o / 2) := by
  unfold bitsK
  rw [List.range_succ_eq_map, List.map_cons, List.map_map, Nat.testBit_zero]
  congr 1
  refine List.map_congr_left fun p _ => ?_
  exact Nat.testBit_succ o p
theorem crc_byte : ∀ k r o, o < 2 ^ k → crcN k (r ^^^ o) = (bitsK k o).foldl (fun r b => crcBit (r ^^^ b.toNat)) r
  | 0, r, o, h => by
    have : o = 0 := by simpa using h
    subst this; simp [crcN, bitsK]
  | k + 1, r, o, h => by
    rw [crcN_in, crc_split, bitsK_succ, List.foldl_cons, crc_byte k _ _ (by rw [Nat.pow_succ] at h; omega)]
    have e : (decide (o % 2 = 1)).toNat = o % 2 := by rcases Nat.mod_two_eq_zero_or_one o with q | q <;> simp [q]
    rw [e]
theorem run_bits (cs : List Nat) (h : ∀ c ∈ cs, c < 256) : ∀ r, runAll r cs = (bitsOf cs).foldl (fun r b => crcBit (r ^^^ b.toNat)) r := by
  induction cs with
  | nil => intro r; rfl
  | cons c cs ih =>
    intro r
    have e : bitsOf (c :: cs) = bitsK 8 c ++ bitsOf cs := by simp [bitsOf]
    have e2 : runAll r (c :: cs) = runAll (crcN 8 (r ^^^ c)) cs := rfl
    rw [e2, ih (fun x hx => h x (List.mem_cons_of_mem _ hx)), e, List.foldl_append, crc_byte 8 r c (h c (List.mem_cons_self ..))]
theorem told_bits (R : Nat) : ∀ p, toldN R p < 2 ^ p ∧ ∀ i, i < p → (toldN R p).testBit i = !(R.testBit (p - 1 - i))
  | 0 => by simp [toldN]
  | p + 1 => by
    obtain ⟨h1, h2⟩ := told_bits R p
    rw [toldN, bit_toNat]
    have e : 1 - (R.testBit p).toNat = (!(R.testBit p)).toNat := by cases R.testBit p <;> rfl
    rw [e]
    refine ⟨by rw [Nat.pow_succ]; cases (!(R.testBit p)) <;> simp <;> omega, fun i hi => ?_⟩
    cases i with
    | zero =>
      rw [Nat.testBit_zero]
      have : (2 * toldN R p + (!(R.testBit p)).toNat) % 2 = (!(R.testBit p)).toNat := by cases (!(R.testBit p)) <;> simp <;> omega
      rw [this]
      simp
    | succ i =>
      rw [Nat.testBit_succ]
      have : (2 * toldN R p + (!(R.testBit p)).toNat) / 2 = toldN R p := by cases (!(R.testBit p)) <;> simp <;> omega
      rw [this, h2 i (by omega)]
      congr 2
      omega
theorem seal_run (cs : List Nat) (h : ∀ c ∈ cs, c < 256) : sealN cs = runN cs := by
  have hd := div_all (bitsOf cs) (bitsOf cs).length (Nat.le_refl _) (2 ^ 32 - 1) (by decide)
  rw [List.take_length, List.drop_length] at hd
  have hr : Refl (2 ^ 32 - 1) (2 ^ 32 - 1) := ⟨by decide, by decide, by decide⟩
  have hf := refl_all (bitsOf cs) _ _ hr
  unfold sealN runN
  rw [whole_is, ← bitsOf_length, hd.1, run_bits cs h]
  have ew : ∀ R, Wn R [] = R := by intro R; simp [Wn, pushN]
  rw [ew]
  obtain ⟨h1, h2, h3⟩ := hf
  obtain ⟨t1, t2⟩ := told_bits ((bitsOf cs).foldl stepN (2 ^ 32 - 1)) 32
  refine Nat.eq_of_testBit_eq fun i => ?_
  by_cases hi : i < 32
  · rw [t2 i hi, Nat.testBit_xor, h3 i hi]
    have : Nat.testBit (2 ^ 32 - 1) i = true := by rw [Nat.testBit_two_pow_sub_one]; simp [hi]
    rw [this]; simp
  · rw [Nat.testBit_lt_two_pow (Nat.lt_of_lt_of_le t1 (Nat.pow_le_pow_right (by decide) (by omega))),
      Nat.testBit_lt_two_pow (Nat.lt_of_lt_of_le (Nat.xor_lt_two_pow h1 (show 2 ^ 32 - 1 < 2 ^ 32 by decide)) (Nat.pow_le_pow_right (by decide) (by omega)))]
theorem xor_and_nat (a : Nat) : ∀ b : Nat, (a ^^^ b) + 2 * (a &&& b) = a + b := by
  induction a using Nat.strongRecOn with
  | ind a ih =>
    intro b
    by_cases h0 : a = 0
    · subst h0; simp
    have h := ih (a / 2) (by omega) (b / 2)
    have e1 : (a ^^^ b) / 2 = a / 2 ^^^ b / 2 := Nat.xor_div_two
    have e2 : (a &&& b) / 2 = (a / 2) &&& (b / 2) := Nat.and_div_two
    have x1 := @Nat.xor_mod_two_eq_one a b
    have x2 := @Nat.and_mod_two_eq_one a b
    rw [← e1, ← e2] at h
    have c1 : (a ^^^ b) % 2 = 0 ∨ (a ^^^ b) % 2 = 1 := Nat.mod_two_eq_zero_or_one _
    have c2 : (a &&& b) % 2 = 0 ∨ (a &&& b) % 2 = 1 := Nat.mod_two_eq_zero_or_one _
    generalize (a ^^^ b) = x at *
    generalize (a &&& b) = y at *
    rcases Nat.mod_two_eq_zero_or_one a with ha | ha <;> rcases Nat.mod_two_eq_zero_or_one b with hb | hb <;> rcases c1 with c1 | c1 <;> rcases c2 with c2 | c2 <;> simp [ha, hb, c1, c2] at x1 x2 <;> omega

theorem bitAnd_nat (a b : Nat) : Builtin.bitAnd (a : Int) (b : Int) = ((a &&& b : Nat) : Int) := rfl
theorem bitXor_nat (a b : Nat) : Builtin.bitXor (a : Int) (b : Int) = ((a ^^^ b : Nat) : Int) := by
  rw [bitXor_and, bitAnd_nat]
  have := xor_and_nat a b
  omega
theorem fdiv_nat (a k : Nat) : (a : Int).fdiv ((2 : Int) ^ k) = ((a / 2 ^ k : Nat) : Int) := by
  rw [Int.fdiv_eq_ediv_of_nonneg _ (Int.le_of_lt (kbt_pos k)), ← kbt_cast]; rfl
end Mine
end
section -- LTold0
namespace Mine
open MeetsSeq MeetsSeq2 MeetsSeq3 SeqRoads2 SeqAt

structure Call1 where
  fresh : Int
  times : Int
  place : Int
  who : Str
inductive CallR (P : Know) : Value → Call1 → Prop where
  | mk {a : Addr} {f s p : Int} {x : Str} {t1 t2 t3 t4 : Tok} : P a (tupO [.int f t1, .int s t2, .int p t3, .str x t4]) → CallR P (.ref a) ⟨f, s, p, x⟩
inductive CallsR (P : Know) : Value → List Call1 → Prop where
  | mk {a : Addr} {vs : List Value} {cs : List Call1} {n : Nat} : P a (listO vs n) → Paired (CallR P) vs cs → CallsR P (.ref a) cs
inductive BookR (P : Know) : Value → List (List Call1) → Prop where
  | mk {a : Addr} {vs : List Value} {bs : List (List Call1)} {n : Nat} : P a (listO vs n) → Paired (CallsR P) vs bs → BookR P (.ref a) bs
theorem CallR.mono {P Q : Know} {v : Value} {c : Call1} (h : CallR P v c) (hs : ∀ a o, P a o → Q a o) : CallR Q v c := by
  cases h with
  | mk h => exact .mk (hs _ _ h)
theorem pmono {α β : Type} {F G : α → β → Prop} (h : ∀ a b, F a b → G a b) : ∀ {l₁ : List α} {l₂ : List β}, Paired F l₁ l₂ → Paired G l₁ l₂ := by
  intro _ _ p
  induction p with
  | nil => exact .nil
  | cons a _ ih => exact .cons (h _ _ a) ih
theorem CallsR.mono {P Q : Know} {v : Value} {cs : List Call1} (h : CallsR P v cs) (hs : ∀ a o, P a o → Q a o) : CallsR Q v cs := by
  cases h with
  | mk h1 h2 => exact .mk (hs _ _ h1) (pmono (fun _ _ h => h.mono hs) h2)
theorem BookR.mono {P Q : Know} {v : Value} {bs : List (List Call1)} (h : BookR P v bs) (hs : ∀ a o, P a o → Q a o) : BookR Q v bs := by
  cases h with
  | mk h1 h2 => exact .mk (hs _ _ h1) (pmono (fun _ _ h => h.mono hs) h2)

def leastOf (ss : List Int) : List Nat → Nat → Nat
  | [], b => b
  | a :: r, b => leastOf ss r (if Before ss a b then a else b)
def pairOf (ss : List Int) (k : Nat) : Int × Int := (ss.getD k 0, (k : Int))
theorem minP_least (ss : List Int) : ∀ (ks : List Nat) (k : Nat), minP (ks.map (pairOf ss)) (pairOf ss k) = pairOf ss (leastOf ss ks k)
  | [], _ => rfl
  | a :: r, k => by
    show minP (r.map (pairOf ss)) (if pairLt (pairOf ss a) (pairOf ss k) then pairOf ss a else pairOf ss k) = _
    have e : pairLt (pairOf ss a) (pairOf ss k) = Before ss a k := rfl
    rw [e, leastOf]
    split
    · exact minP_least ss r a
    · exact minP_least ss r k
theorem least_mem (ss : List Int) : ∀ (ks : List Nat) (k : Nat), leastOf ss ks k ∈ k :: ks
  | [], _ => .head _
  | a :: r, k => by
    rw [leastOf]
    split
    · exact .tail _ (least_mem ss r a)
    · rcases List.mem_cons.mp (least_mem ss r k) with h | h
      · rw [h]; exact .head _
      · exact .tail _ (.tail _ h)

def putOne : List (Str × Int) → Str → Int → List (Str × Int)
  | [], k, v => [(k, v)]
  | (k', v') :: r, k, v => if k' = k then (k', v) :: r else (k', v') :: putOne r k v
def tableOf (names : List Str) : List (Str × Int) := names.foldl (fun t n => putOne t n (names.count n : Nat)) []
def entOf (cs : List Call1) : Ent := ⟨(cs.map (·.fresh)).sum, cs.length, (cs.map (·.times)).sum, (cs.map (·.place)).sum, tableOf (cs.map (·.who))⟩
def toldT (ss : List Int) (bk : List (List Call1)) : Nat → List Nat → Tr
  | 0, _ => .nil
  | _ + 1, [] => .nil
  | n + 1, k0 :: ks =>
    .node (leastOf ss ks k0) (entOf (bk.getD (leastOf ss ks k0) [])) (toldT ss bk n ((k0 :: ks).take ((k0 :: ks).idxOf (leastOf ss ks k0)))) (toldT ss bk n ((k0 :: ks).drop ((k0 :: ks).idxOf (leastOf ss ks k0) + 1)))

section
variable {prog : Program} {w : World} {M : Model} {A : Around} {E : Value → Shared → Prop} {s : Shared} {h₀ : Heap} {L : Addr} {m : Str → Option Value} {news : List (Addr × Obj)}
theorem nameC_L {env : Env} {scope : Scope} {cl : List (Str × Addr)} {C : Addr} {x : Str} {pos : Pos} {v : Value} {m₃ : Str → Option Value} {Q : Value → Shared → Prop} (hn : s.heap.Ns C m₃) (hv : m₃ x = some v) (h : Q v s)
    (hk : scope.kind = .function) (hl : (compEnvC scope cl C env).kindOf x = some .local) (hd : (x == ("__debug__" : Str)) = false) : wpAny M A (eval (.Name x pos) (compEnvC scope cl C env)) Q E s :=
  wpAny_Name (wpAny_loadName_local (env := compEnvC scope cl C env) hk hl hn hv h) hd
theorem nameC_C {env : Env} {scope : Scope} {cl : List (Str × Addr)} {C c : Addr} {x : Str} {pos : Pos} {v : Value} {Q : Value → Shared → Prop} (hc : cl.lookup x = some c) (hv : s.heap.IsCell c (some v)) (h : Q v s)
    (hk : scope.kind = .function) (hl : (compEnvC scope cl C env).kindOf x = some .cell) (hd : (x == ("__debug__" : Str)) = false) : wpAny M A (eval (.Name x pos) (compEnvC scope cl C env)) Q E s :=
  wpAny_Name (wpAny_loadName_cell (env := compEnvC scope cl C env) hk hl hc hv h) hd

theorem eq_nil {l b : Addr} {vs : List Value} {Q : Value → Shared → Prop} (hl : s.heap.IsList l vs.toArray) (hb : s.heap.IsList b #[]) (hu : A.units < cLine) (h : Q (.bool vs.isEmpty) s) : wpAny (model prog w) A (compareOp .Eq (.ref l) (.ref b)) Q E s := by
  cases vs with
  | nil => exact eq_listAt (e := fun _ => true) hl hb rfl hu (fun j h1 _ => absurd h1 (Nat.not_lt_zero _)) h
  | cons v r => exact eq_list_lengthsAt hl hb (by simp) hu h

theorem comp_fr {h' : Heap} (F : Fr h₀ L s.heap m) (hst : s.heap.StaysIn h') : Fr h₀ L h' m := F.keeps hst
theorem comp_news {h' : Heap} {D : Addr} {o : Obj} {tl : List (Addr × Obj)} (F : Fr h₀ L s.heap m) (N : News h₀ L s.heap news) (hst : s.heap.StaysIn h') (hD : s.heap.get? D = none) (hD' : h'.get? D = some o)
    (htl : ∀ q ∈ tl, h'.get? q.1 = some q.2 ∧ s.heap.get? q.1 = none ∧ q.1 ≠ D) : News h₀ L h' ((D, o) :: (tl ++ news)) := by
  obtain ⟨oL, _, _, hoL, _⟩ := F.ns
  have key : ∀ a o, h'.get? a = some o → s.heap.get? a = none → h'.get? a = some o ∧ a ≠ L ∧ h₀.get? a = none := fun a o e n => by
    refine ⟨e, fun q => ?_, ?_⟩
    · rw [q, hoL] at n; cases n
    · cases q : h₀.get? a with
      | none => rfl
      | some o => rw [F.keep _ _ q] at n; cases n
  intro q hq
  rcases List.mem_cons.mp hq with rfl | hq
  · exact key _ _ hD' hD
  · rcases List.mem_append.mp hq with hq | hq
    · exact key _ _ (htl q hq).1 (htl q hq).2.1
    · exact ⟨hst _ _ (N q hq).1, (N q hq).2⟩
end
end Mine
end
section -- LTold1
namespace Mine
theorem IsCell.mono {h h' : Heap} {c : Addr} {v : Option Value} (hk : h.StaysIn h') (x : h.IsCell c v) : h'.IsCell c v := let ⟨o, e, d⟩ := x; ⟨o, hk _ _ e, d⟩
theorem pairs_of {h : Heap} {ss : List Int} {F : Value → Value → Prop} (hF : ∀ v y, F v y → ∃ k : Nat, ∃ tk T t u, v = .int (k : Int) tk ∧ y = .ref T ∧ h.get? T = some (tupO [.int (ss.getD k 0) t, .int k u])) :
    ∀ {row : List Nat} {rvs ys : List Value}, Paired F rvs ys → IntsAre rvs (row.map fun (k : Nat) => (k : Int)) → Paired (PairAt h) ys (row.map (pairOf ss))
  | [], _, _, hp, hi => by cases hi; cases hp; exact .nil
  | k0 :: kr, _, _, hp, hi => by
    obtain ⟨t0, vs', rfl, hi'⟩ := IntsAre.cons_inv hi
    cases hp with
    | cons h1 h2 =>
      obtain ⟨k, tk, T, t, u, e1, rfl, e3⟩ := hF _ _ h1
      have e9 := (Value.int.inj e1).1
      have : k = k0 := by have := e9; dsimp only at this; omega
      subst this
      exact .cons ⟨T, t, u, rfl, e3⟩ (pairs_of hF h2 hi')

def CallAt (h : Heap) (v : Value) (c : Call1) : Prop := ∃ a t1 t2 t3 t4, v = .ref a ∧ h.get? a = some (tupO [.int c.fresh t1, .int c.times t2, .int c.place t3, .str c.who t4])
theorem CallR.at {P : Know} {h : Heap} {v : Value} {c : Call1} (x : CallR P v c) (hP : ∀ a o, P a o → h.get? a = some o) : CallAt h v c := by
  cases x with
  | mk x => exact ⟨_, _, _, _, _, rfl, hP _ _ x⟩
theorem CallAt.uniq {h : Heap} {v : Value} {c d : Call1} (x : CallAt h v c) (y : CallAt h v d) : c = d := by
  obtain ⟨a, t1, t2, t3, t4, rfl, e⟩ := x
  obtain ⟨b, u1, u2, u3, u4, e1, e2⟩ := y
  cases e1
  rw [e] at e2
  have e3 := congrArg (fun o : Obj => o.data) (Option.some.inj e2)
  dsimp only at e3
  cases c; cases d
  simp at e3
  obtain ⟨⟨rfl, _⟩, ⟨rfl, _⟩, ⟨rfl, _⟩, rfl, _⟩ := e3
  rfl
theorem ints_of {h : Heap} {f : Call1 → Int} : ∀ {vs : List Value} {cs : List Call1} {ys : List Value}, Paired (CallAt h) vs cs → Paired (fun v y => ∃ c t, CallAt h v c ∧ y = .int (f c) t) vs ys → IntsAre ys (cs.map f) := by
  intro vs cs ys a b
  induction a generalizing ys with
  | nil => cases b; exact .nil
  | cons a _ ih =>
    cases b with
    | cons c d =>
      obtain ⟨c', t, h1, rfl⟩ := c
      exact h1.uniq a ▸ .cons _ _ (ih d)
theorem strs_of {h : Heap} {f : Call1 → Str} : ∀ {vs : List Value} {cs : List Call1} {ys : List Value}, Paired (CallAt h) vs cs → Paired (fun v y => ∃ c t, CallAt h v c ∧ y = .str (f c) t) vs ys → StrsAre ys (cs.map f) := by
  intro vs cs ys a b
  induction a generalizing ys with
  | nil => cases b; exact .nil
  | cons a _ ih =>
    cases b with
    | cons c d =>
      obtain ⟨c', t, h1, rfl⟩ := c
      exact h1.uniq a ▸ .cons _ _ (ih d)
theorem paired_getR {α β : Type} {F : α → β → Prop} : ∀ {l₁ : List α} {l₂ : List β}, Paired F l₁ l₂ → ∀ {j : Nat} {k : β}, l₂[j]? = some k → ∃ v, l₁[j]? = some v ∧ F v k := by
  intro _ _ h
  induction h with
  | nil => intro j v hv; exact absurd hv (fun e => nomatch e)
  | cons h t ih =>
    intro j v hv
    cases j with
    | zero => exact ⟨_, rfl, Option.some.inj hv ▸ h⟩
    | succ j => exact ih hv
theorem StrsAre.at {vs : List Value} {ns : List Str} (h : StrsAre vs ns) : ∀ {i : Nat} {v : Value}, vs[i]? = some v → ∃ n t, v = .str n t ∧ ns[i]? = some n := by
  induction h with
  | nil => intro i v e; cases i <;> cases e
  | cons y t h ih =>
    intro i v e
    cases i with
    | zero => cases e; exact ⟨_, _, rfl, rfl⟩
    | succ i => exact ih e
theorem count_str (k : Str) : ∀ ys : List Str, Spec.countIn (.str k) (ys.map PyData.str) = (ys.count k : Nat)
  | [] => rfl
  | y :: r => by
    rw [List.map_cons, Spec.countIn, count_str k r, List.count_cons]
    simp only [Spec.same]
    by_cases h : y = k
    · subst h; simp; omega
    · have : (y == k) = false := by simpa using h
      simp [this]
theorem idx_cast (k : Nat) : ∀ row : List Nat, (row.map fun (k : Nat) => (k : Int)).idxOf (k : Int) = row.idxOf k
  | [] => rfl
  | a :: r => by
    rw [List.map_cons, List.idxOf_cons, List.idxOf_cons, idx_cast k r]
    by_cases h : a = k
    · subst h; simp
    · have h1 : (a == k) = false := by simpa using h
      have h2 : ((a : Int) == (k : Int)) = false := by simp; omega
      rw [h1, h2]
theorem put_vals {kvs : List (Str × Value)} {cs : List (Str × Int)} (h : IntVals kvs cs) (hn : (kvs.map (·.1)).Nodup) (k : Str) (i : Int) (t : Tok) : IntVals (stored kvs k (.int i t)) (putOne cs k i) := by
  induction h with
  | nil => exact .cons .nil
  | cons h ih =>
    rename_i k' i' t' kvs' cs'
    have hn2 : k' ∉ kvs'.map (·.1) ∧ (kvs'.map (·.1)).Nodup := List.nodup_cons.mp hn
    by_cases e : k' = k
    · subst e
      have es : stored ((k', Value.int i' t') :: kvs') k' (.int i t) = (k', .int i t) :: kvs' := by
        unfold stored
        rw [if_pos (by simp), List.map_cons, if_pos rfl]
        congr 1
        conv => rhs; rw [← List.map_id kvs']
        refine List.map_congr_left fun kv hkv => ?_
        rw [if_neg]
        · rfl
        · intro q; exact hn2.1 (List.mem_map.mpr ⟨kv, hkv, q⟩)
      rw [es, putOne, if_pos rfl]
      exact .cons h
    · have es : stored ((k', Value.int i' t') :: kvs') k (.int i t) = (k', Value.int i' t') :: stored kvs' k (.int i t) := by
        unfold stored
        simp only [List.any_cons, e, decide_false, Bool.false_or]
        split
        · rw [List.map_cons, if_neg e]
        · rfl
      rw [es, putOne, if_neg e]
      exact .cons (ih hn2.2)
theorem stored_nodup {kvs : List (Str × Value)} {k : Str} {v : Value} (hn : (kvs.map (·.1)).Nodup) : ((stored kvs k v).map (·.1)).Nodup := by
  unfold stored
  split
  · have : (kvs.map fun kv => if kv.1 = k then (kv.1, v) else kv).map (·.1) = kvs.map (·.1) := by
      rw [List.map_map]
      refine List.map_congr_left fun kv _ => ?_
      show (if kv.1 = k then (kv.1, v) else kv).1 = kv.1
      split
      · rfl
      · rfl
    rw [this]; exact hn
  · rename_i h
    rw [List.map_append, List.nodup_append]
    refine ⟨hn, by simp, fun a ha b hb e => ?_⟩
    simp at hb
    subst hb; subst e
    obtain ⟨kv, h1, h2⟩ := List.mem_map.mp ha
    exact h (List.any_eq_true.mpr ⟨kv, h1, by simpa using h2⟩)
theorem stored_table {names : List Str} : ∀ {vs : List Value} {kvs : List (Str × Value)}, StoredAll (fun v k => ∃ t, v = .str k t) (fun v y => ∃ k t u, v = .str k t ∧ y = .int (names.count k : Nat) u) vs kvs →
    (kvs.map (·.1)).Nodup ∧ ∀ l, StrsAre vs l → IntVals kvs (l.foldl (fun t n => putOne t n (names.count n : Nat)) []) := by
  intro vs kvs h
  induction h with
  | nil => exact ⟨by simp, fun l hl => by cases hl; exact .nil⟩
  | @snoc l kvs v k y h hk hv ih =>
    obtain ⟨t, rfl⟩ := hk
    obtain ⟨k', t', u, e, rfl⟩ := hv
    have e9 := (Value.str.inj e).1
    subst e9
    refine ⟨stored_nodup ih.1, fun l' hl' => ?_⟩
    obtain ⟨l1, hl1, rfl⟩ : ∃ l1, StrsAre l l1 ∧ l' = l1 ++ [k] := by
      clear ih h
      induction l generalizing l' with
      | nil =>
        cases hl' with
        | cons y t h => cases h; exact ⟨[], .nil, rfl⟩
      | cons a r ih2 =>
        cases hl' with
        | cons y t h =>
          obtain ⟨l2, h2, rfl⟩ := ih2 _ h
          exact ⟨y :: l2, .cons _ _ h2, rfl⟩
    rw [List.foldl_append]
    exact put_vals (ih.2 _ hl1) ih.1 _ _ _
theorem row_lay0 : ∀ row : List Nat, (∀ k ∈ row, k < 6) → PyData.canLayAll0 ((row.map fun (k : Nat) => (k : Int)).map PyData.int) = true ∧ PyData.depthAll ((row.map fun (k : Nat) => (k : Int)).map PyData.int) = 0 ∧
    PyData.weightAll ((row.map fun (k : Nat) => (k : Int)).map PyData.int) ≤ 4 * row.length
  | [], _ => ⟨rfl, rfl, Nat.le_refl _⟩
  | k :: r, h => by
    obtain ⟨i1, i2, i3⟩ := row_lay0 r fun k hk => h k (.tail _ hk)
    have hw : ∀ k : Fin 6, PyData.weight (.int ((k.1 : Nat) : Int)) ≤ 3 := by decide
    have h1 := hw ⟨k, h k (.head _)⟩
    refine ⟨?_, ?_, ?_⟩
    · simp only [List.map_cons, PyData.canLayAll0, PyData.canLay0, i1, Bool.and_self]
    · simp only [List.map_cons, PyData.depthAll, PyData.depth, i2]; rfl
    · simp only [List.map_cons, PyData.weightAll, List.length_cons]
      dsimp only at h1
      omega
theorem row_lay {row : List Nat} (h : ∀ k ∈ row, k < 6) (hl : row.length ≤ 1000) : PyData.layable0 (.list ((row.map fun (k : Nat) => (k : Int)).map PyData.int)) = true := by
  obtain ⟨i1, i2, i3⟩ := row_lay0 row h
  unfold PyData.layable0
  rw [show PyData.canLay0 (.list ((row.map fun (k : Nat) => (k : Int)).map PyData.int)) = true from i1, show PyData.depth (.list ((row.map fun (k : Nat) => (k : Int)).map PyData.int)) = 0 + 1 from congrArg (· + 1) i2]
  refine Bool.and_eq_true_iff.mpr ⟨by decide, decide_eq_true ?_⟩
  show PyData.weightAll _ ≤ _
  omega
theorem isStr_mk {w : World} (x : Str) (t : Tok) : (kd w).is x (.str x t) = true := by show Value.isStrOf x (.str x t) = true; simp [Value.isStrOf]
theorem no_obj {b : Addr} {o : Obj} (e : (default : Heap).get? b = some o) : False := by
  unfold Heap.get? at e
  have : (default : Heap).objs[b]? = none := by
    have : (default : Heap).objs = #[] := rfl
    rw [this]; simp
  rw [this] at e
  cases e
theorem len_list_base {prog : Program} {w : World} {A : Around} {E : Value → Shared → Prop} {s : Shared} {l : Addr} {vs : List Value} {n : Nat} {Q : Value → Shared → Prop} (hl : s.heap.IsList l vs.toArray) (hn : vs.length = n) (hb : n ≤ 100)
    (h : Q (.int (n : Int) (s.toks + 1)) { s with toks := s.toks + 1 + 1 }) : wpAny (model prog w) A (call (.builtin "len") [.ref l]) Q E s :=
  Calls.call_len_list hl (by simp [hn]; omega) (by simpa [hn] using h)
end Mine
end
section -- LSort
namespace Mine

section
variable {κ : PyProof.Rows.KeyKind} {ps : Keyed → Nat} {a₀ : Array Keyed}
def GG (κ : PyProof.Rows.KeyKind) (ps : Keyed → Nat) (xs : Array Keyed) (i : Nat) : κ.α × Nat := (KK κ xs i, match xs[i]? with | some p => ps p | none => 0)
def rl (κ : PyProof.Rows.KeyKind) (a b : κ.α × Nat) : Prop := κ.klt a.1 b.1 ∨ (a.1 = b.1 ∧ a.2 < b.2)
theorem klt_trans {a b c : κ.α} (h1 : κ.klt a b) (h2 : κ.klt b c) : κ.klt a c := κ.trans _ _ _ h1 h2
theorem rl_trans {a b c : κ.α × Nat} (h1 : rl κ a b) (h2 : rl κ b c) : rl κ a c := by
  rcases h1 with h1 | ⟨e1, l1⟩ <;> rcases h2 with h2 | ⟨e2, l2⟩
  · exact .inl (klt_trans h1 h2)
  · exact .inl (e2 ▸ h1)
  · exact .inl (e1 ▸ h2)
  · exact .inr ⟨e1.trans e2, Nat.lt_trans l1 l2⟩
theorem rl_kle {a b : κ.α × Nat} (h : rl κ a b) : κ.kle a.1 b.1 := by
  rcases h with h | ⟨e, _⟩
  · exact KeyOrd.kle_of_klt h
  · rw [e]; exact KeyOrd.kle_refl _
theorem rl_of_kle {a b : κ.α × Nat} (h : κ.kle a.1 b.1) (hl : a.2 < b.2) : rl κ a b := by
  by_cases q : κ.klt a.1 b.1
  · exact .inl q
  · exact .inr ⟨KeyOrd.kle_antisymm h (KeyOrd.kle_of_not_klt q), hl⟩
theorem GG_congr {xs ys : Array Keyed} {i j : Nat} (h : xs[i]? = ys[j]?) : GG κ ps xs i = GG κ ps ys j := by unfold GG; rw [KK_congr h, h]
theorem GG_bubble {xs : Array Keyed} {src d : Nat} (hs : src < xs.size) (hd : d ≤ src) (k : Nat) :
    GG κ ps (bubble xs src d) k = if k = src - d then GG κ ps xs src else if src - d < k ∧ k ≤ src then GG κ ps xs (k - 1) else GG κ ps xs k := by
  have e := getElem?_bubble hs d hd k
  by_cases h1 : k = src - d
  · rw [if_pos h1] at e ⊢; exact GG_congr e
  · rw [if_neg h1] at e ⊢
    by_cases h2 : src - d < k ∧ k ≤ src
    · rw [if_pos h2] at e ⊢; exact GG_congr e
    · rw [if_neg h2] at e ⊢; exact GG_congr e
theorem GG_mirror {xs : Array Keyed} {i j : Nat} (hj : j ≤ xs.size) (k : Nat) :
    GG κ ps (mirror xs i j ((j - i) / 2)) k = if i ≤ k ∧ k < j then GG κ ps xs (i + j - 1 - k) else GG κ ps xs k := by
  have e := getElem?_mirror_all (i := i) hj k
  by_cases h1 : i ≤ k ∧ k < j
  · rw [if_pos h1] at e ⊢; exact GG_congr e
  · rw [if_neg h1] at e ⊢; exact GG_congr e

structure Sx (κ : PyProof.Rows.KeyKind) (ps : Keyed → Nat) (a₀ : Array Keyed) (st : SortSt) (m : Nat) : Prop where
  base : SBase a₀ st
  tail : ∀ k, m ≤ k → (arrOf st)[k]? = a₀[k]?
  low : ∀ k, k < m → (GG κ ps (arrOf st) k).2 < m
def Placed (ps : Keyed → Nat) (a₀ : Array Keyed) : Prop := ∀ k p, a₀[k]? = some p → ps p = k
theorem Sx.pos {st : SortSt} {m k : Nat} (S : Sx κ ps a₀ st m) (hp : Placed ps a₀) (hm : m ≤ k) (hk : k < a₀.size) : (GG κ ps (arrOf st) k).2 = k := by
  have e := S.tail k hm
  have e2 : a₀[k]? = some a₀[k] := getElem?_pos _ k hk
  unfold GG
  rw [e, e2]
  exact hp k _ e2
theorem Sx.succ {st : SortSt} {m : Nat} (S : Sx κ ps a₀ st m) (hp : Placed ps a₀) (hm : m < a₀.size) : Sx κ ps a₀ st (m + 1) :=
  ⟨S.base, fun k hk => S.tail k (by omega), fun k hk => by
    by_cases h : k < m
    · exact Nat.lt_succ_of_lt (S.low k h)
    · have : k = m := by omega
      subst this
      rw [S.pos hp (Nat.le_refl _) hm]; exact Nat.lt_succ_self _⟩
theorem Sx.mirror {st : SortSt} {m i j : Nat} (S : Sx κ ps a₀ st m) (hj : j ≤ m) (hm : m ≤ a₀.size) : Sx κ ps a₀ (setArr st (mirror (arrOf st) i j ((j - i) / 2))) m := by
  have hs := S.base.size
  refine ⟨S.base.setArr (mirror_perm _ _ _ _), fun k hk => ?_, fun k hk => ?_⟩
  · show (PyProof.Rows.mirror (arrOf st) i j ((j - i) / 2))[k]? = _
    rw [getElem?_mirror_all (by omega), if_neg (by omega)]
    exact S.tail k hk
  · show (GG κ ps (PyProof.Rows.mirror (arrOf st) i j ((j - i) / 2)) k).2 < m
    rw [GG_mirror (by omega)]
    split
    · exact S.low _ (by omega)
    · exact S.low _ hk
def Asc (κ : PyProof.Rows.KeyKind) (ps : Keyed → Nat) (xs : Array Keyed) (m : Nat) : Prop := ∀ i j, i < j → j < m → rl κ (GG κ ps xs i) (GG κ ps xs j)
def Desc (κ : PyProof.Rows.KeyKind) (ps : Keyed → Nat) (xs : Array Keyed) (m : Nat) : Prop := ∀ i j, i < j → j < m → rl κ (GG κ ps xs j) (GG κ ps xs i)
structure Dx (κ : PyProof.Rows.KeyKind) (ps : Keyed → Nat) (xs : Array Keyed) (x q : Nat) : Prop where
  d0 : q + 1 ≤ x
  d1 : ∀ i j, i < j → j < x - (q + 1) → rl κ (GG κ ps xs j) (GG κ ps xs i)
  d2 : ∀ i j, i < x - (q + 1) → x - (q + 1) ≤ j → j < x → κ.klt (GG κ ps xs j).1 (GG κ ps xs i).1
  d3 : ∀ i j, x - (q + 1) ≤ i → i < j → j < x → (GG κ ps xs i).1 = (GG κ ps xs j).1 ∧ (GG κ ps xs i).2 < (GG κ ps xs j).2
theorem Dx.desc0 {xs : Array Keyed} {x : Nat} (D : Dx κ ps xs x 0) : Desc κ ps xs x := fun i j hij hj => by
  have := D.d0
  by_cases h : j < x - 1
  · exact D.d1 i j hij h
  · exact .inl (D.d2 i j (by omega) (by omega) hj)
theorem Dx.desc {xs : Array Keyed} {x q : Nat} (D : Dx κ ps xs x q) (hx : x ≤ xs.size) : Desc κ ps (PyProof.Rows.mirror xs (x - (q + 1)) x ((x - (x - (q + 1))) / 2)) x := fun i j hij hj => by
  have := D.d0
  rw [GG_mirror hx, GG_mirror hx]
  by_cases h1 : x - (q + 1) ≤ i
  · rw [if_pos ⟨by omega, hj⟩, if_pos ⟨h1, by omega⟩]
    obtain ⟨e, l⟩ := D.d3 (x - (q + 1) + x - 1 - j) (x - (q + 1) + x - 1 - i) (by omega) (by omega) (by omega)
    exact .inr ⟨e, l⟩
  · rw [if_neg (c := x - (q + 1) ≤ i ∧ i < x) (by omega)]
    by_cases h2 : x - (q + 1) ≤ j
    · rw [if_pos ⟨h2, hj⟩]
      exact .inl (D.d2 i _ (by omega) (by omega) (by omega))
    · rw [if_neg (by omega)]
      exact D.d1 i j hij (by omega)
theorem Dx.last {xs : Array Keyed} {x q i : Nat} (D : Dx κ ps xs x q) (hi : i < x) : κ.kle (GG κ ps xs (x - 1)).1 (GG κ ps xs i).1 := by
  have := D.d0
  by_cases h1 : x - (q + 1) ≤ i
  · by_cases h2 : i = x - 1
    · rw [h2]; exact KeyOrd.kle_refl _
    · rw [(D.d3 i (x - 1) h1 (by omega) (by omega)).1]; exact KeyOrd.kle_refl _
  · exact KeyOrd.kle_of_klt (D.d2 i (x - 1) (by omega) (by omega) (by omega))
theorem Dx.keys {xs : Array Keyed} {x q : Nat} (D : Dx κ ps xs x q) (hx : x ≤ xs.size) (k : Nat) : (GG κ ps (PyProof.Rows.mirror xs (x - (q + 1)) x ((x - (x - (q + 1))) / 2)) k).1 = (GG κ ps xs k).1 := by
  have := D.d0
  rw [GG_mirror hx]
  split
  · rename_i h
    have key : ∀ a b, x - (q + 1) ≤ a → a < x → x - (q + 1) ≤ b → b < x → (GG κ ps xs a).1 = (GG κ ps xs b).1 := fun a b h1 h2 h3 h4 => by
      rcases Nat.lt_trichotomy a b with h | h | h
      · exact (D.d3 a b h1 h h4).1
      · rw [h]
      · exact (D.d3 b a h3 h h2).1.symm
    exact key _ _ (by omega) (by omega) (by omega) (by omega)
  · rfl
theorem Dx.start {xs : Array Keyed} {x : Nat} (h : Desc κ ps xs x) (hl : ∀ i, i < x → κ.klt (GG κ ps xs x).1 (GG κ ps xs i).1) : Dx κ ps xs (x + 1) 0 :=
  ⟨by omega, fun i j hij hj => h i j hij (by omega), fun i j hi h1 h2 => by
    have : j = x := by omega
    subst this
    exact hl i (by omega), fun i j h1 h2 h3 => by omega⟩
variable {prog : Program} {w : World} {A : Around} {E : Value → Shared → Prop} {s : Shared}
theorem asc_loop {st : SortSt} {a nrem : Nat} {Q : AscSt → SortSt → Prop} (hO : κ.OneLt) (h0 : PyProof.Rows.KeysOf κ a₀) (hp : Placed ps a₀) (hn : nrem ≤ a₀.size) (ha : 1 ≤ a) (han : a ≤ nrem) (S : Sx κ ps a₀ st a)
    (hs : Asc κ ps (arrOf st) a)
    (h : ∀ n, a ≤ n → n ≤ nrem → Sx κ ps a₀ st n → Asc κ ps (arrOf st) n → (n = nrem ∨ κ.klt (GG κ ps (arrOf st) n).1 (GG κ ps (arrOf st) (n - 1)).1) → Q (none, n) st) :
    wpS (model prog w) A E s (ascLoop a nrem) Q st := by
  unfold ascLoop
  refine wpS_forRange (I := fun x c st' => st' = st ∧ c = (none, x) ∧ Sx κ ps a₀ st x ∧ Asc κ ps (arrOf st) x) ?step ?fin ⟨rfl, rfl, S, hs⟩
  case fin =>
    rintro c st' ⟨rfl, rfl, S', hs'⟩
    rw [show max a nrem = nrem by omega] at S' hs' ⊢
    exact h nrem han (Nat.le_refl _) S' hs' (.inl rfl)
  case step =>
    rintro x c st' hax hxn ⟨rfl, rfl, S', hs'⟩
    dsimp only
    refine wpS_bind (wpS_ltKK hO S'.base h0 (by omega) (by omega) ?_)
    cases hless : κ.blt (KK κ (arrOf st') x) (KK κ (arrOf st') (x - 1))
    case true =>
      simp only [if_true]
      exact wpS_pure (h x hax (by omega) S' hs' (.inr hless))
    case false =>
      simp only [Bool.false_eq_true, if_false]
      refine wpS_pure ⟨rfl, rfl, S'.succ hp (by omega), fun i j hij hj => ?_⟩
      by_cases hjx : j < x
      · exact hs' i j hij hjx
      · have hj' : j = x := by omega
        subst hj'
        have key : rl κ (GG κ ps (arrOf st') (j - 1)) (GG κ ps (arrOf st') j) := rl_of_kle (show κ.kle _ _ from hless) (by
          rw [S'.pos hp (Nat.le_refl _) (by omega)]; exact S'.low _ (by omega))
        by_cases hi' : i = j - 1
        · subst hi'; exact key
        · exact rl_trans (hs' i (j - 1) (by omega) (by omega)) key
theorem tail_3 {st : SortSt} {n nrem : Nat} {Q : Option Nat → SortSt → Prop} (hO : κ.OneLt) (h0 : PyProof.Rows.KeysOf κ a₀) (hp : Placed ps a₀) (hn : nrem ≤ a₀.size) (h1 : 1 ≤ n) (hnn : n ≤ nrem) (S : Sx κ ps a₀ st n)
    (hs : Desc κ ps (arrOf st) n) (h : ∀ m st', 1 ≤ m → m ≤ nrem → Sx κ ps a₀ st' m → Asc κ ps (arrOf st') m → Q (some m) st') :
    wpS (model prog w) A E s (tail3 n nrem) Q st := by
  unfold tail3
  have hsz : n ≤ (arrOf st).size := by rw [S.base.size]; omega
  refine wpS_bind (wpS_reverse ?_)
  refine wpS_bind (asc_loop hO h0 hp hn h1 hnn (S.mirror (Nat.le_refl _) (by omega)) ?_ fun m hm1 hm2 S' hsm _ => wpS_pure (h m _ (by omega) hm2 S' hsm))
  intro i j hij hj
  show rl κ (GG κ ps (PyProof.Rows.mirror (arrOf st) 0 n ((n - 0) / 2)) i) (GG κ ps (PyProof.Rows.mirror (arrOf st) 0 n ((n - 0) / 2)) j)
  rw [GG_mirror hsz, GG_mirror hsz, if_pos (by omega), if_pos (by omega)]
  exact hs _ _ (by omega) (by omega)
theorem desc_loop {st : SortSt} {n nrem : Nat} {Q : DescSt → SortSt → Prop} (hO : κ.OneLt) (h0 : PyProof.Rows.KeysOf κ a₀) (hp : Placed ps a₀) (hn : nrem ≤ a₀.size) (h1 : 1 ≤ n) (hnn : n ≤ nrem) (S : Sx κ ps a₀ st n)
    (hs : Dx κ ps (arrOf st) n 0)
    (h : ∀ m q st', n ≤ m → m ≤ nrem → Sx κ ps a₀ st' m → Dx κ ps (arrOf st') m q → Q (none, m, q) st') :
    wpS (model prog w) A E s (descLoop n nrem) Q st := by
  unfold descLoop
  refine wpS_forRange (I := fun x c st' => ∃ q, c = (none, x, q) ∧ Sx κ ps a₀ st' x ∧ Dx κ ps (arrOf st') x q) ?step ?fin ⟨0, rfl, S, hs⟩
  case fin =>
    rintro c st' ⟨q, rfl, S', D⟩
    rw [show max n nrem = nrem by omega] at S' D ⊢
    exact h nrem q st' hnn (Nat.le_refl _) S' D
  case step =>
    rintro x c st' hax hxn ⟨q, rfl, S', D⟩
    dsimp only
    have hsz : x ≤ (arrOf st').size := by rw [S'.base.size]; omega
    have h00 := D.d0
    refine wpS_bind (wpS_ltKK hO S'.base h0 (by omega) (by omega) ?_)
    cases hless : κ.blt (KK κ (arrOf st') x) (KK κ (arrOf st') (x - 1))
    case true =>
      simp only [if_true]
      have below : ∀ i, i < x → κ.klt (GG κ ps (arrOf st') x).1 (GG κ ps (arrOf st') i).1 := fun i hi => KeyOrd.klt_of_klt_of_kle hless (D.last hi)
      by_cases hq : q > 0
      · rw [if_pos hq]
        refine wpS_bind (wpS_reverse (wpS_pure ⟨0, rfl, (S'.mirror (Nat.le_refl _) (by omega)).succ hp (by omega), Dx.start (D.desc hsz) fun i hi => ?_⟩))
        show κ.klt (GG κ ps (PyProof.Rows.mirror _ _ _ _) x).1 (GG κ ps (PyProof.Rows.mirror _ _ _ _) i).1
        rw [D.keys hsz, D.keys hsz]
        exact below i hi
      · rw [if_neg hq]
        have : q = 0 := by omega
        subst this
        exact wpS_pure ⟨0, rfl, S'.succ hp (by omega), Dx.start D.desc0 below⟩
    case false =>
      simp only [Bool.false_eq_true, if_false]
      refine wpS_bind (wpS_ltKK hO S'.base h0 (by omega) (by omega) ?_)
      cases hlarger : κ.blt (KK κ (arrOf st') (x - 1)) (KK κ (arrOf st') x)
      case true =>
        simp only [if_true]
        exact wpS_pure (h x q st' hax (by omega) S' D)
      case false =>
        simp only [Bool.false_eq_true, if_false]
        have heqx : (GG κ ps (arrOf st') x).1 = (GG κ ps (arrOf st') (x - 1)).1 := KeyOrd.kle_antisymm hlarger hless
        refine wpS_pure ⟨q + 1, rfl, S'.succ hp (by omega), ⟨by omega, fun i j hij hj => D.d1 i j hij (by omega), fun i j hi h1 h2 => ?_, fun i j h1 h2 h3 => ?_⟩⟩
        · by_cases hjx : j < x
          · exact D.d2 i j (by omega) (by omega) hjx
          · have : j = x := by omega
            subst this
            rw [heqx]
            exact D.d2 i (j - 1) (by omega) (by omega) (by omega)
        · by_cases hjx : j < x
          · exact D.d3 i j (by omega) h2 hjx
          · have : j = x := by omega
            subst this
            refine ⟨?_, by rw [S'.pos hp (Nat.le_refl _) (by omega)]; exact S'.low i h2⟩
            rw [heqx]
            by_cases hi' : i = j - 1
            · rw [hi']
            · exact (D.d3 i (j - 1) (by omega) (by omega) (by omega)).1
theorem desc_part {st : SortSt} {n nrem : Nat} {Q : Option Nat → SortSt → Prop} (hO : κ.OneLt) (h0 : PyProof.Rows.KeysOf κ a₀) (hp : Placed ps a₀) (hn : nrem ≤ a₀.size) (hnn : n + 1 ≤ nrem) (S : Sx κ ps a₀ st (n + 1))
    (hs : Dx κ ps (arrOf st) (n + 1) 0) (h : ∀ m st', 1 ≤ m → m ≤ nrem → Sx κ ps a₀ st' m → Asc κ ps (arrOf st') m → Q (some m) st') :
    wpS (model prog w) A E s (descPart n nrem) Q st := by
  unfold descPart
  refine wpS_bind (wpS_lift (wpAny_rule ⟨rfl, ?_⟩))
  refine wpS_bind (desc_loop hO h0 hp hn (by omega) hnn S hs fun m q st' hm1 hm2 S' D => ?_)
  dsimp only
  have hsz : m ≤ (arrOf st').size := by rw [S'.base.size]; omega
  by_cases hq : q > 0
  · rw [if_pos hq]
    exact wpS_bind (wpS_reverse (tail_3 hO h0 hp hn (by omega) hm2 (S'.mirror (Nat.le_refl _) (by omega)) (D.desc hsz) h))
  · rw [if_neg hq]
    have : q = 0 := by omega
    subst this
    exact tail_3 hO h0 hp hn (by omega) hm2 S' D.desc0 h
theorem count_run {st : SortSt} {nrem : Nat} {Q : Option Nat → SortSt → Prop} (hO : κ.OneLt) (h0 : PyProof.Rows.KeysOf κ a₀) (hp : Placed ps a₀) (hn : nrem ≤ a₀.size) (h1 : 1 ≤ nrem) (hB : SBase a₀ st) (ha : arrOf st = a₀)
    (h : ∀ m st', 1 ≤ m → m ≤ nrem → Sx κ ps a₀ st' m → Asc κ ps (arrOf st') m → Q (some m) st') :
    wpS (model prog w) A E s (countRun' 0 nrem) Q st := by
  rw [countRun0_eq]
  have S1 : Sx κ ps a₀ st 1 := Sx.succ (m := 0) ⟨hB, fun k _ => by rw [ha], fun k hk => absurd hk (Nat.not_lt_zero _)⟩ hp (by omega)
  refine wpS_bind (asc_loop hO h0 hp hn (Nat.le_refl 1) h1 S1 (fun i j hij hj => by omega) fun n hn1 hn2 S hsn hor => ?_)
  dsimp only
  by_cases hnn : n = nrem
  · rw [if_pos (by simpa using hnn)]
    exact wpS_pure (h n st hn1 hn2 S hsn)
  · rw [if_neg (by simpa using hnn)]
    have hlt : κ.klt (GG κ ps (arrOf st) n).1 (GG κ ps (arrOf st) (n - 1)).1 := hor.resolve_left hnn
    by_cases hgt : n > 1
    · rw [if_pos hgt]
      refine wpS_bind (wpS_ltKK hO hB h0 (by omega) (by omega) ?_)
      cases hrose : κ.blt (KK κ (arrOf st) 0) (KK κ (arrOf st) (n - 1))
      case true =>
        simp only [if_true]
        exact wpS_pure (h n st hn1 hn2 S hsn)
      case false =>
        simp only [Bool.false_eq_true, if_false]
        have hsz : n ≤ (arrOf st).size := by rw [hB.size]; omega
        have hall : ∀ k, k < n → (GG κ ps (arrOf st) k).1 = (GG κ ps (arrOf st) (n - 1)).1 := by
          intro k hk
          have a1 : κ.kle (GG κ ps (arrOf st) 0).1 (GG κ ps (arrOf st) k).1 := by
            by_cases hk0 : k = 0
            · rw [hk0]; exact KeyOrd.kle_refl _
            · exact rl_kle (hsn 0 k (by omega) hk)
          have a2 : κ.kle (GG κ ps (arrOf st) k).1 (GG κ ps (arrOf st) (n - 1)).1 := by
            by_cases hk0 : k = n - 1
            · rw [hk0]; exact KeyOrd.kle_refl _
            · exact rl_kle (hsn k (n - 1) (by omega) (by omega))
          exact KeyOrd.kle_antisymm a2 (KeyOrd.kle_trans hrose a1)
        have D0 : Dx κ ps (arrOf st) n (n - 1) := ⟨by omega, fun i j _ hj => by omega, fun i j hi _ _ => by omega, fun i j _ hij hj => ⟨(hall i (by omega)).trans (hall j hj).symm, by
          rcases hsn i j hij hj with q | ⟨_, q⟩
          · rw [show (GG κ ps (arrOf st) i).1 = (GG κ ps (arrOf st) j).1 from (hall i (by omega)).trans (hall j hj).symm] at q
            have q' : κ.blt (GG κ ps (arrOf st) j).1 (GG κ ps (arrOf st) j).1 = true := q
            rw [κ.irrefl] at q'; cases q'
          · exact q⟩⟩
        have e0 : n - (n - 1 + 1) = 0 := by omega
        have D1 := D0.desc hsz
        have D2 := D0.keys hsz
        rw [e0] at D1 D2
        refine wpS_bind (wpS_reverse (desc_part hO h0 hp hn (by omega) ((S.mirror (Nat.le_refl _) (by omega)).succ hp (by omega)) (Dx.start D1 fun i hi => ?_) h))
        show κ.klt (GG κ ps (PyProof.Rows.mirror (arrOf st) 0 n ((n - 0) / 2)) n).1 (GG κ ps (PyProof.Rows.mirror (arrOf st) 0 n ((n - 0) / 2)) i).1
        rw [D2, D2, hall i hi]
        exact hlt
    · rw [if_neg hgt]
      have hn1' : n = 1 := by omega
      subst hn1'
      refine desc_part hO h0 hp hn (by omega) (S.succ hp (by omega)) (Dx.start (fun i j hij hj => by omega) fun i hi => ?_) h
      have : i = 0 := by omega
      subst this
      exact hlt
theorem binary_sort {st : SortSt} {n ok : Nat} {Q : Bool → SortSt → Prop} (hO : κ.OneLt) (h0 : PyProof.Rows.KeysOf κ a₀) (hp : Placed ps a₀) (hn : n ≤ a₀.size) (hok : ok ≤ n) (hok1 : 1 ≤ ok) (S : Sx κ ps a₀ st ok)
    (hs : Asc κ ps (arrOf st) ok)
    (h : ∀ st', Sx κ ps a₀ st' n → Asc κ ps (arrOf st') n → Q true st') : wpS (model prog w) A E s (binarySort' 0 n ok) Q st := by
  rw [binarySort'_eq]
  simp only [Nat.zero_add]
  refine wpS_bind (wpS_mono (wpS_forRange (I := fun k c st' => c = (none, ()) ∧ Sx κ ps a₀ st' (min k n) ∧ Asc κ ps (arrOf st') (min k n))
    (Q := fun c st' => c = (none, ()) ∧ Sx κ ps a₀ st' n ∧ Asc κ ps (arrOf st') n) ?step ?fin ?init) ?post)
  case post =>
    rintro c st' ⟨rfl, S', hs'⟩
    exact wpS_pure (h st' S' hs')
  case init =>
    rw [show min (max ok 1) n = ok by omega]
    exact ⟨rfl, S, hs⟩
  case fin =>
    rintro c st' ⟨hc, S', hs'⟩
    rw [show min (max (max ok 1) n) n = n by omega] at S' hs'
    exact ⟨hc, S', hs'⟩
  case step =>
    rintro k c st' hak hkn ⟨rfl, S', hs'⟩
    rw [show min k n = k by omega] at S' hs'
    have hk : k < a₀.size := by omega
    refine wpS_bind (wpS_mono (wpS_forRange (I := fun x c st'' => st'' = st' ∧ ∃ l r, c = (none, l, r) ∧ l ≤ r ∧ r ≤ k ∧ r - l ≤ k - x ∧
        (∀ i, i < l → κ.kle (GG κ ps (arrOf st') i).1 (GG κ ps (arrOf st') k).1) ∧ (∀ i, r ≤ i → i < k → κ.klt (GG κ ps (arrOf st') k).1 (GG κ ps (arrOf st') i).1))
      (Q := fun c st'' => st'' = st' ∧ ∃ l r, c = (none, l, r) ∧ l ≤ k ∧
        (∀ i, i < l → κ.kle (GG κ ps (arrOf st') i).1 (GG κ ps (arrOf st') k).1) ∧ (∀ i, l ≤ i → i < k → κ.klt (GG κ ps (arrOf st') k).1 (GG κ ps (arrOf st') i).1)) ?istep ?ifin ?iinit) ?ipost)
    case iinit => exact ⟨rfl, 0, k, rfl, by omega, by omega, by omega, fun i hi => by omega, fun i h1 h2 => by omega⟩
    case ifin =>
      rintro c st'' ⟨rfl, l, r, rfl, hlr, hrk, hm, hlo, hhi⟩
      have : l = r := by omega
      subst this
      exact ⟨rfl, l, l, rfl, hrk, hlo, hhi⟩
    case istep =>
      rintro x c st'' _ hxk ⟨rfl, l, r, rfl, hlr, hrk, hm, hlo, hhi⟩
      dsimp only
      by_cases hge : l ≥ r
      · rw [if_pos hge]
        have : l = r := by omega
        subst this
        exact wpS_pure ⟨rfl, l, l, rfl, hrk, hlo, hhi⟩
      · rw [if_neg hge]
        have hm1 : l ≤ (l + r) / 2 := by omega
        have hm2 : (l + r) / 2 < r := by omega
        generalize (l + r) / 2 = md at hm1 hm2 ⊢
        have mono : ∀ i j, i ≤ j → j < k → κ.kle (GG κ ps (arrOf st'') i).1 (GG κ ps (arrOf st'') j).1 := fun i j hij hj => by
          by_cases e : i = j
          · rw [e]; exact KeyOrd.kle_refl _
          · exact rl_kle (hs' i j (by omega) hj)
        refine wpS_bind (wpS_ltKK hO S'.base h0 hk (by omega) ?_)
        cases hless : κ.blt (KK κ (arrOf st'') k) (KK κ (arrOf st'') md)
        case true =>
          simp only [if_true]
          exact wpS_pure ⟨rfl, l, md, rfl, hm1, Nat.le_trans (Nat.le_of_lt hm2) hrk, by omega, hlo, fun i h1 h2 => KeyOrd.klt_of_klt_of_kle hless (mono _ _ h1 h2)⟩
        case false =>
          simp only [Bool.false_eq_true, if_false]
          exact wpS_pure ⟨rfl, md + 1, r, rfl, hm2, hrk, by omega, fun i h1 => KeyOrd.kle_trans (mono i md (Nat.le_of_lt_succ h1) (Nat.lt_of_lt_of_le hm2 hrk)) (show κ.kle _ _ from hless), hhi⟩
    case ipost =>
      rintro c st'' ⟨rfl, l, r, rfl, hlk, hlo, hhi⟩
      show wpS _ _ _ _ (do moveDown' k l; pure (ForInStep.yield (none, ()))) _ _
      rw [moveDown'_eq]
      have hks : k < (arrOf st'').size := by rw [S'.base.size]; exact hk
      have hpos := S'.pos hp (Nat.le_refl _) hk
      refine wpS_bind (wpS_modify (wpS_pure ⟨rfl, ?_, ?_⟩))
      · rw [show min (k + 1) n = k + 1 by omega]
        refine ⟨S'.base.setArr (bubble_perm _ _ _), fun j hj => ?_, fun j hj => ?_⟩
        · show (bubble (arrOf st'') k (k - l))[j]? = _
          rw [getElem?_bubble hks _ (by omega), if_neg (by omega), if_neg (by omega)]
          exact S'.tail j (by omega)
        · show (GG κ ps (bubble (arrOf st'') k (k - l)) j).2 < k + 1
          rw [GG_bubble hks (by omega)]
          repeat' split
          · rw [hpos]; exact Nat.lt_succ_self _
          · exact Nat.lt_succ_of_lt (S'.low _ (by omega))
          · exact Nat.lt_succ_of_lt (S'.low _ (by omega))
      · rw [show min (k + 1) n = k + 1 by omega]
        intro i j hij hj
        show rl κ (GG κ ps (bubble (arrOf st'') k (k - l)) i) (GG κ ps (bubble (arrOf st'') k (k - l)) j)
        rw [GG_bubble hks (by omega), GG_bubble hks (by omega), show k - (k - l) = l by omega]
        have lo' : ∀ i, i < l → rl κ (GG κ ps (arrOf st'') i) (GG κ ps (arrOf st'') k) := fun i hi => rl_of_kle (hlo i hi) (by rw [hpos]; exact S'.low i (by omega))
        have hi' : ∀ i, l ≤ i → i < k → rl κ (GG κ ps (arrOf st'') k) (GG κ ps (arrOf st'') i) := fun i h1 h2 => .inl (hhi i h1 h2)
        repeat' split
        all_goals first
          | (exfalso; omega)
          | exact lo' _ (by omega)
          | exact hi' _ (by omega) (by omega)
          | exact hs' _ _ (by omega) (by omega)
theorem sort_runs {st : SortSt} {Q : Unit → SortSt → Prop} (hO : κ.OneLt) (h0 : PyProof.Rows.KeysOf κ a₀) (hp : Placed ps a₀) (hB : SBase a₀ st) (ha : arrOf st = a₀) (h2 : 2 ≤ a₀.size) (h64 : a₀.size < 64)
    (h : ∀ st', (arrOf st').Perm a₀ → failedOf st' = none → Asc κ ps (arrOf st') a₀.size → Q () st') : wpS (model prog w) A E s sortRuns' Q st := by
  rw [sortRuns'_eq]
  refine wpS_bind (wpS_get ?_)
  dsimp only
  have hmr : minRun' a₀.size a₀.size 0 = a₀.size := by
    obtain ⟨f, hf⟩ : ∃ f, a₀.size = f + 1 := ⟨a₀.size - 1, by omega⟩
    have : minRun' (f + 1) a₀.size 0 = a₀.size := by rw [minRun'_succ, if_pos h64]; rfl
    rwa [← hf] at this
  simp only [hB.size, hmr]
  have fin_ : ∀ st' : SortSt, Sx κ ps a₀ st' a₀.size → Asc κ ps (arrOf st') a₀.size → (arrOf (setPending st' ((pendingOf st').push (0, a₀.size, 0)))).Perm a₀ ∧ failedOf (setPending st' ((pendingOf st').push (0, a₀.size, 0))) = none ∧
      pendingOf (setPending st' ((pendingOf st').push (0, a₀.size, 0))) = #[(0, a₀.size, 0)] ∧ Asc κ ps (arrOf (setPending st' ((pendingOf st').push (0, a₀.size, 0)))) a₀.size := fun st' S hs =>
    ⟨S.base.perm, S.base.failed, by show (pendingOf st').push _ = _; rw [S.base.pend]; rfl, hs⟩
  refine wpS_bind (wpS_mono (wpS_forRange
    (I := fun x c st' => (x = 0 ∧ c = (none, 0) ∧ st' = st) ∨ (1 ≤ x ∧ c = (none, a₀.size) ∧ (arrOf st').Perm a₀ ∧ failedOf st' = none ∧ pendingOf st' = #[(0, a₀.size, 0)] ∧ Asc κ ps (arrOf st') a₀.size))
    (Q := fun c st' => c = (none, a₀.size) ∧ (arrOf st').Perm a₀ ∧ failedOf st' = none ∧ pendingOf st' = #[(0, a₀.size, 0)] ∧ Asc κ ps (arrOf st') a₀.size) ?step ?fin (.inl ⟨rfl, rfl, rfl⟩)) ?post)
  case fin =>
    rintro c st' (⟨hx, _, _⟩ | ⟨_, hc, hD⟩)
    · omega
    · exact ⟨hc, hD⟩
  case step =>
    rintro x c st' _ hx (⟨rfl, rfl, rfl⟩ | ⟨hx1, rfl, hD⟩)
    · dsimp only
      rw [if_neg (by omega)]
      simp only [Nat.sub_zero, Nat.min_self, Nat.zero_add]
      refine wpS_bind (count_run hO h0 hp (Nat.le_refl _) (by omega) hB ha fun m st2 hm1 hm2 S2 hs2 => ?_)
      dsimp only
      by_cases hlt : m < a₀.size
      · rw [if_pos hlt]
        refine wpS_bind (wpS_lift (wpAny_rule ⟨rfl, ?_⟩))
        refine wpS_bind (binary_sort hO h0 hp (Nat.le_refl _) hm2 hm1 S2 hs2 fun st3 S3 hs3 => ?_)
        simp only [Bool.not_true, Bool.false_eq_true, if_false]
        refine wpS_bind (wpS_get ?_)
        have hb : (pendingOf st3).back? = none := by rw [S3.base.pend]; rfl
        rw [hb]
        dsimp only
        exact wpS_bind (wpS_modify (wpS_pure (.inr ⟨by omega, rfl, fin_ st3 S3 hs3⟩)))
      · rw [if_neg hlt]
        have hm : m = a₀.size := by omega
        subst hm
        refine wpS_bind (wpS_get ?_)
        have hb : (pendingOf st2).back? = none := by rw [S2.base.pend]; rfl
        rw [hb]
        dsimp only
        exact wpS_bind (wpS_modify (wpS_pure (.inr ⟨by omega, rfl, fin_ st2 S2 hs2⟩)))
    · dsimp only
      rw [if_pos (Nat.le_refl _)]
      exact wpS_pure ⟨rfl, hD⟩
  case post =>
    rintro c st' ⟨rfl, hD⟩
    dsimp only
    refine wpS_bind (wpS_mono (wpS_forRange (I := fun _ c st'' => st'' = st' ∧ c = (none, ())) (Q := fun c st'' => st'' = st' ∧ c = (none, ())) ?_ (fun _ _ hh => hh) ⟨rfl, rfl⟩) ?_)
    · rintro x c st'' _ _ ⟨rfl, rfl⟩
      refine wpS_bind (wpS_get ?_)
      rw [if_pos (by rw [hD.2.2.1]; exact Nat.le_refl 1)]
      exact wpS_pure ⟨rfl, rfl⟩
    · rintro c st'' ⟨rfl, rfl⟩
      exact wpS_pure (h _ hD.1 hD.2.1 hD.2.2.2)
end
end Mine
end
section -- LSortK
set_option maxRecDepth 100000
set_option maxHeartbeats 4000000
namespace Mine

structure KeyOk (κ : PyProof.Rows.KeyKind) : Prop where
  one : κ.OneLt
  kind : ∀ keys : Array Value, 2 ≤ keys.size → (∀ (i : Nat) (v : Value), keys[i]? = some v → ∃ a, κ.keyOf v = some a) → keyKind' keys = pure oneType'

def KeysTo (κ : PyProof.Rows.KeyKind) (kz : Nat → κ.α) (keys : Array Value) (j : Nat) : Prop := keys.size = j ∧ ∀ (i : Nat) (v : Value), keys[i]? = some v → κ.keyOf v = some (kz i)
def KeyEnd (h₀ : Heap) (L : Addr) (m : Str → Option Value) (need : List (Addr × Obj)) (K : Value → Prop) (s₁ : Shared) (v : Value) (s₂ : Shared) : Prop :=
  ∃ h' tk, s₂ = { s₁ with heap := h', toks := tk } ∧ K v ∧ Fr h₀ L h' m ∧ News h₀ L h' need
theorem KeyEnd.intro {h₀ h' : Heap} {L : Addr} {m : Str → Option Value} {need news' : List (Addr × Obj)} {K : Value → Prop} {s₁ : Shared} {v : Value} {tk : Nat} (F : Fr h₀ L h' m) (N : News h₀ L h' news') (hn : ∀ p ∈ need, p ∈ news') (hk : K v) :
    KeyEnd h₀ L m need K s₁ v { s₁ with heap := h', toks := tk } := ⟨h', tk, rfl, hk, F, fun p hp => N p (hn p hp)⟩
def Sorted1 (κ : PyProof.Rows.KeyKind) (kz : Nat → κ.α) (b : Bool) (n : Nat) (σ : List Nat) : Prop :=
  σ.Perm (List.range n) ∧ σ.Pairwise (fun i j => (if b = true then κ.klt (kz j) (kz i) else κ.klt (kz i) (kz j)) ∨ (kz i = kz j ∧ i < j))

section
variable {prog : Program} {w : World} {A : Around} {E : Value → Shared → Prop} {s : Shared} {h₀ : Heap} {L : Addr} {m : Str → Option Value} {news : List (Addr × Obj)} {a kS : Addr} {b : Bool} {vs : List Value} {keys : Array Value} {e e1 : Nat} {P : PySem.Fin → Shared → Prop}
  {κ : PyProof.Rows.KeyKind} {kz : Nat → κ.α} {idx : Value → Nat}

theorem zip_at {keys : Array Value} {vs : List Value} {i : Nat} {p : Keyed} (h : (keys.zip vs.toArray)[i]? = some p) : keys[i]? = some p.1 ∧ vs[i]? = some p.2 := by
  obtain ⟨x, y⟩ := p
  have := Array.getElem?_zip_eq_some.mp h
  simpa using this
theorem start_ok (hk : KeysTo κ kz keys vs.length) (hidx : ∀ (i : Nat) (v : Value), vs[i]? = some v → idx v = i) :
    Placed (fun p => if b = true then vs.length - 1 - idx p.2 else idx p.2) (if b = true then (keys.zip vs.toArray).reverse else keys.zip vs.toArray) := by
  intro k p hp
  have hsz : (keys.zip vs.toArray).size = vs.length := by rw [Array.size_zip, hk.1, List.size_toArray, Nat.min_self]
  cases b with
  | false =>
    simp only [Bool.false_eq_true, if_false] at hp ⊢
    exact hidx k _ (zip_at hp).2
  | true =>
    simp only [if_true] at hp ⊢
    have hlt : k < vs.length := by
      obtain ⟨h, _⟩ := Array.getElem?_eq_some_iff.mp hp
      simpa [hsz] using h
    rw [Array.getElem?_reverse (by rw [hsz]; exact hlt), hsz] at hp
    rw [hidx _ _ (zip_at hp).2]
    omega
theorem out_ok {xs : Array Keyed} (hk : KeysTo κ kz keys vs.length) (hidx : ∀ (i : Nat) (v : Value), vs[i]? = some v → idx v = i) (hp : xs.Perm (if b = true then (keys.zip vs.toArray).reverse else keys.zip vs.toArray))
    (hs : Asc κ (fun p => if b = true then vs.length - 1 - idx p.2 else idx p.2) xs vs.length) :
    ∃ σ, Sorted1 κ kz b vs.length σ ∧ (if b = true then (xs.map (·.2)).reverse else xs.map (·.2)).toList = σ.map (fun i => vs.getD i .none) := by
  have hsz : (keys.zip vs.toArray).size = vs.length := by rw [Array.size_zip, hk.1, List.size_toArray, Nat.min_self]
  have hp2 : xs.toList.Perm (keys.zip vs.toArray).toList := by
    have := Array.perm_iff_toList_perm.mp hp
    cases b with
    | false => simpa using this
    | true => exact this.trans (by simp only [if_true, Array.toList_reverse]; exact List.reverse_perm _)
  have hlen : xs.size = vs.length := by rw [← Array.length_toList, hp2.length_eq, Array.length_toList, hsz]
  have each : ∀ p ∈ xs.toList, vs[idx p.2]? = some p.2 ∧ κ.keyOf p.1 = some (kz (idx p.2)) := by
    intro p hpm
    obtain ⟨i, hi⟩ := List.mem_iff_getElem?.mp (hp2.mem_iff.mp hpm)
    obtain ⟨h1, h2⟩ := zip_at (Array.getElem?_toList.symm.trans hi)
    rw [hidx _ _ h2]
    exact ⟨h2, hk.2 _ _ h1⟩
  have idxs : (xs.toList.map fun p => idx p.2).Perm (List.range vs.length) := by
    refine (hp2.map _).trans (List.Perm.of_eq ?_)
    refine List.ext_getElem? fun i => ?_
    rw [List.getElem?_map]
    by_cases hi : i < vs.length
    · have hi' : i < (keys.zip vs.toArray).size := by rw [hsz]; exact hi
      rw [Array.getElem?_toList, Array.getElem?_eq_getElem hi', List.getElem?_range hi]
      have := (zip_at (Array.getElem?_eq_getElem hi')).2
      simp only [Option.map_some]
      rw [hidx _ _ this]
    · rw [Array.getElem?_toList, Array.getElem?_eq_none (by omega), List.getElem?_eq_none (by simpa using hi)]
      rfl
  have vals : xs.toList.map (·.2) = (xs.toList.map fun p => idx p.2).map (fun i => vs.getD i .none) := by
    rw [List.map_map]
    refine List.map_congr_left fun p hpm => ?_
    show p.2 = vs.getD (idx p.2) .none
    rw [List.getD_eq_getElem?_getD, (each p hpm).1]; rfl
  have gg : ∀ (i : Nat) (hi : i < xs.toList.length), GG κ (fun p => if b = true then vs.length - 1 - idx p.2 else idx p.2) xs i = (kz (idx xs.toList[i].2), if b = true then vs.length - 1 - idx xs.toList[i].2 else idx xs.toList[i].2) := by
    intro i hi
    have hi2 : i < xs.size := by simpa using hi
    have e1 : xs[i]? = some xs[i] := Array.getElem?_eq_getElem hi2
    have e2 : xs.toList[i] = xs[i] := Array.getElem_toList ..
    unfold GG KK
    rw [e1, e2]
    have := (each xs[i] (by simp)).2
    simp only [this, Option.getD_some]
  have pw : (xs.toList.map fun p => idx p.2).Pairwise (fun i j => κ.klt (kz i) (kz j) ∨ (kz i = kz j ∧ (if b = true then vs.length - 1 - i else i) < (if b = true then vs.length - 1 - j else j))) := by
    rw [List.pairwise_map, List.pairwise_iff_getElem]
    intro i j hi hj hij
    have hj2 : j < vs.length := by rw [← hlen]; simpa using hj
    have q := hs i j hij hj2
    rw [gg i hi, gg j hj] at q
    exact q
  cases b with
  | false =>
    refine ⟨_, ⟨idxs, pw.imp fun h => ?_⟩, ?_⟩
    · simpa using h
    · simp only [Bool.false_eq_true, if_false, Array.toList_map]
      exact vals
  | true =>
    refine ⟨(xs.toList.map fun p => idx p.2).reverse, ⟨(List.reverse_perm _).trans idxs, ?_⟩, ?_⟩
    · rw [List.pairwise_reverse]
      refine pw.imp_of_mem fun {i j} hi hj h => ?_
      have hi2 : i < vs.length := List.mem_range.mp (idxs.mem_iff.mp hi)
      have hj2 : j < vs.length := List.mem_range.mp (idxs.mem_iff.mp hj)
      simp only [if_true] at h ⊢
      rcases h with h | ⟨h, h'⟩
      · exact .inl h
      · exact .inr ⟨h.symm, by omega⟩
    · simp only [if_true, Array.toList_reverse, Array.toList_map, List.map_reverse]
      rw [vals]

theorem tail_ok {st : SortSt} (F : Fr h₀ L s.heap m) (N : News h₀ L s.heap (news ++ [(kS, seqObj "list" keys e), (a, seqObj "list" #[] e1)])) (hka : kS ≠ a) (hnk : ∀ p ∈ news, p.1 ≠ kS) (hna : ∀ p ∈ news, p.1 ≠ a)
    (hks : keys.size = vs.length) (h64 : vs.length < 64) (hsz2 : (arrOf st).size = vs.length) (hfl : failedOf st = none)
    (h : ∀ h' tk c, Fr h₀ L h' m → News h₀ L h' ((a, seqObj "list" (if b = true then ((arrOf st).map (·.2)).reverse else (arrOf st).map (·.2)) c) :: news) → P (.done (.ret .none)) { s with heap := h', toks := tk }) :
    wpAny (model prog w) A (ksk_tail a b e1 (.ref kS) st) P E s := by
  have nk := N (kS, seqObj "list" keys e) (List.mem_append_right _ (.head _))
  have na := N (a, seqObj "list" #[] e1) (List.mem_append_right _ (.tail _ (.head _)))
  have Nn : News h₀ L s.heap news := fun p hp => N p (List.mem_append_left _ hp)
  have hout : (if b = true then ((arrOf st).map (·.2)).reverse else (arrOf st).map (·.2)).size = vs.length := by
    cases b <;> simp [hsz2]
  have s1 := Heap.SameBut.update s.heap kS (Obj.mapSeq fun _ => (#[] : Array Value))
  have na1 : (s.heap.update kS (Obj.mapSeq fun _ => (#[] : Array Value))).get? a = some (seqObj "list" #[] e1) := (s1.2 a hka.symm).trans na.1
  have s2 := Heap.SameBut.update (s.heap.update kS (Obj.mapSeq fun _ => (#[] : Array Value))) a (Obj.mapSeq fun _ => if b = true then ((arrOf st).map (·.2)).reverse else (arrOf st).map (·.2))
  have hc2 := get?_update_seq na1 fun _ => if b = true then ((arrOf st).map (·.2)).reverse else (arrOf st).map (·.2)
  generalize (if Array.size (if b = true then ((arrOf st).map (·.2)).reverse else (arrOf st).map (·.2)) == (#[] : Array Value).size then e1 else e1 + 1) = c2 at hc2
  unfold ksk_tail
  dsimp only
  refine wpAny_bind (listUpdate_at nk.1 rfl ?_ (by rw [hks, sizeLine_eq]; omega) (Nat.zero_le _))
  refine wpAny_bind (wpAny_letGo ?_)
  refine wpAny_bind (seqEpoch_at na1 rfl ?_)
  refine wpAny_bind (listUpdate_at na1 rfl ?_ (Nat.zero_le _) (Nat.le_trans (Nat.le_of_eq hout) (by rw [sizeLine_eq]; omega)))
  rw [hfl]
  simp only [bne_self_eq_false, Bool.false_eq_true, if_false]
  refine wpAny_pure (h _ _ c2 (ksk_fr (ksk_fr F s1 nk.2.1 nk.2.2) s2 na.2.1 na.2.2) fun p hp => ?_)
  rcases List.mem_cons.mp hp with rfl | hp
  · exact ⟨hc2, na.2⟩
  · exact ksk_news (ksk_news Nn s1 hnk) s2 hna p hp

theorem end_ok (K : KeyOk κ) (F : Fr h₀ L s.heap m) (N : News h₀ L s.heap (news ++ [(kS, seqObj "list" keys e), (a, seqObj "list" #[] e1)])) (hka : kS ≠ a) (hnk : ∀ p ∈ news, p.1 ≠ kS) (hna : ∀ p ∈ news, p.1 ≠ a)
    (hk : KeysTo κ kz keys vs.length) (hidx : ∀ (i : Nat) (v : Value), vs[i]? = some v → idx v = i) (h2 : 2 ≤ vs.length) (h64 : vs.length < 64)
    (h : ∀ h' tk σ out c, Fr h₀ L h' m → News h₀ L h' ((a, seqObj "list" out c) :: news) → Sorted1 κ kz b vs.length σ → out.toList = σ.map (fun i => vs.getD i .none) → P (.done (.ret .none)) { s with heap := h', toks := tk }) :
    wpAny (model prog w) A (ksk_end a b vs.toArray e1 (.ref kS) keys) P E s := by
  have hzs : (keys.zip vs.toArray).size = vs.length := by rw [Array.size_zip, hk.1, List.size_toArray, Nat.min_self]
  have step : ∀ t : Sem PySem.Fin, wpAny (model prog w) A t P E s → wpAny (model prog w) A (if b = true then (do let _ ← rule "list.sort.reverse"; t) else t) P E s := by
    intro t ht
    split
    · exact wpAny_bind (wpAny_rule ht)
    · exact ht
  unfold ksk_end
  dsimp only
  refine step _ ?_
  rw [if_neg (by rw [List.size_toArray]; omega), if_neg (by rw [List.size_toArray]; omega), K.kind keys (by rw [hk.1]; exact h2) (fun i v hv => ⟨_, hk.2 i v hv⟩)]
  refine wpAny_bind (wpAny_pure ?_)
  have hsz0 : (if b = true then (keys.zip vs.toArray).reverse else keys.zip vs.toArray).size = vs.length := by
    cases b <;> simp [hzs]
  have hk0 : PyProof.Rows.KeysOf κ (if b = true then (keys.zip vs.toArray).reverse else keys.zip vs.toArray) := by
    intro p hp
    have hp' : p ∈ (keys.zip vs.toArray).toList := by
      cases b with
      | false => simpa using hp
      | true => simp only [if_true, Array.toList_reverse, List.mem_reverse] at hp; exact hp
    obtain ⟨i, hi⟩ := List.mem_iff_getElem?.mp hp'
    exact ⟨_, hk.2 i _ (zip_at (Array.getElem?_toList.symm.trans hi)).1⟩
  refine wpAny_bind (wpAny_mono (sort_runs (κ := κ) (a₀ := if b = true then (keys.zip vs.toArray).reverse else keys.zip vs.toArray) (st := SortSt.mk' oneType' (if b = true then (keys.zip vs.toArray).reverse else keys.zip vs.toArray) #[] 7 none)
      (Q := fun _ st' => (arrOf st').Perm (if b = true then (keys.zip vs.toArray).reverse else keys.zip vs.toArray) ∧ failedOf st' = none ∧ Asc κ (fun p => if b = true then vs.length - 1 - idx p.2 else idx p.2) (arrOf st') vs.length)
      K.one hk0 (start_ok hk hidx) ⟨Array.Perm.refl _, rfl, rfl, rfl⟩ rfl (by rw [hsz0]; exact h2) (by rw [hsz0]; exact h64) fun st' a1 a2 a3 => ⟨a1, a2, by rw [hsz0] at a3; exact a3⟩) ?_ fun _ _ e => e)
  rintro ⟨⟨⟩, st'⟩ s' ⟨rfl, hp, hf, hs⟩
  dsimp only
  obtain ⟨σ, hσ, ho⟩ := out_ok hk hidx hp hs
  exact tail_ok F N hka hnk hna hk.1 h64 (by rw [hp.size_eq, hsz0]) hf fun h' tk c F' N' => h h' tk σ _ c F' N' hσ ho

theorem rest_ok {f : Value} (K : KeyOk κ) (F : Fr h₀ L s.heap m) (N : News h₀ L s.heap (news ++ [(kS, seqObj "list" #[] 0), (a, seqObj "list" #[] e1)])) (hka : kS ≠ a) (hnk : ∀ p ∈ news, p.1 ≠ kS) (hna : ∀ p ∈ news, p.1 ≠ a)
    (hidx : ∀ (i : Nat) (v : Value), vs[i]? = some v → idx v = i) (h2 : 2 ≤ vs.length) (h64 : vs.length < 64)
    (turn : ∀ (i : Nat) (v : Value), vs[i]? = some v → ∀ (h : Heap) (tk : Nat) (own : List (Addr × Obj)), Fr h₀ L h m → News h₀ L h (news ++ own) →
      wpAny (model prog w) A (call f [v]) (KeyEnd h₀ L m (news ++ own) (fun v => κ.keyOf v = some (kz i)) { s with heap := h, toks := tk }) (fun _ _ => False) { s with heap := h, toks := tk })
    (h : ∀ h' tk σ out c, Fr h₀ L h' m → News h₀ L h' ((a, seqObj "list" out c) :: news) → Sorted1 κ kz b vs.length σ → out.toList = σ.map (fun i => vs.getD i .none) → P (.done (.ret .none)) { s with heap := h', toks := tk }) :
    wpAny (model prog w) A (ksk_rest a f b vs.toArray e1 (.ref kS)) P E s := by
  unfold ksk_rest
  refine wpAny_bind (wpAny_rule ?_)
  rw [List.forIn_toArray]
  refine wpAny_bind (ksk_fold (fun i s' => ∃ h' tk kA e, s' = { s with heap := h', toks := tk } ∧ Fr h₀ L h' m ∧ News h₀ L h' (news ++ [(kS, seqObj "list" kA e), (a, seqObj "list" #[] e1)]) ∧ KeysTo κ kz kA i) vs 0 s
    ⟨s.heap, s.toks, #[], 0, rfl, F, N, rfl, fun i v hv => by simp at hv⟩ ?step ?done)
  case step =>
    rintro j x s' hx ⟨h', tk, kA, e, rfl, F', N', hk⟩
    simp only [Nat.zero_add] at hk ⊢
    have hj : j < vs.length := (List.getElem?_eq_some_iff.mp hx).1
    refine wpAny_bind (wpAny_attempt (wpAny_mono (turn j x hx h' tk _ F' N') (fun v s'' he => ?_) fun _ _ hF => hF.elim))
    obtain ⟨g, tk2, rfl, hv, F2, N2⟩ := he
    dsimp only
    have nk := N2 (kS, seqObj "list" kA e) (List.mem_append_right _ (.head _))
    have na := N2 (a, seqObj "list" #[] e1) (List.mem_append_right _ (.tail _ (.head _)))
    have s1 := Heap.SameBut.update g kS (Obj.mapSeq (·.push v))
    obtain ⟨c2, hc2⟩ : ∃ c2, (g.update kS (Obj.mapSeq (·.push v))).get? kS = some (seqObj "list" (kA.push v) c2) := ⟨_, get?_update_seq nk.1 (·.push v)⟩
    refine wpAny_bind (listUpdate_at nk.1 rfl ?_ (by rw [hk.1, sizeLine_eq]; omega) (Nat.le_trans (Nat.le_of_eq (Array.size_push ..)) (by rw [hk.1, sizeLine_eq]; omega)))
    refine wpAny_pure ⟨rfl, _, _, kA.push v, c2, rfl, ksk_fr F2 s1 nk.2.1 nk.2.2, fun p hp => ?_, ⟨by rw [Array.size_push, hk.1], fun i u hu => ?_⟩⟩
    · rcases List.mem_append.mp hp with hp | hp
      · exact ksk_news (fun q hq => N2 q (List.mem_append_left _ hq)) s1 hnk p hp
      · rcases List.mem_cons.mp hp with rfl | hp
        · exact ⟨hc2, nk.2⟩
        · rw [List.mem_singleton.mp hp]
          exact ⟨(s1.2 a hka.symm).trans na.1, na.2⟩
    · rw [Array.getElem?_push] at hu
      split at hu
      · rename_i hi
        cases hu
        rw [hi, hk.1]; exact hv
      · exact hk.2 i u hu
  case done =>
    rintro s' ⟨h', tk, kA, e, rfl, F', N', hk⟩
    rw [Nat.zero_add] at hk
    have nk := N' (kS, seqObj "list" kA e) (List.mem_append_right _ (.head _))
    try dsimp only
    refine wpAny_bind (listItems_at nk.1 rfl ?_)
    exact end_ok K F' N' hka hnk hna hk hidx h2 h64 fun h3 tk3 σ out c F3 N3 k3 k4 => h h3 tk3 σ out c F3 N3 k3 k4

theorem sort_ok {f : Value} {n : Nat} (K : KeyOk κ) (F : Fr h₀ L s.heap m) (N : News h₀ L s.heap news) (ho : s.heap.get? a = some (seqObj "list" vs.toArray n)) (haL : a ≠ L) (ha0 : h₀.get? a = none) (hna : ∀ p ∈ news, p.1 ≠ a)
    (hidx : ∀ (i : Nat) (v : Value), vs[i]? = some v → idx v = i) (h2 : 2 ≤ vs.length) (h64 : vs.length < 64)
    (turn : ∀ (i : Nat) (v : Value), vs[i]? = some v → ∀ (h : Heap) (tk : Nat) (own : List (Addr × Obj)), Fr h₀ L h m → News h₀ L h (news ++ own) →
      wpAny (model prog w) A (call f [v]) (KeyEnd h₀ L m (news ++ own) (fun v => κ.keyOf v = some (kz i)) { s with heap := h, toks := tk }) (fun _ _ => False) { s with heap := h, toks := tk })
    (h : ∀ h' tk σ out c, Fr h₀ L h' m → News h₀ L h' ((a, seqObj "list" out c) :: news) → Sorted1 κ kz b vs.length σ → out.toList = σ.map (fun i => vs.getD i .none) → P (.done (.ret .none)) { s with heap := h', toks := tk }) :
    wpAny (model prog w) A (ksk_tree a f b) P E s := by
  have ha : a < s.heap.objs.size := Heap.lt_size ho
  have s1 := Heap.SameBut.update s.heap a (Obj.mapSeq fun _ => (#[] : Array Value))
  obtain ⟨e1, ho1⟩ : ∃ e1, (s.heap.update a (Obj.mapSeq fun _ => (#[] : Array Value))).get? a = some (seqObj "list" #[] e1) := ⟨_, get?_update_seq ho fun _ => #[]⟩
  have F1 := ksk_fr F s1 haL ha0
  have N1 := ksk_news N s1 hna
  have hkS : ((s.heap.update a (Obj.mapSeq fun _ => (#[] : Array Value))).push (seqObj "tuple" vs.toArray 0)).objs.size = s.heap.objs.size + 1 := by rw [size_push', Heap.size_update]
  have hLk : L < ((s.heap.update a (Obj.mapSeq fun _ => (#[] : Array Value))).push (seqObj "tuple" vs.toArray 0)).objs.size := (F1.push _).ns.lt
  unfold ksk_tree
  refine wpAny_bind (listItems_at ho rfl ?_)
  refine wpAny_bind (listUpdate_at ho rfl ?_ (by rw [List.size_toArray, sizeLine_eq]; omega) (Nat.zero_le _))
  refine wpAny_bind (seqEpoch_at ho1 rfl ?_)
  refine wpAny_bind (wpAny_newTuple ?_ (by show vs.length ≤ _; rw [sizeLine_eq]; omega))
  refine wpAny_bind (wpAny_newList ?_ (Nat.zero_le _))
  refine wpAny_holding ?_
  refine rest_ok (s := { s with heap := ((s.heap.update a (Obj.mapSeq fun _ => (#[] : Array Value))).push (seqObj "tuple" vs.toArray 0)).push (seqObj "list" #[] 0) }) (kS := ((s.heap.update a (Obj.mapSeq fun _ => (#[] : Array Value))).push (seqObj "tuple" vs.toArray 0)).objs.size)
    K ((F1.push _).push _) (fun p hp => ?_) (by rw [hkS]; exact Nat.ne_of_gt (Nat.lt_succ_of_lt ha)) (fun p hp => by rw [hkS]; exact Nat.ne_of_lt (Nat.lt_succ_of_lt (Heap.lt_size (N p hp).1))) hna hidx h2 h64 turn h
  rcases List.mem_append.mp hp with hp | hp
  · exact ⟨Heap.get?_push_of_some _ (Heap.get?_push_of_some _ (N1 p hp).1), (N1 p hp).2⟩
  · rcases List.mem_cons.mp hp with rfl | hp
    · exact ⟨Heap.get?_push_size _ rfl, Nat.ne_of_gt hLk, Heap.get?_none_of_le (Nat.le_trans F.above (Nat.le_of_lt hLk))⟩
    · rw [List.mem_singleton.mp hp]
      exact ⟨Heap.get?_push_of_some _ (Heap.get?_push_of_some _ ho1), haL, ha0⟩

theorem sorted_by {l : Addr} {Q : Value → Shared → Prop} {f : Value} {kw : List (Str × Value)} (K : KeyOk κ) (kz : Nat → κ.α) (idx : Value → Nat) (F : Fr h₀ L s.heap m) (N : News h₀ L s.heap news) (hl : s.heap.IsList l vs.toArray)
    (hidx : ∀ (i : Nat) (v : Value), vs[i]? = some v → idx v = i) (h2 : 2 ≤ vs.length) (h64 : vs.length < 64)
    (ha1 : argsOk "sorted" ⟨[.ref l], kw⟩) (ha2 : ∀ x, argsOk "list.sort" ⟨[.ref x], kw⟩) (ht : ∀ x, Builtin.«list.sort» ⟨[.ref x], kw⟩ = ksk_tree x f b)
    (turn : ∀ (i : Nat) (v : Value), vs[i]? = some v → ∀ (h : Heap) (tk : Nat) (own : List (Addr × Obj)), Fr h₀ L h m → News h₀ L h (news ++ own) →
      wpAny (model prog w) A.in1.in1 (call f [v]) (KeyEnd h₀ L m (news ++ own) (fun v => κ.keyOf v = some (kz i)) { s with heap := h, toks := tk }) (fun _ _ => False) { s with heap := h, toks := tk })
    (h : ∀ D h' tk σ out c, Fr h₀ L h' m → News h₀ L h' ((D, seqObj "list" out c) :: news) → (∀ q ∈ news, @LT.lt Nat _ q.1 D) → Sorted1 κ kz b vs.length σ → out.toList = σ.map (fun i => vs.getD i .none) → Q (.ref D) { s with heap := h', toks := tk }) :
    wpAny (model prog w) A (call (.builtin "sorted") [.ref l] kw) Q E s := by
  refine call_function_entry_kw kind_sorted plain_sorted entry_sorted ha1 ?_
  unfold Builtin.«sorted»
  refine wpAny_bind (m := checkCount "sorted" 1 1 _) (wpAny_pure ?_)
  refine wpAny_bind (collect_list hl ?_ (by rw [sizeLine_eq]; omega))
  refine wpAny_bind (wpAny_newList ?_ (by rw [sizeLine_eq]; omega))
  have hsz : ((s.heap.push (seqObj "list" #[] 0)).update s.heap.objs.size (Obj.mapSeq (· ++ vs.toArray))).objs.size = s.heap.objs.size + 1 := by
    rw [Heap.size_update, size_push']
  have hoL : (((s.heap.push (seqObj "list" #[] 0)).update s.heap.objs.size (Obj.mapSeq (· ++ vs.toArray))).push (seqObj "list" vs.toArray 0)).get? (s.heap.objs.size + 1) = some (seqObj "list" vs.toArray 0) := by
    rw [← hsz]; exact Heap.get?_push_size _ rfl
  have keep : ∀ b o, s.heap.get? b = some o → (((s.heap.push (seqObj "list" #[] 0)).update s.heap.objs.size (Obj.mapSeq (· ++ vs.toArray))).push (seqObj "list" vs.toArray 0)).get? b = some o := fun b o q => by
    have hlt : b < s.heap.objs.size := Heap.lt_size q
    rw [Heap.get?_push_ne _ _ _ (by rw [hsz]; exact Nat.ne_of_lt (Nat.lt_succ_of_lt hlt)), Heap.get?_update_ne _ _ _ _ (Nat.ne_of_lt hlt), Heap.get?_push_ne _ _ _ (Nat.ne_of_lt hlt)]
    exact q
  have hL : L < s.heap.objs.size := F.ns.lt
  show wpAny _ _ _ _ _ { s with heap := ((s.heap.push (seqObj "list" #[] 0)).update s.heap.objs.size (Obj.mapSeq (· ++ vs.toArray))).push (seqObj "list" vs.toArray 0) }
  rw [hsz]
  refine wpAny_bind (wpAny_holding (wpAny_call_entry_kw slot_list_sort ⟨_, hoL, rfl⟩ entry_list_sort ?body (ha2 _)))
  case body =>
    have ht' := ht (s.heap.objs.size + 1)
    show wpAny (model prog w) A.in1.in1 (Builtin.«list.sort» ⟨[.ref (s.heap.objs.size + 1)], kw⟩) _ _ _
    rw [ht']
    refine sort_ok (kz := kz) (idx := idx) (s := { s with heap := ((s.heap.push (seqObj "list" #[] 0)).update s.heap.objs.size (Obj.mapSeq (· ++ vs.toArray))).push (seqObj "list" vs.toArray 0) })
      K (F.kept keep) (N.grown keep) hoL (Nat.ne_of_gt (Nat.lt_succ_of_lt hL)) (Heap.get?_none_of_le (Nat.le_trans F.above (Nat.le_succ_of_le (Nat.le_of_lt hL))))
      (fun p hp => Nat.ne_of_lt (Nat.lt_succ_of_lt (Heap.lt_size (N p hp).1))) hidx h2 h64 turn fun h' tk σ out c F' N' k1 k2 => ⟨_, rfl, ?_⟩
    exact wpAny_pure ⟨_, rfl, h _ h' tk σ out c F' N' (fun q hq => Nat.lt_succ_of_lt (Heap.lt_size (N q hq).1)) k1 k2⟩
end

@[reducible] def intKeyKind : PyProof.Rows.KeyKind where
  α := Int
  blt a b := decide (a < b)
  irrefl a := by simp
  trans a b c h1 h2 := by simp only [decide_eq_true_eq] at *; omega
  negTrans a b c h := by simp only [decide_eq_true_eq] at *; omega
  total a b h1 h2 := by simp only [decide_eq_false_iff_not] at *; omega
  keyOf v := match v with | .int n _ => some n | _ => none
  dflt := 0
theorem intKey_ok : KeyOk intKeyKind where
  one := by
    intro prog w A E s x y a b Q ha hb h
    cases x <;> simp only [intKeyKind, reduceCtorEq, Option.some.injEq] at ha
    cases y <;> simp only [intKeyKind, reduceCtorEq, Option.some.injEq] at hb
    cases ha; cases hb
    exact oneLt_int h
  kind := by
    intro keys h2 hk
    obtain ⟨l⟩ := keys
    match l, h2 with
    | v₁ :: v₂ :: rest, _ =>
      have hI : ∀ l : List Value, (∀ v ∈ l, ∃ a, intKeyKind.keyOf v = some a) → ∃ ns, IntsAre l ns := by
        intro l
        induction l with
        | nil => exact fun _ => ⟨[], .nil⟩
        | cons v r ih =>
          intro h
          obtain ⟨ns, hn⟩ := ih fun u hu => h u (.tail _ hu)
          obtain ⟨a, ha⟩ := h v (.head _)
          cases v <;> simp only [intKeyKind, reduceCtorEq, Option.some.injEq] at ha
          exact ⟨_, .cons _ _ hn⟩
      obtain ⟨ns, hn⟩ := hI (v₁ :: v₂ :: rest) fun v hv => by
        obtain ⟨i, hi⟩ := List.mem_iff_getElem?.mp hv
        exact hk i v (by simpa using hi)
      exact keyKind_ints hn
theorem strKey_ok : KeyOk PyProof.Rows.strKind where
  one := strKind_oneLt
  kind := by
    intro keys h2 hk
    obtain ⟨l⟩ := keys
    match l, h2 with
    | v₁ :: v₂ :: rest, _ =>
      have hI : ∀ l : List Value, (∀ v ∈ l, ∃ a, PyProof.Rows.strKind.keyOf v = some a) → ∃ ns, StrsAre l ns := by
        intro l
        induction l with
        | nil => exact fun _ => ⟨[], .nil⟩
        | cons v r ih =>
          intro h
          obtain ⟨ns, hn⟩ := ih fun u hu => h u (.tail _ hu)
          obtain ⟨a, ha⟩ := h v (.head _)
          cases v <;> simp only [PyProof.Rows.strKind, reduceCtorEq, Option.some.injEq] at ha
          exact ⟨_, .cons _ _ hn⟩
      obtain ⟨ns, hn⟩ := hI (v₁ :: v₂ :: rest) fun v hv => by
        obtain ⟨i, hi⟩ := List.mem_iff_getElem?.mp hv
        exact hk i v (by simpa using hi)
      exact keyKind_strs hn
end Mine
end
section -- LRcomp
namespace Mine
section
variable {prog : Program} {w : World} {A : Around} {E : Value → Shared → Prop} {s : Shared} {env : Env} {P : Know} {R : Know → Nat → Value → Prop}

theorem nmono {P Q : Know} (hm : ∀ P Q i y, (∀ a o, P a o → Q a o) → R P i y → R Q i y) (h : ∀ a o, P a o → Q a o) : ∀ {l ys}, Paired (R P) l ys → Paired (R Q) l ys := by
  intro _ _ p
  induction p with
  | nil => exact .nil
  | cons a _ ih => exact .cons (hm _ _ _ _ h a) ih

inductive RcompJ (P : Know) (R : Know → Nat → Value → Prop) (a c : Int) (n : Nat) (s : Shared) (I D C : Addr) (k : Nat) (s' : Shared) : Prop
  | mk (h' : Heap) (tk : Nat) (m' : Str → Option Value) (ys : List Value) (e : Nat) (tl : List (Addr × Obj)) (i : Nat) (es : s' = { s with heap := h', toks := tk }) (hI : IsRangeIter h' I (a + (i : Nat) * c) ((n : Int) - (i : Nat)) c) (hD : h'.get? D = some (listO ys e)) (hC : h'.Ns C m') (st : s.heap.StaysIn h')
      (ht : ∀ q ∈ tl, h'.get? q.1 = some q.2 ∧ s.heap.get? q.1 = none ∧ q.1 ≠ D ∧ q.1 ≠ C ∧ q.1 ≠ I) (hp : Paired (R (P.more tl)) (List.range i) ys) (hi : i ≤ n) (hk : k = n + 1 - i) : RcompJ P R a c n s I D C k s'
theorem rcomp_block {elt iter : Expr} {x : Str} {px : Pos} {scope : Scope} {cl : List (Str × Addr)} {pos : Pos} {r : Addr} {a b c : Int} {t u v0 : Tok} {n : Nat} {RR : Value → Addr → Result → Shared → Prop}
    (hh : A.handled = none) (hr : IsRange s.heap r a b c t u v0) (hsmall : Builtin.Range.small a b c = true) (hrn : Builtin.Range.rangeSize a b c = n) (hsz : n ≤ 1000)
    (hm : ∀ P Q i y, (∀ a o, P a o → Q a o) → R P i y → R Q i y)
    (hcell : ∀ y ∈ scope.names, y.2 ≠ .cell) (hkind : scope.kind = .function) (hx : scope.names.lookup x = some .local)
    (hq : ∀ C (i : Nat) ti h₃ tk₃ m₃ own, i < n → Fr s.heap C h₃ m₃ → News s.heap C h₃ own → m₃ x = some (.int (a + i * c) ti) →
      wpAny (model prog w) A (eval elt (compEnvC scope cl C env)) (EltEnd s.heap C m₃ own P (fun K _ y => R K i y) .none { s with heap := h₃, toks := tk₃ }) noE { s with heap := h₃, toks := tk₃ })
    (hRR : ∀ D C h' tk m' ys e tl, s.heap.get? D = none → s.heap.get? C = none → D ≠ C → h'.Ns C m' → h'.get? D = some (listO ys e) → s.heap.StaysIn h' →
      (∀ q ∈ tl, h'.get? q.1 = some q.2 ∧ s.heap.get? q.1 = none ∧ q.1 ≠ D ∧ q.1 ≠ C) → Paired (R (P.more tl)) (List.range n) ys → RR (.ref D) C (.ok .next) { s with heap := h', toks := tk }) :
    wpAny (model prog w) A (pyIter (.ref r)) (fun it s₂ => wpAny (model prog w) A (newList []) (fun acc s₃ => wpAny (model prog w) A (newFunctionEnv scope env.globals cl [] env.qual none .none (some env)) (fun cenv s₄ =>
      codeAny (model prog w) A (.compStart (.ListComp elt [⟨.Name x px, iter, [], 0⟩] scope pos) 0 it acc { cenv with scope := relabel scope env }) (RR acc cenv.locals) s₄) E s₃) E s₂) E s := by
  refine wpAny_pyIter_range hr hsmall ?_
  refine wpAny_newObj_type (hd := by size_fits) (wpAny_newFunctionEnv hcell (by intro y hy; simp at hy) (fun h₁ hns₁ hsb₁ => ?_) hkind)
  dsimp only at hns₁ hsb₁ ⊢
  generalize hH1 : s.heap.push { cls := .type "range_iterator", data := .fields #[rawInt a, rawInt (Builtin.Range.rangeSize a b c), rawInt c] } = H1 at hns₁ hsb₁ ⊢
  have eD : H1.objs.size = s.heap.objs.size + 1 := by rw [← hH1, Heap.size_push]
  generalize hH2 : H1.push { cls := .type "list", dict := none, data := .seq ([] : List Value).toArray } = H2 at hns₁ hsb₁ ⊢
  have eC : H2.objs.size = s.heap.objs.size + 2 := by rw [← hH2, Heap.size_push, eD]
  generalize hI : s.heap.objs.size = I at *
  generalize hD : H1.objs.size = D at *
  generalize hC : H2.objs.size = C at *
  have nID : I ≠ D := by omega
  have nIC : I ≠ C := by omega
  have nDC : D ≠ C := by omega
  have ne3 : ∀ b : Nat, b < I → b ≠ I ∧ b ≠ D ∧ b ≠ C := fun b hb => by omega
  have apart : ∀ b o, s.heap.get? b = some o → b ≠ I ∧ b ≠ D ∧ b ≠ C := fun b o e => ne3 b (hI ▸ Heap.lt_size e)
  have old : ∀ b o, s.heap.get? b = some o → h₁.get? b = some o := fun b o e => by
    exact hsb₁.extBut b o (apart b o e).2.2 (Heap.get?_push_of_some _ (hH2 ▸ Heap.get?_push_of_some _ (hH1 ▸ Heap.get?_push_of_some _ e)))
  have hacc : h₁.get? D = some (listO [] 0) := hsb₁.extBut _ _ nDC (Heap.get?_push_of_some _ (hH2 ▸ hD ▸ Heap.get?_push_size _ rfl))
  have e0 : a + ((0 : Nat) : Int) * c = a := by simp
  have e00 : (n : Int) - ((0 : Nat) : Int) = Builtin.Range.rangeSize a b c := by rw [hrn]; simp
  have hit : IsRangeIter h₁ I (a + ((0 : Nat) : Int) * c) ((n : Int) - ((0 : Nat) : Int)) c := by
    rw [e0, e00]
    exact hsb₁.extBut _ _ nIC (Heap.get?_push_of_some _ (hH2 ▸ Heap.get?_push_of_some _ (hH1 ▸ hI ▸ Heap.get?_push_size _ rfl)))
  have fresh : ∀ a, I ≤ a → s.heap.get? a = none := fun a ha => by
    cases e : s.heap.get? a with
    | none => rfl
    | some o' => exact absurd (Heap.lt_size e) (Nat.not_lt.mpr (hI ▸ ha))
  have leD : I ≤ D := by omega
  have leC : I ≤ C := by omega
  have W := Walks.range (prog := prog) (w := w) hh I a c n
  have loop : ∀ s₃ : Shared, s₃ = { s with heap := h₁, toks := s.toks + ([] : List (Str × Value)).length } →
      codeAny (model prog w) A (.compLoop (.ListComp elt [⟨.Name x px, iter, [], 0⟩] scope pos) 0 (.ref I) (.ref D) (compEnvC scope cl C env)) (RR (.ref D) C) s₃ := by
    rintro s₃ rfl
    refine codeAny_compLoop_tests (RcompJ P R a c n s I D C) ?_ (n + 1)
      ⟨h₁, _, _, [], 0, [], 0, rfl, hit, hacc, hns₁, old, fun _ h => (nomatch h), .nil, Nat.zero_le _, rfl⟩
    rintro k s' ⟨H, tk, m', ys, e, tl, i, rfl, hit', hD', hn', hk, htl, hF, hi, rfl⟩
    by_cases hlt' : i < n
    · refine W.item i _ _ _ hlt' hit' fun v h₂ tk₂ hPv hst₂ hk₂ => ?_
      obtain ⟨ti, rfl⟩ := hPv
      have up2 : ∀ b o, b ≠ I → H.get? b = some o → h₂.get? b = some o := fun b o hb e => hk₂ b o (by simpa using hb) e
      refine wpAny_assign_Name (wpAny_storeName_local (env := compEnvC scope cl C env) (lookup_relabel_local hx) (hn'.at' fun o e => up2 C o (Ne.symm nIC) e) (fun h₃ hn₃ hs₃ => ?_) (by simp [compEnvC, relabel, hkind]))
      have up3 : ∀ b o, b ≠ I → b ≠ C → H.get? b = some o → h₃.get? b = some o := fun b o h1 h2 e => hs₃.extBut b o h2 (up2 b o h1 e)
      have old3 : s.heap.StaysIn h₃ := fun b o e => up3 b o (apart b o e).1 (apart b o e).2.2 (hk b o e)
      have hI3 : IsRangeIter h₃ I (a + ((i + 1 : Nat) : Int) * c) ((n : Int) - ((i + 1 : Nat) : Int)) c := hs₃.extBut _ _ nIC hst₂
      have F3 : Fr s.heap C h₃ (fun y => if y = x then some (.int (a + i * c) ti) else m' y) := ⟨hn₃, old3, hI ▸ leC⟩
      obtain ⟨own3, N3, all3⟩ := all_news (h₀ := s.heap) (h := h₃) (C := C)
      have hD3 := up3 D _ (Ne.symm nID) nDC hD'
      refine wpAny_pure ?_
      simp only [if_true]
      refine wpAny_mono (hq C i ti h₃ _ _ own3 hlt' F3 N3 (by simp)) (fun y s₅ h₅ => ?_) fun _ _ f => f.elim
      obtain ⟨h₅, tk₅, tl₅, rfl, F5, N5, hd5, hR⟩ := h₅
      have up5 := all_stay F3 F5 all3 N5
      have htl5 := tl_fresh (m := m') all3 N5 hd5
      have hD5 := up5 _ _ nDC hD3
      have hys : ys.length = i := by rw [← hF.length, List.length_range]
      refine wpAny_list_append_plain (hsz := by rw [sizeLine_eq]; simp; omega) ⟨e, hD5⟩ fun h₆ hl₆ hs₆ => ?_
      obtain ⟨n6, hD6⟩ := hl₆
      refine ⟨n + 1 - (i + 1), by omega, h₆, _, _, ys ++ [y], n6, tl₅ ++ tl, i + 1, rfl, hs₆.extBut _ _ nID (up5 _ _ nIC hI3), by rw [hD6]; simp [listO], F5.ns.sameBut hs₆ (Ne.symm nDC),
        fun b o e => hs₆.extBut b o (apart b o e).2.1 (F5.keep b o e), fun q hq => ?_, ?_, hlt', rfl⟩
      · rcases List.mem_append.mp hq with hq | hq
        · obtain ⟨a', nC, b'⟩ := htl5 q hq
          have nD : q.1 ≠ D := fun e => by rw [e, hD3] at b'; cases b'
          have nI : q.1 ≠ I := fun e => by rw [e, hI3] at b'; cases b'
          refine ⟨hs₆.extBut _ _ nD a', ?_, nD, nC, nI⟩
          cases e : s.heap.get? q.1 with
          | none => rfl
          | some o => rw [F3.keep _ _ e] at b'; cases b'
        · obtain ⟨a', b', c', d', e'⟩ := htl q hq
          exact ⟨hs₆.extBut _ _ c' (up5 _ _ d' (up3 _ _ e' d' a')), b', c', d', e'⟩
      · rw [List.range_succ]
        refine Paired.snoc (nmono hm (fun a o h => h.imp id fun h => List.mem_append_right _ h) hF) (hm _ _ _ _ (fun a o h => h.imp id fun h => List.mem_append_left _ h) hR)
    · have hin : i = n := by omega
      subst hin
      refine W.done _ _ _ hit' fun h₂ tk₂ hk₂ => ?_
      have up2 : ∀ b o, b ≠ I → H.get? b = some o → h₂.get? b = some o := fun b o hb e => hk₂ b o (by simpa using hb) e
      exact hRR D C h₂ _ m' ys e tl (fresh _ leD) (fresh _ leC) nDC (hn'.at' fun o e => up2 C o (Ne.symm nIC) e) (up2 D _ (Ne.symm nID) hD') (fun b o e => up2 b o (apart b o e).1 (hk b o e))
        (fun q hq => by obtain ⟨a', b', c', d', e'⟩ := htl q hq; exact ⟨up2 _ _ e' a', b', c', d'⟩) hF
  exact codeAny_compStart_list (loop _ rfl) (wpAny_pyIter_rangeiter hit (loop _ rfl))

theorem rcomp_assign {elt iter : Expr} {x y : Str} {px py : Pos} {scope : Scope} {cl : List (Str × Addr)} {pos spos : Pos} {a b c : Int} {n : Nat} {m : Str → Option Value} (P : Know) (R : Know → Nat → Value → Prop) {Q : Flow → Shared → Prop}
    (hh : A.handled = none) (hsmall : Builtin.Range.small a b c = true) (hrn : Builtin.Range.rangeSize a b c = n) (hsz : n ≤ 1000)
    (hm : ∀ P Q i y, (∀ a o, P a o → Q a o) → R P i y → R Q i y)
    (hsw : swapsWith (.ListComp elt [⟨.Name x px, iter, [], 0⟩] scope pos) (some (.Name y py)) spos.line env = pure true)
    (hclos : closureFor scope env = pure cl) (hcell : ∀ y ∈ scope.names, y.2 ≠ .cell) (hkind : scope.kind = .function)
    (hnames : ∀ y ∈ scope.names, y.2 = .local → scope.names.lookup y.1 = some .local) (hx : scope.names.lookup x = some .local) (hs : ∀ x, foldedSetIterable iter env x = pure x)
    (hy : env.kindOf y = some .local) (hp : (env.scope.kind == .class || (env.scope.kind == .module && env.locals != env.globals)) = false)
    (hn : s.heap.Ns env.locals m)
    (hiter : ∀ Q' : Value → Shared → Prop, (∀ r h' tk t u v, IsRange h' r a b c t u v → s.heap.StaysIn h' → Q' (.ref r) { s with heap := h', toks := tk }) → wpAny (model prog w) A (eval iter env) Q' E s)
    (hq : ∀ (s₁ : Shared), s.heap.StaysIn s₁.heap → (∃ h' tk, s₁ = { s with heap := h', toks := tk }) → ∀ C (i : Nat) ti h₃ tk₃ m₃ own, i < n → Fr s₁.heap C h₃ m₃ → News s₁.heap C h₃ own → m₃ x = some (.int (a + i * c) ti) →
      wpAny (model prog w) A (eval elt (compEnvC scope cl C env)) (EltEnd s₁.heap C m₃ own P (fun K _ y => R K i y) .none { s₁ with heap := h₃, toks := tk₃ }) noE { s₁ with heap := h₃, toks := tk₃ })
    (hQ : ∀ D h' tk ys e tl, s.heap.get? D = none → h'.get? D = some (listO ys e) → (∀ b o, b ≠ env.locals → s.heap.get? b = some o → h'.get? b = some o) → h'.Ns env.locals (fun z => if z = y then some (.ref D) else m z) →
      (∀ q ∈ tl, h'.get? q.1 = some q.2 ∧ s.heap.get? q.1 = none ∧ q.1 ≠ D) → Paired (R (P.more tl)) (List.range n) ys → Q .next { s with heap := h', toks := tk }) :
    wpAny (model prog w) A (exec (.Assign [.Name y py] (.ListComp elt [⟨.Name x px, iter, [], 0⟩] scope pos) spos) env) Q E s := by
  rw [exec_Assign_Name_used _ _ _ _ hsw]
  refine wpAny_bind (wpAny_standAt (wpAny_bind ?_))
  show wpAny _ A (do let _ ← comprehension (.ListComp elt [⟨.Name x px, iter, [], 0⟩] scope pos) scope env _ (newList []) false (eval iter env) (some (assign (.Name y py) env))) _ _ s
  refine wpAny_bind (wpAny_mono (wpAny_comprehension_free (use := some (assign (.Name y py) env)) (Q := fun _ s' => Q .next s') rfl hs hclos hkind hnames (hiter _ ?_)) (fun _ s' hq => wpAny_pure (wpAny_pure hq)) fun _ _ e => e)
  intro r h0 tk0 t u v hr hst0
  have none0 : ∀ {D}, h0.get? D = none → s.heap.get? D = none := fun {D} hD => by
    cases e : s.heap.get? D with
    | none => rfl
    | some o => rw [hst0 _ _ e] at hD; cases hD
  refine rcomp_block (s := { s with heap := h0, toks := tk0 }) (P := P) (R := R) (RR := fun acc C => compPost (model prog w) A E (some (assign (.Name y py) env)) (fun _ s' => Q .next s') acc C) hh hr hsmall hrn hsz hm hcell hkind hx (hq { s with heap := h0, toks := tk0 } hst0 ⟨h0, tk0, rfl⟩) ?_
  intro D C h' tk m' ys e tl hD hC hDC hnC hl' hk htl hF
  obtain ⟨oL, _, _, hoL, _⟩ := id hn
  have hoL0 := hst0 _ _ hoL
  have hLC : env.locals ≠ C := by rintro rfl; exact absurd (hoL0.symm.trans hC) (fun h => nomatch h)
  have hLD : env.locals ≠ D := by rintro rfl; exact absurd (hoL0.symm.trans hD) (fun h => nomatch h)
  have hk' : s.heap.StaysIn h' := fun b o e => hk b o (hst0 b o e)
  show wpAny _ A (assign (.Name y py) env (.ref D)) _ _ _
  refine wpAny_assign_Name (wpAny_storeName_local hy (hn.keeps hk') (fun h₂ hn₂ hs₂ => ?_) hp)
  refine ⟨m', hnC.sameBut hs₂ (Ne.symm hLC), fun h₃ hs₃ => ?_⟩
  refine hQ D h₃ _ ys e tl (none0 hD) (hs₃.extBut _ _ hDC (hs₂.extBut _ _ (Ne.symm hLD) hl')) (fun b o hb e => hs₃.extBut b o (by rintro rfl; rw [none0 hC] at e; cases e) (hs₂.extBut b o hb (hk' b o e))) (hn₂.sameBut hs₃ hLC) (fun q hq => ?_) hF
  obtain ⟨a', b', c', d'⟩ := htl q hq
  have b'' := none0 b'
  exact ⟨hs₃.extBut _ _ d' (hs₂.extBut _ _ (fun e => by rw [e, hoL] at b''; cases b'') a'), b'', c'⟩
end
end Mine
end
section -- LLoopM
namespace Mine
section
variable {prog : Program} {w : World} {A : Around} {s : Shared} {env : Env} {h₀ : Heap}
theorem forLoop_own {Q : Flow → Shared → Prop} {target : Expr} {body : List Stmt} {I : Addr} {fp wr : List Addr} {n : Nat} {Pv : Nat → Value → Prop} {St : Nat → Heap → Prop} {m : Str → Option Value}
    {news : List (Addr × Obj)} (W : Walks prog w A I fp wr n Pv St) (hlive : ∀ i h, St i h → ∀ b ∈ wr, ∃ o, h.get? b = some o)
    (hLf : env.locals ∉ fp) (hwr : ∀ b ∈ wr, h₀.get? b = none) (hnw : ∀ p ∈ news, p.1 ∉ wr)
    (hst : St 0 s.heap) (F : Fr h₀ env.locals s.heap m) (N : News h₀ env.locals s.heap news)
    (hgo : ∀ i (s' : Shared) v (Q' : Unit → Shared → Prop), St i s'.heap → Q' () s' → wpAny (model prog w) A (letOwnedTupleGo target (.ref I) v) Q' noE s')
    (J : Nat → (Str → Option Value) → List (Addr × Obj) → Prop) (h0 : J 0 m news)
    (step : ∀ i v m₁ news₁ h tk own, i < n → Pv i v → J i m₁ news₁ → (∀ p ∈ news₁, p.1 ∉ wr) → (∀ p ∈ own, p.1 ∈ fp) → (∀ b ∈ wr, ∃ o, (b, o) ∈ own) → Fr h₀ env.locals h m₁ → News h₀ env.locals h (own ++ news₁) →
      wpAny (model prog w) A (assign target env v) (fun _ s₂ => wpAny (model prog w) A (execs body env) (TurnEnd h₀ env.locals wr own (J (i + 1)) s Q) noE s₂) noE { s with heap := h, toks := tk })
    (hR : ∀ h' tk m' news', Fr h₀ env.locals h' m' → News h₀ env.locals h' news' → (∀ p ∈ news', p.1 ∉ wr) → J n m' news' → Q .next { s with heap := h', toks := tk }) {Er : Value → Shared → Prop} :
    codeAny (model prog w) A (.forLoop target (.ref I) body [] env) (fun r s' => match r with | .ok f => Q f s' | .error e => Er e s') s := by
  have hLw : env.locals ∉ wr := fun h => hLf (W.sub _ h)
  have old : ∀ b o, h₀.get? b = some o → b ∉ wr := fun b o e hb => by rw [hwr b hb] at e; cases e
  refine codeAny_forLoop_any
    (LoopJ h₀ env.locals wr n St J s) ?_ (n + 1)
    ⟨s.heap, s.toks, m, news, 0, rfl, hst, F, N, hnw, h0, Nat.zero_le _, rfl⟩
  rintro k s' ⟨h', tk, m', news', i, rfl, hst', F', N', hnw', hJ, hi, rfl⟩
  have next : ∀ h₁ : Heap, (∀ b o, b ∉ wr → h'.get? b = some o → h₁.get? b = some o) → Fr h₀ env.locals h₁ m' ∧ News h₀ env.locals h₁ news' := fun h₁ hk₁ =>
    ⟨⟨F'.ns.at' fun o e => hk₁ _ o hLw e, fun b o e => hk₁ b o (old b o e) (F'.keep b o e), F'.above⟩, fun p hp => ⟨hk₁ _ _ (hnw' p hp) (N' p hp).1, (N' p hp).2⟩⟩
  by_cases hlt : i < n
  · refine W.item i _ _ _ hlt hst' fun v h₁ tk₁ hP hst₁ hk₁ => ?_
    obtain ⟨F₁, N₁⟩ := next h₁ hk₁
    have Nown : News h₀ env.locals h₁ (ownOf h₀ fp h₁) := news_ownOf hLf
    refine wpAny_mono (hgo (i + 1) _ v _ hst₁ ?_) (fun _ _ x => x) (fun _ _ x => x.elim)
    refine wpAny_mono (step i v m' news' h₁ tk₁ (ownOf h₀ fp h₁) hlt hP hJ hnw' ownOf_sub (fun b hb => let ⟨o, e⟩ := hlive _ _ hst₁ b hb; ⟨o, mem_ownOf (W.sub b hb) (hwr b hb) e⟩) F₁ (Nown.append N₁)) (fun _ s₂ h₂ => wpAny_mono h₂ (fun f s₃ h₃ => ?_) fun _ _ x => x.elim) fun _ _ x => x.elim
    have fin : TurnNext h₀ env.locals wr (ownOf h₀ fp h₁) (J (i + 1)) (fun h tk => { s with heap := h, toks := tk }) s₃ → ∃ k', k' < n + 1 - i ∧ LoopJ h₀ env.locals wr n St J s k' s₃ := by
      rintro ⟨h₃', tk₃, m₂, news₂, rfl, F₃, N₃, ha₃, hJ₃⟩
      refine ⟨n + 1 - (i + 1), by omega, h₃', tk₃, m₂, news₂, i + 1, rfl, ?_, F₃, N₃.right, ha₃, hJ₃, hlt, rfl⟩
      refine W.frame _ _ _ hst₁ fun b hb o e => ?_
      cases hn : h₀.get? b with
      | some o₀ =>
        have : o₀ = o := by have := F₁.keep b o₀ hn; rw [e] at this; exact (Option.some.inj this).symm
        exact this ▸ F₃.keep b o₀ hn
      | none => exact (N₃ _ (List.mem_append_left _ (mem_ownOf hb hn e))).1
    cases f with
    | ret v => exact h₃
    | brk => exact h₃
    | next => exact fin h₃
    | cont => exact fin h₃
  · have hin : i = n := by omega
    subst hin
    refine W.done _ _ _ hst' fun h₁ tk₁ hk₁ => wpAny_execs_nil ?_
    obtain ⟨F₁, N₁⟩ := next h₁ hk₁
    exact hR h₁ tk₁ m' news' F₁ N₁ hnw' hJ

theorem loop_made {Q : Flow → Shared → Prop} {target : Expr} {body : List Stmt} {l : Addr} {vs : List Value} {m : Str → Option Value} {news : List (Addr × Obj)} (hh : A.handled = none)
    (hl : s.heap.IsList l vs.toArray) (hll : l ≠ env.locals) (F : Fr h₀ env.locals s.heap m) (N : News h₀ env.locals s.heap news)
    (J : Nat → (Str → Option Value) → List (Addr × Obj) → Prop) (h0 : J 0 m news)
    (step : ∀ i v m₁ news₁ h tk own, vs[i]? = some v → J i m₁ news₁ → (∀ p ∈ news₁, p.1 ≠ s.heap.objs.size) → (∀ p ∈ own, p.1 = s.heap.objs.size ∨ p.1 = l) → (∃ o, (s.heap.objs.size, o) ∈ own) → Fr h₀ env.locals h m₁ → News h₀ env.locals h (own ++ news₁) →
      wpAny (model prog w) A (assign target env v) (fun _ s₂ => wpAny (model prog w) A (execs body env) (TurnEnd h₀ env.locals [s.heap.objs.size] own (J (i + 1)) s Q) noE s₂) noE { s with heap := h, toks := tk })
    (hR : ∀ h' tk m' news', Fr h₀ env.locals h' m' → News h₀ env.locals h' news' → J vs.length m' news' → Q .next { s with heap := h', toks := tk }) :
    wpAny (model prog w) A (pyIter (.ref l)) (fun it s₂ => LoopIs prog w A env target body Q it s₂) noE s := by
  obtain ⟨ol, hol, _⟩ := id hl
  have hne : l ≠ s.heap.objs.size := Nat.ne_of_lt (Heap.lt_size hol)
  refine wpAny_pyIter_list hl fun Er => ?_
  have W := Walks.list (prog := prog) (w := w) hh s.heap.objs.size l hne vs.toArray
  have hlen : vs.toArray.size = vs.length := by simp
  rw [hlen] at W
  refine forLoop_own (s := { s with heap := _ }) W ?_ ?_ ?_ ?_ ⟨⟨_, Heap.get?_push_size _ rfl, rfl, rfl⟩, hl.at fun o e => Heap.get?_push_of_some _ e⟩ (F.push _) (fun p hp => ⟨Heap.get?_push_of_some _ (N p hp).1, (N p hp).2⟩)
    (fun i s' v Q' st hQ' => letGo_listiter st.1 hQ') J h0 ?_ ?_
  · intro i h st b hb
    obtain ⟨o, ho, _⟩ := st.1
    rw [List.mem_singleton.mp hb]
    exact ⟨o, ho⟩
  · intro hm
    rcases List.mem_cons.mp hm with e | hm
    · exact absurd F.ns.lt (e ▸ Nat.lt_irrefl _)
    · exact hll (List.mem_singleton.mp hm).symm
  · intro b hb
    rw [List.mem_singleton.mp hb]
    exact next_is_new F
  · intro p hp hI
    exact absurd (Heap.lt_size (N p hp).1) ((List.mem_singleton.mp hI) ▸ Nat.lt_irrefl _)
  · intro i v m₁ news₁ h tk own hi hv hJ hn hown hlv F₁ N₁
    refine step i v m₁ news₁ h tk own (by simpa using hv) hJ (fun p hp e => hn p hp (by simp [e])) (fun p hp => ?_) (hlv _ (.head _)) F₁ N₁
    rcases List.mem_cons.mp (hown p hp) with e | e
    · exact .inl e
    · exact .inr (List.mem_singleton.mp e)
  · intro h' tk m' news' F' N' _ hJ
    exact hR h' tk m' news' F' N' hJ
end
end Mine
end
section
namespace Mine
local macro_rules | `(tactic| walk_at "MINE inst") => `(tactic| exact InstAt.of_base (by assumption) (by assumption) (Fr.keep (by k_asm)))
local macro_rules | `(tactic| walk_at "MINE stop") => `(tactic| (k_here; refine stop_wp ?_))
local macro_rules | `(tactic| walk_at "MINE name") => `(tactic| (k_here; (with_reducible show wpAny _ _ (eval (Expr.Name _ _) (compEnvC _ _ _ _)) _ _ _); first | (k_dflt (refine' nameC_L (Fr.ns (by k_asm)) ?v1 ?_ ?v2 ?v3 ?v4; (case v1 | v2 | v3 => exact rfl); (case v4 => decide); k_whole)) | (k_dflt (refine' nameC_C ?v0 ?v1 ?_ ?v2 ?v3 ?v4; (case v0 => exact rfl); (case v1 => first | assumption | exact IsCell.mono (Fr.keep (by k_asm)) (by assumption)); (case v2 | v3 => exact rfl); (case v4 => decide); k_whole))))
local macro_rules | `(tactic| walk_at "MINE item") => `(tactic| (k_here; (with_reducible show wpAny _ _ (subscriptTail _ _ (Value.ref _) (Value.int _ _)) _ _ _); k_dflt (refine' item_base ?k1 ?k2 ?k3 ?_ ?k5; (case k2 => assumption); (case k1 => exact stays_list (Fr.keep (by k_asm)) (by assumption)); (case k3 => omega); (case k5 => with_unfolding_all rfl); k_whole)))
local macro_rules | `(tactic| walk_at "MINE enter") => `(tactic| ((case k6 | k7 => k_is); (case k9 => exact fun _ => BindsTo.of_eq rfl); (case c5 => decide); (case kB => exact locs rfl); (case c2 | c3 | c4 => exact rfl); k_whole))
local macro_rules | `(tactic| walk_at "MINE use") => `(tactic| ((case k1 | k2 | k3 | k4 | k5 => k_asm); (case kK => first | exact rfl | assumption)))
local macro_rules | `(tactic| walk_at "MINE room") => `(tactic| ((case kd => ((try simp only [depth_in1, depth_deeper]); omega)); (case ku => ((try simp only [units_in1, units_deeper]); omega))))
local macro_rules | `(tactic| walk_at "MINE range2") => `(tactic| ((case q1 => exact rfl); (case q2 => assumption); (case q5 | q6 => k_asm); (case q7 => exact fun _ _ => rfl)))
local macro_rules | `(tactic| walk_at "exec For Name Call cons nil") => `(tactic| walk_at "MINE stop")
local macro_rules | `(tactic| walk_at "exec For Name Name cons nil") => `(tactic| walk_at "MINE stop")
local macro_rules | `(tactic| walk_at "exec For Tuple Attribute cons nil") => `(tactic| walk_at "MINE stop")
local macro_rules | `(tactic| walk_at "exec For Tuple Call cons nil") => `(tactic| walk_at "MINE stop")
local macro_rules | `(tactic| walk_at "pyIter ref") => `(tactic| ((with_reducible show wpAny _ _ (pyIter (Value.ref _)) (fun it s₂ => LoopIs _ _ _ _ _ _ _ it s₂) _ _); refine stop_wp ?_))
local macro_rules | `(tactic| walk_at "pyIter str") => `(tactic| ((with_reducible show wpAny _ _ (pyIter (Value.str _ _)) (fun it s₂ => LoopIs _ _ _ _ _ _ _ it s₂) _ _); refine stop_wp ?_))
local macro_rules | `(tactic| walk_at "compareOp Lt ref ref") => `(tactic| (k_here; k_dflt (refine' pair_lt ?k1 ?k2 ?k3 ?_; (case k1 | k2 => exact News.isTup (by k_asm) (by k_mem)); (case k3 => ktr_units); k_whole)))
local macro_rules | `(tactic| walk_at "binaryOp Pow int int") => `(tactic| (k_here; (with_reducible refine pow_int_small ?kb1 ?kb2 ?kb3 ?_); (case kb1 | kb2 => first | decide | omega); (case kb3 => decide)))
local macro_rules | `(tactic| walk_at "MINE mem") => `(tactic| with_reducible (repeat (first | exact List.mem_cons_self | refine List.mem_cons_of_mem _ ?_ | refine List.mem_append_right _ ?_)))
local macro_rules | `(tactic| walk_at "MINE sub") => `(tactic| with_reducible ((repeat' (first | exact mem_none | refine mem_app ?_ ?_ | refine mem_step ?_ ?_)); all_goals (first | (intro _ hm9; (repeat (first | exact hm9 | exact List.mem_append_left _ hm9 | refine List.mem_cons_of_mem _ ?_ | refine List.mem_append_right _ ?_)); done) | walk_at "MINE mem")))
section
local macro_rules | `(tactic| walk_at "call ref") => `(tactic| walk_at "MINE stop")
section -- LStd

structure Fn where
  file : Str
  line : Int
  name : Str
inductive FunR (P : Know) : Value → Fn → Prop where
  | mk {a : Addr} {f n : Str} {l : Int} {t1 t2 t3 : Tok} : P a (tupO [.str f t1, .int l t2, .str n t3]) → FunR P (.ref a) ⟨f, l, n⟩
theorem FunR.mono {P Q : Know} {v : Value} {f : Fn} (h : FunR P v f) (hs : ∀ a o, P a o → Q a o) : FunR Q v f := by
  cases h with
  | mk h1 => exact .mk (hs _ _ h1)
def stdText (f : Fn) : Str :=
  if f.file = Str.ofString "~" ∧ f.line = 0 then
    (if Txt.startswith f.name (Str.ofString "<") = true ∧ Txt.endswith f.name (Str.ofString ">") = true then Str.ofString "{" ++ Txt.slice f.name (some 1) (some (-1)) ++ Str.ofString "}" else f.name)
  else f.file ++ Str.ofString ":" ++ Str.ofString (toString f.line) ++ Str.ofString "(" ++ f.name ++ Str.ofString ")"
section
local macro_rules | `(tactic| walk_at "subscriptTail Name Slice ref ref") => `(tactic| (k_here; (with_reducible show wpAny _ _ (subscriptTail _ (PySem.Expr.Slice _ _ none _) (Value.ref _) (Value.ref _)) _ _ _); k_dflt (refine' slice_tup_to2 ?F ?N ?l ?_ ?s ?t; (case F | N => k_asm); (case l => exact IsTup.keeps (by assumption) (Fr.keep (by k_asm))); (case s => with_unfolding_all rfl); (case t => (intro _; with_unfolding_all rfl))); intro D' h' F' N' l1; (try k_lt l1); (try k_sweep)))
local macro_rules | `(tactic| walk_at "compareOp Eq ref ref") => `(tactic| (k_here; k_dflt (refine' pair_eq ?k1 ?k2 ?k3 ?_; (case k1 | k2 => exact News.isTup (by k_asm) (by k_mem)); (case k3 => ktr_units); k_whole)))
local macro_rules | `(tactic| walk_at "binaryOp Mod str ref") => `(tactic| (k_here; k_dflt (refine' pct_tup ?k1 ?k2 ?k3 ?k4 ?k5 ?_; (case k1 => exact IsTup.keeps (by assumption) (Fr.keep (by k_asm))); (case k2 | k3 | k4 | k5 => omega); k_whole); intro _ _))
def std_does_S (b : Base) : Prop := ∀ {v : Value} {fn : Fn} (hv : FunR b.P v fn) (hf : fn.file.length ≤ 3) (hn : fn.name.length ≤ 3) (hl : -99 ≤ fn.line ∧ fn.line ≤ 99), DoesAt b 49 [v] 1 (fun _ r => ∃ u, r = .str (stdText fn) u)
theorem std_does_b : ∃ b, OkAt std_does_S b := OkAt.ex Base.ne _
set_option maxRecDepth 100000 in
set_option maxHeartbeats 0 in
theorem std_does_at : std_does_S (Classical.choose std_does_b) := by
  intro v fn hv hf hn hl
  k_dflt (refine' DoesAt.mk (binds := [(Str.ofString "func_name", v)]) ?k6 ?k7 ?k9 ?kB ?c2 ?c3 ?c4 ?c5 ?_; walk_at "MINE enter")
  intro h' t' hP' F' N' B' X' T' hL' hk' hdp' hun' hQ
  cases hv with
  | mk hp =>
  rename_i a f n l t1 t2 t3
  dsimp only at hf hn hl
  have HX : IsTup (Classical.choose std_does_b).g a _ := ⟨_, hP' _ _ hp, rfl, _, rfl⟩
  (try dsimp only)
  (try k_fold)
  k_steps
  · dsimp only
    exact hQ _ _ <| Ends.of (by k_asm) (by k_asm) ⟨_, by rw [stdText, if_pos (by assumption), if_pos ⟨by assumption, by assumption⟩]⟩
  · dsimp only
    have h9 : Txt.endswith n (Str.ofString ">") = false := by assumption
    exact hQ _ _ <| Ends.of (by k_asm) (by k_asm) ⟨_, by rw [stdText, if_pos (by assumption), if_neg (by simp [h9])]⟩
  · dsimp only
    have h9 : Txt.startswith n (Str.ofString "<") = false := by assumption
    exact hQ _ _ <| Ends.of (by k_asm) (by k_asm) ⟨_, by rw [stdText, if_pos (by assumption), if_neg (by simp [h9])]⟩
  · dsimp only
    exact hQ _ _ <| Ends.of (by k_asm) (by k_asm) ⟨_, by rw [stdText, if_neg (by assumption)]⟩
theorem std_does {w mean mg mb} {P : Know} {v : Value} {fn : Fn} (hv : FunR P v fn) (hf : fn.file.length ≤ 3) (hn : fn.name.length ≤ 3) (hl : -99 ≤ fn.line ∧ fn.line ≤ 99) : Does w mean mg mb 49 [v] 1 P (fun _ r => ∃ u, r = .str (stdText fn) u) :=
  Does.of fun dp un gd cn cs L a ccd cl outer base g L' s Q => OkAt.all std_does_b std_does_at _ hv hf hn hl
end
end
section -- LSeal
theorem Fr.know {h₀ h : Heap} {L : Addr} {m : Str → Option Value} {x : Str} {v : Value} (F : Fr h₀ L h m) (hm : m x = some v) : Fr h₀ L h (fun y => if y = x then some v else m y) := by
  have : (fun y => if y = x then some v else m y) = m := by funext y; by_cases e : y = x <;> simp [e, hm]
  rw [this]; exact F

theorem Fr.know2 {h₀ h : Heap} {L : Addr} {m : Str → Option Value} {x1 x2 : Str} {v1 v2 : Value} (F : Fr h₀ L h m) (h1 : m x1 = some v1) (h2 : m x2 = some v2) : Fr h₀ L h (fun y => if y = x1 then some v1 else if y = x2 then some v2 else m y) := by
  have : (fun y => if y = x1 then some v1 else if y = x2 then some v2 else m y) = m := by
    funext y
    by_cases e1 : y = x1 <;> by_cases e2 : y = x2 <;> simp_all
  rw [this]; exact F
theorem Fr.know3 {h₀ h : Heap} {L : Addr} {m : Str → Option Value} {x1 x2 x3 : Str} {v1 v2 v3 : Value} (F : Fr h₀ L h m) (h1 : m x1 = some v1) (h2 : m x2 = some v2) (h3 : m x3 = some v3) :
    Fr h₀ L h (fun y => if y = x1 then some v1 else if y = x2 then some v2 else if y = x3 then some v3 else m y) := by
  have : (fun y => if y = x1 then some v1 else if y = x2 then some v2 else if y = x3 then some v3 else m y) = m := by
    funext y
    by_cases e1 : y = x1 <;> by_cases e2 : y = x2 <;> by_cases e3 : y = x3 <;> simp_all
  rw [this]; exact F
theorem News.sub {h₀ h : Heap} {L : Addr} {a b : List (Addr × Obj)} (N : News h₀ L h a) (hs : ∀ p ∈ b, p ∈ a) : News h₀ L h b := fun p hp => N p (hs p hp)

def crc_does_S (b : Base) : Prop := ∀ {c : Nat} {t : Tok}, DoesAt b 70 [.int (c : Int) t] 1 (fun _ r => ∃ u, r = .int (crcN 8 c : Nat) u)
theorem crc_does_b : ∃ b, OkAt crc_does_S b := OkAt.ex Base.ne _
set_option maxRecDepth 100000 in
set_option maxHeartbeats 0 in
theorem crc_does_at : crc_does_S (Classical.choose crc_does_b) := by
  intro c t
  k_dflt (refine' DoesAt.mk (binds := [(Str.ofString "crc", .int (c : Int) t)]) ?k6 ?k7 ?k9 ?kB ?c2 ?c3 ?c4 ?c5 ?_; walk_at "MINE enter")
  intro h' t' hP' F' N' B' X' T' hL' hk' hdp' hun' hQ
  (try dsimp only)
  (try k_fold)
  k_steps
  refine Stop.mk (For_is ?_ (fun _ => rfl))
  k_steps
  refine Stop.mk ?_
  k_dflt (refine' loop_range (n := 8) ?r1 ?r2 ?r3 ?r4 ?r5 ?r6 ?r7 (fun i m news => news = [] ∧ ∃ u, m (Str.ofString "crc") = some (.int (crcN i c : Nat) u)) ?r8 ?r9 ?r10; ((case r1 => exact rfl); (case r2 => assumption); (case r5 | r6 => k_asm); (case r7 => exact fun _ _ => rfl)); (case r3 => decide); (case r4 => decide); (case r8 => exact ⟨rfl, _, rfl⟩))
  case r9 =>
    rintro i ti I m₁ news₁ h tk own hi ⟨rfl, u, hm⟩ hn hown F N
    replace F := Fr.know F hm
    generalize hcc : crcN i c = c' at *
    k_steps
    · dsimp only
      rename (Fr _ _ _ _) => FF
      refine TurnEnd.next (news₂ := []) FF (by k_asm) (by simp) ⟨rfl, _, congrArg (fun z => some (Value.int z _)) ?_⟩
      have hb : Builtin.bitAnd (c' : Int) 1 ≠ 0 := by assumption
      have hb2 : c' % 2 = 1 := by rw [bitAnd_m1] at hb; omega
      rw [show (2 : Int) ^ Int.toNat 1 = 2 ^ 1 from rfl, fdiv_nat, show (3988292384 : Int) = ((3988292384 : Nat) : Int) from rfl, bitXor_nat, crcN, hcc, crcBit, if_pos hb2]
    · dsimp only
      rename (Fr _ _ _ _) => FF
      refine TurnEnd.next (news₂ := []) FF (by k_asm) (by simp) ⟨rfl, _, congrArg (fun z => some (Value.int z _)) ?_⟩
      have hb : Builtin.bitAnd (c' : Int) 1 = 0 := by first | assumption | exact Decidable.not_not.mp (by assumption)
      have hb2 : ¬ (c' % 2 = 1) := by rw [bitAnd_m1] at hb; omega
      rw [show (2 : Int) ^ Int.toNat 1 = 2 ^ 1 from rfl, fdiv_nat, crcN, hcc, crcBit, if_neg hb2]
  case r10 =>
    rintro h9 tk9 m9 news9 F9 N9 ⟨rfl, u, hm⟩
    replace F9 := Fr.know F9 hm
    k_steps
    exact hQ _ _ <| Ends.of (by k_asm) (by k_asm) ⟨_, rfl⟩
theorem crc_does {w mean mg mb} {P : Know} {c : Nat} {t : Tok} : Does w mean mg mb 70 [.int (c : Int) t] 1 P (fun _ r => ∃ u, r = .int (crcN 8 c : Nat) u) :=
  Does.of fun dp un gd cn cs L a ccd cl outer base g L' s Q => OkAt.all crc_does_b crc_does_at _ 
def run_does_S (b : Base) : Prop := ∀ {x : Str} {t : Tok}, DoesAt b 84 [.str x t] 2 (fun _ r => ∃ u, r = .int (runN x.cps.toList : Nat) u)
theorem run_does_b : ∃ b, OkAt run_does_S b := OkAt.ex Base.ne _
set_option maxRecDepth 100000 in
set_option maxHeartbeats 0 in
theorem run_does_at : run_does_S (Classical.choose run_does_b) := by
  intro x t
  k_dflt (refine' DoesAt.mk (binds := [(Str.ofString "text", .str x t)]) ?k6 ?k7 ?k9 ?kB ?c2 ?c3 ?c4 ?c5 ?_; walk_at "MINE enter")
  intro h' t' hP' F' N' B' X' T' hL' hk' hdp' hun' hQ
  (try dsimp only)
  (try k_fold)
  k_steps
  refine Stop.mk (For_is ?_ (fun _ => rfl))
  k_steps
  refine Stop.mk ?_
  k_dflt (refine' loop_str ?r1 ?r5 ?r6 ?r7 (fun i m news => news = [] ∧ ∃ u, m (Str.ofString "crc") = some (.int (runAll (2 ^ 32 - 1) (x.cps.toList.take i) : Nat) u)) ?r8 ?r9 ?r10; (case r1 => exact rfl); (case r5 => k_asm); (case r6 => k_asm); (case r7 => exact fun _ _ => rfl); (case r8 => exact ⟨rfl, _, rfl⟩))
  case r9 =>
    rintro i c ti I m₁ news₁ h tk own hi ⟨rfl, u, hm⟩ hn hown F N
    replace F := Fr.know F hm
    generalize hcc : runAll (2 ^ 32 - 1) (x.cps.toList.take i) = c' at *
    k_steps
    refine Stop.mk ?_
    rw [bitXor_nat]
    k_dflt (refine' Does.use hP' ?kC ?k1 ?k2 ?k3 ?k4 ?k5 ?kK ?kd ?ku ?_ ?km; walk_at "MINE use")
    case kC => exact crc_does
    case km => exact fun _ _ _ _ t => t
    walk_at "MINE room"
    rintro r9 tl9 h9 tk9 F9 N9 hne9 ⟨u9, rfl⟩
    dsimp only
    k_steps
    dsimp only
    rename (Fr _ _ _ _) => FF
    rename (News _ _ _ _) => NN
    refine TurnEnd.next (news₂ := []) FF (News.sub NN fun _ h => List.mem_append_right _ h) (by simp) ⟨rfl, _, congrArg (fun z => some (Value.int z _)) ?_⟩
    have ht : x.cps.toList.take (i + 1) = x.cps.toList.take i ++ [c] := by rw [List.take_add_one]; simp [hi]
    rw [ht, runAll, List.foldl_append]
    rw [runAll] at hcc
    rw [hcc]; rfl
  case r10 =>
    rintro h9 tk9 m9 news9 F9 N9 ⟨rfl, u, hm⟩
    replace F9 := Fr.know F9 hm
    k_steps
    refine hQ _ _ (Ends.of (by k_asm) (by k_asm) ⟨_, congrArg (fun z => Value.int z _) ?_⟩)
    have ht : x.cps.toList.take x.cps.size = x.cps.toList := by rw [← Array.length_toList, List.take_length]
    rw [ht, show (2 : Int) ^ Int.toNat 32 - 1 = ((2 ^ 32 - 1 : Nat) : Int) from rfl, bitXor_nat]; rfl
theorem run_does {w mean mg mb} {P : Know} {x : Str} {t : Tok} : Does w mean mg mb 84 [.str x t] 2 P (fun _ r => ∃ u, r = .int (runN x.cps.toList : Nat) u) :=
  Does.of fun dp un gd cn cs L a ccd cl outer base g L' s Q => OkAt.all run_does_b run_does_at _ 
section

theorem up_nat {p : Nat} : (0 + (p : Int) * 1).toNat = p := by rw [Int.zero_add, Int.mul_one]; rfl
theorem down_nat {n p : Nat} (h : p ≤ n) : ((n : Int) + (p : Int) * -1).toNat = n - p := by rw [Int.mul_neg, Int.mul_one, ← Int.sub_eq_add_neg, ← Int.ofNat_sub h]; rfl
theorem down_nat2 {n p : Nat} (h : p + 32 ≤ n) : ((n : Int) + (p : Int) * -1 - 32).toNat = n - p - 32 := by
  rw [Int.mul_neg, Int.mul_one, ← Int.sub_eq_add_neg, ← Int.ofNat_sub (Nat.le_trans (Nat.le_add_right p 32) h)]
  exact congrArg Int.toNat (Int.ofNat_sub (m := 32) (Nat.le_sub_of_add_le (Nat.add_comm p 32 ▸ h))).symm
theorem flip_cast (w n : Nat) : 2 * (w : Int) + (1 - (n : Int) % 2) = ((2 * w + (1 - n % 2) : Nat) : Int) := by
  have e : (n : Int) % 2 = ((n % 2 : Nat) : Int) := rfl
  rw [e]
  rcases Nat.mod_two_eq_zero_or_one n with h | h <;> rw [h] <;> rfl
theorem push_cast_ (w n : Nat) : 2 * (w : Int) + (n : Int) % 2 = ((2 * w + n % 2 : Nat) : Int) := rfl
theorem range_down : ∀ n : Fin 21, Builtin.Range.small (8 * (n.1 : Int) + 31) 31 (-1) = true ∧ Builtin.Range.rangeSize (8 * (n.1 : Int) + 31) 31 (-1) = ((8 * n.1 : Nat) : Int) := by decide
local macro_rules | `(tactic| walk_at "call builtin:len") => `(tactic| (k_here; (with_reducible show wpAny _ _ (call (Value.builtin _) [Value.str _ _]) _ _ _); refine PySem.P.len_str (by simp only [Str.length]; omega) ?_))
def seal_does_S (b : Base) : Prop := ∀ {x : Str} {t : Tok} (hx : x.cps.size ≤ 20), DoesAt b 77 [.str x t] 1 (fun _ r => ∃ u, r = .int (sealN x.cps.toList : Nat) u)
theorem seal_does_b : ∃ b, OkAt seal_does_S b := OkAt.ex Base.ne _
set_option maxRecDepth 100000 in
set_option maxHeartbeats 0 in
theorem seal_does_at : seal_does_S (Classical.choose seal_does_b) := by
  intro x t hx
  k_dflt (refine' DoesAt.mk (binds := [(Str.ofString "text", .str x t)]) ?k6 ?k7 ?k9 ?kB ?c2 ?c3 ?c4 ?c5 ?_; walk_at "MINE enter")
  intro h' t' hP' F' N' B' X' T' hL' hk' hdp' hun' hQ
  (try dsimp only)
  (try k_fold)
  k_steps
  refine Stop.mk (For_is ?_ (fun _ => rfl))
  k_steps
  refine Stop.mk ?_
  k_dflt (refine' loop_str ?r1 ?r5 ?r6 ?r7 (fun i m news => news = [] ∧ m (Str.ofString "text") = some (.str x t) ∧ ∃ u, m (Str.ofString "whole") = some (.int (pushAll 0 (x.cps.toList.take i) : Nat) u)) ?r8 ?r9 ?r10; (case r1 => exact rfl); (case r5 => k_asm); (case r6 => k_asm); (case r7 => exact fun _ _ => rfl); (case r8 => exact ⟨rfl, rfl, _, rfl⟩))
  case r9 =>
    rintro i c ti I m₁ news₁ h tk own hi ⟨rfl, hm1, u, hm⟩ hn hown F N
    replace F := Fr.know2 F hm hm1
    generalize hcc : pushAll 0 (x.cps.toList.take i) = c' at *
    k_steps
    refine Stop.mk (For_is ?_ (fun _ => rfl))
    k_steps
    refine Stop.mk ?_
    k_dflt (refine' loop_range (n := 8) ?q1 ?q2 ?q3 ?q4 ?q5 ?q6 ?q7 (fun p m news => news = own ++ [] ∧ m (Str.ofString "text") = some (.str x t) ∧ (∃ u, m (Str.ofString "sign") = some (.str ⟨#[c]⟩ u)) ∧ ∃ u, m (Str.ofString "whole") = some (.int (pushByte c' c p : Nat) u)) ?q8 ?q9 ?q10; walk_at "MINE range2"; (case q3 => decide); (case q4 => decide); (case q8 => exact ⟨rfl, rfl, ⟨_, rfl⟩, _, rfl⟩))
    case q9 =>
      rintro p tp Ip m₂ news₂ h₂ tk₂ own₂ hp ⟨rfl, hm2, ⟨us, hm3⟩, uw, hm4⟩ hn₂ hown₂ F₂ N₂
      replace F₂ := Fr.know3 F₂ hm2 hm3 hm4
      generalize hww : pushByte c' c p = w' at *
      k_steps
      dsimp only
      rename (Fr _ _ _ _) => FF
      refine TurnEnd.next (news₂ := own ++ []) FF (by k_asm) (fun p hp => by simpa using hn₂ p hp) ⟨rfl, rfl, ⟨_, rfl⟩, _, congrArg (fun z => some (Value.int z _)) ?_⟩
      rw [up_nat, fdiv_nat, bitAnd_m1, pushByte, hww]
      exact push_cast_ w' _
    case q10 =>
      rintro h9 tk9 m9 news9 F9 N9 ⟨rfl, hm2, ⟨us, hm3⟩, uw, hm4⟩
      replace F9 := Fr.know3 F9 hm2 hm3 hm4
      k_steps
      dsimp only
      rename (Fr _ _ _ _) => FF
      refine TurnEnd.next (news₂ := []) FF (by k_asm) (by simp) ⟨rfl, rfl, _, congrArg (fun z => some (Value.int z _)) ?_⟩
      have ht : x.cps.toList.take (i + 1) = x.cps.toList.take i ++ [c] := by rw [List.take_add_one]; simp [hi]
      rw [ht, pushAll, List.foldl_append]
      rw [pushAll] at hcc
      rw [hcc]; rfl
  case r10 =>
    rintro h9 tk9 m9 news9 F9 N9 ⟨rfl, hm1, u, hm⟩
    have ht : x.cps.toList.take x.cps.size = x.cps.toList := by rw [← Array.length_toList, List.take_length]
    rw [ht] at hm
    replace F9 := Fr.know2 F9 hm hm1
    generalize hcc : pushAll 0 (x.cps.toList) = c' at *
    have hx' : x.length ≤ 20 := hx
    have hx0 : 0 ≤ (x.length : Int) := by omega
    k_steps
    refine Stop.mk (For_is ?_ (fun _ => rfl))
    rename (Fr _ _ _ _) => FW
    (try dsimp only at FW)
    have hW : Builtin.bitXor ((c' : Int) * 2 ^ Int.toNat 32) ((2 ^ Int.toNat 32 - 1) * 2 ^ (8 * (x.length : Int)).toNat) = ((wholeN x.cps.toList : Nat) : Int) := by
      rw [show (8 * (x.length : Int)).toNat = 8 * x.cps.toList.length by rw [Array.length_toList]; show (8 * (x.cps.size : Int)).toNat = _; omega, show (2 : Int) ^ Int.toNat 32 - 1 = ((2 ^ 32 - 1 : Nat) : Int) from rfl, show (2 : Int) ^ Int.toNat 32 = ((2 ^ 32 : Nat) : Int) from rfl, ← kbt_cast, ← Int.natCast_mul, ← Int.natCast_mul, bitXor_nat, wholeN, hcc]
    rw [hW] at FW
    generalize hWW : wholeN x.cps.toList = W at *
    k_steps
    refine Stop.mk ?_
    k_dflt (refine' loop_range (n := 8 * x.length) ?q1 ?q2 ?q3 ?q4 ?q5 ?q6 ?q7 (fun i m news => news = [] ∧ ∃ u, m (Str.ofString "whole") = some (.int (divN W (8 * x.length) i : Nat) u)) ?q8 ?q9 ?q10; walk_at "MINE range2")
    case q3 => exact (range_down ⟨x.length, by omega⟩).1
    case q4 => exact (range_down ⟨x.length, by omega⟩).2
    case q8 => exact ⟨rfl, _, rfl⟩
    case q9 =>
      rintro p tp Ip m₂ news₂ h₂ tk₂ own₂ hp ⟨rfl, uw, hm4⟩ hn₂ hown₂ F₂ N₂
      replace F₂ := Fr.know F₂ hm4
      generalize hww : divN W (8 * x.length) p = w' at *
      have hp' : (p : Int) < 8 * (x.length : Int) := by omega
      have hp0 : (0 : Int) ≤ (p : Int) := by omega
      have e1 : (8 * (x.length : Int) + 31 + (p : Int) * -1).toNat = 8 * x.length + 31 - p := down_nat (n := 8 * x.length + 31) (Nat.le_of_lt (Nat.lt_add_right 31 hp))
      have e2 : (8 * (x.length : Int) + 31 + (p : Int) * -1 - 32).toNat = 8 * x.length + 31 - p - 32 := down_nat2 (n := 8 * x.length + 31) (by omega)
      k_steps
      · dsimp only
        rename (Fr _ _ _ _) => FF
        have hb : Builtin.bitAnd ((w' : Int).fdiv (2 ^ (8 * (x.length : Int) + 31 + (p : Int) * -1).toNat)) 1 = 1 := by assumption
        refine TurnEnd.next (news₂ := []) FF (by k_asm) (by simp) ⟨rfl, _, congrArg (fun z => some (Value.int z _)) ?_⟩
        rw [e1, fdiv_nat, bitAnd_m1] at hb
        have hb2 : w' / 2 ^ (8 * x.length + 31 - p) % 2 = 1 := by omega
        rw [e2, ← kbt_cast, show (4374732215 : Int) = ((4374732215 : Nat) : Int) from rfl, ← Int.natCast_mul, bitXor_nat, divN, hww, divStep, if_pos hb2]
      · dsimp only
        rename (Fr _ _ _ _) => FF
        have hb : Builtin.bitAnd ((w' : Int).fdiv (2 ^ (8 * (x.length : Int) + 31 + (p : Int) * -1).toNat)) 1 ≠ 1 := by assumption
        refine TurnEnd.next (news₂ := []) FF (by k_asm) (by simp) ⟨rfl, _, congrArg (fun z => some (Value.int z _)) ?_⟩
        rw [e1, fdiv_nat, bitAnd_m1] at hb
        have hb2 : ¬ (w' / 2 ^ (8 * x.length + 31 - p) % 2 = 1) := by omega
        rw [divN, hww, divStep, if_neg hb2]
    case q10 =>
      rintro h9 tk9 m9 news9 F9 N9 ⟨rfl, uw, hm4⟩
      replace F9 := Fr.know F9 hm4
      generalize hDD : divN W (8 * x.length) (8 * x.length) = D at *
      k_steps
      refine Stop.mk (For_is ?_ (fun _ => rfl))
      k_steps
      refine Stop.mk ?_
      k_dflt (refine' loop_range (n := 32) ?q1 ?q2 ?q3 ?q4 ?q5 ?q6 ?q7 (fun i m news => news = [] ∧ (∃ u, m (Str.ofString "whole") = some (.int (D : Nat) u)) ∧ ∃ u, m (Str.ofString "told") = some (.int (toldN D i : Nat) u)) ?q8 ?q9 ?q10; walk_at "MINE range2"; (case q3 => decide); (case q4 => decide); (case q8 => exact ⟨rfl, ⟨_, rfl⟩, _, rfl⟩))
      case q9 =>
        rintro p tp Ip m₂ news₂ h₂ tk₂ own₂ hp ⟨rfl, ⟨uw, hm4⟩, ut, hm5⟩ hn₂ hown₂ F₂ N₂
        replace F₂ := Fr.know2 F₂ hm4 hm5
        generalize hww : toldN D p = w' at *
        k_steps
        dsimp only
        rename (Fr _ _ _ _) => FF
        refine TurnEnd.next (news₂ := []) FF (by k_asm) (by simp) ⟨rfl, ⟨_, rfl⟩, _, congrArg (fun z => some (Value.int z _)) ?_⟩
        rw [up_nat, fdiv_nat, bitAnd_m1, toldN, hww]
        exact flip_cast w' _
      case q10 =>
        rintro h9 tk9 m9 news9 F9 N9 ⟨rfl, ⟨uw, hm4⟩, ut, hm5⟩
        replace F9 := Fr.know F9 hm5
        k_steps
        refine hQ _ _ (Ends.of (by k_asm) (by k_asm) ⟨_, congrArg (fun z => Value.int z _) ?_⟩)
        rw [sealN, hWW, Array.length_toList]
        show ((toldN D 32 : Nat) : Int) = ((toldN (divN W (8 * x.length) (8 * x.length)) 32 : Nat) : Int)
        rw [hDD]
theorem seal_does {w mean mg mb} {P : Know} {x : Str} {t : Tok} (hx : x.cps.size ≤ 20) : Does w mean mg mb 77 [.str x t] 1 P (fun _ r => ∃ u, r = .int (sealN x.cps.toList : Nat) u) :=
  Does.of fun dp un gd cn cs L a ccd cl outer base g L' s Q => OkAt.all seal_does_b seal_does_at _ hx
end
end
section -- LCmp
section
inductive KeyR (P : Know) : Value → Int × Int → Prop where
  | mk {a : Addr} {i d : Int} {t u : Tok} : P a (tupO [.int i t, .int d u]) → KeyR P (.ref a) (i, d)
inductive CompR (P : Know) : Value → List (Int × Int) → Prop where
  | mk {c d l : Addr} {hs : Int} {tk : Tok} {n k : Nat} {v0 v1 v2 : Value} {k0 k1 k2 : Int × Int} : P c (instObj 38 d) → P d (dictOf [⟨hs, .str (Str.ofString "comp_select_list") tk, .ref l⟩] n) → P l (listO [v0, v1, v2] k) →
      KeyR P v0 k0 → KeyR P v1 k1 → KeyR P v2 k2 → CompR P (.ref c) [k0, k1, k2]
def ltCol (i : Int) (f g : Fn) : Bool := if i = 0 then decide (f.file.cps.toList < g.file.cps.toList) else if i = 1 then decide (f.line < g.line) else decide (f.name.cps.toList < g.name.cps.toList)
def cmpF : List (Int × Int) → Fn → Fn → Int
  | [], _, _ => 0
  | (i, d) :: ks, f, g => if ltCol i f g then -d else if ltCol i g f then d else cmpF ks f g
theorem cmpF_cons (i d : Int) (ks : List (Int × Int)) (f g : Fn) : cmpF ((i, d) :: ks) f g = if ltCol i f g then -d else if ltCol i g f then d else cmpF ks f g := rfl
theorem drop_of_get {α : Type} {l : List α} {i : Nat} {k : α} (h : l[i]? = some k) : l.drop i = k :: l.drop (i + 1) := by
  obtain ⟨hlt, he⟩ := List.getElem?_eq_some_iff.mp h
  rw [List.drop_eq_getElem_cons hlt, he]
local macro_rules | `(tactic| k_inst) => `(tactic| walk_at "MINE inst")
def cmp_does_S (b : Base) : Prop := ∀ {cv xv yv : Value} {ks : List (Int × Int)} {f g : Fn} (hc : CompR b.P cv ks) (hx : FunR b.P xv f) (hy : FunR b.P yv g) (hks : ∀ k ∈ ks, k.1 = 0 ∨ k.1 = 1 ∨ k.1 = 2), DoesAt b 35 [cv, xv, yv] 1 (fun _ r => ∃ u, r = .int (cmpF ks f g) u)
theorem cmp_does_b : ∃ b, OkAt cmp_does_S b := OkAt.ex Base.ne _
set_option maxRecDepth 100000 in
set_option maxHeartbeats 0 in
theorem cmp_does_at : cmp_does_S (Classical.choose cmp_does_b) := by
  intro cv xv yv ks f g hc hx hy hks
  k_dflt (refine' DoesAt.mk (binds := [(Str.ofString "self", cv), (Str.ofString "left", xv), (Str.ofString "right", yv)]) ?k6 ?k7 ?k9 ?kB ?c2 ?c3 ?c4 ?c5 ?_; walk_at "MINE enter")
  intro h' t' hP' F' N' B' X' T' hL' hk' hdp' hun' hQ
  cases hx with
  | mk px =>
  rename_i xa xf xn xl xt1 xt2 xt3
  cases hy with
  | mk py =>
  rename_i ya yf yn yl yt1 yt2 yt3
  cases hc with
  | mk pc pd pl q0 q1 q2 =>
  rename_i ca da la hsa tka na ka v0 v1 v2 k0 k1 k2
  have HX := hP' _ _ pc
  have HD := hP' _ _ pd
  (try dsimp only)
  (try k_fold)
  k_steps
  refine Stop.mk (For_is ?_ (fun _ => rfl))
  k_steps
  refine Stop.mk ?_
  have HX2 : IsTup (Classical.choose cmp_does_b).g xa _ := ⟨_, hP' _ _ px, rfl, _, rfl⟩
  have HY2 : IsTup (Classical.choose cmp_does_b).g ya _ := ⟨_, hP' _ _ py, rfl, _, rfl⟩
  have HL : (Classical.choose cmp_does_b).g.IsList la [v0, v1, v2].toArray := ⟨_, hP' _ _ pl, rfl, _, rfl⟩
  k_dflt (refine' loop_list ?r1 HL ?r5 ?r6 (fun i m news => news = [] ∧ m (Str.ofString "left") = some (.ref xa) ∧ m (Str.ofString "right") = some (.ref ya) ∧ cmpF [k0, k1, k2] ⟨xf, xl, xn⟩ ⟨yf, yl, yn⟩ = cmpF ([k0, k1, k2].drop i) ⟨xf, xl, xn⟩ ⟨yf, yl, yn⟩) ?r8 ?r9 ?r10; (case r1 => exact rfl); (case r5 => k_asm); (case r6 => k_asm); (case r8 => exact ⟨rfl, rfl, rfl, rfl⟩))
  case r9 =>
    rintro i v I m₁ news₁ h tk own hi ⟨rfl, hm1, hm2, hJ⟩ hn hown F N
    replace F := Fr.know2 F hm1 hm2
    obtain ⟨k, hk, hki⟩ : ∃ k, KeyR (Classical.choose cmp_does_b).P v k ∧ [k0, k1, k2][i]? = some k := by
      match i, hi with
      | 0, hi => cases hi; exact ⟨_, q0, rfl⟩
      | 1, hi => cases hi; exact ⟨_, q1, rfl⟩
      | 2, hi => cases hi; exact ⟨_, q2, rfl⟩
    cases hk with
    | mk pk =>
    rename_i ak ik dk tk1 tk2
    have HK : IsTup (Classical.choose cmp_does_b).g ak _ := ⟨_, hP' _ _ pk, rfl, _, rfl⟩
    have hik : ik = 0 ∨ ik = 1 ∨ ik = 2 := hks _ (List.mem_of_getElem? hki)
    have hd := drop_of_get hki
    rw [hd] at hJ
    replace hJ := hJ.trans (cmpF_cons _ _ _ _ _)
    rcases hik with rfl | rfl | rfl
    · k_steps
      · have hb : ltCol 0 ⟨xf, xl, xn⟩ ⟨yf, yl, yn⟩ = true := decide_eq_true (by assumption)
        rw [if_pos hb] at hJ
        dsimp only [TurnEnd]
        refine hQ _ _ (Ends.of (news := []) (by k_asm) News.nil ?_)
        exact ⟨_, by rw [hJ]⟩
      · have hb : ltCol 0 ⟨xf, xl, xn⟩ ⟨yf, yl, yn⟩ = false := decide_eq_false (by assumption)
        have hb2 : ltCol 0 ⟨yf, yl, yn⟩ ⟨xf, xl, xn⟩ = true := decide_eq_true (by assumption)
        rw [if_neg (by rw [hb]; decide), if_pos hb2] at hJ
        dsimp only [TurnEnd]
        refine hQ _ _ (Ends.of (news := []) (by k_asm) News.nil ?_)
        exact ⟨_, by rw [hJ]⟩
      · have hb : ltCol 0 ⟨xf, xl, xn⟩ ⟨yf, yl, yn⟩ = false := decide_eq_false (by assumption)
        have hb2 : ltCol 0 ⟨yf, yl, yn⟩ ⟨xf, xl, xn⟩ = false := decide_eq_false (by assumption)
        rw [if_neg (by rw [hb]; decide), if_neg (by rw [hb2]; decide)] at hJ
        exact TurnEnd.next (news₂ := []) (by k_asm) (by k_asm) (by simp) ⟨rfl, rfl, rfl, hJ⟩
    · k_steps
      · have hb : ltCol 1 ⟨xf, xl, xn⟩ ⟨yf, yl, yn⟩ = true := decide_eq_true (by assumption)
        rw [if_pos hb] at hJ
        dsimp only [TurnEnd]
        refine hQ _ _ (Ends.of (news := []) (by k_asm) News.nil ?_)
        exact ⟨_, by rw [hJ]⟩
      · have hb : ltCol 1 ⟨xf, xl, xn⟩ ⟨yf, yl, yn⟩ = false := decide_eq_false (by assumption)
        have hb2 : ltCol 1 ⟨yf, yl, yn⟩ ⟨xf, xl, xn⟩ = true := decide_eq_true (by assumption)
        rw [if_neg (by rw [hb]; decide), if_pos hb2] at hJ
        dsimp only [TurnEnd]
        refine hQ _ _ (Ends.of (news := []) (by k_asm) News.nil ?_)
        exact ⟨_, by rw [hJ]⟩
      · have hb : ltCol 1 ⟨xf, xl, xn⟩ ⟨yf, yl, yn⟩ = false := decide_eq_false (by assumption)
        have hb2 : ltCol 1 ⟨yf, yl, yn⟩ ⟨xf, xl, xn⟩ = false := decide_eq_false (by assumption)
        rw [if_neg (by rw [hb]; decide), if_neg (by rw [hb2]; decide)] at hJ
        exact TurnEnd.next (news₂ := []) (by k_asm) (by k_asm) (by simp) ⟨rfl, rfl, rfl, hJ⟩
    · k_steps
      · have hb : ltCol 2 ⟨xf, xl, xn⟩ ⟨yf, yl, yn⟩ = true := decide_eq_true (by assumption)
        rw [if_pos hb] at hJ
        dsimp only [TurnEnd]
        refine hQ _ _ (Ends.of (news := []) (by k_asm) News.nil ?_)
        exact ⟨_, by rw [hJ]⟩
      · have hb : ltCol 2 ⟨xf, xl, xn⟩ ⟨yf, yl, yn⟩ = false := decide_eq_false (by assumption)
        have hb2 : ltCol 2 ⟨yf, yl, yn⟩ ⟨xf, xl, xn⟩ = true := decide_eq_true (by assumption)
        rw [if_neg (by rw [hb]; decide), if_pos hb2] at hJ
        dsimp only [TurnEnd]
        refine hQ _ _ (Ends.of (news := []) (by k_asm) News.nil ?_)
        exact ⟨_, by rw [hJ]⟩
      · have hb : ltCol 2 ⟨xf, xl, xn⟩ ⟨yf, yl, yn⟩ = false := decide_eq_false (by assumption)
        have hb2 : ltCol 2 ⟨yf, yl, yn⟩ ⟨xf, xl, xn⟩ = false := decide_eq_false (by assumption)
        rw [if_neg (by rw [hb]; decide), if_neg (by rw [hb2]; decide)] at hJ
        exact TurnEnd.next (news₂ := []) (by k_asm) (by k_asm) (by simp) ⟨rfl, rfl, rfl, hJ⟩
  case r10 =>
    rintro h9 tk9 m9 news9 F9 N9 ⟨rfl, hm1, hm2, hJ⟩
    k_steps
    exact hQ _ _ <| Ends.of (by k_asm) (by k_asm) ⟨_, by rw [hJ]; rfl⟩
theorem cmp_does {w mean mg mb} {P : Know} {cv xv yv : Value} {ks : List (Int × Int)} {f g : Fn} (hc : CompR P cv ks) (hx : FunR P xv f) (hy : FunR P yv g) (hks : ∀ k ∈ ks, k.1 = 0 ∨ k.1 = 1 ∨ k.1 = 2) : Does w mean mg mb 35 [cv, xv, yv] 1 P (fun _ r => ∃ u, r = .int (cmpF ks f g) u) :=
  Does.of fun dp un gd cn cs L a ccd cl outer base g L' s Q => OkAt.all cmp_does_b cmp_does_at _ hc hx hy hks
end
end
section -- LCall
section
local macro_rules | `(tactic| walk_at "setItem ref str") => `(tactic| walk_at "MINE stop")
local macro_rules | `(tactic| walk_at "compareOp In str ref") => `(tactic| walk_at "MINE stop")
def callers_does_S (b : Base) : Prop := ∀ {tv sv : Value} {tc sc : List (Str × Int)} (ht : DictR b.w b.P tv tc) (hs : DictR b.w b.P sv sc) (hsz : tc.length + sc.length ≤ 1000), DoesAt b 63 [tv, sv] 1 (fun P' r => DictR b.w P' r (addAll tc sc))
theorem callers_does_b : ∃ b, OkAt callers_does_S b := OkAt.ex Base.ne _
set_option maxRecDepth 100000 in
set_option maxHeartbeats 0 in
theorem callers_does_at : callers_does_S (Classical.choose callers_does_b) := by
  intro tv sv tc sc ht hs hsz
  k_dflt (refine' DoesAt.mk (binds := [(Str.ofString "target", tv), (Str.ofString "source", sv)]) ?k6 ?k7 ?k9 ?kB ?c2 ?c3 ?c4 ?c5 ?_; walk_at "MINE enter")
  intro h' t' hP' F' N' B' X' T' hL' hk' hdp' hun' hQ
  cases ht with
  | mk pt it st vt =>
  rename_i ta tob tkvs
  cases hs with
  | mk ps is ss vs =>
  rename_i sa sob skvs
  have HT := hP' _ _ pt
  have HS := hP' _ _ ps
  have ndT : (tkvs.map (·.1)).Nodup := by obtain ⟨_, _, _, _, _, _, h⟩ := it; exact h
  have lT := vt.length
  have lS := vs.length
  (try dsimp only)
  (try k_fold)
  k_steps
  rename_i dN hN oN lN sN _ _ _ _ _ FN NN
  refine Stop.mk ?_
  k_dflt (refine' For_items (knd := kd (Classical.choose callers_does_b).w) ?i1 HT it st ?i4 ?i5 ?i6 ?i7 ?i8 ?i9 ?i10 ?i11 (fun i m news => ∃ o, news = [(dN, o)] ∧ o.IsDictOf (kd (Classical.choose callers_does_b).w) (tkvs.take i) ∧ m (Str.ofString "new_callers") = some (.ref dN) ∧ m (Str.ofString "source") = some (.ref sa)) ?i12 ?i13 ?i14 ?i15; (case i1 => exact rfl); (case i4 => k_asm); (case i5 => k_asm); (case i6 => exact rfl); (case i7 => exact rfl); (case i8 => exact rfl); (case i9 => exact rfl); (case i10 => exact rfl); (case i15 => exact fun _ => rfl); (case i12 => exact ⟨_, rfl, sN, rfl, rfl⟩))
  case i11 => intro Q9 h9; k_steps; exact h9
  case i13 =>
    rintro i k v key I m₁ news₁ ⟨h1, g1, d1, tk1, os1⟩ own hi hkey ⟨o1, rfl, hd1, hm1, hm2⟩ hn hown F N
    rw [know_map2 hm1 hm2] at F
    obtain ⟨tkey, rfl⟩ := isStr_of hkey
    have hne : ∀ p ∈ own, p.1 ≠ dN := fun p hp e => hn (dN, o1) (.head _) (e.symm.trans (hown p hp))
    (try dsimp only at F N)
    k_steps
    refine Stop.mk ?_
    k_dflt (refine' setItem_mine hkey ?F ?N hne hd1 ?z ?_; (case F => k_asm); (case N => k_asm); (case z => (rw [List.length_take, sizeLine_eq]; omega)))
    intro h9 o9 F9 N9 hd9
    k_steps
    rw [take_stored ndT hi] at hd9
    exact LoopStepU.intro (by k_asm) N9 (fun p hp => by rw [List.mem_singleton.mp hp]; simpa using hn (dN, o1) (.head _)) ⟨o9, rfl, hd9, rfl, rfl⟩
  case i14 =>
    rintro h9 tk9 m9 news9 F9 N9 ⟨o9, rfl, hd9, hm1, hm2⟩
    rw [know_map2 hm1 hm2] at F9
    rw [List.take_length] at hd9
    (try dsimp only at F9 N9)
    k_steps
    refine Stop.mk ?_
    k_dflt (refine' For_items (knd := kd (Classical.choose callers_does_b).w) ?i1 HS is ss ?i4 ?i5 ?i6 ?i7 ?i8 ?i9 ?i10 ?j11 (fun i m news => ∃ o kvs, news = [(dN, o)] ∧ o.IsDictOf (kd (Classical.choose callers_does_b).w) kvs ∧ IntVals kvs (addAll tc (sc.take i)) ∧ m (Str.ofString "new_callers") = some (.ref dN)) ?i12 ?j13 ?j14 ?i15; (case i1 => exact rfl); (case i4 => k_asm); (case i5 => k_asm); (case i6 => exact rfl); (case i7 => exact rfl); (case i8 => exact rfl); (case i9 => exact rfl); (case i10 => exact rfl); (case i15 => exact fun _ => rfl); (case i12 => exact ⟨_, _, rfl, hd9, vt, rfl⟩))
    case j11 => intro Q9 h9; k_steps; exact h9
    case j13 =>
      rintro i k v key I m₁ news₁ ⟨h1, g1, d1, tk1, os1⟩ own hi hkey ⟨o1, kvs1, rfl, hd1, hv1, hm1⟩ hn hown F N
      rw [know_map1 hm1] at F
      obtain ⟨tkey, rfl⟩ := isStr_of hkey
      obtain ⟨n, tn, rfl, hsi⟩ := vs.get hi
      have hne : ∀ p ∈ own, p.1 ≠ dN := fun p hp e => hn (dN, o1) (.head _) (e.symm.trans (hown p hp))
      have nd1 : (kvs1.map (·.1)).Nodup := by obtain ⟨_, _, _, _, _, _, h⟩ := hd1; exact h
      have ht1 : addAll tc (sc.take (i + 1)) = addOne (addAll tc (sc.take i)) k n := by
        unfold addAll
        rw [List.take_add_one, hsi, List.foldl_append]; rfl
      have hl1 : kvs1.length ≤ sizeLine := by
        rw [hv1.length, sizeLine_eq]
        have := addAll_length (sc.take i) tc
        rw [List.length_take] at this
        omega
      (try dsimp only at F N)
      k_steps
      refine Stop.mk ?_
      k_dflt (refine' in_mine hkey lN ?N hd1 ?_; (case N => k_asm))
      rcases value_ints hv1 nd1 k n with ⟨e1, e2⟩ | ⟨i0, t0, e1, e2⟩
      · rw [e1]
        dsimp only [Option.isSome_none]
        k_steps
        refine Stop.mk ?_
        k_dflt (refine' setItem_mine hkey ?F ?N hne hd1 hl1 ?_; (case F => k_asm); (case N => k_asm))
        intro h9 o9 F9 N9 hd9
        k_steps
        exact LoopStepU.intro (by k_asm) N9 (fun p hp => by rw [List.mem_singleton.mp hp]; simpa using hn (dN, o1) (.head _)) ⟨o9, _, rfl, hd9, by rw [ht1]; exact e2 tn, rfl⟩
      · rw [e1]
        dsimp only [Option.isSome_some]
        k_steps
        k_dflt (refine' getItem_mine hkey ?N hd1 e1 ?_; (case N => k_asm))
        k_steps
        refine Stop.mk ?_
        k_dflt (refine' setItem_mine hkey ?F ?N hne hd1 hl1 ?_; (case F => k_asm); (case N => k_asm))
        intro h9 o9 F9 N9 hd9
        k_steps
        exact LoopStepU.intro (by k_asm) N9 (fun p hp => by rw [List.mem_singleton.mp hp]; simpa using hn (dN, o1) (.head _)) ⟨o9, _, rfl, hd9, by rw [ht1]; exact e2 _, rfl⟩
    case j14 =>
      rintro h9 tk9 m9 news9 F9 N9 ⟨o9, kvs9, rfl, hd9, hv9, hm1⟩
      rw [know_map1 hm1] at F9
      k_steps
      refine hQ _ _ (Ends.of (by k_asm) (by k_asm) ?_)
      rw [lS, List.take_length] at hv9
      exact .mk (.inr (.head _)) hd9 lN hv9
theorem callers_does {w mean mg mb} {P : Know} {tv sv : Value} {tc sc : List (Str × Int)} (ht : DictR w P tv tc) (hs : DictR w P sv sc) (hsz : tc.length + sc.length ≤ 1000) : Does w mean mg mb 63 [tv, sv] 1 P (fun P' r => DictR w P' r (addAll tc sc)) :=
  Does.of fun dp un gd cn cs L a ccd cl outer base g L' s Q => OkAt.all callers_does_b callers_does_at _ ht hs hsz
end

def afs_does_S (b : Base) : Prop := ∀ {v1 v2 : Value} {e1 e2 : Ent} (h1 : EntR b.w b.P v1 e1) (h2 : EntR b.w b.P v2 e2) (hsz : e1.cs.length + e2.cs.length ≤ 1000), DoesAt b 56 [v1, v2] 2 (fun P' r => EntR b.w P' r ⟨e2.cc + e1.cc, e2.nc + e1.nc, e2.tt + e1.tt, e2.ct + e1.ct, addAll e1.cs e2.cs⟩)
theorem afs_does_b : ∃ b, OkAt afs_does_S b := OkAt.ex Base.ne _
set_option maxRecDepth 100000 in
set_option maxHeartbeats 0 in
theorem afs_does_at : afs_does_S (Classical.choose afs_does_b) := by
  intro v1 v2 e1 e2 h1 h2 hsz
  k_dflt (refine' DoesAt.mk (binds := [(Str.ofString "target", v1), (Str.ofString "source", v2)]) ?k6 ?k7 ?k9 ?kB ?c2 ?c3 ?c4 ?c5 ?_; walk_at "MINE enter")
  intro h' t' hP' F' N' B' X' T' hL' hk' hdp' hun' hQ
  cases id h1 with
  | mk p1 d1 =>
  rename_i x1 _ _ _ _ _ _ _ _ _ _
  cases id h2 with
  | mk p2 d2 =>
  rename_i x2 _ _ _ _ _ _ _ _ _ _
  have HX : IsTup (Classical.choose afs_does_b).g x1 _ := ⟨_, hP' _ _ p1, rfl, _, rfl⟩
  have HY : IsTup (Classical.choose afs_does_b).g x2 _ := ⟨_, hP' _ _ p2, rfl, _, rfl⟩
  (try dsimp only)
  (try k_fold)
  k_steps
  refine Stop.mk ?_
  k_dflt (refine' Does.use hP' ?kC ?k1 ?k2 ?k3 ?k4 ?k5 ?kK ?kd ?ku ?_ ?km; walk_at "MINE use")
  case kC => exact callers_does d1.more d2.more hsz
  case km => exact fun _ _ _ h t => t.mono h
  walk_at "MINE room"
  intro r9 tl9 h9 tk9 F9 N9 hne9 ho9
  dsimp only at ho9 ⊢
  k_steps
  refine hQ _ _ (Ends.of (by k_asm) (by k_asm) ?_)
  exact .mk (.inr (by k_mem)) (ho9.sub fun _ h => List.mem_cons_of_mem _ h)
theorem afs_does {w mean mg mb} {P : Know} {v1 v2 : Value} {e1 e2 : Ent} (h1 : EntR w P v1 e1) (h2 : EntR w P v2 e2) (hsz : e1.cs.length + e2.cs.length ≤ 1000) :
    Does w mean mg mb 56 [v1, v2] 2 P (fun P' r => EntR w P' r ⟨e2.cc + e1.cc, e2.nc + e1.nc, e2.tt + e1.tt, e2.ct + e1.ct, addAll e1.cs e2.cs⟩) :=
  Does.of fun dp un gd cn cs L a ccd cl outer base g L' s Q => OkAt.all afs_does_b afs_does_at _ h1 h2 hsz
end
section -- LTree
inductive FunsR (P : Know) : Value → List Fn → Prop where
  | mk {a : Addr} {vs : List Value} {fs : List Fn} {n : Nat} : P a (listO vs n) → (∀ (i : Nat) (f : Fn), fs[i]? = some f → ∃ v, vs[i]? = some v ∧ FunR P v f) → FunsR P (.ref a) fs
theorem FunsR.mono {P Q : Know} {v : Value} {fs : List Fn} (h : FunsR P v fs) (hs : ∀ a o, P a o → Q a o) : FunsR Q v fs := by
  cases h with
  | mk h1 h2 => exact .mk (hs _ _ h1) fun i f e => let ⟨v, h3, h4⟩ := h2 i f e; ⟨v, h3, h4.mono hs⟩
theorem KeyR.mono {P Q : Know} {v : Value} {k : Int × Int} (h : KeyR P v k) (hs : ∀ a o, P a o → Q a o) : KeyR Q v k := by
  cases h with
  | mk h1 => exact .mk (hs _ _ h1)
theorem CompR.mono {P Q : Know} {v : Value} {ks : List (Int × Int)} (h : CompR P v ks) (hs : ∀ a o, P a o → Q a o) : CompR Q v ks := by
  cases h with
  | mk h1 h2 h3 h4 h5 h6 => exact .mk (hs _ _ h1) (hs _ _ h2) (hs _ _ h3) (h4.mono hs) (h5.mono hs) (h6.mono hs)

def join_step_S (b : Base) : Prop := ∀ {lv : Value} {ss : List Int} (h6 : ss.length = 6) (n : Nat) (ih : ∀ {P : Know} {v1 v2 : Value} {t1 t2 : Tr}, IntsR P lv ss → TreeR b.w P v1 t1 → TreeR b.w P v2 t2 → t1.size + t2.size < n → t1.all (· < 6) → t2.all (· < 6) → Does b.w b.mean b.mg b.mb 98 [v1, v2, lv] n P (fun P' r => TreeR b.w P' r (joinT ss t1 t2))) {v1 v2 : Value} {t1 t2 : Tr} (hl : IntsR b.P lv ss) (T1 : TreeR b.w b.P v1 t1) (T2 : TreeR b.w b.P v2 t2) (hs : t1.size + t2.size < n + 1) (a1 : t1.all (· < 6)) (a2 : t2.all (· < 6)), DoesAt b 98 [v1, v2, lv] (n + 1) (fun P' r => TreeR b.w P' r (joinT ss t1 t2))
theorem join_step_b : ∃ b, OkAt join_step_S b := OkAt.ex Base.ne _
set_option maxRecDepth 100000 in
set_option maxHeartbeats 0 in
theorem join_step_at : join_step_S (Classical.choose join_step_b) := by
  intro lv ss h6 n ih v1 v2 t1 t2 hl T1 T2 hs a1 a2
  k_dflt (refine' DoesAt.mk (binds := [(Str.ofString "low", v1), (Str.ofString "high", v2), (Str.ofString "seals", lv)]) ?k6 ?k7 ?k9 ?kB ?c2 ?c3 ?c4 ?c5 ?_; walk_at "MINE enter")
  intro h' t' hP' F' N' B' X' T' hL' hk' hdp' hun' hQ
  (try dsimp only)
  (try k_fold)
  cases id hl with
  | mk hl1 hl2 =>
  rename_i l vs nl
  cases id T1 with
  | nil => 
    k_steps
    exact hQ _ _ <| Ends.of (by k_asm) (by k_asm) (by rw [joinT]; exact T2.more)
  | node p1 q1 b1 c1 => 
  rename_i x i xt xe xl xr e1 l1 r1
  have HX : IsTup (Classical.choose join_step_b).g x _ := ⟨_, hP' _ _ p1, rfl, _, rfl⟩
  cases id T2 with
  | nil =>
    k_steps
    exact hQ _ _ <| Ends.of (by k_asm) (by k_asm) (by rw [joinT]; exact T1.more)
  | node p2 q2 b2 c2 =>
  rename_i y j yt ye yl yr e2 l2 r2
  have HY : IsTup (Classical.choose join_step_b).g y _ := ⟨_, hP' _ _ p2, rfl, _, rfl⟩
  have HL : (Classical.choose join_step_b).g.IsList l _ := ⟨_, hP' _ _ hl1, rfl, _, rfl⟩
  have i0 : (0 : Int) ≤ (i : Int) := by omega
  have i1 : (i : Int) < 6 := by have := a1.1; omega
  have j0 : (0 : Int) ≤ (j : Int) := by omega
  have j1 : (j : Int) < 6 := by have := a2.1; omega
  k_steps
  · rename (_ ∨ _) => hb
    refine Stop.mk ?_
    k_dflt (refine' Does.use hP' ?kC ?k1 ?k2 ?k3 ?k4 ?k5 ?kK ?kd ?ku ?_ ?km; walk_at "MINE use")
    case kC => exact ih (hl.more) (c1.more) (T2.more) (by simp only [Tr.size] at hs ⊢; omega) a1.2.2 a2
    case km => exact fun _ _ _ h t => t.mono h
    walk_at "MINE room"
    intro r9 tl9 h9 tk9 F9 N9 hne9 ho9
    dsimp only at ho9 ⊢
    k_steps
    refine hQ _ _ (Ends.of (by k_asm) (by k_asm) ?_)
    rw [joinT, if_pos (by simpa [Before] using hb)]
    refine .node (.inr (by k_mem)) (q1.more) (b1.more) (ho9.sub fun _ h => List.mem_cons_of_mem _ h)
  · rename (¬ _) => hb
    refine Stop.mk ?_
    k_dflt (refine' Does.use hP' ?kC ?k1 ?k2 ?k3 ?k4 ?k5 ?kK ?kd ?ku ?_ ?km; walk_at "MINE use")
    case kC => exact ih (hl.more) (T1.more) (b2.more) (by simp only [Tr.size] at hs ⊢; omega) a1 a2.2.1
    case km => exact fun _ _ _ h t => t.mono h
    walk_at "MINE room"
    intro r9 tl9 h9 tk9 F9 N9 hne9 ho9
    dsimp only at ho9 ⊢
    k_steps
    refine hQ _ _ (Ends.of (by k_asm) (by k_asm) ?_)
    rw [joinT, if_neg (by simpa [Before] using hb)]
    refine .node (.inr (by k_mem)) (q2.more) (ho9.sub fun _ h => List.mem_cons_of_mem _ h) (c2.more)
theorem join_step {w mean mg mb} {lv : Value} {ss : List Int} (h6 : ss.length = 6) (n : Nat)
   (ih : ∀ {P : Know} {v1 v2 : Value} {t1 t2 : Tr}, IntsR P lv ss → TreeR w P v1 t1 → TreeR w P v2 t2 → t1.size + t2.size < n → t1.all (· < 6) → t2.all (· < 6) → Does w mean mg mb 98 [v1, v2, lv] n P (fun P' r => TreeR w P' r (joinT ss t1 t2)))
   {P : Know} {v1 v2 : Value} {t1 t2 : Tr} (hl : IntsR P lv ss) (T1 : TreeR w P v1 t1) (T2 : TreeR w P v2 t2) (hs : t1.size + t2.size < n + 1) (a1 : t1.all (· < 6)) (a2 : t2.all (· < 6)) :
   Does w mean mg mb 98 [v1, v2, lv] (n + 1) P (fun P' r => TreeR w P' r (joinT ss t1 t2)) :=
  Does.of fun dp un gd cn cs L a ccd cl outer base g L' s Q => OkAt.all join_step_b join_step_at _ h6 n ih hl T1 T2 hs a1 a2
theorem join_does {w mean mg mb} {lv : Value} {ss : List Int} (h6 : ss.length = 6) : ∀ (n : Nat) {P : Know} {v1 v2 : Value} {t1 t2 : Tr}, IntsR P lv ss → TreeR w P v1 t1 → TreeR w P v2 t2 → t1.size + t2.size < n → t1.all (· < 6) → t2.all (· < 6) → Does w mean mg mb 98 [v1, v2, lv] n P (fun P' r => TreeR w P' r (joinT ss t1 t2))
  | 0, _, _, _, _, _, _, _, _, h, _, _ => absurd h (Nat.not_lt_zero _)
  | n + 1, _, _, _, _, _, hl, T1, T2, hs, a1, a2 => join_step h6 n (fun hl T1 T2 hs a1 a2 => join_does h6 n hl T1 T2 hs a1 a2) hl T1 T2 hs a1 a2


def fnAt (fs : List Fn) (i : Nat) : Fn := fs.getD i ⟨⟨#[]⟩, 0, ⟨#[]⟩⟩
def addEnt (a b : Ent) : Ent := ⟨b.cc + a.cc, b.nc + a.nc, b.tt + a.tt, b.ct + a.ct, addAll a.cs b.cs⟩
def dropT (fs : List Fn) (ss : List Int) (ks : List (Int × Int)) (p : Nat) : Tr → Tr
  | .nil => .nil
  | .node top e l r =>
    if cmpF ks (fnAt fs p) (fnAt fs top) = 0 then joinT ss l r
    else if cmpF ks (fnAt fs p) (fnAt fs top) < 0 then .node top e (dropT fs ss ks p l) r
    else .node top e l (dropT fs ss ks p r)
def upL (ss : List Int) (top : Nat) (e : Ent) (l r : Tr) : Tr := match l with
  | .node lt le ll lr => if Before ss lt top then .node lt le ll (.node top e lr r) else .node top e (.node lt le ll lr) r
  | .nil => .nil
def upR (ss : List Int) (top : Nat) (e : Ent) (l r : Tr) : Tr := match r with
  | .node rt re rl rr => if Before ss rt top then .node rt re (.node top e l rl) rr else .node top e l (.node rt re rl rr)
  | .nil => .nil
def putT (fs : List Fn) (ss : List Int) (ks : List (Int × Int)) (p : Nat) (x : Ent) : Tr → Tr
  | .nil => .node p x .nil .nil
  | .node top e l r =>
    if cmpF ks (fnAt fs p) (fnAt fs top) = 0 then .node top (addEnt e x) l r
    else if cmpF ks (fnAt fs p) (fnAt fs top) < 0 then upL ss top e (putT fs ss ks p x l) r
    else upR ss top e l (putT fs ss ks p x r)
end
section -- LDrop
section
local macro_rules | `(tactic| k_inst) => `(tactic| walk_at "MINE inst")
local macro_rules | `(tactic| walk_at "subscriptTail") => `(tactic| walk_at "MINE item")
set_option maxRecDepth 100000 in
set_option maxHeartbeats 0 in
def drop_S (b : Base) : Prop := ∀ {fv sv cv : Value} {fs : List Fn} {ss : List Int} {ks : List (Int × Int)} {p : Nat} (h6 : ss.length = 6) (f6 : fs.length = 6) (hks : ∀ k ∈ ks, k.1 = 0 ∨ k.1 = 1 ∨ k.1 = 2) (hp : p < 6)
   (top : Nat) (e : Ent) (l r : Tr) (ihl : (∀ {P : Know} {tv : Value} {tp : Tok}, FunsR P fv fs → IntsR P sv ss → CompR P cv ks → TreeR b.w P tv l → l.all (· < 6) → Does b.w b.mean b.mg b.mb 105 [tv, .int (p : Int) tp, fv, sv, cv] (l.size + 2) P (fun P' r' => TreeR b.w P' r' (dropT fs ss ks p l)))) (ihr : (∀ {P : Know} {tv : Value} {tp : Tok}, FunsR P fv fs → IntsR P sv ss → CompR P cv ks → TreeR b.w P tv r → r.all (· < 6) → Does b.w b.mean b.mg b.mb 105 [tv, .int (p : Int) tp, fv, sv, cv] (r.size + 2) P (fun P' r' => TreeR b.w P' r' (dropT fs ss ks p r)))) {tv : Value} {tp : Tok}, FunsR b.P fv fs → IntsR b.P sv ss → CompR b.P cv ks → TreeR b.w b.P tv (.node top e l r) → (Tr.node top e l r).all (· < 6) → DoesAt b 105 [tv, .int (p : Int) tp, fv, sv, cv] ((Tr.node top e l r).size + 2) (fun P' r' => TreeR b.w P' r' (dropT fs ss ks p (.node top e l r)))
theorem drop_b : ∃ b, OkAt drop_S b := OkAt.ex Base.ne _
theorem drop_at : drop_S (Classical.choose drop_b) := by
  intro fv sv cv fs ss ks p h6 f6 hks hp top e l r ihl ihr tv tp hf hs hc T ha
  k_dflt (refine' DoesAt.mk (binds := [(Str.ofString "tree", tv), (Str.ofString "place", .int (p : Int) tp), (Str.ofString "functions", fv), (Str.ofString "seals", sv), (Str.ofString "comp", cv)]) ?k6 ?k7 ?k9 ?kB ?c2 ?c3 ?c4 ?c5 ?_; walk_at "MINE enter")
  intro h' t' hP' F' N' B' X' T' hL' hk' hdp' hun' hQ
  cases id T with
  | node pt et lt rt =>
  rename_i ta tt te tl tr
  cases id hf with
  | mk pf qf =>
  rename_i fa fvs fn
  cases id hs with
  | mk p5 q5 =>
  rename_i sa svs sn
  cases id hc with
  | mk c1 c2 c3 c4 c5 c6 =>
  rename_i ca da la hsa tka na ka v0 v1 v2 k0 k1 k2
  have HC := hP' _ _ c1
  have HD := hP' _ _ c2
  have HT : IsTup (Classical.choose drop_b).g ta _ := ⟨_, hP' _ _ pt, rfl, _, rfl⟩
  have HF : (Classical.choose drop_b).g.IsList fa fvs.toArray := ⟨_, hP' _ _ pf, rfl, _, rfl⟩
  have e1 : fs[p]? = some (fnAt fs p) := by simp [fnAt, f6, hp]
  have e2 : fs[top]? = some (fnAt fs top) := by have := ha.1; simp [fnAt, f6, this]
  obtain ⟨xp, ep, Rp⟩ := qf _ _ e1
  obtain ⟨xt, et2, Rt⟩ := qf _ _ e2
  have ht6 : top < 6 := ha.1
  (try dsimp only)
  (try k_fold)
  k_steps
  refine Stop.mk ?_
  k_dflt (refine' Does.use hP' ?kC ?k1 ?k2 ?k3 ?k4 ?k5 ?kK ?kd ?ku ?_ ?km; walk_at "MINE use")
  case kC => exact cmp_does (hc.mono fun _ _ => Or.inl) (Rp.mono fun _ _ => Or.inl) (Rt.mono fun _ _ => Or.inl) hks
  case km => exact fun _ _ _ _ t => t
  walk_at "MINE room"
  rintro r9 tl9 h9 tk9 F9 N9 hne9 ⟨u9, rfl⟩
  dsimp only
  have hun2 : (Classical.choose drop_b).un + 8 * (l.size + r.size + 1 + 2) < cLine := hun'
  have hdp2 : (Classical.choose drop_b).dp + (l.size + r.size + 1 + 2) < recursionLimit := hdp'
  generalize hcm : cmpF [k0, k1, k2] (fnAt fs p) (fnAt fs top) = cm at *
  k_steps
  · rename (cm = 0) => h0
    refine Stop.mk ?_
    k_dflt (refine' Does.use hP' ?kC ?k1 ?k2 ?k3 ?k4 ?k5 ?kK ?kd ?ku ?_ ?km; walk_at "MINE use")
    case kC => exact join_does h6 (l.size + r.size + 1) (hs.mono fun _ _ => Or.inl) (lt.mono fun _ _ => Or.inl) (rt.mono fun _ _ => Or.inl) (by omega) ha.2.1 ha.2.2
    case km => exact fun _ _ _ h t => t.mono h
    walk_at "MINE room"
    intro r8 tl8 h8 tk8 F8 N8 hne8 ho8
    dsimp only at ho8 ⊢
    k_steps
    refine hQ _ _ (Ends.of (by k_asm) (by k_asm) ?_)
    rw [dropT, hcm, if_pos h0]
    exact ho8
  · rename (cm < 0) => h1
    refine Stop.mk ?_
    k_dflt (refine' Does.use hP' ?kC ?k1 ?k2 ?k3 ?k4 ?k5 ?kK ?kd ?ku ?_ ?km; walk_at "MINE use")
    case kC => exact ihl (hf.mono fun _ _ => Or.inl) (hs.mono fun _ _ => Or.inl) (hc.mono fun _ _ => Or.inl) (lt.mono fun _ _ => Or.inl) ha.2.1
    case km => exact fun _ _ _ h t => t.mono h
    walk_at "MINE room"
    intro r8 tl8 h8 tk8 F8 N8 hne8 ho8
    dsimp only at ho8 ⊢
    k_steps
    refine hQ _ _ (Ends.of (by k_asm) (by k_asm) ?_)
    rw [dropT, hcm, if_neg (by omega), if_pos h1]
    exact .node (.inr (by k_mem)) (et.mono fun _ _ => Or.inl) (ho8.sub fun _ h => List.mem_cons_of_mem _ h) (rt.mono fun _ _ => Or.inl)
  · rename (¬ (cm < 0)) => h1
    refine Stop.mk ?_
    k_dflt (refine' Does.use hP' ?kC ?k1 ?k2 ?k3 ?k4 ?k5 ?kK ?kd ?ku ?_ ?km; walk_at "MINE use")
    case kC => exact ihr (hf.mono fun _ _ => Or.inl) (hs.mono fun _ _ => Or.inl) (hc.mono fun _ _ => Or.inl) (rt.mono fun _ _ => Or.inl) ha.2.2
    case km => exact fun _ _ _ h t => t.mono h
    walk_at "MINE room"
    intro r8 tl8 h8 tk8 F8 N8 hne8 ho8
    dsimp only at ho8 ⊢
    k_steps
    have h0 : cm ≠ 0 := by assumption
    refine hQ _ _ (Ends.of (by k_asm) (by k_asm) ?_)
    rw [dropT, hcm, if_neg h0, if_neg h1]
    exact .node (.inr (by k_mem)) (et.mono fun _ _ => Or.inl) (lt.mono fun _ _ => Or.inl) (ho8.sub fun _ h => List.mem_cons_of_mem _ h)
def drop_nil_S (b : Base) : Prop := ∀ {fv sv cv : Value} {fs : List Fn} {ss : List Int} {ks : List (Int × Int)} {p : Nat} {tp : Tok} (h6 : ss.length = 6), DoesAt b 105 [.none, .int (p : Int) tp, fv, sv, cv] (Tr.nil.size + 2) (fun P' r => TreeR b.w P' r (dropT fs ss ks p .nil))
theorem drop_nil_b : ∃ b, OkAt drop_nil_S b := OkAt.ex Base.ne _
set_option maxRecDepth 100000 in
set_option maxHeartbeats 0 in
theorem drop_nil_at : drop_nil_S (Classical.choose drop_nil_b) := by
  intro fv sv cv fs ss ks p tp h6
  k_dflt (refine' DoesAt.mk (binds := [(Str.ofString "tree", .none), (Str.ofString "place", .int (p : Int) tp), (Str.ofString "functions", fv), (Str.ofString "seals", sv), (Str.ofString "comp", cv)]) ?k6 ?k7 ?k9 ?kB ?c2 ?c3 ?c4 ?c5 ?_; walk_at "MINE enter")
  intro h' t' hP' F' N' B' X' T' hL' hk' hdp' hun' hQ
  (try dsimp only)
  (try k_fold)
  k_steps
  exact hQ _ _ <| Ends.of (by k_asm) (by k_asm) (by rw [dropT]; exact .nil)
theorem drop_nil {w mean mg mb} {fv sv cv : Value} {fs : List Fn} {ss : List Int} {ks : List (Int × Int)} {p : Nat} {P : Know} {tp : Tok} (h6 : ss.length = 6) : Does w mean mg mb 105 [.none, .int (p : Int) tp, fv, sv, cv] (Tr.nil.size + 2) P (fun P' r => TreeR w P' r (dropT fs ss ks p .nil)) :=
  Does.of fun dp un gd cn cs L a ccd cl outer base g L' s Q => OkAt.all drop_nil_b drop_nil_at _ h6
theorem drop_does {w mean mg mb} {fv sv cv : Value} {fs : List Fn} {ss : List Int} {ks : List (Int × Int)} {p : Nat} (h6 : ss.length = 6) (f6 : fs.length = 6) (hks : ∀ k ∈ ks, k.1 = 0 ∨ k.1 = 1 ∨ k.1 = 2) (hp : p < 6) :
   ∀ (t : Tr) {P : Know} {tv : Value} {tp : Tok}, FunsR P fv fs → IntsR P sv ss → CompR P cv ks → TreeR w P tv t → t.all (· < 6) → Does w mean mg mb 105 [tv, .int (p : Int) tp, fv, sv, cv] (t.size + 2) P (fun P' r => TreeR w P' r (dropT fs ss ks p t)) := by
  intro t
  induction t with
  | nil =>
    intro P tv tp hf hs hc T ha
    cases T
    exact drop_nil h6
  | node top e l r ihl ihr =>
    intro P tv tp hf hs hc T ha
    refine Does.of fun dp un gd cn cs L a ccd cl outer base g L' s Q => ?_
    exact OkAt.all drop_b drop_at _ h6 f6 hks hp top e l r ihl ihr hf hs hc T ha
end
end
section -- LPut
section
theorem more_tup {P : Know} {g h : Heap} {L : Addr} {m : Str → Option Value} {news l : List (Addr × Obj)} {a : Addr} {items : List Value} (F : Fr g L h m) (N : News g L h news) (q : P.more l a (tupO items)) (hP : ∀ a o, P a o → g.get? a = some o) (hs : ∀ p ∈ l, p ∈ news) :
    IsTup h a items.toArray := ⟨_, q.elim (fun q => F.keep _ _ (hP _ _ q)) fun q => (N _ (hs _ q)).1, rfl, _, rfl⟩
local macro_rules | `(tactic| k_mem) => `(tactic| first | exact List.Mem.head _ | assumption | (refine List.mem_cons_of_mem _ ?_; k_mem))
local macro_rules | `(tactic| k_inst) => `(tactic| walk_at "MINE inst")
local macro_rules | `(tactic| walk_at "subscriptTail") => `(tactic| walk_at "MINE item")
local macro_rules | `(tactic| walk_at "subscriptTail") => `(tactic| (k_here; (with_reducible show wpAny _ _ (subscriptTail _ _ (Value.ref _) (Value.int _ _)) _ _ _); k_dflt (refine' item_tupleT ?zt ?za ?zb ?zc ?zd ?_ ?ze; (case zt => exact more_tup (by k_asm) (by k_asm) (by assumption) (by assumption) (by (intro _ h; repeat (first | exact h | refine List.mem_cons_of_mem _ ?_)))); (case za | zb => decide); (case zc | zd => rfl); (case ze => with_unfolding_all rfl); k_whole)))
def Tr.few (c : Nat) : Tr → Prop
  | .nil => True
  | .node _ e l r => e.cs.length ≤ c ∧ l.few c ∧ r.few c
theorem putT_ne {fs : List Fn} {ss : List Int} {ks : List (Int × Int)} {p : Nat} {x : Ent} : ∀ t : Tr, putT fs ss ks p x t ≠ .nil
  | .nil => by rw [putT]; exact fun h => nomatch h
  | .node top e l r => by
    rw [putT]
    split
    · exact fun h => nomatch h
    · split
      · have := putT_ne (fs := fs) (ss := ss) (ks := ks) (p := p) (x := x) l
        unfold upL
        split
        · split <;> exact fun h => nomatch h
        · contradiction
      · have := putT_ne (fs := fs) (ss := ss) (ks := ks) (p := p) (x := x) r
        unfold upR
        split
        · split <;> exact fun h => nomatch h
        · contradiction
theorem putT_all {q : Nat → Prop} {fs : List Fn} {ss : List Int} {ks : List (Int × Int)} {p : Nat} {x : Ent} (hp : q p) : ∀ t : Tr, t.all q → (putT fs ss ks p x t).all q
  | .nil, _ => ⟨hp, trivial, trivial⟩
  | .node top e l r, h => by
    rw [putT]
    split
    · exact h
    · split
      · have h2 := putT_all (fs := fs) (ss := ss) (ks := ks) (x := x) hp l h.2.1
        unfold upL
        split
        · rename_i heq
          rw [heq] at h2
          split
          · exact ⟨h2.1, h2.2.1, h.1, h2.2.2, h.2.2⟩
          · exact ⟨h.1, h2, h.2.2⟩
        · trivial
      · have h2 := putT_all (fs := fs) (ss := ss) (ks := ks) (x := x) hp r h.2.2
        unfold upR
        split
        · rename_i heq
          rw [heq] at h2
          split
          · exact ⟨h2.1, ⟨h.1, h.2.1, h2.2.1⟩, h2.2.2⟩
          · exact ⟨h.1, h.2.1, h2⟩
        · trivial
def put_node_S (b : Base) : Prop := ∀ {fv sv cv : Value} {fs : List Fn} {ss : List Int} {ks : List (Int × Int)} {p : Nat} {x : Ent} (h6 : ss.length = 6) (f6 : fs.length = 6) (hks : ∀ k ∈ ks, k.1 = 0 ∨ k.1 = 1 ∨ k.1 = 2) (hp : p < 6) (hx : x.cs.length ≤ 100) (top : Nat) (e : Ent) (l r : Tr) (ihl : ∀ {P : Know} {tv xv : Value} {tp : Tok}, FunsR P fv fs → IntsR P sv ss → CompR P cv ks → EntR b.w P xv x → TreeR b.w P tv l → l.all (· < 6) → l.few 100 → Does b.w b.mean b.mg b.mb 91 [tv, .int (p : Int) tp, xv, fv, sv, cv] (l.size + 3) P (fun P' r' => TreeR b.w P' r' (putT fs ss ks p x l))) (ihr : ∀ {P : Know} {tv xv : Value} {tp : Tok}, FunsR P fv fs → IntsR P sv ss → CompR P cv ks → EntR b.w P xv x → TreeR b.w P tv r → r.all (· < 6) → r.few 100 → Does b.w b.mean b.mg b.mb 91 [tv, .int (p : Int) tp, xv, fv, sv, cv] (r.size + 3) P (fun P' r' => TreeR b.w P' r' (putT fs ss ks p x r))) {tv xv : Value} {tp : Tok} (hf : FunsR b.P fv fs) (hs : IntsR b.P sv ss) (hc : CompR b.P cv ks) (hxe : EntR b.w b.P xv x) (T : TreeR b.w b.P tv (.node top e l r)) (ha : (Tr.node top e l r).all (· < 6)) (hfew : (Tr.node top e l r).few 100), DoesAt b 91 [tv, .int (p : Int) tp, xv, fv, sv, cv] ((Tr.node top e l r).size + 3) (fun P' r' => TreeR b.w P' r' (putT fs ss ks p x (.node top e l r)))
theorem put_node_b : ∃ b, OkAt put_node_S b := OkAt.ex Base.ne _
set_option maxRecDepth 100000 in
set_option maxHeartbeats 0 in
theorem put_node_at : put_node_S (Classical.choose put_node_b) := by
  intro fv sv cv fs ss ks p x h6 f6 hks hp hx top e l r ihl ihr tv xv tp hf hs hc hxe T ha hfew
  k_dflt (refine' DoesAt.mk (binds := [(Str.ofString "tree", tv), (Str.ofString "place", .int (p : Int) tp), (Str.ofString "entry", xv), (Str.ofString "functions", fv), (Str.ofString "seals", sv), (Str.ofString "comp", cv)]) ?k6 ?k7 ?k9 ?kB ?c2 ?c3 ?c4 ?c5 ?_; walk_at "MINE enter")
  intro h' t' hP' F' N' B' X' T' hL' hk' hdp' hun' hQ
  cases id T with
  | node pt et lt rt =>
  rename_i ta tt te tl tr
  cases id hf with
  | mk pf qf =>
  rename_i fa fvs fn
  cases id hs with
  | mk p5 q5 =>
  rename_i sa svs sn
  cases id hc with
  | mk c1 c2 c3 c4 c5 c6 =>
  rename_i ca da la hsa tka na ka v0 v1 v2 k0 k1 k2
  have HC := hP' _ _ c1
  have HD := hP' _ _ c2
  have HT : IsTup (Classical.choose put_node_b).g ta _ := ⟨_, hP' _ _ pt, rfl, _, rfl⟩
  have HF : (Classical.choose put_node_b).g.IsList fa fvs.toArray := ⟨_, hP' _ _ pf, rfl, _, rfl⟩
  have e1 : fs[p]? = some (fnAt fs p) := by simp [fnAt, f6, hp]
  have e2 : fs[top]? = some (fnAt fs top) := by have := ha.1; simp [fnAt, f6, this]
  obtain ⟨xp, ep, Rp⟩ := qf _ _ e1
  obtain ⟨xt, et2, Rt⟩ := qf _ _ e2
  have ht6 : top < 6 := ha.1
  (try dsimp only)
  (try k_fold)
  k_steps
  refine Stop.mk ?_
  k_dflt (refine' Does.use hP' ?kC ?k1 ?k2 ?k3 ?k4 ?k5 ?kK ?kd ?ku ?_ ?km; walk_at "MINE use")
  case kC => exact cmp_does (hc.mono fun _ _ => Or.inl) (Rp.mono fun _ _ => Or.inl) (Rt.mono fun _ _ => Or.inl) hks
  case km => exact fun _ _ _ _ t => t
  walk_at "MINE room"
  rintro r9 tl9 h9 tk9 F9 N9 hne9 ⟨u9, rfl⟩
  dsimp only
  have hun2 : (Classical.choose put_node_b).un + 8 * (l.size + r.size + 1 + 3) < cLine := hun'
  have hdp2 : (Classical.choose put_node_b).dp + (l.size + r.size + 1 + 3) < recursionLimit := hdp'
  generalize hcm : cmpF [k0, k1, k2] (fnAt fs p) (fnAt fs top) = cm at *
  k_steps
  · rename (cm = 0) => h0
    refine Stop.mk ?_
    k_dflt (refine' Does.use hP' ?kC ?k1 ?k2 ?k3 ?k4 ?k5 ?kK ?kd ?ku ?_ ?km; walk_at "MINE use")
    case kC => exact afs_does (et.mono fun _ _ => Or.inl) (hxe.mono fun _ _ => Or.inl) (by have := hfew.1; omega)
    case km => exact fun _ _ _ h t => t.mono h
    walk_at "MINE room"
    intro r8 tl8 h8 tk8 F8 N8 hne8 ho8
    dsimp only at ho8 ⊢
    k_steps
    refine hQ _ _ (Ends.of (by k_asm) (by k_asm) ?_)
    rw [putT, hcm, if_pos h0]
    exact .node (.inr (by k_mem)) (ho8.sub fun _ h => List.mem_cons_of_mem _ h) (lt.mono fun _ _ => Or.inl) (rt.mono fun _ _ => Or.inl)
  · rename (cm < 0) => h1
    refine Stop.mk ?_
    k_dflt (refine' Does.use hP' ?kC ?k1 ?k2 ?k3 ?k4 ?k5 ?kK ?kd ?ku ?_ ?km; walk_at "MINE use")
    case kC => exact ihl (hf.mono fun _ _ => Or.inl) (hs.mono fun _ _ => Or.inl) (hc.mono fun _ _ => Or.inl) (hxe.mono fun _ _ => Or.inl) (lt.mono fun _ _ => Or.inl) ha.2.1 hfew.2.1
    case km => exact fun _ _ _ h t => t.mono h
    walk_at "MINE room"
    intro r8 tl8 h8 tk8 F8 N8 hne8 ho8
    dsimp only at ho8 ⊢
    generalize hpl : putT fs ss [k0, k1, k2] p x l = pl at ho8
    cases ho8 with
    | nil => exact absurd hpl (putT_ne l)
    | node q8 E8 L8 R8 =>
    rename_i ra ri rtk rev rlv rrv re rl rr
    have hri : ri < 6 := by
      have := putT_all (q := (· < 6)) (fs := fs) (ss := ss) (ks := [k0, k1, k2]) (x := x) hp l ha.2.1
      rw [hpl] at this
      exact this.1
    have i0 : (0 : Int) ≤ (ri : Int) := by omega
    have i1 : (ri : Int) < 6 := by omega
    have j0 : (0 : Int) ≤ (top : Int) := by omega
    have j1 : (top : Int) < 6 := by omega
    have HSL : (Classical.choose put_node_b).g.IsList sa svs.toArray := ⟨_, hP' _ _ p5, rfl, _, rfl⟩
    have hq8 := q8
    k_steps
    · rename (_ ∨ _) => hb
      refine hQ _ _ (Ends.of (by k_asm) (by k_asm) ?_)
      rw [putT, hcm, if_neg (by omega), if_pos h1, hpl, upL]
      (try dsimp only)
      rw [if_pos (by simpa [Before] using hb)]
      exact .node (.inr (by k_mem)) (E8.sub fun _ h => by (repeat refine List.mem_cons_of_mem _ ?_); exact h) (L8.sub fun _ h => by (repeat refine List.mem_cons_of_mem _ ?_); exact h) (.node (.inr (by k_mem)) (et.mono fun _ _ => Or.inl) (R8.sub fun _ h => by (repeat refine List.mem_cons_of_mem _ ?_); exact h) (rt.mono fun _ _ => Or.inl))
    · rename (¬ (_ ∨ _)) => hb
      refine hQ _ _ (Ends.of (by k_asm) (by k_asm) ?_)
      rw [putT, hcm, if_neg (by omega), if_pos h1, hpl, upL]
      (try dsimp only)
      rw [if_neg (by simpa [Before] using hb)]
      exact .node (.inr (by k_mem)) (et.mono fun _ _ => Or.inl) (TreeR.sub (.node hq8 E8 L8 R8) fun _ h => by (repeat refine List.mem_cons_of_mem _ ?_); exact h) (rt.mono fun _ _ => Or.inl)
  · rename (¬ (cm < 0)) => h1
    refine Stop.mk ?_
    k_dflt (refine' Does.use hP' ?kC ?k1 ?k2 ?k3 ?k4 ?k5 ?kK ?kd ?ku ?_ ?km; walk_at "MINE use")
    case kC => exact ihr (hf.mono fun _ _ => Or.inl) (hs.mono fun _ _ => Or.inl) (hc.mono fun _ _ => Or.inl) (hxe.mono fun _ _ => Or.inl) (rt.mono fun _ _ => Or.inl) ha.2.2 hfew.2.2
    case km => exact fun _ _ _ h t => t.mono h
    walk_at "MINE room"
    intro r8 tl8 h8 tk8 F8 N8 hne8 ho8
    dsimp only at ho8 ⊢
    generalize hpl : putT fs ss [k0, k1, k2] p x r = pl at ho8
    cases ho8 with
    | nil => exact absurd hpl (putT_ne r)
    | node q8 E8 L8 R8 =>
    rename_i ra ri rtk rev rlv rrv re rl rr
    have hri : ri < 6 := by
      have := putT_all (q := (· < 6)) (fs := fs) (ss := ss) (ks := [k0, k1, k2]) (x := x) hp r ha.2.2
      rw [hpl] at this
      exact this.1
    have i0 : (0 : Int) ≤ (ri : Int) := by omega
    have i1 : (ri : Int) < 6 := by omega
    have j0 : (0 : Int) ≤ (top : Int) := by omega
    have j1 : (top : Int) < 6 := by omega
    have HSL : (Classical.choose put_node_b).g.IsList sa svs.toArray := ⟨_, hP' _ _ p5, rfl, _, rfl⟩
    have hq8 := q8
    k_steps
    · rename (_ ∨ _) => hb
      have h0 : cm ≠ 0 := by assumption
      refine hQ _ _ (Ends.of (by k_asm) (by k_asm) ?_)
      rw [putT, hcm, if_neg h0, if_neg h1, hpl, upR]
      (try dsimp only)
      rw [if_pos (by simpa [Before] using hb)]
      exact .node (.inr (by k_mem)) (E8.sub fun _ h => by (repeat refine List.mem_cons_of_mem _ ?_); exact h) (.node (.inr (by k_mem)) (et.mono fun _ _ => Or.inl) (lt.mono fun _ _ => Or.inl) (L8.sub fun _ h => by (repeat refine List.mem_cons_of_mem _ ?_); exact h)) (R8.sub fun _ h => by (repeat refine List.mem_cons_of_mem _ ?_); exact h)
    · rename (¬ (_ ∨ _)) => hb
      have h0 : cm ≠ 0 := by assumption
      refine hQ _ _ (Ends.of (by k_asm) (by k_asm) ?_)
      rw [putT, hcm, if_neg h0, if_neg h1, hpl, upR]
      (try dsimp only)
      rw [if_neg (by simpa [Before] using hb)]
      exact .node (.inr (by k_mem)) (et.mono fun _ _ => Or.inl) (lt.mono fun _ _ => Or.inl) (TreeR.sub (.node hq8 E8 L8 R8) fun _ h => by (repeat refine List.mem_cons_of_mem _ ?_); exact h)
theorem put_node {w mean mg mb} {fv sv cv : Value} {fs : List Fn} {ss : List Int} {ks : List (Int × Int)} {p : Nat} {x : Ent} (h6 : ss.length = 6) (f6 : fs.length = 6) (hks : ∀ k ∈ ks, k.1 = 0 ∨ k.1 = 1 ∨ k.1 = 2) (hp : p < 6) (hx : x.cs.length ≤ 100) (top : Nat) (e : Ent) (l r : Tr)
   (ihl : ∀ {P : Know} {tv xv : Value} {tp : Tok}, FunsR P fv fs → IntsR P sv ss → CompR P cv ks → EntR w P xv x → TreeR w P tv l → l.all (· < 6) → l.few 100 → Does w mean mg mb 91 [tv, .int (p : Int) tp, xv, fv, sv, cv] (l.size + 3) P (fun P' r' => TreeR w P' r' (putT fs ss ks p x l)))
   (ihr : ∀ {P : Know} {tv xv : Value} {tp : Tok}, FunsR P fv fs → IntsR P sv ss → CompR P cv ks → EntR w P xv x → TreeR w P tv r → r.all (· < 6) → r.few 100 → Does w mean mg mb 91 [tv, .int (p : Int) tp, xv, fv, sv, cv] (r.size + 3) P (fun P' r' => TreeR w P' r' (putT fs ss ks p x r)))
   {P : Know} {tv xv : Value} {tp : Tok} (hf : FunsR P fv fs) (hs : IntsR P sv ss) (hc : CompR P cv ks) (hxe : EntR w P xv x) (T : TreeR w P tv (.node top e l r)) (ha : (Tr.node top e l r).all (· < 6)) (hfew : (Tr.node top e l r).few 100) :
   Does w mean mg mb 91 [tv, .int (p : Int) tp, xv, fv, sv, cv] ((Tr.node top e l r).size + 3) P (fun P' r' => TreeR w P' r' (putT fs ss ks p x (.node top e l r))) :=
  Does.of fun dp un gd cn cs L a ccd cl outer base g L' s Q => OkAt.all put_node_b put_node_at _ h6 f6 hks hp hx top e l r ihl ihr hf hs hc hxe T ha hfew
def put_nil_S (b : Base) : Prop := ∀ {fv sv cv xv : Value} {fs : List Fn} {ss : List Int} {ks : List (Int × Int)} {p : Nat} {x : Ent} {tp : Tok} (hxe : EntR b.w b.P xv x), DoesAt b 91 [.none, .int (p : Int) tp, xv, fv, sv, cv] (Tr.nil.size + 3) (fun P' r => TreeR b.w P' r (putT fs ss ks p x .nil))
theorem put_nil_b : ∃ b, OkAt put_nil_S b := OkAt.ex Base.ne _
set_option maxRecDepth 100000 in
set_option maxHeartbeats 0 in
theorem put_nil_at : put_nil_S (Classical.choose put_nil_b) := by
  intro fv sv cv xv fs ss ks p x tp hxe
  k_dflt (refine' DoesAt.mk (binds := [(Str.ofString "tree", .none), (Str.ofString "place", .int (p : Int) tp), (Str.ofString "entry", xv), (Str.ofString "functions", fv), (Str.ofString "seals", sv), (Str.ofString "comp", cv)]) ?k6 ?k7 ?k9 ?kB ?c2 ?c3 ?c4 ?c5 ?_; walk_at "MINE enter")
  intro h' t' hP' F' N' B' X' T' hL' hk' hdp' hun' hQ
  (try dsimp only)
  (try k_fold)
  k_steps
  refine hQ _ _ (Ends.of (by k_asm) (by k_asm) ?_)
  rw [putT]
  exact .node (.inr (by k_mem)) (hxe.mono fun _ _ => Or.inl) .nil .nil
theorem put_nil {w mean mg mb} {fv sv cv xv : Value} {fs : List Fn} {ss : List Int} {ks : List (Int × Int)} {p : Nat} {x : Ent} {P : Know} {tp : Tok} (hxe : EntR w P xv x) : Does w mean mg mb 91 [.none, .int (p : Int) tp, xv, fv, sv, cv] (Tr.nil.size + 3) P (fun P' r => TreeR w P' r (putT fs ss ks p x .nil)) :=
  Does.of fun dp un gd cn cs L a ccd cl outer base g L' s Q => OkAt.all put_nil_b put_nil_at _ hxe
set_option maxRecDepth 100000 in
set_option maxHeartbeats 0 in
theorem put_does {w mean mg mb} {fv sv cv : Value} {fs : List Fn} {ss : List Int} {ks : List (Int × Int)} {p : Nat} {x : Ent} (h6 : ss.length = 6) (f6 : fs.length = 6) (hks : ∀ k ∈ ks, k.1 = 0 ∨ k.1 = 1 ∨ k.1 = 2) (hp : p < 6) (hx : x.cs.length ≤ 100) :
   ∀ (t : Tr) {P : Know} {tv xv : Value} {tp : Tok}, FunsR P fv fs → IntsR P sv ss → CompR P cv ks → EntR w P xv x → TreeR w P tv t → t.all (· < 6) → t.few 100 → Does w mean mg mb 91 [tv, .int (p : Int) tp, xv, fv, sv, cv] (t.size + 3) P (fun P' r => TreeR w P' r (putT fs ss ks p x t)) := by
  intro t
  induction t with
  | nil =>
    intro P tv xv tp hf hs hc hxe T ha hfew
    cases T
    exact put_nil hxe
  | node top e l r ihl ihr =>
    intro P tv xv tp hf hs hc hxe T ha hfew
    exact put_node h6 f6 hks hp hx top e l r ihl ihr hf hs hc hxe T ha hfew
end
end
section -- LTreap
def Tr.inord : Tr → List Nat
  | .nil => []
  | .node t _ l r => l.inord ++ t :: r.inord
def Tr.ents : Tr → List (Nat × Ent)
  | .nil => []
  | .node t e l r => l.ents ++ (t, e) :: r.ents
def Tr.heap (ss : List Int) : Tr → Prop
  | .nil => True
  | .node t _ l r => (∀ x ∈ l.inord, Before ss t x = true) ∧ (∀ x ∈ r.inord, Before ss t x = true) ∧ l.heap ss ∧ r.heap ss

theorem before_trans {ss : List Int} {a b c : Nat} (h1 : Before ss a b = true) (h2 : Before ss b c = true) : Before ss a c = true := by
  simp only [Before, decide_eq_true_eq] at *
  omega
theorem before_total {ss : List Int} {a b : Nat} (h : a ≠ b) : Before ss a b = true ∨ Before ss b a = true := by
  simp only [Before, decide_eq_true_eq]
  omega
theorem before_asymm {ss : List Int} {a b : Nat} (h1 : Before ss a b = true) : Before ss b a = false := by
  simp only [Before, decide_eq_true_eq, decide_eq_false_iff_not] at *
  omega

theorem join_inord (ss : List Int) : ∀ n, ∀ a b : Tr, a.size + b.size ≤ n → (joinT ss a b).inord = a.inord ++ b.inord ∧ (joinT ss a b).ents = a.ents ++ b.ents := by
  intro n
  induction n with
  | zero =>
    intro a b h
    cases a with
    | nil => rw [joinT]; simp [Tr.inord, Tr.ents]
    | node i e l r => simp only [Tr.size] at h; omega
  | succ n ih =>
    intro a b h
    cases a with
    | nil => rw [joinT]; simp [Tr.inord, Tr.ents]
    | node i e l r =>
      cases b with
      | nil => rw [joinT]; simp [Tr.inord, Tr.ents]
      | node j f l' r' =>
        rw [joinT]
        split
        · obtain ⟨h1, h2⟩ := ih r (.node j f l' r') (by simp only [Tr.size] at *; omega)
          simp [Tr.inord, Tr.ents, h1, h2]
        · obtain ⟨h1, h2⟩ := ih (.node i e l r) l' (by simp only [Tr.size] at *; omega)
          simp [Tr.inord, Tr.ents, h1, h2]
theorem join_heap (ss : List Int) : ∀ n, ∀ a b : Tr, a.size + b.size ≤ n → a.heap ss → b.heap ss → (∀ x ∈ a.inord, ∀ y ∈ b.inord, x ≠ y) → (joinT ss a b).heap ss := by
  intro n
  induction n with
  | zero =>
    intro a b h ha hb _
    cases a with
    | nil => rw [joinT]; exact hb
    | node i e l r => simp only [Tr.size] at h; omega
  | succ n ih =>
    intro a b h ha hb hd
    cases a with
    | nil => rw [joinT]; exact hb
    | node i e l r =>
      cases b with
      | nil => rw [joinT]; exact ha
      | node j f l' r' =>
        have hij : i ≠ j := hd i (by simp [Tr.inord]) j (by simp [Tr.inord])
        rw [joinT]
        split
        · rename_i hb4
          have h3 := ih r (.node j f l' r') (by simp only [Tr.size] at *; omega) ha.2.2.2 hb (fun x hx y hy => hd x (by simp [Tr.inord, hx]) y hy)
          refine ⟨ha.1, ?_, ha.2.2.1, h3⟩
          intro x hx
          rw [(join_inord ss _ _ _ (Nat.le_refl _)).1] at hx
          rcases List.mem_append.mp hx with hx | hx
          · exact ha.2.1 x hx
          · simp only [Tr.inord, List.mem_append, List.mem_cons] at hx
            rcases hx with hx | rfl | hx
            · exact before_trans hb4 (hb.1 x hx)
            · exact hb4
            · exact before_trans hb4 (hb.2.1 x hx)
        · rename_i hb4
          have hji : Before ss j i = true := (before_total hij).resolve_left hb4
          have h3 := ih (.node i e l r) l' (by simp only [Tr.size] at *; omega) ha hb.2.2.1 (fun x hx y hy => hd x hx y (by simp [Tr.inord, hy]))
          refine ⟨?_, hb.2.1, h3, hb.2.2.2⟩
          intro x hx
          rw [(join_inord ss _ _ _ (Nat.le_refl _)).1] at hx
          rcases List.mem_append.mp hx with hx | hx
          · simp only [Tr.inord, List.mem_append, List.mem_cons] at hx
            rcases hx with hx | rfl | hx
            · exact before_trans hji (ha.1 x hx)
            · exact hji
            · exact before_trans hji (ha.2.1 x hx)
          · exact hb.1 x hx
def Tr.bst (rk : Nat → Nat) (t : Tr) : Prop := t.inord.Pairwise (fun a b => rk a < rk b)
theorem bst_node {rk : Nat → Nat} {t : Nat} {e : Ent} {l r : Tr} : (Tr.node t e l r).bst rk ↔ l.bst rk ∧ r.bst rk ∧ (∀ x ∈ l.inord, rk x < rk t) ∧ (∀ x ∈ r.inord, rk t < rk x) ∧ (∀ x ∈ l.inord, ∀ y ∈ r.inord, rk x < rk y) := by
  unfold Tr.bst
  rw [Tr.inord, List.pairwise_append, List.pairwise_cons]
  constructor
  · rintro ⟨h1, ⟨h2, h3⟩, h4⟩
    exact ⟨h1, h3, fun x hx => h4 x hx t (.head _), h2, fun x hx y hy => h4 x hx y (.tail _ hy)⟩
  · rintro ⟨h1, h2, h3, h4, h5⟩
    refine ⟨h1, ⟨h4, h2⟩, fun x hx y hy => ?_⟩
    rcases List.mem_cons.mp hy with rfl | hy
    · exact h3 x hx
    · exact h5 x hx y hy
theorem upL_inord {ss : List Int} {top : Nat} {e : Ent} {l r : Tr} (h : l ≠ .nil) : (upL ss top e l r).inord = l.inord ++ top :: r.inord ∧ (upL ss top e l r).ents = l.ents ++ (top, e) :: r.ents := by
  unfold upL
  split
  · split <;> simp [Tr.inord, Tr.ents]
  · contradiction
theorem upR_inord {ss : List Int} {top : Nat} {e : Ent} {l r : Tr} (h : r ≠ .nil) : (upR ss top e l r).inord = l.inord ++ top :: r.inord ∧ (upR ss top e l r).ents = l.ents ++ (top, e) :: r.ents := by
  unfold upR
  split
  · split <;> simp [Tr.inord, Tr.ents]
  · contradiction
def Ranked (fs : List Fn) (ks : List (Int × Int)) (rk : Nat → Nat) : Prop := ∀ a b, a < 6 → b < 6 → (cmpF ks (fnAt fs a) (fnAt fs b) = 0 ↔ a = b) ∧ (cmpF ks (fnAt fs a) (fnAt fs b) < 0 ↔ rk a < rk b) ∧ (a ≠ b → rk a ≠ rk b)
section
variable {fs : List Fn} {ss : List Int} {ks : List (Int × Int)} {rk : Nat → Nat} {p : Nat} {x : Ent}
theorem put_mem (hr : Ranked fs ks rk) (hp : p < 6) : ∀ t : Tr, t.all (· < 6) → ∀ y, y ∈ (putT fs ss ks p x t).inord ↔ y = p ∨ y ∈ t.inord
  | .nil, _, y => by simp [putT, Tr.inord]
  | .node top e l r, ha, y => by
    have ht : top < 6 := ha.1
    rw [putT]
    split
    · rename_i h0
      have e0 : p = top := (hr p top hp ht).1.mp h0
      subst e0
      simp only [Tr.inord, List.mem_append, List.mem_cons]
      constructor
      · exact fun h => .inr h
      · rintro (h | h)
        · exact .inr (.inl h)
        · exact h
    · split
      · rw [(upL_inord (putT_ne l)).1, Tr.inord]
        simp only [List.mem_append, List.mem_cons, put_mem hr hp l ha.2.1 y, or_assoc]
      · rw [(upR_inord (putT_ne r)).1, Tr.inord]
        simp only [List.mem_append, List.mem_cons, put_mem hr hp r ha.2.2 y]
        constructor
        · rintro (h | h | h | h)
          · exact .inr (.inl h)
          · exact .inr (.inr (.inl h))
          · exact .inl h
          · exact .inr (.inr (.inr h))
        · rintro (h | h | h | h)
          · exact .inr (.inr (.inl h))
          · exact .inl h
          · exact .inr (.inl h)
          · exact .inr (.inr (.inr h))
end
section
variable {fs : List Fn} {ss : List Int} {ks : List (Int × Int)} {rk : Nat → Nat} {p : Nat} {x : Ent}
theorem all_mem {q : Nat → Prop} : ∀ {t : Tr}, t.all q → ∀ y ∈ t.inord, q y
  | .nil, _, y, hy => nomatch hy
  | .node top e l r, h, y, hy => by
    simp only [Tr.inord, List.mem_append, List.mem_cons] at hy
    rcases hy with hy | rfl | hy
    · exact all_mem h.2.1 y hy
    · exact h.1
    · exact all_mem h.2.2 y hy
theorem put_bst (hr : Ranked fs ks rk) (hp : p < 6) : ∀ t : Tr, t.all (· < 6) → t.bst rk → (putT fs ss ks p x t).bst rk := by
  intro t
  induction t with
  | nil =>
    intro _ _
    rw [putT, bst_node]
    exact ⟨List.Pairwise.nil, List.Pairwise.nil, fun _ h => (nomatch h), fun _ h => (nomatch h), fun _ h => (nomatch h)⟩
  | node top e l r ihl ihr =>
    intro ha hb
    have ht : top < 6 := ha.1
    obtain ⟨b1, b2, b3, b4, b5⟩ := bst_node.mp hb
    rw [putT]
    split
    · exact bst_node.mpr ⟨b1, b2, b3, b4, b5⟩
    · rename_i h0
      have hne : p ≠ top := fun q => h0 ((hr p top hp ht).1.mpr q)
      split
      · rename_i h1
        have hlt : rk p < rk top := (hr p top hp ht).2.1.mp h1
        have hi := ihl ha.2.1 b1
        have hm := put_mem (ss := ss) (x := x) hr hp l ha.2.1
        have : (Tr.node top e (putT fs ss ks p x l) r).bst rk := by
          refine bst_node.mpr ⟨hi, b2, fun y hy => ?_, b4, fun y hy z hz => ?_⟩
          · rcases (hm y).mp hy with rfl | hy
            · exact hlt
            · exact b3 y hy
          · rcases (hm y).mp hy with rfl | hy
            · exact Nat.lt_trans hlt (b4 z hz)
            · exact b5 y hy z hz
        unfold Tr.bst at this ⊢
        rw [(upL_inord (putT_ne l)).1]
        exact this
      · rename_i h1
        have hlt : rk top < rk p := by
          have h2 := (hr p top hp ht).2.2 hne
          have h3 : ¬ rk p < rk top := fun q => h1 ((hr p top hp ht).2.1.mpr q)
          omega
        have hi := ihr ha.2.2 b2
        have hm := put_mem (ss := ss) (x := x) hr hp r ha.2.2
        have : (Tr.node top e l (putT fs ss ks p x r)).bst rk := by
          refine bst_node.mpr ⟨b1, hi, b3, fun y hy => ?_, fun y hy z hz => ?_⟩
          · rcases (hm y).mp hy with rfl | hy
            · exact hlt
            · exact b4 y hy
          · rcases (hm z).mp hz with rfl | hz
            · exact Nat.lt_trans (b3 y hy) hlt
            · exact b5 y hy z hz
        unfold Tr.bst at this ⊢
        rw [(upR_inord (putT_ne r)).1]
        exact this
end

section
variable {fs : List Fn} {ss : List Int} {ks : List (Int × Int)} {rk : Nat → Nat} {p : Nat} {x : Ent}
theorem bst_ne {t : Tr} (h : t.bst rk) : t.inord.Nodup := h.imp fun h e => by rw [e] at h; exact Nat.lt_irrefl _ h
theorem put_heap (hr : Ranked fs ks rk) (hp : p < 6) : ∀ t : Tr, t.all (· < 6) → t.bst rk → t.heap ss → (putT fs ss ks p x t).heap ss := by
  intro t
  induction t with
  | nil =>
    intro _ _ _
    rw [putT]; exact ⟨fun _ h => (nomatch h), fun _ h => (nomatch h), trivial, trivial⟩
  | node top e l r ihl ihr =>
    intro ha hb hh
    have ht : top < 6 := ha.1
    obtain ⟨b1, b2, b3, b4, b5⟩ := bst_node.mp hb
    obtain ⟨h1, h2, h3, h4⟩ := hh
    rw [putT]
    split
    · exact ⟨h1, h2, h3, h4⟩
    · rename_i h0
      have hne : p ≠ top := fun q => h0 ((hr p top hp ht).1.mpr q)
      split
      · have hi := ihl ha.2.1 b1 h3
        have hm := put_mem (ss := ss) (x := x) hr hp l ha.2.1
        have hbst := put_bst (ss := ss) (x := x) hr hp l ha.2.1 b1
        unfold upL
        split
        · rename_i lt le ll lr heq
          rw [heq] at hi hm hbst
          obtain ⟨i1, i2, i3, i4⟩ := hi
          have hlt : lt = p ∨ lt ∈ l.inord := (hm lt).mp (by simp [Tr.inord])
          split
          · rename_i hbf
            refine ⟨i1, fun y hy => ?_, i3, fun y hy => ?_, h2, i4, h4⟩
            · simp only [Tr.inord, List.mem_append, List.mem_cons] at hy
              rcases hy with hy | rfl | hy
              · exact i2 y hy
              · exact hbf
              · exact before_trans hbf (h2 y hy)
            · rcases (hm y).mp (by simp [Tr.inord, hy]) with rfl | hy'
              · rcases hlt with q | q
                · have nd := bst_ne hbst
                  rw [Tr.inord, List.nodup_append] at nd
                  exact absurd (q ▸ hy) (List.nodup_cons.mp nd.2.1).1
                · exact absurd (before_asymm (h1 lt q)) (by rw [hbf]; decide)
              · exact h1 y hy'
          · rename_i hbf
            refine ⟨fun y hy => ?_, h2, ⟨i1, i2, i3, i4⟩, h4⟩
            rcases (hm y).mp hy with rfl | hy'
            · have hnt : lt ≠ top := fun q => by
                rcases hlt with q' | q'
                · exact hne (q' ▸ q)
                · exact absurd (b3 lt q') (by rw [q]; exact Nat.lt_irrefl _)
              have htl : Before ss top lt = true := (before_total (Ne.symm hnt)).resolve_right hbf
              simp only [Tr.inord, List.mem_append, List.mem_cons] at hy
              rcases hy with hy | rfl | hy
              · exact before_trans htl (i1 _ hy)
              · exact htl
              · exact before_trans htl (i2 _ hy)
            · exact h1 y hy'
        · rename_i heq; exact absurd heq (putT_ne l)
      · have hi := ihr ha.2.2 b2 h4
        have hm := put_mem (ss := ss) (x := x) hr hp r ha.2.2
        have hbst := put_bst (ss := ss) (x := x) hr hp r ha.2.2 b2
        unfold upR
        split
        · rename_i lt le ll lr heq
          rw [heq] at hi hm hbst
          obtain ⟨i1, i2, i3, i4⟩ := hi
          have hlt : lt = p ∨ lt ∈ r.inord := (hm lt).mp (by simp [Tr.inord])
          split
          · rename_i hbf
            refine ⟨fun y hy => ?_, i2, ⟨h1, fun y hy => ?_, h3, i3⟩, i4⟩
            · simp only [Tr.inord, List.mem_append, List.mem_cons] at hy
              rcases hy with hy | rfl | hy
              · exact before_trans hbf (h1 y hy)
              · exact hbf
              · exact i1 y hy
            · rcases (hm y).mp (by simp [Tr.inord, hy]) with rfl | hy'
              · rcases hlt with q | q
                · have nd := bst_ne hbst
                  rw [Tr.inord, List.nodup_append] at nd
                  exact absurd rfl (nd.2.2 _ (q ▸ hy) _ (by rw [q]; exact .head _))
                · exact absurd (before_asymm (h2 lt q)) (by rw [hbf]; decide)
              · exact h2 y hy'
          · rename_i hbf
            refine ⟨h1, fun y hy => ?_, h3, ⟨i1, i2, i3, i4⟩⟩
            rcases (hm y).mp hy with rfl | hy'
            · have hnt : lt ≠ top := fun q => by
                rcases hlt with q' | q'
                · exact hne (q' ▸ q)
                · exact absurd (b4 lt q') (by rw [q]; exact Nat.lt_irrefl _)
              have htl : Before ss top lt = true := (before_total (Ne.symm hnt)).resolve_right hbf
              simp only [Tr.inord, List.mem_append, List.mem_cons] at hy
              rcases hy with hy | rfl | hy
              · exact before_trans htl (i1 _ hy)
              · exact htl
              · exact before_trans htl (i2 _ hy)
            · exact h2 y hy'
        · rename_i heq; exact absurd heq (putT_ne r)

theorem ents_inord : ∀ {t : Tr} {k : Nat} {e : Ent}, (k, e) ∈ t.ents → k ∈ t.inord
  | .nil, _, _, h => nomatch h
  | .node top e0 l r, k, e, h => by
    simp only [Tr.ents, Tr.inord, List.mem_append, List.mem_cons, Prod.mk.injEq] at h ⊢
    rcases h with h | ⟨rfl, _⟩ | h
    · exact .inl (ents_inord h)
    · exact .inr (.inl rfl)
    · exact .inr (.inr (ents_inord h))
theorem upL_ents {top : Nat} {e : Ent} {l r : Tr} (h : l ≠ .nil) : ∀ q, q ∈ (upL ss top e l r).ents ↔ q ∈ (Tr.node top e l r).ents := fun q => by
  rw [(upL_inord h).2, Tr.ents]
theorem upR_ents {top : Nat} {e : Ent} {l r : Tr} (h : r ≠ .nil) : ∀ q, q ∈ (upR ss top e l r).ents ↔ q ∈ (Tr.node top e l r).ents := fun q => by
  rw [(upR_inord h).2, Tr.ents]
theorem put_ents (hr : Ranked fs ks rk) (hp : p < 6) : ∀ t : Tr, t.all (· < 6) → t.bst rk → ∀ k e, (k, e) ∈ (putT fs ss ks p x t).ents →
    (k ≠ p ∧ (k, e) ∈ t.ents) ∨ (k = p ∧ ((∃ e0, (p, e0) ∈ t.ents ∧ e = addEnt e0 x) ∨ (p ∉ t.inord ∧ e = x))) := by
  intro t
  induction t with
  | nil =>
    intro _ _ k e h
    rw [putT] at h
    simp only [Tr.ents, List.nil_append, List.mem_singleton, Prod.mk.injEq] at h
    exact .inr ⟨h.1, .inr ⟨fun q => (nomatch q), h.2⟩⟩
  | node top e0 l r ihl ihr =>
    intro ha hb k e h
    have ht : top < 6 := ha.1
    obtain ⟨b1, b2, b3, b4, b5⟩ := bst_node.mp hb
    rw [putT] at h
    split at h
    · rename_i h0
      have e0' : p = top := (hr p top hp ht).1.mp h0
      subst e0'
      simp only [Tr.ents, List.mem_append, List.mem_cons, Prod.mk.injEq] at h
      rcases h with h | ⟨rfl, rfl⟩ | h
      · refine .inl ⟨fun q => ?_, by simp [Tr.ents, h]⟩
        exact absurd (b3 k (ents_inord h)) (by rw [q]; exact Nat.lt_irrefl _)
      · exact .inr ⟨rfl, .inl ⟨e0, by simp [Tr.ents], rfl⟩⟩
      · refine .inl ⟨fun q => ?_, by simp [Tr.ents, h]⟩
        exact absurd (b4 k (ents_inord h)) (by rw [q]; exact Nat.lt_irrefl _)
    · rename_i h0
      have hne : p ≠ top := fun q => h0 ((hr p top hp ht).1.mpr q)
      split at h
      · rename_i h1
        have hlt : rk p < rk top := (hr p top hp ht).2.1.mp h1
        rw [upL_ents (putT_ne l)] at h
        simp only [Tr.ents, List.mem_append, List.mem_cons, Prod.mk.injEq] at h
        rcases h with h | ⟨rfl, rfl⟩ | h
        · rcases ihl ha.2.1 b1 k e h with ⟨q1, q2⟩ | ⟨q1, ⟨f, q2, q3⟩ | ⟨q2, q3⟩⟩
          · exact .inl ⟨q1, by simp [Tr.ents, q2]⟩
          · exact .inr ⟨q1, .inl ⟨f, by simp [Tr.ents, q2], q3⟩⟩
          · refine .inr ⟨q1, .inr ⟨fun q => ?_, q3⟩⟩
            simp only [Tr.inord, List.mem_append, List.mem_cons] at q
            rcases q with q | q | q
            · exact q2 q
            · exact hne q
            · exact absurd (b4 p q) (by omega)
        · exact .inl ⟨Ne.symm hne, by simp [Tr.ents]⟩
        · refine .inl ⟨fun q => ?_, by simp [Tr.ents, h]⟩
          have := b4 k (ents_inord h)
          rw [q] at this; omega
      · rename_i h1
        have hlt : rk top < rk p := by
          have h2 := (hr p top hp ht).2.2 hne
          have h3 : ¬ rk p < rk top := fun q => h1 ((hr p top hp ht).2.1.mpr q)
          omega
        rw [upR_ents (putT_ne r)] at h
        simp only [Tr.ents, List.mem_append, List.mem_cons, Prod.mk.injEq] at h
        rcases h with h | ⟨rfl, rfl⟩ | h
        · refine .inl ⟨fun q => ?_, by simp [Tr.ents, h]⟩
          have := b3 k (ents_inord h)
          rw [q] at this; omega
        · exact .inl ⟨Ne.symm hne, by simp [Tr.ents]⟩
        · rcases ihr ha.2.2 b2 k e h with ⟨q1, q2⟩ | ⟨q1, ⟨f, q2, q3⟩ | ⟨q2, q3⟩⟩
          · exact .inl ⟨q1, by simp [Tr.ents, q2]⟩
          · exact .inr ⟨q1, .inl ⟨f, by simp [Tr.ents, q2], q3⟩⟩
          · refine .inr ⟨q1, .inr ⟨fun q => ?_, q3⟩⟩
            simp only [Tr.inord, List.mem_append, List.mem_cons] at q
            rcases q with q | q | q
            · exact absurd (b3 p q) (by omega)
            · exact hne q
            · exact q2 q

theorem drop_inord (hr : Ranked fs ks rk) (hp : p < 6) : ∀ t : Tr, t.all (· < 6) → t.bst rk →
    (dropT fs ss ks p t).inord = t.inord.filter (fun k => decide (k ≠ p)) ∧ (dropT fs ss ks p t).ents = t.ents.filter (fun k => decide (k.1 ≠ p)) := by
  intro t
  induction t with
  | nil =>
    intro _ _
    rw [dropT]; exact ⟨rfl, rfl⟩
  | node top e l r ihl ihr =>
    intro ha hb
    have ht : top < 6 := ha.1
    obtain ⟨b1, b2, b3, b4, b5⟩ := bst_node.mp hb
    have keep : ∀ u : Tr, (∀ y ∈ u.inord, y ≠ p) → u.inord.filter (fun k => decide (k ≠ p)) = u.inord ∧ u.ents.filter (fun k => decide (k.1 ≠ p)) = u.ents := fun u hu =>
      ⟨List.filter_eq_self.mpr fun y hy => by simpa using hu y hy, List.filter_eq_self.mpr fun y hy => by simpa using hu y.1 (ents_inord hy)⟩
    rw [dropT]
    split
    · rename_i h0
      have e0 : p = top := (hr p top hp ht).1.mp h0
      subst e0
      obtain ⟨k1, k2⟩ := keep l fun y hy q => absurd (b3 y hy) (by rw [q]; exact Nat.lt_irrefl _)
      obtain ⟨k3, k4⟩ := keep r fun y hy q => absurd (b4 y hy) (by rw [q]; exact Nat.lt_irrefl _)
      obtain ⟨j1, j2⟩ := join_inord ss _ l r (Nat.le_refl _)
      rw [j1, j2, Tr.inord, Tr.ents, List.filter_append, List.filter_append, List.filter_cons_of_neg (by simp), List.filter_cons_of_neg (by simp), k1, k2, k3, k4]
      exact ⟨rfl, rfl⟩
    · rename_i h0
      have hne : top ≠ p := fun q => h0 ((hr p top hp ht).1.mpr q.symm)
      split
      · rename_i h1
        have hlt : rk p < rk top := (hr p top hp ht).2.1.mp h1
        obtain ⟨k3, k4⟩ := keep r fun y hy q => absurd (b4 y hy) (by rw [q]; omega)
        obtain ⟨i1, i2⟩ := ihl ha.2.1 b1
        rw [Tr.inord, Tr.ents, Tr.inord, Tr.ents, List.filter_append, List.filter_append, List.filter_cons_of_pos (by simpa using hne), List.filter_cons_of_pos (by simpa using hne), i1, i2, k3, k4]
        exact ⟨rfl, rfl⟩
      · rename_i h1
        have hlt : rk top < rk p := by
          have h2 := (hr p top hp ht).2.2 (Ne.symm hne)
          have h3 : ¬ rk p < rk top := fun q => h1 ((hr p top hp ht).2.1.mpr q)
          omega
        obtain ⟨k3, k4⟩ := keep l fun y hy q => absurd (b3 y hy) (by rw [q]; omega)
        obtain ⟨i1, i2⟩ := ihr ha.2.2 b2
        rw [Tr.inord, Tr.ents, Tr.inord, Tr.ents, List.filter_append, List.filter_append, List.filter_cons_of_pos (by simpa using hne), List.filter_cons_of_pos (by simpa using hne), i1, i2, k3, k4]
        exact ⟨rfl, rfl⟩
theorem drop_heap (hr : Ranked fs ks rk) (hp : p < 6) : ∀ t : Tr, t.all (· < 6) → t.bst rk → t.heap ss → (dropT fs ss ks p t).heap ss
  | .nil, _, _, _ => by rw [dropT]; trivial
  | .node top e l r, ha, hb, hh => by
    obtain ⟨b1, b2, b3, b4, b5⟩ := bst_node.mp hb
    obtain ⟨h1, h2, h3, h4⟩ := hh
    rw [dropT]
    split
    · refine join_heap ss _ l r (Nat.le_refl _) h3 h4 fun y hy z hz q => ?_
      exact absurd (b5 y hy z hz) (by rw [q]; exact Nat.lt_irrefl _)
    · split
      · refine ⟨fun y hy => ?_, h2, drop_heap hr hp l ha.2.1 b1 h3, h4⟩
        rw [(drop_inord hr hp l ha.2.1 b1).1] at hy
        exact h1 y (List.mem_filter.mp hy).1
      · refine ⟨h1, fun y hy => ?_, h3, drop_heap hr hp r ha.2.2 b2 h4⟩
        rw [(drop_inord hr hp r ha.2.2 b2).1] at hy
        exact h2 y (List.mem_filter.mp hy).1
theorem drop_bst (hr : Ranked fs ks rk) (hp : p < 6) (t : Tr) (ha : t.all (· < 6)) (hb : t.bst rk) : (dropT fs ss ks p t).bst rk := by
  unfold Tr.bst
  rw [(drop_inord hr hp t ha hb).1]
  exact List.Pairwise.sublist List.filter_sublist hb
theorem mem_all {q : Nat → Prop} : ∀ {t : Tr}, (∀ y ∈ t.inord, q y) → t.all q
  | .nil, _ => trivial
  | .node top e l r, h => ⟨h top (by simp [Tr.inord]), mem_all fun y hy => h y (by simp [Tr.inord, hy]), mem_all fun y hy => h y (by simp [Tr.inord, hy])⟩
theorem ents_few {c : Nat} : ∀ {t : Tr}, (∀ k e, (k, e) ∈ t.ents → e.cs.length ≤ c) → t.few c
  | .nil, _ => trivial
  | .node top e l r, h => ⟨h top e (by simp [Tr.ents]), ents_few fun k f hy => h k f (by simp [Tr.ents, hy]), ents_few fun k f hy => h k f (by simp [Tr.ents, hy])⟩
end

theorem sorted_eq {rk : Nat → Nat} : ∀ {a b : List Nat}, a.Pairwise (fun x y => rk x < rk y) → b.Pairwise (fun x y => rk x < rk y) → (∀ x, x ∈ a ↔ x ∈ b) → a = b
  | [], [], _, _, _ => rfl
  | [], y :: b, _, _, h => nomatch (h y).mpr (.head _)
  | x :: a, [], _, _, h => nomatch (h x).mp (.head _)
  | x :: a, y :: b, ha, hb, h => by
    obtain ⟨a1, a2⟩ := List.pairwise_cons.mp ha
    obtain ⟨b1, b2⟩ := List.pairwise_cons.mp hb
    have hxy : x = y := by
      rcases List.mem_cons.mp ((h x).mp (.head _)) with q | q
      · exact q
      · rcases List.mem_cons.mp ((h y).mpr (.head _)) with q' | q'
        · exact q'.symm
        · exact absurd (a1 y q') (Nat.lt_asymm (b1 x q))
    subst hxy
    congr 1
    refine sorted_eq a2 b2 fun z => ⟨fun hz => ?_, fun hz => ?_⟩
    · rcases List.mem_cons.mp ((h z).mp (.tail _ hz)) with q | q
      · exact absurd (a1 z hz) (by rw [q]; exact Nat.lt_irrefl _)
      · exact q
    · rcases List.mem_cons.mp ((h z).mpr (.tail _ hz)) with q | q
      · exact absurd (b1 z hz) (by rw [q]; exact Nat.lt_irrefl _)
      · exact q

def CsOk (cs : List (Str × Int)) (names : List Str) : Prop := (cs.map (·.1)).Nodup ∧ ∀ k v, (k, v) ∈ cs ↔ 0 < names.count k ∧ v = (names.count k : Nat)
def EntOk (e : Ent) (calls : List Call1) : Prop :=
  e.cc = (calls.map (·.fresh)).sum ∧ e.nc = calls.length ∧ e.tt = (calls.map (·.times)).sum ∧ e.ct = (calls.map (·.place)).sum ∧ CsOk e.cs (calls.map (·.who))
def EntEq (a b : Ent) : Prop := a.cc = b.cc ∧ a.nc = b.nc ∧ a.tt = b.tt ∧ a.ct = b.ct ∧ (a.cs.map (·.1)).Nodup ∧ (b.cs.map (·.1)).Nodup ∧ ∀ q, q ∈ a.cs ↔ q ∈ b.cs
inductive TrEq : Tr → Tr → Prop where
  | nil : TrEq .nil .nil
  | node {t : Nat} {e e' : Ent} {l l' r r' : Tr} : EntEq e e' → TrEq l l' → TrEq r r' → TrEq (.node t e l r) (.node t e' l' r')
theorem EntOk.eq {a b : Ent} {calls : List Call1} (h1 : EntOk a calls) (h2 : EntOk b calls) : EntEq a b :=
  ⟨h1.1.trans h2.1.symm, h1.2.1.trans h2.2.1.symm, h1.2.2.1.trans h2.2.2.1.symm, h1.2.2.2.1.trans h2.2.2.2.1.symm, h1.2.2.2.2.1, h2.2.2.2.2.1, fun q => (h1.2.2.2.2.2 q.1 q.2).trans (h2.2.2.2.2.2 q.1 q.2).symm⟩

theorem addOne_keys (k : Str) (v : Int) : ∀ cs : List (Str × Int), (∀ k', k' ∈ (addOne cs k v).map (·.1) ↔ k' = k ∨ k' ∈ cs.map (·.1))
  | [], k' => by simp [addOne]
  | (k0, v0) :: r, k' => by
    rw [addOne]
    split
    · rename_i h; subst h; simp
    · have := addOne_keys k v r k'
      simp only [List.map_cons, List.mem_cons, this]
      constructor
      · rintro (h | h | h)
        · exact .inr (.inl h)
        · exact .inl h
        · exact .inr (.inr h)
      · rintro (h | h | h)
        · exact .inr (.inl h)
        · exact .inl h
        · exact .inr (.inr h)
theorem addOne_nodup (k : Str) (v : Int) : ∀ cs : List (Str × Int), (cs.map (·.1)).Nodup → ((addOne cs k v).map (·.1)).Nodup
  | [], _ => by simp [addOne]
  | (k0, v0) :: r, h => by
    obtain ⟨h1, h2⟩ := List.nodup_cons.mp h
    rw [addOne]
    split
    · exact List.nodup_cons.mpr ⟨h1, h2⟩
    · rename_i hne
      refine List.nodup_cons.mpr ⟨fun q => ?_, addOne_nodup k v r h2⟩
      rcases (addOne_keys k v r k0).mp q with q | q
      · exact hne q
      · exact h1 q
theorem addOne_mem (k : Str) (v : Int) : ∀ cs : List (Str × Int), (cs.map (·.1)).Nodup → ∀ k' v', (k', v') ∈ addOne cs k v ↔ (k' ≠ k ∧ (k', v') ∈ cs) ∨ (k' = k ∧ ((k ∉ cs.map (·.1) ∧ v' = v) ∨ ∃ v0, (k, v0) ∈ cs ∧ v' = v0 + v))
  | [], _, k', v' => by
    simp only [addOne, List.mem_singleton, Prod.mk.injEq, List.map_nil, List.not_mem_nil, and_false, false_or, not_false_eq_true, true_and, false_and, exists_false, or_false]
  | (k0, v0) :: r, h, k', v' => by
    obtain ⟨h1, h2⟩ := List.nodup_cons.mp h
    have nm : ∀ x, (k0, x) ∉ r := fun x q => h1 (List.mem_map.mpr ⟨_, q, rfl⟩)
    rw [addOne]
    split
    · rename_i hk
      subst hk
      constructor
      · intro q
        rcases List.mem_cons.mp q with q | q
        · cases q
          exact .inr ⟨rfl, .inr ⟨v0, .head _, rfl⟩⟩
        · exact .inl ⟨fun e => nm v' (e ▸ q), .tail _ q⟩
      · rintro (⟨q1, q2⟩ | ⟨rfl, ⟨q1, _⟩ | ⟨v1, q1, rfl⟩⟩)
        · rcases List.mem_cons.mp q2 with q | q
          · cases q; exact absurd rfl q1
          · exact .tail _ q
        · exact absurd (List.mem_cons.mpr (.inl rfl)) q1
        · rcases List.mem_cons.mp q1 with q | q
          · cases q; exact .head _
          · exact absurd q (nm _)
    · rename_i hk
      have ih := addOne_mem k v r h2 k' v'
      rw [List.mem_cons, ih]
      constructor
      · rintro (q | ⟨q1, q2⟩ | ⟨q1, ⟨q2, q3⟩ | ⟨v1, q2, q3⟩⟩)
        · cases q
          exact .inl ⟨hk, .head _⟩
        · exact .inl ⟨q1, .tail _ q2⟩
        · refine .inr ⟨q1, .inl ⟨fun q => ?_, q3⟩⟩
          rcases List.mem_cons.mp q with q | q
          · exact hk q.symm
          · exact q2 q
        · exact .inr ⟨q1, .inr ⟨v1, .tail _ q2, q3⟩⟩
      · rintro (⟨q1, q2⟩ | ⟨q1, ⟨q2, q3⟩ | ⟨v1, q2, q3⟩⟩)
        · rcases List.mem_cons.mp q2 with q | q
          · exact .inl q
          · exact .inr (.inl ⟨q1, q⟩)
        · exact .inr (.inr ⟨q1, .inl ⟨fun q => q2 (List.mem_cons.mpr (.inr q)), q3⟩⟩)
        · rcases List.mem_cons.mp q2 with q | q
          · cases q; exact absurd rfl hk
          · exact .inr (.inr ⟨q1, .inr ⟨v1, q, q3⟩⟩)
theorem CsOk.key {cs : List (Str × Int)} {names : List Str} (h : CsOk cs names) (k : Str) : k ∈ cs.map (·.1) ↔ 0 < names.count k := by
  constructor
  · intro q
    obtain ⟨⟨k', v⟩, q1, rfl⟩ := List.mem_map.mp q
    exact ((h.2 _ _).mp q1).1
  · intro q
    exact List.mem_map.mpr ⟨(k, _), (h.2 k _).mpr ⟨q, rfl⟩, rfl⟩
theorem CsOk.add {cs : List (Str × Int)} {names : List Str} (h : CsOk cs names) (n : Str) : CsOk (addOne cs n 1) (names ++ [n]) := by
  refine ⟨addOne_nodup _ _ _ h.1, fun k v => ?_⟩
  rw [addOne_mem n 1 cs h.1 k v, List.count_append]
  by_cases hk : k = n
  · subst hk
    have hone : List.count k [k] = 1 := by simp
    rw [hone]
    constructor
    · rintro (⟨q, _⟩ | ⟨_, ⟨q1, rfl⟩ | ⟨v0, q1, rfl⟩⟩)
      · exact absurd rfl q
      · have h0 : names.count k = 0 := Nat.eq_zero_of_not_pos fun q => q1 ((h.key k).mpr q)
        rw [h0]; exact ⟨by omega, rfl⟩
      · obtain ⟨_, rfl⟩ := (h.2 _ _).mp q1
        exact ⟨by omega, by omega⟩
    · rintro ⟨_, rfl⟩
      refine .inr ⟨rfl, ?_⟩
      by_cases h0 : names.count k = 0
      · exact .inl ⟨fun q => by have := (h.key k).mp q; omega, by rw [h0]; rfl⟩
      · exact .inr ⟨_, (h.2 k _).mpr ⟨by omega, rfl⟩, by omega⟩
  · have hz : List.count k [n] = 0 := by simp [List.count_singleton, Ne.symm hk]
    rw [hz, Nat.add_zero, ← h.2 k v]
    constructor
    · rintro (⟨_, q⟩ | ⟨q, _⟩)
      · exact q
      · exact absurd q hk
    · exact fun q => .inl ⟨hk, q⟩
theorem putOne_mem (k : Str) (v : Int) : ∀ cs : List (Str × Int), (cs.map (·.1)).Nodup → ((putOne cs k v).map (·.1)).Nodup ∧ ∀ k' v', (k', v') ∈ putOne cs k v ↔ (k' ≠ k ∧ (k', v') ∈ cs) ∨ (k' = k ∧ v' = v)
  | [], _ => by
    refine ⟨by simp [putOne], fun k' v' => ?_⟩
    simp only [putOne, List.mem_singleton, Prod.mk.injEq, List.not_mem_nil, and_false, false_or]
  | (k0, v0) :: r, h => by
    obtain ⟨h1, h2⟩ := List.nodup_cons.mp h
    have nm : ∀ x, (k0, x) ∉ r := fun x q => h1 (List.mem_map.mpr ⟨_, q, rfl⟩)
    rw [putOne]
    split
    · rename_i hk
      subst hk
      refine ⟨List.nodup_cons.mpr ⟨h1, h2⟩, fun k' v' => ?_⟩
      constructor
      · intro q
        rcases List.mem_cons.mp q with q | q
        · cases q; exact .inr ⟨rfl, rfl⟩
        · exact .inl ⟨fun e => nm v' (e ▸ q), .tail _ q⟩
      · rintro (⟨q1, q2⟩ | ⟨rfl, rfl⟩)
        · rcases List.mem_cons.mp q2 with q | q
          · cases q; exact absurd rfl q1
          · exact .tail _ q
        · exact .head _
    · rename_i hk
      obtain ⟨i1, i2⟩ := putOne_mem k v r h2
      refine ⟨List.nodup_cons.mpr ⟨fun q => ?_, i1⟩, fun k' v' => ?_⟩
      · obtain ⟨⟨k1, v1⟩, q1, q2⟩ := List.mem_map.mp q
        dsimp only at q2
        subst q2
        rcases (i2 _ _).mp q1 with ⟨_, q⟩ | ⟨q, _⟩
        · exact nm _ q
        · exact hk q
      · rw [List.mem_cons, i2]
        constructor
        · rintro (q | ⟨q1, q2⟩ | q)
          · cases q; exact .inl ⟨hk, .head _⟩
          · exact .inl ⟨q1, .tail _ q2⟩
          · exact .inr q
        · rintro (⟨q1, q2⟩ | q)
          · rcases List.mem_cons.mp q2 with q | q
            · exact .inl q
            · exact .inr (.inl ⟨q1, q⟩)
          · exact .inr (.inr q)
theorem table_ok (names : List Str) : CsOk (tableOf names) names := by
  have key : ∀ (l : List Str) (t : List (Str × Int)), (t.map (·.1)).Nodup → ((l.foldl (fun t n => putOne t n (names.count n : Nat)) t).map (·.1)).Nodup ∧
      ∀ k v, (k, v) ∈ l.foldl (fun t n => putOne t n (names.count n : Nat)) t ↔ (k ∈ l ∧ v = (names.count k : Nat)) ∨ (k ∉ l ∧ (k, v) ∈ t) := by
    intro l
    induction l with
    | nil => intro t ht; exact ⟨ht, fun k v => by simp⟩
    | cons a r ih =>
      intro t ht
      obtain ⟨p1, p2⟩ := putOne_mem a (names.count a : Nat) t ht
      obtain ⟨i1, i2⟩ := ih _ p1
      refine ⟨i1, fun k v => ?_⟩
      rw [List.foldl_cons, i2, p2]
      by_cases hr : k ∈ r
      · simp [hr]
      · by_cases ha : k = a
        · subst ha; simp [hr]
        · simp [hr, ha]
  obtain ⟨k1, k2⟩ := key names [] (by simp)
  refine ⟨k1, fun k v => ?_⟩
  show (k, v) ∈ names.foldl _ [] ↔ _
  rw [k2]
  simp [List.count_pos_iff]
theorem ent_ok (calls : List Call1) : EntOk (entOf calls) calls := ⟨rfl, rfl, rfl, rfl, table_ok _⟩
def callEnt (c : Call1) : Ent := ⟨c.fresh, 1, c.times, c.place, [(c.who, 1)]⟩
theorem call_ok (c : Call1) : EntOk (callEnt c) [c] := by
  have h0 : CsOk [] [] := ⟨by simp, fun k v => by simp⟩
  refine ⟨by simp [callEnt], by simp [callEnt], by simp [callEnt], by simp [callEnt], ?_⟩
  exact CsOk.add h0 c.who
theorem EntOk.add {e : Ent} {calls : List Call1} (h : EntOk e calls) (c : Call1) : EntOk (addEnt e (callEnt c)) (calls ++ [c]) := by
  obtain ⟨h1, h2, h3, h4, h5⟩ := h
  refine ⟨?_, ?_, ?_, ?_, ?_⟩
  · simp only [addEnt, callEnt, h1, List.map_append, List.sum_append, List.map_cons, List.map_nil, List.sum_cons, List.sum_nil]; omega
  · simp only [addEnt, callEnt, h2, List.length_append, List.length_cons, List.length_nil]; omega
  · simp only [addEnt, callEnt, h3, List.map_append, List.sum_append, List.map_cons, List.map_nil, List.sum_cons, List.sum_nil]; omega
  · simp only [addEnt, callEnt, h4, List.map_append, List.sum_append, List.map_cons, List.map_nil, List.sum_cons, List.sum_nil]; omega
  · rw [List.map_append]; exact h5.add c.who

theorem least_of {ss : List Int} {top : Nat} : ∀ (ks : List Nat) (k : Nat), top ∈ k :: ks → (∀ y ∈ k :: ks, y ≠ top → Before ss top y = true) → leastOf ss ks k = top
  | [], k, h, _ => (List.mem_singleton.mp h).symm
  | a :: r, k, h, hb => by
    rw [leastOf]
    refine least_of r _ ?_ ?_
    · rcases List.mem_cons.mp h with q | q
      · subst q
        rw [if_neg]
        · exact .head _
        · by_cases e : a = top
          · subst e
            intro q
            simp only [Before, decide_eq_true_eq] at q
            omega
          · rw [before_asymm (hb a (by simp) e)]; decide
      · rcases List.mem_cons.mp q with q | q
        · subst q
          by_cases e : k = top
          · subst e; rw [ite_self]; exact .head _
          · rw [if_pos (hb k (by simp) e)]; exact .head _
        · exact .tail _ q
    · intro y hy hne
      refine hb y ?_ hne
      rcases List.mem_cons.mp hy with q | q
      · split at q
        · rw [q]; simp
        · rw [q]; simp
      · simp [q]
theorem told_is {ss : List Int} {bk : List (List Call1)} : ∀ (n : Nat) (t : Tr), t.inord.length < n → t.inord.Nodup → t.heap ss → (∀ k e, (k, e) ∈ t.ents → EntOk e (bk.getD k [])) → TrEq t (toldT ss bk n t.inord)
  | 0, _, h, _, _, _ => absurd h (Nat.not_lt_zero _)
  | n + 1, .nil, _, _, _, _ => by rw [Tr.inord, toldT]; exact .nil
  | n + 1, .node top e l r, hl, hn, hh, he => by
    obtain ⟨h1, h2, h3, h4⟩ := hh
    have hlen : (Tr.node top e l r).inord.length = l.inord.length + r.inord.length + 1 := by simp [Tr.inord]; omega
    have hn' := hn
    rw [Tr.inord, List.nodup_append] at hn'
    obtain ⟨n1, n2, n3⟩ := hn'
    obtain ⟨n4, n5⟩ := List.nodup_cons.mp n2
    have ntl : top ∉ l.inord := fun q => n3 top q top (.head _) rfl
    have hcons : ∃ k ks, (Tr.node top e l r).inord = k :: ks := by
      cases q : (Tr.node top e l r).inord with
      | nil => rw [q] at hlen; simp at hlen
      | cons a b => exact ⟨a, b, rfl⟩
    obtain ⟨k, ks, hk⟩ := hcons
    have hleast : leastOf ss ks k = top := by
      refine least_of ks k (by rw [← hk]; simp [Tr.inord]) fun y hy hne => ?_
      rw [← hk] at hy
      simp only [Tr.inord, List.mem_append, List.mem_cons] at hy
      rcases hy with hy | hy | hy
      · exact h1 y hy
      · exact absurd hy hne
      · exact h2 y hy
    have hidx : (k :: ks).idxOf top = l.inord.length := by
      rw [← hk, Tr.inord, List.idxOf_append, if_neg ntl]; simp
    rw [hk, toldT, hleast, hidx, ← hk]
    have ht : (Tr.node top e l r).inord.take l.inord.length = l.inord := by rw [Tr.inord, List.take_left']; rfl
    have hd : (Tr.node top e l r).inord.drop (l.inord.length + 1) = r.inord := by
      rw [Tr.inord, List.drop_append, List.drop_eq_nil_of_le (by omega)]
      have : l.inord.length + 1 - l.inord.length = 1 := by omega
      rw [this]; rfl
    rw [ht, hd]
    refine .node ((he top e (by simp [Tr.ents])).eq (ent_ok _)) (told_is n l (by omega) n1 h3 fun k f q => he k f (by simp [Tr.ents, q])) (told_is n r (by omega) n5 h4 fun k f q => he k f (by simp [Tr.ents, q]))
theorem size_inord : ∀ t : Tr, t.size = t.inord.length
  | .nil => rfl
  | .node top e l r => by simp [Tr.size, Tr.inord, size_inord l, size_inord r]; omega
end
section -- LTold
section
local macro_rules | `(tactic| walk_at "eval Name") => `(tactic| walk_at "MINE name")
local macro_rules | `(tactic| walk_at "subscriptTail") => `(tactic| walk_at "MINE item")
local macro_rules | `(tactic| walk_at "subscriptTail Call Constant ref int") => `(tactic| walk_at "MINE stop")
local macro_rules | `(tactic| walk_at "getMethod ref") => `(tactic| walk_at "MINE stop")
local macro_rules | `(tactic| walk_at "call builtin:list.index") => `(tactic| walk_at "MINE stop")
local macro_rules | `(tactic| walk_at "call builtin:list.count") => `(tactic| walk_at "MINE stop")
local macro_rules | `(tactic| walk_at "newTuple") => `(tactic| (k_here; (with_reducible show wpAny _ _ (newTuple (_ :: _ :: _ :: _ :: _)) _ _ _); refine stop_wp ?_))
local macro_rules | `(tactic| walk_at "subscriptTail Name Slice ref ref") => `(tactic| walk_at "MINE stop")
local macro_rules | `(tactic| walk_at "compareOp Eq ref ref") => `(tactic| walk_at "MINE stop")
local macro_rules | `(tactic| walk_at "eval ListComp") => `(tactic| walk_at "MINE stop")
local macro_rules | `(tactic| walk_at "exec Assign cons ListComp") => `(tactic| walk_at "MINE stop")
local macro_rules | `(tactic| walk_at "exec Assign cons DictComp") => `(tactic| walk_at "MINE stop")
local macro_rules | `(tactic| walk_at "call builtin:min") => `(tactic| walk_at "MINE stop")
local macro_rules | `(tactic| walk_at "call builtin:sum") => `(tactic| walk_at "MINE stop")
def told_step_S (b : Base) : Prop := ∀ {sv bv : Value} {ss : List Int} {bk : List (List Call1)} (h6 : ss.length = 6) (b6 : bk.length = 6) (hbk : ∀ cs ∈ bk, cs.length ≤ 100) (n : Nat) (ih : ∀ {P : Know} {rv : Value} {row : List Nat}, IntsR P sv ss → BookR P bv bk → IntsR P rv (row.map fun (k : Nat) => (k : Int)) → (∀ k ∈ row, k < 6) → row.length < n → n ≤ 100 → Does b.w b.mean b.mg b.mb 110 [rv, sv, bv] n P (fun P' r => TreeR b.w P' r (toldT ss bk n row))) {rv : Value} {row : List Nat} (hs : IntsR b.P sv ss) (hb : BookR b.P bv bk) (hr : IntsR b.P rv (row.map fun (k : Nat) => (k : Int))) (hrow : ∀ k ∈ row, k < 6) (hlen : row.length < n + 1) (hn : n + 1 ≤ 100), DoesAtC b 110 [rv, sv, bv] (n + 1) (fun P' r => TreeR b.w P' r (toldT ss bk (n + 1) row))
theorem told_step_b : ∃ b, OkAt told_step_S b := OkAt.ex Base.ne _
set_option maxRecDepth 100000 in
set_option maxHeartbeats 0 in
theorem told_step_at : told_step_S (Classical.choose told_step_b) := by
  intro sv bv ss bk h6 b6 hbk n ih rv row hs hb hr hrow hlen hn
  k_dflt (refine' DoesAtC.mk (binds := [(Str.ofString "row", rv), (Str.ofString "seals", sv), (Str.ofString "book", bv)]) ?k6 ?k7 ?k9 ?kB ?kD ?c2 ?c3 ?c4 ?_; ((case k6 => k_is); (case k7 => k_is); (case k9 => exact fun _ => BindsTo.of_eq rfl); (case kB => exact fun n => kindsX rfl n); (case kD => decide +kernel); (case c2 => exact rfl); (case c3 => exact rfl); (case c4 => exact rfl); k_whole))
  intro h' t' cells' hP' F' N' Y' B' X' T' hL' hk' hdp' hun' hQ
  obtain ⟨oN, oS, hE, dN, dS⟩ := CellsAre.two Y'
  subst hE
  clear Y'
  cases id hs with
  | mk p5 q5 =>
  rename_i sa svs sn
  cases id hb with
  | mk p6 q6 =>
  rename_i ba bvs bn
  cases id hr with
  | mk p7 q7 =>
  rename_i ra rvs rn
  have HR : (Classical.choose told_step_b).g.IsList ra rvs.toArray := ⟨_, hP' _ _ p7, rfl, _, rfl⟩
  have HS : (Classical.choose told_step_b).g.IsList sa svs.toArray := ⟨_, hP' _ _ p5, rfl, _, rfl⟩
  have HB : (Classical.choose told_step_b).g.IsList ba bvs.toArray := ⟨_, hP' _ _ p6, rfl, _, rfl⟩
  (try simp only [List.cons_append, List.nil_append] at N')
  (try dsimp only)
  (try k_fold)
  k_steps
  refine Stop.mk ?_
  k_dflt (refine' eq_nil (vs := rvs) ?k1 ?k2 ?k3 ?_; (case k1 => exact stays_list (Fr.keep (by k_asm)) HR); (case k2 => exact News.isList (by k_asm) (.head _)); (case k3 => ktr_units))
  cases row with
  | nil =>
    have er : rvs = [] := List.eq_nil_of_length_eq_zero (by rw [q7.length]; rfl)
    subst er
    dsimp only [List.isEmpty]
    k_steps
    exact hQ _ _ <| Ends.of (by k_asm) (by k_asm) (by rw [toldT]; exact .nil)
  | cons k0 kr =>
    have er : rvs.isEmpty = false := by
      have := q7.length
      cases rvs with
      | nil => cases this
      | cons a b => rfl
    rw [er]
    k_steps
    refine Stop.mk ?_
    rename_i lz hz Fz Nz lz1
    have Fz' := Fz
    have Nz' : News (Classical.choose told_step_b).g (Classical.choose told_step_b).L' hz [((Classical.choose told_step_b).L' + 1 + 1, oN), ((Classical.choose told_step_b).L' + 1, oS)] := News.sub Nz (fun p hp => .tail _ hp)
    clear Nz lz1
    refine comp_list (cl := [(Str.ofString "seals", (Classical.choose told_step_b).L' + 1)]) (l := ra) (vs := rvs) (fun _ => true) (fun _ _ => False) (fun P9 v y => ∃ k : Nat, ∃ tk T t u, v = .int (k : Int) tk ∧ k < 6 ∧ y = .ref T ∧ P9 T (tupO [.int (ss.getD k 0) t, .int k u])) ?c1 ?c2 ?c3 ?c4 ?c5 ?c6 ?c7 ?c8 ?c9 ?c10 ?c11 ?c12 ?c13
    case c1 => exact rfl
    case c2 => exact stays_list Fz.keep HR
    case c3 => have := q7.length; simp at this hlen; omega
    case c4 => rintro P9 Q v y hpq ⟨k, tk, T, t, u, h1, h2, h3, h4⟩; exact ⟨k, tk, T, t, u, h1, h2, h3, hpq _ _ h4⟩
    case c5 => exact rfl
    case c6 => decide
    case c7 => exact rfl
    case c8 => decide
    case c9 => exact rfl
    case c10 => exact fun _ => rfl
    case c11 => intro Q9 h9; k_steps; exact h9
    case c12 =>
      refine ⟨?_, ?_⟩
      · intro C i v h₃ tk₃ m₃ own hv F₃ N₃ hm₃
        exact wpAny_pure ⟨rfl, h₃, tk₃, [], rfl, F₃, N₃⟩
      · intro C i v h₃ tk₃ m₃ own hv _ F₃ N₃ hm₃
        rw [know_map1 hm₃] at F₃
        obtain ⟨nk, tnk, rfl, hnk⟩ := q7.at i v hv
        obtain ⟨k, hk6, rfl⟩ : ∃ k : Nat, k < 6 ∧ nk = (k : Int) := by
          rw [List.getElem?_map] at hnk
          cases hq : (k0 :: kr)[i]? with
          | none => rw [hq] at hnk; cases hnk
          | some k => rw [hq] at hnk; cases hnk; exact ⟨k, hrow k (List.mem_of_getElem? hq), rfl⟩
        have HS2 : hz.IsList sa svs.toArray := stays_list Fz.keep HS
        have HC2 : hz.IsCell ((Classical.choose told_step_b).L' + 1) (some (.ref sa)) := ⟨oS, (Nz' _ (.tail _ (.head _))).1, dS⟩
        obtain ⟨ts, hts⟩ : ∃ ts, svs[k]? = some (.int (ss.getD k 0) ts) := by
          have hl := q5.length
          have hk7 : k < svs.length := by rw [hl, h6]; exact hk6
          obtain ⟨n5, t5, e5, e6⟩ := q5.at k svs[k] (List.getElem?_eq_getElem hk7)
          refine ⟨t5, ?_⟩
          rw [List.getElem?_eq_getElem hk7, e5, List.getD_eq_getElem?_getD, e6]; rfl
        clear Fz' Nz' Fz
        k_steps
        rename_i D9 h9 F9 N9 l9
        rw [← know_map1 hm₃] at F9
        exact EltEnd.of [_] F9 N9 (fun q hq p hp => by rw [List.mem_singleton.mp hq]; exact Nat.ne_of_lt (l9 p hp)) ⟨k, _, _, _, _, rfl, hk6, rfl, .inr (.head _)⟩
    case c13 =>
      intro D9 h9 tk9 ys9 n9 tl9 hD9 hD9' hst9 htl9 hp9
      have F9 := Fr.keeps Fz hst9
      have N9 : News (Classical.choose told_step_b).g (Classical.choose told_step_b).L' h9 [((Classical.choose told_step_b).L' + 1 + 1, oN), ((Classical.choose told_step_b).L' + 1, oS)] := News.grown Nz' hst9
      have hks : Paired (PairAt h9) ys9 (pairOf ss k0 :: kr.map (pairOf ss)) := by
        rw [List.filter_eq_self.mpr (fun _ _ => rfl)] at hp9
        exact pairs_of (row := k0 :: kr) (fun v y ⟨k, tk, T, t, u, e1, _, e2, e3⟩ => ⟨k, tk, T, t, u, e1, e2, (htl9 _ (e3.resolve_left id)).1⟩) hp9 q7
      clear Fz Fz' Nz'
      k_steps
      refine Stop.mk ?_
      refine min_pairs ?m1 ?m2 ⟨_, hD9', rfl, _, rfl⟩ hks ?m3
      case m1 => exact rfl
      case m2 => ktr_units
      case m3 =>
        intro v8 h8 tk8 hv8 hst8
        rw [minP_least] at hv8
        obtain ⟨T8, t8, u8, rfl, hT8⟩ := hv8
        have F8 := Fr.keeps F9 hst8
        have N8 : News (Classical.choose told_step_b).g (Classical.choose told_step_b).L' h8 [((Classical.choose told_step_b).L' + 1 + 1, oN), ((Classical.choose told_step_b).L' + 1, oS)] := News.grown N9 hst8
        have htop : leastOf ss kr k0 ∈ k0 :: kr := least_mem ss kr k0
        have htop6 := hrow _ htop
        generalize hTop : leastOf ss kr k0 = top at *
        clear F9 N9 hst8 hst9 hks hD9' htl9 hp9
        dsimp only [pairOf] at hT8
        k_steps
        (try refine Stop.mk ?_)
        k_dflt (refine' item_tupleT (j := 1) ⟨_, hT8, rfl, _, rfl⟩ ?z1 ?z2 ?z3 ?z4 ?_ ?z5; (case z1 => decide); (case z2 => decide); (case z3 => rfl); (case z4 => rfl); (case z5 => with_unfolding_all rfl))
        have ttop0 : (0 : Int) ≤ (top : Int) := by omega
        have ttop6 : (top : Int) < 6 := by omega
        have hbt : bk[top]? = some (bk.getD top []) := by rw [List.getD_eq_getElem?_getD, List.getElem?_eq_getElem (by omega)]; rfl
        obtain ⟨cv, ecv, Rc⟩ := paired_getR q6 hbt
        have hcalls : (bk.getD top []).length ≤ 100 := hbk _ (List.mem_of_getElem? hbt)
        generalize hcl : bk.getD top [] = calls at *
        cases Rc with
        | mk pc qc =>
        rename_i ca cvs cn
        have HCa : (Classical.choose told_step_b).g.IsList ca cvs.toArray := ⟨_, hP' _ _ pc, rfl, _, rfl⟩
        have qat : Paired (CallAt (Classical.choose told_step_b).g) cvs calls := pmono (fun _ _ h => h.at hP') qc
        have hcvs : cvs.length ≤ 100 := by rw [qc.length]; exact hcalls
        k_steps
        refine Stop.mk ?_
        k_dflt (refine' getMethod_builtin (v := .ref ra) ⟨_, Fr.keep (by k_asm) _ _ (hP' _ _ p7), rfl⟩ PySem.F.plainAttrs_list PySem.F.slot_list_index PySem.F.type_list_index (fun a e => by cases e; exact ⟨_, Fr.keep (by k_asm) _ _ (hP' _ _ p7), rfl⟩) ?_)
        k_steps
        refine Stop.mk ?_
        refine index_list_ints (stays_list (Fr.keep (by k_asm)) HR) q7 (row_lay hrow (by omega)) (List.mem_map.mpr ⟨top, htop, rfl⟩) ?_
        rw [idx_cast]
        generalize hat : (k0 :: kr).idxOf top = at0 at *
        k_steps
        refine Stop.mk ?_
        refine wpAny_Assign_Name ?_ (by rfl)
        rename_i h7 F7 N7
        refine comp_list (cl := []) (l := ca) (vs := cvs) (fun _ => true) (fun _ _ => False) (fun _ v y => ∃ c t, CallAt (Classical.choose told_step_b).g v c ∧ y = .str c.who t) ?d1 ?d2 ?d3 ?d4 ?d5 ?d6 ?d7 ?d8 ?d9 ?d10 ?d11 ?d12 ?d13
        case d1 => exact rfl
        case d2 => exact stays_list F7.keep HCa
        case d3 => omega
        case d4 => exact fun _ _ _ _ _ h => h
        case d5 => exact rfl
        case d6 => decide
        case d7 => exact rfl
        case d8 => decide
        case d9 => exact rfl
        case d10 => exact fun _ => rfl
        case d11 => intro Q9 h9; k_steps; exact h9
        case d12 =>
          refine ⟨?_, ?_⟩
          · intro C i v h₃ tk₃ m₃ own hv F₃ N₃ hm₃
            exact wpAny_pure ⟨rfl, h₃, tk₃, [], rfl, F₃, N₃⟩
          · intro C i v h₃ tk₃ m₃ own hv _ F₃ N₃ hm₃
            rw [know_map1 hm₃] at F₃
            obtain ⟨c, hc, ⟨a9, t1, t2, t3, t4, rfl, e9⟩⟩ := paired_get qat hv
            have hca : CallAt (Classical.choose told_step_b).g (.ref a9) c := ⟨a9, t1, t2, t3, t4, rfl, e9⟩
            have HT9 := F₃.keep _ _ (F7.keep _ _ e9)
            clear F7 N7
            k_steps
            (try refine Stop.mk ?_)
            k_dflt (refine' item_tupleT (j := 3) ⟨_, HT9, rfl, _, rfl⟩ ?z1 ?z2 ?z3 ?z4 ?_ ?z5; (case z1 => decide); (case z2 => decide); (case z3 => rfl); (case z4 => rfl); (case z5 => with_unfolding_all rfl))
            k_steps
            exact EltEnd.of [] (by rw [know_map1 hm₃]; exact F₃) N₃ (fun q hq => nomatch hq) ⟨c, _, hca, rfl⟩
        case d13 =>
          intro D6 h6' tk6 ys6 n6 tl6 hD6 hD6' hst6 htl6 hp6
          rw [List.filter_eq_self.mpr (fun _ _ => rfl)] at hp6
          have hS6 := strs_of qat hp6
          have F6 := Fr.keeps F7 hst6
          have N6 := comp_news (tl := []) F7 N7 hst6 hD6 hD6' (fun _ h => nomatch h)
          have ne1 : D6 ≠ (Classical.choose told_step_b).L' + 1 + 1 := fun e => by rw [e, (N7 _ (.head _)).1] at hD6; cases hD6
          have ne2 : D6 ≠ (Classical.choose told_step_b).L' + 1 := fun e => by rw [e, (N7 _ (.tail _ (.head _))).1] at hD6; cases hD6
          clear F7 N7 hD6 hD6' htl6 hp6 hst6
          dsimp only [List.nil_append] at N6
          k_steps
          refine Stop.mk ?_
          rename_i h5 o5 F5 N5 d5
          have HY5 : h5.IsList D6 ys6.toArray := ⟨_, (N5 _ (.head _)).1, rfl, _, rfl⟩
          have HC5 : h5.IsCell ((Classical.choose told_step_b).L' + 1 + 1) (some (.ref D6)) := ⟨_, (N5 _ (.tail _ (.head _))).1, d5⟩
          have hys6 : ys6.length ≤ 100 := by have := hS6.length; rw [List.length_map] at this; omega
          refine dcomp_assign (knd := kd (Classical.choose told_step_b).w) (cl := [(Str.ofString "names", (Classical.choose told_step_b).L' + 1 + 1)]) (l := D6) (vs := ys6) (fun v k => ∃ t, v = .str k t) (fun v y => ∃ k t u, v = .str k t ∧ y = .int ((calls.map (·.who)).count k : Nat) u) ?e1 HY5 ?e3 ?e4 ?e5 ?e6 ?e7 ?e8 ?e9 ?e10 ?e11 ?e12 F5.ns ?e14 ?e15 ?e16 ?e17
          case e1 => exact rfl
          case e3 => omega
          case e4 => exact rfl
          case e5 => exact rfl
          case e6 => decide
          case e7 => exact rfl
          case e8 => decide
          case e9 => exact rfl
          case e10 => exact fun _ => rfl
          case e11 => exact rfl
          case e12 => exact rfl
          case e14 => intro Q9 h9; k_steps; exact h9
          case e15 =>
            rintro C i v ⟨h₃, g₃, d₃, tk₃, os₃⟩ m₃ hv hn₃ hm₃ hk₃
            obtain ⟨x, t, rfl, hx⟩ := StrsAre.at hS6 hv
            refine nameC_L hn₃ hm₃ ⟨⟨x, isStr_mk x t, t, rfl⟩, _, _, rfl, fun _ _ e => e⟩ rfl rfl (by decide)
          case e16 =>
            rintro C i v ⟨h₃, g₃, d₃, tk₃, os₃⟩ m₃ hv hn₃ hm₃ hk₃
            obtain ⟨x, t, rfl, hx⟩ := StrsAre.at hS6 hv
            have HY3 : h₃.IsList D6 ys6.toArray := stays_list hk₃ HY5
            have HC3 : h₃.IsCell ((Classical.choose told_step_b).L' + 1 + 1) (some (.ref D6)) := IsCell.mono hk₃ HC5
            have F₃ : Fr (default : Heap) C h₃ m₃ := ⟨hn₃, fun b o e => (no_obj e).elim, Nat.zero_le _⟩
            rw [know_map1 hm₃] at F₃
            have N₃ : News (default : Heap) C h₃ [] := News.nil
            have hob3 : h₃.get? D6 = some (listO ys6 n6) := hk₃ _ _ (N5 _ (.head _)).1
            clear F5 N5
            refine MethodCall_ ?_
            k_steps
            (try refine Stop.mk ?_)
            k_dflt (refine' getMethod_builtin (v := .ref D6) ⟨_, hob3, rfl⟩ PySem.F.plainAttrs_list PySem.F.slot_list_count PySem.F.type_list_count (fun a e => by cases e; exact ⟨_, hob3, rfl⟩) ?_)
            k_steps
            (try refine Stop.mk ?_)
            refine count_list_strs HY3 hS6 ?_
            rw [count_str]
            exact ⟨⟨x, t, _, rfl, rfl⟩, _, _, rfl, fun _ _ e => e⟩
          case e17 =>
            intro D h4 tk4 kvs o hDs hD hD' hod hst hns hall
            obtain ⟨_, hvals0⟩ := stored_table hall
            have hvals : IntVals kvs (tableOf (calls.map (·.who))) := hvals0 _ hS6
            have keep4 : ∀ b o, (Classical.choose told_step_b).g.get? b = some o → h4.get? b = some o := fun b o e => hst b o (Nat.ne_of_lt (hL' ▸ Heap.lt_size e)) (F5.keep b o e)
            have F4 : Fr (Classical.choose told_step_b).g (Classical.choose told_step_b).L' h4 _ := Fr.mk hns keep4 F5.above
            have hD1 : (D == sysModules) = false := beq_eq_false_iff_ne.mpr (Nat.ne_of_gt (Nat.lt_of_lt_of_le (Nat.lt_trans (modules_low T'.nolimit) (hL' ▸ F5.ns.lt)) hDs))
            have hDL : D ≠ (Classical.choose told_step_b).L' := fun e => by
              obtain ⟨oL, _, _, hoL, _⟩ := F5.ns
              rw [e, hoL] at hD; cases hD
            have N4 : News (Classical.choose told_step_b).g (Classical.choose told_step_b).L' h4 [(D, o), ((Classical.choose told_step_b).L' + 1 + 1, o5), ((Classical.choose told_step_b).L' + 1, oS)] := by
              intro p hp
              rcases List.mem_cons.mp hp with rfl | hp
              · refine ⟨hD', hDL, ?_⟩
                cases q : (Classical.choose told_step_b).g.get? D with
                | none => rfl
                | some o' => rw [F5.keep _ _ q] at hD; cases hD
              · have z := N5 p (.tail _ hp)
                exact ⟨hst _ _ z.2.1 z.1, z.2⟩
            have hneD : (Classical.choose told_step_b).L' + 1 + 1 < D ∧ (Classical.choose told_step_b).L' + 1 < D := ⟨Nat.lt_of_lt_of_le (Heap.lt_size (N5 _ (.tail _ (.head _))).1) hDs, Nat.lt_of_lt_of_le (Heap.lt_size (N5 _ (.tail _ (.tail _ (.head _)))).1) hDs⟩
            clear F5 N5 hst hns hall hvals0 keep4
            dsimp only
            k_steps
            refine Stop.mk ?_
            have FA0 := F4
            have NA0 := N4
            clear F4 N4
            refine comp_list (cl := []) (l := ca) (vs := cvs) (fun _ => true) (fun _ _ => False) (fun _ v y => ∃ c t, CallAt (Classical.choose told_step_b).g v c ∧ y = .int c.fresh t) ?f1 ?f2 ?f3 ?f4 ?f5 ?f6 ?f7 ?f8 ?f9 ?f10 ?f11 ?f12 ?f13
            case f1 => exact rfl
            case f2 => exact stays_list FA0.keep HCa
            case f3 => omega
            case f4 => exact fun _ _ _ _ _ h => h
            case f5 => exact rfl
            case f6 => decide
            case f7 => exact rfl
            case f8 => decide
            case f9 => exact rfl
            case f10 => exact fun _ => rfl
            case f11 => intro Q9 h9; k_steps; exact h9
            case f12 =>
              refine ⟨?_, ?_⟩
              · intro C i v h₃ tk₃ m₃ own hv F₃ N₃ hm₃
                exact wpAny_pure ⟨rfl, h₃, tk₃, [], rfl, F₃, N₃⟩
              · intro C i v h₃ tk₃ m₃ own hv _ F₃ N₃ hm₃
                rw [know_map1 hm₃] at F₃
                obtain ⟨c, hc, ⟨a9, t1, t2, t3, t4, rfl, e9⟩⟩ := paired_get qat hv
                have hca : CallAt (Classical.choose told_step_b).g (.ref a9) c := ⟨a9, t1, t2, t3, t4, rfl, e9⟩
                have HT9 := F₃.keep _ _ (FA0.keep _ _ e9)
                clear FA0 NA0
                k_steps
                (try refine Stop.mk ?_)
                k_dflt (refine' item_tupleT (j := 0) ⟨_, HT9, rfl, _, rfl⟩ ?z1 ?z2 ?z3 ?z4 ?_ ?z5; (case z1 => decide); (case z2 => decide); (case z3 => rfl); (case z4 => rfl); (case z5 => with_unfolding_all rfl))
                exact EltEnd.of [] (by rw [know_map1 hm₃]; exact F₃) N₃ (fun q hq => nomatch hq) ⟨c, _, hca, rfl⟩
            case f13 =>
              intro DA0 hB0 tkA0 ysA0 nA0 tlA0 hDA0 hDA0' hstA0 htlA0 hpA0
              rw [List.filter_eq_self.mpr (fun _ _ => rfl)] at hpA0
              have hIA0 := ints_of qat hpA0
              have FB0 := Fr.keeps FA0 hstA0
              have NB0 := News.grown NA0 hstA0
              clear FA0 NA0
              k_steps
              refine Stop.mk ?_
              refine sumK rfl FB0 NB0 ⟨_, hDA0', rfl, _, rfl⟩ hIA0 ?_
              clear FB0 NB0
              intro hC0 tkC0 tkD0 FC0 NC0
              clear hDA0 hDA0' hstA0 htlA0 hpA0 hIA0
              k_steps
              refine Stop.mk ?_
              rename_i hA1 FA1 NA1
              refine comp_list (cl := []) (l := ca) (vs := cvs) (fun _ => true) (fun _ _ => False) (fun _ v y => ∃ c t, CallAt (Classical.choose told_step_b).g v c ∧ y = .int c.times t) ?f1 ?f2 ?f3 ?f4 ?f5 ?f6 ?f7 ?f8 ?f9 ?f10 ?f11 ?f12 ?f13
              case f1 => exact rfl
              case f2 => exact stays_list FA1.keep HCa
              case f3 => omega
              case f4 => exact fun _ _ _ _ _ h => h
              case f5 => exact rfl
              case f6 => decide
              case f7 => exact rfl
              case f8 => decide
              case f9 => exact rfl
              case f10 => exact fun _ => rfl
              case f11 => intro Q9 h9; k_steps; exact h9
              case f12 =>
                refine ⟨?_, ?_⟩
                · intro C i v h₃ tk₃ m₃ own hv F₃ N₃ hm₃
                  exact wpAny_pure ⟨rfl, h₃, tk₃, [], rfl, F₃, N₃⟩
                · intro C i v h₃ tk₃ m₃ own hv _ F₃ N₃ hm₃
                  rw [know_map1 hm₃] at F₃
                  obtain ⟨c, hc, ⟨a9, t1, t2, t3, t4, rfl, e9⟩⟩ := paired_get qat hv
                  have hca : CallAt (Classical.choose told_step_b).g (.ref a9) c := ⟨a9, t1, t2, t3, t4, rfl, e9⟩
                  have HT9 := F₃.keep _ _ (FA1.keep _ _ e9)
                  clear FA1 NA1
                  k_steps
                  (try refine Stop.mk ?_)
                  k_dflt (refine' item_tupleT (j := 1) ⟨_, HT9, rfl, _, rfl⟩ ?z1 ?z2 ?z3 ?z4 ?_ ?z5; (case z1 => decide); (case z2 => decide); (case z3 => rfl); (case z4 => rfl); (case z5 => with_unfolding_all rfl))
                  exact EltEnd.of [] (by rw [know_map1 hm₃]; exact F₃) N₃ (fun q hq => nomatch hq) ⟨c, _, hca, rfl⟩
              case f13 =>
                intro DA1 hB1 tkA1 ysA1 nA1 tlA1 hDA1 hDA1' hstA1 htlA1 hpA1
                rw [List.filter_eq_self.mpr (fun _ _ => rfl)] at hpA1
                have hIA1 := ints_of qat hpA1
                have FB1 := Fr.keeps FA1 hstA1
                have NB1 := News.grown NA1 hstA1
                clear FA1 NA1
                k_steps
                refine Stop.mk ?_
                refine sumK rfl FB1 NB1 ⟨_, hDA1', rfl, _, rfl⟩ hIA1 ?_
                clear FB1 NB1
                intro hC1 tkC1 tkD1 FC1 NC1
                clear hDA1 hDA1' hstA1 htlA1 hpA1 hIA1
                k_steps
                refine Stop.mk ?_
                rename_i hA2 FA2 NA2
                refine comp_list (cl := []) (l := ca) (vs := cvs) (fun _ => true) (fun _ _ => False) (fun _ v y => ∃ c t, CallAt (Classical.choose told_step_b).g v c ∧ y = .int c.place t) ?f1 ?f2 ?f3 ?f4 ?f5 ?f6 ?f7 ?f8 ?f9 ?f10 ?f11 ?f12 ?f13
                case f1 => exact rfl
                case f2 => exact stays_list FA2.keep HCa
                case f3 => omega
                case f4 => exact fun _ _ _ _ _ h => h
                case f5 => exact rfl
                case f6 => decide
                case f7 => exact rfl
                case f8 => decide
                case f9 => exact rfl
                case f10 => exact fun _ => rfl
                case f11 => intro Q9 h9; k_steps; exact h9
                case f12 =>
                  refine ⟨?_, ?_⟩
                  · intro C i v h₃ tk₃ m₃ own hv F₃ N₃ hm₃
                    exact wpAny_pure ⟨rfl, h₃, tk₃, [], rfl, F₃, N₃⟩
                  · intro C i v h₃ tk₃ m₃ own hv _ F₃ N₃ hm₃
                    rw [know_map1 hm₃] at F₃
                    obtain ⟨c, hc, ⟨a9, t1, t2, t3, t4, rfl, e9⟩⟩ := paired_get qat hv
                    have hca : CallAt (Classical.choose told_step_b).g (.ref a9) c := ⟨a9, t1, t2, t3, t4, rfl, e9⟩
                    have HT9 := F₃.keep _ _ (FA2.keep _ _ e9)
                    clear FA2 NA2
                    k_steps
                    (try refine Stop.mk ?_)
                    k_dflt (refine' item_tupleT (j := 2) ⟨_, HT9, rfl, _, rfl⟩ ?z1 ?z2 ?z3 ?z4 ?_ ?z5; (case z1 => decide); (case z2 => decide); (case z3 => rfl); (case z4 => rfl); (case z5 => with_unfolding_all rfl))
                    exact EltEnd.of [] (by rw [know_map1 hm₃]; exact F₃) N₃ (fun q hq => nomatch hq) ⟨c, _, hca, rfl⟩
                case f13 =>
                  intro DA2 hB2 tkA2 ysA2 nA2 tlA2 hDA2 hDA2' hstA2 htlA2 hpA2
                  rw [List.filter_eq_self.mpr (fun _ _ => rfl)] at hpA2
                  have hIA2 := ints_of qat hpA2
                  have FB2 := Fr.keeps FA2 hstA2
                  have NB2 := News.grown NA2 hstA2
                  clear FA2 NA2
                  k_steps
                  refine Stop.mk ?_
                  refine sumK rfl FB2 NB2 ⟨_, hDA2', rfl, _, rfl⟩ hIA2 ?_
                  clear FB2 NB2
                  intro hC2 tkC2 tkD2 FC2 NC2
                  clear hDA2 hDA2' hstA2 htlA2 hpA2 hIA2
                  k_steps
                  refine Stop.mk ?_
                  have hat2 : at0 < (k0 :: kr).length := by rw [← hat]; exact List.idxOf_lt_length_iff.mpr htop
                  have hrv : rvs.length ≤ 100 := by rw [q7.length, List.length_map]; omega
                  have hlow : IntsAre (slicePick rvs.toArray none (some (at0 : Int)) none).toList ((List.take at0 (k0 :: kr)).map fun (k : Nat) => (k : Int)) := by
                    have := kmk_upto q7 (y := (at0 : Int)) (by omega)
                    rw [← List.map_take] at this
                    simpa only [Int.toNat_natCast] using this
                  have hhigh : IntsAre (slicePick rvs.toArray (some ((at0 : Int) + 1)) none none).toList ((List.drop (at0 + 1) (k0 :: kr)).map fun (k : Nat) => (k : Int)) := by
                    have := kmk_from q7 (x := (at0 : Int) + 1) (by omega)
                    rw [← List.map_drop] at this
                    exact this
                  k_dflt (refine' slice_list (lo := none) (hi := some (at0 : Int)) ?F ?N ?hl ?pl ?pu ?_ ?hs ?ht ?hsz; (case F => k_asm); (case N => k_asm); (case hl => exact stays_list (Fr.keep (by k_asm)) HR); (case pl => exact .none); (case pu => exact .int _ _); (case hs => with_unfolding_all rfl); (case ht => (intro _; with_unfolding_all rfl)); (case hsz => (rw [sizeLine_eq, List.size_toArray]; omega)))
                  intro hs1 Fs1 Ns1
                  generalize slicePick rvs.toArray none (some (at0 : Int)) none = lowvs at hlow Ns1
                  have Ns2 := News.sub (b := [(_, ({ cls := .type "list", data := .seq lowvs } : Obj)), ((Classical.choose told_step_b).L' + 1, oS), (D, o)]) Ns1 (fun p hp => by
                    rcases List.mem_cons.mp hp with rfl | hp
                    · exact .head _
                    · rcases List.mem_cons.mp hp with rfl | hp
                      · exact .tail _ (.tail _ (.tail _ (.head _)))
                      · rw [List.mem_singleton.mp hp]; exact .tail _ (.head _))
                  clear Ns1
                  k_steps
                  refine Stop.mk ?_
                  k_dflt (refine' Does.use hP' ?kC ?k1 ?k2 ?k3 ?k4 ?k5 ?kK ?kd ?ku ?_ ?km; walk_at "MINE use")
                  case kC => exact ih (hs.mono fun _ _ => Or.inl) (hb.mono fun _ _ => Or.inl) (.mk (vs := lowvs.toList) (.inr (.head _)) hlow) (fun k hk => hrow k (List.mem_of_mem_take hk)) (by rw [List.length_take]; omega) (by omega)
                  case km => exact fun _ _ _ h t => t.mono h
                  walk_at "MINE room"
                  intro r9 tl9 h9 tk9 F9 N9 hne9 ho9
                  dsimp only at ho9 ⊢
                  clear Ns2 Fs1
                  have N10 := News.sub (b := ((Classical.choose told_step_b).L' + 1, oS) :: (D, o) :: (_, ({ cls := .type "list", data := .seq lowvs } : Obj)) :: tl9) N9 (fun p hp => by
                    rcases List.mem_cons.mp hp with rfl | hp
                    · exact List.mem_append_right _ (.tail _ (.head _))
                    · rcases List.mem_cons.mp hp with rfl | hp
                      · exact List.mem_append_right _ (.tail _ (.tail _ (.head _)))
                      · rcases List.mem_cons.mp hp with rfl | hp
                        · exact List.mem_append_right _ (.head _)
                        · exact List.mem_append_left _ hp)
                  have ho10 := ho9.sub (tl' := ((Classical.choose told_step_b).L' + 1, oS) :: (D, o) :: (_, ({ cls := .type "list", data := .seq lowvs } : Obj)) :: tl9) (fun p hp => by
                    rcases List.mem_append.mp hp with hp | hp
                    · exact .tail _ (.tail _ (.tail _ hp))
                    · rcases List.mem_cons.mp hp with rfl | hp
                      · exact .tail _ (.tail _ (.head _))
                      · rcases List.mem_cons.mp hp with rfl | hp
                        · exact .head _
                        · rw [List.mem_singleton.mp hp]; exact .tail _ (.head _))
                  clear N9 ho9 hne9 ne1 ne2 hlow
                  k_steps
                  (try refine Stop.mk ?_)
                  refine len_list_base (stays_list (Fr.keep (by k_asm)) HCa) qat.length hcalls ?_
                  k_steps
                  refine Stop.mk ?_
                  k_dflt (refine' kup_newTuple ?F ?N ?_ ?z; (case F => k_asm); (case N => k_asm); (case z => kmk_size))
                  intro DT hT FT NT lT
                  clear lT
                  k_steps
                  refine Stop.mk ?_
                  k_dflt (refine' slice_list (lo := some ((at0 : Int) + 1)) (hi := none) ?F ?N ?hl ?pl ?pu ?_ ?hs ?ht ?hsz; (case F => k_asm); (case N => k_asm); (case hl => exact stays_list (Fr.keep (by k_asm)) HR); (case pl => exact .int _ _); (case pu => exact .none); (case hs => with_unfolding_all rfl); (case ht => (intro _; with_unfolding_all rfl)); (case hsz => (rw [sizeLine_eq, List.size_toArray]; omega)))
                  intro hs3 Fs3 Ns3
                  generalize slicePick rvs.toArray (some ((at0 : Int) + 1)) none none = highvs at hhigh Ns3
                  k_steps
                  refine Stop.mk ?_
                  k_dflt (refine' Does.use hP' ?kC ?k1 ?k2 ?k3 ?k4 ?k5 ?kK ?kd ?ku ?_ ?km; walk_at "MINE use")
                  case kC => exact ih (hs.mono fun _ _ => Or.inl) (hb.mono fun _ _ => Or.inl) (.mk (vs := highvs.toList) (.inr (.head _)) hhigh) (fun k hk => hrow k (List.mem_of_mem_drop hk)) (by rw [List.length_drop]; omega) (by omega)
                  case km => exact fun _ _ _ h t => t.mono h
                  walk_at "MINE room"
                  intro r8 tl8 h8 tk8 F8 N8 hne8 ho8
                  dsimp only at ho8 ⊢
                  clear FT NT Fs3 Ns3
                  k_steps
                  refine Stop.mk ?_
                  k_dflt (refine' kup_newTuple ?F ?N ?_ ?z; (case F => k_asm); (case N => k_asm); (case z => kmk_size))
                  intro DX hX FX NX lX
                  k_steps
                  refine hQ _ _ (Ends.of (by k_asm) (by k_asm) ?_)
                  rw [toldT, hTop, hcl, hat]
                  exact .node (.inr (.head _)) (.mk (.inr (List.mem_cons_of_mem _ (List.mem_append_right _ (List.mem_cons_of_mem _ (.head _))))) (.mk (.inr (List.mem_cons_of_mem _ (List.mem_append_right _ (List.mem_cons_of_mem _ (List.mem_cons_of_mem _ (.tail _ (.head _))))))) hod hD1 hvals)) (ho10.sub fun _ hp => List.mem_cons_of_mem _ (List.mem_append_right _ (List.mem_cons_of_mem _ (List.mem_cons_of_mem _ hp)))) (ho8.sub fun _ h => List.mem_cons_of_mem _ h)
theorem told_step {w mean mg mb} {sv bv : Value} {ss : List Int} {bk : List (List Call1)} (h6 : ss.length = 6) (b6 : bk.length = 6) (hbk : ∀ cs ∈ bk, cs.length ≤ 100) (n : Nat)
   (ih : ∀ {P : Know} {rv : Value} {row : List Nat}, IntsR P sv ss → BookR P bv bk → IntsR P rv (row.map fun (k : Nat) => (k : Int)) → (∀ k ∈ row, k < 6) → row.length < n → n ≤ 100 → Does w mean mg mb 110 [rv, sv, bv] n P (fun P' r => TreeR w P' r (toldT ss bk n row)))
   {P : Know} {rv : Value} {row : List Nat} (hs : IntsR P sv ss) (hb : BookR P bv bk) (hr : IntsR P rv (row.map fun (k : Nat) => (k : Int))) (hrow : ∀ k ∈ row, k < 6) (hlen : row.length < n + 1) (hn : n + 1 ≤ 100) :
   Does w mean mg mb 110 [rv, sv, bv] (n + 1) P (fun P' r => TreeR w P' r (toldT ss bk (n + 1) row)) :=
  Does.ofC fun dp un gd cn cs L a ccd cl outer base g L' s Q => OkAt.all told_step_b told_step_at _ h6 b6 hbk n ih hs hb hr hrow hlen hn
theorem told_does {w mean mg mb} {sv bv : Value} {ss : List Int} {bk : List (List Call1)} (h6 : ss.length = 6) (b6 : bk.length = 6) (hbk : ∀ cs ∈ bk, cs.length ≤ 100) :
   ∀ (n : Nat) {P : Know} {rv : Value} {row : List Nat}, IntsR P sv ss → BookR P bv bk → IntsR P rv (row.map fun (k : Nat) => (k : Int)) → (∀ k ∈ row, k < 6) → row.length < n → n ≤ 100 → Does w mean mg mb 110 [rv, sv, bv] n P (fun P' r => TreeR w P' r (toldT ss bk n row))
  | 0, _, _, _, _, _, _, _, h, _ => absurd h (Nat.not_lt_zero _)
  | n + 1, _, _, _, hs, hb, hr, hrow, hlen, hn => told_step h6 b6 hbk n (told_does h6 b6 hbk n) hs hb hr hrow hlen hn
end
end
section -- LEq
open AutoSeq1 (wpAny_loadPart')
open MeetsSeq MeetsSeq2 MeetsSeq3 SeqRoads2 SeqAt

def EqIn (prog : Program) (w : World) (A : Around) (s : Shared) (y x : Value) : Prop :=
  ∀ (E : Value → Shared → Prop) (Q : Bool → Shared → Prop), Q true s → wpAny (model prog w) A (eqBool y x) Q E s
section
variable {prog : Program} {w : World} {A : Around} {s : Shared}
theorem EqIn.of {y x : Value} {b : Bool} (h : EqAt A s y x b) (hb : b = true) : EqIn prog w A s y x := fun E Q hq => h prog w E Q (hb ▸ hq)
theorem EqIn.refs {l b : Addr} (h : ∀ (E Q : Value → Shared → Prop), Q (.bool true) s → wpAny (model prog w) A (richCompare .Eq (.ref l) (.ref b)) Q E s) : EqIn prog w A s (.ref l) (.ref b) := fun E Q hq => by
  by_cases hne : l = b
  · subst hne; exact EqAt.same (A := A) (.ref l) prog w E Q hq
  · unfold eqBool
    refine wpAny_holding ?_
    refine wpAny_ite_split (fun hab => absurd (by have := eq_of_beq hab; injection this) hne) (fun _ => ?_)
    exact wpAny_bind (h E _ (wpAny_truthy_bool hq))


theorem tuple_eqIn {l b : Addr} {items items2 : Array Value} {Q E : Value → Shared → Prop} (hl : s.heap.IsTuple l items) (hb : s.heap.IsTuple b items2) (hu : A.units < cLine) (hsz : items.size = items2.size)
    (he : ∀ j (h1 : j < items.size) (h2 : j < items2.size), EqIn prog w A.in1 s items[j] items2[j]) (h : Q (.bool true) s) : wpAny (model prog w) A (richCompare .Eq (.ref l) (.ref b)) Q E s := by
  obtain ⟨⟨cls, dd, data, sl⟩, ho, hc, n, hd⟩ := id hl
  obtain ⟨⟨cls2, dd2, data2, sl2⟩, ho2, hc2, n2, hd2⟩ := id hb
  simp only at hc hd hc2 hd2
  subst hc hd hc2 hd2
  refine wpAny_richCompare_same_room (op := .Eq) ⟨_, ho, rfl⟩ ⟨_, ho2, rfl⟩ F.slot_tuple_eq (wpAny_call_entry F.slot_tuple_eq ⟨_, ho, rfl⟩ F.entry_tuple_eq ?_ (F.args_tuple_eq_2 _ _)) hu
  obtain ⟨hp, g, d, tk, os⟩ := s
  have f2 := AutoSeq1.sub_tuple_tuple
  have hZ : (items.toList.zip items2.toList).length = items.size := by simp [hsz]
  clear hl hb
  wp_walk using wpAny_loadPart' ho, wpAny_loadPart' ho2, wpAny_forIn_list _ (fun rest b s' => b.1 = none ∧ s' = ⟨hp, g, d, tk, os⟩ ∧ ∃ i, rest = (items.toList.zip items2.toList).drop i) _
  case turn =>
    rintro ⟨y, x⟩ rest b s' ⟨hb', rfl, i, hz⟩
    have hlt : i < (items.toList.zip items2.toList).length := by
      rcases Nat.lt_or_ge i (items.toList.zip items2.toList).length with h' | h'
      · exact h'
      · rw [List.drop_of_length_le h'] at hz; cases hz
    have h1 : i < items.size := hZ ▸ hlt
    have h2 : i < items2.size := hsz ▸ h1
    rw [List.drop_eq_getElem_cons hlt] at hz
    injection hz with hyx hrest
    have hy : y = items[i] := by have := congrArg Prod.fst hyx; simpa using this
    have hx : x = items2[i] := by have := congrArg Prod.snd hyx; simpa using this
    subst hy hx
    refine wpAny_bind (he i h1 h2 _ _ ?_)
    wp_walk
    exact ⟨rfl, rfl, i + 1, hrest⟩
  case fin =>
    rintro ⟨b1, b2⟩ s' ⟨hb', rfl, i, hz⟩
    simp only at hb'
    subst hb'
    wp_walk
    refine ⟨_, rfl, ?_, ?_⟩
    · simp [Builtin.Tuple.tupleCompareSizes]
    · simpa [Builtin.Tuple.tupleCompareSizes, hsz, bne] using h
  case h =>
    exact ⟨rfl, rfl, 0, rfl⟩

theorem tuple_neIn {l b : Addr} {items items2 : Array Value} {Q E : Value → Shared → Prop} (hl : s.heap.IsTuple l items) (hb : s.heap.IsTuple b items2) (hu : A.units < cLine) (hsz : items.size = items2.size)
    (he : ∀ j (h1 : j < items.size) (h2 : j < items2.size), EqIn prog w A.in1 s items[j] items2[j]) (h : Q (.bool false) s) : wpAny (model prog w) A (richCompare .NotEq (.ref l) (.ref b)) Q E s := by
  obtain ⟨⟨cls, dd, data, sl⟩, ho, hc, n, hd⟩ := id hl
  obtain ⟨⟨cls2, dd2, data2, sl2⟩, ho2, hc2, n2, hd2⟩ := id hb
  simp only at hc hd hc2 hd2
  subst hc hd hc2 hd2
  refine wpAny_richCompare_same_room (op := .NotEq) ⟨_, ho, rfl⟩ ⟨_, ho2, rfl⟩ F.slot_tuple_ne (wpAny_call_entry F.slot_tuple_ne ⟨_, ho, rfl⟩ F.entry_tuple_ne ?_ (F.args_tuple_ne_2 _ _)) hu
  obtain ⟨hp, g, d, tk, os⟩ := s
  have f2 := AutoSeq1.sub_tuple_tuple
  have hZ : (items.toList.zip items2.toList).length = items.size := by simp [hsz]
  clear hl hb
  wp_walk using wpAny_loadPart' ho, wpAny_loadPart' ho2, wpAny_forIn_list _ (fun rest b s' => b.1 = none ∧ s' = ⟨hp, g, d, tk, os⟩ ∧ ∃ i, rest = (items.toList.zip items2.toList).drop i) _
  case turn =>
    rintro ⟨y, x⟩ rest b s' ⟨hb', rfl, i, hz⟩
    have hlt : i < (items.toList.zip items2.toList).length := by
      rcases Nat.lt_or_ge i (items.toList.zip items2.toList).length with h' | h'
      · exact h'
      · rw [List.drop_of_length_le h'] at hz; cases hz
    have h1 : i < items.size := hZ ▸ hlt
    have h2 : i < items2.size := hsz ▸ h1
    rw [List.drop_eq_getElem_cons hlt] at hz
    injection hz with hyx hrest
    have hy : y = items[i] := by have := congrArg Prod.fst hyx; simpa using this
    have hx : x = items2[i] := by have := congrArg Prod.snd hyx; simpa using this
    subst hy hx
    refine wpAny_bind (he i h1 h2 _ _ ?_)
    wp_walk
    exact ⟨rfl, rfl, i + 1, hrest⟩
  case fin =>
    rintro ⟨b1, b2⟩ s' ⟨hb', rfl, i, hz⟩
    simp only at hb'
    subst hb'
    wp_walk
    refine ⟨_, rfl, ?_, ?_⟩
    · simp [Builtin.Tuple.tupleCompareSizes]
    · simpa [Builtin.Tuple.tupleCompareSizes, hsz, bne] using h
  case h =>
    exact ⟨rfl, rfl, 0, rfl⟩
end
end
section -- LEqT
open SeqAt
theorem IntVals.keys {kvs : List (Str × Value)} {cs : List (Str × Int)} (h : IntVals kvs cs) : kvs.map (·.1) = cs.map (·.1) := by
  induction h with
  | nil => rfl
  | cons h ih => simp [ih]
theorem IntVals.value {kvs : List (Str × Value)} {cs : List (Str × Int)} (h : IntVals kvs cs) (hn : (kvs.map (·.1)).Nodup) {k : Str} {i : Int} (hm : (k, i) ∈ cs) : ∃ t, valueAt kvs k = some (.int i t) := by
  induction h with
  | nil => cases hm
  | @cons k' i' t' kvs cs h ih =>
    have hn2 := List.nodup_cons.mp hn
    rcases List.mem_cons.mp hm with e | hm
    · cases e
      exact ⟨t', by simp [valueAt]⟩
    · obtain ⟨t, e⟩ := ih hn2.2 hm
      refine ⟨t, ?_⟩
      have hne : ¬ k' = k := fun q => hn2.1 (by
        show k' ∈ kvs.map (·.1)
        rw [h.keys, q]; exact List.mem_map.mpr ⟨_, hm, rfl⟩)
      simp only [valueAt, List.find?_cons, decide_eq_false hne] at e ⊢
      exact e
theorem hits_of {A : Around} {s : Shared} {kb : List (Str × Value)} {cb : List (Str × Int)} (hb : IntVals kb cb) (hn : (kb.map (·.1)).Nodup) {ka : List (Str × Value)} {ca : List (Str × Int)} (ha : IntVals ka ca) (hs : ∀ q ∈ ca, q ∈ cb) :
    KeqHits A s kb ka true := by
  induction ha with
  | nil => exact .nil
  | @cons k i t ka ca h ih =>
    obtain ⟨u, hu⟩ := hb.value hn (hs _ (.head _))
    have := KeqHits.hit (r := ka) hu (EqAt.int_int i t i u) (ih fun q hq => hs q (.tail _ hq))
    simpa using this
section
variable {w : World} {A : Around} {s : Shared} {P P' : Know}
theorem dict_eqIn {v v' : Value} {ca cb : List (Str × Int)} (hP : ∀ a o, P a o → s.heap.get? a = some o) (hP' : ∀ a o, P' a o → s.heap.get? a = some o) (h : DictR w P v ca) (h' : DictR w P' v' cb) (hu : A.units < cLine)
    (na : (ca.map (·.1)).Nodup) (nb : (cb.map (·.1)).Nodup) (he : ∀ q, q ∈ ca ↔ q ∈ cb) : EqIn PySem.Challenge.pw_pg0060_01 w A s v v' := by
  cases h with
  | @mk a o ka ca p1 p2 p3 p4 =>
  cases h' with
  | @mk b o' kb cb r1 r2 r3 r4 =>
  refine EqIn.refs fun E Q hq => ?_
  have e : ka.length = kb.length := by
    rw [p4.length, r4.length]
    have nd : ∀ {l : List (Str × Int)}, (l.map (·.1)).Nodup → l.Nodup := fun {l} h => List.Pairwise.imp (fun h e => h (congrArg Prod.fst e)) (List.pairwise_map.mp h)
    exact ((List.perm_ext_iff_of_nodup (nd na) (nd nb)).mpr he).length_eq
  refine keq_eq (r := true) p3 r3 (Heap.dictOf_iff.mpr ⟨o, hP _ _ p1, p2⟩) (Heap.dictOf_iff.mpr ⟨o', hP' _ _ r1, r2⟩) hu (fun _ => hits_of r4 (by rw [r4.keys]; exact nb) p4 fun q hq => (he q).mp hq) ?_
  rw [e]
  simpa using hq
theorem ent_eqIn {v v' : Value} {a b : Ent} (hP : ∀ a o, P a o → s.heap.get? a = some o) (hP' : ∀ a o, P' a o → s.heap.get? a = some o) (h : EntR w P v a) (h' : EntR w P' v' b) (hu : A.units + 1 < cLine) (he : EntEq a b) :
    EqIn PySem.Challenge.pw_pg0060_01 w A s v v' := by
  cases h with
  | @mk x i1 i2 i3 i4 t1 t2 t3 t4 d cs p1 p2 =>
  cases h' with
  | @mk y j1 j2 j3 j4 u1 u2 u3 u4 d' cs' r1 r2 =>
  obtain ⟨e1, e2, e3, e4, n1, n2, e5⟩ := he
  dsimp only at e1 e2 e3 e4 n1 n2 e5
  subst e1 e2 e3 e4
  refine EqIn.refs fun E Q hq => ?_
  refine tuple_eqIn (items := #[.int i1 t1, .int i2 t2, .int i3 t3, .int i4 t4, d]) (items2 := #[.int i1 u1, .int i2 u2, .int i3 u3, .int i4 u4, d']) ⟨_, hP _ _ p1, rfl, _, rfl⟩ ⟨_, hP' _ _ r1, rfl, _, rfl⟩ (by omega) rfl (fun j h1 h2 => ?_) hq
  match j, h1, h2 with
  | 0, _, _ => exact EqIn.of (EqAt.int_int i1 t1 i1 u1) (by simp)
  | 1, _, _ => exact EqIn.of (EqAt.int_int i2 t2 i2 u2) (by simp)
  | 2, _, _ => exact EqIn.of (EqAt.int_int i3 t3 i3 u3) (by simp)
  | 3, _, _ => exact EqIn.of (EqAt.int_int i4 t4 i4 u4) (by simp)
  | 4, _, _ => exact dict_eqIn hP hP' p2 r2 hu n1 n2 e5
theorem tree_items {v v' : Value} {t t' : Tr} (he : TrEq t t') : ∀ {A : Around} {v v' : Value}, (∀ a o, P a o → s.heap.get? a = some o) → (∀ a o, P' a o → s.heap.get? a = some o) → TreeR w P v t → TreeR w P' v' t' → A.units + t.depth + 2 < cLine →
    EqIn PySem.Challenge.pw_pg0060_01 w A s v v' := by
  induction he with
  | nil =>
    intro A v v' hP hP' h h' hu
    cases h; cases h'
    exact EqIn.of (EqAt.same _) rfl
  | @node i e e' l l' r r' he hl hr il ir =>
    intro A v v' hP hP' h h' hu
    rw [Tr.depth] at hu
    cases h with
    | @node x i t ev lv rv e l r p1 p2 p3 p4 =>
    cases h' with
    | @node y i t' ev' lv' rv' e' l' r' q1 q2 q3 q4 =>
    refine EqIn.refs fun E Q hq => ?_
    refine tuple_eqIn (items := #[.int (i : Int) t, ev, lv, rv]) (items2 := #[.int (i : Int) t', ev', lv', rv']) ⟨_, hP _ _ p1, rfl, _, rfl⟩ ⟨_, hP' _ _ q1, rfl, _, rfl⟩ (by omega) rfl (fun j h1 h2 => ?_) hq
    match j, h1, h2 with
    | 0, _, _ => exact EqIn.of (EqAt.int_int _ _ _ _) (by simp)
    | 1, _, _ => exact ent_eqIn hP hP' p2 q2 (by show A.units + 1 + 1 < cLine; omega) he
    | 2, _, _ => exact il hP hP' p3 q3 (by show A.units + 1 + l.depth + 2 < cLine; omega)
    | 3, _, _ => exact ir hP hP' p4 q4 (by show A.units + 1 + r.depth + 2 < cLine; omega)
theorem tree_ne {v v' : Value} {t t' : Tr} {E Q : Value → Shared → Prop} (he : TrEq t t') (hP : ∀ a o, P a o → s.heap.get? a = some o) (hP' : ∀ a o, P' a o → s.heap.get? a = some o) (h : TreeR w P v t) (h' : TreeR w P' v' t')
    (hu : A.units + t.depth + 2 < cLine) (hq : Q (.bool false) s) : wpAny (model PySem.Challenge.pw_pg0060_01 w) A (compareOp .NotEq v v') Q E s := by
  cases he with
  | nil =>
    cases h; cases h'
    exact RcNeAt.none_none (A := A) PySem.Challenge.pw_pg0060_01 w E Q hq
  | @node i e e' l l' r r' he hl hr =>
    rw [Tr.depth] at hu
    cases h with
    | @node x i t ev lv rv e l r p1 p2 p3 p4 =>
    cases h' with
    | @node y i t' ev' lv' rv' e' l' r' q1 q2 q3 q4 =>
    refine tuple_neIn (items := #[.int (i : Int) t, ev, lv, rv]) (items2 := #[.int (i : Int) t', ev', lv', rv']) ⟨_, hP _ _ p1, rfl, _, rfl⟩ ⟨_, hP' _ _ q1, rfl, _, rfl⟩ (by omega) rfl (fun j h1 h2 => ?_) hq
    match j, h1, h2 with
    | 0, _, _ => exact EqIn.of (EqAt.int_int _ _ _ _) (by simp)
    | 1, _, _ => exact ent_eqIn hP hP' p2 q2 (by show A.units + 1 + 1 < cLine; omega) he
    | 2, _, _ => exact tree_items (v := lv) (v' := lv') hl hP hP' p3 q3 (by show A.units + 1 + l.depth + 2 < cLine; omega)
    | 3, _, _ => exact tree_items (v := rv) (v' := rv') hr hP hP' p4 q4 (by show A.units + 1 + r.depth + 2 < cLine; omega)
end
end
section -- LLaw0
def recOf {q : Program} {loose : List Str} {XP : (Str → Option Value) → Heap → Prop} {YP : World → Heap → Prop} {r : RowW} {d : DefRec} {kwd : List (Str × Expr)} {run : Value → List Value → Sem Value} {G : Prop} (_ : WalkO q loose XP YP r d kwd run → G) : DefRec := d
noncomputable def lawRec : DefRec := recOf hd
noncomputable def lawBody : List Stmt := lawRec.body
theorem execs_append {env : Env} : ∀ (a b : List Stmt), execs (a ++ b) env = (do match ← execs a env with | .next => execs b env | f => pure f)
  | [], b => by rw [List.nil_append, execs_nil, pure_bind]
  | st :: a, b => by
    rw [List.cons_append, execs_cons, execs_cons, bind_assoc]
    congr 1; funext f
    cases f with
    | next => exact execs_append a b
    | ret v => rw [pure_bind]
    | brk => rw [pure_bind]
    | cont => rw [pure_bind]
theorem wp_append {M : Model} {A : Around} {env : Env} {E : Value → Shared → Prop} {s : Shared} {a b : List Stmt} {Q : Flow → Shared → Prop}
    (h : wpAny M A (execs a env) (fun f s' => match f with | .next => wpAny M A (execs b env) Q E s' | f => Q f s') E s) : wpAny M A (execs (a ++ b) env) Q E s := by
  rw [execs_append]
  refine wpAny_bind (wpAny_mono h (fun f s' hf => ?_) fun _ _ e => e)
  cases f with
  | next => exact hf
  | ret v => exact wpAny_pure hf
  | brk => exact wpAny_pure hf
  | cont => exact wpAny_pure hf
def Part (Φ : Heap → Prop) (s : Shared) (f : Flow) (s' : Shared) : Prop := f = .next ∧ ∃ h' tk, s' = { s with heap := h', toks := tk } ∧ Φ h'
theorem Part.of {Φ : Heap → Prop} {s : Shared} {h' : Heap} {tk : Nat} (h : Φ h') : Part Φ s .next { s with heap := h', toks := tk } := ⟨rfl, h', tk, rfl, h⟩
theorem post_gen {α : Type} {M : Model} {A : Around} {tt : Sem α} {Q : α → Shared → Prop} {E : Value → Shared → Prop} {s : Shared} (h : ∀ Q' : α → Shared → Prop, (∀ a s', Q a s' → Q' a s') → wpAny M A tt Q' E s) : wpAny M A tt Q E s := h _ fun _ _ x => x
theorem part_then {M : Model} {A : Around} {env : Env} {E : Value → Shared → Prop} {s : Shared} {a b : List Stmt} {Q : Flow → Shared → Prop} {Φ : Heap → Prop} (h : wpAny M A (execs a env) (Part Φ s) E s)
    (k : ∀ h' tk, Φ h' → wpAny M A (execs b env) Q E { s with heap := h', toks := tk }) : wpAny M A (execs (a ++ b) env) Q E s :=
  wp_append (wpAny_mono h (fun f s' hf => by obtain ⟨rfl, h', tk, rfl, hΦ⟩ := hf; exact k h' tk hΦ) fun _ _ e => e)
noncomputable abbrev lawEnv (L fa : Addr) : Env := envOfC lawRec.name lawRec.scope L fa (.ref 114)
theorem law_len : lawBody.length = 20 := rfl
def LawEnd (g : Heap) (L : Addr) (s : Shared) (f : Flow) (s' : Shared) : Prop := f = .ret (.bool true) ∧ ∃ h' tk m' news ps, s' = { s with heap := h', toks := tk } ∧ Fr g L h' m' ∧ News g L h' news ∧ ((112 : Addr), tabObj ps) ∈ news
set_option genInjectivity false in
set_option genSizeOf false in
structure LB where
  w : World
  mean : ExcName → Option Value
  mg : Str → Option Value
  mb : Str → Option Value
  fa : Addr
  g : Heap
  h : Heap
  L : Addr
  s : Shared
  tk : Nat
  vs : List Value
  ns : List Int
  T : Int
  l : Addr
  o1 : Obj
  o2 : Obj
  o3 : Obj
  o4 : Obj
def lawS (u : LB) : Prop :=
  u.T = u.ns.sum → Fr u.g u.L u.h (bindL (lawEnv u.L u.fa).kindOf [(Str.ofString "script", Value.ref u.l)] fun _ => none) → News u.g u.L u.h [(u.L + 1 + 1 + 1 + 1, u.o4), (u.L + 1 + 1 + 1, u.o3), (u.L + 1 + 1, u.o2), (u.L + 1, u.o1), (112, tabObj #[])] →
  u.o1.data = .cell none → u.o2.data = .cell none → u.o3.data = .cell none → u.o4.data = .cell none →
  Below callerA u.g [] u.g → (hd.heap_39 u.w.params).In u.g → Top topProg loG u.mean u.mg u.mb u.g → u.g.IsList u.l u.vs.toArray → IntsAre u.vs u.ns → u.ns.length ≤ 63 → @LT.lt Nat _ 112 u.L → CodeHd u.g 114 112 →
    wpAny (model PySem.Challenge.pw_pg0060_01 u.w) (callerA.deeper (lawEnv u.L u.fa)) (execs lawBody (lawEnv u.L u.fa)) (LawEnd u.g u.L u.s) noE { u.s with heap := u.h, toks := u.tk }
theorem LB.ne : Nonempty LB := Base.ne.elim fun b => ⟨⟨b.w, b.mean, b.mg, b.mb, 0, b.g, b.g, 0, b.s, 0, [], [], 0, 0, tabObj #[], tabObj #[], tabObj #[], tabObj #[]⟩⟩
theorem law_b : ∃ u, OkAt lawS u := OkAt.ex LB.ne _
end
section -- LLawA
def lineOf (t : Int) : Int := if (t.fdiv 99).fmod 2 = 0 then t.fmod 99 + 1 else -1 - t.fmod 99
def letterOf (t : Int) : Str := Txt.item (Str.ofString "abcdefghijklmnopqrstuvwxyz") ((t.fdiv 198).fmod 26)
def heldOf (t : Int) : Str := Str.ofString "<" ++ letterOf t ++ Str.ofString ">"
theorem line_range (t : Int) : (1 ≤ lineOf t ∨ lineOf t ≤ -1) ∧ -99 ≤ lineOf t ∧ lineOf t ≤ 99 := by
  unfold lineOf
  have h1 := Int.fmod_nonneg_of_pos t (b := 99) (by decide)
  have h2 := Int.fmod_lt_of_pos t (b := 99) (by decide)
  split <;> omega
theorem line_pos {t : Int} (h : (t.fdiv 99).fmod 2 = 0) : lineOf t = t.fmod 99 + 1 := if_pos h
theorem line_neg {t : Int} (h : ¬ (t.fdiv 99).fmod 2 = 0) : lineOf t = -1 - t.fmod 99 := if_neg h
theorem letters : ∀ k : Fin 26, Txt.item (Str.ofString "abcdefghijklmnopqrstuvwxyz") (k.1 : Int) = ⟨#[97 + k.1]⟩ := by decide +kernel
theorem letter_is (t : Int) : ∃ c, 97 ≤ c ∧ c ≤ 122 ∧ letterOf t = ⟨#[c]⟩ := by
  have h1 := Int.fmod_nonneg_of_pos (t.fdiv 198) (b := 26) (by decide)
  have h2 := Int.fmod_lt_of_pos (t.fdiv 198) (b := 26) (by decide)
  obtain ⟨k, hk⟩ := Int.eq_ofNat_of_zero_le h1
  refine ⟨97 + k, by omega, by omega, ?_⟩
  unfold letterOf
  rw [hk]
  exact letters ⟨k, by omega⟩
inductive PhiA (g : Heap) (L l : Addr) (T : Int) (o2 o3 o4 : Obj) (h' : Heap) : Prop
  | mk (m' : Str → Option Value) (o1 : Obj) (t1 : Tok) (t2 : Tok) (t3 : Tok) (t4 : Tok)
    (k0 : Fr g L h' m')
    (k1 : News g L h' [(L + 1 + 1 + 1 + 1, o4), (L + 1 + 1 + 1, o3), (L + 1 + 1, o2), (L + 1, o1), (112, tabObj #[])])
    (k2 : o1.data = .cell (some (.int T t1)))
    (k3 : m' (Str.ofString "script") = some (.ref l))
    (k4 : m' (Str.ofString "line") = some (.int (lineOf T) t2))
    (k5 : m' (Str.ofString "letter") = some (.str (letterOf T) t3))
    (k6 : m' (Str.ofString "held") = some (.str (heldOf T) t4)) : PhiA g L l T o2 o3 o4 h'
theorem PhiA.of {g h' : Heap} {L l : Addr} {T : Int} {o1 o2 o3 o4 : Obj} {m' : Str → Option Value} {t1 t2 t3 t4 : Tok} (F : Fr g L h' m') (N : News g L h' [(L + 1 + 1 + 1 + 1, o4), (L + 1 + 1 + 1, o3), (L + 1 + 1, o2), (L + 1, o1), (112, tabObj #[])])
    (d : o1.data = .cell (some (.int T t1))) (e1 : m' (Str.ofString "script") = some (.ref l)) (e2 : m' (Str.ofString "line") = some (.int (lineOf T) t2)) (e3 : m' (Str.ofString "letter") = some (.str (letterOf T) t3)) (e4 : m' (Str.ofString "held") = some (.str (heldOf T) t4)) :
    PhiA g L l T o2 o3 o4 h' := ⟨_, _, _, _, _, _, F, N, d, e1, e2, e3, e4⟩
set_option maxRecDepth 100000 in
set_option maxHeartbeats 0 in
theorem lawA (F' : Fr (Classical.choose law_b).g (Classical.choose law_b).L (Classical.choose law_b).h (bindL (lawEnv (Classical.choose law_b).L (Classical.choose law_b).fa).kindOf [(Str.ofString "script", Value.ref (Classical.choose law_b).l)] fun _ => none)) (N' : News (Classical.choose law_b).g (Classical.choose law_b).L (Classical.choose law_b).h [((Classical.choose law_b).L + 1 + 1 + 1 + 1, (Classical.choose law_b).o4), ((Classical.choose law_b).L + 1 + 1 + 1, (Classical.choose law_b).o3), ((Classical.choose law_b).L + 1 + 1, (Classical.choose law_b).o2), ((Classical.choose law_b).L + 1, (Classical.choose law_b).o1), (112, tabObj #[])])
    (d1 : (Classical.choose law_b).o1.data = .cell none) (d2 : (Classical.choose law_b).o2.data = .cell none) (d3 : (Classical.choose law_b).o3.data = .cell none) (d4 : (Classical.choose law_b).o4.data = .cell none)
    (B' : Below callerA (Classical.choose law_b).g [] (Classical.choose law_b).g) (X' : (hd.heap_39 (Classical.choose law_b).w.params).In (Classical.choose law_b).g) (T' : Top topProg loG (Classical.choose law_b).mean (Classical.choose law_b).mg (Classical.choose law_b).mb (Classical.choose law_b).g) (HL : (Classical.choose law_b).g.IsList (Classical.choose law_b).l (Classical.choose law_b).vs.toArray) (HI : IntsAre (Classical.choose law_b).vs (Classical.choose law_b).ns) (h63 : (Classical.choose law_b).ns.length ≤ 63) :
    wpAny (model PySem.Challenge.pw_pg0060_01 (Classical.choose law_b).w) (callerA.deeper (lawEnv (Classical.choose law_b).L (Classical.choose law_b).fa)) (execs (lawBody.take 4) (lawEnv (Classical.choose law_b).L (Classical.choose law_b).fa)) (Part (PhiA (Classical.choose law_b).g (Classical.choose law_b).L (Classical.choose law_b).l (Classical.choose law_b).ns.sum (Classical.choose law_b).o2 (Classical.choose law_b).o3 (Classical.choose law_b).o4) (Classical.choose law_b).s) noE { (Classical.choose law_b).s with heap := (Classical.choose law_b).h, toks := (Classical.choose law_b).tk } := by
  dsimp only [lawBody, lawRec, recOf, List.take, lawEnv] at *
  (try k_fold)
  k_steps
  · exact Part.of (PhiA.of (by k_asm) (by first | k_asm | assumption) (by assumption) (by rfl) (by rw [line_pos (t := (Classical.choose law_b).ns.sum) (by assumption)]; rfl) (by rfl) (by rfl))
  · exact Part.of (PhiA.of (by k_asm) (by first | k_asm | assumption) (by assumption) (by rfl) (by rw [line_neg (t := (Classical.choose law_b).ns.sum) (by assumption)]; rfl) (by rfl) (by rfl))
end
section -- LLawB
def chain (l : List (Str × Value)) (m : Str → Option Value) : Str → Option Value := l.foldr (fun p f y => if y = p.1 then some p.2 else f y) m
theorem chain_same {m : Str → Option Value} : ∀ (l : List (Str × Value)), (∀ p ∈ l, m p.1 = some p.2) → chain l m = m
  | [], _ => rfl
  | p :: l, h => by
    show (fun y => if y = p.1 then some p.2 else chain l m y) = m
    rw [chain_same l fun q hq => h q (.tail _ hq)]
    funext y
    split
    · rename_i e; rw [e]; exact (h p (.head _)).symm
    · rfl
theorem fr_chain {g h : Heap} {L : Addr} {m : Str → Option Value} (F : Fr g L h m) (l : List (Str × Value)) (hl : ∀ p ∈ l, m p.1 = some p.2) : Fr g L h (chain l m) := by rw [chain_same l hl]; exact F
inductive AllAre (m : Str → Option Value) : List (Str × Value) → Prop where
  | nil : AllAre m []
  | cons {k : Str} {v : Value} {l : List (Str × Value)} (h : m k = some v) (t : AllAre m l) : AllAre m ((k, v) :: l)
theorem AllAre.all {m : Str → Option Value} {l : List (Str × Value)} (h : AllAre m l) : ∀ p ∈ l, m p.1 = some p.2 := by
  induction h with
  | nil => intro p hp; cases hp
  | cons h _ ih => intro p hp; cases hp with
    | head => exact h
    | tail _ hp => exact ih p hp
theorem fr_named {g h : Heap} {L : Addr} {m : Str → Option Value} (F : Fr g L h m) (l : List (Str × Value)) (hl : AllAre m l) : Fr g L h (chain l m) := fr_chain F l hl.all
def InL (rest : List (Addr × Obj)) : Know := fun a o => (a, o) ∈ rest
inductive StrsR (P : Know) : Value → List Str → Prop where
  | mk {a : Addr} {vs : List Value} {ss : List Str} {n : Nat} : P a (listO vs n) → StrsAre vs ss → StrsR P (.ref a) ss
theorem StrsR.mono {P Q : Know} {v : Value} {ss : List Str} (h : StrsR P v ss) (hs : ∀ a o, P a o → Q a o) : StrsR Q v ss := by
  cases h with
  | mk h1 h2 => exact .mk (hs _ _ h1) h2
inductive FunsE (P : Know) : Value → List Fn → Prop where
  | mk {a : Addr} {vs : List Value} {fs : List Fn} {n : Nat} : P a (listO vs n) → Paired (FunR P) vs fs → FunsE P (.ref a) fs
theorem FunsE.mono {P Q : Know} {v : Value} {fs : List Fn} (h : FunsE P v fs) (hs : ∀ a o, P a o → Q a o) : FunsE Q v fs := by
  cases h with
  | mk h1 h2 => exact .mk (hs _ _ h1) (pmono (fun _ _ x => x.mono hs) h2)
theorem FunsE.funs {P : Know} {v : Value} {fs : List Fn} (h : FunsE P v fs) : FunsR P v fs := by
  cases h with
  | mk h1 h2 => exact .mk h1 fun i f hf => paired_getR h2 hf
def fnsOf (T : Int) : List Fn := [⟨Str.ofString "~", 0, heldOf T⟩, ⟨Str.ofString "a", 0, heldOf T⟩, ⟨Str.ofString "~", 0, letterOf T⟩, ⟨Str.ofString "a", 0, letterOf T⟩, ⟨Str.ofString "~", lineOf T, letterOf T⟩, ⟨Str.ofString "a", lineOf T, letterOf T⟩]
def tailOf (T : Int) : Str := Str.ofString ":" ++ Str.ofString (toString (lineOf T)) ++ Str.ofString "(" ++ letterOf T ++ Str.ofString ")"
def textsOf (T : Int) : List Str := [Str.ofString "{" ++ letterOf T ++ Str.ofString "}", Str.ofString "a:0(" ++ heldOf T ++ Str.ofString ")", letterOf T, Str.ofString "a:0(" ++ letterOf T ++ Str.ofString ")", Str.ofString "~" ++ tailOf T, Str.ofString "a" ++ tailOf T]
inductive PhiB (g : Heap) (L l : Addr) (T : Int) (o2 o3 : Obj) (h' : Heap) : Prop
  | mk (m' : Str → Option Value) (o1 : Obj) (o4 : Obj) (rest : List (Addr × Obj)) (t1 : Tok) (fv : Value) (tv : Value)
    (k0 : Fr g L h' m')
    (k1 : News g L h' ((L + 1 + 1 + 1 + 1, o4) :: (L + 1 + 1 + 1, o3) :: (L + 1 + 1, o2) :: (L + 1, o1) :: (112, tabObj #[]) :: rest))
    (k2 : o1.data = .cell (some (.int T t1)))
    (k3 : o4.data = .cell (some fv))
    (k4 : m' (Str.ofString "script") = some (.ref l))
    (k5 : m' (Str.ofString "texts") = some tv)
    (k6 : FunsE (InL rest) fv (fnsOf T))
    (k7 : StrsR (InL rest) tv (textsOf T))
    (k8 : ∀ p ∈ rest, @LT.lt Nat _ (L + 1 + 1 + 1 + 1) p.1) : PhiB g L l T o2 o3 h'
theorem split_news {g h' : Heap} {L : Addr} {LL : List (Addr × Obj)} (k : Nat) (N : News g L h' LL) : News g L h' (LL.drop k ++ LL.take k) := News.sub N fun p hp => by
  rcases List.mem_append.mp hp with hp | hp
  · exact List.mem_of_mem_drop hp
  · exact List.mem_of_mem_take hp
theorem PhiB.of {g h' : Heap} {L l tx fl D1 D2 D3 D4 D5 D6 : Addr} {T : Int} {o1 o2 o3 o4 : Obj} {m' : Str → Option Value} {t1 : Tok} {a1 a2 a3 b1 b2 b3 c1 c2 c3 d1 d2 d3 e1 e2 e3 f1 f2 f3 x1 x2 x3 x4 x5 x6 : Tok} (F : Fr g L h' m')
    (N : News g L h' [(tx, listO [.str (Str.ofString "{" ++ letterOf T ++ Str.ofString "}") x1, .str (Str.ofString "a:0(" ++ heldOf T ++ Str.ofString ")") x2, .str (letterOf T) x3, .str (Str.ofString "a:0(" ++ letterOf T ++ Str.ofString ")") x4, .str (Str.ofString "~" ++ tailOf T) x5, .str (Str.ofString "a" ++ tailOf T) x6] 0),
      (fl, listO [.ref D1, .ref D2, .ref D3, .ref D4, .ref D5, .ref D6] 0),
      (D6, tupO [.str (Str.ofString "a") f1, .int (lineOf T) f2, .str (letterOf T) f3]), (D5, tupO [.str (Str.ofString "~") e1, .int (lineOf T) e2, .str (letterOf T) e3]), (D4, tupO [.str (Str.ofString "a") d1, .int 0 d2, .str (letterOf T) d3]),
      (D3, tupO [.str (Str.ofString "~") c1, .int 0 c2, .str (letterOf T) c3]), (D2, tupO [.str (Str.ofString "a") b1, .int 0 b2, .str (heldOf T) b3]), (D1, tupO [.str (Str.ofString "~") a1, .int 0 a2, .str (heldOf T) a3]),
      (L + 1 + 1 + 1 + 1, o4), (L + 1 + 1 + 1, o3), (L + 1 + 1, o2), (L + 1, o1), (112, tabObj #[])])
    (lt : @LT.lt Nat _ (L + 1 + 1 + 1 + 1) D1 ∧ @LT.lt Nat _ (L + 1 + 1 + 1 + 1) D2 ∧ @LT.lt Nat _ (L + 1 + 1 + 1 + 1) D3 ∧ @LT.lt Nat _ (L + 1 + 1 + 1 + 1) D4 ∧ @LT.lt Nat _ (L + 1 + 1 + 1 + 1) D5 ∧ @LT.lt Nat _ (L + 1 + 1 + 1 + 1) D6 ∧ @LT.lt Nat _ (L + 1 + 1 + 1 + 1) fl ∧ @LT.lt Nat _ (L + 1 + 1 + 1 + 1) tx)
    (d1' : o1.data = .cell (some (.int T t1))) (d4' : o4.data = .cell (some (.ref fl))) (hs : m' (Str.ofString "script") = some (.ref l)) (ht : m' (Str.ofString "texts") = some (.ref tx)) : PhiB g L l T o2 o3 h' := by
  obtain ⟨l1, l2, l3, l4, l5, l6, l7, l8⟩ := lt
  have N2 := split_news 8 N
  dsimp only [List.drop, List.take, List.cons_append, List.nil_append] at N2
  refine ⟨m', o1, o4, _, t1, .ref fl, .ref tx, F, N2, d1', d4', hs, ht, .mk (vs := [.ref D1, .ref D2, .ref D3, .ref D4, .ref D5, .ref D6]) (n := 0) (.tail _ (.head _)) ?_, .mk (.head _) (.cons _ _ (.cons _ _ (.cons _ _ (.cons _ _ (.cons _ _ (.cons _ _ .nil)))))), ?_⟩
  · exact .cons (.mk (.tail _ (.tail _ (.tail _ (.tail _ (.tail _ (.tail _ (.tail _ (.head _))))))))) (.cons (.mk (.tail _ (.tail _ (.tail _ (.tail _ (.tail _ (.tail _ (.head _)))))))) (.cons (.mk (.tail _ (.tail _ (.tail _ (.tail _ (.tail _ (.head _))))))) (.cons (.mk (.tail _ (.tail _ (.tail _ (.tail _ (.head _)))))) (.cons (.mk (.tail _ (.tail _ (.tail _ (.head _))))) (.cons (.mk (.tail _ (.tail _ (.head _)))) .nil)))))
  · exact mem_step l8 (mem_step l7 (mem_step l6 (mem_step l5 (mem_step l4 (mem_step l3 (mem_step l2 (mem_step l1 mem_none)))))))
set_option maxRecDepth 100000 in
set_option maxHeartbeats 0 in
theorem lawB {h : Heap} {tk : Nat} (hphi : PhiA (Classical.choose law_b).g (Classical.choose law_b).L (Classical.choose law_b).l (Classical.choose law_b).T (Classical.choose law_b).o2 (Classical.choose law_b).o3 (Classical.choose law_b).o4 h)
    (d2 : (Classical.choose law_b).o2.data = .cell none) (d3 : (Classical.choose law_b).o3.data = .cell none) (d4 : (Classical.choose law_b).o4.data = .cell none) (h112 : @LT.lt Nat _ 112 (Classical.choose law_b).L)
    (B' : Below callerA (Classical.choose law_b).g [] (Classical.choose law_b).g) (X' : (hd.heap_39 (Classical.choose law_b).w.params).In (Classical.choose law_b).g) (T' : Top topProg loG (Classical.choose law_b).mean (Classical.choose law_b).mg (Classical.choose law_b).mb (Classical.choose law_b).g) :
    wpAny (model PySem.Challenge.pw_pg0060_01 (Classical.choose law_b).w) (callerA.deeper (lawEnv (Classical.choose law_b).L (Classical.choose law_b).fa)) (execs ((lawBody.drop 4).take 3) (lawEnv (Classical.choose law_b).L (Classical.choose law_b).fa)) (Part (PhiB (Classical.choose law_b).g (Classical.choose law_b).L (Classical.choose law_b).l (Classical.choose law_b).T (Classical.choose law_b).o2 (Classical.choose law_b).o3) (Classical.choose law_b).s) noE { (Classical.choose law_b).s with heap := h, toks := tk } := by
  obtain ⟨m0, o1, t1, t2, t3, t4, F0, N', d1, e1, e2, e3, e4⟩ := hphi
  have F' := fr_named F0 [(Str.ofString "script", .ref (Classical.choose law_b).l), (Str.ofString "line", .int (lineOf (Classical.choose law_b).T) t2), (Str.ofString "letter", .str (letterOf (Classical.choose law_b).T) t3), (Str.ofString "held", .str (heldOf (Classical.choose law_b).T) t4)] (by repeat (first | exact .nil | refine .cons (by assumption) ?_))
  clear F0 e1 e2 e3 e4
  obtain ⟨_, r1, r2⟩ := line_range (Classical.choose law_b).T
  obtain ⟨c, c1, c2, hc⟩ := letter_is (Classical.choose law_b).T
  have r3 : (letterOf (Classical.choose law_b).T).length = 1 := by rw [hc]; rfl
  have r4 : (heldOf (Classical.choose law_b).T).length = 3 := by rw [heldOf, hc]; rfl
  dsimp only [lawBody, lawRec, recOf, List.take, List.drop, lawEnv, chain, List.foldr] at *
  (try k_fold)
  k_steps
  exact Part.of (PhiB.of (by k_asm) (by first | k_asm | assumption) (by refine ⟨?_, ?_, ?_, ?_, ?_, ?_, ?_, ?_⟩ <;> omega) (by assumption) (by assumption) (by rfl) (by rfl))
end
section -- LLawM

theorem held_cases : ∀ k : Fin 26, (Txt.startswith (Str.ofString "<" ++ (⟨#[97 + k.1]⟩ : Str) ++ Str.ofString ">") (Str.ofString "<") = true ∧ Txt.endswith (Str.ofString "<" ++ (⟨#[97 + k.1]⟩ : Str) ++ Str.ofString ">") (Str.ofString ">") = true) ∧
    Txt.slice (Str.ofString "<" ++ (⟨#[97 + k.1]⟩ : Str) ++ Str.ofString ">") (some 1) (some (-1)) = ⟨#[97 + k.1]⟩ ∧ ¬ (Txt.startswith (⟨#[97 + k.1]⟩ : Str) (Str.ofString "<") = true) := by decide +kernel
theorem letter_fin (T : Int) : ∃ k : Fin 26, letterOf T = ⟨#[97 + k.1]⟩ := by
  obtain ⟨c, c1, c2, hc⟩ := letter_is T
  refine ⟨⟨c - 97, by omega⟩, ?_⟩
  have e : 97 + (c - 97) = c := by omega
  rw [hc]
  simp only [e]
theorem a0 : Str.ofString "a" ++ Str.ofString ":" ++ Str.ofString (toString (0 : Int)) ++ Str.ofString "(" = Str.ofString "a:0(" := by decide +kernel
theorem ne_a : ¬ (Str.ofString "a" = Str.ofString "~") := by decide +kernel
theorem texts_are (T : Int) : (fnsOf T).map stdText = textsOf T := by
  obtain ⟨k, hk⟩ := letter_fin T
  obtain ⟨⟨h1, h2⟩, h3, h4⟩ := held_cases k
  obtain ⟨ln, _, _⟩ := line_range T
  have hln : ¬ lineOf T = 0 := by omega
  have e1 : stdText ⟨Str.ofString "~", 0, heldOf T⟩ = Str.ofString "{" ++ letterOf T ++ Str.ofString "}" := by
    unfold stdText heldOf
    rw [hk, if_pos ⟨rfl, rfl⟩, if_pos ⟨h1, h2⟩, h3]
  have e2 : stdText ⟨Str.ofString "a", 0, heldOf T⟩ = Str.ofString "a:0(" ++ heldOf T ++ Str.ofString ")" := by
    unfold stdText
    rw [if_neg (fun q => ne_a q.1), a0]
  have e3 : stdText ⟨Str.ofString "~", 0, letterOf T⟩ = letterOf T := by
    unfold stdText
    rw [if_pos ⟨rfl, rfl⟩, if_neg (fun q => h4 (by rw [← hk]; exact q.1))]
  have e4 : stdText ⟨Str.ofString "a", 0, letterOf T⟩ = Str.ofString "a:0(" ++ letterOf T ++ Str.ofString ")" := by
    unfold stdText
    rw [if_neg (fun q => ne_a q.1), a0]
  have e5 : ∀ f : Str, stdText ⟨f, lineOf T, letterOf T⟩ = f ++ tailOf T := fun f => by
    unfold stdText tailOf
    rw [if_neg (fun q => hln q.2)]
    simp only [Str.append_assoc]
  unfold fnsOf textsOf
  simp only [List.map_cons, List.map_nil, e1, e2, e3, e4, e5]

theorem line_text : ∀ k : Fin 199, (Str.ofString (toString ((k.1 : Int) - 99))).cps.size ≤ 3 ∧ (Str.ofString (toString ((k.1 : Int) - 99))).cps.toList.all (· < 256) = true := by decide +kernel
theorem line_text' (T : Int) : (Str.ofString (toString (lineOf T))).cps.size ≤ 3 ∧ ∀ c ∈ (Str.ofString (toString (lineOf T))).cps.toList, c < 256 := by
  obtain ⟨_, h1, h2⟩ := line_range T
  obtain ⟨k, hk⟩ := Int.eq_ofNat_of_zero_le (a := lineOf T + 99) (by omega)
  have := line_text ⟨k, by omega⟩
  rw [show ((⟨k, by omega⟩ : Fin 199).1 : Int) - 99 = lineOf T by show (k : Int) - 99 = _; omega] at this
  exact ⟨this.1, fun c hc => by simpa using List.all_eq_true.mp this.2 c hc⟩
theorem app_size (a b : Str) : (a ++ b).cps.size = a.cps.size + b.cps.size := by rw [Str.cps_append, Array.size_append]
theorem app_mem {a b : Str} {c : Nat} : c ∈ (a ++ b).cps.toList ↔ c ∈ a.cps.toList ∨ c ∈ b.cps.toList := by rw [Str.cps_append, Array.toList_append, List.mem_append]
theorem sizes : (Str.ofString "{").cps.size = 1 ∧ (Str.ofString "}").cps.size = 1 ∧ (Str.ofString "a:0(").cps.size = 4 ∧ (Str.ofString ")").cps.size = 1 ∧ (Str.ofString "(").cps.size = 1 ∧ (Str.ofString "~").cps.size = 1 ∧ (Str.ofString "a").cps.size = 1 ∧ (Str.ofString "<").cps.size = 1 ∧ (Str.ofString ">").cps.size = 1 ∧ (Str.ofString ":").cps.size = 1 := by decide +kernel
theorem signs : ∀ x ∈ [Str.ofString "{", Str.ofString "}", Str.ofString "a:0(", Str.ofString ")", Str.ofString "(", Str.ofString "~", Str.ofString "a", Str.ofString "<", Str.ofString ">", Str.ofString ":"], x.cps.toList.all (· < 256) = true := by decide +kernel
theorem sign_of {x : Str} (h : x ∈ [Str.ofString "{", Str.ofString "}", Str.ofString "a:0(", Str.ofString ")", Str.ofString "(", Str.ofString "~", Str.ofString "a", Str.ofString "<", Str.ofString ">", Str.ofString ":"]) : ∀ c ∈ x.cps.toList, c < 256 := fun c hc => by
  simpa using List.all_eq_true.mp (signs x h) c hc
def Plain (n : Nat) (x : Str) : Prop := x.cps.size ≤ n ∧ ∀ c ∈ x.cps.toList, c < 256
theorem Plain.app {a b : Str} {n m : Nat} (h1 : Plain n a) (h2 : Plain m b) : Plain (n + m) (a ++ b) := ⟨by rw [app_size]; exact Nat.add_le_add h1.1 h2.1, fun c hc => (app_mem.mp hc).elim (h1.2 c) (h2.2 c)⟩
theorem Plain.le {a : Str} {n m : Nat} (h : Plain n a) (hm : n ≤ m) : Plain m a := ⟨Nat.le_trans h.1 hm, h.2⟩
theorem texts_plain (T : Int) : ∀ x ∈ textsOf T, Plain 20 x := by
  obtain ⟨c, c1, c2, hc⟩ := letter_is T
  obtain ⟨s1, s2, s3, s4, s5, s6, s7, s8, s9, s10⟩ := sizes
  have pl : Plain 1 (letterOf T) := by
    rw [hc]; exact ⟨Nat.le_refl _, fun d hd => by rw [List.mem_singleton.mp hd]; omega⟩
  have p1 : Plain 1 (Str.ofString "{") := ⟨by decide +kernel, by decide +kernel⟩
  have p2 : Plain 1 (Str.ofString "}") := ⟨by decide +kernel, by decide +kernel⟩
  have p3 : Plain 4 (Str.ofString "a:0(") := ⟨by decide +kernel, by decide +kernel⟩
  have p4 : Plain 1 (Str.ofString ")") := ⟨by decide +kernel, by decide +kernel⟩
  have p5 : Plain 1 (Str.ofString "(") := ⟨by decide +kernel, by decide +kernel⟩
  have p6 : Plain 1 (Str.ofString "~") := ⟨by decide +kernel, by decide +kernel⟩
  have p7 : Plain 1 (Str.ofString "a") := ⟨by decide +kernel, by decide +kernel⟩
  have p8 : Plain 1 (Str.ofString "<") := ⟨by decide +kernel, by decide +kernel⟩
  have p9 : Plain 1 (Str.ofString ">") := ⟨by decide +kernel, by decide +kernel⟩
  have p10 : Plain 1 (Str.ofString ":") := ⟨by decide +kernel, by decide +kernel⟩
  have pn : Plain 3 (Str.ofString (toString (lineOf T))) := line_text' T
  have ph : Plain 3 (heldOf T) := (p8.app pl).app p9
  have pt : Plain 7 (tailOf T) := (((p10.app pn).app p5).app pl).app p4
  intro x hx
  simp only [textsOf, List.mem_cons, List.not_mem_nil, or_false] at hx
  rcases hx with rfl | rfl | rfl | rfl | rfl | rfl
  · exact ((p1.app pl).app p2).le (by decide)
  · exact ((p3.app ph).app p4).le (by decide)
  · exact pl.le (by decide)
  · exact ((p3.app pl).app p4).le (by decide)
  · exact (p6.app pt).le (by decide)
  · exact (p7.app pt).le (by decide)
def sealsOf (T : Int) : List Int := (textsOf T).map fun x => ((sealN x.cps.toList : Nat) : Int)
theorem seals_are (T : Int) : (fnsOf T).map (fun f => ((runN (stdText f).cps.toList : Nat) : Int)) = sealsOf T := by
  rw [sealsOf, ← texts_are, List.map_map]
  refine List.map_congr_left fun f hf => ?_
  have : stdText f ∈ textsOf T := by rw [← texts_are]; exact List.mem_map_of_mem hf
  show _ = ((sealN (stdText f).cps.toList : Nat) : Int)
  rw [seal_run _ (texts_plain T _ this).2]
end
section -- LLawK
theorem law_top (L fa : Addr) : callerA.deeper (lawEnv L fa) = ktrTop 302 7 callerA.guards lawRec.name lawRec.scope L fa (.ref 114) (cellsFrom (L + 1) lawRec.scope.names []) [] := rfl
theorem Does.at {w : World} {mean : ExcName → Option Value} {mg mb : Str → Option Value} {f : Addr} {vs : List Value} {n : Nat} {K : Know} {Post : Know → Value → Prop} {L fa : Addr} {g : Heap} {m : Str → Option Value} {s : Shared}
    {Q E : Value → Shared → Prop} (C : Does w mean mg mb f vs n K Post) (B : Below callerA g [] g) (F : Fr g L s.heap m) (X : (hd.heap_39 w.params).In g) (T : Top topProg loG mean mg mb g) (hn : n ≤ 100)
    (hK : ∀ a o, K a o → s.heap.get? a = some o)
    (ret : ∀ r tl h' tk', s.heap.StaysIn h' → (∀ p ∈ tl, h'.get? p.1 = some p.2 ∧ s.heap.get? p.1 = none) → Post (K.more tl) r → Q r { s with heap := h', toks := tk' }) :
    wpAny (model PySem.Challenge.pw_pg0060_01 w) (callerA.deeper (lawEnv L fa)) (call (.ref f) vs) Q E s := by
  rw [law_top]
  exact C 302 7 callerA.guards lawRec.name lawRec.scope fa (.ref 114) _ [] callerA g g L m s Q E B F X T rfl (by show 302 + n < 1000; omega) (by rw [cLine_is]; omega) hK ret
theorem news_tl {g h h' : Heap} {L : Addr} {m : Str → Option Value} {news tl : List (Addr × Obj)} (F : Fr g L h m) (N : News g L h news) (hst : h.StaysIn h') (htl : ∀ p ∈ tl, h'.get? p.1 = some p.2 ∧ h.get? p.1 = none) : News g L h' (tl ++ news) := by
  obtain ⟨oL, _, _, hL, _⟩ := F.ns
  intro p hp
  rcases List.mem_append.mp hp with hp | hp
  · have z := (htl p hp).2
    refine ⟨(htl p hp).1, fun e => ?_, ?_⟩
    · rw [e, hL] at z; cases z
    · cases q : g.get? p.1 with
      | none => rfl
      | some o => rw [F.keep _ _ q] at z; cases z
  · exact ⟨hst _ _ (N p hp).1, (N p hp).2⟩
theorem tl_apart {g h h' : Heap} {L : Addr} {news tl : List (Addr × Obj)} (N : News g L h news) (htl : ∀ p ∈ tl, h'.get? p.1 = some p.2 ∧ h.get? p.1 = none) : ∀ p ∈ news, ∀ q ∈ tl, p.1 ≠ q.1 := fun p hp q hq e => by
  have z := (htl q hq).2
  rw [← e, (N p hp).1] at z; cases z
theorem tl_above {h h' : Heap} {tl : List (Addr × Obj)} {b : Nat} {o : Obj} (hb : h.get? b = some o) (htl : ∀ p ∈ tl, h'.get? p.1 = some p.2 ∧ h.get? p.1 = none) : ∀ p ∈ tl, p.1 ≠ b := fun p hp e => by
  have z := (htl p hp).2
  rw [e, hb] at z; cases z
def Off (L : Addr) (rest : List (Addr × Obj)) : Prop := ∀ p ∈ rest, p.1 ≠ L + 1 + 1 + 1 + 1 ∧ p.1 ≠ L + 1 + 1 + 1 ∧ p.1 ≠ L + 1 + 1 ∧ p.1 ≠ L + 1 ∧ p.1 ≠ (112 : Addr)
def cells5 (L : Addr) (o4 o3 o2 o1 ot : Obj) : List (Addr × Obj) := [(L + 1 + 1 + 1 + 1, o4), (L + 1 + 1 + 1, o3), (L + 1 + 1, o2), (L + 1, o1), (112, ot)]
theorem off_new {g h : Heap} {L : Addr} {o4 o3 o2 o1 ot : Obj} {rest : List (Addr × Obj)} (N : News g L h ((L + 1 + 1 + 1 + 1, o4) :: (L + 1 + 1 + 1, o3) :: (L + 1 + 1, o2) :: (L + 1, o1) :: (112, ot) :: rest)) {D : Addr} (hD : h.get? D = none) :
    D ≠ L + 1 + 1 + 1 + 1 ∧ D ≠ L + 1 + 1 + 1 ∧ D ≠ L + 1 + 1 ∧ D ≠ L + 1 ∧ D ≠ (112 : Addr) := by
  have key : ∀ p ∈ ((L + 1 + 1 + 1 + 1, o4) :: (L + 1 + 1 + 1, o3) :: (L + 1 + 1, o2) :: (L + 1, o1) :: (112, ot) :: rest), D ≠ p.1 := fun p hp e => by
    rw [e, (N p hp).1] at hD; cases hD
  exact ⟨key _ (.head _), key _ (.tail _ (.head _)), key _ (.tail _ (.tail _ (.head _))), key _ (.tail _ (.tail _ (.tail _ (.head _)))), key _ (.tail _ (.tail _ (.tail _ (.tail _ (.head _)))))⟩
theorem Off.app {L : Addr} {a b : List (Addr × Obj)} (h1 : Off L a) (h2 : Off L b) : Off L (a ++ b) := fun p hp => (List.mem_append.mp hp).elim (h1 p) (h2 p)
theorem comp_next {g h h' : Heap} {L D : Addr} {m m' : Str → Option Value} {o : Obj} {news : List (Addr × Obj)} (F : Fr g L h m) (N : News g L h news) (hD : h.get? D = none) (hD' : h'.get? D = some o)
    (hk : ∀ b o, b ≠ L → h.get? b = some o → h'.get? b = some o) (hn : h'.Ns L m') : Fr g L h' m' ∧ News g L h' ((D, o) :: news) := by
  obtain ⟨oL, _, _, hL, _⟩ := F.ns
  refine ⟨⟨hn, fun b ob e => hk b ob (fun q => ?_) (F.keep b ob e), F.above⟩, fun p hp => ?_⟩
  · rw [q] at e; exact Nat.lt_irrefl _ (Nat.lt_of_lt_of_le (Heap.lt_size e) F.above)
  · rcases List.mem_cons.mp hp with rfl | hp
    · refine ⟨hD', fun (e : D = L) => ?_, ?_⟩
      · rw [e, hL] at hD; cases hD
      · cases q : g.get? D with
        | none => rfl
        | some o => rw [F.keep _ _ q] at hD; cases hD
    · exact ⟨hk _ _ (N p hp).2.1 (N p hp).1, (N p hp).2⟩
section
variable {M : Model} {A : Around} {E : Value → Shared → Prop} {s : Shared} {env : Env} {scope : Scope} {cl : List (Str × Addr)} {C : Addr} {x : Str} {pos : Pos} {v : Value} {Q : Value → Shared → Prop} {g : Heap} {L : Addr} {m mg mb : Str → Option Value} {K : Frag} {p : Program} {loose : List Str} {mean : ExcName → Option Value}
theorem nameC_K (F : Fr g L s.heap m) (X : K.In g) (T : Top p loose mean mg mb g) (he : env.globals = mainGlobals) (e : nsIn K mainGlobals x = some (some v)) (h : Q v s)
    (hk : scope.kind = .function) (hl : (compEnvC scope cl C env).kindOf x = some .globalImplicit) (hd : (x == ("__debug__" : Str)) = false) : wpAny M A (eval (.Name x pos) (compEnvC scope cl C env)) Q E s := by
  refine Name_function_global (env := compEnvC scope cl C env) hk hl (loadGlobal_global (env := compEnvC scope cl C env) ?_ (mg_of X T.g e) h) hd
  show s.heap.Ns env.globals mg
  rw [he]
  exact T.g.keeps F.keep
end
end
section -- LLawC
local macro_rules | `(tactic| walk_at "eval Name") => `(tactic| first | walk_at "MINE name" | (k_here; (with_reducible show wpAny _ _ (eval (Expr.Name _ _) (compEnvC _ _ _ _)) _ _ _); (k_dflt (refine' nameC_K ?v0 ?x0 ?t0 ?w1 ?w2 ?_ ?v2 ?v3 ?v4; (case t0 | x0 | v0 => assumption); (case w1 => exact rfl); (case w2 => k_is); (case v2 | v3 => exact rfl); (case v4 => decide); k_whole))))
local macro_rules | `(tactic| walk_at "exec Assign cons ListComp") => `(tactic| walk_at "MINE stop")
theorem strs_seals {F : Value → Value → Prop} (hF : ∀ v y, F v y → ∃ x t u, v = .str x t ∧ y = .int (sealN x.cps.toList : Nat) u) : ∀ {vs ys : List Value} {ss : List Str}, Paired F vs ys → StrsAre vs ss → IntsAre ys (ss.map fun x => ((sealN x.cps.toList : Nat) : Int))
  | _, _, _, .nil, hs => by cases hs; exact .nil
  | _, _, _, .cons a b, hs => by
    cases hs with
    | cons y t h =>
    obtain ⟨x, t', u, e, rfl⟩ := hF _ _ a
    rw [(Value.str.inj e).1]
    exact .cons _ _ (strs_seals hF b h)
inductive PhiC (g : Heap) (L l : Addr) (T : Int) (o2 o3 : Obj) (h' : Heap) : Prop
  | mk (m' : Str → Option Value) (o1 : Obj) (o4 : Obj) (rest : List (Addr × Obj)) (t1 : Tok) (fv : Value) (tv : Value) (dv : Value) (sv : Value)
    (k0 : Fr g L h' m')
    (k1 : News g L h' ((L + 1 + 1 + 1 + 1, o4) :: (L + 1 + 1 + 1, o3) :: (L + 1 + 1, o2) :: (L + 1, o1) :: (112, tabObj #[]) :: rest))
    (k2 : o1.data = .cell (some (.int T t1)))
    (k3 : o4.data = .cell (some fv))
    (k4 : m' (Str.ofString "script") = some (.ref l))
    (k5 : m' (Str.ofString "texts") = some tv)
    (k6 : m' (Str.ofString "told") = some dv)
    (k7 : m' (Str.ofString "seals") = some sv)
    (k8 : FunsE (InL rest) fv (fnsOf T))
    (k9 : StrsR (InL rest) tv (textsOf T))
    (k10 : IntsR (InL rest) dv (sealsOf T))
    (k11 : IntsR (InL rest) sv (sealsOf T))
    (k12 : Off L rest) : PhiC g L l T o2 o3 h'
def FunAt (h : Heap) (v : Value) (f : Fn) : Prop := ∃ a t1 t2 t3, v = .ref a ∧ h.get? a = some (tupO [.str f.file t1, .int f.line t2, .str f.name t3])
theorem FunR.at {P : Know} {h : Heap} {v : Value} {f : Fn} (x : FunR P v f) (hP : ∀ a o, P a o → h.get? a = some o) : FunAt h v f := by
  cases x with
  | mk x => exact ⟨_, _, _, _, rfl, hP _ _ x⟩
theorem FunAt.uniq {h : Heap} {v : Value} {c d : Fn} (x : FunAt h v c) (y : FunAt h v d) : c = d := by
  obtain ⟨a, t1, t2, t3, rfl, e⟩ := x
  obtain ⟨b, u1, u2, u3, e1, e2⟩ := y
  cases e1
  rw [e] at e2
  have e3 := congrArg (fun o : Obj => o.data) (Option.some.inj e2)
  dsimp only at e3
  cases c; cases d
  simp at e3
  obtain ⟨⟨rfl, _⟩, ⟨rfl, _⟩, rfl, _⟩ := e3
  rfl
theorem funs_ints {h : Heap} {k : Fn → Int} : ∀ {vs ys : List Value} {fs : List Fn}, Paired (FunAt h) vs fs → Paired (fun v y => ∃ f u, FunAt h v f ∧ y = .int (k f) u) vs ys → IntsAre ys (fs.map k) := by
  intro vs ys fs a b
  induction a generalizing ys with
  | nil => cases b; exact .nil
  | cons a _ ih =>
    cases b with
    | cons c d =>
      obtain ⟨c', t, h1, rfl⟩ := c
      exact h1.uniq a ▸ .cons _ _ (ih d)
theorem fns_small (T : Int) : ∀ f ∈ fnsOf T, f.file.length ≤ 3 ∧ f.name.length ≤ 3 ∧ -99 ≤ f.line ∧ f.line ≤ 99 := by
  obtain ⟨c, _, _, hc⟩ := letter_is T
  obtain ⟨_, r1, r2⟩ := line_range T
  have r3 : (letterOf T).length ≤ 3 := by rw [hc]; exact (by decide : 1 ≤ 3)
  have r4 : (heldOf T).length ≤ 3 := by rw [heldOf, hc]; exact Nat.le_refl 3
  have s1 : (Str.ofString "~").length ≤ 3 := by decide
  have s2 : (Str.ofString "a").length ≤ 3 := by decide
  intro f hf
  simp only [fnsOf, List.mem_cons, List.not_mem_nil, or_false] at hf
  rcases hf with rfl | rfl | rfl | rfl | rfl | rfl
  · exact ⟨s1, r4, by show (-99 : Int) ≤ 0; decide, by show (0 : Int) ≤ 99; decide⟩
  · exact ⟨s2, r4, by show (-99 : Int) ≤ 0; decide, by show (0 : Int) ≤ 99; decide⟩
  · exact ⟨s1, r3, by show (-99 : Int) ≤ 0; decide, by show (0 : Int) ≤ 99; decide⟩
  · exact ⟨s2, r3, by show (-99 : Int) ≤ 0; decide, by show (0 : Int) ≤ 99; decide⟩
  · exact ⟨s1, r3, r1, r2⟩
  · exact ⟨s2, r3, r1, r2⟩
set_option maxRecDepth 100000 in
set_option maxHeartbeats 0 in
theorem lawC {h : Heap} {tk : Nat} (hphi : PhiB (Classical.choose law_b).g (Classical.choose law_b).L (Classical.choose law_b).l (Classical.choose law_b).T (Classical.choose law_b).o2 (Classical.choose law_b).o3 h)
    (B' : Below callerA (Classical.choose law_b).g [] (Classical.choose law_b).g) (X' : (hd.heap_39 (Classical.choose law_b).w.params).In (Classical.choose law_b).g) (T' : Top topProg loG (Classical.choose law_b).mean (Classical.choose law_b).mg (Classical.choose law_b).mb (Classical.choose law_b).g) (h112 : @LT.lt Nat _ 112 (Classical.choose law_b).L) :
    wpAny (model PySem.Challenge.pw_pg0060_01 (Classical.choose law_b).w) (callerA.deeper (lawEnv (Classical.choose law_b).L (Classical.choose law_b).fa)) (execs ((lawBody.drop 7).take 3) (lawEnv (Classical.choose law_b).L (Classical.choose law_b).fa)) (Part (PhiC (Classical.choose law_b).g (Classical.choose law_b).L (Classical.choose law_b).l (Classical.choose law_b).T (Classical.choose law_b).o2 (Classical.choose law_b).o3) (Classical.choose law_b).s) noE { (Classical.choose law_b).s with heap := h, toks := tk } := by
  obtain ⟨m0, o1, o4, rest, t1, fv, tv, F0, N', d1, d4, e1, e2, hfn, htx, hab0⟩ := hphi
  have hab : Off (Classical.choose law_b).L rest := fun p hp => by
    have := hab0 p hp
    exact ⟨Nat.ne_of_gt this, Nat.ne_of_gt (by omega), Nat.ne_of_gt (by omega), Nat.ne_of_gt (by omega), Nat.ne_of_gt (by omega)⟩
  clear hab0
  have F' := fr_named F0 [(Str.ofString "script", .ref (Classical.choose law_b).l), (Str.ofString "texts", tv)] (by repeat (first | exact .nil | refine .cons (by assumption) ?_))
  clear F0 e1 e2
  cases htx with
  | @mk ta tvs _ tn q1 q2 =>
  have HTX : h.IsList ta tvs.toArray := ⟨_, (N' _ (.tail _ (.tail _ (.tail _ (.tail _ (.tail _ q1)))))).1, rfl, _, rfl⟩
  dsimp only [lawBody, lawRec, recOf, List.take, List.drop, lawEnv, chain, List.foldr] at *
  (try k_fold)
  k_steps
  refine Stop.mk ?_
  refine comp_assign (cl := []) (l := ta) (vs := tvs) (fun _ => true) (fun _ _ => False) (fun _ v y => ∃ x t u, v = .str x t ∧ y = .int (sealN x.cps.toList : Nat) u) ?c1 ?c2 ?c3 ?c4 ?c5 ?c6 ?c7 ?c8 ?c9 ?c10 ?c11 ?c12 ?c13 F'.ns ?c15 ?c16 ?c17
  case c1 => exact rfl
  case c2 => exact HTX
  case c3 => rw [q2.length]; exact (by decide : 6 ≤ 1000)
  case c4 => exact fun _ _ _ _ _ h => h
  case c5 => exact rfl
  case c6 => exact rfl
  case c7 => decide
  case c8 => exact rfl
  case c9 => decide
  case c10 => exact rfl
  case c11 => exact fun _ => rfl
  case c12 => exact rfl
  case c13 => exact rfl
  case c15 => intro Q9 h9; k_steps; exact h9
  case c16 =>
    refine ⟨?_, ?_⟩
    · intro C i v h₃ tk₃ m₃ own hv F₃ N₃ hm₃
      exact wpAny_pure ⟨rfl, h₃, tk₃, [], rfl, F₃, N₃⟩
    · intro C i v h₃ tk₃ m₃ own hv _ F₃ N₃ hm₃
      obtain ⟨x, t, rfl, hx⟩ := StrsAre.at q2 hv
      have FL := Fr.keeps F' F₃.keep
      have F3 := And.intro trivial F₃
      rw [know_map1 hm₃] at F₃
      k_steps
      refine Stop.mk ?_
      refine Does.at (seal_does (P := fun _ _ => False) (texts_plain (Classical.choose law_b).T x (List.mem_of_getElem? hx)).1) B' FL X' T' (by decide) (fun _ _ q => q.elim) fun r tl h' tk' hst htl hr => ?_
      obtain ⟨u, rfl⟩ := hr
      exact EltEnd.of tl (Fr.keeps F3.2 hst) (news_tl F3.2 N₃ hst htl) (fun q hq p hp => tl_apart N₃ htl p hp q hq) ⟨x, t, u, rfl, rfl⟩
  case c17 =>
    intro D1 h1 tk1 ys1 n1 tl1 hD1 hD1' hk1 hn1 _ hp1
    rw [List.filter_eq_self.mpr (fun _ _ => rfl)] at hp1
    have hT1 : IntsAre ys1 (sealsOf (Classical.choose law_b).T) := strs_seals (fun _ _ q => q) hp1 q2
    obtain ⟨F1, N1⟩ := comp_next F' N' hD1 hD1' hk1 hn1
    have off1 := off_new N' hD1
    clear hn1 hk1 hp1 F' N' hD1'
    k_steps
    refine Stop.mk ?_
    cases hfn with
    | @mk fl fvs _ fn q3 q4 =>
    have KP : ∀ a o, InL rest a o → h1.get? a = some o := fun a o q => (N1 _ (.tail _ (.tail _ (.tail _ (.tail _ (.tail _ (.tail _ q))))))).1
    have HFL : h1.IsList fl fvs.toArray := ⟨_, KP _ _ q3, rfl, _, rfl⟩
    have QF : Paired (FunAt h1) fvs (fnsOf (Classical.choose law_b).T) := pmono (fun _ _ x => x.at KP) q4
    refine comp_assign (cl := []) (l := fl) (vs := fvs) (fun _ => true) (fun _ _ => False) (fun _ v y => ∃ f u, FunAt h1 v f ∧ y = .int ((runN (stdText f).cps.toList : Nat) : Int) u) ?c1 ?c2 ?c3 ?c4 ?c5 ?c6 ?c7 ?c8 ?c9 ?c10 ?c11 ?c12 ?c13 F1.ns ?c15 ?c16 ?c17
    case c1 => exact rfl
    case c2 => exact HFL
    case c3 => rw [q4.length]; exact (by decide : 6 ≤ 1000)
    case c4 => exact fun _ _ _ _ _ h => h
    case c5 => exact rfl
    case c6 => exact rfl
    case c7 => decide
    case c8 => exact rfl
    case c9 => decide
    case c10 => exact rfl
    case c11 => exact fun _ => rfl
    case c12 => exact rfl
    case c13 => exact rfl
    case c15 => intro Q9 h9; k_steps; exact h9
    case c16 =>
      refine ⟨?_, ?_⟩
      · intro C i v h₃ tk₃ m₃ own hv F₃ N₃ hm₃
        exact wpAny_pure ⟨rfl, h₃, tk₃, [], rfl, F₃, N₃⟩
      · intro C i v h₃ tk₃ m₃ own hv _ F₃ N₃ hm₃
        obtain ⟨f, hf, hvf⟩ := paired_get q4 hv
        obtain ⟨z1, z2, z3, z4⟩ := fns_small (Classical.choose law_b).T f (List.mem_of_getElem? hf)
        have FL := Fr.keeps F1 F₃.keep
        have hat := FunR.at hvf KP
        have hvf3 := id hat
        obtain ⟨a9, u1, u2, u3, rfl, hob⟩ := hvf3
        have F3 := And.intro trivial F₃
        rw [know_map1 hm₃] at F₃
        k_steps
        refine Stop.mk ?_
        refine Does.at (std_does hvf z1 z2 ⟨z3, z4⟩) B' FL X' T' (by decide) (fun a o q => F3.2.keep _ _ (KP a o q)) fun r tl h' tk' hst htl hr => ?_
        obtain ⟨u, rfl⟩ := hr
        have F4 := Fr.keeps F₃ hst
        have FL4 := Fr.keeps FL hst
        have N4 := news_tl F3.2 N₃ hst htl
        have F5 := And.intro trivial (Fr.keeps F3.2 hst)
        clear F₃ FL
        dsimp only
        k_steps
        refine Stop.mk ?_
        refine Does.at (run_does (P := fun _ _ => False)) B' FL4 X' T' (by decide) (fun _ _ q => q.elim) fun r tl2 h2 tk2 hst2 htl2 hr => ?_
        obtain ⟨u, rfl⟩ := hr
        refine EltEnd.of (tl2 ++ tl) (Fr.keeps F5.2 hst2) ?_ ?_ ⟨f, u, hat, rfl⟩
        · rw [List.append_assoc]; exact news_tl F5.2 N4 hst2 htl2
        · intro q hq p hp
          rcases List.mem_append.mp hq with hq | hq
          · exact tl_apart N4 htl2 p (List.mem_append_right _ hp) q hq
          · exact tl_apart N₃ htl p hp q hq
    case c17 =>
      intro D2 h2 tk2 ys2 n2 tl2 hD2 hD2' hk2 hn2 _ hp2
      rw [List.filter_eq_self.mpr (fun _ _ => rfl)] at hp2
      have hT2 := funs_ints QF hp2
      rw [seals_are] at hT2
      obtain ⟨F2, N2⟩ := comp_next F1 N1 hD2 hD2' hk2 hn2
      have N3 := News.sub (b := ((Classical.choose law_b).L + 1 + 1 + 1 + 1, o4) :: ((Classical.choose law_b).L + 1 + 1 + 1, (Classical.choose law_b).o3) :: ((Classical.choose law_b).L + 1 + 1, (Classical.choose law_b).o2) :: ((Classical.choose law_b).L + 1, o1) :: (112, tabObj #[]) :: (D1, listO ys1 n1) :: (D2, listO ys2 n2) :: rest) N2 (by walk_at "MINE sub")
      have off2 := off_new (rest := (D1, listO ys1 n1) :: rest) (News.sub (b := ((Classical.choose law_b).L + 1 + 1 + 1 + 1, o4) :: ((Classical.choose law_b).L + 1 + 1 + 1, (Classical.choose law_b).o3) :: ((Classical.choose law_b).L + 1 + 1, (Classical.choose law_b).o2) :: ((Classical.choose law_b).L + 1, o1) :: (112, tabObj #[]) :: (D1, listO ys1 n1) :: rest) N1 (by walk_at "MINE sub")) hD2
      clear hn2 hk2 hp2 F1 N1 N2 hD2' QF KP HFL
      have HD1 : h2.IsList D1 ys1.toArray := ⟨_, (N3 _ (.tail _ (.tail _ (.tail _ (.tail _ (.tail _ (.head _))))))).1, rfl, _, rfl⟩
      have HD2 : h2.IsList D2 ys2.toArray := ⟨_, (N3 _ (.tail _ (.tail _ (.tail _ (.tail _ (.tail _ (.tail _ (.head _)))))))).1, rfl, _, rfl⟩
      dsimp only
      k_steps
      have up : ∀ a o, InL rest a o → InL ((D1, listO ys1 n1) :: (D2, listO ys2 n2) :: rest) a o := fun a o q => .tail _ (.tail _ q)
      refine Part.of ⟨_, o1, o4, (D1, listO ys1 n1) :: (D2, listO ys2 n2) :: rest, t1, .ref fl, .ref ta, .ref D1, .ref D2, F2, N3, d1, d4, rfl, rfl, rfl, rfl, (FunsE.mk q3 q4).mono up, (StrsR.mk q1 q2).mono up, .mk (.head _) hT1, .mk (.tail _ (.head _)) hT2, mem_step off1 (mem_step off2 hab)⟩
end
end
section -- LLawD
local macro_rules | `(tactic| walk_at "MINE idle0") => `(tactic| skip)
local macro_rules | `(tactic| walk_at "eval Name") => `(tactic| walk_at "MINE name")
def keyDiv : Nat → Int
  | 0 => 1
  | 1 => 2
  | _ => 4
def colOf (T : Int) (i : Nat) : Int := ((i : Int) + T).fmod 3
def dirOf (T : Int) (i : Nat) : Int := 1 - 2 * ((T.fdiv 3).fdiv (keyDiv i)).fmod 2
theorem pow_two {prog : Program} {w : World} {A : Around} {E : Value → Shared → Prop} {s : Shared} {n c : Int} {t u : Tok} {Q : Value → Shared → Prop} (h : (n = 0 ∧ c = 1) ∨ (n = 1 ∧ c = 2) ∨ (n = 2 ∧ c = 4)) (hq : Q (.int c s.toks) { s with toks := s.toks + 1 }) :
    wpAny (model prog w) A (binaryOp .Pow (.int 2 t) (.int n u)) Q E s := by
  rcases h with ⟨rfl, rfl⟩ | ⟨rfl, rfl⟩ | ⟨rfl, rfl⟩ <;> exact pow_int_small (by decide) (by decide) (by decide) hq
local macro_rules | `(tactic| walk_at "binaryOp Pow int int") => `(tactic| (k_here; first | (with_reducible refine pow_two (c := 1) ?kb1 ?_; (case kb1 => decide)) | (with_reducible refine pow_two (c := 2) ?kb1 ?_; (case kb1 => decide)) | (with_reducible refine pow_two (c := 4) ?kb1 ?_; (case kb1 => decide))))
local macro_rules | `(tactic| walk_at "exec Assign cons ListComp") => `(tactic| walk_at "MINE stop")
def keysOf (T : Int) : List (Int × Int) := [(colOf T 0, dirOf T 0), (colOf T 1, dirOf T 1), (colOf T 2, dirOf T 2)]
inductive KeysR (P : Know) : Value → List (Int × Int) → Prop where
  | mk {a : Addr} {vs : List Value} {ks : List (Int × Int)} {n : Nat} : P a (listO vs n) → Paired (KeyR P) vs ks → KeysR P (.ref a) ks
theorem KeysR.mono {P Q : Know} {v : Value} {ks : List (Int × Int)} (h : KeysR P v ks) (hs : ∀ a o, P a o → Q a o) : KeysR Q v ks := by
  cases h with
  | mk h1 h2 => exact .mk (hs _ _ h1) (pmono (fun _ _ x => x.mono hs) h2)
inductive PhiD (g : Heap) (L l : Addr) (T : Int) (o2 o3 : Obj) (h' : Heap) : Prop
  | mk (m' : Str → Option Value) (o1 : Obj) (o4 : Obj) (rest : List (Addr × Obj)) (t1 : Tok) (fv : Value) (tv : Value) (dv : Value) (sv : Value) (kv : Value) (cv : Value) (ov : Value)
    (k0 : Fr g L h' m')
    (k1 : News g L h' ((L + 1 + 1 + 1 + 1, o4) :: (L + 1 + 1 + 1, o3) :: (L + 1 + 1, o2) :: (L + 1, o1) :: (112, tabObj #[]) :: rest))
    (k2 : o1.data = .cell (some (.int T t1)))
    (k3 : o4.data = .cell (some fv))
    (k4 : (m' (Str.ofString "script") = some (.ref l) ∧ m' (Str.ofString "texts") = some tv ∧ m' (Str.ofString "told") = some dv ∧ m' (Str.ofString "seals") = some sv ∧ m' (Str.ofString "keys") = some kv ∧ m' (Str.ofString "comp") = some cv ∧ m' (Str.ofString "order") = some ov))
    (k5 : FunsE (InL rest) fv (fnsOf T))
    (k6 : StrsR (InL rest) tv (textsOf T))
    (k7 : IntsR (InL rest) dv (sealsOf T))
    (k8 : IntsR (InL rest) sv (sealsOf T))
    (k9 : KeysR (InL rest) kv (keysOf T))
    (k10 : CompR (InL rest) cv (keysOf T))
    (k11 : IntsR (InL rest) ov [0, 1, 2, 3, 4, 5])
    (k12 : Off L rest) : PhiD g L l T o2 o3 h'
theorem news_same {g h : Heap} {L a : Addr} {news : List (Addr × Obj)} {o o' : Obj} (N : News g L h news) (h1 : (a, o) ∈ news) (h2 : (a, o') ∈ news) : o = o' := Option.some.inj ((N _ h1).1.symm.trans (N _ h2).1)
theorem off_mem {g h : Heap} {L D : Addr} {o4 o3 o2 o1 ot o : Obj} {rest : List (Addr × Obj)} (N : News g L h ((L + 1 + 1 + 1 + 1, o4) :: (L + 1 + 1 + 1, o3) :: (L + 1 + 1, o2) :: (L + 1, o1) :: (112, ot) :: rest)) (hm : (D, o) ∈ rest)
    (n4 : o.data ≠ o4.data) (n3 : o.data ≠ o3.data) (n2 : o.data ≠ o2.data) (n1 : o.data ≠ o1.data) (nt : o.cls ≠ ot.cls) : D ≠ L + 1 + 1 + 1 + 1 ∧ D ≠ L + 1 + 1 + 1 ∧ D ≠ L + 1 + 1 ∧ D ≠ L + 1 ∧ D ≠ (112 : Addr) := by
  have hm' := List.mem_cons_of_mem (L + 1 + 1 + 1 + 1, o4) (List.mem_cons_of_mem (L + 1 + 1 + 1, o3) (List.mem_cons_of_mem (L + 1 + 1, o2) (List.mem_cons_of_mem (L + 1, o1) (List.mem_cons_of_mem ((112 : Addr), ot) hm))))
  refine ⟨fun e => ?_, fun e => ?_, fun e => ?_, fun e => ?_, fun e => ?_⟩ <;> subst e
  · exact n4 (congrArg Obj.data (news_same N hm' (.head _)))
  · exact n3 (congrArg Obj.data (news_same N hm' (.tail _ (.head _))))
  · exact n2 (congrArg Obj.data (news_same N hm' (.tail _ (.tail _ (.head _)))))
  · exact n1 (congrArg Obj.data (news_same N hm' (.tail _ (.tail _ (.tail _ (.head _))))))
  · exact nt (congrArg Obj.cls (news_same N hm' (.tail _ (.tail _ (.tail _ (.tail _ (.head _)))))))
theorem PhiD.of {g h' : Heap} {L l ol x d D1 A0 A1 A2 : Addr} {T : Int} {o1 o2 o3 o4 : Obj} {m' : Str → Option Value} {t1 : Tok} {fv tv dv sv : Value} {rest tl1 : List (Addr × Obj)} {hs : Int} {kt : Tok} {n1 : Nat} {w0 w1 w2 x0 x1 x2 y0 y1 y2 y3 y4 y5 : Tok}
    (F : Fr g L h' m')
    (N : News g L h' ((ol, listO [.int 0 y0, .int 1 y1, .int 2 y2, .int 3 y3, .int 4 y4, .int 5 y5] 0) :: (x, instObj 38 d) :: (d, dictOf [⟨hs, .str (Str.ofString "comp_select_list") kt, .ref D1⟩] 1) ::
      (L + 1 + 1 + 1 + 1, o4) :: (L + 1 + 1 + 1, o3) :: (L + 1 + 1, o2) :: (L + 1, o1) :: (112, tabObj #[]) :: (D1, listO [.ref A0, .ref A1, .ref A2] n1) :: (tl1 ++ rest)))
    (d1 : o1.data = .cell (some (.int T t1))) (d2 : o2.data = .cell none) (d3 : o3.data = .cell none) (d4 : o4.data = .cell (some fv))
    (hm : m' (Str.ofString "script") = some (.ref l) ∧ m' (Str.ofString "texts") = some tv ∧ m' (Str.ofString "told") = some dv ∧ m' (Str.ofString "seals") = some sv ∧ m' (Str.ofString "keys") = some (.ref D1) ∧ m' (Str.ofString "comp") = some (.ref x) ∧ m' (Str.ofString "order") = some (.ref ol))
    (hfn : FunsE (InL rest) fv (fnsOf T)) (htx : StrsR (InL rest) tv (textsOf T)) (htd : IntsR (InL rest) dv (sealsOf T)) (hsl : IntsR (InL rest) sv (sealsOf T))
    (a0 : (A0, tupO [.int (colOf T 0) w0, .int (dirOf T 0) x0]) ∈ tl1) (a1 : (A1, tupO [.int (colOf T 1) w1, .int (dirOf T 1) x1]) ∈ tl1) (a2 : (A2, tupO [.int (colOf T 2) w2, .int (dirOf T 2) x2]) ∈ tl1)
    (off1 : D1 ≠ L + 1 + 1 + 1 + 1 ∧ D1 ≠ L + 1 + 1 + 1 ∧ D1 ≠ L + 1 + 1 ∧ D1 ≠ L + 1 ∧ D1 ≠ (112 : Addr)) (offt : Off L tl1) (hab : Off L rest) : PhiD g L l T o2 o3 h' := by
  have N2 : News g L h' ((L + 1 + 1 + 1 + 1, o4) :: (L + 1 + 1 + 1, o3) :: (L + 1 + 1, o2) :: (L + 1, o1) :: (112, tabObj #[]) :: ((ol, listO [.int 0 y0, .int 1 y1, .int 2 y2, .int 3 y3, .int 4 y4, .int 5 y5] 0) :: (x, instObj 38 d) ::
      (d, dictOf [⟨hs, .str (Str.ofString "comp_select_list") kt, .ref D1⟩] 1) :: (D1, listO [.ref A0, .ref A1, .ref A2] n1) :: (tl1 ++ rest))) := News.sub N (by walk_at "MINE sub")
  have up : ∀ a o, InL rest a o → InL ((ol, listO [.int 0 y0, .int 1 y1, .int 2 y2, .int 3 y3, .int 4 y4, .int 5 y5] 0) :: (x, instObj 38 d) :: (d, dictOf [⟨hs, .str (Str.ofString "comp_select_list") kt, .ref D1⟩] 1) :: (D1, listO [.ref A0, .ref A1, .ref A2] n1) :: (tl1 ++ rest)) a o :=
    fun a o q => .tail _ (.tail _ (.tail _ (.tail _ (List.mem_append_right _ q))))
  have upt : ∀ {a o}, (a, o) ∈ tl1 → InL ((ol, listO [.int 0 y0, .int 1 y1, .int 2 y2, .int 3 y3, .int 4 y4, .int 5 y5] 0) :: (x, instObj 38 d) :: (d, dictOf [⟨hs, .str (Str.ofString "comp_select_list") kt, .ref D1⟩] 1) :: (D1, listO [.ref A0, .ref A1, .ref A2] n1) :: (tl1 ++ rest)) a o :=
    fun q => .tail _ (.tail _ (.tail _ (.tail _ (List.mem_append_left _ q))))
  have n4 : ∀ {o : Obj}, o.data ≠ .cell (some fv) → o.data ≠ o4.data := fun h => d4 ▸ h
  have n3 : ∀ {o : Obj}, o.data ≠ .cell none → o.data ≠ o3.data := fun h => d3 ▸ h
  have n2 : ∀ {o : Obj}, o.data ≠ .cell none → o.data ≠ o2.data := fun h => d2 ▸ h
  have n1 : ∀ {o : Obj}, o.data ≠ .cell (some (.int T t1)) → o.data ≠ o1.data := fun h => d1 ▸ h
  have k0 := KeyR.mk (P := InL _) (upt a0)
  have k1 := KeyR.mk (P := InL _) (upt a1)
  have k2 := KeyR.mk (P := InL _) (upt a2)
  refine ⟨m', o1, o4, _, t1, fv, tv, dv, sv, .ref D1, .ref x, .ref ol, F, N2, d1, d4, hm, hfn.mono up, htx.mono up, htd.mono up, hsl.mono up, .mk (vs := [.ref A0, .ref A1, .ref A2]) (.tail _ (.tail _ (.tail _ (.head _)))) (.cons k0 (.cons k1 (.cons k2 .nil))),
    .mk (.tail _ (.head _)) (.tail _ (.tail _ (.head _))) (.tail _ (.tail _ (.tail _ (.head _)))) k0 k1 k2, .mk (.head _) (.cons _ _ (.cons _ _ (.cons _ _ (.cons _ _ (.cons _ _ (.cons _ _ .nil)))))), mem_step (off_mem N2 (.head _) (n4 (fun h => nomatch h)) (n3 (fun h => nomatch h)) (n2 (fun h => nomatch h)) (n1 (fun h => nomatch h)) (fun h => nomatch h))
      (mem_step (off_mem N2 (.tail _ (.head _)) (n4 (fun h => nomatch h)) (n3 (fun h => nomatch h)) (n2 (fun h => nomatch h)) (n1 (fun h => nomatch h)) (fun h => nomatch h))
      (mem_step (off_mem N2 (.tail _ (.tail _ (.head _))) (n4 (fun h => nomatch h)) (n3 (fun h => nomatch h)) (n2 (fun h => nomatch h)) (n1 (fun h => nomatch h)) (fun h => nomatch h))
      (mem_step off1 (mem_app offt hab))))⟩
set_option maxRecDepth 100000 in
set_option maxHeartbeats 0 in
theorem lawD {h : Heap} {tk : Nat} (hphi : PhiC (Classical.choose law_b).g (Classical.choose law_b).L (Classical.choose law_b).l (Classical.choose law_b).T (Classical.choose law_b).o2 (Classical.choose law_b).o3 h)
    (B' : Below callerA (Classical.choose law_b).g [] (Classical.choose law_b).g) (X' : (hd.heap_39 (Classical.choose law_b).w.params).In (Classical.choose law_b).g) (T' : Top topProg loG (Classical.choose law_b).mean (Classical.choose law_b).mg (Classical.choose law_b).mb (Classical.choose law_b).g) (h112 : @LT.lt Nat _ 112 (Classical.choose law_b).L) (d2 : (Classical.choose law_b).o2.data = .cell none) (d3 : (Classical.choose law_b).o3.data = .cell none) :
    wpAny (model PySem.Challenge.pw_pg0060_01 (Classical.choose law_b).w) (callerA.deeper (lawEnv (Classical.choose law_b).L (Classical.choose law_b).fa)) (execs ((lawBody.drop 10).take 3) (lawEnv (Classical.choose law_b).L (Classical.choose law_b).fa)) (Part (PhiD (Classical.choose law_b).g (Classical.choose law_b).L (Classical.choose law_b).l (Classical.choose law_b).T (Classical.choose law_b).o2 (Classical.choose law_b).o3) (Classical.choose law_b).s) noE { (Classical.choose law_b).s with heap := h, toks := tk } := by
  obtain ⟨m0, o1, o4, rest, t1, fv, tv, dv, sv, F0, N', d1, d4, e1, e2, e3, e4, hfn, htx, htd, hsl, hab⟩ := hphi
  have F' := fr_named F0 [(Str.ofString "script", .ref (Classical.choose law_b).l), (Str.ofString "texts", tv), (Str.ofString "told", dv), (Str.ofString "seals", sv)] (by repeat (first | exact .nil | refine .cons (by assumption) ?_))
  clear F0 e1 e2 e3 e4
  dsimp only [lawBody, lawRec, recOf, List.take, List.drop, lawEnv, chain, List.foldr] at *
  (try k_fold)
  k_steps
  refine Stop.mk ?_
  refine rcomp_assign (cl := [(Str.ofString "total", (Classical.choose law_b).L + 1)]) (a := 0) (b := 3) (c := 1) (n := 3) (fun _ _ => False) (fun K i y => ∃ A' t u, y = .ref A' ∧ K A' (tupO [.int (colOf (Classical.choose law_b).T i) t, .int (dirOf (Classical.choose law_b).T i) u])) ?c1 ?c2 ?c3 ?c4 ?c5 ?c6 ?c7 ?c8 ?c9 ?c10 ?c11 ?c12 ?c13 ?c14 F'.ns ?c15 ?c16 ?c17
  case c1 => exact rfl
  case c2 => decide
  case c3 => decide
  case c4 => decide
  case c5 => rintro P Q i y hpq ⟨A', t, u, e1, e2⟩; exact ⟨A', t, u, e1, hpq _ _ e2⟩
  case c6 => exact rfl
  case c7 => exact rfl
  case c8 => decide
  case c9 => exact rfl
  case c10 => decide
  case c11 => exact rfl
  case c12 => exact fun _ => rfl
  case c13 => exact rfl
  case c14 => exact rfl
  case c15 =>
    intro Q9 h9
    k_steps
    exact h9 _ _ _ _ _ _ (by assumption) (by assumption)
  case c16 =>
    rintro s₁ hst ⟨h', tk', rfl⟩ C i ti h₃ tk₃ m₃ own hi F₃ N₃ hm₃
    have HT : h₃.IsCell ((Classical.choose law_b).L + 1) (some (.int (Classical.choose law_b).T t1)) := ⟨o1, F₃.keep _ _ (hst _ _ (N' _ (.tail _ (.tail _ (.tail _ (.head _))))).1), d1⟩
    clear F' N'
    have hi3 : i = 0 ∨ i = 1 ∨ i = 2 := by omega
    rcases hi3 with rfl | rfl | rfl
    · have hm4 : m₃ (Str.ofString "column") = some (.int 0 ti) := hm₃
      rw [know_map1 hm4] at F₃
      clear hm₃
      k_steps
      rename_i D2 h2 F2 N2 l2
      refine EltEnd.of [(D2, _)] (by rw [know_map1 hm4]; exact F2) N2 (fun q hq p hp => by rw [List.mem_singleton.mp hq]; exact Nat.ne_of_lt (l2 p hp)) ⟨D2, _, _, rfl, .inr (.head _)⟩
    · have hm4 : m₃ (Str.ofString "column") = some (.int 1 ti) := hm₃
      rw [know_map1 hm4] at F₃
      clear hm₃
      k_steps
      rename_i D2 h2 F2 N2 l2
      refine EltEnd.of [(D2, _)] (by rw [know_map1 hm4]; exact F2) N2 (fun q hq p hp => by rw [List.mem_singleton.mp hq]; exact Nat.ne_of_lt (l2 p hp)) ⟨D2, _, _, rfl, .inr (.head _)⟩
    · have hm4 : m₃ (Str.ofString "column") = some (.int 2 ti) := hm₃
      rw [know_map1 hm4] at F₃
      clear hm₃
      k_steps
      rename_i D2 h2 F2 N2 l2
      refine EltEnd.of [(D2, _)] (by rw [know_map1 hm4]; exact F2) N2 (fun q hq p hp => by rw [List.mem_singleton.mp hq]; exact Nat.ne_of_lt (l2 p hp)) ⟨D2, _, _, rfl, .inr (.head _)⟩
  case c17 =>
    intro D1 h1 tk1 ys1 n1 tl1 hD1 hD1' hk1 hn1 htl1 hp1
    obtain ⟨A0, A1, A2, w0, w1, w2, x0, x1, x2, rfl, m0', m1', m2'⟩ : ∃ A0 A1 A2 w0 w1 w2 x0 x1 x2, ys1 = [.ref A0, .ref A1, .ref A2] ∧ (A0, tupO [.int (colOf (Classical.choose law_b).T 0) w0, .int (dirOf (Classical.choose law_b).T 0) x0]) ∈ tl1 ∧ (A1, tupO [.int (colOf (Classical.choose law_b).T 1) w1, .int (dirOf (Classical.choose law_b).T 1) x1]) ∈ tl1 ∧ (A2, tupO [.int (colOf (Classical.choose law_b).T 2) w2, .int (dirOf (Classical.choose law_b).T 2) x2]) ∈ tl1 := by
      cases hp1 with
      | cons a0 b0 => cases b0 with
        | cons a1 b1 => cases b1 with
          | cons a2 b2 =>
            cases b2
            obtain ⟨A0, w0, x0, rfl, z0⟩ := a0
            obtain ⟨A1, w1, x1, rfl, z1⟩ := a1
            obtain ⟨A2, w2, x2, rfl, z2⟩ := a2
            exact ⟨A0, A1, A2, w0, w1, w2, x0, x1, x2, rfl, z0.resolve_left id, z1.resolve_left id, z2.resolve_left id⟩
    have off1 := off_new N' hD1
    have offt : Off (Classical.choose law_b).L tl1 := fun p hp => off_new N' (htl1 p hp).2.1
    obtain ⟨F1, N1⟩ := comp_next F' N' hD1 hD1' hk1 hn1
    have N2 : News (Classical.choose law_b).g (Classical.choose law_b).L h1 (((Classical.choose law_b).L + 1 + 1 + 1 + 1, o4) :: ((Classical.choose law_b).L + 1 + 1 + 1, (Classical.choose law_b).o3) :: ((Classical.choose law_b).L + 1 + 1, (Classical.choose law_b).o2) :: ((Classical.choose law_b).L + 1, o1) :: (112, tabObj #[]) :: (D1, listO [.ref A0, .ref A1, .ref A2] n1) :: (tl1 ++ rest)) := by
      have new : ∀ p ∈ tl1, h1.get? p.1 = some p.2 ∧ p.1 ≠ (Classical.choose law_b).L ∧ (Classical.choose law_b).g.get? p.1 = none := fun p hp => by
        obtain ⟨a, b, _⟩ := htl1 p hp
        obtain ⟨oL, _, _, hoL, _⟩ := F'.ns
        refine ⟨a, fun e => ?_, ?_⟩
        · rw [e, hoL] at b; cases b
        · cases q : (Classical.choose law_b).g.get? p.1 with
          | none => rfl
          | some o => rw [F'.keep _ _ q] at b; cases b
      iterate 6 refine mem_step (N1 _ (by walk_at "MINE mem")) ?_
      exact mem_app new fun p hp => N1 p (.tail _ (.tail _ (.tail _ (.tail _ (.tail _ (.tail _ hp))))))
    clear F' N' N1 hk1 hn1 htl1 hp1 hD1'
    generalize hR : tl1 ++ rest = R1 at N2
    k_steps
    subst hR
    exact Part.of (PhiD.of (by k_asm) (by first | k_asm | assumption) d1 d2 d3 d4 ⟨rfl, rfl, rfl, rfl, rfl, rfl, rfl⟩ hfn htx htd hsl m0' m1' m2' off1 offt hab)
end
section -- LOrd
theorem col_cases (T : Int) (i : Nat) : colOf T i = (0 : Nat) ∨ colOf T i = (1 : Nat) ∨ colOf T i = (2 : Nat) := by
  unfold colOf
  have h1 := Int.fmod_nonneg_of_pos ((i : Int) + T) (b := 3) (by decide)
  have h2 := Int.fmod_lt_of_pos ((i : Int) + T) (b := 3) (by decide)
  omega
theorem dir_cases (T : Int) (i : Nat) : dirOf T i = 1 ∨ dirOf T i = -1 := by
  unfold dirOf
  have h1 := Int.fmod_nonneg_of_pos ((T.fdiv 3).fdiv (keyDiv i)) (b := 2) (by decide)
  have h2 := Int.fmod_lt_of_pos ((T.fdiv 3).fdiv (keyDiv i)) (b := 2) (by decide)
  omega
def LtK (T : Int) (ks : List (Int × Int)) (a b : Nat) : Prop := cmpF ks (fnAt (fnsOf T) a) (fnAt (fnsOf T) b) < 0 ∨ (cmpF ks (fnAt (fnsOf T) a) (fnAt (fnsOf T) b) = 0 ∧ a < b)
def OrdAt (T : Int) (i : Nat) (ord : List Nat) : Prop := ord.Perm [0, 1, 2, 3, 4, 5] ∧ ord.Pairwise (LtK T ((keysOf T).drop (3 - i)))
theorem ord_start (T : Int) : OrdAt T 0 [0, 1, 2, 3, 4, 5] := by
  refine ⟨List.Perm.refl _, ?_⟩
  have h : [0, 1, 2, 3, 4, 5].Pairwise (fun a b : Nat => a < b) := by decide
  exact h.imp fun h => .inr ⟨rfl, h⟩
theorem drop_key (T : Int) {i : Nat} (hi : i < 3) : (keysOf T).drop (3 - (i + 1)) = (colOf T (2 - i), dirOf T (2 - i)) :: (keysOf T).drop (3 - i) := by
  match i, hi with
  | 0, _ => rfl
  | 1, _ => rfl
  | 2, _ => rfl
theorem getD_map {ord : List Nat} {p : Nat} (h : p < ord.length) : ord[p]? = some (ord.getD p 0) := by
  rw [List.getElem?_eq_getElem h, List.getD_eq_getElem?_getD, List.getElem?_eq_getElem h]; rfl
theorem map_range (ord : List Nat) : (List.range ord.length).map (fun p => ord.getD p 0) = ord := by
  refine List.ext_getElem? fun i => ?_
  rw [List.getElem?_map]
  by_cases h : i < ord.length
  · rw [List.getElem?_range h, Option.map_some, getD_map h]
  · rw [List.getElem?_eq_none (by simpa using h), List.getElem?_eq_none (by omega)]; rfl
theorem ord_step {T : Int} {i : Nat} {ord σ : List Nat} {κ : PyProof.Rows.KeyKind} {keyF : Fn → κ.α} (ho : OrdAt T i ord) (hi : i < 3)
    (hlt : ∀ f g : Fn, ltCol (colOf T (2 - i)) f g = κ.blt (keyF f) (keyF g)) (hs : Sorted1 κ (fun p => keyF (fnAt (fnsOf T) (ord.getD p 0))) (decide (dirOf T (2 - i) < 0)) 6 σ) :
    OrdAt T (i + 1) (σ.map fun p => ord.getD p 0) := by
  obtain ⟨hp, hw⟩ := ho
  have hl : ord.length = 6 := hp.length_eq
  obtain ⟨sp, sw⟩ := hs
  refine ⟨?_, ?_⟩
  · refine List.Perm.trans ?_ hp
    have := sp.map (fun p => ord.getD p 0)
    rw [← hl, map_range] at this
    exact this
  · rw [drop_key T hi, List.pairwise_map]
    refine sw.imp_of_mem fun {p q} hpm hqm h => ?_
    have p6 : p < 6 := List.mem_range.mp (sp.mem_iff.mp hpm)
    have q6 : q < 6 := List.mem_range.mp (sp.mem_iff.mp hqm)
    unfold LtK
    rw [cmpF_cons, hlt, hlt]
    generalize ho9 : (keysOf T).drop (3 - i) = ks at hw
    have irr : ∀ a, κ.blt a a = false := κ.irrefl
    have eqcase : keyF (fnAt (fnsOf T) (ord.getD p 0)) = keyF (fnAt (fnsOf T) (ord.getD q 0)) → p < q →
        ((if κ.blt (keyF (fnAt (fnsOf T) (ord.getD p 0))) (keyF (fnAt (fnsOf T) (ord.getD q 0))) = true then -dirOf T (2 - i) else if κ.blt (keyF (fnAt (fnsOf T) (ord.getD q 0))) (keyF (fnAt (fnsOf T) (ord.getD p 0))) = true then dirOf T (2 - i) else cmpF ks (fnAt (fnsOf T) (ord.getD p 0)) (fnAt (fnsOf T) (ord.getD q 0))) < 0 ∨
        (if κ.blt (keyF (fnAt (fnsOf T) (ord.getD p 0))) (keyF (fnAt (fnsOf T) (ord.getD q 0))) = true then -dirOf T (2 - i) else if κ.blt (keyF (fnAt (fnsOf T) (ord.getD q 0))) (keyF (fnAt (fnsOf T) (ord.getD p 0))) = true then dirOf T (2 - i) else cmpF ks (fnAt (fnsOf T) (ord.getD p 0)) (fnAt (fnsOf T) (ord.getD q 0))) = 0 ∧ ord.getD p 0 < ord.getD q 0) := by
      intro e hpq
      rw [e, irr]
      simp only [Bool.false_eq_true, if_false]
      have hp9 : p < ord.length := by omega
      have hq9 : q < ord.length := by omega
      have := List.pairwise_iff_getElem.mp hw p q hp9 hq9 hpq
      have g1 : ord[p] = ord.getD p 0 := by rw [List.getD_eq_getElem?_getD, List.getElem?_eq_getElem hp9]; rfl
      have g2 : ord[q] = ord.getD q 0 := by rw [List.getD_eq_getElem?_getD, List.getElem?_eq_getElem hq9]; rfl
      rw [g1, g2] at this
      exact this
    rcases dir_cases T (2 - i) with hd | hd
    · rw [hd] at h eqcase ⊢
      simp only [show decide ((1 : Int) < 0) = false by decide, Bool.false_eq_true, if_false] at h
      rcases h with h | ⟨h, hpq⟩
      · left
        rw [if_pos (show κ.blt _ _ = true from h)]; decide
      · exact eqcase h hpq
    · rw [hd] at h eqcase ⊢
      simp only [show decide ((-1 : Int) < 0) = true by decide, if_true] at h
      rcases h with h | ⟨h, hpq⟩
      · left
        have h' : κ.blt (keyF (fnAt (fnsOf T) (ord.getD q 0))) (keyF (fnAt (fnsOf T) (ord.getD p 0))) = true := h
        have h'' : ¬ κ.blt (keyF (fnAt (fnsOf T) (ord.getD p 0))) (keyF (fnAt (fnsOf T) (ord.getD q 0))) = true := by
          have := KeyOrd.kle_of_klt (O := κ.toKeyOrd) h
          intro q9
          rw [show κ.blt _ _ = false from this] at q9; cases q9
        rw [if_neg h'', if_pos h']; decide
      · exact eqcase h hpq
theorem ints_at {ovs : List Value} {ns : List Int} (h : IntsAre ovs ns) {i : Nat} {n : Int} (hn : ns[i]? = some n) : ∃ t, ovs[i]? = some (.int n t) := by
  obtain ⟨t, ht⟩ := h.get i n hn
  exact ⟨t, ht⟩
theorem ints_perm {ovs : List Value} {ord : List Nat} (h : IntsAre ovs (ord.map fun (k : Nat) => (k : Int))) : ∀ (σ : List Nat), (∀ p ∈ σ, p < ord.length) → IntsAre (σ.map fun i => ovs.getD i .none) ((σ.map fun p => ord.getD p 0).map fun (k : Nat) => (k : Int))
  | [], _ => .nil
  | p :: σ, hs => by
    have hp := hs p (.head _)
    obtain ⟨t, ht⟩ := ints_at h (i := p) (n := ((ord.getD p 0 : Nat) : Int)) (by rw [List.getElem?_map, getD_map hp]; rfl)
    have e : ovs.getD p .none = .int ((ord.getD p 0 : Nat) : Int) t := by rw [List.getD_eq_getElem?_getD, ht]; rfl
    rw [List.map_cons, e]
    exact .cons _ _ (ints_perm h σ fun q hq => hs q (.tail _ hq))
def placeIn (ord : List Nat) (v : Value) : Nat := match v with
  | .int n _ => ord.idxOf n.toNat
  | _ => 0
theorem place_ok {ovs : List Value} {ord : List Nat} (h : IntsAre ovs (ord.map fun (k : Nat) => (k : Int))) (hn : ord.Nodup) : ∀ (i : Nat) (v : Value), ovs[i]? = some v → placeIn ord v = i := by
  intro i v hv
  have hi : i < ord.length := by
    have := (List.getElem?_eq_some_iff.mp hv).1
    rw [h.length, List.length_map] at this; exact this
  obtain ⟨t, ht⟩ := ints_at h (i := i) (n := ((ord.getD i 0 : Nat) : Int)) (by rw [List.getElem?_map, getD_map hi]; rfl)
  rw [ht] at hv
  cases hv
  show ord.idxOf ((ord.getD i 0 : Nat) : Int).toNat = i
  rw [Int.toNat_natCast, List.getD_eq_getElem?_getD, List.getElem?_eq_getElem hi]
  exact List.Nodup.idxOf_getElem hn i hi
end
section -- LLawE
local macro_rules | `(tactic| walk_at "exec For Tuple Subscript cons nil") => `(tactic| walk_at "MINE stop")
local macro_rules | `(tactic| walk_at "subscriptTail Name Slice ref ref") => `(tactic| walk_at "MINE stop")
local macro_rules | `(tactic| walk_at "subscriptTail Name Name ref int") => `(tactic| walk_at "MINE stop")
local macro_rules | `(tactic| walk_at "subscriptTail Subscript Name ref int") => `(tactic| walk_at "MINE stop")
local macro_rules | `(tactic| walk_at "call builtin:sorted") => `(tactic| walk_at "MINE stop")
theorem off_col {L : Addr} {rest : List (Addr × Obj)} (h : Off L rest) : ∀ p ∈ rest, p.1 ≠ L + 1 + 1 := fun p hp => (h p hp).2.2.1
theorem off_tab {L : Addr} {rest : List (Addr × Obj)} (h : Off L rest) : ∀ p ∈ rest, p.1 ≠ (112 : Addr) := fun p hp => (h p hp).2.2.2.2
local macro_rules | `(tactic| k_all) => `(tactic| first | exact off_col (by assumption) | exact off_tab (by assumption) | (refine List.forall_mem_cons.mpr ⟨?_, ?_⟩; (focus k_ne); k_all))
section
variable {prog : Program} {w : World} {A : Around} {E : Value → Shared → Prop} {s : Shared} {h₀ : Heap} {L : Addr} {news : List (Addr × Obj)} {value slice : Expr} {Q : Value → Shared → Prop}
theorem item_led {l : Addr} {vs : List Value} {n k : Nat} {u : Tok} {v : Value} (N : News h₀ L s.heap news) (hm : (l, listO vs n) ∈ news) (hx : vs[k]? = some v) (hk : k < 1000) (h : Q v s)
    (hs : subscripted slice false (.ref l) (.int (k : Int) u) = operate [.ref l, .int (k : Int) u] (getItem (.ref l) (.int (k : Int) u))) : wpAny (model prog w) A (subscriptTail value slice (.ref l) (.int (k : Int) u)) Q E s :=
  item_base ⟨_, (N _ hm).1, rfl, _, rfl⟩ hx hk h hs
theorem tup3_led {l : Addr} {x0 x1 x2 v : Value} {c : Nat} {k : Int} {u : Tok} (N : News h₀ L s.heap news) (hm : (l, tupO [x0, x1, x2]) ∈ news) (hk : k = (c : Int)) (hc : c < 3) (hx : (#[x0, x1, x2] : Array Value)[c]? = some v) (h : Q v s)
    (hs : subscripted slice false (.ref l) (.int k u) = operate [.ref l, .int k u] (getItem (.ref l) (.int k u))) : wpAny (model prog w) A (subscriptTail value slice (.ref l) (.int k u)) Q E s := by
  subst hk
  refine item_tupleT (l := [x0, x1, x2]) (j := c) ⟨_, (N _ hm).1, rfl, _, rfl⟩ (by omega) (by omega) ?_ (by simpa using hx) h hs
  match c, hc with
  | 0, _ => rfl
  | 1, _ => rfl
  | 2, _ => rfl
end
def TabSt (L fa : Addr) (r : List (Addr × Obj)) (ps : Array Value) : Prop :=
  ps = #[] ∨ ∃ c' oc' vs t, ps = #[] ++ #[rawInt ((133 : Nat) : Int), rawInt ((34 : Nat) : Int), .ref c'] ∧ (c', oc') ∈ r ∧ oc'.data = .fields vs ∧ vs[1]? = some (.str ((lawEnv L fa).qual ++ Str.ofString "<lambda>") t)
theorem TabSt.mono {L fa : Addr} {r r' : List (Addr × Obj)} {ps : Array Value} (h : TabSt L fa r ps) (hs : ∀ a o, InL r a o → InL r' a o) : TabSt L fa r' ps := by
  rcases h with h | ⟨c', oc', vs, t, h1, h2, h3, h4⟩
  · exact .inl h
  · exact .inr ⟨c', oc', vs, t, h1, hs _ _ h2, h3, h4⟩
structure NamesE (m : Str → Option Value) (l : Addr) (tv dv sv cv : Value) : Prop where
  n1 : m (Str.ofString "script") = some (.ref l)
  n2 : m (Str.ofString "texts") = some tv
  n3 : m (Str.ofString "told") = some dv
  n4 : m (Str.ofString "seals") = some sv
  n5 : m (Str.ofString "comp") = some cv
inductive JE (T : Int) (L fa l : Addr) (o1 o3 o4 : Obj) (tv dv sv cv : Value) (rest : List (Addr × Obj)) (i : Nat) (m₁ : Str → Option Value) (news₁ : List (Addr × Obj)) : Prop
  | mk (oc : Obj) (ps : Array Value) (r : List (Addr × Obj)) (ov : Value) (ord : List Nat)
    (k0 : news₁ = (L + 1 + 1 + 1 + 1, o4) :: (L + 1 + 1 + 1, o3) :: (L + 1 + 1, oc) :: (L + 1, o1) :: (112, tabObj ps) :: r)
    (k1 : (∃ c0, oc.data = .cell c0))
    (k2 : TabSt L fa r ps)
    (k3 : NamesE m₁ l tv dv sv cv)
    (k4 : m₁ (Str.ofString "order") = some ov)
    (k5 : (∀ a o, InL rest a o → InL r a o))
    (k6 : IntsR (InL r) ov (ord.map fun (k : Nat) => (k : Int)))
    (k7 : Off L r)
    (k8 : OrdAt T i ord) : JE T L fa l o1 o3 o4 tv dv sv cv rest i m₁ news₁
inductive PhiE (g : Heap) (L l : Addr) (T : Int) (o3 : Obj) (h' : Heap) : Prop
  | mk (m' : Str → Option Value) (oc : Obj) (o1 : Obj) (o4 : Obj) (ps : Array Value) (rest : List (Addr × Obj)) (t1 : Tok) (fv : Value) (tv : Value) (dv : Value) (sv : Value) (cv : Value) (ov : Value) (ord : List Nat)
    (k0 : Fr g L h' m')
    (k1 : News g L h' ((L + 1 + 1 + 1 + 1, o4) :: (L + 1 + 1 + 1, o3) :: (L + 1 + 1, oc) :: (L + 1, o1) :: (112, tabObj ps) :: rest))
    (k2 : o1.data = .cell (some (.int T t1)))
    (k3 : o4.data = .cell (some fv))
    (k4 : NamesE m' l tv dv sv cv)
    (k5 : m' (Str.ofString "order") = some ov)
    (k6 : FunsE (InL rest) fv (fnsOf T))
    (k7 : StrsR (InL rest) tv (textsOf T))
    (k8 : IntsR (InL rest) dv (sealsOf T))
    (k9 : IntsR (InL rest) sv (sealsOf T))
    (k10 : CompR (InL rest) cv (keysOf T))
    (k11 : IntsR (InL rest) ov (ord.map fun (k : Nat) => (k : Int)))
    (k12 : Off L rest)
    (k13 : OrdAt T 3 ord) : PhiE g L l T o3 h'
theorem allLt_get {d : Nat} {l : List (Addr × Obj)} (h : AllLt d l) {p : Addr × Obj} (hp : p ∈ l) : @LT.lt Nat _ p.1 d := by
  induction l with
  | nil => cases hp
  | cons q r ih =>
    rcases List.mem_cons.mp hp with rfl | hp
    · exact h.1
    · exact ih h.2 hp
theorem off_own {h : Heap} {D : Addr} {own : List (Addr × Obj)} {b : Addr} {o : Obj} (hown : ∀ p ∈ own, p.1 = h.objs.size ∨ p.1 = D) (hb : h.get? b = some o) (hD : b ≠ D) : ∀ p ∈ own, p.1 ≠ b := fun p hp e => by
  rcases hown p hp with q | q
  · exact absurd (Heap.lt_size hb) (by rw [← e, q]; exact Nat.lt_irrefl _)
  · exact hD (e.symm.trans q)
theorem getD_some {α : Type} (l : List α) (d : α) {k : Nat} (h : k < l.length) : l[k]? = some (l.getD k d) := by
  rw [List.getElem?_eq_getElem h, List.getD_eq_getElem?_getD, List.getElem?_eq_getElem h]; rfl
theorem sort_kind (T : Int) (i : Nat) : ∃ κ : PyProof.Rows.KeyKind, ∃ (_ : KeyOk κ) (keyF : Fn → κ.α) (c : Nat), colOf T i = (c : Int) ∧ c < 3 ∧ (∀ f g : Fn, ltCol (colOf T i) f g = κ.blt (keyF f) (keyF g)) ∧
    (∀ (f : Fn) (t1 t2 t3 : Tok), ∃ v, (#[Value.str f.file t1, Value.int f.line t2, Value.str f.name t3] : Array Value)[c]? = some v ∧ κ.keyOf v = some (keyF f)) := by
  rcases col_cases T i with h | h | h
  · exact ⟨PyProof.Rows.strKind, strKey_ok, fun f => f.file.cps.toList, 0, h, by decide, fun f g => by rw [h]; rfl, fun f t1 t2 t3 => ⟨_, rfl, rfl⟩⟩
  · exact ⟨intKeyKind, intKey_ok, fun f => f.line, 1, h, by decide, fun f g => by rw [h]; rfl, fun f t1 t2 t3 => ⟨_, rfl, rfl⟩⟩
  · exact ⟨PyProof.Rows.strKind, strKey_ok, fun f => f.name.cps.toList, 2, h, by decide, fun f g => by rw [h]; rfl, fun f t1 t2 t3 => ⟨_, rfl, rfl⟩⟩
inductive LamStop : Prop
  | intro : LamStop
inductive LamSt (g : Heap) (L ka : Addr) (m : Str → Option Value) (o4 o3 o5 o1 kt : Obj) (r9 : List (Addr × Obj)) (I : Addr) (qual : Str) (FO : Addr → Value → Obj) (s : Shared) (v : Value) (s' : Shared) : Prop
  | mk (f9 c9 : Addr) (oc9 : Obj) (vs9 : Array Value) (t9 : Tok) (ct9 : Value) (h8 : Heap) (tk8 : Nat) (e : v = .ref f9) (es : s' = { s with heap := h8, toks := tk8 }) (F8 : Fr g L h8 m)
      (N8 : News g L h8 ((f9, FO c9 ct9) :: (L + 1 + 1 + 1 + 1, o4) :: (L + 1 + 1 + 1, o3) :: (L + 1 + 1, o5) :: (L + 1, o1) :: (112, tabObj (#[] ++ #[rawInt ((133 : Nat) : Int), rawInt ((34 : Nat) : Int), .ref c9])) :: (ka, kt) :: (c9, oc9) :: r9))
      (dd1 : oc9.data = .fields vs9) (dd2 : vs9[1]? = some (.str qual t9)) (offc : c9 ≠ L + 1 + 1 + 1 + 1 ∧ c9 ≠ L + 1 + 1 + 1 ∧ c9 ≠ L + 1 + 1 ∧ c9 ≠ L + 1 ∧ c9 ≠ (112 : Addr)) (offf : f9 ≠ L + 1 + 1 + 1 + 1 ∧ f9 ≠ L + 1 + 1 + 1 ∧ f9 ≠ L + 1 + 1 ∧ f9 ≠ L + 1 ∧ f9 ≠ (112 : Addr))
      (cI : c9 ≠ I) (fI : f9 ≠ I) : LamSt g L ka m o4 o3 o5 o1 kt r9 I qual FO s v s'
theorem lam_at {prog : Program} {w : World} {A : Around} {env : Env} {params : Arguments} {body : Expr} {scope : Scope} {pos : Pos} {Q : Value → Shared → Prop} {E : Value → Shared → Prop} {s0 : Shared} {g h : Heap} {L ka : Addr} {m : Str → Option Value} {o4 o3 o5 o1 kt : Obj} {r9 : List (Addr × Obj)} {I : Addr} {qual : Str} {s : Shared} (clos : List (Str × Addr)) (pm : Value) (_ : Fr g L h m)
    (hl : wpAny (model prog w) A (eval (.Lambda params body scope pos) env) (LamSt g L ka m o4 o3 o5 o1 kt r9 I qual (fun c' ctv => kla_obj (Str.ofString "<lambda>") qual params body scope clos pm c' ctv) s) E s0)
    (hr : ∀ v s', LamSt g L ka m o4 o3 o5 o1 kt r9 I qual (fun c' ctv => kla_obj (Str.ofString "<lambda>") qual params body scope clos pm c' ctv) s v s' → Q v s') : wpAny (model prog w) A (eval (.Lambda params body scope pos) env) Q E s0 := wpAny_mono hl hr fun _ _ e => e
local macro_rules | `(tactic| walk_at "eval Lambda") => `(tactic| (k_here; (fail_if_success (have := (by assumption : LamStop))); refine stop_wp ?_))
set_option maxRecDepth 100000 in
set_option maxHeartbeats 0 in
theorem lawE {h : Heap} {tk : Nat} (hphi : PhiD (Classical.choose law_b).g (Classical.choose law_b).L (Classical.choose law_b).l (Classical.choose law_b).T (Classical.choose law_b).o2 (Classical.choose law_b).o3 h)
    (B' : Below callerA (Classical.choose law_b).g [] (Classical.choose law_b).g) (X' : (hd.heap_39 (Classical.choose law_b).w.params).In (Classical.choose law_b).g) (T' : Top topProg loG (Classical.choose law_b).mean (Classical.choose law_b).mg (Classical.choose law_b).mb (Classical.choose law_b).g) (h112 : @LT.lt Nat _ 112 (Classical.choose law_b).L) (codeHd : CodeHd (Classical.choose law_b).g 114 112) (d2 : (Classical.choose law_b).o2.data = .cell none) (d3 : (Classical.choose law_b).o3.data = .cell none) :
    wpAny (model PySem.Challenge.pw_pg0060_01 (Classical.choose law_b).w) (callerA.deeper (lawEnv (Classical.choose law_b).L (Classical.choose law_b).fa)) (execs ((lawBody.drop 13).take 1) (lawEnv (Classical.choose law_b).L (Classical.choose law_b).fa)) (Part (PhiE (Classical.choose law_b).g (Classical.choose law_b).L (Classical.choose law_b).l (Classical.choose law_b).T (Classical.choose law_b).o3) (Classical.choose law_b).s) noE { (Classical.choose law_b).s with heap := h, toks := tk } := by
  obtain ⟨m0, o1, o4, rest, t1, fv, tv, dv, sv, kv, cv, ov, F0, N', d1, d4, ⟨e1, e2, e3, e4, e5, e6, e7⟩, hfn, htx, htd, hsl, hkv, hcv, hov, hab⟩ := hphi
  have F' := fr_named F0 [(Str.ofString "script", .ref (Classical.choose law_b).l), (Str.ofString "texts", tv), (Str.ofString "told", dv), (Str.ofString "seals", sv), (Str.ofString "keys", kv), (Str.ofString "comp", cv), (Str.ofString "order", ov)] (by repeat (first | exact .nil | refine .cons (by assumption) ?_))
  clear F0 e1 e2 e3 e4 e5 e6 e7
  cases id hkv with
  | @mk kl kvs _ kn q1 q2 =>
  cases q2 with
  | @cons v0 _ kvs0 _ k0 q2 =>
  cases q2 with
  | @cons v1 _ kvs1 _ k1 q2 =>
  cases q2 with
  | @cons v2 _ kvs2 _ k2 q2 =>
  cases q2
  cases k0 with
  | @mk ka0 _ _ u0 z0 r0 =>
  cases k1 with
  | @mk ka1 _ _ u1 z1 r1 =>
  cases k2 with
  | @mk ka2 _ _ u2 z2 r2 =>
  have HK : h.IsList kl #[.ref ka0, .ref ka1, .ref ka2] := ⟨_, (N' _ (.tail _ (.tail _ (.tail _ (.tail _ (.tail _ q1)))))).1, rfl, _, rfl⟩
  dsimp only [lawBody, lawRec, recOf, List.take, List.drop, lawEnv, chain, List.foldr] at *
  (try k_fold)
  k_steps
  refine Stop.mk ?_
  refine For_is ?_ (fun _ => rfl)
  k_steps
  refine Stop.mk ?_
  k_dflt (refine' krv_lit (its := #[.ref ka0, .ref ka1, .ref ka2]) (zs := [.ref ka2, .ref ka1, .ref ka0]) ?F ?N ?l ?k ?e ?_ ?s ?t ?z; (case F => k_asm); (case N => k_asm); (case l => exact HK); (case k => exact IsPart.int _ _); (case e => rfl); (case s => with_unfolding_all rfl); (case t => kmk_pure); (case z => kmk_size))
  intro Dk hk Fk Nk lk
  have oNk := Nk (Dk, listOf #[.ref ka2, .ref ka1, .ref ka0] 0) (.head _)
  have N0 := News.sub (b := ((Classical.choose law_b).L + 1 + 1 + 1 + 1, o4) :: ((Classical.choose law_b).L + 1 + 1 + 1, (Classical.choose law_b).o3) :: ((Classical.choose law_b).L + 1 + 1, (Classical.choose law_b).o2) :: ((Classical.choose law_b).L + 1, o1) :: (112, tabObj #[]) :: rest) Nk fun p hp => .tail _ hp
  have lk9 : ∀ p ∈ (((Classical.choose law_b).L + 1 + 1 + 1 + 1, o4) :: ((Classical.choose law_b).L + 1 + 1 + 1, (Classical.choose law_b).o3) :: ((Classical.choose law_b).L + 1 + 1, (Classical.choose law_b).o2) :: ((Classical.choose law_b).L + 1, o1) :: (112, tabObj #[]) :: rest), p.1 ≠ Dk := fun p hp => Nat.ne_of_lt (lk p hp)
  refine loop_made (l := Dk) (vs := [.ref ka2, .ref ka1, .ref ka0]) rfl ⟨_, oNk.1, rfl, _, rfl⟩ oNk.2.1 Fk N0 (JE (Classical.choose law_b).T (Classical.choose law_b).L (Classical.choose law_b).fa (Classical.choose law_b).l o1 (Classical.choose law_b).o3 o4 tv dv sv cv rest) ?j0 ?jstep ?jR
  case j0 => exact ⟨(Classical.choose law_b).o2, #[], rest, ov, [0, 1, 2, 3, 4, 5], rfl, ⟨_, d2⟩, .inl rfl, ⟨rfl, rfl, rfl, rfl, rfl⟩, rfl, fun _ _ q => q, hov, hab, ord_start (Classical.choose law_b).T⟩
  case jstep =>
    rintro i v m₁ news₁ h9 tk9 own hv ⟨oc, ps, r, ov', ord, rfl, ⟨c0, dc⟩, htab, ⟨e1, e2, e3, e4, e6⟩, e7, hup, hov', hab', hord⟩ hnI hown ⟨oI, hIo⟩ F₁ N₁
    have hi3 : i < 3 := by
      have := (List.getElem?_eq_some_iff.mp hv).1
      simpa using this
    obtain ⟨ka, u9, z9, rfl, hka⟩ : ∃ ka u9 z9, v = .ref ka ∧ InL rest ka (tupO [.int (colOf (Classical.choose law_b).T (2 - i)) u9, .int (dirOf (Classical.choose law_b).T (2 - i)) z9]) := by
      match i, hi3, hv with
      | 0, _, hv => cases hv; exact ⟨_, _, _, rfl, r2⟩
      | 1, _, hv => cases hv; exact ⟨_, _, _, rfl, r1⟩
      | 2, _, hv => cases hv; exact ⟨_, _, _, rfl, r0⟩
    have offo : Off (Classical.choose law_b).L own := fun p hp => ⟨off_own hown (N0 _ (.head _)).1 (lk9 _ (.head _)) p hp, off_own hown (N0 _ (.tail _ (.head _))).1 (lk9 _ (.tail _ (.head _))) p hp, off_own hown (N0 _ (.tail _ (.tail _ (.head _)))).1 (lk9 _ (.tail _ (.tail _ (.head _)))) p hp,
      off_own hown (N0 _ (.tail _ (.tail _ (.tail _ (.head _))))).1 (lk9 _ (.tail _ (.tail _ (.tail _ (.head _))))) p hp, off_own hown (N0 _ (.tail _ (.tail _ (.tail _ (.tail _ (.head _)))))).1 (lk9 _ (.tail _ (.tail _ (.tail _ (.tail _ (.head _)))))) p hp⟩
    have F9 : Fr (Classical.choose law_b).g (Classical.choose law_b).L h9 _ := fr_named F₁ [(Str.ofString "script", .ref (Classical.choose law_b).l), (Str.ofString "texts", tv), (Str.ofString "told", dv), (Str.ofString "seals", sv), (Str.ofString "comp", cv), (Str.ofString "order", ov')] (by repeat (first | exact .nil | refine .cons (by assumption) ?_))
    dsimp only [chain, List.foldr] at F9
    have mK := hup _ _ hka
    have oK := hab' _ mK
    obtain ⟨on1, on2, on3, on4, on5⟩ := oK
    dsimp only at on1 on2 on3 on4 on5
    have HT9 : IsTup h9 ka #[Value.int (colOf (Classical.choose law_b).T (2 - i)) u9, Value.int (dirOf (Classical.choose law_b).T (2 - i)) z9] := ⟨_, (N₁ _ (List.mem_append_right _ (.tail _ (.tail _ (.tail _ (.tail _ (.tail _ mK))))))).1, rfl, _, rfl⟩
    have N9 : News (Classical.choose law_b).g (Classical.choose law_b).L h9 (((Classical.choose law_b).L + 1 + 1 + 1 + 1, o4) :: ((Classical.choose law_b).L + 1 + 1 + 1, (Classical.choose law_b).o3) :: ((Classical.choose law_b).L + 1 + 1, oc) :: ((Classical.choose law_b).L + 1, o1) :: (112, tabObj ps) :: (ka, tupO [Value.int (colOf (Classical.choose law_b).T (2 - i)) u9, Value.int (dirOf (Classical.choose law_b).T (2 - i)) z9]) :: (own ++ r)) := News.sub N₁ (by
      iterate 5 refine mem_step (by walk_at "MINE mem") ?_
      exact mem_step (List.mem_append_right _ (.tail _ (.tail _ (.tail _ (.tail _ (.tail _ mK)))))) (mem_app (fun _ h => List.mem_append_left _ h) fun _ h => List.mem_append_right _ (.tail _ (.tail _ (.tail _ (.tail _ (.tail _ h)))))))
    have off9 : Off (Classical.choose law_b).L (own ++ r) := offo.app hab'
    have in9 : ∀ a o, InL r a o → InL (own ++ r) a o := fun a o q => List.mem_append_right _ q
    have own9 : ∀ p ∈ own, p ∈ own ++ r := fun p hp => List.mem_append_left _ hp
    have r9' : ∀ p ∈ r, p ∈ own ++ r := fun p hp => List.mem_append_right _ hp
    have hov9 := hov'.mono in9
    have hfn9 := hfn.mono fun a o q => in9 _ _ (hup _ _ q)
    have hup9 : ∀ a o, InL rest a o → InL (own ++ r) a o := fun a o q => in9 _ _ (hup _ _ q)
    clear F' N' Fk Nk F₁ N₁ offo e1 e2 e3 e4 e6 e7 hov' in9 N0 lk9 lk HK
    generalize own ++ r = r9 at *
    obtain ⟨κ, K, keyF, c, hc, hc3, hlt, hkey⟩ := sort_kind (Classical.choose law_b).T (2 - i)
    cases hfn9 with
    | @mk fl fvs _ fn q3 q4 =>
    cases hov9 with
    | @mk oa ovs _ on q5 q6 =>
    have hol : ord.length = 6 := hord.1.length_eq
    have hvl : ovs.length = 6 := by rw [q6.length, List.length_map, hol]
    have hnd : ord.Nodup := hord.1.nodup_iff.mpr (by decide)
    k_steps
    refine Stop.mk ?_
    rename_i o5 do5 h55 F55 N55
    refine lam_at [(Str.ofString "functions", (Classical.choose law_b).L + 1 + 1 + 1 + 1), (Str.ofString "column", (Classical.choose law_b).L + 1 + 1)] (((Classical.choose law_b).mg (Str.ofString "__name__")).getD .none) F55 (ka := ka) (o4 := o4) (o3 := (Classical.choose law_b).o3) (o5 := o5) (o1 := o1) (kt := tupO [Value.int (colOf (Classical.choose law_b).T (2 - i)) u9, Value.int (dirOf (Classical.choose law_b).T (2 - i)) z9]) (r9 := r9) (I := hk.objs.size) (qual := (lawEnv (Classical.choose law_b).L (Classical.choose law_b).fa).qual ++ Str.ofString "<lambda>") (s := (Classical.choose law_b).s) ?lam ?rest
    case lam =>
      have lamGo : LamStop := .intro
      rcases htab with rfl | ⟨c9, oc9, vs9, t9, rfl, mC, dd1, dd2⟩
      · k_steps
        rename_i f9 c9 oc9 vs9 t9 ct9 h8 tk8 F8 N8 dd1 dd2 lc1 lc2
        have offc : c9 ≠ (Classical.choose law_b).L + 1 + 1 + 1 + 1 ∧ c9 ≠ (Classical.choose law_b).L + 1 + 1 + 1 ∧ c9 ≠ (Classical.choose law_b).L + 1 + 1 ∧ c9 ≠ (Classical.choose law_b).L + 1 ∧ c9 ≠ (112 : Addr) := ⟨Nat.ne_of_gt (lc1.1), Nat.ne_of_gt (lc1.2.1), Nat.ne_of_gt (lc1.2.2.1), Nat.ne_of_gt (lc1.2.2.2.1), Nat.ne_of_gt (lc1.2.2.2.2.1)⟩
        have offf : f9 ≠ (Classical.choose law_b).L + 1 + 1 + 1 + 1 ∧ f9 ≠ (Classical.choose law_b).L + 1 + 1 + 1 ∧ f9 ≠ (Classical.choose law_b).L + 1 + 1 ∧ f9 ≠ (Classical.choose law_b).L + 1 ∧ f9 ≠ (112 : Addr) := ⟨Nat.ne_of_gt (Nat.lt_trans (lc1.1) lc2), Nat.ne_of_gt (Nat.lt_trans (lc1.2.1) lc2), Nat.ne_of_gt (Nat.lt_trans (lc1.2.2.1) lc2), Nat.ne_of_gt (Nat.lt_trans (lc1.2.2.2.1) lc2), Nat.ne_of_gt (Nat.lt_trans (lc1.2.2.2.2.1) lc2)⟩
        have cI : c9 ≠ hk.objs.size := Nat.ne_of_gt (allLt_get (lc1.2.2.2.2.2.2) (own9 _ hIo))
        have fI : f9 ≠ hk.objs.size := Nat.ne_of_gt (Nat.lt_trans (allLt_get (lc1.2.2.2.2.2.2) (own9 _ hIo)) lc2)
        exact ⟨f9, c9, oc9, vs9, t9, ct9, h8, tk8, rfl, rfl, F8, News.sub N8 (mem_step (.head _) (by walk_at "MINE sub")), dd1, dd2, offc, offf, cI, fI⟩
      · have oC := hab' _ mC
        have offc : c9 ≠ (Classical.choose law_b).L + 1 + 1 + 1 + 1 ∧ c9 ≠ (Classical.choose law_b).L + 1 + 1 + 1 ∧ c9 ≠ (Classical.choose law_b).L + 1 + 1 ∧ c9 ≠ (Classical.choose law_b).L + 1 ∧ c9 ≠ (112 : Addr) := oC
        have oc3 : c9 ≠ (Classical.choose law_b).L + 1 + 1 := oC.2.2.1
        have oc5 : c9 ≠ (112 : Addr) := oC.2.2.2.2
        have N7 : News (Classical.choose law_b).g (Classical.choose law_b).L h55 (((Classical.choose law_b).L + 1 + 1 + 1 + 1, o4) :: ((Classical.choose law_b).L + 1 + 1 + 1, (Classical.choose law_b).o3) :: ((Classical.choose law_b).L + 1 + 1, o5) :: ((Classical.choose law_b).L + 1, o1) :: (112, tabObj (#[] ++ #[rawInt ((133 : Nat) : Int), rawInt ((34 : Nat) : Int), .ref c9])) :: (ka, tupO [Value.int (colOf (Classical.choose law_b).T (2 - i)) u9, Value.int (dirOf (Classical.choose law_b).T (2 - i)) z9]) :: (c9, oc9) :: r9) := News.sub N55 (by
          iterate 6 refine mem_step (by walk_at "MINE mem") ?_
          exact mem_step (.tail _ (.tail _ (.tail _ (.tail _ (.tail _ (.tail _ (r9' _ mC))))))) fun _ h => .tail _ (.tail _ (.tail _ (.tail _ (.tail _ (.tail _ h))))))
        k_steps
        rename_i f9 ct9 h8 tk8 F8 N8 lf
        have offf : f9 ≠ (Classical.choose law_b).L + 1 + 1 + 1 + 1 ∧ f9 ≠ (Classical.choose law_b).L + 1 + 1 + 1 ∧ f9 ≠ (Classical.choose law_b).L + 1 + 1 ∧ f9 ≠ (Classical.choose law_b).L + 1 ∧ f9 ≠ (112 : Addr) := ⟨Nat.ne_of_gt (lf.1), Nat.ne_of_gt (lf.2.1), Nat.ne_of_gt (lf.2.2.1), Nat.ne_of_gt (lf.2.2.2.1), Nat.ne_of_gt (lf.2.2.2.2.1)⟩
        have cI : c9 ≠ hk.objs.size := hnI _ (.tail _ (.tail _ (.tail _ (.tail _ (.tail _ mC)))))
        have fI : f9 ≠ hk.objs.size := Nat.ne_of_gt (allLt_get (lf.2.2.2.2.2.2.2) (own9 _ hIo))
        exact ⟨f9, c9, oc9, vs9, t9, ct9, h8, tk8, rfl, rfl, F8, N8, dd1, dd2, offc, offf, cI, fI⟩
    case rest =>
      rintro v s' ⟨f9, c9, oc9, vs9, t9, ct9, h8, tk8, rfl, rfl, F8, N8, dd1, dd2, offc, offf, cI, fI⟩
      clear F55 N55 htab
      k_steps
      refine Stop.mk ?_
      have HO8 : h8.IsList oa ovs.toArray := ⟨_, (N8 (oa, listO ovs on) (.tail _ (.tail _ (.tail _ (.tail _ (.tail _ (.tail _ (.tail _ (.tail _ q5))))))))).1, rfl, _, rfl⟩
      refine sorted_by (f := .ref f9) (vs := ovs) (b := decide (dirOf (Classical.choose law_b).T (2 - i) < 0)) K (fun p => keyF (fnAt (fnsOf (Classical.choose law_b).T) (ord.getD p 0))) (placeIn ord) F8 N8 HO8 (place_ok q6 hnd) (by omega) (by omega) ?ha1 ?ha2 ?ht ?turn ?hq
      case ha1 => exact ksk_s2 _ _ _
      case ha2 => exact fun x => ksk_l2 _ _ _
      case ht => exact fun x => ksk_t2 _ _ _
      case turn =>
        intro j v hv3 h3 tk3 own3 F3 N3
        have hj6 : j < 6 := by rw [← hvl]; exact (List.getElem?_eq_some_iff.mp hv3).1
        obtain ⟨t8, ht8⟩ := ints_at q6 (i := j) (n := ((ord.getD j 0 : Nat) : Int)) (by rw [List.getElem?_map, getD_map (by omega)]; rfl)
        rw [ht8] at hv3
        cases hv3
        have hk6 : ord.getD j 0 < 6 := by
          have : ord.getD j 0 ∈ ord := List.mem_of_getElem? (getD_map (by omega))
          have := hord.1.mem_iff.mp this
          simp only [List.mem_cons, List.not_mem_nil, or_false] at this
          omega
        obtain ⟨fv9, hf1, hf2⟩ := paired_getR q4 (getD_some (fnsOf (Classical.choose law_b).T) ⟨⟨#[]⟩, 0, ⟨#[]⟩⟩ (show ord.getD j 0 < (fnsOf (Classical.choose law_b).T).length from hk6))
        rw [show (fnsOf (Classical.choose law_b).T).getD (ord.getD j 0) ⟨⟨#[]⟩, 0, ⟨#[]⟩⟩ = fnAt (fnsOf (Classical.choose law_b).T) (ord.getD j 0) from rfl] at hf2
        generalize hfn8 : fnAt (fnsOf (Classical.choose law_b).T) (ord.getD j 0) = fn8 at hf2
        cases hf2 with
        | @mk fa9 ff9 fn9 fl9 y1 y2 y3 hf3 =>
        obtain ⟨kv9, hk1, hk2⟩ := hkey ⟨ff9, fl9, fn9⟩ y1 y2 y3
        simp only [List.cons_append] at N3
        k_steps
        refine Stop.mk ?_
        refine item_led (by k_asm) (.tail _ (.tail _ (.tail _ (.tail _ (.tail _ (.tail _ (.tail _ (.tail _ (List.mem_append_left _ q3))))))))) hf1 (by omega) ?_ (by with_unfolding_all rfl)
        k_steps
        refine Stop.mk ?_
        refine tup3_led (by k_asm) (.tail _ (.tail _ (.tail _ (.tail _ (.tail _ (.tail _ (.tail _ (.tail _ (List.mem_append_left _ hf3))))))))) hc hc3 hk1 ?_ (by with_unfolding_all rfl)
        k_steps
        exact KeyEnd.intro (by k_asm) (by k_asm) (fun p hp => hp) hk2
      case hq =>
        intro D h4 tk4 σ out c2 F4 N4 hD hσ hout
        obtain ⟨ol⟩ := out
        rw [hvl] at hσ
        have hord4 := ord_step hord hi3 hlt hσ
        have hints := ints_perm q6 σ (fun p hp => by rw [hol]; exact List.mem_range.mp (hσ.1.mem_iff.mp hp))
        rw [← hout] at hints
        have DI : D ≠ hk.objs.size := Nat.ne_of_gt (hD _ (.tail _ (.tail _ (.tail _ (.tail _ (.tail _ (.tail _ (.tail _ (.tail _ (own9 _ hIo))))))))))
        have offD : D ≠ (Classical.choose law_b).L + 1 + 1 + 1 + 1 ∧ D ≠ (Classical.choose law_b).L + 1 + 1 + 1 ∧ D ≠ (Classical.choose law_b).L + 1 + 1 ∧ D ≠ (Classical.choose law_b).L + 1 ∧ D ≠ (112 : Addr) := ⟨Nat.ne_of_gt (hD (_, o4) (by walk_at "MINE mem")), Nat.ne_of_gt (hD (_, (Classical.choose law_b).o3) (by walk_at "MINE mem")), Nat.ne_of_gt (hD (_, o5) (by walk_at "MINE mem")), Nat.ne_of_gt (hD (_, o1) (by walk_at "MINE mem")), Nat.ne_of_gt (hD ((112 : Addr), tabObj (#[] ++ #[rawInt ((133 : Nat) : Int), rawInt ((34 : Nat) : Int), .ref c9])) (by simp))⟩
        k_steps
        rename_i h5 F5 N5
        obtain ⟨of9, HF⟩ : ∃ o : Obj, h5.get? f9 = some o ∧ f9 ≠ (Classical.choose law_b).L ∧ (Classical.choose law_b).g.get? f9 = none := ⟨_, N5 (f9, _) (.tail _ (.head _))⟩
        have N6 : News (Classical.choose law_b).g (Classical.choose law_b).L h5 (own ++ ((Classical.choose law_b).L + 1 + 1 + 1 + 1, o4) :: ((Classical.choose law_b).L + 1 + 1 + 1, (Classical.choose law_b).o3) :: ((Classical.choose law_b).L + 1 + 1, o5) :: ((Classical.choose law_b).L + 1, o1) :: (112, tabObj (#[] ++ #[rawInt ((133 : Nat) : Int), rawInt ((34 : Nat) : Int), .ref c9])) :: (D, seqObj "list" ⟨ol⟩ c2) :: (f9, of9) :: (c9, oc9) :: r) := by
          refine mem_app (fun p hp => N5 p (.tail _ (.tail _ (.tail _ (.tail _ (.tail _ (.tail _ (.tail _ (.tail _ (.tail _ (own9 _ hp))))))))))) ?_
          iterate 6 refine mem_step (N5 _ (by walk_at "MINE mem")) ?_
          exact mem_step HF (mem_step (N5 _ (by walk_at "MINE mem")) fun p hp => N5 p (.tail _ (.tail _ (.tail _ (.tail _ (.tail _ (.tail _ (.tail _ (.tail _ (.tail _ (r9' _ hp)))))))))))
        refine TurnEnd.next (by k_asm) N6 ?s2 ?s3
        case s2 =>
          refine mem_step (fun hm => hnI (_, o4) (by walk_at "MINE mem") (List.mem_singleton.mp hm)) ?_
          refine mem_step (fun hm => hnI (_, (Classical.choose law_b).o3) (by walk_at "MINE mem") (List.mem_singleton.mp hm)) ?_
          refine mem_step (fun hm => hnI (_, oc) (by walk_at "MINE mem") (List.mem_singleton.mp hm)) ?_
          refine mem_step (fun hm => hnI (_, o1) (by walk_at "MINE mem") (List.mem_singleton.mp hm)) ?_
          refine mem_step (fun hm => hnI ((112 : Addr), _) (.tail _ (.tail _ (.tail _ (.tail _ (.head _))))) (List.mem_singleton.mp hm)) ?_
          exact mem_step (fun hm => DI (List.mem_singleton.mp hm)) (mem_step (fun hm => fI (List.mem_singleton.mp hm)) (mem_step (fun hm => cI (List.mem_singleton.mp hm)) fun p hp hm => hnI p (.tail _ (.tail _ (.tail _ (.tail _ (.tail _ hp))))) (List.mem_singleton.mp hm)))
        case s3 =>
          refine ⟨o5, _, (D, seqObj "list" ⟨ol⟩ c2) :: (f9, of9) :: (c9, oc9) :: r, .ref D, _, rfl, ⟨_, do5⟩, .inr ⟨c9, oc9, vs9, t9, rfl, .tail _ (.tail _ (.head _)), dd1, dd2⟩, ⟨rfl, rfl, rfl, rfl, rfl⟩, rfl, fun a o q => .tail _ (.tail _ (.tail _ (hup a o q))), .mk (vs := ol) (n := c2) (.head _) hints, fun p hp => ?_, hord4⟩
          rcases List.mem_cons.mp hp with rfl | hp
          · exact offD
          · rcases List.mem_cons.mp hp with rfl | hp
            · exact offf
            · rcases List.mem_cons.mp hp with rfl | hp
              · exact offc
              · exact hab' p hp
  case jR =>
    rintro h9 tk9 m9 news9 F9 N9 ⟨oc, ps, r, ov9, ord, rfl, _, _, hn, ho, hup, hov9, off9, hord⟩
    dsimp only
    clear F' N' Fk Nk
    k_steps
    exact Part.of ⟨_, oc, o1, o4, ps, r, t1, fv, tv, dv, sv, cv, ov9, ord, F9, N9, d1, d4, hn, ho, hfn.mono hup, htx.mono hup, htd.mono hup, hsl.mono hup, hcv.mono hup, hov9, off9, hord⟩
end
section
local macro_rules | `(tactic| walk_at "call ref") => `(tactic| walk_at "MINE stop")
section -- LLawF
theorem off_bk {L : Addr} {rest : List (Addr × Obj)} (h : Off L rest) : ∀ p ∈ rest, p.1 ≠ L + 1 + 1 + 1 := fun p hp => (h p hp).2.1
local macro_rules | `(tactic| k_all) => `(tactic| first | exact off_bk (by assumption) | (refine List.forall_mem_cons.mpr ⟨?_, ?_⟩; (focus k_ne); k_all))
def deedsOf (ns : List Int) : List Int := [6, 13, 8, 21, 10, 17, 1] ++ ns.take 6
theorem deeds_len (ns : List Int) : (deedsOf ns).length ≤ 13 := by
  simp only [deedsOf, List.length_append, List.length_take, List.length_cons, List.length_nil]
  omega
structure NamesF (m : Str → Option Value) (tv dv sv cv ov lv trv av : Value) : Prop where
  n1 : m (Str.ofString "texts") = some tv
  n2 : m (Str.ofString "told") = some dv
  n3 : m (Str.ofString "seals") = some sv
  n4 : m (Str.ofString "comp") = some cv
  n5 : m (Str.ofString "order") = some ov
  n6 : m (Str.ofString "deeds") = some lv
  n7 : m (Str.ofString "tree") = some trv
  n8 : m (Str.ofString "ahead") = some av
structure Still (T : Int) (ns : List Int) (rest : List (Addr × Obj)) (fv tv dv sv cv ov lv : Value) (ord : List Nat) : Prop where
  fns : FunsE (InL rest) fv (fnsOf T)
  txt : StrsR (InL rest) tv (textsOf T)
  tld : IntsR (InL rest) dv (sealsOf T)
  sls : IntsR (InL rest) sv (sealsOf T)
  cmp : CompR (InL rest) cv (keysOf T)
  odr : IntsR (InL rest) ov (ord.map fun (k : Nat) => (k : Int))
  dds : IntsR (InL rest) lv (deedsOf ns)
theorem Still.mono {T : Int} {ns : List Int} {rest rest' : List (Addr × Obj)} {fv tv dv sv cv ov lv : Value} {ord : List Nat} (S : Still T ns rest fv tv dv sv cv ov lv ord) (hs : ∀ a o, InL rest a o → InL rest' a o) : Still T ns rest' fv tv dv sv cv ov lv ord :=
  ⟨S.fns.mono hs, S.txt.mono hs, S.tld.mono hs, S.sls.mono hs, S.cmp.mono hs, S.odr.mono hs, S.dds.mono hs⟩
structure BookAt (L bl : Addr) (bvs : List Value) (rest : List (Addr × Obj)) (bk : List (List Call1)) : Prop where
  n1 : Paired (CallsR (InL rest)) bvs bk
  n2 : (∀ p ∈ rest, p.1 ≠ bl)
  n3 : bl ≠ L + 1 + 1 + 1 + 1
  n4 : bl ≠ L + 1 + 1 + 1
  n5 : bl ≠ L + 1 + 1
  n6 : bl ≠ L + 1
  n7 : bl ≠ (112 : Addr)
inductive PhiF (g : Heap) (L : Addr) (T : Int) (ns : List Int) (h' : Heap) : Prop
  | mk (m' : Str → Option Value) (oc : Obj) (o1 : Obj) (o3 : Obj) (o4 : Obj) (ps : Array Value) (bl : Addr) (bvs : List Value) (bn : Nat) (rest : List (Addr × Obj)) (t1 : Tok) (t2 : Tok) (fv : Value) (tv : Value) (dv : Value) (sv : Value) (cv : Value) (ov : Value) (lv : Value) (ord : List Nat)
    (k0 : Fr g L h' m')
    (k1 : News g L h' ((L + 1 + 1 + 1 + 1, o4) :: (L + 1 + 1 + 1, o3) :: (L + 1 + 1, oc) :: (L + 1, o1) :: (112, tabObj ps) :: (bl, listO bvs bn) :: rest))
    (k2 : o1.data = .cell (some (.int T t1)))
    (k3 : o4.data = .cell (some fv))
    (k4 : o3.data = .cell (some (.ref bl)))
    (k5 : NamesF m' tv dv sv cv ov lv .none (.int 0 t2))
    (k6 : Still T ns rest fv tv dv sv cv ov lv ord)
    (k7 : BookAt L bl bvs rest [[], [], [], [], [], []])
    (k8 : Off L rest)
    (k9 : OrdAt T 3 ord) : PhiF g L T ns h'
theorem PhiF.of {g h' : Heap} {L bl b1 b2 b3 b4 b5 b6 dl x1 x2 : Addr} {y1 y2 : Obj} {T : Int} {ns : List Int} {oc o1 o3 o4 : Obj} {ps : Array Value} {m' : Str → Option Value} {t1 t2 : Tok} {fv tv dv sv cv ov : Value} {rest : List (Addr × Obj)} {ord : List Nat} {dws : List Value}
    (F : Fr g L h' m')
    (N : News g L h' ((bl, listO [.ref b1, .ref b2, .ref b3, .ref b4, .ref b5, .ref b6] 0) :: (b6, listO [] 0) :: (b5, listO [] 0) :: (b4, listO [] 0) :: (b3, listO [] 0) :: (b2, listO [] 0) :: (b1, listO [] 0) :: (dl, listO dws 0) :: (x1, y1) :: (x2, y2) :: (L + 1 + 1 + 1 + 1, o4) :: (L + 1 + 1 + 1, o3) :: (L + 1 + 1, oc) :: (L + 1, o1) :: (112, tabObj ps) :: rest))
    (d1 : o1.data = .cell (some (.int T t1))) (d4 : o4.data = .cell (some fv)) (d3 : o3.data = .cell (some (.ref bl))) (hn : NamesF m' tv dv sv cv ov (.ref dl) .none (.int 0 t2))
    (S : FunsE (InL rest) fv (fnsOf T) ∧ StrsR (InL rest) tv (textsOf T) ∧ IntsR (InL rest) dv (sealsOf T) ∧ IntsR (InL rest) sv (sealsOf T) ∧ CompR (InL rest) cv (keysOf T) ∧ IntsR (InL rest) ov (ord.map fun (k : Nat) => (k : Int)))
    (hd : IntsAre dws (deedsOf ns)) (h112 : @LT.lt Nat _ 112 L) (lo : ∀ b ∈ [x2, x1, dl, b1, b2, b3, b4, b5, b6], @LT.lt Nat _ (L + 1 + 1 + 1 + 1) b ∧ @LT.lt Nat _ b bl) (lr : AllLt bl rest) (hab : Off L rest) (hord : OrdAt T 3 ord) : PhiF g L T ns h' := by
  have lob : ∀ {b : Addr}, b ∈ [x2, x1, dl, b1, b2, b3, b4, b5, b6] → b ≠ L + 1 + 1 + 1 + 1 ∧ b ≠ L + 1 + 1 + 1 ∧ b ≠ L + 1 + 1 ∧ b ≠ L + 1 ∧ b ≠ (112 : Addr) := fun {b} hb => by
    have := (lo b hb).1
    exact ⟨Nat.ne_of_gt this, Nat.ne_of_gt (by omega), Nat.ne_of_gt (by omega), Nat.ne_of_gt (by omega), Nat.ne_of_gt (by omega)⟩
  have blo : @LT.lt Nat _ (L + 1 + 1 + 1 + 1) bl := Nat.lt_trans (lo x2 (.head _)).1 (lo x2 (.head _)).2
  have up : ∀ a o, InL rest a o → InL ((b6, listO [] 0) :: (b5, listO [] 0) :: (b4, listO [] 0) :: (b3, listO [] 0) :: (b2, listO [] 0) :: (b1, listO [] 0) :: (dl, listO dws 0) :: (x1, y1) :: (x2, y2) :: rest) a o := fun a o q => .tail _ (.tail _ (.tail _ (.tail _ (.tail _ (.tail _ (.tail _ (.tail _ (.tail _ q))))))))
  have N2 : News g L h' ((L + 1 + 1 + 1 + 1, o4) :: (L + 1 + 1 + 1, o3) :: (L + 1 + 1, oc) :: (L + 1, o1) :: (112, tabObj ps) :: (bl, listO [.ref b1, .ref b2, .ref b3, .ref b4, .ref b5, .ref b6] 0) :: ((b6, listO [] 0) :: (b5, listO [] 0) :: (b4, listO [] 0) :: (b3, listO [] 0) :: (b2, listO [] 0) :: (b1, listO [] 0) :: (dl, listO dws 0) :: (x1, y1) :: (x2, y2) :: rest)) := News.sub N (by walk_at "MINE sub")
  have cal : ∀ {b : Addr}, InL ((b6, listO [] 0) :: (b5, listO [] 0) :: (b4, listO [] 0) :: (b3, listO [] 0) :: (b2, listO [] 0) :: (b1, listO [] 0) :: (dl, listO dws 0) :: (x1, y1) :: (x2, y2) :: rest) b (listO [] 0) → CallsR (InL ((b6, listO [] 0) :: (b5, listO [] 0) :: (b4, listO [] 0) :: (b3, listO [] 0) :: (b2, listO [] 0) :: (b1, listO [] 0) :: (dl, listO dws 0) :: (x1, y1) :: (x2, y2) :: rest)) (.ref b) [] := fun hm => .mk (vs := []) (n := 0) hm .nil
  refine ⟨m', oc, o1, o3, o4, ps, bl, _, 0, _, t1, t2, fv, tv, dv, sv, cv, ov, .ref dl, ord, F, N2, d1, d4, d3, hn, ⟨S.1.mono up, S.2.1.mono up, S.2.2.1.mono up, S.2.2.2.1.mono up, S.2.2.2.2.1.mono up, S.2.2.2.2.2.mono up, .mk (n := 0) (.tail _ (.tail _ (.tail _ (.tail _ (.tail _ (.tail _ (.head _))))))) hd⟩,
    ⟨.cons (cal (.tail _ (.tail _ (.tail _ (.tail _ (.tail _ (.head _))))))) (.cons (cal (.tail _ (.tail _ (.tail _ (.tail _ (.head _)))))) (.cons (cal (.tail _ (.tail _ (.tail _ (.head _))))) (.cons (cal (.tail _ (.tail _ (.head _)))) (.cons (cal (.tail _ (.head _))) (.cons (cal (.head _)) .nil))))), ?_,
      Nat.ne_of_gt blo, Nat.ne_of_gt (by omega), Nat.ne_of_gt (by omega), Nat.ne_of_gt (by omega), Nat.ne_of_gt (by omega)⟩, ?_, hord⟩
  · iterate 9 refine mem_step (Nat.ne_of_lt (lo _ (by walk_at "MINE mem")).2) ?_
    exact fun p hp => Nat.ne_of_lt (allLt_get lr hp)
  · iterate 9 refine mem_step (lob (by walk_at "MINE mem")) ?_
    exact hab
set_option maxRecDepth 100000 in
set_option maxHeartbeats 0 in
theorem lawF {h : Heap} {tk : Nat} (hphi : PhiE (Classical.choose law_b).g (Classical.choose law_b).L (Classical.choose law_b).l (Classical.choose law_b).T (Classical.choose law_b).o3 h)
    (B' : Below callerA (Classical.choose law_b).g [] (Classical.choose law_b).g) (X' : (hd.heap_39 (Classical.choose law_b).w.params).In (Classical.choose law_b).g) (T' : Top topProg loG (Classical.choose law_b).mean (Classical.choose law_b).mg (Classical.choose law_b).mb (Classical.choose law_b).g) (h112 : @LT.lt Nat _ 112 (Classical.choose law_b).L) (d3 : (Classical.choose law_b).o3.data = .cell none) (HL : (Classical.choose law_b).g.IsList (Classical.choose law_b).l (Classical.choose law_b).vs.toArray) (HI : IntsAre (Classical.choose law_b).vs (Classical.choose law_b).ns) (h63 : (Classical.choose law_b).ns.length ≤ 63) :
    wpAny (model PySem.Challenge.pw_pg0060_01 (Classical.choose law_b).w) (callerA.deeper (lawEnv (Classical.choose law_b).L (Classical.choose law_b).fa)) (execs ((lawBody.drop 14).take 4) (lawEnv (Classical.choose law_b).L (Classical.choose law_b).fa)) (Part (PhiF (Classical.choose law_b).g (Classical.choose law_b).L (Classical.choose law_b).T (Classical.choose law_b).ns) (Classical.choose law_b).s) noE { (Classical.choose law_b).s with heap := h, toks := tk } := by
  obtain ⟨m0, oc, o1, o4, ps, rest, t1, fv, tv, dv, sv, cv, ov, ord, F0, N', d1, d4, ⟨e1, e2, e3, e4, e6⟩, e7, hfn, htx, htd, hsl, hcv, hov, hab, hord⟩ := hphi
  have F' := fr_named F0 [(Str.ofString "script", .ref (Classical.choose law_b).l), (Str.ofString "texts", tv), (Str.ofString "told", dv), (Str.ofString "seals", sv), (Str.ofString "comp", cv), (Str.ofString "order", ov)] (by repeat (first | exact .nil | refine .cons (by assumption) ?_))
  clear F0 e1 e2 e3 e4 e6 e7
  dsimp only [lawBody, lawRec, recOf, List.take, List.drop, lawEnv, chain, List.foldr] at *
  (try k_fold)
  k_steps
  rename_i bl9 hh9 lb h91 o91 d91 h92 h93 F9 N9
  obtain ⟨lb1, lb2, lb3, lb4, lb5, lb6, lb7, lb8, lb9, _, _, _, _, _, lrest⟩ := lb
  exact Part.of (PhiF.of (by k_asm) (by first | k_asm | assumption) d1 d4 (by assumption) ⟨rfl, rfl, rfl, rfl, rfl, rfl, rfl, rfl⟩ ⟨hfn, htx, htd, hsl, hcv, hov⟩ (by assumption) h112 (by intro b hb; simp only [List.mem_cons, List.not_mem_nil, or_false] at hb; rcases hb with rfl | rfl | rfl | rfl | rfl | rfl | rfl | rfl | rfl <;> constructor <;> omega) lrest hab hord)
end
section -- LPlain
theorem lt_asymm {a b : List Nat} (h : a < b) : ¬ b < a := fun h2 => List.lt_irrefl _ (List.lt_trans h h2)
theorem lt_eq {a b : List Nat} (h1 : ¬ a < b) (h2 : ¬ b < a) : a = b := List.le_antisymm (List.not_lt.mp h2) (List.not_lt.mp h1)
theorem str_eq {a b : Str} (h : a.cps.toList = b.cps.toList) : a = b := by
  obtain ⟨⟨a⟩⟩ := a
  obtain ⟨⟨b⟩⟩ := b
  have : a = b := h
  rw [this]
theorem ltCol_asymm {c : Int} {f g : Fn} (h : ltCol c f g = true) : ltCol c g f = false := by
  unfold ltCol at *
  split at h
  · rename_i h0; rw [if_pos h0]; simpa using lt_asymm (of_decide_eq_true h)
  · rename_i h0
    rw [if_neg h0]
    split at h
    · rename_i h1; rw [if_pos h1]; have := of_decide_eq_true h; simp; omega
    · rename_i h1; rw [if_neg h1]; simpa using lt_asymm (of_decide_eq_true h)
theorem cmp_neg {ks : List (Int × Int)} (f g : Fn) : cmpF ks g f = - cmpF ks f g := by
  induction ks with
  | nil => rfl
  | cons k ks ih =>
    obtain ⟨c, d⟩ := k
    rw [cmpF_cons, cmpF_cons]
    cases h1 : ltCol c f g with
    | true => rw [ltCol_asymm h1]; simp
    | false =>
      cases h2 : ltCol c g f with
      | true => simp
      | false => simp [ih]
theorem cmp_zero {ks : List (Int × Int)} {f g : Fn} (hd : ∀ k ∈ ks, k.2 = 1 ∨ k.2 = -1) (h : cmpF ks f g = 0) : ∀ k ∈ ks, ltCol k.1 f g = false ∧ ltCol k.1 g f = false := by
  induction ks with
  | nil => intro k hk; cases hk
  | cons k0 ks ih =>
    obtain ⟨c, d⟩ := k0
    have hd0 : d = 1 ∨ d = -1 := hd (c, d) (.head _)
    rw [cmpF_cons] at h
    cases h1 : ltCol c f g with
    | true => rw [h1, if_pos rfl] at h; omega
    | false =>
      rw [h1, if_neg (by decide)] at h
      cases h2 : ltCol c g f with
      | true => rw [h2, if_pos rfl] at h; omega
      | false =>
        rw [h2, if_neg (by decide)] at h
        intro k hk
        rcases List.mem_cons.mp hk with rfl | hk
        · exact ⟨h1, h2⟩
        · exact ih (fun k hk => hd k (.tail _ hk)) h k hk
theorem cmp_refl (ks : List (Int × Int)) (f : Fn) : cmpF ks f f = 0 := by
  have := cmp_neg (ks := ks) f f
  omega
theorem keys_dirs (T : Int) : ∀ k ∈ keysOf T, k.2 = 1 ∨ k.2 = -1 := by
  intro k hk
  simp only [keysOf, List.mem_cons, List.not_mem_nil, or_false] at hk
  rcases hk with rfl | rfl | rfl <;> exact dir_cases T _
theorem keys_cols (T : Int) : ∀ k ∈ keysOf T, k.1 = 0 ∨ k.1 = 1 ∨ k.1 = 2 := by
  intro k hk
  simp only [keysOf, List.mem_cons, List.not_mem_nil, or_false] at hk
  rcases hk with rfl | rfl | rfl <;> (have := col_cases T; first | exact this 0 | exact this 1 | exact this 2)
theorem keys_all (T : Int) : ∀ c : Int, c = 0 ∨ c = 1 ∨ c = 2 → ∃ k ∈ keysOf T, k.1 = c := by
  intro c hc
  have e : ∀ i : Nat, colOf T i = ((i : Int) + T % 3) % 3 := fun i => (Int.fmod_eq_emod_of_nonneg _ (by decide)).trans (Int.add_emod_emod ..).symm
  have hT : T % 3 = 0 ∨ T % 3 = 1 ∨ T % 3 = 2 := by omega
  have ex : ∃ i : Fin 3, colOf T i.1 = c := by
    rcases hT with h | h | h <;> rcases hc with rfl | rfl | rfl
    · exact ⟨0, (e 0).trans (by rw [h]; rfl)⟩
    · exact ⟨1, (e 1).trans (by rw [h]; rfl)⟩
    · exact ⟨2, (e 2).trans (by rw [h]; rfl)⟩
    · exact ⟨2, (e 2).trans (by rw [h]; rfl)⟩
    · exact ⟨0, (e 0).trans (by rw [h]; rfl)⟩
    · exact ⟨1, (e 1).trans (by rw [h]; rfl)⟩
    · exact ⟨1, (e 1).trans (by rw [h]; rfl)⟩
    · exact ⟨2, (e 2).trans (by rw [h]; rfl)⟩
    · exact ⟨0, (e 0).trans (by rw [h]; rfl)⟩
  obtain ⟨i, hi⟩ := ex
  match i, hi with
  | 0, h => exact ⟨_, .head _, h⟩
  | 1, h => exact ⟨_, .tail _ (.head _), h⟩
  | 2, h => exact ⟨_, .tail _ (.tail _ (.head _)), h⟩
theorem fn_eq {T : Int} {f g : Fn} (h : cmpF (keysOf T) f g = 0) : f = g := by
  have z := cmp_zero (keys_dirs T) h
  have each : ∀ c : Int, c = 0 ∨ c = 1 ∨ c = 2 → ltCol c f g = false ∧ ltCol c g f = false := fun c hc => by
    obtain ⟨k, hk, rfl⟩ := keys_all T c hc
    exact z k hk
  have e0 := each 0 (.inl rfl)
  have e1 := each 1 (.inr (.inl rfl))
  have e2 := each 2 (.inr (.inr rfl))
  unfold ltCol at e0 e1 e2
  simp at e0 e1 e2
  obtain ⟨f1, f2, f3⟩ := f
  obtain ⟨g1, g2, g3⟩ := g
  have a := str_eq (lt_eq (List.not_lt.mpr e0.1) (List.not_lt.mpr e0.2))
  have b : f2 = g2 := by dsimp only at e1; omega
  have c := str_eq (lt_eq (List.not_lt.mpr e2.1) (List.not_lt.mpr e2.2))
  dsimp only at a c
  rw [a, b, c]
theorem held_ne (T : Int) : heldOf T ≠ letterOf T := by
  obtain ⟨c, _, _, hc⟩ := letter_is T
  rw [heldOf, hc]
  intro h
  have := congrArg (fun x : Str => x.cps.size) h
  simp only [app_size] at this
  simp at this
  have z1 : (Str.ofString "<").cps.size = 1 := by decide +kernel
  omega
theorem fns_distinct (T : Int) : ∀ a b, a < 6 → b < 6 → fnAt (fnsOf T) a = fnAt (fnsOf T) b → a = b := by
  have h1 : ¬ (Str.ofString "~" = Str.ofString "a") := by decide +kernel
  have h2 : ¬ (Str.ofString "a" = Str.ofString "~") := by decide +kernel
  have h3 := held_ne T
  have h4 : ¬ (letterOf T = heldOf T) := fun e => h3 e.symm
  have h5 : ¬ (lineOf T = 0) := by have := (line_range T).1; omega
  have h6 : ¬ ((0 : Int) = lineOf T) := fun e => h5 e.symm
  have nd : (fnsOf T).Nodup := .cons (mem_step (fun e => h1 (congrArg Fn.file e)) (mem_step (fun e => h4 (congrArg Fn.name e).symm) (mem_step (fun e => h1 (congrArg Fn.file e)) (mem_step (fun e => h4 (congrArg Fn.name e).symm) (mem_step (fun e => h1 (congrArg Fn.file e)) mem_none)))))
    (.cons (mem_step (fun e => h2 (congrArg Fn.file e)) (mem_step (fun e => h4 (congrArg Fn.name e).symm) (mem_step (fun e => h2 (congrArg Fn.file e)) (mem_step (fun e => h4 (congrArg Fn.name e).symm) mem_none))))
    (.cons (mem_step (fun e => h1 (congrArg Fn.file e)) (mem_step (fun e => h6 (congrArg Fn.line e)) (mem_step (fun e => h1 (congrArg Fn.file e)) mem_none)))
    (.cons (mem_step (fun e => h2 (congrArg Fn.file e)) (mem_step (fun e => h6 (congrArg Fn.line e)) mem_none))
    (.cons (mem_step (fun e => h1 (congrArg Fn.file e)) mem_none) (.cons mem_none .nil)))))
  intro a b ha hb h
  have at_ : ∀ {k : Nat}, k < 6 → (fnsOf T)[k]? = some (fnAt (fnsOf T) k) := fun {k} hk => by
    unfold fnAt
    rw [List.getD_eq_getElem?_getD, List.getElem?_eq_getElem (show k < (fnsOf T).length from hk)]; rfl
  exact (List.getElem?_inj (show a < (fnsOf T).length from ha) nd).mp (by rw [at_ ha, at_ hb, h])
theorem ranked_of {T : Int} {ord : List Nat} (ho : OrdAt T 3 ord) : Ranked (fnsOf T) (keysOf T) (fun k => ord.idxOf k) := by
  obtain ⟨hp, hw⟩ := ho
  have hw' : ord.Pairwise (LtK T (keysOf T)) := hw
  have mem : ∀ a, a < 6 → a ∈ ord := fun a ha => hp.mem_iff.mpr ((by decide : ∀ k : Fin 6, k.1 ∈ [0, 1, 2, 3, 4, 5]) ⟨a, ha⟩)
  have key : ∀ a b, a < 6 → b < 6 → ord.idxOf a < ord.idxOf b → cmpF (keysOf T) (fnAt (fnsOf T) a) (fnAt (fnsOf T) b) < 0 := by
    intro a b ha hb hlt
    have ia := List.idxOf_lt_length_iff.mpr (mem a ha)
    have ib := List.idxOf_lt_length_iff.mpr (mem b hb)
    have q := List.pairwise_iff_getElem.mp hw' _ _ ia ib hlt
    rw [List.getElem_idxOf, List.getElem_idxOf] at q
    rcases q with q | ⟨q, _⟩
    · exact q
    · have := fns_distinct T a b ha hb (fn_eq q)
      subst this
      exact absurd hlt (Nat.lt_irrefl _)
  have inj : ∀ a b, a < 6 → b < 6 → ord.idxOf a = ord.idxOf b → a = b := by
    intro a b ha hb e
    have ia := List.idxOf_lt_length_iff.mpr (mem a ha)
    have ib := List.idxOf_lt_length_iff.mpr (mem b hb)
    have g1 : ord[ord.idxOf a] = a := List.getElem_idxOf ia
    have g2 : ord[ord.idxOf b] = b := List.getElem_idxOf ib
    rw [← g1, ← g2]
    congr 1
  intro a b ha hb
  refine ⟨⟨fun h => fns_distinct T a b ha hb (fn_eq h), fun h => by rw [h]; exact cmp_refl _ _⟩, ⟨fun h => ?_, fun h => key a b ha hb h⟩, fun hne e => hne (inj a b ha hb e)⟩
  rcases Nat.lt_trichotomy (ord.idxOf a) (ord.idxOf b) with q | q | q
  · exact q
  · have := inj a b ha hb q
    subst this
    rw [cmp_refl] at h; exact absurd h (Int.lt_irrefl _)
  · have := key b a hb ha q
    rw [cmp_neg] at this
    omega

structure Inv (T : Int) (ord : List Nat) (bk : List (List Call1)) (t : Tr) (i : Nat) : Prop where
  all : t.all (· < 6)
  bst : t.bst (fun k => ord.idxOf k)
  hp : t.heap (sealsOf T)
  mem : ∀ k, k ∈ t.inord ↔ k < 6 ∧ bk.getD k [] ≠ []
  ent : ∀ k e, (k, e) ∈ t.ents → EntOk e (bk.getD k [])
  six : bk.length = 6
  few : ∀ cs ∈ bk, cs.length ≤ i
theorem inv_start (T : Int) (ord : List Nat) : Inv T ord [[], [], [], [], [], []] .nil 0 := by
  refine ⟨trivial, List.Pairwise.nil, trivial, fun k => ?_, (fun k e h => nomatch h), rfl, fun cs h => ?_⟩
  · constructor
    · intro h; cases h
    · rintro ⟨h, h2⟩
      exact absurd (match k with | 0 => rfl | 1 => rfl | 2 => rfl | 3 => rfl | 4 => rfl | 5 => rfl | _ + 6 => rfl) h2
  · simp at h; rw [h]; exact Nat.le_refl _
theorem getD_set {bk : List (List Call1)} {p k : Nat} {cs : List Call1} (hp : p < bk.length) : (bk.set p cs).getD k [] = if k = p then cs else bk.getD k [] := by
  rw [List.getD_eq_getElem?_getD, List.getD_eq_getElem?_getD]
  by_cases h : k = p
  · subst h; rw [if_pos rfl, List.getElem?_set_self hp]; rfl
  · rw [if_neg h, List.getElem?_set_ne (fun e => h e.symm)]
theorem mem_set {bk : List (List Call1)} {p : Nat} {cs c : List Call1} (h : c ∈ bk.set p cs) : c = cs ∨ c ∈ bk := by
  rcases List.mem_or_eq_of_mem_set h with h | h
  · exact .inr h
  · exact .inl h
theorem inv_drop {T : Int} {ord : List Nat} {bk : List (List Call1)} {t : Tr} {i p : Nat} (ho : OrdAt T 3 ord) (I : Inv T ord bk t i) (hp : p < 6) : Inv T ord (bk.set p []) (dropT (fnsOf T) (sealsOf T) (keysOf T) p t) (i + 1) := by
  have hr := ranked_of ho
  obtain ⟨d1, d2⟩ := drop_inord (ss := sealsOf T) hr hp t I.all I.bst
  have hpl : p < bk.length := by rw [I.six]; exact hp
  refine ⟨mem_all fun y hy => ?_, drop_bst hr hp t I.all I.bst, drop_heap hr hp t I.all I.bst I.hp, fun k => ?_, fun k e he => ?_, by rw [List.length_set]; exact I.six, fun cs hc => ?_⟩
  · rw [d1] at hy
    exact all_mem I.all y (List.mem_filter.mp hy).1
  · rw [d1, List.mem_filter, getD_set hpl, I.mem k]
    by_cases h : k = p <;> simp [h]
  · rw [d2, List.mem_filter] at he
    have hk : k ≠ p := by simpa using he.2
    rw [getD_set hpl, if_neg hk]
    exact I.ent k e he.1
  · rcases mem_set hc with rfl | hc
    · exact Nat.zero_le _
    · exact Nat.le_succ_of_le (I.few cs hc)
theorem inv_put {T : Int} {ord : List Nat} {bk : List (List Call1)} {t : Tr} {i p : Nat} (ho : OrdAt T 3 ord) (I : Inv T ord bk t i) (hp : p < 6) (c : Call1) :
    Inv T ord (bk.set p (bk.getD p [] ++ [c])) (putT (fnsOf T) (sealsOf T) (keysOf T) p (callEnt c) t) (i + 1) := by
  have hr := ranked_of ho
  have hpl : p < bk.length := by rw [I.six]; exact hp
  have hm := put_mem (ss := sealsOf T) (x := callEnt c) hr hp t I.all
  refine ⟨putT_all (q := (· < 6)) hp t I.all, put_bst hr hp t I.all I.bst, put_heap hr hp t I.all I.bst I.hp, fun k => ?_, fun k e he => ?_, by rw [List.length_set]; exact I.six, fun cs hc => ?_⟩
  · rw [hm, getD_set hpl, I.mem k]
    by_cases h : k = p
    · subst h; simp [hp]
    · simp [h]
  · rw [getD_set hpl]
    rcases put_ents hr hp t I.all I.bst k e he with ⟨hk, he1⟩ | ⟨rfl, ⟨e0, he1, rfl⟩ | ⟨hn, rfl⟩⟩
    · rw [if_neg hk]; exact I.ent k e he1
    · rw [if_pos rfl]; exact (I.ent _ _ he1).add c
    · rw [if_pos rfl]
      have : bk.getD k [] = [] := by
        by_cases q : bk.getD k [] = []
        · exact q
        · exact absurd ((I.mem k).mpr ⟨hp, q⟩) hn
      rw [this]
      exact call_ok c
  · rcases mem_set hc with rfl | hc
    · rw [List.length_append]
      have : (bk.getD p []).length ≤ i := I.few _ (by
        rw [List.getD_eq_getElem?_getD, List.getElem?_eq_getElem hpl]; exact List.getElem_mem hpl)
      simp only [List.length_cons, List.length_nil]; omega
    · exact Nat.le_succ_of_le (I.few cs hc)
def rowOf (ord : List Nat) (bk : List (List Call1)) : List Nat := ord.filter fun k => !(bk.getD k []).isEmpty
theorem inord_row {T : Int} {ord : List Nat} {bk : List (List Call1)} {t : Tr} {i : Nat} (ho : OrdAt T 3 ord) (I : Inv T ord bk t i) : t.inord = rowOf ord bk := by
  have hn : ord.Nodup := ho.1.nodup_iff.mpr (by decide)
  refine sorted_eq (rk := fun k => ord.idxOf k) I.bst ?_ fun x => ?_
  · refine List.Pairwise.sublist List.filter_sublist ?_
    rw [List.pairwise_iff_getElem]
    intro a b ha hb hab
    rw [List.Nodup.idxOf_getElem hn, List.Nodup.idxOf_getElem hn]; exact hab
  · rw [I.mem x, rowOf, List.mem_filter, ho.1.mem_iff]
    simp
    intro _; omega
theorem row_len {T : Int} {ord : List Nat} (ho : OrdAt T 3 ord) (bk : List (List Call1)) : (rowOf ord bk).length ≤ 6 := by
  have := List.length_filter_le (fun k => !(bk.getD k []).isEmpty) ord
  have h6 : ord.length = 6 := ho.1.length_eq
  unfold rowOf; omega
theorem row_six {T : Int} {ord : List Nat} (ho : OrdAt T 3 ord) (bk : List (List Call1)) : ∀ k ∈ rowOf ord bk, k < 6 := by
  intro k hk
  have := ho.1.mem_iff.mp (List.mem_filter.mp hk).1
  simp at this
  omega
theorem inv_told {T : Int} {ord : List Nat} {bk : List (List Call1)} {t : Tr} {i : Nat} (ho : OrdAt T 3 ord) (I : Inv T ord bk t i) : TrEq t (toldT (sealsOf T) bk 7 (rowOf ord bk)) := by
  have e := inord_row ho I
  have := told_is (ss := sealsOf T) (bk := bk) 7 t (by rw [e]; have := row_len ho bk; omega) (bst_ne I.bst) I.hp I.ent
  rw [e] at this
  exact this
theorem inv_size {T : Int} {ord : List Nat} {bk : List (List Call1)} {t : Tr} {i : Nat} (ho : OrdAt T 3 ord) (I : Inv T ord bk t i) : t.size ≤ 6 := by
  rw [size_inord, inord_row ho I]; exact row_len ho bk
theorem depth_size : ∀ t : Tr, t.depth ≤ t.size
  | .nil => Nat.le_refl _
  | .node _ _ l r => by
    have h1 := depth_size l
    have h2 := depth_size r
    simp only [Tr.depth, Tr.size]; omega
theorem nodup_len : ∀ {a b : List Str}, a.Nodup → (∀ x ∈ a, x ∈ b) → a.length ≤ b.length
  | [], _, _, _ => Nat.zero_le _
  | x :: a, b, hn, hs => by
    obtain ⟨h1, h2⟩ := List.nodup_cons.mp hn
    have hx := hs x (.head _)
    have := nodup_len (a := a) (b := b.erase x) h2 fun y hy => (List.mem_erase_of_ne (fun e => h1 (by rw [← e]; exact hy))).mpr (hs y (.tail _ hy))
    rw [List.length_erase_of_mem hx] at this
    have : 0 < b.length := List.length_pos_of_mem hx
    simp only [List.length_cons]; omega
theorem inv_few {T : Int} {ord : List Nat} {bk : List (List Call1)} {t : Tr} {i : Nat} (I : Inv T ord bk t i) (hi : i ≤ 100) : t.few 100 := ents_few fun k e he => by
  obtain ⟨_, _, _, _, h5⟩ := I.ent k e he
  have hk : k < 6 := ((I.mem k).mp (ents_inord he)).1
  have h7 : (e.cs.map (·.1)).length ≤ ((bk.getD k []).map (·.who)).length := nodup_len h5.1 fun x hx => List.count_pos_iff.mp ((h5.key x).mp hx)
  have h8 : (bk.getD k []).length ≤ i := I.few _ (by
    have hpl : k < bk.length := by rw [I.six]; exact hk
    rw [List.getD_eq_getElem?_getD, List.getElem?_eq_getElem hpl]; exact List.getElem_mem hpl)
  rw [List.length_map, List.length_map] at h7
  omega
end
section -- LLawG0
section
variable {prog : Program} {w : World} {A : Around} {E : Value → Shared → Prop} {s : Shared} {env : Env} {g h₀ : Heap} {L : Addr} {m : Str → Option Value}
theorem set_same (l : Addr) (items : Array Value) (p : Nat) (v : Value) (n : Nat) : (if (items.setIfInBounds p v).size == items.size then n else n + 1) = n := by simp
theorem book_set {bl : Addr} {bvs : List Value} {bn p : Nat} {v : Value} {t : Tok} {others : List (Addr × Obj)} {Q : Unit → Shared → Prop} (F : Fr g L s.heap m) (N : News g L s.heap ((bl, listO bvs bn) :: others)) (hoth : ∀ q ∈ others, q.1 ≠ bl) (hp : p < bvs.length) (hs : bvs.length ≤ 100)
    (h : ∀ h', Fr g L h' m → News g L h' ((bl, listO (bvs.set p v) bn) :: others) → Q () { s with heap := h' }) : wpAny (model prog w) A (setItem (.ref bl) (.int (p : Int) t) v) Q E s := by
  have z := N (bl, listO bvs bn) (.head _)
  refine ki_setAt (items := bvs.toArray) (n := bn) z.1 (by omega) (by omega) (by simp; omega) (h _ (F.change (Heap.SameBut.update ..) z.2.1 z.2.2) (ki_turn (pre := []) (its' := (bvs.set p v).toArray) _ N (fun _ h => nomatch h) hoth ?_ ?_))
  · show bvs.toArray.setIfInBounds ((p : Int)).toNat v = (bvs.set p v).toArray
    apply Array.toList_inj.mp
    simp
  · simp
theorem loop_range2 {Q : Flow → Shared → Prop} {target : Expr} {body : List Stmt} {r : Addr} {a b c : Int} {t u v : Tok} {n : Nat} {m : Str → Option Value} {news : List (Addr × Obj)} (hh : A.handled = none)
    (hr : IsRange s.heap r a b c t u v) (hsmall : Builtin.Range.small a b c = true) (hn : Builtin.Range.rangeSize a b c = n)
    (F : Fr h₀ env.locals s.heap m) (N : News h₀ env.locals s.heap news) (hgo : ∀ it v, letOwnedTupleGo target it v = pure ())
    (J : Nat → (Str → Option Value) → List (Addr × Obj) → Prop) (h0 : J 0 m news)
    (step : ∀ i ti I m₁ news₁ h tk own, i < n → J i m₁ news₁ → (∀ p ∈ news₁, p.1 ≠ I) → (∀ p ∈ own, p.1 = I) → (∃ o, (I, o) ∈ own) → (∀ p ∈ news, p.1 ≠ I) → Fr h₀ env.locals h m₁ → News h₀ env.locals h (own ++ news₁) →
      wpAny (model prog w) A (assign target env (.int (a + i * c) ti)) (fun _ s₂ => wpAny (model prog w) A (execs body env) (TurnEnd h₀ env.locals [I] own (J (i + 1)) s Q) noE s₂) noE { s with heap := h, toks := tk })
    (hR : ∀ h' tk m' news', Fr h₀ env.locals h' m' → News h₀ env.locals h' news' → J n m' news' → Q .next { s with heap := h', toks := tk }) :
    wpAny (model prog w) A (pyIter (.ref r)) (fun it s₂ => LoopIs prog w A env target body Q it s₂) noE s := by
  refine wpAny_pyIter_range hr hsmall fun Er => ?_
  refine forLoop_own (s := { s with heap := _ }) (Walks.range (prog := prog) (w := w) hh s.heap.objs.size a c n) ?_ ?_ ?_ ?_ ?_ (F.push _) (fun p hp => ⟨Heap.get?_push_of_some _ (N p hp).1, (N p hp).2⟩) (fun i s' v Q' st hQ' => by rw [hgo]; exact wpAny_pure hQ') J h0 ?_ ?_
  · intro i h st b hb
    rw [List.mem_singleton.mp hb]
    exact ⟨_, st⟩
  · intro hm
    exact absurd F.ns.lt ((List.mem_singleton.mp hm) ▸ Nat.lt_irrefl _)
  · intro b hb
    rw [List.mem_singleton.mp hb]
    exact next_is_new F
  · intro p hp hI
    exact absurd (Heap.lt_size (N p hp).1) ((List.mem_singleton.mp hI) ▸ Nat.lt_irrefl _)
  · have e1 : a + ((0 : Nat) : Int) * c = a := by simp
    have e2 : (n : Int) - ((0 : Nat) : Int) = Builtin.Range.rangeSize a b c := by rw [hn]; simp
    show IsRangeIter _ _ (a + ((0 : Nat) : Int) * c) ((n : Int) - ((0 : Nat) : Int)) c
    rw [e1, e2]
    exact Heap.get?_push_size _ rfl
  · intro i v m₁ news₁ h tk own hi hv hJ hn hown hlv F₁ N₁
    obtain ⟨u, rfl⟩ := hv
    exact step i u s.heap.objs.size m₁ news₁ h tk own hi hJ (fun p hp e => hn p hp (by simp [e])) (fun p hp => List.mem_singleton.mp (hown p hp)) (hlv _ (.head _)) (fun p hp => Nat.ne_of_lt (Heap.lt_size (N p hp).1)) F₁ N₁
  · intro h' tk m' news' F' N' _ hJ
    exact hR h' tk m' news' F' N' hJ
end
noncomputable def loopBody : List Stmt := match lawBody.drop 18 with
  | .For _ _ b _ _ :: _ => b
  | _ => []
theorem loop_len : loopBody.length = 4 := rfl
set_option genInjectivity false in
set_option genSizeOf false in
structure K9 where
  o4 : Obj
  o3 : Obj
  oc : Obj
  o1 : Obj
  ps : Array Value
  bl : Addr
  fv : Value
  tv : Value
  dv : Value
  sv : Value
  cv : Value
  ov : Value
  lv : Value
  od : List Nat
structure KOk (L : Addr) (T : Int) (c : K9) : Prop where
  d4 : c.o4.data = .cell (some c.fv)
  d3 : c.o3.data = .cell (some (.ref c.bl))
  ord : OrdAt T 3 c.od
  bl4 : c.bl ≠ L + 1 + 1 + 1 + 1
  bl3 : c.bl ≠ L + 1 + 1 + 1
  bl2 : c.bl ≠ L + 1 + 1
  bl1 : c.bl ≠ L + 1
  blt : c.bl ≠ (112 : Addr)
inductive Mid (w : World) (g : Heap) (L : Addr) (T : Int) (ns : List Int) (c : K9) (own : List (Addr × Obj)) (I : Addr) (i : Nat) (X : (Str → Option Value) → Prop) (h' : Heap) : Prop
  | mk (m' : Str → Option Value) (bvs : List Value) (bn : Nat) (rest : List (Addr × Obj)) (trv : Value) (bk : List (List Call1)) (t : Tr) (aN : Nat) (t2 : Tok)
    (k0 : Fr g L h' m')
    (k1 : News g L h' ((L + 1 + 1 + 1 + 1, c.o4) :: (L + 1 + 1 + 1, c.o3) :: (L + 1 + 1, c.oc) :: (L + 1, c.o1) :: (112, tabObj c.ps) :: (c.bl, listO bvs bn) :: (own ++ rest)))
    (k2 : (∀ p ∈ rest, p.1 ≠ I))
    (k3 : NamesF m' c.tv c.dv c.sv c.cv c.ov c.lv trv (.int ((aN : Nat) : Int) t2))
    (k4 : aN < 6)
    (k5 : Still T ns rest c.fv c.tv c.dv c.sv c.cv c.ov c.lv c.od)
    (k6 : BookAt L c.bl bvs rest bk)
    (k7 : Off L rest)
    (k8 : TreeR w (InL rest) trv t)
    (k9 : Inv T c.od bk t i)
    (k10 : X m') : Mid w g L T ns c own I i X h'
inductive JG (w : World) (L : Addr) (T : Int) (ns : List Int) (c : K9) (i : Nat) (m' : Str → Option Value) (news : List (Addr × Obj)) : Prop
  | mk (bvs : List Value) (bn : Nat) (rest : List (Addr × Obj)) (trv : Value) (bk : List (List Call1)) (t : Tr) (aN : Nat) (t2 : Tok)
    (k0 : news = (L + 1 + 1 + 1 + 1, c.o4) :: (L + 1 + 1 + 1, c.o3) :: (L + 1 + 1, c.oc) :: (L + 1, c.o1) :: (112, tabObj c.ps) :: (c.bl, listO bvs bn) :: rest)
    (k1 : NamesF m' c.tv c.dv c.sv c.cv c.ov c.lv trv (.int ((aN : Nat) : Int) t2))
    (k2 : aN < 6)
    (k3 : Still T ns rest c.fv c.tv c.dv c.sv c.cv c.ov c.lv c.od)
    (k4 : BookAt L c.bl bvs rest bk)
    (k5 : Off L rest)
    (k6 : TreeR w (InL rest) trv t)
    (k7 : Inv T c.od bk t i) : JG w L T ns c i m' news
theorem item_led2 {prog : Program} {w : World} {A : Around} {E : Value → Shared → Prop} {s : Shared} {L : Addr} {g : Heap} {news : List (Addr × Obj)} {value slice : Expr} {Q : Value → Shared → Prop} {l : Addr} {vs : List Value} {n k : Nat} {u : Tok} {v : Value} (N : News g L s.heap news) (hm : (l, listO vs n) ∈ news) (hx : vs[k]? = some v) (hk : k < 1000) (h : Q v s)
    (hs : subscripted slice false (.ref l) (.int (k : Int) u) = operate [.ref l, .int (k : Int) u] (getItem (.ref l) (.int (k : Int) u))) : wpAny (model prog w) A (subscriptTail value slice (.ref l) (.int (k : Int) u)) Q E s := item_led N hm hx hk h hs
end
section -- LDict1
section
variable {w : World} {A : Around} {E : Value → Shared → Prop} {s : Shared} {env : Env} {g : Heap} {L : Addr} {m : Str → Option Value} {news : List (Addr × Obj)}
theorem dict1 {kx vx : Expr} {pos : Pos} {x : Str} {Q : Value → Shared → Prop} (F : Fr g L s.heap m) (N : News g L s.heap news) (hlow : sysModules < g.objs.size)
    (hk : ∀ h₁ DD, Fr g L h₁ m → News g L h₁ ((DD, ({ cls := .type "dict", data := .dict #[] } : Obj)) :: news) →
      wpAny (model PySem.Challenge.pw_pg0060_01 w) A (eval kx env) (fun key s₂ => ∃ t h₂ tk₂, key = .str x t ∧ s₂ = { s with heap := h₂, toks := tk₂ } ∧ h₁.StaysIn h₂) E { s with heap := h₁ })
    (hv : ∀ h₂ tk₂ (Q' : Value → Shared → Prop), (∀ t tk₃, Q' (.int 1 t) { s with heap := h₂, toks := tk₃ }) → wpAny (model PySem.Challenge.pw_pg0060_01 w) A (eval vx env) Q' E { s with heap := h₂, toks := tk₂ })
    (h : ∀ DD h' tk' o t, Fr g L h' m → News g L h' ((DD, o) :: news) → (∀ p ∈ news, @LT.lt Nat _ p.1 DD) → (DD == sysModules) = false → o.IsDictOf (kd w) [(x, .int 1 t)] → Q (.ref DD) { s with heap := h', toks := tk' }) :
    wpAny (model PySem.Challenge.pw_pg0060_01 w) A (eval (.Dict [some kx] [vx] pos) env) Q E s := by
  have F1 := F.push ({ cls := .type "dict", data := .dict #[] } : Obj)
  have N1 := News.push F N ({ cls := .type "dict", data := .dict #[] } : Obj)
  refine wpAny_Dict_walk (knd := kd w) rfl rfl (List.cons_ne_nil _ _) (by show 1 ≤ 15; decide) ?_
  refine pairTrees_cons_walk ?_
  refine wpAny_mono (hk _ _ F1 N1) (fun key s₂ hkey => ?_) fun _ _ e => e
  obtain ⟨t, h₂, tk₂, rfl, rfl, hst⟩ := hkey
  refine hv h₂ tk₂ _ fun u tk₃ => ?_
  refine pairTrees_nil_walk ?_
  have hne : s.heap.objs.size ≠ L := (N1 _ (.head _)).2.1
  have hD2 := hst _ _ (N1 _ (.head _)).1
  refine ⟨[(x, .int 1 u)], ⟨isStr_mk x t, rfl, trivial⟩, Heap.dictOf_iff.mpr ⟨_, hD2, ⟨#[], 0, ⟨rfl, rfl, rfl⟩, rfl, fun e he => by simp at he, .nil, by simp⟩⟩, fun h' hd hs => ?_⟩
  obtain ⟨o, ho, hod⟩ := Heap.dictOf_iff.mp hd
  have fresh : g.get? s.heap.objs.size = none := (N1 _ (.head _)).2.2
  refine h _ h' _ o u ((F1.keeps hst).change hs hne fresh) (fun p hp => ?_) (fun p hp => Heap.lt_size (N p hp).1) (F.notModules hlow) hod
  rcases List.mem_cons.mp hp with rfl | hp
  · exact ⟨ho, hne, fresh⟩
  · have hp2 := N1 p (.tail _ hp)
    have hpne : p.1 ≠ s.heap.objs.size := Nat.ne_of_lt (Heap.lt_size (N p hp).1)
    exact ⟨(hs.2 _ hpne).trans (hst _ _ hp2.1), hp2.2⟩
end
end
section -- LLawG1
local macro_rules | `(tactic| walk_at "subscriptTail Name Name ref int") => `(tactic| walk_at "MINE stop")
local macro_rules | `(tactic| walk_at "setItem ref int ref") => `(tactic| walk_at "MINE stop")
local macro_rules | `(tactic| walk_at "eval Dict") => `(tactic| walk_at "MINE stop")
local macro_rules | `(tactic| walk_at "exec Assign cons IfExp") => `(tactic| walk_at "MINE stop")
local macro_rules | `(tactic| walk_at "binaryOp Add ref ref") => `(tactic| walk_at "MINE stop")
def AfterFresh (P : Heap → Int → Tok → Prop) (s : Shared) (f : Flow) (s' : Shared) : Prop := f = .next ∧ ∃ fr h' tk' tf, s' = { s with heap := h', toks := tk' } ∧ P h' fr tf
theorem paired_set {α β : Type} {F : α → β → Prop} : ∀ {l₁ : List α} {l₂ : List β}, Paired F l₁ l₂ → ∀ (p : Nat) {v : α} {x : β}, F v x → Paired F (l₁.set p v) (l₂.set p x) := by
  intro _ _ h
  induction h with
  | nil => intro p v x hv; exact .nil
  | cons a h ih =>
    intro p v x hv
    cases p with
    | zero => exact .cons hv h
    | succ p => exact .cons a (ih p hv)
theorem paired_snoc {α β : Type} {F : α → β → Prop} : ∀ {l₁ : List α} {l₂ : List β}, Paired F l₁ l₂ → ∀ {v : α} {x : β}, F v x → Paired F (l₁ ++ [v]) (l₂ ++ [x]) := by
  intro _ _ h
  induction h with
  | nil => intro v x hv; exact .cons hv .nil
  | cons a _ ih => intro v x hv; exact .cons a (ih hv)
theorem strs_at {vs : List Value} {ss : List Str} (h : StrsAre vs ss) : ∀ {i : Nat} {x : Str}, ss[i]? = some x → ∃ t, vs[i]? = some (.str x t) := by
  induction h with
  | nil => intro i x e; cases i <;> cases e
  | cons y t h ih =>
    intro i x e
    cases i with
    | zero => cases e; exact ⟨_, rfl⟩
    | succ i => exact ih e
inductive FreshSt (w : World) (g : Heap) (L Et : Addr) (p aN i : Nat) (t2 ti : Tok) (fr : Int) (who : Str) (tx dl dv sv cv ov trv : Value) (led rest : List (Addr × Obj)) (h : Heap) : Prop
  | mk (m5 : Str → Option Value) (sz : Int) (tsz tf5 tp5 : Tok) (oE : Obj) (F6 : Fr g L h m5) (n1 : m5 (Str.ofString "size") = some (.int sz tsz)) (n2 : m5 (Str.ofString "fresh") = some (.int fr tf5)) (n3 : m5 (Str.ofString "place") = some (.int (p : Int) tp5)) (n4 : m5 (Str.ofString "texts") = some tx)
      (n5 : m5 (Str.ofString "told") = some dv) (n6 : m5 (Str.ofString "seals") = some sv) (n7 : m5 (Str.ofString "comp") = some cv) (n8 : m5 (Str.ofString "order") = some ov) (n9 : m5 (Str.ofString "deeds") = some dl) (n10 : m5 (Str.ofString "tree") = some trv) (n11 : m5 (Str.ofString "ahead") = some (.int (aN : Int) t2))
      (n12 : m5 (Str.ofString "at") = some (.int (i : Int) ti)) (N6 : News g L h ((Et, oE) :: led)) (hent : EntR w (InL ((Et, oE) :: rest)) (.ref Et) (callEnt ⟨fr, sz, (i : Int), who⟩)) : FreshSt w g L Et p aN i t2 ti fr who tx dl dv sv cv ov trv led rest h
set_option maxRecDepth 100000 in
set_option maxHeartbeats 0 in
theorem turn1 {h : Heap} {I : Addr} {tk i : Nat} {c : K9} {own : List (Addr × Obj)} {oI : Obj} (hc : KOk (Classical.choose law_b).L (Classical.choose law_b).T c) (hI : (I, oI) ∈ own) (hoff : Off (Classical.choose law_b).L own) (hbl : ∀ p ∈ own, p.1 ≠ c.bl) (hi : i < (deedsOf (Classical.choose law_b).ns).length)
    (hm : Mid (Classical.choose law_b).w (Classical.choose law_b).g (Classical.choose law_b).L (Classical.choose law_b).T (Classical.choose law_b).ns c own I i (fun m => ∃ ti, m (Str.ofString "at") = some (.int (i : Int) ti)) h)
    (B' : Below callerA (Classical.choose law_b).g [] (Classical.choose law_b).g) (X' : (hd.heap_39 (Classical.choose law_b).w.params).In (Classical.choose law_b).g) (T' : Top topProg loG (Classical.choose law_b).mean (Classical.choose law_b).mg (Classical.choose law_b).mb (Classical.choose law_b).g) (h112 : @LT.lt Nat _ 112 (Classical.choose law_b).L) :
    wpAny (model PySem.Challenge.pw_pg0060_01 (Classical.choose law_b).w) (callerA.deeper (lawEnv (Classical.choose law_b).L (Classical.choose law_b).fa)) (execs (loopBody.take 2) (lawEnv (Classical.choose law_b).L (Classical.choose law_b).fa)) (Part (Mid (Classical.choose law_b).w (Classical.choose law_b).g (Classical.choose law_b).L (Classical.choose law_b).T (Classical.choose law_b).ns c own I (i + 1) (fun m => ∃ (p : Nat) (tp : Tok), p < 6 ∧ m (Str.ofString "place") = some (.int (p : Int) tp))) (Classical.choose law_b).s) noE { (Classical.choose law_b).s with heap := h, toks := tk } := by
  obtain ⟨o4, o3, oc, o1, ps, bl, fv, tv, dv, sv, cv, ov, lv, od⟩ := c
  obtain ⟨d4, d3, hord, bl4, bl3, bl2, bl1, blt⟩ := hc
  obtain ⟨m0, bvs, bn, rest, trv, bk, t, aN, t2, F0, N', hnI, ⟨e1, e2, e3, e4, e5, e6, e7, e8⟩, ha6, S, hbk, hab, htr, inv, ⟨ti, e9⟩⟩ := hm
  dsimp only at d4 d3 hord bl4 bl3 bl2 bl1 blt N' e1 e2 e3 e4 e5 e6 S hbk inv hbl
  have F' := fr_named F0 [(Str.ofString "texts", tv), (Str.ofString "told", dv), (Str.ofString "seals", sv), (Str.ofString "comp", cv), (Str.ofString "order", ov), (Str.ofString "deeds", lv), (Str.ofString "tree", trv), (Str.ofString "ahead", .int (aN : Int) t2), (Str.ofString "at", .int (i : Int) ti)] (by repeat (first | exact .nil | refine .cons (by assumption) ?_))
  clear F0 e1 e2 e3 e4 e5 e6 e7 e8 e9
  have hdl := deeds_len (Classical.choose law_b).ns
  cases id S.fns with
  | @mk fl fvs _ fn q3 q4 =>
  cases id S.txt with
  | @mk tl9 tvs _ tn q5 q6 =>
  cases id S.dds with
  | @mk dl dvs _ dn q1 q2 =>
  obtain ⟨dt, hdv⟩ := ints_at q2 (getD_some (deedsOf (Classical.choose law_b).ns) 0 hi)
  generalize hde : (deedsOf (Classical.choose law_b).ns).getD i 0 = de at hdv
  dsimp only [loopBody, lawBody, lawRec, recOf, List.take, List.drop, lawEnv, chain, List.foldr] at *
  refine post_gen fun Q9 hQ9 => ?_
  (try k_fold)
  k_steps
  refine Stop.mk ?_
  refine item_led N' (.tail _ (.tail _ (.tail _ (.tail _ (.tail _ (.tail _ (List.mem_append_right _ q1))))))) hdv (by omega) ?_ (by with_unfolding_all rfl)
  obtain ⟨p, hp6, hpe⟩ : ∃ p : Nat, p < 6 ∧ de.fmod 6 = (p : Int) := by
    have h1 := Int.fmod_nonneg_of_pos de (b := 6) (by decide)
    have h2 := Int.fmod_lt_of_pos de (b := 6) (by decide)
    exact ⟨(de.fmod 6).toNat, by omega, by omega⟩
  k_steps
  refine Stop.mk ?_
  rename_i h1 F1 N1
  rw [hpe] at F1
  refine item_led N1 (.tail _ (.tail _ (.tail _ (.tail _ (.tail _ (.tail _ (List.mem_append_right _ q1))))))) hdv (by omega) ?_ (by with_unfolding_all rfl)
  have hKr : ∀ a o, InL rest a o → h1.get? a = some o := fun a o q => (N1 _ (.tail _ (.tail _ (.tail _ (.tail _ (.tail _ (.tail _ (List.mem_append_right _ q)))))))).1
  k_steps
  · refine Stop.mk ?_
    have hsz6 := inv_size hord inv
    refine Does.at (drop_does (ss := sealsOf (Classical.choose law_b).T) (fs := fnsOf (Classical.choose law_b).T) rfl rfl (keys_cols (Classical.choose law_b).T) hp6 t S.fns.funs S.sls S.cmp htr inv.all) B' F1 X' T' (by omega) hKr fun r tl h4 tk4 hst htl hr => ?_
    have F8 := Fr.keeps F1 hst
    have N8 := news_tl F1 N1 hst htl
    have apart := tl_apart N1 htl
    have offt : Off (Classical.choose law_b).L tl := fun q hq => ⟨(apart (_, o4) (by walk_at "MINE mem") q hq).symm, (apart (_, o3) (by walk_at "MINE mem") q hq).symm, (apart (_, oc) (by walk_at "MINE mem") q hq).symm, (apart (_, o1) (by walk_at "MINE mem") q hq).symm, (apart ((112 : Addr), tabObj ps) (by walk_at "MINE mem") q hq).symm⟩
    have tlI : ∀ q ∈ tl, q.1 ≠ I := fun q hq => (apart (I, oI) (.tail _ (.tail _ (.tail _ (.tail _ (.tail _ (.tail _ (List.mem_append_left _ hI))))))) q hq).symm
    have tlb : ∀ q ∈ tl, q.1 ≠ bl := fun q hq => (apart (bl, listO bvs bn) (by walk_at "MINE mem") q hq).symm
    have N9 : News (Classical.choose law_b).g (Classical.choose law_b).L h4 (((Classical.choose law_b).L + 1 + 1 + 1 + 1, o4) :: ((Classical.choose law_b).L + 1 + 1 + 1, o3) :: ((Classical.choose law_b).L + 1 + 1, oc) :: ((Classical.choose law_b).L + 1, o1) :: (112, tabObj ps) :: (bl, listO bvs bn) :: (own ++ (tl ++ rest))) := News.sub N8 (by walk_at "MINE sub")
    have offR : Off (Classical.choose law_b).L (tl ++ rest) := offt.app hab
    have RI : ∀ q ∈ tl ++ rest, q.1 ≠ I := fun q hq => (List.mem_append.mp hq).elim (tlI q) (hnI q)
    have Rb : ∀ q ∈ tl ++ rest, q.1 ≠ bl := fun q hq => (List.mem_append.mp hq).elim (tlb q) (hbk.2 q)
    have upR : ∀ a o, InL rest a o → InL (tl ++ rest) a o := fun a o q => List.mem_append_right _ q
    have htr9 : TreeR (Classical.choose law_b).w (InL (tl ++ rest)) r _ := hr.mono fun a o q => q.elim (fun q => List.mem_append_right _ q) (fun q => List.mem_append_left _ q)
    clear N8 F1 N1 apart offt tlI tlb hr htl hst hKr
    generalize tl ++ rest = R1 at *
    have hbl6 : bvs.length = 6 := by rw [hbk.1.length]; exact inv.six
    k_steps
    refine Stop.mk ?_
    rename_i Dn h7 F6 N6 lD
    have N7 : News (Classical.choose law_b).g (Classical.choose law_b).L h7 ((bl, listO bvs bn) :: ((Classical.choose law_b).L + 1 + 1 + 1 + 1, o4) :: ((Classical.choose law_b).L + 1 + 1 + 1, o3) :: ((Classical.choose law_b).L + 1 + 1, oc) :: ((Classical.choose law_b).L + 1, o1) :: (112, tabObj ps) :: (Dn, listO [] 0) :: (own ++ R1)) := News.sub N6 (by walk_at "MINE sub")
    have nD : Dn ≠ bl := Nat.ne_of_gt (lD.2.2.2.2.2.1)
    have nI : Dn ≠ I := Nat.ne_of_gt (allLt_get (lD.2.2.2.2.2.2) (p := (I, oI)) (List.mem_append_left _ hI))
    have offn : Dn ≠ (Classical.choose law_b).L + 1 + 1 + 1 + 1 ∧ Dn ≠ (Classical.choose law_b).L + 1 + 1 + 1 ∧ Dn ≠ (Classical.choose law_b).L + 1 + 1 ∧ Dn ≠ (Classical.choose law_b).L + 1 ∧ Dn ≠ (112 : Addr) := ⟨Nat.ne_of_gt (lD.1), Nat.ne_of_gt (lD.2.1), Nat.ne_of_gt (lD.2.2.1), Nat.ne_of_gt (lD.2.2.2.1), Nat.ne_of_gt (lD.2.2.2.2.1)⟩
    refine book_set F6 N7 (mem_step bl4.symm (mem_step bl3.symm (mem_step bl2.symm (mem_step bl1.symm (mem_step blt.symm (mem_step nD (mem_app hbl Rb))))))) (by omega) (by omega) ?_
    intro h8 F8' N8'
    clear F6 N6 N7
    k_steps
    have upF : ∀ a o, InL R1 a o → InL ((Dn, listO [] 0) :: R1) a o := fun a o q => .tail _ q
    refine hQ9 _ _ (Part.of ⟨_, bvs.set p (.ref Dn), bn, (Dn, listO [] 0) :: R1, r, bk.set p [], _, aN, t2, F8', News.sub N8' (by walk_at "MINE sub"), mem_step nI RI, ⟨rfl, rfl, rfl, rfl, rfl, rfl, rfl, rfl⟩, ha6, S.mono fun a o q => upF _ _ (upR _ _ q),
      ⟨paired_set (pmono (fun _ _ x => x.mono fun a o q => upF _ _ (upR _ _ q)) hbk.1) p (.mk (vs := []) (n := 0) (.head _) .nil), mem_step nD Rb, bl4, bl3, bl2, bl1, blt⟩, mem_step offn offR, htr9.mono upF, inv_drop hord inv hp6, ⟨p, _, hp6, rfl⟩⟩)
  · refine Stop.mk ?_
    refine wpAny_mono (Q := AfterFresh (fun h' fr tf => ∃ tp2, Fr (Classical.choose law_b).g (Classical.choose law_b).L h' (fun y => if y = Str.ofString "fresh" then some (.int fr tf) else if y = Str.ofString "place" then some (.int (p : Int) tp2) else if y = Str.ofString "texts" then some (.ref tl9) else if y = Str.ofString "told" then some dv else if y = Str.ofString "seals" then some sv else if y = Str.ofString "comp" then some cv else if y = Str.ofString "order" then some ov else if y = Str.ofString "deeds" then some (.ref dl) else if y = Str.ofString "tree" then some trv else if y = Str.ofString "ahead" then some (.int (aN : Int) t2) else if y = Str.ofString "at" then some (.int (i : Int) ti) else m0 y) ∧
      News (Classical.choose law_b).g (Classical.choose law_b).L h' (((Classical.choose law_b).L + 1 + 1 + 1 + 1, o4) :: ((Classical.choose law_b).L + 1 + 1 + 1, o3) :: ((Classical.choose law_b).L + 1 + 1, oc) :: ((Classical.choose law_b).L + 1, o1) :: (112, tabObj ps) :: (bl, listO bvs bn) :: (own ++ rest))) (Classical.choose law_b).s) (E := noE) ?_ ?_ (fun _ _ e => e)
    · walk_at "exec Assign"
      k_steps
      all_goals exact ⟨rfl, _, _, _, _, rfl, _, by k_asm, by k_asm⟩
    · rintro f s' ⟨rfl, fr, h2, tk2, tf, rfl, tp2, F2, N2⟩
      dsimp only
      clear F1 N1
      k_steps
      refine Stop.mk ?_
      refine item_led N2 (.tail _ (.tail _ (.tail _ (.tail _ (.tail _ (.tail _ (List.mem_append_right _ q1))))))) hdv (by omega) ?_ (by with_unfolding_all rfl)
      k_steps
      refine Stop.mk ?_
      rename_i hA FA NA
      have haf : aN < (fnsOf (Classical.choose law_b).T).length := ha6
      have zz := fns_small (Classical.choose law_b).T _ (List.mem_of_getElem? (getD_some (fnsOf (Classical.choose law_b).T) ⟨⟨#[]⟩, 0, ⟨#[]⟩⟩ haf))
      obtain ⟨fv9, hf1, hf2⟩ := paired_getR q4 (getD_some (fnsOf (Classical.choose law_b).T) ⟨⟨#[]⟩, 0, ⟨#[]⟩⟩ haf)
      refine dict1 (x := stdText ((fnsOf (Classical.choose law_b).T).getD aN ⟨⟨#[]⟩, 0, ⟨#[]⟩⟩)) FA NA (modules_low T'.nolimit) ?dk ?dv ?dq
      case dk =>
        intro h₁ DD FD ND
        clear FA NA
        have hKD : ∀ a o, InL rest a o → h₁.get? a = some o := fun a o q => (ND _ (.tail _ (.tail _ (.tail _ (.tail _ (.tail _ (.tail _ (.tail _ (List.mem_append_right _ q))))))))).1
        k_steps
        refine Stop.mk ?_
        refine item_led ND (.tail _ (.tail _ (.tail _ (.tail _ (.tail _ (.tail _ (.tail _ (List.mem_append_right _ q3)))))))) hf1 (by omega) ?_ (by with_unfolding_all rfl)
        k_steps
        refine Stop.mk ?_
        refine Does.at (std_does hf2 (zz.1) (zz.2.1) ⟨(zz.2.2.1), (zz.2.2.2)⟩) B' FD X' T' (by decide) hKD fun r tl h' tk' hst htl hr => ?_
        obtain ⟨u, rfl⟩ := hr
        exact ⟨u, h', tk', rfl, rfl, hst⟩
      case dv =>
        intro h₂ tk₂ Q' hQ'
        k_steps
        exact hQ' _ _
      case dq =>
        intro DD h3 tk3 oD t3 F3 N3 lD hlo hod
        clear FA NA
        k_steps
        refine Stop.mk ?_
        rename_i Et hE lE hF F5 N5
        generalize hwho : stdText ((fnsOf (Classical.choose law_b).T).getD aN ⟨⟨#[]⟩, 0, ⟨#[]⟩⟩) = who at hod
        obtain ⟨m5, sz, tsz, tf5, tp5, oE, F6, n1, n2, n3, n4, n5, n6, n7, n8, n9, n10, n11, n12, N6, hent⟩ : FreshSt (Classical.choose law_b).w (Classical.choose law_b).g (Classical.choose law_b).L Et p aN i t2 ti fr who (.ref tl9) (.ref dl) dv sv cv ov trv ((DD, oD) :: ((Classical.choose law_b).L + 1 + 1 + 1 + 1, o4) :: ((Classical.choose law_b).L + 1 + 1 + 1, o3) :: ((Classical.choose law_b).L + 1 + 1, oc) :: ((Classical.choose law_b).L + 1, o1) :: (112, tabObj ps) :: (bl, listO bvs bn) :: (own ++ rest)) ((DD, oD) :: rest) hF :=
          ⟨_, _, _, _, _, _, F5, rfl, rfl, rfl, rfl, rfl, rfl, rfl, rfl, rfl, rfl, rfl, rfl, N5, .mk (.head _) (.mk (.tail _ (.head _)) hod hlo (.cons .nil))⟩
        clear F5 N5
        have F7 := fr_named F6 [(Str.ofString "size", .int sz tsz), (Str.ofString "fresh", .int fr tf5), (Str.ofString "place", .int (p : Int) tp5), (Str.ofString "texts", .ref tl9), (Str.ofString "told", dv), (Str.ofString "seals", sv), (Str.ofString "comp", cv), (Str.ofString "order", ov), (Str.ofString "deeds", .ref dl), (Str.ofString "ahead", .int (aN : Int) t2), (Str.ofString "at", .int (i : Int) ti)] (by repeat (first | exact .nil | refine .cons (by assumption) ?_))
        dsimp only [chain, List.foldr] at F7
        clear F6 n1 n2 n3 n4 n5 n6 n7 n8 n9 n10 n11 n12
        have up5 : ∀ a o, InL rest a o → InL ((Et, oE) :: (DD, oD) :: rest) a o := fun a o q => .tail _ (.tail _ q)
        have hK5 : ∀ a o, InL ((Et, oE) :: (DD, oD) :: rest) a o → hF.get? a = some o := fun a o q => by
          rcases List.mem_cons.mp q with q | q
          · cases q; exact (N6 _ (.head _)).1
          · rcases List.mem_cons.mp q with q | q
            · cases q; exact (N6 _ (.tail _ (.head _))).1
            · exact (N6 _ (.tail _ (.tail _ (.tail _ (.tail _ (.tail _ (.tail _ (.tail _ (.tail _ (List.mem_append_right _ q)))))))))).1
        have hsz6 := inv_size hord inv
        refine Does.at (put_does (ss := sealsOf (Classical.choose law_b).T) (fs := fnsOf (Classical.choose law_b).T) (x := callEnt ⟨fr, sz, (i : Int), who⟩) rfl rfl (keys_cols (Classical.choose law_b).T) hp6 (by show 1 ≤ 100; decide) t (S.fns.funs.mono up5) (S.sls.mono up5) (S.cmp.mono up5) hent (htr.mono up5) inv.all (inv_few inv (by omega))) B' F7 X' T' (by omega) hK5 fun r tl h4 tk4 hst htl hr => ?_
        have F8 := Fr.keeps F7 hst
        have N8 := news_tl F7 N6 hst htl
        have apart := tl_apart N6 htl
        have offt : Off (Classical.choose law_b).L tl := fun q hq => ⟨(apart (_, o4) (by walk_at "MINE mem") q hq).symm, (apart (_, o3) (by walk_at "MINE mem") q hq).symm, (apart (_, oc) (by walk_at "MINE mem") q hq).symm, (apart (_, o1) (by walk_at "MINE mem") q hq).symm, (apart ((112 : Addr), tabObj ps) (by walk_at "MINE mem") q hq).symm⟩
        have tlI : ∀ q ∈ tl, q.1 ≠ I := fun q hq => (apart (I, oI) (.tail _ (.tail _ (.tail _ (.tail _ (.tail _ (.tail _ (.tail _ (.tail _ (List.mem_append_left _ hI))))))))) q hq).symm
        have tlb : ∀ q ∈ tl, q.1 ≠ bl := fun q hq => (apart (bl, listO bvs bn) (by walk_at "MINE mem") q hq).symm
        have EI : Et ≠ I := Nat.ne_of_gt (allLt_get (lE.2.2.2.2.2.2.2) (p := (I, oI)) (List.mem_append_left _ hI))
        have DI : DD ≠ I := Nat.ne_of_gt (lD (I, oI) (.tail _ (.tail _ (.tail _ (.tail _ (.tail _ (.tail _ (List.mem_append_left _ hI))))))))
        have offE : Et ≠ (Classical.choose law_b).L + 1 + 1 + 1 + 1 ∧ Et ≠ (Classical.choose law_b).L + 1 + 1 + 1 ∧ Et ≠ (Classical.choose law_b).L + 1 + 1 ∧ Et ≠ (Classical.choose law_b).L + 1 ∧ Et ≠ (112 : Addr) := ⟨Nat.ne_of_gt (lE.2.1), Nat.ne_of_gt (lE.2.2.1), Nat.ne_of_gt (lE.2.2.2.1), Nat.ne_of_gt (lE.2.2.2.2.1), Nat.ne_of_gt (lE.2.2.2.2.2.1)⟩
        have offD : DD ≠ (Classical.choose law_b).L + 1 + 1 + 1 + 1 ∧ DD ≠ (Classical.choose law_b).L + 1 + 1 + 1 ∧ DD ≠ (Classical.choose law_b).L + 1 + 1 ∧ DD ≠ (Classical.choose law_b).L + 1 ∧ DD ≠ (112 : Addr) := ⟨Nat.ne_of_gt (lD (_, o4) (by walk_at "MINE mem")), Nat.ne_of_gt (lD (_, o3) (by walk_at "MINE mem")), Nat.ne_of_gt (lD (_, oc) (by walk_at "MINE mem")), Nat.ne_of_gt (lD (_, o1) (by walk_at "MINE mem")), Nat.ne_of_gt (lD ((112 : Addr), tabObj ps) (by walk_at "MINE mem"))⟩
        have Eb : Et ≠ bl := Nat.ne_of_gt (lE.2.2.2.2.2.2.1)
        have Db : DD ≠ bl := Nat.ne_of_gt (lD (bl, listO bvs bn) (by walk_at "MINE mem"))
        have N9 : News (Classical.choose law_b).g (Classical.choose law_b).L h4 (((Classical.choose law_b).L + 1 + 1 + 1 + 1, o4) :: ((Classical.choose law_b).L + 1 + 1 + 1, o3) :: ((Classical.choose law_b).L + 1 + 1, oc) :: ((Classical.choose law_b).L + 1, o1) :: (112, tabObj ps) :: (bl, listO bvs bn) :: (own ++ (tl ++ (Et, oE) :: (DD, oD) :: rest))) := News.sub N8 (by walk_at "MINE sub")
        have offR : Off (Classical.choose law_b).L (tl ++ (Et, oE) :: (DD, oD) :: rest) := mem_app offt (mem_step offE (mem_step offD hab))
        have RI : ∀ q ∈ tl ++ (Et, oE) :: (DD, oD) :: rest, q.1 ≠ I := mem_app tlI (mem_step EI (mem_step DI hnI))
        have Rb : ∀ q ∈ tl ++ (Et, oE) :: (DD, oD) :: rest, q.1 ≠ bl := mem_app tlb (mem_step Eb (mem_step Db hbk.2))
        have upR : ∀ a o, InL rest a o → InL (tl ++ (Et, oE) :: (DD, oD) :: rest) a o := fun a o q => List.mem_append_right _ (.tail _ (.tail _ q))
        have htr9 : TreeR (Classical.choose law_b).w (InL (tl ++ (Et, oE) :: (DD, oD) :: rest)) r _ := hr.mono fun a o q => q.elim (fun q => List.mem_append_right _ q) (fun q => List.mem_append_left _ q)
        clear N6 N8 F7 apart offt tlI tlb EI DI offE offD Eb Db hr htl hst hent up5 hK5 lE lD
        generalize tl ++ (Et, oE) :: (DD, oD) :: rest = R1 at *
        have hbl6 : bvs.length = 6 := by rw [hbk.1.length]; exact inv.six
        obtain ⟨bv, hb1, hb2⟩ := paired_getR hbk.1 (getD_some bk [] (show p < bk.length by rw [inv.six]; exact hp6))
        have hwt : (textsOf (Classical.choose law_b).T)[aN]? = some who := by
          rw [← texts_are, List.getElem?_map, getD_some (fnsOf (Classical.choose law_b).T) ⟨⟨#[]⟩, 0, ⟨#[]⟩⟩ haf, Option.map_some, hwho]
        obtain ⟨tw, htw⟩ := strs_at q6 hwt
        generalize hcs : bk.getD p [] = calls at hb2
        cases hb2 with
        | @mk ca cvs _ cn m1 m2 =>
        have m1R := upR _ _ m1
        have q5R := upR _ _ q5
        have hcl : calls.length ≤ i := by
          rw [← hcs]
          have hpl : p < bk.length := by rw [inv.six]; exact hp6
          exact inv.few _ (by rw [List.getD_eq_getElem?_getD, List.getElem?_eq_getElem hpl]; exact List.getElem_mem hpl)
        k_steps
        refine Stop.mk ?_
        refine item_led (by k_asm) (.tail _ (.tail _ (.tail _ (.tail _ (.tail _ (.head _)))))) hb1 (by omega) ?_ (by with_unfolding_all rfl)
        k_steps
        refine Stop.mk ?_
        refine item_led (by k_asm) (.tail _ (.tail _ (.tail _ (.tail _ (.tail _ (.tail _ (List.mem_append_right _ q5R))))))) htw (by omega) ?_ (by with_unfolding_all rfl)
        k_steps
        refine Stop.mk ?_
        rename_i Dt hT lT Dl hL FL NL lL
        have NLs : ∀ q ∈ ((Dl, listOf #[Value.ref Dt] 0) :: (Dt, tupO [Value.int fr tf5, Value.int sz tsz, Value.int (i : Int) ti, Value.str who tw]) :: ((Classical.choose law_b).L + 1 + 1 + 1 + 1, o4) :: ((Classical.choose law_b).L + 1 + 1 + 1, o3) :: ((Classical.choose law_b).L + 1 + 1, oc) :: ((Classical.choose law_b).L + 1, o1) :: (112, tabObj ps) :: (bl, listO bvs bn) :: (own ++ R1)), @LT.lt Nat _ q.1 hL.objs.size := fun q hq => Heap.lt_size (NL q hq).1
        refine add_arrays (its := cvs.toArray) (its2 := #[Value.ref Dt]) FL NL ⟨_, (NL (ca, listO cvs cn) (.tail _ (.tail _ (.tail _ (.tail _ (.tail _ (.tail _ (.tail _ (.tail _ (List.mem_append_right _ m1R)))))))))).1, rfl, _, rfl⟩ ⟨_, (NL _ (.head _)).1, rfl, _, rfl⟩ ?_ (by rw [sizeLine_eq]; exact Nat.le_trans (Nat.add_le_add_right (Nat.le_of_eq m2.length) 1) (by omega))
        intro h6 F6 N6
        generalize hL.objs.size = Dn at *
        have F6' := F6
        have N7 : News (Classical.choose law_b).g (Classical.choose law_b).L h6 ((bl, listO bvs bn) :: ((Classical.choose law_b).L + 1 + 1 + 1 + 1, o4) :: ((Classical.choose law_b).L + 1 + 1 + 1, o3) :: ((Classical.choose law_b).L + 1 + 1, oc) :: ((Classical.choose law_b).L + 1, o1) :: (112, tabObj ps) :: (Dl, listOf #[Value.ref Dt] 0) :: (Dn, listO (cvs ++ [.ref Dt]) 0) :: (Dt, tupO [Value.int fr tf5, Value.int sz tsz, Value.int (i : Int) ti, Value.str who tw]) :: (own ++ R1)) := News.sub N6 (by walk_at "MINE sub")
        have nD : Dn ≠ bl := Nat.ne_of_gt (NLs (bl, listO bvs bn) (by walk_at "MINE mem"))
        have nI : Dn ≠ I := Nat.ne_of_gt (NLs (I, oI) (.tail _ (.tail _ (.tail _ (.tail _ (.tail _ (.tail _ (.tail _ (.tail _ (List.mem_append_left _ hI))))))))))
        have offn : Dn ≠ (Classical.choose law_b).L + 1 + 1 + 1 + 1 ∧ Dn ≠ (Classical.choose law_b).L + 1 + 1 + 1 ∧ Dn ≠ (Classical.choose law_b).L + 1 + 1 ∧ Dn ≠ (Classical.choose law_b).L + 1 ∧ Dn ≠ (112 : Addr) := ⟨Nat.ne_of_gt (NLs (_, o4) (by walk_at "MINE mem")), Nat.ne_of_gt (NLs (_, o3) (by walk_at "MINE mem")), Nat.ne_of_gt (NLs (_, oc) (by walk_at "MINE mem")), Nat.ne_of_gt (NLs (_, o1) (by walk_at "MINE mem")), Nat.ne_of_gt (NLs ((112 : Addr), tabObj ps) (by walk_at "MINE mem"))⟩
        have tI : Dt ≠ I := Nat.ne_of_gt (allLt_get (lT.2.2.2.2.2.2) (p := (I, oI)) (List.mem_append_left _ hI))
        have tb : Dt ≠ bl := Nat.ne_of_gt (lT.2.2.2.2.2.1)
        have offt : Dt ≠ (Classical.choose law_b).L + 1 + 1 + 1 + 1 ∧ Dt ≠ (Classical.choose law_b).L + 1 + 1 + 1 ∧ Dt ≠ (Classical.choose law_b).L + 1 + 1 ∧ Dt ≠ (Classical.choose law_b).L + 1 ∧ Dt ≠ (112 : Addr) := ⟨Nat.ne_of_gt (lT.1), Nat.ne_of_gt (lT.2.1), Nat.ne_of_gt (lT.2.2.1), Nat.ne_of_gt (lT.2.2.2.1), Nat.ne_of_gt (lT.2.2.2.2.1)⟩
        have lb : Dl ≠ bl := Nat.ne_of_gt lL.2.2.2.2.2.2.1
        clear FL NL
        k_steps
        refine Stop.mk ?_
        refine book_set (by k_asm) N7 (mem_step bl4.symm (mem_step bl3.symm (mem_step bl2.symm (mem_step bl1.symm (mem_step blt.symm (mem_step lb (mem_step nD (mem_step tb (mem_app hbl Rb))))))))) (by omega) (by omega) ?_
        intro h7 F8 N8
        clear F6 F6' N6 N7
        k_steps
        have inv9 := inv_put hord inv hp6 ⟨fr, sz, (i : Int), who⟩
        rw [hcs] at inv9
        have upF : ∀ a o, InL R1 a o → InL ((Dn, listO (cvs ++ [.ref Dt]) 0) :: (Dt, tupO [Value.int fr tf5, Value.int sz tsz, Value.int (i : Int) ti, Value.str who tw]) :: R1) a o := fun a o q => .tail _ (.tail _ q)
        refine hQ9 _ _ (Part.of ⟨_, bvs.set p (.ref Dn), bn, (Dn, listO (cvs ++ [.ref Dt]) 0) :: (Dt, tupO [Value.int fr tf5, Value.int sz tsz, Value.int (i : Int) ti, Value.str who tw]) :: R1, r, bk.set p (calls ++ [⟨fr, sz, (i : Int), who⟩]), _, aN, t2, F8, News.sub N8 (by walk_at "MINE sub"), mem_step nI (mem_step tI RI), ⟨rfl, rfl, rfl, rfl, rfl, rfl, rfl, rfl⟩, ha6, S.mono fun a o q => upF _ _ (upR _ _ q),
          ⟨paired_set (pmono (fun _ _ x => x.mono fun a o q => upF _ _ (upR _ _ q)) hbk.1) p (.mk (.head _) (paired_snoc (pmono (fun _ _ x => x.mono fun a o q => upF _ _ (upR _ _ q)) m2) (.mk (.tail _ (.head _))))), mem_step nD (mem_step tb Rb), bl4, bl3, bl2, bl1, blt⟩, mem_step offn (mem_step offt offR), htr9.mono upF, inv9, ⟨p, tp5, hp6, rfl⟩⟩)
end
section -- LLawG2
local macro_rules | `(tactic| walk_at "eval Name") => `(tactic| walk_at "MINE name")
local macro_rules | `(tactic| walk_at "eval ListComp") => `(tactic| walk_at "MINE stop")
local macro_rules | `(tactic| walk_at "subscriptTail Name Name ref int") => `(tactic| walk_at "MINE stop")
local macro_rules | `(tactic| walk_at "compareOp NotEq ref ref") => `(tactic| walk_at "MINE stop")
def standsV (bk : List (List Call1)) (v : Value) : Bool := match v with
  | .int n _ => !(bk.getD n.toNat []).isEmpty
  | _ => false
theorem ints_filter {bk : List (List Call1)} : ∀ {ovs : List Value} {ord : List Nat}, IntsAre ovs (ord.map fun (k : Nat) => (k : Int)) → IntsAre (ovs.filter (standsV bk)) ((rowOf ord bk).map fun (k : Nat) => (k : Int))
  | _, [], h => by cases h; exact .nil
  | _, k :: ord, h => by
    obtain ⟨t, vs', rfl, h'⟩ := IntsAre.cons_inv h
    have ih := ints_filter (bk := bk) h'
    unfold rowOf at ih ⊢
    have e : standsV bk (.int (k : Int) t) = !(bk.getD k []).isEmpty := by simp [standsV]
    rw [List.filter_cons, List.filter_cons, e]
    cases (!(bk.getD k []).isEmpty) with
    | true => simp only [if_true, List.map_cons]; exact .cons _ _ ih
    | false => simp only [Bool.false_eq_true, if_false]; exact ih
theorem same_of {P : Value → Value → Prop} (hP : ∀ v y, P v y → y = v) : ∀ {a b : List Value}, Paired P a b → b = a
  | _, _, .nil => rfl
  | _, _, .cons h t => by rw [hP _ _ h, same_of hP t]
theorem test_one {M : Model} {A : Around} {E : Value → Shared → Prop} {s : Shared} {c : Expr} {env : Env} {Q : Bool → Shared → Prop} (h : wpAny M A (isTrue c env (eval c env)) Q E s) :
    wpAny M A (forIn [c] true fun c r => if r = true then do let ok ← isTrue c env (eval c env); pure (ForInStep.yield ok) else pure (ForInStep.yield r)) Q E s := by
  rw [List.forIn_cons]
  simp only [if_true]
  refine wpAny_bind (wpAny_bind (wpAny_mono h (fun ok s' hq => wpAny_pure ?_) fun _ _ e => e))
  show wpAny M A (forIn [] ok _) Q E s'
  rw [List.forIn_nil]
  exact wpAny_pure hq
theorem ne_nil {prog : Program} {w : World} {A : Around} {E : Value → Shared → Prop} {s : Shared} {l b : Addr} {vs : List Value} {Q : Value → Shared → Prop} (hl : s.heap.IsList l vs.toArray) (hb : s.heap.IsList b #[]) (hu : A.units < cLine) (h : Q (.bool (!vs.isEmpty)) s) :
    wpAny (model prog w) A (compareOp .NotEq (.ref l) (.ref b)) Q E s := by
  cases vs with
  | nil => exact SeqAt.RcNeAt.lists (e := fun _ => true) hl hb rfl hu (fun j h1 _ => absurd h1 (Nat.not_lt_zero _)) prog w E Q h
  | cons v r => exact SeqAt.RcNeAt.lists_lengths hl hb (by simp) hu prog w E Q h
set_option maxRecDepth 100000 in
set_option maxHeartbeats 0 in
theorem turn2 {h : Heap} {I : Addr} {tk i : Nat} {c : K9} {own : List (Addr × Obj)} {oI : Obj} (hc : KOk (Classical.choose law_b).L (Classical.choose law_b).T c) (hI : (I, oI) ∈ own) (hi : i ≤ 13)
    (hIc : ∀ a ∈ [(Classical.choose law_b).L + 1 + 1 + 1 + 1, (Classical.choose law_b).L + 1 + 1 + 1, (Classical.choose law_b).L + 1 + 1, (Classical.choose law_b).L + 1, (112 : Addr), c.bl], a ≠ I)
    (hm : Mid (Classical.choose law_b).w (Classical.choose law_b).g (Classical.choose law_b).L (Classical.choose law_b).T (Classical.choose law_b).ns c own I i (fun m => ∃ (p : Nat) (tp : Tok), p < 6 ∧ m (Str.ofString "place") = some (.int (p : Int) tp)) h)
    (B' : Below callerA (Classical.choose law_b).g [] (Classical.choose law_b).g) (X' : (hd.heap_39 (Classical.choose law_b).w.params).In (Classical.choose law_b).g) (T' : Top topProg loG (Classical.choose law_b).mean (Classical.choose law_b).mg (Classical.choose law_b).mb (Classical.choose law_b).g) (h112 : @LT.lt Nat _ 112 (Classical.choose law_b).L) :
    wpAny (model PySem.Challenge.pw_pg0060_01 (Classical.choose law_b).w) (callerA.deeper (lawEnv (Classical.choose law_b).L (Classical.choose law_b).fa)) (execs (loopBody.drop 2) (lawEnv (Classical.choose law_b).L (Classical.choose law_b).fa)) (TurnEnd (Classical.choose law_b).g (Classical.choose law_b).L [I] own (JG (Classical.choose law_b).w (Classical.choose law_b).L (Classical.choose law_b).T (Classical.choose law_b).ns c i) (Classical.choose law_b).s (fun _ _ => False)) noE { (Classical.choose law_b).s with heap := h, toks := tk } := by
  obtain ⟨o4, o3, oc, o1, ps, bl, fv, tv, dv, sv, cv, ov, lv, od⟩ := c
  obtain ⟨d4, d3, hord, bl4, bl3, bl2, bl1, blt⟩ := hc
  obtain ⟨m0, bvs, bn, rest, trv, bk, t, aN, t2, F0, N', hnI, ⟨e1, e2, e3, e4, e5, e6, e7, e8⟩, ha6, S, hbk, hab, htr, inv, ⟨p, tp, hp6, e9⟩⟩ := hm
  dsimp only at d4 d3 hord bl4 bl3 bl2 bl1 blt N' e1 e2 e3 e4 e5 e6 S hbk inv hIc
  have F' := fr_named F0 [(Str.ofString "texts", tv), (Str.ofString "told", dv), (Str.ofString "seals", sv), (Str.ofString "comp", cv), (Str.ofString "order", ov), (Str.ofString "deeds", lv), (Str.ofString "tree", trv), (Str.ofString "place", .int (p : Int) tp)] (by repeat (first | exact .nil | refine .cons (by assumption) ?_))
  clear F0 e1 e2 e3 e4 e5 e6 e7 e8 e9
  cases id S.odr with
  | @mk oa ovs _ on q1 q2 =>
  dsimp only [loopBody, lawBody, lawRec, recOf, List.take, List.drop, lawEnv, chain, List.foldr] at *
  refine post_gen fun Q9 hQ9 => ?_
  (try k_fold)
  k_steps
  refine Stop.mk ?_
  rename_i h1 F1 N1
  have HB : h1.get? bl = some (listO bvs bn) := (N1 _ (.tail _ (.tail _ (.tail _ (.tail _ (.tail _ (.head _))))))).1
  have HBL : h1.IsList bl bvs.toArray := ⟨_, HB, rfl, _, rfl⟩
  have HBC : h1.IsCell ((Classical.choose law_b).L + 1 + 1 + 1) (some (.ref bl)) := ⟨o3, (N1 _ (.tail _ (.head _))).1, d3⟩
  have HO : h1.IsList oa ovs.toArray := ⟨_, (N1 (oa, listO ovs on) (.tail _ (.tail _ (.tail _ (.tail _ (.tail _ (.tail _ (List.mem_append_right _ q1)))))))).1, rfl, _, rfl⟩
  have hKr : ∀ a o, InL rest a o → h1.get? a = some o := fun a o q => (N1 _ (.tail _ (.tail _ (.tail _ (.tail _ (.tail _ (.tail _ (List.mem_append_right _ q)))))))).1
  have hol : od.length = 6 := hord.1.length_eq
  have hvl : ovs.length = 6 := by rw [q2.length, List.length_map, hol]
  refine comp_list (cl := [(Str.ofString "book", (Classical.choose law_b).L + 1 + 1 + 1)]) (l := oa) (vs := ovs) (standsV bk) (fun _ _ => False) (fun _ v y => y = v) ?c1 ?c2 ?c3 ?c4 ?c5 ?c6 ?c7 ?c8 ?c9 ?c10 ?c11 ?c12 ?c13
  case c1 => exact rfl
  case c2 => exact HO
  case c3 => omega
  case c4 => exact fun _ _ _ _ _ h => h
  case c5 => exact rfl
  case c6 => decide
  case c7 => exact rfl
  case c8 => decide
  case c9 => exact rfl
  case c10 => exact fun _ => rfl
  case c11 => intro Q9 h9; k_steps; exact h9
  case c12 =>
    refine ⟨?_, ?_⟩
    · intro C j v h₃ tk₃ m₃ ow hv F₃ N₃ hm₃
      have hj6 : j < 6 := by rw [← hvl]; exact (List.getElem?_eq_some_iff.mp hv).1
      obtain ⟨t8, ht8⟩ := ints_at q2 (i := j) (n := ((od.getD j 0 : Nat) : Int)) (by rw [List.getElem?_map, getD_map (by omega)]; rfl)
      rw [ht8] at hv
      cases hv
      have hk6 : od.getD j 0 < 6 := by
        have : od.getD j 0 ∈ od := List.mem_of_getElem? (getD_map (by omega))
        have := hord.1.mem_iff.mp this
        simp only [List.mem_cons, List.not_mem_nil, or_false] at this
        omega
      generalize od.getD j 0 = kk at *
      obtain ⟨bv, hb1, hb2⟩ := paired_getR hbk.1 (getD_some bk [] (show kk < bk.length by rw [inv.six]; exact hk6))
      have hst : standsV bk (.int (kk : Int) t8) = !(bk.getD kk []).isEmpty := by simp [standsV]
      rw [hst]
      generalize bk.getD kk [] = calls at hb2 ⊢
      cases hb2 with
      | @mk ca cvs _ cn m1 m2 =>
      have HC3 : h₃.IsCell ((Classical.choose law_b).L + 1 + 1 + 1) (some (.ref bl)) := IsCell.mono F₃.keep HBC
      have HB3 : h₃.IsList bl bvs.toArray := stays_list F₃.keep HBL
      have HCA : h1.IsList ca cvs.toArray := ⟨_, hKr _ _ m1, rfl, _, rfl⟩
      have F3 := And.intro trivial F₃
      rw [know_map1 hm₃] at F₃
      clear F1 N1
      refine test_one ?_
      k_steps
      refine Stop.mk ?_
      refine item_base HB3 hb1 (by omega) ?_ (by with_unfolding_all rfl)
      k_steps
      refine Stop.mk ?_
      rename_i Dn hn Fn Nn ln
      refine ne_nil (stays_list Fn.keep HCA) ⟨_, (Nn _ (.head _)).1, rfl, _, rfl⟩ (by ktr_units) ?_
      have hem : cvs.isEmpty = calls.isEmpty := by
        have := m2.length
        cases cvs <;> cases calls <;> simp_all
      rw [hem]
      k_steps
      exact ⟨rfl, _, _, [(Dn, _)], rfl, by rw [know_map1 hm₃]; exact Fn, Nn⟩
    · intro C j v h₃ tk₃ m₃ ow hv _ F₃ N₃ hm₃
      refine nameC_L F₃.ns hm₃ (EltEnd.of [] F₃ N₃ (fun q hq => nomatch hq) rfl) rfl rfl (by decide)
  case c13 =>
    intro D h2 tk2 ys n tl hD hD' hst htl hp
    have hys := same_of (fun v y h => h) hp
    have hints := ints_filter (bk := bk) q2
    rw [← hys] at hints
    have F2 := Fr.keeps F1 hst
    have N2 : News (Classical.choose law_b).g (Classical.choose law_b).L h2 ((D, listO ys n) :: ((Classical.choose law_b).L + 1 + 1 + 1 + 1, o4) :: ((Classical.choose law_b).L + 1 + 1 + 1, o3) :: ((Classical.choose law_b).L + 1 + 1, oc) :: ((Classical.choose law_b).L + 1, o1) :: (112, tabObj ps) :: (bl, listO bvs bn) :: (own ++ rest)) := News.sub (comp_news F1 N1 hst hD hD' htl) fun q hq => by
      rcases List.mem_cons.mp hq with rfl | hq
      · exact .head _
      · exact .tail _ (List.mem_append_right _ hq)
    clear F1 N1 HB HBL HBC HO hKr hst htl hp hD hD'
    k_steps
    refine Stop.mk ?_
    have hKt : ∀ a o, InL ((D, listO ys n) :: (bl, listO bvs bn) :: rest) a o → h2.get? a = some o := fun a o q => by
      rcases List.mem_cons.mp q with q | q
      · cases q; exact (N2 _ (.head _)).1
      · rcases List.mem_cons.mp q with q | q
        · cases q; exact (N2 _ (.tail _ (.tail _ (.tail _ (.tail _ (.tail _ (.tail _ (.head _)))))))).1
        · exact (N2 _ (.tail _ (.tail _ (.tail _ (.tail _ (.tail _ (.tail _ (.tail _ (List.mem_append_right _ q))))))))).1
    have upt : ∀ a o, InL rest a o → InL ((D, listO ys n) :: (bl, listO bvs bn) :: rest) a o := fun a o q => .tail _ (.tail _ q)
    have hrl := row_len hord bk
    refine Does.at (told_does (ss := sealsOf (Classical.choose law_b).T) rfl inv.six (fun cs hcs => by have := inv.few cs hcs; omega) 7 (S.tld.mono upt) (.mk (.tail _ (.head _)) (pmono (fun _ _ x => x.mono upt) hbk.1)) (.mk (.head _) hints) (row_six hord bk) (by omega) (by decide)) B' F2 X' T' (by decide) hKt fun r tl2 h3 tk3 hst3 htl3 hr => ?_
    have F3 := Fr.keeps F2 hst3
    have N3 : News (Classical.choose law_b).g (Classical.choose law_b).L h3 (own ++ (((Classical.choose law_b).L + 1 + 1 + 1 + 1, o4) :: ((Classical.choose law_b).L + 1 + 1 + 1, o3) :: ((Classical.choose law_b).L + 1 + 1, oc) :: ((Classical.choose law_b).L + 1, o1) :: (112, tabObj ps) :: (bl, listO bvs bn) :: rest)) := News.sub (news_tl F2 N2 hst3 htl3) (by walk_at "MINE sub")
    refine tree_ne (inv_told hord inv) (fun a o q => hst3 _ _ (hKt _ _ (upt _ _ q))) (fun a o q => q.elim (fun q => hst3 _ _ (hKt _ _ q)) fun q => (htl3 (a, o) q).1) htr hr (by have := depth_size t; have := inv_size hord inv; show 7 + t.depth + 2 < 9900; omega) ?_
    clear F2 N2
    k_steps
    refine hQ9 _ _ (TurnEnd.next F3 N3 ?_ ⟨bvs, bn, rest, trv, bk, t, p, tp, rfl, ⟨rfl, rfl, rfl, rfl, rfl, rfl, rfl, rfl⟩, hp6, S, hbk, hab, htr, inv⟩)
    iterate 6 refine mem_step (fun hm => hIc _ (by walk_at "MINE mem") (List.mem_singleton.mp hm)) ?_
    exact fun q hq hm => hnI q hq (List.mem_singleton.mp hm)
end
section -- LLawG
inductive PhiG (g : Heap) (L : Addr) (h' : Heap) : Prop
  | mk (m' : Str → Option Value) (news : List (Addr × Obj)) (ps : Array Value)
    (k0 : Fr g L h' m')
    (k1 : News g L h' news)
    (k2 : ((112 : Addr), tabObj ps) ∈ news) : PhiG g L h'
theorem range_up (n : Nat) (hn : n ≤ 13) : Builtin.Range.small 0 (n : Int) 1 = true ∧ Builtin.Range.rangeSize 0 (n : Int) 1 = (n : Nat) := by
  have h : ∀ k : Fin 14, Builtin.Range.small 0 (k.1 : Int) 1 = true ∧ Builtin.Range.rangeSize 0 (k.1 : Int) 1 = (k.1 : Nat) := by decide
  exact h ⟨n, by omega⟩
set_option maxRecDepth 100000 in
set_option maxHeartbeats 0 in
theorem lawG {h : Heap} {tk : Nat} (hphi : PhiF (Classical.choose law_b).g (Classical.choose law_b).L (Classical.choose law_b).T (Classical.choose law_b).ns h)
    (B' : Below callerA (Classical.choose law_b).g [] (Classical.choose law_b).g) (X' : (hd.heap_39 (Classical.choose law_b).w.params).In (Classical.choose law_b).g) (T' : Top topProg loG (Classical.choose law_b).mean (Classical.choose law_b).mg (Classical.choose law_b).mb (Classical.choose law_b).g) (h112 : @LT.lt Nat _ 112 (Classical.choose law_b).L) :
    wpAny (model PySem.Challenge.pw_pg0060_01 (Classical.choose law_b).w) (callerA.deeper (lawEnv (Classical.choose law_b).L (Classical.choose law_b).fa)) (execs ((lawBody.drop 18).take 1) (lawEnv (Classical.choose law_b).L (Classical.choose law_b).fa)) (Part (PhiG (Classical.choose law_b).g (Classical.choose law_b).L) (Classical.choose law_b).s) noE { (Classical.choose law_b).s with heap := h, toks := tk } := by
  obtain ⟨m0, oc, o1, o3, o4, ps, bl, bvs, bn, rest, t1, t2, fv, tv, dv, sv, cv, ov, lv, od, F0, N', d1, d4, d3, hnam, S, hbk, hab, hord⟩ := hphi
  have F' := fr_chain F0 [(Str.ofString "deeds", lv)] (by
    intro p hp; rw [List.mem_singleton.mp hp]; exact hnam.n6)
  have hdl := deeds_len (Classical.choose law_b).ns
  cases id S.dds with
  | @mk dl dvs _ dn q1 q2 =>
  have HDL : h.IsList dl dvs.toArray := ⟨_, (N' (dl, listO dvs dn) (.tail _ (.tail _ (.tail _ (.tail _ (.tail _ (.tail _ q1))))))).1, rfl, _, rfl⟩
  have hdvl : dvs.length = (deedsOf (Classical.choose law_b).ns).length := q2.length
  dsimp only [lawBody, lawRec, recOf, List.take, List.drop, lawEnv, chain, List.foldr] at *
  (try k_fold)
  k_steps
  refine Stop.mk ?_
  refine For_is ?_ (fun _ => rfl)
  k_steps
  refine Stop.mk ?_
  rename_i h1 tk1 t9 u9 v9 hr F1 N1 st1
  obtain ⟨rg1, rg2⟩ := range_up (deedsOf (Classical.choose law_b).ns).length hdl
  refine loop_range2 (a := 0) (b := ((deedsOf (Classical.choose law_b).ns).length : Int)) (c := 1) (n := (deedsOf (Classical.choose law_b).ns).length) rfl hr rg1 rg2 F1 N1 (fun _ _ => rfl) (JG (Classical.choose law_b).w (Classical.choose law_b).L (Classical.choose law_b).T (Classical.choose law_b).ns ⟨o4, o3, oc, o1, ps, bl, fv, tv, dv, sv, cv, ov, .ref dl, od⟩) ?j0 ?jstep ?jR
  case j0 => exact ⟨bvs, bn, rest, .none, [[], [], [], [], [], []], .nil, 0, t2, rfl, ⟨hnam.n1, hnam.n2, hnam.n3, hnam.n4, hnam.n5, rfl, hnam.n7, hnam.n8⟩, by decide, S, hbk, hab, .nil, inv_start (Classical.choose law_b).T od⟩
  case jstep =>
    rintro i ti I m₁ news₁ h9 tk9 own hi ⟨bvs9, bn9, rest9, trv, bk, t, aN, t29, rfl, ⟨n1, n2, n3, n4, n5, n6, n7, n8⟩, ha6, S9, hbk9, hab9, htr, inv⟩ hnI hown ⟨oI, hIo⟩ hn0 F₁ N₁
    dsimp only at n1 n2 n3 n4 n5 n6 S9 hbk9 inv hnI N₁
    obtain ⟨_, _, bl4, bl3, bl2, bl1, blt⟩ := id hbk9
    have hIc : ∀ a ∈ [(Classical.choose law_b).L + 1 + 1 + 1 + 1, (Classical.choose law_b).L + 1 + 1 + 1, (Classical.choose law_b).L + 1 + 1, (Classical.choose law_b).L + 1, (112 : Addr), bl], a ≠ I :=
      mem_step (hnI (_, o4) (by walk_at "MINE mem")) (mem_step (hnI (_, o3) (by walk_at "MINE mem")) (mem_step (hnI (_, oc) (by walk_at "MINE mem")) (mem_step (hnI (_, o1) (by walk_at "MINE mem")) (mem_step (hnI ((112 : Addr), tabObj ps) (by walk_at "MINE mem")) (mem_step (hnI (bl, listO bvs9 bn9) (by walk_at "MINE mem")) mem_none)))))
    refine wpAny_assign_Name (storeX_L (cn := lawRec.name) (cs := lawRec.scope) (cl := cellsFrom ((Classical.choose law_b).L + 1) lawRec.scope.names []) F₁ N₁ fun h2 F2 N2 => ?_)
    show wpAny _ _ (execs (loopBody.take 2 ++ loopBody.drop 2) (lawEnv (Classical.choose law_b).L (Classical.choose law_b).fa)) _ _ _
    have hmid : Mid (Classical.choose law_b).w (Classical.choose law_b).g (Classical.choose law_b).L (Classical.choose law_b).T (Classical.choose law_b).ns ⟨o4, o3, oc, o1, ps, bl, fv, tv, dv, sv, cv, ov, .ref dl, od⟩ own I i (fun m => ∃ ti, m (Str.ofString "at") = some (.int (i : Int) ti)) h2 := by
      refine ⟨_, bvs9, bn9, rest9, trv, bk, t, aN, t29, F2, News.sub N2 (by walk_at "MINE sub"), (fun p hp => hnI p (.tail _ (.tail _ (.tail _ (.tail _ (.tail _ (.tail _ hp))))))), ⟨n1, n2, n3, n4, n5, n6, n7, n8⟩, ha6, S9, hbk9, hab9, htr, inv, ⟨ti, ?_⟩⟩
      · have e : (0 : Int) + (i : Int) * 1 = (i : Int) := by omega
        show some (Value.int ((0 : Int) + (i : Int) * 1) ti) = _
        rw [e]
    have hc : KOk (Classical.choose law_b).L (Classical.choose law_b).T ⟨o4, o3, oc, o1, ps, bl, fv, tv, dv, sv, cv, ov, .ref dl, od⟩ := ⟨d4, d3, hord, bl4, bl3, bl2, bl1, blt⟩
    have hoffo : Off (Classical.choose law_b).L own := fun p hp => by
      have e := hown p hp
      refine ⟨fun q => hIc _ (by walk_at "MINE mem") (q.symm.trans e), fun q => hIc _ (by walk_at "MINE mem") (q.symm.trans e), fun q => hIc _ (by walk_at "MINE mem") (q.symm.trans e), fun q => hIc _ (by walk_at "MINE mem") (q.symm.trans e), fun q => hIc _ (by walk_at "MINE mem") (q.symm.trans e)⟩
    refine part_then (turn1 hc hIo hoffo (fun p hp q => hIc bl (by walk_at "MINE mem") (q.symm.trans (hown p hp))) hi hmid B' X' T' h112) fun h3 tk3 hm3 => ?_
    exact wpAny_mono (turn2 hc hIo (by omega) hIc hm3 B' X' T' h112) (fun f _ x => by cases f with | ret v => exact x.elim | brk => exact x.elim | next => exact x | cont => exact x) (fun _ _ e => e)
  case jR =>
    rintro h9 tk9 m9 news9 F9 N9 ⟨bvs9, bn9, rest9, trv, bk, t, aN, t29, rfl, _⟩
    dsimp only
    clear F1 N1
    k_steps
    exact Part.of ⟨_, _, ps, F9, N9, .tail _ (.tail _ (.tail _ (.tail _ (.head _))))⟩
end
section -- LLawH
set_option maxRecDepth 100000 in
set_option maxHeartbeats 0 in
theorem lawH {h : Heap} {tk : Nat} (hphi : PhiG (Classical.choose law_b).g (Classical.choose law_b).L h)
    (B' : Below callerA (Classical.choose law_b).g [] (Classical.choose law_b).g) (X' : (hd.heap_39 (Classical.choose law_b).w.params).In (Classical.choose law_b).g) (T' : Top topProg loG (Classical.choose law_b).mean (Classical.choose law_b).mg (Classical.choose law_b).mb (Classical.choose law_b).g) :
    wpAny (model PySem.Challenge.pw_pg0060_01 (Classical.choose law_b).w) (callerA.deeper (lawEnv (Classical.choose law_b).L (Classical.choose law_b).fa)) (execs (lawBody.drop 19) (lawEnv (Classical.choose law_b).L (Classical.choose law_b).fa)) (LawEnd (Classical.choose law_b).g (Classical.choose law_b).L (Classical.choose law_b).s) noE { (Classical.choose law_b).s with heap := h, toks := tk } := by
  obtain ⟨m0, news, ps, F', N', hm⟩ := hphi
  dsimp only [lawBody, lawRec, recOf, List.take, List.drop, lawEnv] at *
  (try k_fold)
  k_steps
  exact ⟨rfl, _, _, m0, news, ps, rfl, F', N', hm⟩
theorem split8 {α : Type} (b : List α) : b = b.take 4 ++ ((b.drop 4).take 3 ++ ((b.drop 7).take 3 ++ ((b.drop 10).take 3 ++ ((b.drop 13).take 1 ++ ((b.drop 14).take 4 ++ ((b.drop 18).take 1 ++ b.drop 19)))))) := by
  have h : ∀ n m k, n + m = k → (b.drop n).take m ++ b.drop k = b.drop n := fun n m k hk => by rw [← hk, ← List.drop_drop, List.take_append_drop]
  rw [h 18 1 19 rfl, h 14 4 18 rfl, h 13 1 14 rfl, h 10 3 13 rfl, h 7 3 10 rfl, h 4 3 7 rfl, List.take_append_drop]
set_option maxRecDepth 100000 in
set_option maxHeartbeats 0 in
theorem law_at : lawS (Classical.choose law_b) := by
  intro hT F' N' d1 d2 d3 d4 B' X' T' HL HI h63 h112 codeHd
  rw [split8 lawBody]
  have pA0 := lawA F' N' d1 d2 d3 d4 B' X' T' HL HI h63
  rw [← hT] at pA0
  refine part_then pA0 fun hA tA pA => ?_
  refine part_then (lawB pA d2 d3 d4 h112 B' X' T') fun hB tB pB => ?_
  refine part_then (lawC pB B' X' T' h112) fun hC tC pC => ?_
  refine part_then (lawD pC B' X' T' h112 d2 d3) fun hD tD pD => ?_
  refine part_then (lawE pD B' X' T' h112 codeHd d2 d3) fun hE tE pE => ?_
  refine part_then (lawF pE B' X' T' h112 d3 HL HI h63) fun hF tF pF => ?_
  refine part_then (lawG pF B' X' T' h112) fun hG tG pG => ?_
  exact lawH pG B' X' T'
theorem law_all {w : World} {mean mg mb} {fa : Addr} {g h : Heap} {L : Addr} {s : Shared} {tk : Nat} {vs : List Value} {ns : List Int} {l : Addr} {o1 o2 o3 o4 : Obj}
    (F' : Fr g L h (bindL (lawEnv L fa).kindOf [(Str.ofString "script", Value.ref l)] fun _ => none)) (N' : News g L h [(L + 1 + 1 + 1 + 1, o4), (L + 1 + 1 + 1, o3), (L + 1 + 1, o2), (L + 1, o1), (112, tabObj #[])])
    (d1 : o1.data = .cell none) (d2 : o2.data = .cell none) (d3 : o3.data = .cell none) (d4 : o4.data = .cell none)
    (B' : Below callerA g [] g) (X' : (hd.heap_39 w.params).In g) (T' : Top topProg loG mean mg mb g) (HL : g.IsList l vs.toArray) (HI : IntsAre vs ns) (h63 : ns.length ≤ 63) (h112 : @LT.lt Nat _ 112 L) (codeHd : CodeHd g 114 112) :
    wpAny (model PySem.Challenge.pw_pg0060_01 w) (callerA.deeper (lawEnv L fa)) (execs lawBody (lawEnv L fa)) (LawEnd g L s) noE { s with heap := h, toks := tk } :=
  OkAt.all law_b law_at ⟨w, mean, mg, mb, fa, g, h, L, s, tk, vs, ns, ns.sum, l, o1, o2, o3, o4⟩ rfl F' N' d1 d2 d3 d4 B' X' T' HL HI h63 h112 codeHd
end
end
end Mine
end
section -- LFinal
set_option maxRecDepth 100000 in
set_option maxHeartbeats 0 in
theorem PySem.Challenge.cw_pg0060_01_holds : PySem.Challenge.rw_pg0060_01.Holds := by
  refine Mine.hd ?_
  k_go0
  rename_i w9 s8 s9 mg9 mb9 G9 fa9 om9 pm9 doc9
  refine wpAny_mono (Mine.law_all (by k_asm) (by k_asm) (by assumption) (by assumption) (by assumption) (by assumption) (by k_asm) (by k_asm) (by k_asm) (by assumption) (by assumption) (by omega) (by assumption) (by assumption)) (fun f s' hf => ?_) (fun e s' he => he.elim)
  obtain ⟨rfl, h8, tk8, m8, news8, ps8, rfl, F8, N8, hm8⟩ := hf
  refine ⟨?_, ⟨⟨ps8, (N8 _ hm8).1⟩, trivial⟩⟩
  dsimp only
  k_steps
end
