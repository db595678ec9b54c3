import PyProof.Rows.All
import Wide.All
import OpenK.AllK
import Wide.FinOn
import PySem.Challenge.RW_rl0103_02
open PySem PySem.W PySem.Spec PySem.Calls PyProof.Rows
set_option Elab.async false
set_option maxRecDepth 100000
set_option maxHeartbeats 8000000
set_option rowWalk.seconds 0
set_option compiler.extract_closed false

section
local macro_rules
  | `(tactic| refine $f:ident $args*) => do
    if f.getId.eraseMacroScopes == `PySem.W.holds_open && args.size > 9 && args[8]!.raw.isOfKind ``Lean.Parser.Term.syntheticHole then
      let h ← `(fun w => by kernel_rfl)
      let args := args.set! 8 h
      `(tactic| refine $f $args*)
    else Lean.Macro.throwUnsupported
open_top Mine.hd for PySem.Challenge.rw_rl0103_02
end


namespace Mine
abbrev Led := List (Addr × Obj)
noncomputable abbrev lse : List Str := looseW hd.view_39 [Str.ofString "tspecials", Str.ofString "_name_disallowed_re", Str.ofString "_value_disallowed_re", Str.ofString "_formatparam"]

/-- a tree that only looks, run on what is known of the heap -/
def readOf (look : Addr → Option Obj) {α : Type} : Sem α → Option α
  | .pure a => some a
  | .rule _ k => readOf look (k ())
  | .at _ k => readOf look (k ())
  | .load a _ k => match look a with
    | some o => readOf look (k o)
    | none => none
  | _ => none
theorem wpAny_readOf {M : Model} {A : Around} {E : Value → Shared → Prop} {s : Shared} {look : Addr → Option Obj} {α : Type} {Q : α → Shared → Prop} (hl : ∀ a o, look a = some o → s.heap.get? a = some o) :
    ∀ {t : Sem α} {r : α}, readOf look t = some r → Q r s → wpAny M A t Q E s := by
  intro t
  induction t with
  | pure a => intro r h q; injection h with h; subst h; exact fun _ _ _ => q
  | rule tag k ih => intro r h q Γ p hΓ; exact ih () h q Γ p hΓ
  | «at» pos k ih => intro r h q Γ p hΓ; exact ih () h q Γ _ hΓ
  | load a part k ih =>
    intro r h q Γ p hΓ
    simp only [readOf] at h
    split at h
    · rename_i o ho
      exact ⟨o, hl a o ho, ih o h q Γ p hΓ⟩
    · cases h
  | _ => intro r h; simp [readOf] at h

/-- a tree shown for more room holds for less -/
theorem wpAny_le {M : Model} {α : Type} {A A' : Around} {t : Sem α} {Q : α → Shared → Prop} {E : Value → Shared → Prop} {s : Shared} (h : wpAny M A' t Q E s)
    (hh : A'.handled = A.handled) (hf : A'.frames = A.frames) (hg : A'.guards = none) (hd : A.depth ≤ A'.depth) (hu : A.units ≤ A'.units) : wpAny M A t Q E s :=
  fun Γ p hΓ => h Γ p ⟨hΓ.1.trans hh.symm, Nat.le_trans hΓ.2.1 hd, fun l e => hΓ.2.2.1 l (hf ▸ e), (fun g e => by rw [hg] at e; cases e), Nat.le_trans hΓ.2.2.2.2 hu⟩

/-- what a call does: f upon vs, kw, the ledger at first news; Ret says what comes back and the ledger behind it. Up to D frames, U units deep -/
def Spec (w : World) (D U : Nat) (f : Addr) (vs : List Value) (kw : List (Str × Value)) (news : Led) (Ret : Value → Led → Prop) : Prop :=
  ∀ (cn : Str) (names : List (Str × NameKind)) (ig ic : Bool) (more : List (Str × Const)) (a : Addr) (ccd : Value) (cl : List (Str × Addr)) (outer : List Env) (A₀ : Around) (base h₀ : Heap) (L : Addr) (m : Str → Option Value)
    (mean : ExcName → Option Value) (mg mb : Str → Option Value) (s : Shared) (Q E : Value → Shared → Prop),
    Below A₀ base outer h₀ → Fr h₀ L s.heap m → (hd.heap_39 w.params).In h₀ → News h₀ L s.heap news → Top hd.view_39 lse mean mg mb h₀ →
    (∀ r news' h' tk', Fr h₀ L h' m → News h₀ L h' news' → Ret r news' → Q r { s with heap := h', toks := tk' }) →
    wpAny (model Challenge.rw_rl0103_02.row.prog w) (ktrTop D U none cn { kind := .function, names := names, isGenerator := ig, isCoroutine := ic, more := more } L a ccd cl outer) (call (.ref f) vs kw) Q E s
theorem Spec.use {w : World} {D U : Nat} {f : Addr} {vs : List Value} {kw : List (Str × Value)} {news : Led} {Ret : Value → Led → Prop} (C : Spec w D U f vs kw news Ret)
    {dp un : Nat} {gd : Option (List Code)} {cn : Str} {names : List (Str × NameKind)} {ig ic : Bool} {more : List (Str × Const)} {a : Addr} {ccd : Value} {cl : List (Str × Addr)} {outer : List Env} {A₀ : Around} {base h₀ : Heap} {L : Addr} {m : Str → Option Value}
    {mean : ExcName → Option Value} {mg mb : Str → Option Value} {s : Shared} {Q E : Value → Shared → Prop}
    (B : Below A₀ base outer h₀) (F : Fr h₀ L s.heap m) (X : (hd.heap_39 w.params).In h₀) (N : News h₀ L s.heap news) (T : Top hd.view_39 lse mean mg mb h₀) (hd : dp ≤ D) (hu : un ≤ U)
    (ret : ∀ r news' h' tk', Fr h₀ L h' m → News h₀ L h' news' → Ret r news' → Q r { s with heap := h', toks := tk' }) :
    wpAny (model Challenge.rw_rl0103_02.row.prog w) (ktrTop dp un gd cn { kind := .function, names := names, isGenerator := ig, isCoroutine := ic, more := more } L a ccd cl outer) (call (.ref f) vs kw) Q E s :=
  wpAny_le (C _ _ _ _ _ _ _ _ _ _ _ _ _ _ _ _ _ _ _ _ B F X N T ret) rfl rfl rfl hd hu

def letters : List Str := ["a", "b", "c", "d", "e", "f", "g", "A", "B", "C", "D", "E", "F", "G"].map Str.ofString
def Letter (x : Str) : Prop := x ∈ letters

theorem plainAttrs_re : PlainAttrs "re.Pattern" :=
  ⟨⟨"object.__getattribute__", by rw [typeLookup_type, builtinLookup_eq_fast]; kernel_rfl, by decide +kernel⟩, by rw [typeLookup_type, builtinLookup_eq_fast]; kernel_rfl⟩
theorem slot_re_search : Slot "re.Pattern" "search" "re.Pattern.search" :=
  .of (owner := "re.Pattern") (n := "search") (by rw [typeLookup_type, builtinLookup_eq_fast]; kernel_rfl) (by decide +kernel) (by decide +kernel) (by decide +kernel)
    (by first | exact .inl (by decide +kernel) | exact .inr (by decide +kernel)) (by rw [isSubtype_type]; kernel_rfl)
theorem type_re_search : typeOf (.builtin "re.Pattern.search") = pure (.type "method_descriptor") := by show builtinType _ = _; rw [builtinType_eq_fast]; kernel_rfl
theorem entry_re_search : entryFor table "re.Pattern.search" = some Builtin.«re.Pattern.search» := entryFor_of_tree (by kernel_rfl)
theorem args_re_search_2 (a b : Value) : argsOk "re.Pattern.search" ⟨[a, b], []⟩ := by
  unfold argsOk; kernel_rfl

structure NoHit (w : World) (a : Addr) (x : Str) (t : Tok) : Prop where
  out : readOf (fun a => (hd.heap_39 w.params).lookup a) (Builtin.«re.Pattern.search» ⟨[.ref a, .str x t], []⟩) = some (.done (.ret .none))
theorem srchN (w : World) (x : Str) (t : Tok) (hx : Letter x) : NoHit w 48 x t := by
  simp only [Letter, letters, List.map_cons, List.map_nil, List.mem_cons, List.not_mem_nil, or_false] at hx
  rcases hx with rfl | rfl | rfl | rfl | rfl | rfl | rfl | rfl | rfl | rfl | rfl | rfl | rfl | rfl <;> exact ⟨by kernel_rfl⟩
theorem srchV (w : World) (x : Str) (t : Tok) (hx : Letter x) : NoHit w 53 x t := by
  simp only [Letter, letters, List.map_cons, List.map_nil, List.mem_cons, List.not_mem_nil, or_false] at hx
  rcases hx with rfl | rfl | rfl | rfl | rfl | rfl | rfl | rfl | rfl | rfl | rfl | rfl | rfl | rfl <;> exact ⟨by kernel_rfl⟩
section
variable {prog : Program} {A : Around} {E : Value → Shared → Prop} {s : Shared} {w : World} {h₀ : Heap} {L : Addr} {m : Str → Option Value}
theorem look_in (F : Fr h₀ L s.heap m) (X : (hd.heap_39 w.params).In h₀) : ∀ a o, (hd.heap_39 w.params).lookup a = some o → s.heap.get? a = some o := fun a o e => F.keep a o (X a o e)
theorem meth_search {a : Addr} {o : Obj} {pl : Sem Bool} {Q : Value × List Value → Shared → Prop} (F : Fr h₀ L s.heap m) (X : (hd.heap_39 w.params).In h₀) (e : (hd.heap_39 w.params).lookup a = some o) (hc : o.cls = .type "re.Pattern") (hn : o.dict = none)
    (h : Q (.builtin "re.Pattern.search", [.ref a]) s) : wpAny (model prog w) A (getMethod (.ref a) (Str.ofString "search") pl) Q E s :=
  getMethod_builtin (T := "re.Pattern") ⟨o, look_in F X a o e, hc⟩ plainAttrs_re slot_re_search type_re_search (fun b eb => by injection eb with eb; subst eb; exact ⟨o, look_in F X _ _ e, hn⟩) h
theorem call_search {a : Addr} {o : Obj} {x : Str} {t : Tok} {Q : Value → Shared → Prop} (F : Fr h₀ L s.heap m) (X : (hd.heap_39 w.params).In h₀) (e : (hd.heap_39 w.params).lookup a = some o) (hc : o.cls = .type "re.Pattern")
    (hr : NoHit w a x t)
    (h : Q .none s) : wpAny (model prog w) A (call (.builtin "re.Pattern.search") [.ref a, .str x t]) Q E s :=
  wpAny_call_entry slot_re_search (T := "re.Pattern") ⟨o, look_in F X a o e, hc⟩ entry_re_search (wpAny_readOf (look_in F X) hr.out ⟨_, rfl, h⟩) (args_re_search_2 _ _)
end
/-- a goal by which the written part is called to mind -/
theorem fill : Challenge.rw_rl0103_02 = Challenge.rw_rl0103_02 ∧ hd.heap_39 = hd.heap_39 := by k_fill; exact ⟨rfl, rfl⟩
end Mine

local macro_rules | `(tactic| k_room) => `(tactic| ((try simp only [depth_mark, depth_under_make, depth_under_kw, depth_in1, depth_deeper, depth_caller]); (try dsimp only [ktrTop]); decide))
local macro_rules | `(tactic| walk_at "getMethod ref") => `(tactic| k_extra "getMethod ref")
local macro_rules | `(tactic| walk_at "call builtin:re.Pattern.search") => `(tactic| k_extra "call builtin:re.Pattern.search")

namespace Mine
/-- a goal that the walk is to leave alone -/
def Hold (P : Prop) : Prop := P
theorem Hold.intro {P : Prop} (h : Hold P) : P := h

/-- what stands behind a turn of a loop over a list of the ledger: I is the iterator, src the list -/
def TurnM (h₀ : Heap) (L : Addr) (I : Addr × Obj) (src : Addr × Obj) (J : (Str → Option Value) → Led → Prop) (s₁ : Shared) (Q : Flow → Shared → Prop) (f : Flow) (s₂ : Shared) : Prop :=
  match f with
  | .ret v => Q (.ret v) s₂
  | .brk => Q .next s₂
  | _ => ∃ h' tk m' news', s₂ = { s₁ with heap := h', toks := tk } ∧ Fr h₀ L h' m' ∧ News h₀ L h' (I :: news') ∧ (∀ p ∈ news', p.1 ≠ I.1) ∧ src ∈ news' ∧ J m' news'
theorem TurnM.next {h₀ : Heap} {L : Addr} {I src : Addr × Obj} {J : (Str → Option Value) → Led → Prop} {s₁ : Shared} {Q : Flow → Shared → Prop} {h' : Heap} {tk : Nat} {m' : Str → Option Value} {all : Led} (news' : Led) (F : Fr h₀ L h' m') (N : News h₀ L h' all)
    (hs : ∀ p ∈ I :: news', p ∈ all) (hI : ∀ p ∈ news', p.1 ≠ I.1) (hm : src ∈ news') (hJ : J m' news') : TurnM h₀ L I src J s₁ Q .next { s₁ with heap := h', toks := tk } :=
  ⟨h', tk, m', news', rfl, F, fun p hp => N p (hs p hp), hI, hm, hJ⟩

section
variable {prog : Program} {w : World} {A : Around} {E : Value → Shared → Prop} {s : Shared} {env : Env} {h₀ : Heap} {target : Expr} {body : List Stmt} {Q : Flow → Shared → Prop}
theorem iter_list {l : Addr} {its : List Value} {n : Nat} {m₀ : Str → Option Value} {news : Led} (J : Nat → (Str → Option Value) → Led → Prop)
    (hh : A.handled = none) (F : Fr h₀ env.locals s.heap m₀) (N : News h₀ env.locals s.heap news) (hl : (l, listOf its.toArray n) ∈ news) (h0 : J 0 m₀ news)
    (turn : ∀ i v m₁ news₁ h tk I oI, its[i]? = some v → J i m₁ news₁ → (∀ p ∈ news₁, p.1 ≠ I) → (l, listOf its.toArray n) ∈ news₁ → Fr h₀ env.locals h m₁ → News h₀ env.locals h ((I, oI) :: news₁) →
      wpAny (model prog w) A (assign target env v) (fun _ s₃ => wpAny (model prog w) A (execs body env) (TurnM h₀ env.locals (I, oI) (l, listOf its.toArray n) (J (i + 1)) { s with heap := h, toks := tk } Q) E s₃) E { s with heap := h, toks := tk })
    (done : ∀ m₁ news₁ h tk, J its.length m₁ news₁ → Fr h₀ env.locals h m₁ → News h₀ env.locals h news₁ → Q .next { s with heap := h, toks := tk }) :
    wpAny (model prog w) A (pyIter (.ref l)) (fun it s₂ => TurnsAt prog w A h₀ env target body Q E it s₂) E s := by
  have hls : s.heap.IsList l its.toArray := ⟨_, (N _ hl).1, rfl, _, rfl⟩
  have hlt : l < s.heap.objs.size := Heap.lt_size (N _ hl).1
  have hne : l ≠ s.heap.objs.size := Nat.ne_of_lt hlt
  have hl₀ : h₀.get? l = none := (N _ hl).2.2
  refine wpAny_pyIter_list hls ?_
  have W := KTurns.ofWalks (target := target) (Walks.list (prog := prog) (w := w) hh s.heap.objs.size l hne its.toArray) fun i v s Q E st q => letGo_listiter st.1 q
  refine ⟨_, _, _, _, _, _, _, m₀, news, fun i m₁ news₁ => (l, listOf its.toArray n) ∈ news₁ ∧ J i m₁ news₁, rfl, W, ?_, ?_, ?_, ⟨⟨_, Heap.get?_push_size _ rfl, rfl, rfl⟩, hls.at fun o e => Heap.get?_push_of_some _ e⟩, F.push _, (fun p hp => ⟨Heap.get?_push_of_some _ (N p hp).1, (N p hp).2⟩), ⟨hl, h0⟩, ?_, ?_⟩
  · intro hm
    rcases List.mem_cons.mp hm with e | hm
    · exact absurd F.ns.lt (e ▸ Nat.lt_irrefl _)
    · exact (N _ hl).2.1 (List.mem_singleton.mp hm).symm
  · intro b hb
    rw [List.mem_singleton.mp hb]
    exact next_is_new F
  · intro p hp hI
    exact absurd (Heap.lt_size (N p hp).1) ((List.mem_singleton.mp hI) ▸ Nat.lt_irrefl _)
  · intro i v m₁ news₁ h₁ tk₁ own hi hP hJ hnw hown hownget hownall hst F₁ N₁
    obtain ⟨⟨oI, hoI, _⟩, hL⟩ := hst
    have hI₀ : h₀.get? s.heap.objs.size = none := next_is_new F
    have mI : (s.heap.objs.size, oI) ∈ own := hownall _ (by simp) hI₀ _ hoI
    have hv : its[i]? = some v := by simpa using hP
    have gl : h₁.get? l = some (listOf its.toArray n) := (N₁ _ (List.mem_append_right _ hJ.1)).1
    have own2 : ∀ p ∈ own, p = (s.heap.objs.size, oI) ∨ p = (l, listOf its.toArray n) := by
      intro p hp
      have g := hownget p hp
      rcases List.mem_cons.mp (hown p hp) with h1 | h1
      · left; rw [h1, hoI] at g; exact Prod.ext h1 (Option.some.inj g).symm
      · right
        have h2 := List.mem_singleton.mp h1
        rw [h2, gl] at g; exact Prod.ext h2 (Option.some.inj g).symm
    have off : ∀ p ∈ news₁, p.1 ≠ s.heap.objs.size := fun p hp e => hnw p hp (by simp [e])
    have N₂ : News h₀ env.locals h₁ ((s.heap.objs.size, oI) :: news₁) := fun p hp => by
      rcases List.mem_cons.mp hp with rfl | hp
      · exact N₁ _ (List.mem_append_left _ mI)
      · exact N₁ _ (List.mem_append_right _ hp)
    have fin : ∀ s₄ : Shared, (∃ h' tk m' news', s₄ = { s with heap := h', toks := tk } ∧ Fr h₀ env.locals h' m' ∧ News h₀ env.locals h' ((s.heap.objs.size, oI) :: news') ∧ (∀ p ∈ news', p.1 ≠ s.heap.objs.size) ∧ (l, listOf its.toArray n) ∈ news' ∧ J (i + 1) m' news') →
        LoopStepU h₀ env.locals [s.heap.objs.size] own (fun m₁ news₁ => (l, listOf its.toArray n) ∈ news₁ ∧ J (i + 1) m₁ news₁) { s with heap := h₁, toks := tk₁ } .next s₄ := by
      rintro s₄ ⟨h', tk, m', news', rfl, F', N', o', sm, j'⟩
      refine ⟨rfl, h', tk, m', news', rfl, F', fun p hp => ?_, fun p hp hq => o' p hp (by simpa using hq), sm, j'⟩
      rcases List.mem_append.mp hp with hp | hp
      · rcases own2 p hp with rfl | rfl
        · exact N' _ List.mem_cons_self
        · exact N' _ (List.mem_cons_of_mem _ sm)
      · exact N' _ (List.mem_cons_of_mem _ hp)
    refine wpAny_mono (turn i v m₁ news₁ h₁ tk₁ s.heap.objs.size oI hv hJ.2 off hJ.1 F₁ N₂) (fun _ s₃ h₃ => wpAny_mono h₃ (fun f s₄ h₄ => ?_) fun _ _ e => e) fun _ _ e => e
    cases f with
    | ret v => exact h₄
    | brk => exact h₄
    | next => exact LoopStepV.next (fin _ h₄)
    | cont => exact LoopStepV.cont (fin _ h₄)
  · intro h' tk m' news' F' N' hnw hJ
    have hJ' : J its.length m' news' := by simpa using hJ.2
    exact done m' news' h' tk hJ' F' N'
theorem iter_keep {l : Addr} {its : List Value} {n : Nat} {m₀ : Str → Option Value} {news : Led} (J : Nat → (Str → Option Value) → Prop)
    (hh : A.handled = none) (F : Fr h₀ env.locals s.heap m₀) (N : News h₀ env.locals s.heap news) (hl : (l, listOf its.toArray n) ∈ news) (h0 : J 0 m₀)
    (turn : ∀ i v m₁ h tk I oI, its[i]? = some v → J i m₁ → (∀ p ∈ news, p.1 ≠ I) → Fr h₀ env.locals h m₁ → News h₀ env.locals h ((I, oI) :: news) →
      wpAny (model prog w) A (assign target env v) (fun _ s₃ => wpAny (model prog w) A (execs body env) (TurnM h₀ env.locals (I, oI) (l, listOf its.toArray n) (fun m' news' => news' = news ∧ J (i + 1) m') { s with heap := h, toks := tk } Q) E s₃) E { s with heap := h, toks := tk })
    (done : ∀ m₁ h tk, J its.length m₁ → Fr h₀ env.locals h m₁ → News h₀ env.locals h news → Q .next { s with heap := h, toks := tk }) :
    wpAny (model prog w) A (pyIter (.ref l)) (fun it s₂ => TurnsAt prog w A h₀ env target body Q E it s₂) E s := by
  refine iter_list (fun i m₁ news₁ => news₁ = news ∧ J i m₁) hh F N hl ⟨rfl, h0⟩ ?_ ?_
  · rintro i v m₁ news₁ h tk I oI hv ⟨rfl, hJ⟩ hI _ F₁ N₁
    exact turn i v m₁ h tk I oI hv hJ hI F₁ N₁
  · rintro m₁ news₁ h tk ⟨rfl, hJ⟩ F₁ N₁
    exact done m₁ h tk hJ F₁ N₁
end
/-- one address below, unlike another: at the naturals, for omega -/
abbrev LtA (a b : Nat) : Prop := @LT.lt Nat _ a b
abbrev NeA (a b : Nat) : Prop := @Ne Nat a b
theorem ltOf {d : Addr} : ∀ {l : List (Addr × Obj)}, AllLt d l → ∀ p ∈ l, @LT.lt Nat _ p.1 d
  | [], _, _, h => nomatch h
  | _ :: _, x, p, h => by
    rcases List.mem_cons.mp h with rfl | h
    · exact x.1
    · exact ltOf x.2 p h
theorem neOf {d : Addr} {l : List (Addr × Obj)} (h : AllLt d l) : ∀ p ∈ l, p.1 ≠ d := fun p hp => Nat.ne_of_lt (ltOf h p hp)
theorem ltUp {b a : Addr} (h : LtA b a) : ∀ {l : List (Addr × Obj)}, AllLt b l → AllLt a l
  | [], _ => trivial
  | _ :: _, x => ⟨Nat.lt_trans x.1 h, ltUp h x.2⟩
/-- an address is that of no object of the ledger -/
def Off (a : Addr) (news : Led) : Prop := ∀ p ∈ news, p.1 ≠ a
/-- an address above all of the ledger -/
abbrev Top' (a : Addr) (news : Led) : Prop := AllLt a news

section
variable {prog : Program} {w : World} {A : Around} {E : Value → Shared → Prop} {s : Shared} {h₀ : Heap} {L : Addr} {news : Led}
theorem glued_one (x v : Str) : Txt.join x [v] = v := rfl
theorem join_one {D : Addr} {n : Nat} {x v : Str} {t tv : Tok} {Q : Value → Shared → Prop} (N : News h₀ L s.heap news) (hm : (D, listOf #[.str v tv] n) ∈ news) (hx : x.length ≤ 1000) (hv : v.length ≤ 1000)
    (h : ∀ t' k, Q (.str v t') { s with toks := k }) : wpAny (model prog w) A (call (.builtin "str.join") [.str x t, .ref D]) Q E s :=
  join_list (ys := [v]) ⟨_, (N _ hm).1, rfl, _, rfl⟩ (StrsAre.cons _ _ .nil) (by simp; omega) h
end
section
variable {prog : Program} {w : World} {A : Around} {E : Value → Shared → Prop} {s : Shared} {h₀ : Heap} {L D : Addr} {m : Str → Option Value} {news news' : Led}
theorem append_M {vs : List Value} {n : Nat} {x : Value} {Q : Value → Shared → Prop} (F : Fr h₀ L s.heap m) (N : News h₀ L s.heap news) (hz : vs.length ≤ 1000) (U : Upd D (listOf vs.toArray n) (listOf (vs ++ [x]).toArray (n + 1)) news news')
    (h : ∀ h', Fr h₀ L h' m → News h₀ L h' news' → Q .none { s with heap := h' }) : wpAny (model prog w) A (call (.builtin "list.append") [.ref D, x]) Q E s :=
  append_K (its := vs.toArray) (n := n) F N (by rw [List.push_toArray]; exact U) h (by show vs.toArray.size ≤ sizeLine; rw [List.size_toArray]; exact Nat.le_trans hz (by decide))
end
theorem Letter.len {x : Str} (h : Letter x) : x.length = 1 := by
  simp only [Letter, letters, List.map_cons, List.map_nil, List.mem_cons, List.not_mem_nil, or_false] at h
  rcases h with rfl | rfl | rfl | rfl | rfl | rfl | rfl | rfl | rfl | rfl | rfl | rfl | rfl | rfl <;> rfl
end Mine

local macro_rules | `(tactic| k_mem) => `(tactic| assumption)
local macro_rules | `(tactic| walk_at "mine offs") => `(tactic| (intro p9 hp9; walk_at "mine and"; (repeat (with_reducible rename AllLt _ _ => hA9; first | (have hB9 := Mine.ltOf hA9 p9 hp9; clear hA9) | clear hA9)); (repeat (with_reducible rename (∀ p ∈ _, p.1 < _) => hA9; first | (have hB9 := ltN (hA9 p9 hp9); clear hA9) | clear hA9)); (refine neN ?_); (try dsimp only); omega))
local macro_rules | `(tactic| k_all) => `(tactic| first | assumption | exact Mine.neOf (by assumption) | walk_at "mine offs")
local macro_rules | `(tactic| walk_at "call builtin:list.append") => `(tactic| (k_here; (with_reducible show wpAny _ _ (call (Value.builtin _) [Value.ref _, _]) _ _ _); k_dflt (refine' Mine.append_M ?k1 ?k2 ?z ?k3 ?_; (case k1 => k_asm); (case k2 => k_asm); (case k3 => k_upd); (case z => first | assumption | omega); k_whole); intro h' F' N'; (try k_sweep)))
local macro_rules | `(tactic| walk_at "mine and") => `(tactic| (repeat (with_reducible rename _ ∧ _ => hc9; cases hc9)))
local macro_rules | `(tactic| walk_at "mine same") => `(tactic| (intro z9 h9; (simp only [List.contains_cons, List.contains_nil, Bool.or_false, Bool.or_eq_false_iff, beq_eq_false_iff_ne, ne_eq] at h9); (simp [h9]; done)))

namespace Mine
theorem conv_spec (w : World) (self : Value) (x : Str) (t : Tok) (b : Bool) (hx : Letter x) (news : Led) :
   Spec w 600 6000 83 [self, .str x t] [(Str.ofString "name", .bool b)] news (fun r news' => r = .str x t ∧ news' = news) := by
  k_with_none
  k_with "getMethod ref" => ((k_here; (with_reducible show wpAny _ _ (getMethod (Value.ref _) (Str.ofString "search") _) _ _ _); k_dflt (refine' Mine.meth_search ?k1 ?k2 ?k3 ?k4 ?k5 ?_; (case k1 => k_asm); (case k2 => k_asm); (case k3 => k_is); (case k4 => rfl); (case k5 => rfl); k_whole)))
  k_with "call builtin:re.Pattern.search" => ((k_here; k_dflt (refine' Mine.call_search ?k1 ?k2 ?k3 ?k4 ?k5 ?_; (case k1 => k_asm); (case k2 => k_asm); (case k3 => k_is); (case k4 => rfl); (case k5 => first | with_reducible exact Mine.srchN _ _ _ (by assumption) | with_reducible exact Mine.srchV _ _ _ (by assumption)); k_whole)))
  k_with "mine use" => (((case k1 => k_asm); (case k2 => k_asm); (case k3 => k_asm); (case k4 => k_asm); (case k5 => k_asm); (case kd => exact Nat.le_of_ble_eq_true rfl); (case ku => exact Nat.le_of_ble_eq_true rfl)))
  k_with "mine lt" => ((walk_at "mine and"; first | omega | assumption | exact allLt_of (by assumption) | exact Mine.ltUp (by omega) (by assumption) | exact Mine.ltUp (by omega) (allLt_of (by assumption))))
  w_top off
  have : Challenge.rw_rl0103_02 = Challenge.rw_rl0103_02 ∧ Mine.hd.heap_39 = Mine.hd.heap_39 := by k_fill; exact ⟨rfl, rfl⟩
  intro cn names ig ic more a ccd cl outer A₀ base h₀ L m mean mg mb s Q E B F X N T hret
  cases b
  all_goals (
    k_steps
    exact hret _ _ _ _ (by k_asm) (by k_asm) ⟨rfl, rfl⟩)
end Mine

local macro_rules | `(tactic| walk_at "call ref") => `(tactic| (k_here; k_dflt (refine' Mine.Spec.use (Mine.conv_spec _ _ _ _ _ ?hx _) ?k1 ?k2 ?k3 ?k4 ?k5 ?kd ?ku ?_; walk_at "mine use"; (case hx => first | assumption | (walk_at "mine letter") | decide); k_whole; intro r9 n9 h9 tk9 F9 N9 R9; obtain ⟨e9, e9'⟩ := R9; subst e9; (have e9'' := Eq.symm e9'); subst e9''; (try dsimp only); (try k_sweep); (try k_fold))))

namespace Mine
abbrev hdrDict (hv : Int) (kt : Tok) (l : Addr) (n : Nat) : Obj := dictOf [⟨hv, .str (Str.ofString "_headers") kt, .ref l⟩] n
abbrev tupOf (its : Array Value) : Obj := { cls := .type "tuple", data := .seq its }
theorem new_spec (w : World) (news : Led) :
   Spec w 500 5000 182 [] [] news (fun r news' => ∃ t d l hv kt, r = .ref t ∧ news' = (l, listOf #[] 0) :: (t, instObj 182 d) :: (d, hdrDict hv kt l 1) :: news ∧ AllLt d news ∧ LtA d t ∧ LtA t l) := by
  k_with_none
  k_with "getMethod ref" => ((k_here; (with_reducible show wpAny _ _ (getMethod (Value.ref _) (Str.ofString "search") _) _ _ _); k_dflt (refine' Mine.meth_search ?k1 ?k2 ?k3 ?k4 ?k5 ?_; (case k1 => k_asm); (case k2 => k_asm); (case k3 => k_is); (case k4 => rfl); (case k5 => rfl); k_whole)))
  k_with "call builtin:re.Pattern.search" => ((k_here; k_dflt (refine' Mine.call_search ?k1 ?k2 ?k3 ?k4 ?k5 ?_; (case k1 => k_asm); (case k2 => k_asm); (case k3 => k_is); (case k4 => rfl); (case k5 => first | with_reducible exact Mine.srchN _ _ _ (by assumption) | with_reducible exact Mine.srchV _ _ _ (by assumption)); k_whole)))
  k_with "mine use" => (((case k1 => k_asm); (case k2 => k_asm); (case k3 => k_asm); (case k4 => k_asm); (case k5 => k_asm); (case kd => exact Nat.le_of_ble_eq_true rfl); (case ku => exact Nat.le_of_ble_eq_true rfl)))
  k_with "mine lt" => ((walk_at "mine and"; first | omega | assumption | exact allLt_of (by assumption) | exact Mine.ltUp (by omega) (by assumption) | exact Mine.ltUp (by omega) (allLt_of (by assumption))))
  w_top off
  have : Challenge.rw_rl0103_02 = Challenge.rw_rl0103_02 ∧ Mine.hd.heap_39 = Mine.hd.heap_39 := by k_fill; exact ⟨rfl, rfl⟩
  intro cn names ig ic more a ccd cl outer A₀ base h₀ L m mean mg mb s Q E B F X N T hret
  k_steps
  rename_i F' N'
  refine For_turns F' ?_
  k_steps
  refine iter_keep (its := []) (fun _ m₁ => True) rfl (by k_asm) (by k_asm) (by k_mem) trivial ?_ ?_
  · intro i v m₁ h tk I oI hv; simp at hv
  · intro m₁ h tk hJ F'' N''
    k_steps
    refine hret _ _ _ _ (by k_asm) (by k_asm) ⟨_, _, _, _, _, rfl, rfl, ?_, ?_, ?_⟩ <;> walk_at "mine lt"
theorem add_spec (w : World) (t d l : Addr) (hs : Int) (kt : Tok) (n₁ n₃ : Nat) (vs : List Value) (k v : Str) (tk tv : Tok) (hk : Letter k) (hv : Letter v) (news : Led) (hlt : Off l news) (htl : NeA t l) (hdl : NeA d l) (hlen : vs.length ≤ 1000) :
   Spec w 500 5000 179 [.ref t, .str k tk, .str v tv] [] ((l, listOf vs.toArray n₃) :: (t, instObj 182 d) :: (d, hdrDict hs kt l n₁) :: news)
     (fun r news' => ∃ a n' t1 t2, r = .none ∧ news' = (l, listOf (vs ++ [Value.ref a]).toArray n') :: (t, instObj 182 d) :: (d, hdrDict hs kt l n₁) :: (a, tupOf #[.str k t1, .str v t2]) :: news ∧ LtA l a ∧ LtA t a ∧ LtA d a ∧ AllLt a news) := by
  k_with_none
  k_with "getMethod ref" => ((k_here; (with_reducible show wpAny _ _ (getMethod (Value.ref _) (Str.ofString "search") _) _ _ _); k_dflt (refine' Mine.meth_search ?k1 ?k2 ?k3 ?k4 ?k5 ?_; (case k1 => k_asm); (case k2 => k_asm); (case k3 => k_is); (case k4 => rfl); (case k5 => rfl); k_whole)))
  k_with "call builtin:re.Pattern.search" => ((k_here; k_dflt (refine' Mine.call_search ?k1 ?k2 ?k3 ?k4 ?k5 ?_; (case k1 => k_asm); (case k2 => k_asm); (case k3 => k_is); (case k4 => rfl); (case k5 => first | with_reducible exact Mine.srchN _ _ _ (by assumption) | with_reducible exact Mine.srchV _ _ _ (by assumption)); k_whole)))
  k_with "mine use" => (((case k1 => k_asm); (case k2 => k_asm); (case k3 => k_asm); (case k4 => k_asm); (case k5 => k_asm); (case kd => exact Nat.le_of_ble_eq_true rfl); (case ku => exact Nat.le_of_ble_eq_true rfl)))
  k_with "mine lt" => ((walk_at "mine and"; first | omega | assumption | exact allLt_of (by assumption) | exact Mine.ltUp (by omega) (by assumption) | exact Mine.ltUp (by omega) (allLt_of (by assumption))))
  w_top off
  have : Challenge.rw_rl0103_02 = Challenge.rw_rl0103_02 ∧ Mine.hd.heap_39 = Mine.hd.heap_39 := by k_fill; exact ⟨rfl, rfl⟩
  intro cn names ig ic more a ccd cl outer A₀ base h₀ L m mean mg mb s Q E B F X N T hret
  k_steps
  refine join_one (by k_asm) (by k_mem) (by decide) (by have := hv.len; omega) ?_
  intro t' k'
  (try dsimp only)
  k_steps
  refine append_M (news := (_, tupOf #[.str k _, .str v _]) :: (l, listOf vs.toArray n₃) :: (t, instObj 182 d) :: (d, hdrDict hs kt l n₁) :: news) (by k_asm) (cb_drop (by k_asm) (by kcj_all)) hlen (by k_upd) ?_
  intro h' F' N'
  k_steps
  refine hret _ ((l, listOf (vs ++ [Value.ref _]).toArray _) :: (t, instObj 182 d) :: (d, hdrDict hs kt l n₁) :: (_, tupOf #[.str k _, .str v _]) :: news) _ _ (by k_asm) (cb_drop (by k_asm) (by kcj_all)) ⟨_, _, _, _, rfl, rfl, ?_, ?_, ?_, ?_⟩ <;> walk_at "mine lt"
/-- the lines of a table: refs to pairs of letters in the ledger -/
inductive Hdrs (news : Led) : List Value → List (Str × Str) → Prop
  | nil : Hdrs news [] []
  | cons {a : Addr} {k v : Str} {t1 t2 : Tok} {vs : List Value} {kvs : List (Str × Str)} : Letter k → Letter v → (a, tupOf #[.str k t1, .str v t2]) ∈ news → Hdrs news vs kvs → Hdrs news (.ref a :: vs) ((k, v) :: kvs)
theorem Hdrs.mono {news news' : Led} (hs : ∀ p ∈ news, p ∈ news') {vs : List Value} {kvs : List (Str × Str)} (h : Hdrs news vs kvs) : Hdrs news' vs kvs := by
  induction h with
  | nil => exact .nil
  | cons hk hv hm _ ih => exact .cons hk hv (hs _ hm) ih
theorem Hdrs.length {news : Led} {vs : List Value} {kvs : List (Str × Str)} (h : Hdrs news vs kvs) : vs.length = kvs.length := by
  induction h with
  | nil => rfl
  | cons _ _ _ _ ih => simp [ih]
theorem Hdrs.snoc {news : Led} {vs : List Value} {kvs : List (Str × Str)} {a : Addr} {k v : Str} {t1 t2 : Tok} (h : Hdrs news vs kvs) (hk : Letter k) (hv : Letter v) (hm : (a, tupOf #[.str k t1, .str v t2]) ∈ news) : Hdrs news (vs ++ [.ref a]) (kvs ++ [(k, v)]) := by
  induction h with
  | nil => exact .cons hk hv hm .nil
  | cons hk' hv' hm' _ ih => exact .cons hk' hv' hm' ih
theorem Hdrs.at {news : Led} {vs : List Value} {kvs : List (Str × Str)} (h : Hdrs news vs kvs) : ∀ {i : Nat} {u : Value}, vs[i]? = some u → ∃ a k v t1 t2, u = .ref a ∧ kvs[i]? = some (k, v) ∧ Letter k ∧ Letter v ∧ (a, tupOf #[.str k t1, .str v t2]) ∈ news := by
  induction h with
  | nil => intro i u e; simp at e
  | cons hk hv hm _ ih =>
    intro i u e
    cases i with
    | zero => simp at e; subst e; exact ⟨_, _, _, _, _, rfl, by simp, hk, hv, hm⟩
    | succ i => simp at e; simpa using ih e
theorem Letter.lower {x : Str} (h : Letter x) : Letter (Txt.lower x) := by
  simp only [Letter, letters, List.map_cons, List.map_nil, List.mem_cons, List.not_mem_nil, or_false] at h
  rcases h with rfl | rfl | rfl | rfl | rfl | rfl | rfl | rfl | rfl | rfl | rfl | rfl | rfl | rfl <;> (show _ ∈ letters; decide +kernel)
theorem Letter.upper {x : Str} (h : Letter x) : Letter (Txt.upper x) := by
  simp only [Letter, letters, List.map_cons, List.map_nil, List.mem_cons, List.not_mem_nil, or_false] at h
  rcases h with rfl | rfl | rfl | rfl | rfl | rfl | rfl | rfl | rfl | rfl | rfl | rfl | rfl | rfl <;> (show _ ∈ letters; decide +kernel)
section
variable {prog : Program} {w : World} {A : Around} {E : Value → Shared → Prop} {s : Shared} {x : Str} {t : Tok} {Q : Value → Shared → Prop}
theorem lower_L (hx : Letter x) (h : Q (.str (Txt.lower x) s.toks) { s with toks := s.toks + 1 }) : wpAny (model prog w) A (call (.builtin "str.lower") [.str x t]) Q E s := SCL.lower (by have := hx.len; omega) fun _ => h
theorem upper_L (hx : Letter x) (h : Q (.str (Txt.upper x) s.toks) { s with toks := s.toks + 1 }) : wpAny (model prog w) A (call (.builtin "str.upper") [.str x t]) Q E s := SCL.upper (by have := hx.len; omega) fun _ => h
end
end Mine

local macro_rules | `(tactic| walk_at "call builtin:str.lower") => `(tactic| k_extra "call builtin:str.lower")
local macro_rules | `(tactic| walk_at "call builtin:str.upper") => `(tactic| k_extra "call builtin:str.upper")

namespace Mine
open LCg LCt
section
variable {prog : Program} {w : World} {A : Around} {s : Shared} {h₀ : Heap} {L : Addr} {m : Str → Option Value} {env : Env} {ct elt : Expr} {x : Str} {scope : Scope} {cl : List (Str × Addr)} {S : Led → Prop} {P : Nat → Value → Prop} {Fin : List Value → Led → Prop}
theorem compEnd_mono {s₁ : Shared} {Ia C D : Addr} {oI oC oD : Obj} {rest rest' : Value → Led → Prop} (hr : ∀ y nw, rest y nw → rest' y nw) {y : Value} {s₂ : Shared}
    (h : CompEnd h₀ L m s₁ Ia oI C oC D oD S rest y s₂) : CompEnd h₀ L m s₁ Ia oI C oC D oD S rest' y s₂ := by
  obtain ⟨h', tk, news', e, F, N, off, hS, r⟩ := h
  exact ⟨h', tk, news', e, F, N, off, hS, hr _ _ r⟩
/-- a comprehension with one test, by what holds of the places gone, the values kept and the ledger -/
theorem restT_inv (I : Nat → List Value → Led → Prop) (n : Nat) {news : Led} (h0 : I 0 [] news)
    (step : ∀ i ys news v Ia oI C oC D m₂ h tk (E' : Value → Shared → Prop), i < n → I i ys news → P i v → NsObj oC m₂ → m₂ x = some v → Fr h₀ L h m → News h₀ L h ((Ia, oI) :: (C, oC) :: (D, lst ys) :: news) → Off3 Ia C D news → ((@Ne Nat Ia C) ∧ (@Ne Nat Ia D) ∧ (@Ne Nat C D)) →
      wpAny (model prog w) A (isTrue ct (compEnvC scope cl C env) (eval ct (compEnvC scope cl C env))) (fun ok s' => if ok = true then
        wpAny (model prog w) A (eval elt (compEnvC scope cl C env)) (CompEnd h₀ L m { s with heap := h, toks := tk } Ia oI C oC D (lst ys) S (fun y news' => I (i + 1) (ys ++ [y]) news')) E' s'
        else CompEnd h₀ L m { s with heap := h, toks := tk } Ia oI C oC D (lst ys) S (fun _ news' => I (i + 1) ys news') Value.none s') E' { s with heap := h, toks := tk })
    (fin : ∀ ys news, I n ys news → Fin ys news) : CompRestT prog w A h₀ L m env ct elt x scope cl s S P Fin n 0 [] news := by
  suffices H : ∀ k i ys news, i + k = n → I i ys news → CompRestT prog w A h₀ L m env ct elt x scope cl s S P Fin k i ys news from H n 0 [] news (Nat.zero_add n) h0
  intro k
  induction k with
  | zero => intro i ys news e hI; rw [Nat.add_zero] at e; subst e; exact fin ys news hI
  | succ k ih =>
    intro i ys news e hI v Ia oI C oC D m₂ h tk E' hP hC hx F N off ne
    refine wpAny_mono (step i ys news v Ia oI C oC D m₂ h tk E' (by omega) hI hP hC hx F N off ne) (fun ok s' h' => ?_) fun _ _ e => e
    cases ok with
    | true =>
      simp only [if_true] at h' ⊢
      exact wpAny_mono h' (fun y s'' c => compEnd_mono (fun y nw hi => ih (i + 1) (ys ++ [y]) nw (by omega) hi) c) fun _ _ e => e
    | false =>
      simp only [Bool.false_eq_true, if_false] at h' ⊢
      exact compEnd_mono (fun y nw hi => ih (i + 1) ys nw (by omega) hi) h'
theorem restU_inv (I : Nat → List Value → Led → Prop) (n : Nat) {news : Led} (h0 : I 0 [] news)
    (step : ∀ i ys news v Ia oI C oC D m₂ h tk (E' : Value → Shared → Prop), i < n → I i ys news → P i v → NsObj oC m₂ → m₂ x = some v → Fr h₀ L h m → News h₀ L h ((Ia, oI) :: (C, oC) :: (D, lst ys) :: news) → Off3 Ia C D news → ((@Ne Nat Ia C) ∧ (@Ne Nat Ia D) ∧ (@Ne Nat C D)) →
      wpAny (model prog w) A (eval elt (compEnvC scope cl C env)) (CompEnd h₀ L m { s with heap := h, toks := tk } Ia oI C oC D (lst ys) S (fun y news' => I (i + 1) (ys ++ [y]) news')) E' { s with heap := h, toks := tk })
    (fin : ∀ ys news, I n ys news → Fin ys news) : CompRest prog w A h₀ L m env elt x scope cl s S P Fin n 0 [] news := by
  suffices H : ∀ k i ys news, i + k = n → I i ys news → CompRest prog w A h₀ L m env elt x scope cl s S P Fin k i ys news from H n 0 [] news (Nat.zero_add n) h0
  intro k
  induction k with
  | zero => intro i ys news e hI; rw [Nat.add_zero] at e; subst e; exact fin ys news hI
  | succ k ih =>
    intro i ys news e hI v Ia oI C oC D m₂ h tk E' hP hC hx F N off ne
    exact wpAny_mono (step i ys news v Ia oI C oC D m₂ h tk E' (by omega) hI hP hC hx F N off ne) (fun y s'' c => compEnd_mono (fun y nw hi => ih (i + 1) (ys ++ [y]) nw (by omega) hi) c) fun _ _ e => e
/-- the same where the ledger stays -/
theorem restT_keep {news : Led} (I : Nat → List Value → Prop) (n : Nat) (h0 : I 0 [])
    (step : ∀ i ys v Ia oI C oC D m₂ h tk (E' : Value → Shared → Prop), i < n → I i ys → P i v → NsObj oC m₂ → m₂ x = some v → Fr h₀ L h m → News h₀ L h ((Ia, oI) :: (C, oC) :: (D, lst ys) :: news) → Off3 Ia C D news → ((@Ne Nat Ia C) ∧ (@Ne Nat Ia D) ∧ (@Ne Nat C D)) →
      wpAny (model prog w) A (isTrue ct (compEnvC scope cl C env) (eval ct (compEnvC scope cl C env))) (fun ok s' => if ok = true then
        wpAny (model prog w) A (eval elt (compEnvC scope cl C env)) (CompEnd h₀ L m { s with heap := h, toks := tk } Ia oI C oC D (lst ys) S (fun y news' => news' = news ∧ I (i + 1) (ys ++ [y]))) E' s'
        else CompEnd h₀ L m { s with heap := h, toks := tk } Ia oI C oC D (lst ys) S (fun _ news' => news' = news ∧ I (i + 1) ys) Value.none s') E' { s with heap := h, toks := tk })
    (fin : ∀ ys, I n ys → Fin ys news) : CompRestT prog w A h₀ L m env ct elt x scope cl s S P Fin n 0 [] news := by
  refine restT_inv (fun i ys nw => nw = news ∧ I i ys) n ⟨rfl, h0⟩ ?_ ?_
  · rintro i ys nw v Ia oI C oC D m₂ h tk E' hi ⟨rfl, hI⟩ hP hC hx F N off ne
    exact step i ys v Ia oI C oC D m₂ h tk E' hi hI hP hC hx F N off ne
  · rintro ys nw ⟨rfl, hI⟩
    exact fin ys hI
theorem restU_keep {news : Led} (I : Nat → List Value → Prop) (n : Nat) (h0 : I 0 [])
    (step : ∀ i ys v Ia oI C oC D m₂ h tk (E' : Value → Shared → Prop), i < n → I i ys → P i v → NsObj oC m₂ → m₂ x = some v → Fr h₀ L h m → News h₀ L h ((Ia, oI) :: (C, oC) :: (D, lst ys) :: news) → Off3 Ia C D news → ((@Ne Nat Ia C) ∧ (@Ne Nat Ia D) ∧ (@Ne Nat C D)) →
      wpAny (model prog w) A (eval elt (compEnvC scope cl C env)) (CompEnd h₀ L m { s with heap := h, toks := tk } Ia oI C oC D (lst ys) S (fun y news' => news' = news ∧ I (i + 1) (ys ++ [y]))) E' { s with heap := h, toks := tk })
    (fin : ∀ ys, I n ys → Fin ys news) : CompRest prog w A h₀ L m env elt x scope cl s S P Fin n 0 [] news := by
  refine restU_inv (fun i ys nw => nw = news ∧ I i ys) n ⟨rfl, h0⟩ ?_ ?_
  · rintro i ys nw v Ia oI C oC D m₂ h tk E' hi ⟨rfl, hI⟩ hP hC hx F N off ne
    exact step i ys v Ia oI C oC D m₂ h tk E' hi hI hP hC hx F N off ne
  · rintro ys nw ⟨rfl, hI⟩
    exact fin ys hI
/-- a turn's end where the ledger stays -/
theorem compEnd_keep {s₁ : Shared} {Ia C D : Addr} {oI oC oD : Obj} {R : Value → Prop} {y : Value} {h' : Heap} {tk : Nat} {news all : Led}
    (F : Fr h₀ L h' m) (N : News h₀ L h' all) (sub : ∀ p ∈ (Ia, oI) :: (C, oC) :: (D, oD) :: news, p ∈ all) (off : Off3 Ia C D news) (hS : S news) (r : R y) :
    CompEnd h₀ L m s₁ Ia oI C oC D oD S (fun y news' => news' = news ∧ R y) y { s₁ with heap := h', toks := tk } := CompEnd.intro F N news sub off hS ⟨rfl, r⟩
end
theorem find_none {α : Type} (p : α → Bool) (l : List α) (hf : ∀ j b, j < l.length → l[j]? = some b → p b = false) : l.find? p = none := by
  rw [List.find?_eq_none]
  intro a ha
  obtain ⟨i, hi, e⟩ := List.mem_iff_getElem.mp ha
  have := hf i a hi (by rw [← e]; simp)
  rw [this]; exact Bool.false_ne_true
theorem take_filter_snoc {α : Type} (p : α → Bool) (l : List α) (i : Nat) (a : α) (h : l[i]? = some a) : (l.take (i + 1)).filter p = (l.take i).filter p ++ (if p a then [a] else []) := by
  rw [List.take_add_one, h, List.filter_append]
  cases hp : p a <;> simp [hp]
end Mine

local macro_rules | `(tactic| walk_at "eval ListComp") => `(tactic| k_extra "eval ListComp")
local macro_rules | `(tactic| walk_at "CompRestT") => `(tactic| k_extra "CompRestT")
local macro_rules | `(tactic| walk_at "CompRest") => `(tactic| k_extra "CompRest")
local macro_rules | `(tactic| walk_at "exec For Tuple Attribute cons nil") => `(tactic| k_extra "exec For Tuple Attribute cons nil")
local macro_rules | `(tactic| walk_at "exec For Tuple Name cons nil") => `(tactic| k_extra "exec For Tuple Name cons nil")
local macro_rules | `(tactic| walk_at "mine turns") => `(tactic| ((with_reducible rename Fr _ _ _ _ => lF'); with_unfolding_all refine For_turns lF' ?_))
local macro_rules | `(tactic| walk_at "exec While Compare cons nil") => `(tactic| k_extra "exec While Compare cons nil")

namespace Mine
abbrev sliceAll : Obj := { cls := .type "slice", data := .fields #[.none, .none, .none] }
theorem noIndex_slice : typeLookup (.type "slice") "__index__" = pure none := by rw [typeLookup_type, builtinLookup_eq_fast]; kernel_rfl
section
variable {prog : Program} {w : World} {A : Around} {E : Value → Shared → Prop} {s : Shared} {h₀ : Heap} {L : Addr} {m : Str → Option Value} {news news' : Led} {env : Env}
theorem sliceAll_new {p : Pos} {Q : Value → Shared → Prop} (F : Fr h₀ L s.heap m) (N : News h₀ L s.heap news)
    (h : ∀ a h', Fr h₀ L h' m → News h₀ L h' ((a, sliceAll) :: news) → (∀ p ∈ news, p.1 < a) → Q (.ref a) { s with heap := h' }) : wpAny (model prog w) A (eval (.Slice none none none p) env) Q E s := by
  refine wpAny_Slice ?_
  show wpAny _ A (pure Value.none) _ _ _
  refine wpAny_pure ?_
  show wpAny _ A (pure Value.none) _ _ _
  refine wpAny_pure ?_
  show wpAny _ A (pure Value.none) _ _ _
  refine wpAny_pure ?_
  exact h s.heap.objs.size _ (F.push _) (N.push F _) fun p hp => Heap.lt_size (N p hp).1
theorem sliceStore {l sl D : Addr} {xs ys : List Value} {n k : Nat} {Q : Unit → Shared → Prop} (F : Fr h₀ L s.heap m) (N : News h₀ L s.heap news) (hm : (sl, sliceAll) ∈ news) (hD : (D, listOf ys.toArray k) ∈ news)
    (hlD : NeA l D) (hx : xs.length ≤ 1000) (hy : ys.length ≤ 1000) (U : Upd l (listOf xs.toArray n) (listOf ys.toArray (if ys.length = xs.length then n else n + 1)) news news')
    (h : ∀ h', Fr h₀ L h' m → News h₀ L h' news' → Q () { s with heap := h' }) : wpAny (model prog w) A (setItem (.ref l) (.ref sl) (.ref D)) Q E s := by
  obtain ⟨pre, post, e1, e2, a1, b1⟩ := U.split
  have zl := N (l, listOf xs.toArray n) (by rw [e1]; exact List.mem_append.mpr (.inr (.head _)))
  have ho : s.heap.get? l = some (listOf xs.toArray n) := zl.1
  have hl : s.heap.IsList l xs.toArray := ⟨_, ho, rfl, _, rfl⟩
  have hoD : s.heap.get? D = some (listOf ys.toArray k) := (N _ hD).1
  have hoS : s.heap.get? sl = some sliceAll := (N _ hm).1
  have hTS : s.TypeIs (.ref sl) "slice" := ⟨_, hoS, rfl⟩
  have hTD : s.TypeIs (.ref D) "list" := ⟨_, hoD, rfl⟩
  unfold setItem
  refine wpAny_holding ?_
  refine wpAny_bind (wpAny_sequenceKey hl.typeIs (by decide) ?_)
  refine wpAny_bind (wpAny_callSpecial?_slot (name := Str.ofString "__setitem__") hl.typeIs slot_list_setitem
    (wpAny_call_entry slot_list_setitem hl.typeIs entry_list_setitem ?_ (args_list_setitem _ _ _)))
  show wpAny _ _ (Builtin.List.listSubscript? (.ref sl) >>= _) _ _ s
  refine wpAny_bind ?_
  unfold Builtin.List.listSubscript?
  refine wpAny_bind (wpAny_specialOf hTS noIndex_slice ?_)
  refine wpAny_pure ?_
  refine wpAny_bind (wpAny_typeOf hTS ?_)
  have hfs : ∀ (Q' : Array Value → Shared → Prop) (E' : Value → Shared → Prop) (A' : Around), Q' #[.none, .none, .none] s → wpAny (model prog w) A' (fieldsOf (.ref sl)) Q' E' s := fun Q' E' A' q => by
    unfold fieldsOf
    exact wpAny_bind (wpAny_load hoS (wpAny_pure q))
  show wpAny _ _ (Builtin.List.listSliceParts (.ref sl) >>= _) _ _ s
  refine wpAny_bind ?_
  unfold Builtin.List.listSliceParts field
  refine wpAny_bind (wpAny_bind (hfs _ _ _ (wpAny_pure ?_)))
  refine wpAny_bind (wpAny_pure ?_)
  refine wpAny_bind (wpAny_bind (hfs _ _ _ (wpAny_pure ?_)))
  refine wpAny_bind (wpAny_pure ?_)
  refine wpAny_bind (wpAny_bind (hfs _ _ _ (wpAny_pure ?_)))
  refine wpAny_bind (wpAny_pure ?_)
  refine wpAny_pure ?_
  have hsame : Builtin.List.listSameRef (.ref l) (.ref D) = false := by
    show (l == D) = false
    exact beq_eq_false_iff_ne.mpr hlD
  show wpAny _ _ (if Builtin.List.listSameRef (.ref l) (.ref D) = true then _ else _) _ _ s
  rw [if_neg (by rw [hsame]; exact Bool.false_ne_true)]
  refine wpAny_bind ?_
  unfold Builtin.List.listAllItems
  refine wpAny_bind (wpAny_typeOf hTD ?_)
  have hitem : ∀ (b : Addr) (zs : List Value) (c : Nat) (Q' : Array Value → Shared → Prop) (E' : Value → Shared → Prop) (A' : Around), s.heap.get? b = some (listOf zs.toArray c) → Q' zs.toArray s → wpAny (model prog w) A' (Builtin.List.listItems (.ref b)) Q' E' s := fun b zs c Q' E' A' hb q => by
    unfold Builtin.List.listItems seqItems?
    exact wpAny_bind (wpAny_bind (wpAny_load hb (wpAny_pure (wpAny_pure q))))
  show wpAny _ _ (Builtin.List.listItems (.ref D)) _ _ s
  refine hitem D ys k _ _ _ hoD ?_
  refine wpAny_bind (hitem l xs n _ _ _ ho ?_)
  have hsi : sliceIndices .none .none .none xs.toArray.size = pure (0, (xs.toArray.size : Int), 1) := rfl
  rw [hsi]
  refine wpAny_bind (wpAny_pure ?_)
  have hlong : Builtin.List.listTooLong (xs.toArray.size + ys.toArray.size) = false := by
    unfold Builtin.List.listTooLong
    refine decide_eq_false ?_
    have : sizeLine = 16777216 := by decide
    rw [List.size_toArray, List.size_toArray]; omega
  show wpAny _ _ (if ((1 : Int) == 1) = true then _ else _) _ _ s
  rw [if_pos (show ((1 : Int) == 1) = true from rfl)]
  refine wpAny_bind (wpAny_rule ?_)
  show wpAny _ _ (if Builtin.List.listTooLong (xs.toArray.size + ys.toArray.size) = true then _ else _) _ _ s
  rw [if_neg (by rw [hlong]; exact Bool.false_ne_true)]
  have hfx : xs.toArray.extract 0 (0 : Int).toNat ++ ys.toArray ++ xs.toArray.extract (max (0 : Int) (xs.toArray.size : Int)).toNat xs.toArray.size = ys.toArray := by
    have e : (max (0 : Int) (xs.toArray.size : Int)).toNat = xs.length := by rw [List.size_toArray]; omega
    rw [e]; simp
  refine wpAny_bind ?_
  show wpAny _ _ (updateSeq l _) _ _ s
  refine wpAny_updateSeq ho rfl ?_ (by rw [List.size_toArray]; exact Nat.le_trans hx (by decide)) (by show (xs.toArray.extract 0 (0 : Int).toNat ++ ys.toArray ++ xs.toArray.extract (max (0 : Int) (xs.toArray.size : Int)).toNat xs.toArray.size).size ≤ _; rw [hfx, List.size_toArray]; exact Nat.le_trans hy (by decide))
  refine wpAny_bind (wpAny_letGo ?_)
  refine wpAny_pure ⟨_, rfl, wpAny_pure ?_⟩
  have hnew : Obj.mapSeq (fun zs : Array Value => zs.extract 0 (0 : Int).toNat ++ ys.toArray ++ zs.extract (max (0 : Int) (xs.toArray.size : Int)).toNat zs.size) (listOf xs.toArray n) = listOf ys.toArray (if ys.length = xs.length then n else n + 1) := by
    show Obj.mk _ _ (.seq _ _) _ = _
    simp only [hfx]
    simp
  subst e1 e2
  refine h _ (F.change (Heap.SameBut.update ..) zl.2.1 zl.2.2) (news_set N a1 b1 (Heap.SameBut.update ..) ?_)
  rw [Heap.get?_update_self _ ho (by rw [hnew]; rfl), hnew]
end
end Mine

local macro_rules | `(tactic| walk_at "eval Slice") => `(tactic| (k_here; k_dflt (refine' Mine.sliceAll_new ?k1 ?k2 ?_; (case k1 => k_asm); (case k2 => k_asm); k_whole; intro a9 h9 F9 N9 l9; (try k_lt l9); (try k_sweep))))

namespace Mine
end Mine


namespace Mine
section
variable {M : Model} {A : Around} {E : Value → Shared → Prop} {s : Shared} {K : Frag} {x C L f : Addr} {h₀ : Heap} {m : Str → Option Value} {ox : Obj} {od : Option Obj} {i : Value}
theorem own_delItem {Q : Unit → Shared → Prop} (F : Fr h₀ L s.heap m) (X₀ : K.In h₀) (I : InstAt s.heap x ox C od) (hq : noSeq K C = true) (hs : findIn K (.ref C) "__delitem__" = some (some (.ref f))) (hf : isFn K (.ref f) = true)
    (h : wpAny M A (call (.ref f) [.ref x, i]) (fun _ s' => Q () s') E s) : wpAny M A (delItem (.ref x) i) Q E s := by
  have X := X₀.keeps F.keep
  unfold delItem sequenceKey
  refine wpAny_holding (wpAny_bind (wpAny_bind (I.type.here ?_)))
  refine wpAny_bind ((anyM_none X hq).here ?_)
  rw [if_pos (show (!false) = true from rfl)]
  exact wpAny_pure (wpAny_bind (special_fn X I hs (beq_iff_eq.mp hf) (wpAny_mono h (fun _ _ z => wpAny_pure z) fun _ _ z => z)))
end
end Mine

local macro_rules | `(tactic| walk_at "delItem ref") => `(tactic| k_extra "delItem ref")

namespace Mine
end Mine


namespace Mine
end Mine

set_option hygiene false
set_option hygiene true

namespace Mine
abbrev entDict (w : World) (k1 k2 k3 k4 : Tok) (u r : Addr) (n : Nat) : Obj := dictOf [⟨PyData.keyHash w.params (Str.ofString "useragents"), .str (Str.ofString "useragents") k1, .ref u⟩, ⟨PyData.keyHash w.params (Str.ofString "rulelines"), .str (Str.ofString "rulelines") k2, .ref r⟩,
  ⟨PyData.keyHash w.params (Str.ofString "delay"), .str (Str.ofString "delay") k3, .none⟩, ⟨PyData.keyHash w.params (Str.ofString "req_rate"), .str (Str.ofString "req_rate") k4, .none⟩] n
theorem ent_spec (w : World) (news : Led) :
   Spec w 500 5000 224 [] [] news (fun r' news' => ∃ x d u r k1 k2 k3 k4, r' = .ref x ∧ news' = (r, listOf #[] 0) :: (u, listOf #[] 0) :: (x, instObj 224 d) :: (d, entDict w k1 k2 k3 k4 u r 4) :: news ∧ AllLt d news ∧ LtA d x ∧ LtA x u ∧ LtA u r) := by
  k_with_none
  k_with "getMethod ref" => ((k_here; (with_reducible show wpAny _ _ (getMethod (Value.ref _) (Str.ofString "search") _) _ _ _); k_dflt (refine' Mine.meth_search ?k1 ?k2 ?k3 ?k4 ?k5 ?_; (case k1 => k_asm); (case k2 => k_asm); (case k3 => k_is); (case k4 => rfl); (case k5 => rfl); k_whole)))
  k_with "call builtin:re.Pattern.search" => ((k_here; k_dflt (refine' Mine.call_search ?k1 ?k2 ?k3 ?k4 ?k5 ?_; (case k1 => k_asm); (case k2 => k_asm); (case k3 => k_is); (case k4 => rfl); (case k5 => first | with_reducible exact Mine.srchN _ _ _ (by assumption) | with_reducible exact Mine.srchV _ _ _ (by assumption)); k_whole)))
  k_with "mine use" => (((case k1 => k_asm); (case k2 => k_asm); (case k3 => k_asm); (case k4 => k_asm); (case k5 => k_asm); (case kd => exact Nat.le_of_ble_eq_true rfl); (case ku => exact Nat.le_of_ble_eq_true rfl)))
  k_with "mine lt" => ((walk_at "mine and"; first | omega | assumption | exact allLt_of (by assumption) | exact Mine.ltUp (by omega) (by assumption) | exact Mine.ltUp (by omega) (allLt_of (by assumption))))
  k_with "mine letter" => (first | assumption | exact Mine.Letter.lower (by assumption) | exact Mine.Letter.upper (by assumption) | exact Mine.Letter.lower (Mine.Letter.upper (by assumption)))
  k_with "call builtin:str.lower" => ((k_here; k_dflt (refine Mine.lower_L (by walk_at "mine letter") ?_)))
  k_with "call builtin:str.upper" => ((k_here; k_dflt (refine Mine.upper_L (by walk_at "mine letter") ?_)))
  k_with "eval ListComp" => (k_extra "mine comp")
  k_with "CompRestT" => (k_extra "mine restT")
  k_with "CompRest" => (k_extra "mine rest")
  k_with "exec For Tuple Attribute cons nil" => (k_extra "mine for")
  k_with "exec For Tuple Name cons nil" => (k_extra "mine for")
  k_with "exec While Compare cons nil" => (k_extra "mine while")
  k_with "delItem ref" => ((k_here; k_dflt (refine' Mine.own_delItem ?F ?X ?I ?hQ ?hS ?hF ?_; (case F => k_asm); (case X => k_asm); (case I => k_inst); (case hS => k_is); (case hF => k_is); (case hQ => k_is); k_whole)))
  k_with "mine hdrs" => (first | assumption | exact Mine.Hdrs.mono (by kcj_all) (by assumption))
  w_top off
  have : Challenge.rw_rl0103_02 = Challenge.rw_rl0103_02 ∧ Mine.hd.heap_39 = Mine.hd.heap_39 := by k_fill; exact ⟨rfl, rfl⟩
  intro cn names ig ic more a ccd cl outer A₀ base h₀ L m mean mg mb s Q E B F X N T hret
  k_steps
  refine hret _ _ _ _ (by k_asm) (by k_asm) ⟨_, _, _, _, _, _, _, _, rfl, rfl, ?_, ?_, ?_, ?_⟩ <;> walk_at "mine lt"
end Mine

set_option hygiene false
local macro_rules | `(tactic| walk_at "call ref") => `(tactic| k_extra "call ref")
set_option hygiene true

namespace Mine
open Builtin
theorem c_entry_getattribute : entryFor table "set.__getattribute__" = some Builtin.«object.__getattribute__» :=
  entryFor_alias (id' := "object.__getattribute__") (by kernel_rfl) (by decide +kernel) (by decide +kernel) (by kernel_rfl)
theorem c_lookup : typeLookup (.type "set") "__contains__" = pure (some (.builtin "set.__contains__")) := by rw [typeLookup_type, builtinLookup_eq_fast]; kernel_rfl
theorem c_getattr_none : typeLookup (.type "set") "__getattr__" = pure none := by rw [typeLookup_type, builtinLookup_eq_fast]; kernel_rfl
theorem c_type : typeOf (.builtin "set.__contains__") = pure (.type "method_descriptor") := by show builtinType _ = _; rw [builtinType_eq_fast]; kernel_rfl
theorem c_get : typeLookup (.type "method_descriptor") "__get__" = pure (some (.builtin "method_descriptor.__get__")) := by rw [typeLookup_type, builtinLookup_eq_fast]; kernel_rfl
theorem c_noset : typeLookup (.type "method_descriptor") "__set__" = pure none := by rw [typeLookup_type, builtinLookup_eq_fast]; kernel_rfl
theorem c_nodel : typeLookup (.type "method_descriptor") "__delete__" = pure none := by rw [typeLookup_type, builtinLookup_eq_fast]; kernel_rfl
theorem c_slot_get : Slot "method_descriptor" "__get__" "method_descriptor.__get__" :=
  .of (owner := "method_descriptor") (n := "__get__") (by rw [typeLookup_type, builtinLookup_eq_fast]; kernel_rfl) (by decide +kernel) (by decide +kernel) (by decide +kernel)
    (by first | exact .inl (by decide +kernel) | exact .inr (by decide +kernel)) (by rw [isSubtype_type]; kernel_rfl)
theorem c_entry_get : entryFor table "method_descriptor.__get__" = some Builtin.«method_descriptor.__get__» := entryFor_of_tree (by kernel_rfl)
theorem c_args_get (a b c : Value) : argsOk "method_descriptor.__get__" ⟨[a, b, c], []⟩ := by unfold argsOk; kernel_rfl
section
variable {prog : Program} {w : World} {A : Around} {E : Value → Shared → Prop} {s : Shared}
/-- the bound method of a set's own __contains__ -/
abbrev boundIn (a : Addr) : Obj := { cls := .type "builtin_function_or_method", data := .fields #[.builtin "set.__contains__", .ref a] }
theorem get_body {a : Addr} {es : Array (Int × Value)} {ep : Nat} {tb : SetTable} {sl : Array (Option Value)} {P : PySem.Fin → Shared → Prop} (hx : s.heap.get? a = some { cls := .type "set", dict := none, data := .set es ep tb, slots := sl })
    (h : P (.done (.ret (.ref s.heap.objs.size))) { s with heap := s.heap.push (boundIn a) }) :
    wpAny (model prog w) A (Builtin.«method_descriptor.__get__» ⟨[.builtin "set.__contains__", .ref a, .type "set"], []⟩) P E s := by
  obtain ⟨hp, g, d, tk, os⟩ := s
  have hT : (⟨hp, g, d, tk, os⟩ : Shared).TypeIs (.ref a) "set" := ⟨_, hx, rfl⟩
  have f2 := sub_set_self
  have f3 : Manifest.toldItsClass.contains "set.__contains__" = false := by decide +kernel
  unfold Builtin.«method_descriptor.__get__»
  repeat (any_goals (first | assumption | wp_step))
  have e : ".".intercalate ("set.__contains__".cutAt '.').dropLast = "set" := by decide +kernel
  rw [e]
  refine wpAny_of_eq f2 ?_
  refine wpAny_pure ?_
  refine wpAny_bind (wpAny_newObj_type (wpAny_pure h))
theorem getattribute_contains {a : Addr} {es : Array (Int × Value)} {ep : Nat} {tb : SetTable} {sl : Array (Option Value)} {u : Tok} {P : PySem.Fin → Shared → Prop} (hx : s.heap.get? a = some { cls := .type "set", dict := none, data := .set es ep tb, slots := sl })
    (h : P (.done (.ret (.ref s.heap.objs.size))) { s with heap := s.heap.push (boundIn a) }) :
    wpAny (model prog w) A (Builtin.«object.__getattribute__» ⟨[.ref a, .str "__contains__" u], []⟩) P E s := by
  obtain ⟨hp, g, d, tk, os⟩ := s
  have hT : (⟨hp, g, d, tk, os⟩ : Shared).TypeIs (.ref a) "set" := ⟨_, hx, rfl⟩
  have f1 := c_lookup
  have f2 := c_type
  have f3 := c_get
  have f4 := c_noset
  have f5 := c_nodel
  unfold Builtin.«object.__getattribute__»
  repeat (any_goals (first | assumption | wp_step))
  refine codeAny_call_builtin c_slot_get.plain c_entry_get ?_
  refine c_slot_get.check _ _ _ _ _ _ _ _ (show Shared.TypeIs _ _ _ from c_type) (c_args_get _ _ _) ?_
  exact get_body hx (wpAny_pure h)
theorem getAttr_contains {a : Addr} {es : Array (Int × Value)} {ep : Nat} {tb : SetTable} {sl : Array (Option Value)} {Q : Value → Shared → Prop} {ex : Bool} (hx : s.heap.get? a = some { cls := .type "set", dict := none, data := .set es ep tb, slots := sl })
    (h : ∀ tk, Q (.ref s.heap.objs.size) { s with heap := s.heap.push (boundIn a), toks := tk }) :
    wpAny (model prog w) A (getAttr (.ref a) "__contains__" ex) Q E s := by
  obtain ⟨hp, g, d, tk, os⟩ := s
  have hT : ∀ tk', (⟨hp, g, d, tk', os⟩ : Shared).TypeIs (.ref a) "set" := fun _ => ⟨_, hx, rfl⟩
  have f3 := F.slot_set_getattribute.lookup
  have f4 := F.slot_set_getattribute.bind (.ref a)
  have f5 := c_getattr_none
  unfold getAttr getAttrBy
  repeat (any_goals (first | assumption | exact hT _ | ((with_reducible show wpAny _ _ (call (Value.builtin "set.__getattribute__") _ _) _ _ _); refine wpAny_call_entry F.slot_set_getattribute (hT _) c_entry_getattribute (getattribute_contains hx ⟨_, rfl, ?_⟩) (F.args_set_getattribute_2 _ _)) | wp_step))
  have e0 : (ex && onTheHeap (Value.builtin "set.__getattribute__")) = false := by cases ex <;> rfl
  rw [if_neg (by rw [e0]; exact Bool.false_ne_true)]
  unfold boundAndCalled
  refine wpAny_bind (wpAny_of_eq f4 ?_)
  refine wpAny_call_entry (T := "set") (name := "__getattribute__") F.slot_set_getattribute (hT _) c_entry_getattribute (getattribute_contains hx ⟨_, rfl, ?_⟩) (F.args_set_getattribute_2 _ _)
  refine handed_on rfl ?_
  exact h _
end
end Mine


namespace Mine
open Builtin
theorem mro_filter : mroOf (.type "filter") = pure [.type "filter", .type "object"] := by rw [mroOf_type]; kernel_rfl
theorem lookup_filter_new : typeLookup (.type "filter") "__new__" = pure (some (.builtin "filter.__new__")) := by rw [typeLookup_type, builtinLookup_eq_fast]; kernel_rfl
theorem slot_filter_init : Slot "filter" "__init__" "object.__init__" :=
  .of (owner := "object") (n := "__init__") (by rw [typeLookup_type, builtinLookup_eq_fast]; kernel_rfl) (by decide +kernel) (by decide +kernel) (by decide +kernel)
    (by first | exact .inl (by decide +kernel) | exact .inr (by decide +kernel)) (by rw [isSubtype_type]; kernel_rfl)
theorem called_filter : TypeCalled "filter" "filter.__new__" "object.__init__" :=
  ⟨by decide +kernel, by decide +kernel, ⟨_, _, mro_filter⟩, madeBy_type mro_filter lookup_filter_new (by decide +kernel), by decide +kernel, by rw [isSubtype_type]; kernel_rfl, slot_filter_init⟩
theorem typeCall_filter (a b : Value) : checkTypeCall "filter" ⟨[a, b], []⟩ = pure () := by kernel_rfl
theorem newCall_filter (a b : Value) : checkBuiltinCall "filter.__new__" ⟨[.type "filter", a, b], []⟩ = pure () := by kernel_rfl
theorem entry_filter_new : entryFor table "filter.__new__" = some Builtin.«filter.__new__» := entryFor_of_tree (by kernel_rfl)
theorem args_object_init_3 (a b c : Value) : argsOk "object.__init__" ⟨[a, b, c], []⟩ := by unfold argsOk; kernel_rfl
theorem sub_filter : isSubtype (.type "filter") (.type "filter") = pure true := by rw [isSubtype_type]; kernel_rfl
abbrev listIterObj (l : Addr) (i : Int) : Obj := { cls := .type "list_iterator", data := .fields #[.ref l, .int i 0] }
abbrev filtObj (f : Value) (it : Addr) : Obj := { cls := .type "filter", data := .fields #[f, .ref it] }
set_option maxRecDepth 100000 in
theorem meets_filter_new (f : Value) (l : Addr) (items : Array Value) (n : Nat) (dct : Option Addr) (sl : Array (Option Value)) :
    Meets (Builtin.«filter.__new__» ⟨[.type "filter", f, .ref l], []⟩) (fun _ R s => s.heap.get? l = some { cls := .type "list", dict := dct, data := .seq items n, slots := sl } ∧
      R (.ok (.ret (.ref (s.heap.push (listIterObj l 0)).objs.size))) { s with heap := (s.heap.push (listIterObj l 0)).push (filtObj f s.heap.objs.size) }) :=
  .of_wp fun prog w A R s h => by
    obtain ⟨hp, g, d, tk, os⟩ := s; obtain ⟨hl, h⟩ := h
    have hsub := sub_filter
    have hL : Heap.IsList (Shared.heap ⟨hp, g, d, tk, os⟩) l items := ⟨_, hl, rfl, n, rfl⟩
    unfold Builtin.«filter.__new__»
    generalize hPI : pyIter = PI
    repeat (any_goals (first | assumption | wp_step))
    subst hPI
    refine wpAny_pyIter_list hL ?_
    repeat (any_goals (first | assumption | wp_step))
    exact ⟨_, rfl, h⟩
section
variable {prog : Program} {w : World} {A : Around} {E : Value → Shared → Prop} {s : Shared}
theorem call_filter {f : Value} {l : Addr} {items : Array Value} {Q : Value → Shared → Prop} (hL : s.heap.IsList l items)
    (h : Q (.ref (s.heap.objs.size + 1)) { s with heap := (s.heap.push (listIterObj l 0)).push (filtObj f s.heap.objs.size) }) :
    wpAny (model prog w) A (call (.type "filter") [f, .ref l]) Q E s := by
  obtain ⟨⟨c, dct, dt, sl⟩, hl, hc, n, hd⟩ := hL
  replace hc : c = .type "list" := hc
  replace hd : dt = .seq items n := hd
  subst hc hd
  refine callType_new called_filter (by decide) (typeCall_filter _ _) (newCall_filter _ _) (fun obj => args_object_init_3 obj _ _) entry_filter_new
    (meets_filter_new f l items n dct sl) ⟨hl, ?_⟩
  have hz : (s.heap.push (listIterObj l 0)).objs.size = s.heap.objs.size + 1 := Heap.size_push ..
  show _ ∧ _
  rw [hz]
  refine ⟨⟨filtObj f s.heap.objs.size, ?_, rfl⟩, h⟩
  have := Heap.get?_push_size (s.heap.push (listIterObj l 0)) (o := filtObj f s.heap.objs.size) rfl
  rw [hz] at this; exact this
theorem plain_set_contains : plainId "set.__contains__" = true := by decide +kernel
theorem call_boundIn {BF S : Addr} {Sf : Str → Bool} {c : Nat} {y : Str} {t : Tok} {Q : Value → Shared → Prop} (hb : s.heap.get? BF = some (boundIn S)) (hS : s.heap.SetOf (strKind prog w) S Sf c)
    (h : Q (.bool (Sf y)) { s with toks := s.toks + 1 }) : wpAny (model prog w) A (call (.ref BF) [.str y t]) Q E s := by
  refine wpAny_call (codeAny_of_tree ?_)
  show wpAny _ _ (callAny (.ref BF) _) _ _ _
  obtain ⟨o, es, ep, tb, ho, hex, hdat, hrest⟩ := id hS
  have hT : s.TypeIs (.ref S) "set" := hS.typeIs
  have f1 : Manifest.signature? "set.__contains__" = some ⟨.oneArg, "set.__contains__", "__contains__", .self, [⟨"object", .posOnly, true⟩]⟩ := by kernel_rfl
  have f2 : builtinKind "set.__contains__" = some .method := by kernel_rfl
  have f3 : isSubtype (.type "set") (.type "module") = pure false := by rw [isSubtype_type]; kernel_rfl
  have f4 : Manifest.varargsMethods.contains "set.__contains__" = false := by decide +kernel
  unfold callAny
  refine wpAny_bind (wpAny_load hb ?_)
  show wpAny _ _ (checkBoundCall "set.__contains__" ⟨[.ref S, .str y t], []⟩ >>= fun _ => again (.builtin "set.__contains__" ⟨[.ref S, .str y t], []⟩)) _ _ s
  refine wpAny_bind ?_
  unfold checkBoundCall
  simp only [f1, f2]
  show wpAny _ _ (isInstance (.ref S) (.type "module") >>= _) _ _ s
  refine wpAny_bind (wpAny_isInstance hT f3 ?_)
  have f5 : Bind.checkArgs "set.__contains__" ⟨.oneArg, toString (Bind.lastOf "set") ++ toString "." ++ toString (Bind.lastOf "set.__contains__"), "__contains__", .self, [⟨"object", .posOnly, true⟩]⟩ ⟨[.ref S, .str y t], []⟩ = pure () := by kernel_rfl
  have hty : ∀ (Q' : Bool → Shared → Prop) (E' : Value → Shared → Prop) (A' : Around), Q' false s → wpAny (model prog w) A' (isType (.ref S)) Q' E' s := fun Q' E' A' q => by
    show wpAny _ _ (loadHead S >>= _) _ _ s
    refine wpAny_bind (wpAny_loadPart ho ?_)
    rw [hdat]
    exact wpAny_pure q
  rw [if_neg (by rw [f4]; exact Bool.false_ne_true)]
  refine wpAny_bind (hty _ _ _ ?_)
  rw [if_neg Bool.false_ne_true]
  refine wpAny_bind (wpAny_typeOf hT ?_)
  refine wpAny_of_eq f5 ?_
  refine wpAny_pure ⟨plainId_quiet plain_set_contains _, codeAny_builtin entry_set_contains ?_⟩
  rw [Around.under_plainId plain_set_contains _]
  unfold Builtin.«frozenset.__contains__» Builtin.Frozenset.oneOther
  simp only [List.isEmpty_nil, bind_assoc]
  unfold Builtin.Frozenset.addrOf Builtin.Frozenset.withSetAsKey setContains
  refine wpAny_bind (wpAny_pure ?_)
  try dsimp only
  refine wpAny_bind (wpAny_pure ?_)
  try dsimp only
  refine wpAny_bind (wpAny_tryCatch ?_)
  refine wpAny_holding ?_
  refine wpAny_bind ((strKind prog w).pyHash (k := y) (strKind_is _ _ _ _) ?_)
  refine wpAny_bind (wpAny_setFind_of (s := { s with toks := s.toks + 1 }) (k := y) (strKind_is _ _ _ _) rfl hS fun r hr => ?_)
  refine wpAny_pure ?_
  show wpAny _ _ (ret (Value.bool r.isSome)) _ _ _
  rw [hr]
  exact wpAny_pure h
end
end Mine


namespace Mine
open Builtin
theorem slot_filter_next : Slot "filter" "__next__" "filter.__next__" :=
  .of (owner := "filter") (n := "__next__") (by rw [typeLookup_type, builtinLookup_eq_fast]; kernel_rfl) (by decide +kernel) (by decide +kernel) (by decide +kernel)
    (by first | exact .inl (by decide +kernel) | exact .inr (by decide +kernel)) (by rw [isSubtype_type]; kernel_rfl)
theorem entry_filter_next : entryFor table "filter.__next__" = some Builtin.«filter.__next__» := entryFor_of_tree (by kernel_rfl)
theorem args_filter_next (a : Value) : argsOk "filter.__next__" ⟨[a], []⟩ := by unfold argsOk; kernel_rfl
theorem slot_filter_iter : Slot "filter" "__iter__" "filter.__iter__" :=
  .of (owner := "filter") (n := "__iter__") (by rw [typeLookup_type, builtinLookup_eq_fast]; kernel_rfl) (by decide +kernel) (by decide +kernel) (by decide +kernel)
    (by first | exact .inl (by decide +kernel) | exact .inr (by decide +kernel)) (by rw [isSubtype_type]; kernel_rfl)
theorem entry_filter_iter : entryFor table "filter.__iter__" = some Builtin.«dict_keyiterator.__iter__» :=
  entryFor_alias (id' := "dict_keyiterator.__iter__") (by kernel_rfl) (by decide +kernel) (by decide +kernel) (by kernel_rfl)
theorem args_filter_iter (a : Value) : argsOk "filter.__iter__" ⟨[a], []⟩ := by unfold argsOk; kernel_rfl
theorem filter_no_len : typeLookup (.type "filter") "__len__" = pure none := by rw [typeLookup_type, builtinLookup_eq_fast]; kernel_rfl
theorem filter_no_hint : typeLookup (.type "filter") "__length_hint__" = pure none := by rw [typeLookup_type, builtinLookup_eq_fast]; kernel_rfl
section
variable {prog : Program} {w : World} {A : Around} {E : Value → Shared → Prop} {s : Shared}
theorem iter_next_item {it l : Addr} {i : Nat} {items : Array Value} {x : Value} {Q : Option Value → Shared → Prop} (hit : s.heap.IsListIter it l i) (hl : s.heap.IsList l items) (hx : items[i]? = some x)
    (hQ : ∀ h', h'.IsListIter it l (i + 1) → Heap.SameBut it s.heap h' → Q (some x) { s with heap := h' }) : wpAny (model prog w) A (callSpecial? (.ref it) "__next__") Q E s := by
  obtain ⟨o, ho, hc, hd⟩ := id hit
  obtain ⟨ol, hol, _, nl, hdl⟩ := hl
  refine wpAny_callSpecial?_slot (name := Str.ofString "__next__") hit.typeIs slot_listiter_next
    (wpAny_call_entry slot_listiter_next hit.typeIs entry_listiter_next ?_ (args_listiter_next _))
  show wpAny _ _ (field (.ref it) 0 >>= _) _ _ s
  refine wpAny_bind (wpAny_field ho hd (x := .ref l) rfl ?_)
  show wpAny _ _ (if (Value.ref l == Value.none) = true then _ else _) _ _ s
  rw [if_neg (show ¬ ((Value.ref l == Value.none) = true) from Bool.false_ne_true)]
  show wpAny _ _ (field (.ref it) 1 >>= _) _ _ s
  refine wpAny_bind (wpAny_field ho hd (x := .int i 0) rfl ?_)
  show wpAny _ _ (seqItems? (.ref l) >>= _) _ _ s
  refine wpAny_bind (wpAny_seqItems hol hdl ?_)
  simp only [Int.toNat_natCast, hx]
  refine wpAny_bind (wpAny_setField ho hd (by simp) (wpAny_pure ⟨x, rfl, hQ _ ?_ (Heap.SameBut.update ..)⟩))
  exact ⟨_, Heap.get?_update_self _ ho (Obj.isFreed_of_fields (Obj.data_mapFields hd _)), (Obj.cls_mapFields ..).trans hc, by
    rw [Obj.data_mapFields hd]; simp [rawInt]⟩
theorem iter_next_end {it l : Addr} {i : Nat} {items : Array Value} {Q : Option Value → Shared → Prop} (hh : A.handled = none) (hit : s.heap.IsListIter it l i) (hl : s.heap.IsList l items) (hx : items[i]? = none)
    (hE : ∀ h' e o, Heap.ExtBut it s.heap h' → h'.get? e = some o → o.cls = .type "StopIteration" → E (.ref e) { s with heap := h' }) : wpAny (model prog w) A (callSpecial? (.ref it) "__next__") Q E s := by
  obtain ⟨o, ho, hc, hd⟩ := id hit
  obtain ⟨ol, hol, _, nl, hdl⟩ := hl
  refine wpAny_callSpecial?_slot (name := Str.ofString "__next__") hit.typeIs slot_listiter_next
    (wpAny_call_entry slot_listiter_next hit.typeIs entry_listiter_next ?_ (args_listiter_next _))
  show wpAny _ _ (field (.ref it) 0 >>= _) _ _ s
  refine wpAny_bind (wpAny_field ho hd (x := .ref l) rfl ?_)
  show wpAny _ _ (if (Value.ref l == Value.none) = true then _ else _) _ _ s
  rw [if_neg (show ¬ ((Value.ref l == Value.none) = true) from Bool.false_ne_true)]
  show wpAny _ _ (field (.ref it) 1 >>= _) _ _ s
  refine wpAny_bind (wpAny_field ho hd (x := .int i 0) rfl ?_)
  show wpAny _ _ (seqItems? (.ref l) >>= _) _ _ s
  refine wpAny_bind (wpAny_seqItems hol hdl ?_)
  simp only [Int.toNat_natCast, hx]
  refine wpAny_bind (wpAny_rule (wpAny_bind (wpAny_setField ho hd (by simp) ?_)))
  show wpAny _ _ (newExc (.type "StopIteration") [] >>= _) _ _ _
  refine wpAny_bind ?_
  simp only [newExc, newTuple]
  refine wpAny_bind (wpAny_newObj_type ?_ (by size_fits))
  refine wpAny_bind (m := firstArgMember _ _) (wpAny_of_eq (a := Value.none) (by first | rfl | (simp only [firstArgMember]; rfl)) ?_)
  refine wpAny_newObj_type ?_ (by size_fits)
  simp only [raiseNew]
  refine wpAny_bind (wpAny_handled ?_)
  rw [show A.in1.handled = none from hh]
  refine wpAny_bind (wpAny_pure (wpAny_throw ?_))
  exact hE _ _ _ (((Heap.SameBut.update ..).extBut.push _).push _) (Heap.get?_push_size _ rfl) rfl
end

/-- the filter's parts in the heap: the filter F over the iterator IT of the list l, by the bound method BF of the set S -/
structure FiltAt (prog : Program) (w : World) (h : Heap) (F IT l BF S : Addr) (items : Array Value) (Sf : Str → Bool) (c j : Nat) : Prop where
  f : h.get? F = some (filtObj (.ref BF) IT)
  it : h.IsListIter IT l j
  l : h.IsList l items
  s : h.SetOf (strKind prog w) S Sf c
  b : h.get? BF = some (boundIn S)
theorem FiltAt.keep {prog : Program} {w : World} {h h' : Heap} {F IT l BF S : Addr} {items : Array Value} {Sf : Str → Bool} {c j : Nat} (x : FiltAt prog w h F IT l BF S items Sf c j)
    (hk : ∀ b ∈ [F, IT, l, BF, S], ∀ o, h.get? b = some o → h'.get? b = some o) : FiltAt prog w h' F IT l BF S items Sf c j := by
  refine ⟨hk _ (by simp) _ x.f, ?_, ?_, ?_, hk _ (by simp) _ x.b⟩
  · obtain ⟨o, ho, r⟩ := x.it; exact ⟨o, hk _ (by simp) _ ho, r⟩
  · obtain ⟨o, ho, r⟩ := x.l; exact ⟨o, hk _ (by simp) _ ho, r⟩
  · obtain ⟨o, es, ep, t, ho, r⟩ := x.s; exact ⟨o, es, ep, t, hk _ (by simp) _ ho, r⟩
theorem FiltAt.next {prog : Program} {w : World} {h h' : Heap} {F IT l BF S : Addr} {items : Array Value} {Sf : Str → Bool} {c j : Nat} (x : FiltAt prog w h F IT l BF S items Sf c j)
    (hF : F ≠ IT) (hl : l ≠ IT) (hB : BF ≠ IT) (hS : S ≠ IT) (hi : h'.IsListIter IT l (j + 1)) (hk : Heap.SameBut IT h h') : FiltAt prog w h' F IT l BF S items Sf c (j + 1) := by
  refine ⟨hk.extBut _ _ hF x.f, hi, ?_, ?_, hk.extBut _ _ hB x.b⟩
  · obtain ⟨o, ho, r⟩ := x.l; exact ⟨o, hk.extBut _ _ hl ho, r⟩
  · obtain ⟨o, es, ep, t, ho, r⟩ := x.s; exact ⟨o, es, ep, t, hk.extBut _ _ hS ho, r⟩

theorem strsAre_at {vs : List Value} {ys : List Str} (h : StrsAre vs ys) : ∀ {i : Nat} {v : Value}, vs[i]? = some v → ∃ y t, ys[i]? = some y ∧ v = .str y t := by
  induction h with
  | nil => intro i v e; simp at e
  | cons y t _ ih =>
    intro i v e
    cases i with
    | zero => simp at e; exact ⟨y, t, by simp, e.symm⟩
    | succ i => simp at e; simpa using ih e
theorem strsAre_length {vs : List Value} {ys : List Str} (h : StrsAre vs ys) : vs.length = ys.length := by
  induction h with
  | nil => rfl
  | cons _ _ _ ih => simp [ih]

section
variable {prog : Program} {w : World} {A : Around} {s : Shared} {R : Result → Shared → Prop} {F IT l BF S : Addr} {items : Array Value} {ys : List Str} {Sf : Str → Bool} {c : Nat}
theorem code_filter_next (hh : A.handled = none) (hy : StrsAre items.toList ys) (hF : F ≠ IT) (hl : l ≠ IT) (hB : BF ≠ IT) (hS : S ≠ IT) :
    ∀ (k j : Nat) (s : Shared), items.size - j = k → FiltAt prog w s.heap F IT l BF S items Sf c j →
      (∀ j' y t h' tk, j ≤ j' → ys[j']? = some y → Sf y = true → (∀ m z, j ≤ m → m < j' → ys[m]? = some z → Sf z = false) → FiltAt prog w h' F IT l BF S items Sf c (j' + 1) → (∀ b o, b ≠ IT → s.heap.get? b = some o → h'.get? b = some o) → R (.ok (.ret (.str y t))) { s with heap := h', toks := tk }) →
      (∀ h' tk e o, (∀ m z, j ≤ m → ys[m]? = some z → Sf z = false) → (∀ b o, b ≠ IT → s.heap.get? b = some o → h'.get? b = some o) → h'.get? e = some o → o.cls = .type "StopIteration" → R (.error (.ref e)) { s with heap := h', toks := tk }) →
      codeAny (model prog w) A (.builtin "filter.__next__" ⟨[.ref F], []⟩) R s := by
  intro k
  induction k with
  | zero =>
    intro j s hk x hR hE
    have hnone : items[j]? = none := Array.getElem?_eq_none (by omega)
    refine codeAny_builtin entry_filter_next ?_
    rw [Around.under_plainId slot_filter_next.plain _]
    show wpAny _ _ (field (.ref F) 0 >>= _) _ _ s
    refine wpAny_bind (wpAny_field x.f rfl (x := .ref BF) rfl ?_)
    refine wpAny_bind (wpAny_field x.f rfl (x := .ref IT) rfl ?_)
    refine wpAny_bind (iter_next_end hh x.it x.l hnone fun h' e o hx he hc => ?_)
    refine hE h' s.toks e o (fun m z hm hz => ?_) hx he hc
    have := List.getElem?_eq_some_iff.mp hz
    obtain ⟨hlt, _⟩ := this
    have e1 := strsAre_length hy
    rw [Array.length_toList] at e1
    omega
  | succ k ih =>
    intro j s hk x hR hE
    have hjlt : j < items.size := by omega
    have hsome : items[j]? = some items[j] := by simp [hjlt]
    obtain ⟨y, t, hyj, hv⟩ := strsAre_at hy (i := j) (v := items[j]) (by rw [Array.getElem?_toList]; exact hsome)
    refine codeAny_builtin entry_filter_next ?_
    rw [Around.under_plainId slot_filter_next.plain _]
    show wpAny _ _ (field (.ref F) 0 >>= _) _ _ s
    refine wpAny_bind (wpAny_field x.f rfl (x := .ref BF) rfl ?_)
    refine wpAny_bind (wpAny_field x.f rfl (x := .ref IT) rfl ?_)
    refine wpAny_bind (iter_next_item x.it x.l hsome fun h' hi hx => ?_)
    have x' := x.next hF hl hB hS hi hx
    rw [hv]
    refine wpAny_bind (wpAny_holding ?_)
    show wpAny _ _ (call (.ref BF) [.str y t] >>= fun good => holding [good] (truthy good)) _ _ _
    refine wpAny_bind (call_boundIn (s := { s with heap := h' }) x'.b x'.s ?_)
    refine wpAny_holding (wpAny_truthy_bool ?_)
    cases hs : Sf y with
    | true =>
      refine wpAny_pure ?_
      exact hR j y t h' _ (Nat.le_refl _) hyj hs (fun m z h1 h2 => absurd h1 (Nat.not_le.mpr h2)) x' hx.extBut
    | false =>
      refine wpAny_pure ⟨plainId_quiet slot_filter_next.plain _, ?_⟩
      refine ih (j + 1) { s with heap := h', toks := s.toks + 1 } (by omega) x' ?_ ?_
      · intro j' y' t' h'' tk hj' hy' hs' hm' x'' hk''
        refine hR j' y' t' h'' tk (by omega) hy' hs' (fun m z h1 h2 hz => ?_) x'' fun b o hb e => hk'' b o hb (hx.extBut b o hb e)
        rcases Nat.eq_or_lt_of_le h1 with rfl | h1
        · rw [hyj] at hz; cases hz; exact hs
        · exact hm' m z h1 h2 hz
      · intro h'' tk e o hm' hk'' he hc
        refine hE h'' tk e o (fun m z h1 hz => ?_) (fun b o hb e => hk'' b o hb (hx.extBut b o hb e)) he hc
        rcases Nat.eq_or_lt_of_le h1 with rfl | h1
        · rw [hyj] at hz; cases hz; exact hs
        · exact hm' m z h1 hz
end
end Mine


namespace Mine
open Builtin
theorem filter_at {α : Type} (p : α → Bool) (l : List α) (j : Nat) (a : α) (h : l[j]? = some a) (hp : p a = true) : (l.filter p)[((l.take j).filter p).length]? = some a := by
  have e : l = l.take j ++ a :: l.drop (j + 1) := by
    have hlt := (List.getElem?_eq_some_iff.mp h).1
    have h2 : l.drop j = l[j] :: l.drop (j + 1) := List.drop_eq_getElem_cons hlt
    have h3 : l[j] = a := (List.getElem?_eq_some_iff.mp h).2
    rw [h3] at h2
    rw [← h2, List.take_append_drop]
  have e2 : l.filter p = (l.take j).filter p ++ a :: (l.drop (j + 1)).filter p := by
    conv => lhs; rw [e]
    rw [List.filter_append, List.filter_cons_of_pos hp]
  rw [e2]; simp
theorem filter_skip {α : Type} (p : α → Bool) (l : List α) (j : Nat) : ∀ j', j ≤ j' → (∀ m z, j ≤ m → m < j' → l[m]? = some z → p z = false) → ((l.take j').filter p) = (l.take j).filter p := by
  intro j' hj
  induction hj with
  | refl => intro _; rfl
  | @step m hm ih =>
    intro hf
    have hlt : j ≤ m := hm
    rw [List.take_add_one, List.filter_append, ih fun k z h1 h2 hz => hf k z h1 (Nat.lt_succ_of_lt h2) hz]
    cases hz : l[m]? with
    | none => simp
    | some z => simp [hf m z hlt (Nat.lt_succ_self _) hz]
section
variable {prog : Program} {w : World} {A : Around} {s : Shared} {F IT l BF S : Addr} {items : Array Value} {ys : List Str} {Sf : Str → Bool} {c : Nat}
theorem pyNext_filter (hh : A.handled = none) (hy : StrsAre items.toList ys) (hF : F ≠ IT) (hl : l ≠ IT) (hB : BF ≠ IT) (hS : S ≠ IT) {j : Nat} {Q : Option Value → Shared → Prop} {E : Value → Shared → Prop} (x : FiltAt prog w s.heap F IT l BF S items Sf c j)
    (hQ : ∀ j' y t h' tk, j ≤ j' → ys[j']? = some y → Sf y = true → (∀ m z, j ≤ m → m < j' → ys[m]? = some z → Sf z = false) → FiltAt prog w h' F IT l BF S items Sf c (j' + 1) → (∀ b o, b ≠ IT → s.heap.get? b = some o → h'.get? b = some o) → Q (some (.str y t)) { s with heap := h', toks := tk })
    (hE : ∀ h' tk, (∀ m z, j ≤ m → ys[m]? = some z → Sf z = false) → (∀ b o, b ≠ IT → s.heap.get? b = some o → h'.get? b = some o) → Q none { s with heap := h', toks := tk }) :
    wpAny (model prog w) A (pyNext (.ref F)) Q E s := by
  have hT : s.TypeIs (.ref F) "filter" := ⟨_, x.f, rfl⟩
  unfold pyNext
  refine wpAny_bind (wpAny_attempt (wpAny_callSpecial?_slot (name := Str.ofString "__next__") hT slot_filter_next (wpAny_call ?_)))
  refine codeAny_call_builtin_code (plainId_quiet slot_filter_next.plain _) (slot_filter_next.check _ _ _ _ _ _ _ _ hT (args_filter_next _) ?_)
  refine code_filter_next (A := A) hh hy hF hl hB hS _ j s rfl x ?_ ?_
  · intro j' y t h' tk h1 h2 h3 h4 h5 h6
    exact wpAny_pure (hQ j' y t h' tk h1 h2 h3 h4 h5 h6)
  · intro h' tk e o h1 h2 h3 h4
    refine wpAny_bind (wpAny_isInstance (T := "StopIteration") (b := true) ⟨_, h3, h4⟩ isSubtype_stop ?_)
    exact wpAny_pure (hE h' tk h1 h2)
theorem walks_filter (hh : A.handled = none) (hy : StrsAre items.toList ys) (hF : F ≠ IT) (hl : l ≠ IT) (hB : BF ≠ IT) (hS : S ≠ IT) :
    Walks prog w A F [F, IT, l, BF, S] [IT] (ys.filter Sf).length (fun i v => ∃ y t, (ys.filter Sf)[i]? = some y ∧ v = .str y t)
      (fun i h => ∃ j, FiltAt prog w h F IT l BF S items Sf c j ∧ ((ys.take j).filter Sf).length = i) where
  sub := fun b hb => by rw [List.mem_singleton.mp hb]; simp
  frame := fun i h h' st hk => by
    obtain ⟨j, x, e⟩ := st
    exact ⟨j, x.keep hk, e⟩
  item := fun i s Q E hi st hQ => by
    obtain ⟨j, x, e⟩ := st
    refine pyNext_filter hh hy hF hl hB hS x ?_ ?_
    · intro j' y t h' tk h1 h2 h3 h4 h5 h6
      have e1 := filter_skip Sf ys j j' h1 h4
      have e2 := filter_at Sf ys j' y h2 h3
      rw [e1, e] at e2
      refine hQ _ h' tk ⟨y, t, e2, rfl⟩ ⟨j' + 1, h5, ?_⟩ fun b o hb eb => h6 b o (fun q => hb (by simp [q])) eb
      rw [List.take_add_one, h2, List.filter_append, e1, List.length_append, e]; simp [h3]
    · intro h' tk h1 h2
      exfalso
      have e1 := filter_skip Sf ys j (max j ys.length) (Nat.le_max_left _ _) (fun m z a _ hz => h1 m z a hz)
      rw [List.take_of_length_le (Nat.le_max_right _ _)] at e1
      rw [e1] at hi; omega
  done := fun s Q E st hQ => by
    obtain ⟨j, x, e⟩ := st
    refine pyNext_filter hh hy hF hl hB hS x ?_ ?_
    · intro j' y t h' tk h1 h2 h3 h4 h5 h6
      exfalso
      have e1 := filter_skip Sf ys j j' h1 h4
      have e2 := filter_at Sf ys j' y h2 h3
      rw [e1, e] at e2
      have := (List.getElem?_eq_some_iff.mp e2).1
      omega
    · intro h' tk h1 h2
      exact hQ h' tk fun b o hb eb => h2 b o (fun q => hb (by simp [q])) eb
  self := fun i s Q E st hQ => by
    obtain ⟨j, x, e⟩ := st
    have hT : s.TypeIs (.ref F) "filter" := ⟨_, x.f, rfl⟩
    refine wpAny_pyIter_slot hT slot_filter_iter (wpAny_call_entry slot_filter_iter hT entry_filter_iter ?_ (args_filter_iter _))
    show wpAny _ _ (ret (.ref F)) _ _ s
    exact wpAny_pure ⟨_, rfl, "filter", _, hT, slot_filter_next.lookup, hQ⟩
end
section
variable {prog : Program} {w : World} {A : Around} {s : Shared} {R : Result → Shared → Prop} {E : Value → Shared → Prop}
variable {I : Addr} {fp wr : List Addr} {G : Array GenState → Array GenState → Prop} {n : Nat} {P : Nat → Value → Prop} {St : Nat → Shared → Prop}
theorem extend_filter (W : WalksS prog w A.in1 I fp wr G n P St) (hT : ∀ i s, St i s → s.TypeIs (.ref I) "filter") (S : Addr) (res : Value) (c₀ : Nat) (hst : St 0 s) (hSf : S ∉ fp) (hI : I ∈ fp)
    (hS : s.heap.get? S = some { cls := .type "list", data := .seq #[] c₀ })
    (hR : ∀ s' acc' c', Moved (S :: wr) G s s' → s'.heap.get? S = some { cls := .type "list", dict := none, data := .seq acc' c', slots := #[] } → ItemsOf P acc' n → R (.ok (.ret res)) s') (hn : n ≤ sizeLine) :
    wpAny (model prog w) A.in1 (Builtin.List.listExtendWith (.ref S) (.ref I) res)
      (fun fin s' => match fin with | .done f => R (.ok f) s' | .again c' => c'.quiet = true ∧ codeAny (model prog w) A c' R s') (fun e s' => R (.error e) s') s := by
  have hSI : S ≠ I := fun e => hSf (e ▸ hI)
  unfold Builtin.List.listExtendWith
  refine wpAny_bind (wpAny_typeOf (hT 0 _ hst) ?_)
  have h1 : Builtin.List.listSameRef (.ref S) (.ref I) = false := by simp [Builtin.List.listSameRef, hSI]
  have h2 : (Value.type "filter" == Value.type "list") = false := by decide
  have h3 : (Value.type "filter" == Value.type "tuple") = false := by decide
  simp only [h1, h2, h3, Bool.or_false, Bool.false_eq_true, if_false]
  refine wpAny_bind (W.self 0 _ _ _ hst ?_)
  refine wpAny_bind (wpAny_holding ?_)
  unfold Builtin.List.listLengthHint
  refine wpAny_bind (wpAny_specialOf (hT 0 _ hst) filter_no_len ?_)
  show wpAny _ A.in1 (specialOf (Value.ref I) (Str.ofString "__length_hint__") >>= _) _ _ _
  refine wpAny_bind (wpAny_specialOf (hT 0 _ hst) filter_no_hint ?_)
  refine wpAny_pure ?_
  show wpAny _ A.in1 (rule "list.extend.makes-room" >>= fun _ => Builtin.List.listTouch (.ref S) >>= fun _ =>
    again (.builtin "list.extend.loop" ⟨[.ref S, .ref I, res], []⟩)) _ _ _
  refine wpAny_bind (wpAny_rule ?_)
  refine wpAny_bind ?_
  show wpAny _ A.in1 (updateSeq S (·.push .none) >>= fun _ => updateSeq S (·.pop)) _ _ _
  refine wpAny_bind (wpAny_updateSeq hS rfl ?_)
  have hS₂ := Heap.get?_update_self (Obj.mapSeq (·.push Value.none)) hS rfl
  refine wpAny_updateSeq (hz := by seq_fits) hS₂ rfl ?_
  have hS₃ := Heap.get?_update_self (Obj.mapSeq (·.pop)) hS₂ rfl
  have oth : ∀ b o, b ≠ S → s.heap.get? b = some o → ((s.heap.update S (Obj.mapSeq (·.push Value.none))).update S (Obj.mapSeq (·.pop))).get? b = some o :=
    fun b o hb e => (Heap.get?_update_other _ _ (Ne.symm hb)).trans ((Heap.get?_update_other _ _ (Ne.symm hb)).trans e)
  refine wpAny_pure ⟨plainId_quiet F.plain_extend_loop _, codeAny_extend_loopS W hn _ hSf _ n 0 _ _ _ rfl (Nat.zero_le _)
    (W.frame 0 s _ s.toks hst (Nat.le_refl _) fun b hb o e => oth b o (fun h => hSf (h ▸ hb)) e) hS₃ (ItemsOf.nil P) fun s' acc' c' hm hS' hacc => ?_⟩
  exact hR s' acc' c' (Moved.trans W.gtrans ((Moved.refl W.grefl).then_heap (Nat.le_refl _) fun b o hb e => oth b o (fun h => hb (h ▸ List.mem_cons_self)) e) hm) hS' hacc
theorem list_init_filter (W : WalksS prog w A.in1 I fp wr G n P St) (hT : ∀ i s, St i s → s.TypeIs (.ref I) "filter") (S : Addr) (hst : St 0 s) (hSf : S ∉ fp) (hI : I ∈ fp)
    (hS : s.heap.get? S = some { cls := .type "list", data := .seq #[] })
    (hR : ∀ s' acc' c', Moved (S :: wr) G s s' → s'.heap.get? S = some { cls := .type "list", dict := none, data := .seq acc' c', slots := #[] } → ItemsOf P acc' n → R (.ok (.ret .none)) s') (hn : n ≤ sizeLine) :
    wpAny (model prog w) A.in1 (Builtin.«list.__init__» ⟨[.ref S, .ref I], []⟩)
      (fun fin s' => match fin with | .done f => R (.ok f) s' | .again c' => c'.quiet = true ∧ codeAny (model prog w) A c' R s') (fun e s' => R (.error e) s') s := by
  show wpAny _ A.in1 (do let old ← Builtin.List.listItems (.ref S); Builtin.List.listUpdate (.ref S) (fun _ => #[]); letGo old.toList.reverse; Builtin.List.listExtendWith (.ref S) (.ref I) .none) _ _ s
  refine wpAny_bind ?_
  unfold Builtin.List.listItems
  refine wpAny_bind (wpAny_seqItems hS rfl (wpAny_pure ?_))
  show wpAny _ A.in1 (updateSeq S (fun _ => #[]) >>= fun _ => letGo (#[] : Array Value).toList.reverse >>= fun _ => Builtin.List.listExtendWith (.ref S) (.ref I) .none) _ _ s
  refine wpAny_bind (wpAny_updateSeq hS rfl ?_)
  have hS₂ := Heap.get?_update_self (Obj.mapSeq (fun _ => (#[] : Array Value))) hS rfl
  have oth : ∀ b o, b ≠ S → s.heap.get? b = some o → (s.heap.update S (Obj.mapSeq (fun _ => (#[] : Array Value)))).get? b = some o :=
    fun b o hb e => (Heap.get?_update_other _ _ (Ne.symm hb)).trans e
  refine wpAny_bind (wpAny_letGo ?_)
  refine extend_filter (hn := hn) W hT S .none _ (W.frame 0 s _ s.toks hst (Nat.le_refl _) fun b hb o e => oth b o (fun h => hSf (h ▸ hb)) e) hSf hI hS₂ fun s' acc' c' hm hS' hacc => ?_
  exact hR s' acc' c' (Moved.trans W.gtrans ((Moved.refl W.grefl).then_heap (Nat.le_refl _) fun b o hb e => oth b o (fun h => hb (h ▸ List.mem_cons_self)) e) hm) hS' hacc
theorem call_list_filter {Q : Value → Shared → Prop} (W : WalksS prog w A.in1.in1 I fp wr G n P St) (hT : ∀ i s, St i s → s.TypeIs (.ref I) "filter") (hst : St 0 s) (hfp : ∀ b ∈ fp, b < s.heap.objs.size) (hI : I ∈ fp)
    (hQ : ∀ s' acc' c', Moved (s.heap.objs.size :: wr) G { s with heap := s.heap.push { cls := .type "list", data := .seq #[] } } s' →
      s'.heap.get? s.heap.objs.size = some { cls := .type "list", dict := none, data := .seq acc' c', slots := #[] } → ItemsOf P acc' n → Q (.ref s.heap.objs.size) s') (hn : n ≤ sizeLine) :
    wpAny (model prog w) A (call (.type "list") [.ref I]) Q E s := by
  have hSf : s.heap.objs.size ∉ fp := fun hm => Nat.lt_irrefl _ (hfp _ hm)
  refine callType_codes (Q₁ := fun obj s₁ => obj = .ref s.heap.objs.size ∧ s₁ = { s with heap := s.heap.push { cls := .type "list", data := .seq #[] } }) F.called_list (F.typeCall_list_1 _) F.entry_list_init
    (code_list_new _ ⟨rfl, rfl⟩) fun obj s₁ h₁ => ?_
  obtain ⟨rfl, rfl⟩ := h₁
  have hS : (s.heap.push { cls := .type "list", data := .seq #[] }).get? s.heap.objs.size = some { cls := .type "list", data := .seq #[] } := Heap.get?_push_size _ rfl
  refine ⟨⟨_, hS, rfl⟩, F.args_list_init_2 _ _, list_init_filter (hn := hn) W hT _ (W.frame 0 s _ s.toks hst (Nat.le_refl _) fun b _ o e => Heap.get?_push_of_some _ e) hSf hI hS fun s' acc' c' hm hS' hacc => ?_⟩
  exact ⟨rfl, hQ s' acc' c' hm hS' hacc⟩
end
end Mine


namespace Mine
open Builtin
theorem any_take_snoc {α : Type} [DecidableEq α] (l : List α) (i : Nat) (a : α) (h : l[i]? = some a) (k : α) : ((l.take (i + 1)).any (· == k)) = ((l.take i).any (· == k) || decide (k = a)) := by
  rw [List.take_add_one, h, List.any_append]
  by_cases e : a = k
  · subst e; simp
  · have e' : ¬ k = a := fun q => e q.symm
    simp [e, e']
section
variable {prog : Program} {w : World} {A : Around} {R : Result → Shared → Prop} {I : Addr} {fp wr : List Addr} {G : Array GenState → Array GenState → Prop} {n : Nat} {P : Nat → Value → Prop} {St : Nat → Shared → Prop}
theorem set_loop_strs (W : WalksS prog w A.in1 I fp wr G n P St) (S : Addr) (hSf : S ∉ fp) (ys : List Str) (hval : ∀ i v, P i v → ∃ y t, ys[i]? = some y ∧ v = .str y t) (hb : n + 1 < scanBound) :
    ∀ (k i c : Nat) (s : Shared), n - i = k → i ≤ n → c ≤ i → St i s → s.heap.SetOf (strKind prog w) S (fun k' => (ys.take i).any (· == k')) c →
      (∀ s' c', Moved (S :: wr) G s s' → s'.heap.SetOf (strKind prog w) S (fun k' => (ys.take n).any (· == k')) c' → R (.ok (.ret .none)) s') →
      codeAny (model prog w) A (.builtin "set.update.loop" ⟨[.ref S, .ref I], []⟩) R s := by
  have hSw : S ∉ wr := fun h => hSf (W.sub _ h)
  have hsub : ∀ b ∈ wr, b ∈ S :: wr := fun b hb => List.mem_cons_of_mem _ hb
  have keep : ∀ {s s' : Shared} {Sf : Str → Bool} {c : Nat}, Moved wr G s s' → s.heap.SetOf (strKind prog w) S Sf c → s'.heap.SetOf (strKind prog w) S Sf c := fun hm hS => by
    obtain ⟨o, es, ep, t, ho, rest⟩ := hS
    exact ⟨o, es, ep, t, hm.heap S _ hSw ho, rest⟩
  intro k
  induction k with
  | zero =>
    intro i c s hk hi hci hst hS hR
    obtain rfl : i = n := by omega
    refine codeAny_builtin F.entry_set_update_loop ?_
    rw [Around.under_plainId F.plain_set_update_loop _]
    show wpAny _ A.in1 (pyNext (.ref I) >>= _) _ _ s
    refine wpAny_bind (W.done s _ _ hst fun s' hm => ?_)
    show wpAny _ A.in1 (ret Value.none) _ _ s'
    exact wpAny_pure (hR s' c (hm.mono hsub) (keep hm hS))
  | succ k ih =>
    intro i c s hk hi hci hst hS hR
    have hlt : i < n := by omega
    refine codeAny_builtin F.entry_set_update_loop ?_
    rw [Around.under_plainId F.plain_set_update_loop _]
    show wpAny _ A.in1 (pyNext (.ref I) >>= _) _ _ s
    refine wpAny_bind (W.item i s _ _ hlt hst fun v s' hP hst' hm => ?_)
    obtain ⟨y, t, hyi, rfl⟩ := hval i v hP
    show wpAny _ A.in1 (holding [Value.str y t] (setAdd S (.str y t)) >>= _) _ _ s'
    refine wpAny_bind (wpAny_holding ?_)
    unfold setAdd
    refine wpAny_holding ?_
    refine wpAny_bind ((strKind prog w).pyHash (k := y) (strKind_is _ _ _ _) ?_)
    have hS' := keep hm hS
    refine wpAny_setAddHashed_of (knd := strKind prog w) (k := y) (s := { s' with toks := s'.toks + 1 }) (strKind_is _ _ _ _) rfl hS' (by omega) fun h' hsb hS2 => ?_
    refine wpAny_pure ⟨plainId_quiet F.plain_set_update_loop _, ih (i + 1) (if (ys.take i).any (· == y) = true then c else c + 1) _ (by omega) hlt (by split <;> omega) (W.frame _ s' _ _ hst' (Nat.le_succ _) fun b hb o e => ?_) ?_ fun s'' c'' hm'' hS'' => ?_⟩
    · rw [hsb.2 b (fun h : b = S => hSf (by rw [← h]; exact hb))]; exact e
    · have e : (fun k' => (ys.take (i + 1)).any (· == k')) = fun k' => ((ys.take i).any (· == k') || decide (k' = y)) := funext fun k' => any_take_snoc ys i y hyi k'
      rw [e]; exact hS2
    · refine hR s'' c'' (Moved.trans W.gtrans ((hm.mono hsub).then_heap (Nat.le_succ _) fun b o hb e => ?_) hm'') hS''
      rw [hsb.2 b (fun h : b = S => hb (by rw [h]; exact List.mem_cons_self))]; exact e
end
section
variable {prog : Program} {w : World} {A : Around} {E : Value → Shared → Prop} {s : Shared}
set_option maxHeartbeats 8000000 in
theorem call_set_strs {l : Addr} {items : Array Value} {ys : List Str} {Q : Value → Shared → Prop} (hh : A.handled = none) (hl : s.heap.IsList l items) (hi : StrsAre items.toList ys) (hb : items.size + 1 < scanBound)
    (h : ∀ (h' : Heap) (tk c : Nat), h'.SetOf (strKind prog w) s.heap.objs.size (fun k' => ys.any (· == k')) c → (∀ b o, b < s.heap.objs.size → s.heap.get? b = some o → h'.get? b = some o) → Q (.ref s.heap.objs.size) { s with heap := h', toks := tk }) :
    wpAny (model prog w) A (call (.type "set") [.ref l]) Q E s := by
  obtain ⟨c, tl, hmro⟩ := F.called_set.mro
  have hmade := F.called_set.made
  have hsub := F.called_set.sub
  refine wpAny_call (codeAny_of_tree ?_)
  show wpAny _ _ (callAny (.type "set") _) _ _ _
  refine wpAny_pure ⟨Code.quiet_builtin _ (by decide +kernel), codeAny_builtin F.entry_type_call ?_⟩
  rw [Around.under_plain (weight_type_call_type "set" [.ref l] []) rfl]
  have h1 := F.called_set.notType
  have h2 := F.called_set.canCreate
  have hct := F.typeCall_set_1 (.ref l)
  repeat (any_goals (first | assumption | wp_step))
  refine codeAny_mono (code_set_new_1 (.ref l) (E := E) (Q₁ := fun obj s₁ => ∃ led : Bool, obj = .ref s.heap.objs.size ∧ s₁ = { s with heap := s.heap.push { cls := .type "set", dict := none, data := .set #[] 0 (.fresh 0 0 led) } }) fun led => ⟨led, rfl, rfl⟩) fun r s₁ hr => ?_
  cases r with
  | error e => exact hr
  | ok fl =>
    cases fl with
    | ret obj =>
      obtain ⟨led, rfl, rfl⟩ := hr
      have hS : (s.heap.push { cls := .type "set", dict := none, data := .set #[] 0 (.fresh 0 0 led) }).get? s.heap.objs.size = some { cls := .type "set", dict := none, data := .set #[] 0 (.fresh 0 0 led) } := Heap.get?_push_size _ rfl
      have hT : Shared.TypeIs { s with heap := s.heap.push { cls := .type "set", dict := none, data := .set #[] 0 (.fresh 0 0 led) } } (.ref s.heap.objs.size) "set" := ⟨_, hS, rfl⟩
      have hli := F.called_set.init.lookup
      have hbi := F.called_set.init.bind (.ref s.heap.objs.size)
      repeat (any_goals (first | assumption | wp_step))
      refine codeAny_mono (codeAny_call_builtin (R := wants (fun r s₂ => r = .none ∧ ∃ h' tk c, s₂ = { s with heap := h', toks := tk } ∧
          h'.SetOf (strKind prog w) s.heap.objs.size (fun k' => ys.any (· == k')) c ∧
          (∀ b o, b < s.heap.objs.size → s.heap.get? b = some o → h'.get? b = some o)) E) F.called_set.init.plain F.entry_set_init (check_set_init_1 hT ?_)) fun r₂ s₂ hr₂ => ?_
      · obtain ⟨ol, hol, hcl, nl, hdl⟩ := hl
        obtain ⟨ocls, odict, odata, oslots⟩ := ol
        simp only at hcl hdl
        subst hcl; subst hdl
        have hol' : (s.heap.push { cls := .type "set", dict := none, data := .set #[] 0 (.fresh 0 0 led) }).get? l = some { cls := .type "list", dict := odict, data := .seq items nl, slots := oslots } := Heap.get?_push_of_some _ hol
        have hsls := F.sub_list_set
        have hslf := F.sub_list_frozenset
        have hne : (Value.type "list" == Value.type "dict") = false := by decide
        have hl1 : (s.heap.push { cls := .type "set", dict := none, data := .set #[] 0 (.fresh 0 0 led) }).IsList l items := ⟨_, hol', rfl, nl, rfl⟩
        unfold Builtin.«set.__init__» noKeywords Builtin.Frozenset.updateFrom
        generalize hPI : pyIter = PI
        wp_walk
        subst hPI
        refine wpAny_pyIter_list hl1 ?_
        refine wpAny_bind (wpAny_runValue ?_)
        have hlS : l < s.heap.objs.size := Heap.lt_size hol
        have hh3 : A.in1.in1.in1.handled = none := by simp [hh]
        have hneI : l ≠ (s.heap.push { cls := .type "set", dict := none, data := .set #[] 0 (.fresh 0 0 led) }).objs.size := by
          rw [Heap.size_push]; exact Nat.ne_of_lt (Nat.lt_succ_of_lt hlS)
        have hSf : s.heap.objs.size ∉ [(s.heap.push { cls := .type "set", dict := none, data := .set #[] 0 (.fresh 0 0 led) }).objs.size, l] := by
          rw [Heap.size_push]; simp only [List.mem_cons, List.mem_singleton, List.not_mem_nil, or_false, not_or]
          exact ⟨Nat.ne_of_lt (Nat.lt_succ_self _), Nat.ne_of_gt hlS⟩
        have hval : ∀ (i : Nat) (v : Value), items[i]? = some v → ∃ y t, ys[i]? = some y ∧ v = .str y t := fun i v hv =>
          strsAre_at hi (by rw [Array.getElem?_toList]; exact hv)
        have hyn : ys.take items.size = ys := List.take_of_length_le (by have := strsAre_length hi; rw [Array.length_toList] at this; omega)
        refine set_loop_strs ((Walks.list hh3 _ l hneI items).toS) s.heap.objs.size
          hSf ys hval hb (items.size - 0) 0 0 _ (by omega) (Nat.zero_le _) (Nat.le_refl _)
          ⟨⟨_, Heap.get?_push_size _ rfl, rfl, rfl⟩, (hl1.push _)⟩ ?hS0 ?hR
        case hS0 =>
          have hget : ((s.heap.push { cls := .type "set", dict := none, data := .set #[] 0 (.fresh 0 0 led) }).push { cls := .type "list_iterator", data := .fields #[.ref l, .int 0 0] }).get? s.heap.objs.size
              = some { cls := .type "set", dict := none, data := .set #[] 0 (.fresh 0 0 led) } := Heap.get?_push_of_some _ hS
          have q := (PyProof.Rows.setObjOf_fresh (knd := strKind prog w) led).setOf hget (by unfold scanBound; omega)
          have e : (fun k' => (ys.take 0).any (· == k')) = (fun _ : Str => false) := funext fun _ => rfl
          rw [e]; exact q
        case hR =>
          intro s' c' hm hS'
          rw [hyn] at hS'
          obtain ⟨h', g', d', tk', os'⟩ := s'
          have eg : g' = s.gens := hm.gens
          have ed : d' = s.drawn := hm.drawn
          have eo : os' = s.os := hm.os
          subst eg; subst ed; subst eo
          show wpAny _ _ _ _ _ _
          refine wpAny_pure ?_
          show wpAny _ _ (ret Value.none) _ _ _
          refine wpAny_pure ⟨rfl, h', tk', c', rfl, hS', fun b o hb e => ?_⟩
          have hb1 : b ≠ s.heap.objs.size := Nat.ne_of_lt hb
          have hb2 : b ≠ (s.heap.push { cls := .type "set", dict := none, data := .set #[] 0 (.fresh 0 0 led) }).objs.size := by
            rw [Heap.size_push]; exact Nat.ne_of_lt (Nat.lt_succ_of_lt hb)
          exact hm.heap b o (by simp only [List.mem_cons, List.mem_singleton, List.not_mem_nil, or_false, not_or]; exact ⟨hb1, hb2⟩) (Heap.get?_push_of_some _ (Heap.get?_push_of_some _ e))
      · cases r₂ with
        | error e => exact hr₂
        | ok fl₂ =>
          cases fl₂ with
          | ret r =>
            obtain ⟨rfl, h', tk, c', rfl, hS', hk'⟩ := hr₂
            repeat (any_goals (first | assumption | wp_step))
            exact h _ _ _ hS' hk'
          | _ => exact hr₂.elim
    | _ => exact hr.elim
end
end Mine


namespace Mine
/-- an object that is the set of just these texts -/
def TextSet (prog : Program) (w : World) (o : Obj) (Sf : Str → Bool) : Prop := ∃ c, c < scanBound ∧ o.SetObjOf (strKind prog w) Sf c
theorem strsAre_of {vs : List Value} {ys : List Str} (hl : vs.length = ys.length) (h : ∀ (i : Nat) (v : Value), vs[i]? = some v → ∃ y t, ys[i]? = some y ∧ v = .str y t) : StrsAre vs ys := by
  induction vs generalizing ys with
  | nil =>
    cases ys with
    | nil => exact .nil
    | cons _ _ => simp at hl
  | cons v vs ih =>
    cases ys with
    | nil => simp at hl
    | cons y ys =>
      obtain ⟨y', t, e, rfl⟩ := h 0 v (by simp)
      simp at e; subst e
      exact .cons _ _ (ih (by simpa using hl) fun i u hu => by simpa using h (i + 1) u (by simpa using hu))
section
variable {prog : Program} {w : World} {A : Around} {E : Value → Shared → Prop} {s : Shared} {h₀ : Heap} {L : Addr} {m : Str → Option Value} {news : Led}
theorem set_L {l : Addr} {us : List Value} {ys : List Str} {n : Nat} {Q : Value → Shared → Prop} (F : Fr h₀ L s.heap m) (N : News h₀ L s.heap news) (hl : (l, listOf us.toArray n) ∈ news) (hy : StrsAre us ys) (hz : us.length ≤ 1000) (hh : A.handled = none)
    (h : ∀ a o h' tk, Fr h₀ L h' m → News h₀ L h' ((a, o) :: news) → (∀ p ∈ news, p.1 < a) → TextSet prog w o (fun k => ys.any (· == k)) → Q (.ref a) { s with heap := h', toks := tk }) :
    wpAny (model prog w) A (call (.type "set") [.ref l]) Q E s := by
  refine call_set_strs (items := us.toArray) (ys := ys) hh ⟨_, (N _ hl).1, rfl, _, rfl⟩ (by simpa using hy) (by rw [List.size_toArray]; unfold scanBound; omega) fun h' tk c hS hk => ?_
  obtain ⟨o, es, ep, t, ho, hex, hd, hel, hmem, hb, hf, hn⟩ := id hS
  have hso : o.SetObjOf (strKind prog w) (fun k => ys.any (· == k)) c := ⟨hex, es, ep, t, hd, hel, hmem, hn, hf⟩
  have hLlt : L < s.heap.objs.size := F.ns.lt
  refine h _ o h' tk ⟨F.ns.at' fun o' e => hk L o' hLlt e, fun b o' e => hk b o' (Heap.lt_size (F.keep b o' e)) (F.keep b o' e), F.above⟩ (fun p hp => ?_) (fun p hp => Heap.lt_size (N p hp).1) ⟨c, by omega, hso⟩
  rcases List.mem_cons.mp hp with rfl | hp
  · exact ⟨ho, Nat.ne_of_gt hLlt, next_is_new F⟩
  · exact ⟨hk _ _ (Heap.lt_size (N p hp).1) (N p hp).1, (N p hp).2⟩
theorem contains_L {a : Addr} {o : Obj} {Sf : Str → Bool} {ex : Bool} {Q : Value → Shared → Prop} (F : Fr h₀ L s.heap m) (N : News h₀ L s.heap news) (hm : (a, o) ∈ news) (hs : TextSet prog w o Sf)
    (h : ∀ b h' tk, Fr h₀ L h' m → News h₀ L h' ((b, boundIn a) :: news) → (∀ p ∈ news, p.1 < b) → Q (.ref b) { s with heap := h', toks := tk }) :
    wpAny (model prog w) A (getAttr (.ref a) (Str.ofString "__contains__") ex) Q E s := by
  obtain ⟨c, hc, ⟨h1, h2, h3⟩, es, ep, t, hd, _⟩ := hs
  obtain ⟨oc, od, odat, osl⟩ := o
  simp only at h1 h2 h3 hd
  subst h1 h2 h3 hd
  refine getAttr_contains (N _ hm).1 fun tk => ?_
  exact h _ _ _ (F.push _) (N.push F _) fun p hp => Heap.lt_size (N p hp).1
theorem filter_L {l b : Addr} {us : List Value} {n : Nat} {Q : Value → Shared → Prop} (F : Fr h₀ L s.heap m) (N : News h₀ L s.heap news) (hl : (l, listOf us.toArray n) ∈ news)
    (h : ∀ f it h', Fr h₀ L h' m → News h₀ L h' ((f, filtObj (.ref b) it) :: (it, listIterObj l 0) :: news) → (∀ p ∈ news, p.1 < it) → it < f → Q (.ref f) { s with heap := h' }) :
    wpAny (model prog w) A (call (.type "filter") [.ref b, .ref l]) Q E s := by
  refine call_filter (items := us.toArray) ⟨_, (N _ hl).1, rfl, _, rfl⟩ ?_
  have e : (s.heap.push (listIterObj l 0)).objs.size = s.heap.objs.size + 1 := Heap.size_push ..
  have F1 := F.push (listIterObj l 0)
  have N1 := N.push F (listIterObj l 0)
  have N2 := N1.push F1 (filtObj (.ref b) s.heap.objs.size)
  rw [e] at N2
  exact h _ _ _ (F1.push _) N2 (fun p hp => Heap.lt_size (N p hp).1) (Nat.lt_succ_self _)
theorem list_L {f it l b sa : Addr} {so : Obj} {us : List Value} {ys : List Str} {n : Nat} {Sf : Str → Bool} {Q : Value → Shared → Prop} (F : Fr h₀ L s.heap m) (N : News h₀ L s.heap ((f, filtObj (.ref b) it) :: (it, listIterObj l 0) :: news))
    (hl : (l, listOf us.toArray n) ∈ news) (hb : (b, boundIn sa) ∈ news) (hs : (sa, so) ∈ news) (hset : TextSet prog w so Sf) (hy : StrsAre us ys) (hoff : ∀ p ∈ news, p.1 < it) (hfi : it < f) (hz : us.length ≤ 1000) (hh : A.handled = none)
    (h : ∀ D vs c h' tk, Fr h₀ L h' m → News h₀ L h' ((D, listOf vs.toArray c) :: news) → (∀ p ∈ news, p.1 < D) → StrsAre vs (ys.filter Sf) → vs.length ≤ us.length → Q (.ref D) { s with heap := h', toks := tk }) :
    wpAny (model prog w) A (call (.type "list") [.ref f]) Q E s := by
  obtain ⟨c, hc, hso⟩ := hset
  have nf := N _ (List.mem_cons_self)
  have ni := N _ (List.mem_cons_of_mem _ List.mem_cons_self)
  have nn : News h₀ L s.heap news := fun p hp => N p (List.mem_cons_of_mem _ (List.mem_cons_of_mem _ hp))
  have W := (walks_filter (prog := prog) (w := w) (A := A.in1.in1) (F := f) (IT := it) (l := l) (BF := b) (S := sa) (items := us.toArray) (ys := ys) (Sf := Sf) (c := c) (by simpa using hh) (by simpa using hy) (Nat.ne_of_gt hfi) (Nat.ne_of_lt (hoff _ hl)) (Nat.ne_of_lt (hoff _ hb)) (Nat.ne_of_lt (hoff _ hs))).toS
  have hle : (ys.filter Sf).length ≤ 1000 := by
    have e1 := List.length_filter_le Sf ys
    have e2 := strsAre_length hy
    omega
  have hItLt : it < s.heap.objs.size := Heap.lt_size ni.1
  refine call_list_filter W (fun i s' st => by obtain ⟨j, x, _⟩ := st; exact ⟨_, x.f, rfl⟩) ⟨0, ⟨nf.1, ⟨_, ni.1, rfl, rfl⟩, ⟨_, (nn _ hl).1, rfl, _, rfl⟩, hso.setOf (nn _ hs).1 hc, (nn _ hb).1⟩, by simp⟩ ?_ (by simp) ?_ (Nat.le_trans hle (by decide))
  · intro a ha
    simp only [List.mem_cons, List.not_mem_nil, or_false] at ha
    rcases ha with rfl | rfl | rfl | rfl | rfl
    · exact Heap.lt_size nf.1
    · exact hItLt
    · exact Heap.lt_size (nn _ hl).1
    · exact Heap.lt_size (nn _ hb).1
    · exact Heap.lt_size (nn _ hs).1
  · intro s' acc' c' hm hD hit
    rw [Moved.eq_with hm]
    have keep : ∀ a o, a ≠ it → s.heap.get? a = some o → s'.heap.get? a = some o := fun a o ha e =>
      hm.heap a o (by simp only [List.mem_cons, List.not_mem_nil, or_false, not_or]; exact ⟨Nat.ne_of_lt (Heap.lt_size e), ha⟩) (Heap.get?_push_of_some _ e)
    have hLit : L ≠ it := Ne.symm ni.2.1
    have hst : StrsAre acc'.toList (ys.filter Sf) := strsAre_of (by rw [Array.length_toList]; exact hit.1) fun i v hv => hit.2 i v (by rw [← Array.getElem?_toList]; exact hv)
    refine h s.heap.objs.size acc'.toList c' s'.heap s'.toks ⟨F.ns.at' fun o e => keep L o hLit e, fun a o e => keep a o (fun q => by rw [q, ni.2.2] at e; cases e) (F.keep a o e), F.above⟩ (fun p hp => ?_) (fun p hp => Heap.lt_size (nn p hp).1) hst ?_
    · rcases List.mem_cons.mp hp with rfl | hp
      · exact ⟨hD, Nat.ne_of_gt F.ns.lt, next_is_new F⟩
      · exact ⟨keep _ _ (Nat.ne_of_lt (hoff p hp)) (nn p hp).1, (nn p hp).2⟩
    · have e1 := strsAre_length hst
      have e2 := List.length_filter_le Sf ys
      have e3 := strsAre_length hy
      omega
end
end Mine

local macro_rules | `(tactic| walk_at "call type:set") => `(tactic| (k_here; (with_reducible show wpAny _ _ (call (Value.type "set") [Value.ref _]) _ _ _); k_dflt (refine' Mine.set_L ?k1 ?k2 ?k3 ?k4 ?k5 rfl ?_; (case k1 => k_asm); (case k2 => k_asm); (case k3 => k_mem); (case k4 => assumption); (case k5 => first | assumption | omega); k_whole; intro a9 o9 h9 tk9 F9 N9 l9 T9; (try k_lt l9); (try k_sweep))))
local macro_rules | `(tactic| walk_at "getAttr ref") => `(tactic| (k_here; (with_reducible show wpAny _ _ (getAttr (Value.ref _) (Str.ofString "__contains__") _) _ _ _); k_dflt (refine' Mine.contains_L ?k1 ?k2 ?k3 ?k4 ?_; (case k1 => k_asm); (case k2 => k_asm); (case k4 => assumption); (case k3 => k_mem); k_whole; intro b9 h9 tk9 F9 N9 l9; (try k_lt l9); (try k_sweep))))
local macro_rules | `(tactic| walk_at "call type:filter") => `(tactic| (k_here; k_dflt (refine' Mine.filter_L ?k1 ?k2 ?k3 ?_; (case k1 => k_asm); (case k2 => k_asm); (case k3 => k_mem); k_whole; intro f9 i9 h9 F9 N9 l9 m9; (try k_lt2 m9); (try k_sweep))))
local macro_rules | `(tactic| walk_at "call type:list") => `(tactic| (k_here; (with_reducible show wpAny _ _ (call (Value.type "list") [Value.ref _]) _ _ _); k_dflt (refine' Mine.list_L ?k1 ?k2 ?k3 ?k4 ?k5 ?k6 ?k7 ?k8 ?k9 ?ka rfl ?_; (case k1 => k_asm); (case k2 => k_asm); (case k4 => k_mem); (case k5 => k_mem); (case k3 => k_mem); (case k6 => assumption); (case k7 => assumption); (case k8 => assumption); (case k9 => assumption); (case ka => first | assumption | omega); k_whole; intro D9 v9 c9 h9 tk9 F9 N9 l9 S9 z9; (try k_lt l9); (try k_sweep))))

namespace Mine
section
variable {prog : Program} {w : World} {A : Around} {E : Value → Shared → Prop} {s : Shared} {h₀ : Heap} {L : Addr} {m : Str → Option Value} {news : Led}
theorem add_L {l b : Addr} {vs ws : List Value} {n k : Nat} {Q : Value → Shared → Prop} (F : Fr h₀ L s.heap m) (N : News h₀ L s.heap news) (hl : (l, listOf vs.toArray n) ∈ news) (hb : (b, listOf ws.toArray k) ∈ news) (hz : vs.length + ws.length ≤ 2000000)
    (h : ∀ a h', Fr h₀ L h' m → News h₀ L h' ((a, listOf (vs ++ ws).toArray 0) :: news) → (∀ p ∈ news, p.1 < a) → Q (.ref a) { s with heap := h' }) : wpAny (model prog w) A (binaryOp .Add (.ref l) (.ref b)) Q E s :=
  add_lists F N ⟨_, (N _ hl).1, rfl, _, rfl⟩ ⟨_, (N _ hb).1, rfl, _, rfl⟩ (fun h' F' N' => h _ h' F' N' fun p hp => Heap.lt_size (N p hp).1) (Nat.le_trans hz (by decide))
end
end Mine

local macro_rules | `(tactic| walk_at "binaryOp Add ref ref") => `(tactic| (k_here; k_dflt (refine' Mine.add_L ?k1 ?k2 ?k3 ?k4 ?k5 ?_; (case k1 => k_asm); (case k2 => k_asm); (case k3 => k_mem); (case k4 => k_mem); (case k5 => omega); k_whole; intro a9 h9 F9 N9 l9; (try k_lt l9); (try k_sweep))))

namespace Mine
theorem merge_spec (w : World) (x1 d1 u1 r1 x2 d2 u2 r2 : Addr) (k1 k2 k3 k4 j1 j2 j3 j4 : Tok) (n1 n2 n3 n4 n5 n6 : Nat) (us1 us2 rs1 rs2 : List Value) (ys1 ys2 : List Str) (news : Led)
   (h1 : (x1, instObj 224 d1) ∈ news) (h2 : (d1, entDict w k1 k2 k3 k4 u1 r1 n1) ∈ news) (h3 : (u1, listOf us1.toArray n2) ∈ news) (h4 : (r1, listOf rs1.toArray n3) ∈ news)
   (g1 : (x2, instObj 224 d2) ∈ news) (g2 : (d2, entDict w j1 j2 j3 j4 u2 r2 n4) ∈ news) (g3 : (u2, listOf us2.toArray n5) ∈ news) (g4 : (r2, listOf rs2.toArray n6) ∈ news)
   (hy1 : StrsAre us1 ys1) (hy2 : StrsAre us2 ys2) (z1 : us1.length ≤ 1000) (z2 : us2.length ≤ 1000) (z3 : rs1.length ≤ 1000) (z4 : rs2.length ≤ 1000) :
   Spec w 400 4000 235 [.ref x1, .ref x2] [] news (fun r' news' => ∃ x d u r us a1 a2 a3 a4 c1 c2 c3, r' = .ref x ∧ news' = (x, instObj 224 d) :: (d, entDict w a1 a2 a3 a4 u r c3) :: (u, listOf us.toArray c2) :: (r, listOf (rs1 ++ rs2).toArray c1) :: news ∧
     StrsAre us (ys1.filter fun k => ys2.any (· == k)) ∧ us.length ≤ us1.length ∧ AllLt d news ∧ LtA d x ∧ LtA x u ∧ LtA u r) := by
  k_with_none
  k_with "getMethod ref" => ((k_here; (with_reducible show wpAny _ _ (getMethod (Value.ref _) (Str.ofString "search") _) _ _ _); k_dflt (refine' Mine.meth_search ?k1 ?k2 ?k3 ?k4 ?k5 ?_; (case k1 => k_asm); (case k2 => k_asm); (case k3 => k_is); (case k4 => rfl); (case k5 => rfl); k_whole)))
  k_with "call builtin:re.Pattern.search" => ((k_here; k_dflt (refine' Mine.call_search ?k1 ?k2 ?k3 ?k4 ?k5 ?_; (case k1 => k_asm); (case k2 => k_asm); (case k3 => k_is); (case k4 => rfl); (case k5 => first | with_reducible exact Mine.srchN _ _ _ (by assumption) | with_reducible exact Mine.srchV _ _ _ (by assumption)); k_whole)))
  k_with "mine use" => (((case k1 => k_asm); (case k2 => k_asm); (case k3 => k_asm); (case k4 => k_asm); (case k5 => k_asm); (case kd => exact Nat.le_of_ble_eq_true rfl); (case ku => exact Nat.le_of_ble_eq_true rfl)))
  k_with "mine lt" => ((walk_at "mine and"; first | omega | assumption | exact allLt_of (by assumption) | exact Mine.ltUp (by omega) (by assumption) | exact Mine.ltUp (by omega) (allLt_of (by assumption))))
  k_with "mine letter" => (first | assumption | exact Mine.Letter.lower (by assumption) | exact Mine.Letter.upper (by assumption) | exact Mine.Letter.lower (Mine.Letter.upper (by assumption)))
  k_with "call builtin:str.lower" => ((k_here; k_dflt (refine Mine.lower_L (by walk_at "mine letter") ?_)))
  k_with "call builtin:str.upper" => ((k_here; k_dflt (refine Mine.upper_L (by walk_at "mine letter") ?_)))
  k_with "eval ListComp" => (k_extra "mine comp")
  k_with "CompRestT" => (k_extra "mine restT")
  k_with "CompRest" => (k_extra "mine rest")
  k_with "exec For Tuple Attribute cons nil" => (k_extra "mine for")
  k_with "exec For Tuple Name cons nil" => (k_extra "mine for")
  k_with "exec While Compare cons nil" => (k_extra "mine while")
  k_with "delItem ref" => ((k_here; k_dflt (refine' Mine.own_delItem ?F ?X ?I ?hQ ?hS ?hF ?_; (case F => k_asm); (case X => k_asm); (case I => k_inst); (case hS => k_is); (case hF => k_is); (case hQ => k_is); k_whole)))
  k_with "mine hdrs" => (first | assumption | exact Mine.Hdrs.mono (by kcj_all) (by assumption))
  k_with "call ref" => ((k_here; k_dflt (refine' Mine.Spec.use (Mine.ent_spec _ _) ?k1 ?k2 ?k3 ?k4 ?k5 ?kd ?ku ?_; walk_at "mine use"; k_whole; intro rE nE hE tkE FE NE RE; obtain ⟨xE, dE, uE, vE, aE, bE, cE, fE, eE, eE', lE, mE, oE, pE⟩ := RE; subst eE eE'; (try (replace lE := Mine.ltOf lE; k_lt lE)); (try dsimp only); (try k_sweep); (try k_fold))))
  w_top off
  have : Challenge.rw_rl0103_02 = Challenge.rw_rl0103_02 ∧ Mine.hd.heap_39 = Mine.hd.heap_39 := by k_fill; exact ⟨rfl, rfl⟩
  intro cn names ig ic more a ccd cl outer A₀ base h₀ L m mean mg mb s Q E B F X N T hret
  k_steps
  refine hret _ ((_, instObj 224 _) :: (_, entDict w _ _ _ _ _ _ _) :: (_, listOf (List.toArray _) _) :: (_, listOf (rs1 ++ rs2).toArray _) :: news) _ _ (by k_asm) (cb_drop (by k_asm) (by kcj_all)) ⟨_, _, _, _, _, _, _, _, _, _, _, _, rfl, rfl, ?_, ?_, ?_, ?_, ?_, ?_⟩
  · assumption
  all_goals walk_at "mine lt"
end Mine

set_option hygiene false
set_option hygiene true


local macro_rules | `(tactic| walk_at "subscriptTail Name Constant ref int") => `(tactic| k_extra "subscriptTail Name Constant ref int")
local macro_rules | `(tactic| walk_at "subscriptTail Attribute Name Constant ref int") => `(tactic| k_extra "subscriptTail Attribute Name Constant ref int")

namespace Mine
section
variable {prog : Program} {w : World} {A : Around} {E : Value → Shared → Prop} {s : Shared} {h₀ : Heap} {L l : Addr} {m : Str → Option Value} {news : Led} {value slice : PySem.Expr} {us : List Value} {n : Nat} {Q : Value → Shared → Prop}
theorem upto_L {vu : Value} {k : Nat} (F : Fr h₀ L s.heap m) (N : News h₀ L s.heap news) (hl : (l, listOf us.toArray n) ∈ news) (pu : IsPart vu (some (k : Int))) (hz : us.length ≤ 1000000)
    (hs : subscripted slice false (.ref l) (.ref s.heap.objs.size) = operate [.ref s.heap.objs.size, .ref l] (getItem (.ref l) (.ref s.heap.objs.size))) (ht : ∀ r, letTemporaryGo value (.ref l) r = pure ())
    (h : ∀ D h', Fr h₀ L h' m → News h₀ L h' ((D, listOf (us.take k).toArray 0) :: news) → (∀ p ∈ news, p.1 < D) → Q (.ref D) { s with heap := h' }) :
    wpAny (model prog w) A (subscriptTail value slice (.ref l) (.ref s.heap.objs.size)) Q E { s with heap := s.heap.push { cls := .type "slice", data := .fields #[.none, vu, .none] } } := by
  refine kmk_slice F N (News.isList N hl) IsPart.none pu (fun D h' F' N' l1 => h D h' F' ?_ l1) hs ht (by rw [List.size_toArray]; exact Nat.le_trans hz (by decide))
  rw [slicePick_upto'] at N'
  exact N'
theorem rev_L {vk : Value} {ops : List Value} (F : Fr h₀ L s.heap m) (N : News h₀ L s.heap news) (hl : (l, listOf us.toArray n) ∈ news) (pk : IsPart vk (some (-1))) (hz : us.length ≤ 1000000)
    (hs : subscripted slice false (.ref l) (.ref s.heap.objs.size) = operate ops (getItem (.ref l) (.ref s.heap.objs.size))) (ht : ∀ r, letTemporaryGo value (.ref l) r = pure ())
    (h : ∀ D h', Fr h₀ L h' m → News h₀ L h' ((D, listOf us.reverse.toArray 0) :: news) → (∀ p ∈ news, p.1 < D) → Q (.ref D) { s with heap := h' }) :
    wpAny (model prog w) A (subscriptTail value slice (.ref l) (.ref s.heap.objs.size)) Q E { s with heap := s.heap.push { cls := .type "slice", data := .fields #[.none, .none, vk] } } :=
  krv_lit (its := us.toArray) (zs := us.reverse) F N (News.isList N hl) pk rfl h hs ht (by rw [List.size_toArray]; exact Nat.le_trans hz (by decide))
end
end Mine

local macro_rules | `(tactic| walk_at "subscriptTail Name Slice ref ref") => `(tactic| (k_here; (with_reducible show wpAny _ _ (subscriptTail _ (PySem.Expr.Slice none (some _) none _) (Value.ref _) (Value.ref _)) _ _ _); k_dflt (refine' Mine.upto_L ?F ?N ?l ?p ?z ?s ?t ?_; (case F => k_asm); (case N => k_asm); (case l => k_mem); (case p => exact IsPart.int _ _); (case z => first | omega | walk_at "mine len"); (case s => with_unfolding_all rfl); (case t => kmk_pure)); k_whole; intro D9 h9 F9 N9 l9; (try k_lt l9); (try k_sweep)))
local macro_rules | `(tactic| walk_at "subscriptTail Name Slice ref ref") => `(tactic| (k_here; (with_reducible show wpAny _ _ (subscriptTail _ (PySem.Expr.Slice none none (some _) _) (Value.ref _) (Value.ref _)) _ _ _); k_dflt (refine' Mine.rev_L ?F ?N ?l ?p ?z ?s ?t ?_; (case F => k_asm); (case N => k_asm); (case l => k_mem); (case p => exact IsPart.int _ _); (case z => first | omega | (simp only [List.length_take]; omega) | walk_at "mine len"); (case s => with_unfolding_all rfl); (case t => kmk_pure)); k_whole; intro D9 h9 F9 N9 l9; (try k_lt l9); (try k_sweep)))
local macro_rules | `(tactic| walk_at "binaryOp Add ref ref") => `(tactic| (k_here; k_dflt (refine' Mine.add_L ?k1 ?k2 ?k3 ?k4 ?k5 ?_; (case k1 => k_asm); (case k2 => k_asm); (case k3 => k_mem); (case k4 => k_mem); (case k5 => walk_at "mine len"); k_whole; intro a9 h9 F9 N9 l9; (try k_lt l9); (try k_sweep))))

namespace Mine
section
variable {prog : Program} {w : World} {A : Around} {E : Value → Shared → Prop} {s : Shared} {h₀ : Heap} {L D b : Addr} {m : Str → Option Value} {news news' : Led}
def extN (n : Nat) (ws : List Value) : Nat := if ws.isEmpty then n else n + 1
theorem extend_L {vs ws : List Value} {n n2 : Nat} {Q : Value → Shared → Prop} (F : Fr h₀ L s.heap m) (N : News h₀ L s.heap news) (hb : (b, listOf ws.toArray n2) ∈ news) (hz : vs.length + ws.length ≤ 100000)
    (U : Upd D (listOf vs.toArray n) (listOf (vs ++ ws).toArray (extN n ws)) news news')
    (h : ∀ h', Fr h₀ L h' m → News h₀ L h' news' → Q .none { s with heap := h' }) : wpAny (model prog w) A (call (.builtin "list.extend") [.ref D, .ref b]) Q E s := by
  have hk : vs.length + ws.length ≤ sizeLine := Nat.le_trans hz (by decide)
  have hd : ¬(!vs.toArray.isEmpty && Builtin.List.listTooLong (vs.toArray.size + ws.toArray.size)) = true := by
    rw [List.size_toArray, List.size_toArray]
    have : Builtin.List.listTooLong (vs.length + ws.length) = false := decide_eq_false (by omega)
    rw [this]
    simp
  have hz2 : vs.toArray.size + ws.toArray.size ≤ sizeLine + 1 := by rw [List.size_toArray, List.size_toArray]; omega
  have hz1 : vs.toArray.toList.length ≤ sizeLine := by show vs.length ≤ _; omega
  cases ws with
  | nil =>
    rw [List.append_nil] at U
    exact kxn_extend F N hb rfl U hd hz1 hz2 h
  | cons x ws => exact kl_extend F N hb rfl (by simp) U hd hz1 hz2 h
end
end Mine

local macro_rules | `(tactic| walk_at "call builtin:list.extend") => `(tactic| (k_here; (with_reducible show wpAny _ _ (call (Value.builtin _) [Value.ref _, Value.ref _]) _ _ _); k_dflt (refine' Mine.extend_L ?F ?N ?b ?z ?U ?_; (case F => k_asm); (case N => k_asm); (case b => k_mem); (case U => k_upd); (case z => walk_at "mine len"); k_whole); intro h' F' N'; (try k_sweep)))

namespace Mine
theorem Spec.frame {w : World} {D U : Nat} {f : Addr} {vs : List Value} {kw : List (Str × Value)} {news₀ news : Led} {Ret₀ Ret : Value → Led → Prop} (C : Spec w D U f vs kw news₀ Ret₀) (hs : ∀ p ∈ news₀, p ∈ news)
    (hr : ∀ r n', Ret₀ r n' → ∃ n'', (∀ p ∈ n'', p ∈ n') ∧ Ret r n'') : Spec w D U f vs kw news Ret := by
  intro cn names ig ic more a ccd cl outer A₀ base h₀ L m mean mg mb s Q E B F X N T hret
  refine C cn names ig ic more a ccd cl outer A₀ base h₀ L m mean mg mb s Q E B F X (cb_drop N hs) T ?_
  intro r n' h' tk' F' N' R
  obtain ⟨n'', e, R'⟩ := hr r n' R
  exact hret r n'' h' tk' F' (cb_drop N' e) R'
theorem Hdrs.mono' {news news' : Led} (hs : ∀ a xs, (a, tupOf xs) ∈ news → (a, tupOf xs) ∈ news') {vs : List Value} {kvs : List (Str × Str)} (h : Hdrs news vs kvs) : Hdrs news' vs kvs := by
  induction h with
  | nil => exact .nil
  | cons hk hv hm _ ih => exact .cons hk hv (hs _ _ hm) ih
/-- the tuples of a ledger lie in another -/
def TSub (tups news : Led) : Prop := ∀ a xs, (a, tupOf xs) ∈ tups → (a, tupOf xs) ∈ news
theorem TSub.nil {news : Led} : TSub [] news := fun _ _ h => nomatch h
theorem TSub.sub {tups news : Led} (h : ∀ p ∈ tups, p ∈ news) : TSub tups news := fun _ _ hm => h _ hm
theorem TSub.keep {b : Addr} {o : Obj} {r news : Led} (h : (b, o) ∈ news) (t : TSub r news) : TSub ((b, o) :: r) news := fun a xs hm => by
  rcases List.mem_cons.mp hm with e | hm
  · rw [e]; exact h
  · exact t a xs hm
theorem TSub.skip {b : Addr} {o : Obj} {r news : Led} (h : o.cls ≠ .type "tuple") (t : TSub r news) : TSub ((b, o) :: r) news := fun a xs hm => by
  rcases List.mem_cons.mp hm with e | hm
  · exact absurd (congrArg (fun p => p.2.cls) e).symm h
  · exact t a xs hm
/-- a ledger less one object -/
inductive DropAt (I : Addr) (it : Obj) : Led → Led → Prop
  | head {r : Led} : (∀ p ∈ r, p.1 ≠ I) → DropAt I it ((I, it) :: r) r
  | tail {p : Addr × Obj} {r r' : Led} : p.1 ≠ I → DropAt I it r r' → DropAt I it (p :: r) (p :: r')
theorem DropAt.out {I : Addr} {it : Obj} {l l' : Led} (h : DropAt I it l l') : (I, it) ∈ l ∧ (∀ p ∈ l', p ∈ l) ∧ ∀ p ∈ l', p.1 ≠ I := by
  induction h with
  | head h => exact ⟨.head _, fun p hp => .tail _ hp, h⟩
  | tail h _ ih =>
    refine ⟨.tail _ ih.1, fun p hp => ?_, fun p hp => ?_⟩
    · rcases List.mem_cons.mp hp with rfl | hp
      · exact .head _
      · exact .tail _ (ih.2.1 p hp)
    · rcases List.mem_cons.mp hp with rfl | hp
      · exact h
      · exact ih.2.2 p hp
theorem unrEnd_drop {h₀ : Heap} {L I : Addr} {it : Obj} {rest : (Str → Option Value) → List (Addr × Obj) → Prop} {s₁ : Shared} {h' : Heap} {tk : Nat} {m' : Str → Option Value} {all news' : List (Addr × Obj)} (F : Fr h₀ L h' m') (N : News h₀ L h' all)
    (D : DropAt I it all news') (r : rest m' news') : UnrEnd h₀ L s₁ I it rest { s₁ with heap := h', toks := tk } :=
  UnrEnd.intro F N news' (fun p hp => by
    rcases List.mem_cons.mp hp with rfl | hp
    · exact D.out.1
    · exact D.out.2.1 p hp) D.out.2.2 r
theorem tup_out {pre post : Led} {l a : Addr} {vs : Array Value} {n : Nat} {xs : Array Value} (h : (a, tupOf xs) ∈ pre ++ (l, listOf vs n) :: post) : (a, tupOf xs) ∈ pre ++ post := by
  rcases List.mem_append.mp h with h | h
  · exact List.mem_append.mpr (.inl h)
  · rcases List.mem_cons.mp h with h | h
    · exfalso
      have e := congrArg (fun p => p.2.cls) h
      simp at e
    · exact List.mem_append.mpr (.inr h)
theorem inst_out {pre post : Led} {l t d : Addr} {C : Addr} {vs : Array Value} {n : Nat} (h : (t, instObj C d) ∈ pre ++ (l, listOf vs n) :: post) : (t, instObj C d) ∈ pre ++ post := by
  rcases List.mem_append.mp h with h | h
  · exact List.mem_append.mpr (.inl h)
  · rcases List.mem_cons.mp h with h | h
    · exfalso
      have e := congrArg (fun p => p.2.cls) h
      simp at e
    · exact List.mem_append.mpr (.inr h)
theorem dict_out {pre post : Led} {l d l' : Addr} {hv : Int} {kt : Tok} {k : Nat} {vs : Array Value} {n : Nat} (h : (d, hdrDict hv kt l' k) ∈ pre ++ (l, listOf vs n) :: post) : (d, hdrDict hv kt l' k) ∈ pre ++ post := by
  rcases List.mem_append.mp h with h | h
  · exact List.mem_append.mpr (.inl h)
  · rcases List.mem_cons.mp h with h | h
    · exfalso
      have e := congrArg (fun p => p.2.cls) h
      simp [dictOf] at e
    · exact List.mem_append.mpr (.inr h)
theorem allLt_app {a l : Addr} {o : Obj} {pre post : Led} (h1 : AllLt a (pre ++ post)) (h2 : LtA l a) : AllLt a (pre ++ (l, o) :: post) := by
  refine allLt_of fun p hp => ?_
  rcases List.mem_append.mp hp with hp | hp
  · exact ltOf h1 p (List.mem_append.mpr (.inl hp))
  · rcases List.mem_cons.mp hp with rfl | hp
    · exact h2
    · exact ltOf h1 p (List.mem_append.mpr (.inr hp))
end Mine

set_option hygiene false
set_option hygiene true
local macro_rules | `(tactic| walk_at "UnrEnd") => `(tactic| k_extra "UnrEnd")

namespace Mine
def RgEnd (x : Str) (m₀ : Str → Option Value) (J : Led → Prop) (m' : Str → Option Value) (news' : Led) : Prop := (∀ y, y ≠ x → m' y = m₀ y) ∧ J news'
section
variable {prog : Program} {w : World} {A : Around} {E : Value → Shared → Prop} {s : Shared} {env : Env} {h₀ : Heap} {x : Str} {body : List Stmt} {Q : Flow → Shared → Prop}
end
theorem offOf {d : Addr} {l : Led} (h : AllLt d l) : Off d l := fun p hp => Nat.ne_of_lt (ltOf h p hp)
theorem off_cons {a : Addr} {p : Addr × Obj} {l : Led} (h : NeA p.1 a) (t : Off a l) : Off a (p :: l) := List.forall_mem_cons.mpr ⟨h, t⟩
end Mine


namespace Mine
/-- Spec, where something is known of the heap below -/
def SpecH (w : World) (H : Heap → Prop) (D U : Nat) (f : Addr) (vs : List Value) (kw : List (Str × Value)) (news : Led) (Ret : Value → Led → Prop) : Prop :=
  ∀ (cn : Str) (names : List (Str × NameKind)) (ig ic : Bool) (more : List (Str × Const)) (a : Addr) (ccd : Value) (cl : List (Str × Addr)) (outer : List Env) (A₀ : Around) (base h₀ : Heap) (L : Addr) (m : Str → Option Value)
    (mean : ExcName → Option Value) (mg mb : Str → Option Value) (s : Shared) (Q E : Value → Shared → Prop),
    Below A₀ base outer h₀ → Fr h₀ L s.heap m → (hd.heap_39 w.params).In h₀ → News h₀ L s.heap news → Top hd.view_39 lse mean mg mb h₀ → H h₀ →
    (∀ r news' h' tk', Fr h₀ L h' m → News h₀ L h' news' → Ret r news' → Q r { s with heap := h', toks := tk' }) →
    wpAny (model Challenge.rw_rl0103_02.row.prog w) (ktrTop D U none cn { kind := .function, names := names, isGenerator := ig, isCoroutine := ic, more := more } L a ccd cl outer) (call (.ref f) vs kw) Q E s
theorem SpecH.use {w : World} {H : Heap → Prop} {D U : Nat} {f : Addr} {vs : List Value} {kw : List (Str × Value)} {news : Led} {Ret : Value → Led → Prop} (C : SpecH w H D U f vs kw news Ret)
    {dp un : Nat} {gd : Option (List Code)} {cn : Str} {names : List (Str × NameKind)} {ig ic : Bool} {more : List (Str × Const)} {a : Addr} {ccd : Value} {cl : List (Str × Addr)} {outer : List Env} {A₀ : Around} {base h₀ : Heap} {L : Addr} {m : Str → Option Value}
    {mean : ExcName → Option Value} {mg mb : Str → Option Value} {s : Shared} {Q E : Value → Shared → Prop}
    (B : Below A₀ base outer h₀) (F : Fr h₀ L s.heap m) (X : (hd.heap_39 w.params).In h₀) (N : News h₀ L s.heap news) (T : Top hd.view_39 lse mean mg mb h₀) (hd : dp ≤ D) (hu : un ≤ U) (hH : H h₀)
    (ret : ∀ r news' h' tk', Fr h₀ L h' m → News h₀ L h' news' → Ret r news' → Q r { s with heap := h', toks := tk' }) :
    wpAny (model Challenge.rw_rl0103_02.row.prog w) (ktrTop dp un gd cn { kind := .function, names := names, isGenerator := ig, isCoroutine := ic, more := more } L a ccd cl outer) (call (.ref f) vs kw) Q E s :=
  wpAny_le (C _ _ _ _ _ _ _ _ _ _ _ _ _ _ _ _ _ _ _ _ B F X N T hH ret) rfl rfl rfl hd hu
theorem lenOf {items : List Value} {ns : List Int} (h : items.length = ns.length) : ((items.toArray.size : Nat) : Int) = (ns.length : Int) := by rw [List.size_toArray, h]
local macro_rules | `(tactic| walk_at "call builtin:len") => `(tactic| (refine Mine.Hold.intro ?_))
theorem numbers_spec (w : World) (sa : Addr) (items : List Value) (ns : List Int) (hI : IntsAre items ns) (hb : ns.length ≤ 1000) (news : Led) :
   SpecH w (fun h₀ => h₀.IsList sa items.toArray) 350 3000 242 [.ref sa] [] news (fun r news' => ∃ l vs n nums, r = .ref l ∧ news' = (l, listOf vs.toArray n) :: news ∧ AllLt l news ∧ IntsAre vs nums ∧ nums.length = 2) := by
  k_with_none
  k_with "getMethod ref" => ((k_here; (with_reducible show wpAny _ _ (getMethod (Value.ref _) (Str.ofString "search") _) _ _ _); k_dflt (refine' Mine.meth_search ?k1 ?k2 ?k3 ?k4 ?k5 ?_; (case k1 => k_asm); (case k2 => k_asm); (case k3 => k_is); (case k4 => rfl); (case k5 => rfl); k_whole)))
  k_with "call builtin:re.Pattern.search" => ((k_here; k_dflt (refine' Mine.call_search ?k1 ?k2 ?k3 ?k4 ?k5 ?_; (case k1 => k_asm); (case k2 => k_asm); (case k3 => k_is); (case k4 => rfl); (case k5 => first | with_reducible exact Mine.srchN _ _ _ (by assumption) | with_reducible exact Mine.srchV _ _ _ (by assumption)); k_whole)))
  k_with "mine use" => (((case k1 => k_asm); (case k2 => k_asm); (case k3 => k_asm); (case k4 => k_asm); (case k5 => k_asm); (case kd => exact Nat.le_of_ble_eq_true rfl); (case ku => exact Nat.le_of_ble_eq_true rfl)))
  k_with "mine lt" => ((walk_at "mine and"; first | omega | assumption | exact allLt_of (by assumption) | exact Mine.ltUp (by omega) (by assumption) | exact Mine.ltUp (by omega) (allLt_of (by assumption))))
  k_with "mine letter" => (first | assumption | exact Mine.Letter.lower (by assumption) | exact Mine.Letter.upper (by assumption) | exact Mine.Letter.lower (Mine.Letter.upper (by assumption)))
  k_with "call builtin:str.lower" => ((k_here; k_dflt (refine Mine.lower_L (by walk_at "mine letter") ?_)))
  k_with "call builtin:str.upper" => ((k_here; k_dflt (refine Mine.upper_L (by walk_at "mine letter") ?_)))
  k_with "eval ListComp" => (k_extra "mine comp")
  k_with "CompRestT" => (k_extra "mine restT")
  k_with "CompRest" => (k_extra "mine rest")
  k_with "exec For Tuple Attribute cons nil" => (k_extra "mine for")
  k_with "exec For Tuple Name cons nil" => (k_extra "mine for")
  k_with "exec While Compare cons nil" => (k_extra "mine while")
  k_with "delItem ref" => ((k_here; k_dflt (refine' Mine.own_delItem ?F ?X ?I ?hQ ?hS ?hF ?_; (case F => k_asm); (case X => k_asm); (case I => k_inst); (case hS => k_is); (case hF => k_is); (case hQ => k_is); k_whole)))
  k_with "mine hdrs" => (first | assumption | exact Mine.Hdrs.mono (by kcj_all) (by assumption))
  k_with "call ref" => ((k_here; k_dflt (refine' Mine.Spec.use (Mine.ent_spec _ _) ?k1 ?k2 ?k3 ?k4 ?k5 ?kd ?ku ?_; walk_at "mine use"; k_whole; intro rE nE hE tkE FE NE RE; obtain ⟨xE, dE, uE, vE, aE, bE, cE, fE, eE, eE', lE, mE, oE, pE⟩ := RE; subst eE eE'; (try (replace lE := Mine.ltOf lE; k_lt lE)); (try dsimp only); (try k_sweep); (try k_fold))))
  k_with "call ref" => ((k_here; k_dflt (refine' Mine.Spec.use (Mine.merge_spec _ _ _ _ _ _ _ _ _ _ _ _ _ _ _ _ _ _ _ _ _ _ _ _ _ _ _ _ _ _ ?h1 ?h2 ?h3 ?h4 ?g1 ?g2 ?g3 ?g4 ?y1 ?y2 ?z1 ?z2 ?z3 ?z4) ?k1 ?k2 ?k3 ?k4 ?k5 ?kd ?ku ?_; walk_at "mine use"; (case h1 => k_mem); (case h2 => k_mem); (case h3 => k_mem); (case h4 => k_mem); (case g1 => k_mem); (case g2 => k_mem); (case g3 => k_mem); (case g4 => k_mem); (case y1 => walk_at "mine strs"); (case y2 => walk_at "mine strs"); (case z1 => walk_at "mine len"); (case z2 => walk_at "mine len"); (case z3 => walk_at "mine len"); (case z4 => walk_at "mine len"); k_whole; intro rM nM hM tkM FM NM RM; obtain ⟨xM, dM, uM, vM, sM, aM, bM, cM, fM, gM, iM, jM, eM, eM', SM, zM, lM, mM, oM, pM⟩ := RM; subst eM eM'; (try (replace lM := Mine.ltOf lM; k_lt lM)); (try dsimp only); (try k_sweep); (try k_fold))))
  k_with "mine strs" => (first | assumption | exact StrsAre.nil | (refine StrsAre.cons _ _ ?_; walk_at "mine strs"))
  k_with "mine len" => (first | assumption | omega | (simp only [List.length_cons, List.length_nil, List.length_append]; omega))
  k_with "mine hdrs" => (first | assumption | (refine Mine.Hdrs.mono ?hs9 (by assumption); kcj_all))
  k_with "subscriptTail Name Constant ref int" => (k_extra "mine item")
  k_with "subscriptTail Attribute Name Constant ref int" => (k_extra "mine item")
  k_with "mine len" => ((simp only [List.length_cons, List.length_nil, List.length_append, List.length_take, List.length_reverse]; omega))
  k_with "call ref" => ((k_here; k_dflt (refine' Mine.Spec.use (Mine.new_spec _ _) ?k1 ?k2 ?k3 ?k4 ?k5 ?kd ?ku ?_; walk_at "mine use"; k_whole; intro rN nN hN tkN FN NN RN; obtain ⟨tN, dN, lN, aN, bN, eN, eN', uN, vN, wN⟩ := RN; subst eN eN'; (try (replace uN := Mine.ltOf uN; k_lt uN)); (try dsimp only); (try k_sweep); (try k_fold))))
  k_with "mine letter" => ((show _ ∈ Mine.letters; decide +kernel))
  k_with "mine hdrs" => (exact Mine.Hdrs.nil)
  k_with "mine len" => (first | assumption | omega | (simp only [List.length_cons, List.length_nil, List.length_append, List.length_take, List.length_reverse] <;> omega) | (subst_vars; (simp only [List.length_cons, List.length_nil, List.length_append, List.length_take, List.length_reverse] <;> omega)))
  k_with "mine tsub" => (first | exact Mine.TSub.nil | exact Mine.TSub.sub (fun _ h => h) | (refine Mine.TSub.keep (by k_mem) ?_; walk_at "mine tsub") | (refine Mine.TSub.skip (by k_cls) ?_; walk_at "mine tsub") | exact Mine.TSub.sub (by kcj_all))
  k_with "mine drop" => (first | (refine' Mine.DropAt.head ?a; (case a => k_all)) | (refine' Mine.DropAt.tail ?a ?b; (case a => k_ne); (case b => walk_at "mine drop")))
  k_with "UnrEnd" => ((refine' Mine.unrEnd_drop ?k1 ?k2 ?k3 ?_; (case k1 => k_asm); (case k2 => k_asm); (case k3 => walk_at "mine drop")))
  w_top off
  have : Challenge.rw_rl0103_02 = Challenge.rw_rl0103_02 ∧ Mine.hd.heap_39 = Mine.hd.heap_39 := by k_fill; exact ⟨rfl, rfl⟩
  intro cn names ig ic more a ccd cl outer A₀ base h₀ L m mean mg mb s Q E B F X N T hsl hret
  have hlen : items.length = ns.length := IntsAre.length hI
  k_with "pyIter ref" => k_state (fun (pre : List Int) (numbers : List Int) => numbers.length = 2) "numbers"
  k_steps
  unfold Hold
  rename (Fr h₀ L _ m) => FG
  have hg := hsl.at fun o e => FG.keep _ o e
  refine' kun_lenL ?k1 (lenOf hlen) ?k3 ?_
  case k1 => is_list
  case k3 => omega
  k_steps
  refine hret _ ((_, listOf (List.toArray _) _) :: news) _ _ (by k_asm) (by k_asm) ⟨_, _, _, _, rfl, rfl, allLt_of (by assumption), by assumption, by assumption⟩
end Mine


namespace Mine
theorem ints_cons {vs : List Value} {a : Int} {r : List Int} (h : IntsAre vs (a :: r)) : ∃ t vs', vs = .int a t :: vs' ∧ IntsAre vs' r := by
  cases h with
  | cons _ t h => exact ⟨t, _, rfl, h⟩
theorem ints_nil {vs : List Value} (h : IntsAre vs []) : vs = [] := by cases h; rfl
theorem fmod_in (a : Int) {b : Int} (hb : 0 < b) : 0 ≤ a.fmod b ∧ a.fmod b < b := by
  rw [Int.fmod_eq_emod_of_nonneg a (Int.le_of_lt hb)]
  exact ⟨Int.emod_nonneg a (by omega), Int.emod_lt_of_pos a hb⟩
theorem newsJoin {h₀ h : Heap} {L : Addr} {news' A B : Led} (N : News h₀ L h news') (h1 : ∀ p ∈ A, p ∈ news') (h2 : ∀ p ∈ B, p ∈ news') : News h₀ L h (A ++ B) := fun p hp =>
  (List.mem_append.mp hp).elim (fun k => N p (h1 p k)) fun k => N p (h2 p k)
theorem newsShift3 {h₀ h : Heap} {L : Addr} {a b c : Addr × Obj} {X B : Led} (N : News h₀ L h (a :: b :: c :: (B ++ X))) : News h₀ L h ((a :: b :: c :: X) ++ B) := fun p hp => N p (by
  simp only [List.cons_append, List.mem_cons, List.mem_append] at hp ⊢
  rcases hp with h | h | h | h | h <;> simp [h])
theorem offGt {a l : Addr} {tups : Led} (h : ∀ p ∈ tups, LtA l p.1) (k : @LE.le Nat _ a l) : ∀ p ∈ tups, p.1 ≠ a := fun p hp => Nat.ne_of_gt (Nat.lt_of_le_of_lt k (h p hp))
theorem bindL_of {k : Str → Option NameKind} {binds : List (Str × Value)} {m : Str → Option Value} {n : Str} {v : Value} (hb : binds = [(n, v)]) (hk : k n = some .local) : bindL k binds m = fun y => if y = n then some v else m y := by
  subst hb; simp [bindL, hk]
theorem bindC_of {k : Str → Option NameKind} {binds : List (Str × Value)} {m : Str → Option Value} {n y : Str} {v : Value} (hb : binds = [(n, v)]) (hk : k n = some .local) : bindC k binds m y = m y := by
  subst hb; simp [bindC, hk]
theorem frCast {h₀ h : Heap} {L : Addr} {m m' : Str → Option Value} (F : Fr h₀ L h m) (e : m = m') : Fr h₀ L h m' := e ▸ F
end Mine

local macro_rules | `(tactic| k_all) => `(tactic| exact Mine.offGt (by assumption) (by walk_at "mine and"; omega))

namespace Mine
open LCg LCt LCp
section
variable {prog : Program} {w : World} {A : Around} {s : Shared} {h₀ : Heap} {L : Addr} {m : Str → Option Value} {env : Env} {elt : Expr} {x x₂ : Str} {scope : Scope} {cl : List (Str × Addr)} {S : Led → Prop} {P : Nat → Value → Prop} {Fin : List Value → Led → Prop}
/-- a comprehension over pairs where the ledger stays -/
theorem restP_keep {news : Led} (I : Nat → List Value → Prop) (n : Nat) (h0 : I 0 [])
    (step : ∀ i ys v, i < n → I i ys → P i v → ∃ (t : Addr) (ot : Obj) (v₁ v₂ : Value) (nt : Nat), v = .ref t ∧ (t, ot) ∈ news ∧ ot.cls = .type "tuple" ∧ ot.data = .seq #[v₁, v₂] nt ∧
      ∀ Ia oI C oC D m₂ h tk (E' : Value → Shared → Prop), NsObj oC m₂ → m₂ x = some v₁ → m₂ x₂ = some v₂ → Fr h₀ L h m → News h₀ L h ((Ia, oI) :: (C, oC) :: (D, lst ys) :: news) → Off3 Ia C D news → ((@Ne Nat Ia C) ∧ (@Ne Nat Ia D) ∧ (@Ne Nat C D)) →
      wpAny (model prog w) A (eval elt (compEnvC scope cl C env)) (CompEnd h₀ L m { s with heap := h, toks := tk } Ia oI C oC D (lst ys) S (fun y news' => news' = news ∧ I (i + 1) (ys ++ [y]))) E' { s with heap := h, toks := tk })
    (fin : ∀ ys, I n ys → Fin ys news) : CompRestP prog w A h₀ L m env elt x x₂ scope cl s S P Fin n 0 [] news := by
  suffices H : ∀ k i ys, i + k = n → I i ys → CompRestP prog w A h₀ L m env elt x x₂ scope cl s S P Fin k i ys news from H n 0 [] (Nat.zero_add n) h0
  intro k
  induction k with
  | zero => intro i ys e hI; rw [Nat.add_zero] at e; subst e; exact fin ys hI
  | succ k ih =>
    intro i ys e hI v hP
    obtain ⟨t, ot, v₁, v₂, nt, rfl, hm, hc, hd, H⟩ := step i ys v (by omega) hI hP
    refine ⟨t, ot, v₁, v₂, nt, rfl, hm, hc, hd, ?_⟩
    intro Ia oI C oC D m₂ h tk E' hC hx hy F N off ne
    refine wpAny_mono (H Ia oI C oC D m₂ h tk E' hC hx hy F N off ne) (fun y s'' c => compEnd_mono (fun y nw hi => ?_) c) fun _ _ e => e
    obtain ⟨rfl, hi⟩ := hi
    exact ih (i + 1) (ys ++ [y]) (by omega) hi
end
theorem offOne {D : Addr} : ∀ {l : Led}, Off1 D l → Off D l
  | [], _, _, h => nomatch h
  | _ :: _, x, p, h => by
    rcases List.mem_cons.mp h with rfl | h
    · exact x.1
    · exact offOne x.2 p h
theorem neUp {a : Addr} {l : Led} (h : ∀ p ∈ l, p.1 < a) : ∀ p ∈ l, p.1 ≠ a + 1 := fun p hp => Nat.ne_of_lt (Nat.lt_succ_of_lt (h p hp))
theorem strsAre_push {vs : List Value} {ys : List Str} (h : StrsAre vs ys) (y : Str) (t : Tok) : StrsAre (vs ++ [.str y t]) (ys ++ [y]) := by
  induction h with
  | nil => exact .cons _ _ .nil
  | cons _ _ _ ih => exact .cons _ _ ih
end Mine

local macro_rules | `(tactic| k_all) => `(tactic| exact Mine.neUp (by assumption))

namespace Mine
open LCg LCt
theorem getall_spec (w : World) (t d l : Addr) (hs : Int) (kt : Tok) (n₁ n₃ : Nat) (vs : List Value) (kvs : List (Str × Str)) (x : Str) (tx : Tok) (hx : Letter x) (news : Led) (hH : Hdrs news vs kvs) (h1 : (l, listOf vs.toArray n₃) ∈ news) (h2 : (t, instObj 182 d) ∈ news) (h3 : (d, hdrDict hs kt l n₁) ∈ news) (hlen : vs.length ≤ 1000) :
   Spec w 400 4000 121 [.ref t, .str x tx] [] news
     (fun r news' => ∃ D ys n, r = .ref D ∧ news' = (D, listOf ys.toArray n) :: news ∧ Off D news ∧ StrsAre ys ((kvs.filter fun kv => Txt.lower kv.1 == Txt.lower x).map (·.2)) ∧ ys.length ≤ vs.length) := by
  k_with_none
  k_with "getMethod ref" => ((k_here; (with_reducible show wpAny _ _ (getMethod (Value.ref _) (Str.ofString "search") _) _ _ _); k_dflt (refine' Mine.meth_search ?k1 ?k2 ?k3 ?k4 ?k5 ?_; (case k1 => k_asm); (case k2 => k_asm); (case k3 => k_is); (case k4 => rfl); (case k5 => rfl); k_whole)))
  k_with "call builtin:re.Pattern.search" => ((k_here; k_dflt (refine' Mine.call_search ?k1 ?k2 ?k3 ?k4 ?k5 ?_; (case k1 => k_asm); (case k2 => k_asm); (case k3 => k_is); (case k4 => rfl); (case k5 => first | with_reducible exact Mine.srchN _ _ _ (by assumption) | with_reducible exact Mine.srchV _ _ _ (by assumption)); k_whole)))
  k_with "mine use" => (((case k1 => k_asm); (case k2 => k_asm); (case k3 => k_asm); (case k4 => k_asm); (case k5 => k_asm); (case kd => exact Nat.le_of_ble_eq_true rfl); (case ku => exact Nat.le_of_ble_eq_true rfl)))
  k_with "mine lt" => ((walk_at "mine and"; first | omega | assumption | exact allLt_of (by assumption) | exact Mine.ltUp (by omega) (by assumption) | exact Mine.ltUp (by omega) (allLt_of (by assumption))))
  k_with "mine letter" => (first | assumption | exact Mine.Letter.lower (by assumption) | exact Mine.Letter.upper (by assumption) | exact Mine.Letter.lower (Mine.Letter.upper (by assumption)))
  k_with "call builtin:str.lower" => ((k_here; k_dflt (refine Mine.lower_L (by walk_at "mine letter") ?_)))
  k_with "call builtin:str.upper" => ((k_here; k_dflt (refine Mine.upper_L (by walk_at "mine letter") ?_)))
  k_with "eval ListComp" => (k_extra "mine comp")
  k_with "CompRestT" => (k_extra "mine restT")
  k_with "CompRest" => (k_extra "mine rest")
  k_with "exec For Tuple Attribute cons nil" => (k_extra "mine for")
  k_with "exec For Tuple Name cons nil" => (k_extra "mine for")
  k_with "exec While Compare cons nil" => (k_extra "mine while")
  k_with "delItem ref" => ((k_here; k_dflt (refine' Mine.own_delItem ?F ?X ?I ?hQ ?hS ?hF ?_; (case F => k_asm); (case X => k_asm); (case I => k_inst); (case hS => k_is); (case hF => k_is); (case hQ => k_is); k_whole)))
  k_with "mine hdrs" => (first | assumption | exact Mine.Hdrs.mono (by kcj_all) (by assumption))
  k_with "call ref" => ((k_here; k_dflt (refine' Mine.Spec.use (Mine.ent_spec _ _) ?k1 ?k2 ?k3 ?k4 ?k5 ?kd ?ku ?_; walk_at "mine use"; k_whole; intro rE nE hE tkE FE NE RE; obtain ⟨xE, dE, uE, vE, aE, bE, cE, fE, eE, eE', lE, mE, oE, pE⟩ := RE; subst eE eE'; (try (replace lE := Mine.ltOf lE; k_lt lE)); (try dsimp only); (try k_sweep); (try k_fold))))
  k_with "call ref" => ((k_here; k_dflt (refine' Mine.Spec.use (Mine.merge_spec _ _ _ _ _ _ _ _ _ _ _ _ _ _ _ _ _ _ _ _ _ _ _ _ _ _ _ _ _ _ ?h1 ?h2 ?h3 ?h4 ?g1 ?g2 ?g3 ?g4 ?y1 ?y2 ?z1 ?z2 ?z3 ?z4) ?k1 ?k2 ?k3 ?k4 ?k5 ?kd ?ku ?_; walk_at "mine use"; (case h1 => k_mem); (case h2 => k_mem); (case h3 => k_mem); (case h4 => k_mem); (case g1 => k_mem); (case g2 => k_mem); (case g3 => k_mem); (case g4 => k_mem); (case y1 => walk_at "mine strs"); (case y2 => walk_at "mine strs"); (case z1 => walk_at "mine len"); (case z2 => walk_at "mine len"); (case z3 => walk_at "mine len"); (case z4 => walk_at "mine len"); k_whole; intro rM nM hM tkM FM NM RM; obtain ⟨xM, dM, uM, vM, sM, aM, bM, cM, fM, gM, iM, jM, eM, eM', SM, zM, lM, mM, oM, pM⟩ := RM; subst eM eM'; (try (replace lM := Mine.ltOf lM; k_lt lM)); (try dsimp only); (try k_sweep); (try k_fold))))
  k_with "mine strs" => (first | assumption | exact StrsAre.nil | (refine StrsAre.cons _ _ ?_; walk_at "mine strs"))
  k_with "mine len" => (first | assumption | omega | (simp only [List.length_cons, List.length_nil, List.length_append]; omega))
  k_with "mine hdrs" => (first | assumption | (refine Mine.Hdrs.mono ?hs9 (by assumption); kcj_all))
  k_with "subscriptTail Name Constant ref int" => (k_extra "mine item")
  k_with "subscriptTail Attribute Name Constant ref int" => (k_extra "mine item")
  k_with "mine len" => ((simp only [List.length_cons, List.length_nil, List.length_append, List.length_take, List.length_reverse]; omega))
  k_with "call ref" => ((k_here; k_dflt (refine' Mine.Spec.use (Mine.new_spec _ _) ?k1 ?k2 ?k3 ?k4 ?k5 ?kd ?ku ?_; walk_at "mine use"; k_whole; intro rN nN hN tkN FN NN RN; obtain ⟨tN, dN, lN, aN, bN, eN, eN', uN, vN, wN⟩ := RN; subst eN eN'; (try (replace uN := Mine.ltOf uN; k_lt uN)); (try dsimp only); (try k_sweep); (try k_fold))))
  k_with "mine letter" => ((show _ ∈ Mine.letters; decide +kernel))
  k_with "mine hdrs" => (exact Mine.Hdrs.nil)
  k_with "mine len" => (first | assumption | omega | (simp only [List.length_cons, List.length_nil, List.length_append, List.length_take, List.length_reverse] <;> omega) | (subst_vars; (simp only [List.length_cons, List.length_nil, List.length_append, List.length_take, List.length_reverse] <;> omega)))
  k_with "mine tsub" => (first | exact Mine.TSub.nil | exact Mine.TSub.sub (fun _ h => h) | (refine Mine.TSub.keep (by k_mem) ?_; walk_at "mine tsub") | (refine Mine.TSub.skip (by k_cls) ?_; walk_at "mine tsub") | exact Mine.TSub.sub (by kcj_all))
  k_with "mine drop" => (first | (refine' Mine.DropAt.head ?a; (case a => k_all)) | (refine' Mine.DropAt.tail ?a ?b; (case a => k_ne); (case b => walk_at "mine drop")))
  k_with "UnrEnd" => ((refine' Mine.unrEnd_drop ?k1 ?k2 ?k3 ?_; (case k1 => k_asm); (case k2 => k_asm); (case k3 => walk_at "mine drop")))
  w_top off
  have : Challenge.rw_rl0103_02 = Challenge.rw_rl0103_02 ∧ Mine.hd.heap_39 = Mine.hd.heap_39 := by k_fill; exact ⟨rfl, rfl⟩
  intro cn names ig ic more a ccd cl outer A₀ base h₀ L m mean mg mb s Q E B F X N T hret
  k_with "mine comp" => (k_dflt (refine LCt.ListComp_T (F₀ := by k_asm) (by with_unfolding_all rfl) (by decide) (by rfl) (by decide) (by rfl) ?_))
  k_steps
  refine LCt.CompSrcT.ledger rfl (by k_asm) (by k_asm) (by k_mem) (by rw [List.size_toArray]; exact Nat.le_trans hlen (by decide)) ?_
  intro g
  refine restT_keep (fun i ys => StrsAre ys (((kvs.take i).filter fun kv => Txt.lower kv.1 == Txt.lower x).map (·.2))) _ (by simpa using StrsAre.nil) ?_ ?_
  · intro i ys v Ia oI C oC D m₂ h tk E' hi hI hP hC hx' F' N' off ne
    have hP' : vs[i]? = some v := by simpa using hP
    obtain ⟨a', k', v', t1, t2, rfl, hk', lk', lv', hm'⟩ := hH.at hP'
    k_steps
    · rename_i hc
      refine compEnd_keep (R := fun y => StrsAre (ys ++ [y]) _) (by k_asm) (by k_asm) (by kcj_all) off (.inr ⟨_, by k_mem, rfl, _, rfl⟩) ?_
      rw [take_filter_snoc _ _ _ _ hk', hc]
      simpa using strsAre_push hI v' _
    · rename_i hc
      refine compEnd_keep (R := fun y => StrsAre ys _) (by k_asm) (by k_asm) (by kcj_all) off (.inr ⟨_, by k_mem, rfl, _, rfl⟩) ?_
      rw [take_filter_snoc _ _ _ _ hk', hc]
      simpa using hI
  · intro ys hI
    have e2 := hH.length
    have e5 : kvs.take vs.toArray.size = kvs := List.take_of_length_le (by rw [List.size_toArray, e2]; exact Nat.le_refl _)
    rw [e5] at hI
    have hlen2 : ys.length ≤ vs.length := by
      have e1 := strsAre_length hI
      have e3 := List.length_filter_le (fun kv : Str × Str => Txt.lower kv.1 == Txt.lower x) kvs
      rw [List.length_map] at e1
      omega
    k_steps
    refine hret _ ((_, listOf ys.toArray _) :: news) _ _ (by k_asm) (cb_drop (by k_asm) (by kcj_all)) ⟨_, _, _, rfl, rfl, ?_, hI, hlen2⟩
    exact offOne (And.right (by assumption))
theorem values_spec (w : World) (t d l : Addr) (hs : Int) (kt : Tok) (n₁ n₃ : Nat) (vs : List Value) (kvs : List (Str × Str)) (news : Led) (hH : Hdrs news vs kvs) (h1 : (l, listOf vs.toArray n₃) ∈ news) (h2 : (t, instObj 182 d) ∈ news) (h3 : (d, hdrDict hs kt l n₁) ∈ news) (hlen : vs.length ≤ 1000) :
   Spec w 400 4000 139 [.ref t] [] news
     (fun r news' => ∃ D ys n, r = .ref D ∧ news' = (D, listOf ys.toArray n) :: news ∧ Off D news ∧ StrsAre ys (kvs.map (·.2)) ∧ ys.length ≤ vs.length) := by
  k_with_none
  k_with "getMethod ref" => ((k_here; (with_reducible show wpAny _ _ (getMethod (Value.ref _) (Str.ofString "search") _) _ _ _); k_dflt (refine' Mine.meth_search ?k1 ?k2 ?k3 ?k4 ?k5 ?_; (case k1 => k_asm); (case k2 => k_asm); (case k3 => k_is); (case k4 => rfl); (case k5 => rfl); k_whole)))
  k_with "call builtin:re.Pattern.search" => ((k_here; k_dflt (refine' Mine.call_search ?k1 ?k2 ?k3 ?k4 ?k5 ?_; (case k1 => k_asm); (case k2 => k_asm); (case k3 => k_is); (case k4 => rfl); (case k5 => first | with_reducible exact Mine.srchN _ _ _ (by assumption) | with_reducible exact Mine.srchV _ _ _ (by assumption)); k_whole)))
  k_with "mine use" => (((case k1 => k_asm); (case k2 => k_asm); (case k3 => k_asm); (case k4 => k_asm); (case k5 => k_asm); (case kd => exact Nat.le_of_ble_eq_true rfl); (case ku => exact Nat.le_of_ble_eq_true rfl)))
  k_with "mine lt" => ((walk_at "mine and"; first | omega | assumption | exact allLt_of (by assumption) | exact Mine.ltUp (by omega) (by assumption) | exact Mine.ltUp (by omega) (allLt_of (by assumption))))
  k_with "mine letter" => (first | assumption | exact Mine.Letter.lower (by assumption) | exact Mine.Letter.upper (by assumption) | exact Mine.Letter.lower (Mine.Letter.upper (by assumption)))
  k_with "call builtin:str.lower" => ((k_here; k_dflt (refine Mine.lower_L (by walk_at "mine letter") ?_)))
  k_with "call builtin:str.upper" => ((k_here; k_dflt (refine Mine.upper_L (by walk_at "mine letter") ?_)))
  k_with "eval ListComp" => (k_extra "mine comp")
  k_with "CompRestT" => (k_extra "mine restT")
  k_with "CompRest" => (k_extra "mine rest")
  k_with "exec For Tuple Attribute cons nil" => (k_extra "mine for")
  k_with "exec For Tuple Name cons nil" => (k_extra "mine for")
  k_with "exec While Compare cons nil" => (k_extra "mine while")
  k_with "delItem ref" => ((k_here; k_dflt (refine' Mine.own_delItem ?F ?X ?I ?hQ ?hS ?hF ?_; (case F => k_asm); (case X => k_asm); (case I => k_inst); (case hS => k_is); (case hF => k_is); (case hQ => k_is); k_whole)))
  k_with "mine hdrs" => (first | assumption | exact Mine.Hdrs.mono (by kcj_all) (by assumption))
  k_with "call ref" => ((k_here; k_dflt (refine' Mine.Spec.use (Mine.ent_spec _ _) ?k1 ?k2 ?k3 ?k4 ?k5 ?kd ?ku ?_; walk_at "mine use"; k_whole; intro rE nE hE tkE FE NE RE; obtain ⟨xE, dE, uE, vE, aE, bE, cE, fE, eE, eE', lE, mE, oE, pE⟩ := RE; subst eE eE'; (try (replace lE := Mine.ltOf lE; k_lt lE)); (try dsimp only); (try k_sweep); (try k_fold))))
  k_with "call ref" => ((k_here; k_dflt (refine' Mine.Spec.use (Mine.merge_spec _ _ _ _ _ _ _ _ _ _ _ _ _ _ _ _ _ _ _ _ _ _ _ _ _ _ _ _ _ _ ?h1 ?h2 ?h3 ?h4 ?g1 ?g2 ?g3 ?g4 ?y1 ?y2 ?z1 ?z2 ?z3 ?z4) ?k1 ?k2 ?k3 ?k4 ?k5 ?kd ?ku ?_; walk_at "mine use"; (case h1 => k_mem); (case h2 => k_mem); (case h3 => k_mem); (case h4 => k_mem); (case g1 => k_mem); (case g2 => k_mem); (case g3 => k_mem); (case g4 => k_mem); (case y1 => walk_at "mine strs"); (case y2 => walk_at "mine strs"); (case z1 => walk_at "mine len"); (case z2 => walk_at "mine len"); (case z3 => walk_at "mine len"); (case z4 => walk_at "mine len"); k_whole; intro rM nM hM tkM FM NM RM; obtain ⟨xM, dM, uM, vM, sM, aM, bM, cM, fM, gM, iM, jM, eM, eM', SM, zM, lM, mM, oM, pM⟩ := RM; subst eM eM'; (try (replace lM := Mine.ltOf lM; k_lt lM)); (try dsimp only); (try k_sweep); (try k_fold))))
  k_with "mine strs" => (first | assumption | exact StrsAre.nil | (refine StrsAre.cons _ _ ?_; walk_at "mine strs"))
  k_with "mine len" => (first | assumption | omega | (simp only [List.length_cons, List.length_nil, List.length_append]; omega))
  k_with "mine hdrs" => (first | assumption | (refine Mine.Hdrs.mono ?hs9 (by assumption); kcj_all))
  k_with "subscriptTail Name Constant ref int" => (k_extra "mine item")
  k_with "subscriptTail Attribute Name Constant ref int" => (k_extra "mine item")
  k_with "mine len" => ((simp only [List.length_cons, List.length_nil, List.length_append, List.length_take, List.length_reverse]; omega))
  k_with "call ref" => ((k_here; k_dflt (refine' Mine.Spec.use (Mine.new_spec _ _) ?k1 ?k2 ?k3 ?k4 ?k5 ?kd ?ku ?_; walk_at "mine use"; k_whole; intro rN nN hN tkN FN NN RN; obtain ⟨tN, dN, lN, aN, bN, eN, eN', uN, vN, wN⟩ := RN; subst eN eN'; (try (replace uN := Mine.ltOf uN; k_lt uN)); (try dsimp only); (try k_sweep); (try k_fold))))
  k_with "mine letter" => ((show _ ∈ Mine.letters; decide +kernel))
  k_with "mine hdrs" => (exact Mine.Hdrs.nil)
  k_with "mine len" => (first | assumption | omega | (simp only [List.length_cons, List.length_nil, List.length_append, List.length_take, List.length_reverse] <;> omega) | (subst_vars; (simp only [List.length_cons, List.length_nil, List.length_append, List.length_take, List.length_reverse] <;> omega)))
  k_with "mine tsub" => (first | exact Mine.TSub.nil | exact Mine.TSub.sub (fun _ h => h) | (refine Mine.TSub.keep (by k_mem) ?_; walk_at "mine tsub") | (refine Mine.TSub.skip (by k_cls) ?_; walk_at "mine tsub") | exact Mine.TSub.sub (by kcj_all))
  k_with "mine drop" => (first | (refine' Mine.DropAt.head ?a; (case a => k_all)) | (refine' Mine.DropAt.tail ?a ?b; (case a => k_ne); (case b => walk_at "mine drop")))
  k_with "UnrEnd" => ((refine' Mine.unrEnd_drop ?k1 ?k2 ?k3 ?_; (case k1 => k_asm); (case k2 => k_asm); (case k3 => walk_at "mine drop")))
  w_top off
  have : Challenge.rw_rl0103_02 = Challenge.rw_rl0103_02 ∧ Mine.hd.heap_39 = Mine.hd.heap_39 := by k_fill; exact ⟨rfl, rfl⟩
  intro cn names ig ic more a ccd cl outer A₀ base h₀ L m mean mg mb s Q E B F X N T hret
  k_with "mine comp" => (k_dflt (refine LCp.ListComp_P (F₀ := by k_asm) (by with_unfolding_all rfl) (by decide) (by rfl) (by decide) (by rfl) (by rfl) (by decide) ?_))
  k_steps
  refine LCp.SrcLP.ledger rfl (by k_asm) (by k_asm) (by k_mem) (by rw [List.size_toArray]; exact Nat.le_trans hlen (by decide)) ?_
  intro g
  refine restP_keep (fun i ys => StrsAre ys ((kvs.take i).map (·.2))) _ (by simpa using StrsAre.nil) ?_ ?_
  · intro i ys v hi hI hP
    have hP' : vs[i]? = some v := by simpa using hP
    obtain ⟨a', k', v', t1, t2, rfl, hk', lk', lv', hm'⟩ := hH.at hP'
    refine ⟨a', _, _, _, _, rfl, hm', rfl, rfl, ?_⟩
    intro Ia oI C oC D m₂ h tk E' hC hx' hy' F' N' off ne
    k_steps
    refine compEnd_keep (R := fun y => StrsAre (ys ++ [y]) _) (by k_asm) (by k_asm) (by kcj_all) off (.inr ⟨_, by k_mem, rfl, _, rfl⟩) ?_
    have e : (kvs.take (i + 1)).map (·.2) = (kvs.take i).map (·.2) ++ [v'] := by
      rw [List.take_add_one, hk']; simp
    rw [e]
    exact strsAre_push hI v' _
  · intro ys hI
    have e2 := hH.length
    have e5 : kvs.take vs.toArray.size = kvs := List.take_of_length_le (by rw [List.size_toArray, e2]; exact Nat.le_refl _)
    rw [e5] at hI
    have hlen2 : ys.length ≤ vs.length := by
      have e1 := strsAre_length hI
      rw [List.length_map] at e1
      omega
    k_steps
    refine hret _ ((_, listOf ys.toArray _) :: news) _ _ (by k_asm) (cb_drop (by k_asm) (by kcj_all)) ⟨_, _, _, rfl, rfl, ?_, hI, hlen2⟩
    exact offOne (by assumption)
end Mine


namespace Mine
open LCg LCt
section
variable {prog : Program} {w : World} {A : Around} {E : Value → Shared → Prop} {R : Result → Shared → Prop} {s : Shared}
theorem compTurn_in (elt target iter : Expr) (ifs : List Expr) (g₁ : Comprehension) (scope : Scope) (pos : Pos) (it acc : Value) (env : Env) :
    compTurn (.ListComp elt [g₁, ⟨target, iter, ifs, 0⟩] scope pos) 1 it acc env = (do
      standAt iter.pos
      match ← pyNext it with
      | none => pure (.done .next)
      | some v =>
        letOwnedTupleGo target it v
        assign target env v
        let mut ok := true
        for c in ifs do
          if ok then ok ← isTrue c env (eval c env)
        if ok then
          (do let _ ← call (.builtin "list.append") [acc, ← eval elt env])
        again (.compLoop (.ListComp elt [g₁, ⟨target, iter, ifs, 0⟩] scope pos) 1 it acc env)) := by rfl
theorem codeAny_compLoop_in {elt target iter : Expr} {ifs : List Expr} {g₁ : Comprehension} {scope : Scope} {pos : Pos} {it acc : Value} {env : Env} (I : Nat → Shared → Prop)
    (turn : ∀ n s, I n s → wpAny (model prog w) A (pyNext it) (fun r s₁ => match r with
      | none => R (.ok .next) s₁
      | some v => wpAny (model prog w) A (assign target env v) (fun _ s₂ =>
          wpAny (model prog w) A (forIn ifs true fun c r => if r = true then do let ok ← isTrue c env (eval c env); pure (ForInStep.yield ok) else pure (ForInStep.yield r)) (fun ok s₃ =>
            if ok = true then wpAny (model prog w) A (eval elt env) (fun x s₄ =>
              wpAny (model prog w) A (call (.builtin "list.append") [acc, x]) (fun _ s₅ => ∃ m, m < n ∧ I m s₅) (notedBy (model prog w) A env fun e s' => R (.error e) s') s₄) (notedBy (model prog w) A env fun e s' => R (.error e) s') s₃
            else ∃ m, m < n ∧ I m s₃) (notedBy (model prog w) A env fun e s' => R (.error e) s') s₂) (notedBy (model prog w) A env fun e s' => R (.error e) s') s₁) (notedBy (model prog w) A env fun e s' => R (.error e) s') s)
    (n : Nat) (h : I n s) (ht : ∀ v, letOwnedTupleGo target it v = pure () := by intro _; rfl) :
    codeAny (model prog w) A (.compLoop (.ListComp elt [g₁, ⟨target, iter, ifs, 0⟩] scope pos) 1 it acc env) R s := by
  refine codeAny_loop rfl I (fun n s hI => ?_) n h
  show wpAny _ A ((compTurn (.ListComp elt [g₁, ⟨target, iter, ifs, 0⟩] scope pos) 1 it acc env).onRaise (fun x => do noteFrame x env; theTreesLotGoes x)) _ _ s
  refine wpAny_noted ?_
  rw [compTurn_in]
  refine wpAny_bind (wpAny_standAt (wpAny_bind (wpAny_mono (turn n s hI) (fun r s₁ h₁ => ?_) fun _ _ h' => h')))
  cases r with
  | none => exact wpAny_pure h₁
  | some v =>
    refine wpAny_bind (wpAny_of_eq (ht v) ?_)
    refine wpAny_bind (wpAny_mono h₁ (fun _ s₂ h₂ => wpAny_bind (wpAny_mono h₂ (fun ok s₃ h₃ => ?_) fun _ _ h' => h')) fun _ _ h' => h')
    cases ok with
    | false => exact wpAny_pure ⟨rfl, h₃⟩
    | true =>
      exact wpAny_bind (wpAny_bind (wpAny_mono h₃ (fun x s₄ h₄ => wpAny_bind (wpAny_mono h₄ (fun _ s₅ h₅ => wpAny_pure (wpAny_pure ⟨rfl, h₅⟩)) fun _ _ h' => h')) fun _ _ h' => h'))
theorem codeAny_compStart_in {elt target iter : Expr} {ifs : List Expr} {g₁ : Comprehension} {scope : Scope} {pos : Pos} {it acc : Value} {env : Env}
    (h0 : codeAny (model prog w) A (.compLoop (.ListComp elt [g₁, ⟨target, iter, ifs, 0⟩] scope pos) 1 it acc env) R s)
    (h : wpAny (model prog w) A (pyIter it) (fun it' s' => codeAny (model prog w) A (.compLoop (.ListComp elt [g₁, ⟨target, iter, ifs, 0⟩] scope pos) 1 it' acc env) R s')
      (notedBy (model prog w) A env fun x s' => R (.error x) s') s) :
    codeAny (model prog w) A (.compStart (.ListComp elt [g₁, ⟨target, iter, ifs, 0⟩] scope pos) 1 it acc env) R s := by
  refine codeAny_of_tree ?_
  show wpAny _ _ ((compStart (.ListComp elt [g₁, ⟨target, iter, ifs, 0⟩] scope pos) 1 it acc env).onRaise (fun x => do noteFrame x env; standAt theWindowsPlace)) _ _ s
  refine wpAny_notedAt ?_
  unfold compStart
  show wpAny _ _ (ask >>= _) _ _ s
  refine wpAny_bind (wpAny_askSetting (wpAny_ite ?_))
  split
  · first
      | exact wpAny_bind (wpAny_pure (wpAny_pure (And.intro rfl h0)))
      | exact wpAny_pure (And.intro rfl h0)
  · first
      | exact wpAny_bind (wpAny_rule (wpAny_bind (wpAny_standAt (wpAny_bind (wpAny_mono h (fun it' s' h' => wpAny_pure (And.intro rfl h')) fun _ _ x => x)))))
      | (refine wpAny_bind (wpAny_rule ?_); show wpAny _ _ (standAt iter.pos >>= _) _ _ s; exact wpAny_bind (wpAny_standAt (wpAny_bind (wpAny_mono h (fun it' s' h' => wpAny_pure (And.intro rfl h')) fun _ _ x => x))))
theorem compTurn_out (elt target iter target₂ iter₂ : Expr) (ifs₂ : List Expr) (scope : Scope) (pos : Pos) (it acc : Value) (env : Env) :
    compTurn (.ListComp elt [⟨target, iter, [], 0⟩, ⟨target₂, iter₂, ifs₂, 0⟩] scope pos) 0 it acc env = (do
      standAt iter.pos
      match ← pyNext it with
      | none => pure (.done .next)
      | some v =>
        letOwnedTupleGo target it v
        assign target env v
        let x ← eval iter₂ env
        standAt iter₂.pos
        let x ← foldedSetIterable iter₂ env x
        let _ ← runOwn (.compStart (.ListComp elt [⟨target, iter, [], 0⟩, ⟨target₂, iter₂, ifs₂, 0⟩] scope pos) 1 (← holding [x] (pyIter x)) acc env) env
        again (.compLoop (.ListComp elt [⟨target, iter, [], 0⟩, ⟨target₂, iter₂, ifs₂, 0⟩] scope pos) 0 it acc env)) := by rfl
theorem codeAny_compLoop_out {elt target iter target₂ iter₂ : Expr} {ifs₂ : List Expr} {scope : Scope} {pos : Pos} {it acc : Value} {env : Env} (I : Nat → Shared → Prop)
    (turn : ∀ n s, I n s → wpAny (model prog w) A (pyNext it) (fun r s₁ => match r with
      | none => R (.ok .next) s₁
      | some v => wpAny (model prog w) A (assign target env v) (fun _ s₂ => wpAny (model prog w) A (eval iter₂ env) (fun x s₃ => wpAny (model prog w) A (pyIter x) (fun it₂ s₄ =>
          codeAny (model prog w) A (.compStart (.ListComp elt [⟨target, iter, [], 0⟩, ⟨target₂, iter₂, ifs₂, 0⟩] scope pos) 1 it₂ acc env) (fun r s₅ => match r with
            | .ok _ => ∃ m, m < n ∧ I m s₅
            | .error e => cameBackBy (model prog w) A env (notedBy (model prog w) A env fun e s' => R (.error e) s') e s₅) s₄)
          (notedBy (model prog w) A env fun e s' => R (.error e) s') s₃) (notedBy (model prog w) A env fun e s' => R (.error e) s') s₂) (notedBy (model prog w) A env fun e s' => R (.error e) s') s₁) (notedBy (model prog w) A env fun e s' => R (.error e) s') s)
    (n : Nat) (h : I n s) (hs : ∀ x, foldedSetIterable iter₂ env x = pure x) (ht : ∀ v, letOwnedTupleGo target it v = pure () := by intro _; rfl) :
    codeAny (model prog w) A (.compLoop (.ListComp elt [⟨target, iter, [], 0⟩, ⟨target₂, iter₂, ifs₂, 0⟩] scope pos) 0 it acc env) R s := by
  refine codeAny_loop rfl I (fun n s hI => ?_) n h
  show wpAny _ A ((compTurn (.ListComp elt [⟨target, iter, [], 0⟩, ⟨target₂, iter₂, ifs₂, 0⟩] scope pos) 0 it acc env).onRaise (fun x => do noteFrame x env; theTreesLotGoes x)) _ _ s
  refine wpAny_noted ?_
  rw [compTurn_out]
  refine wpAny_bind (wpAny_standAt (wpAny_bind (wpAny_mono (turn n s hI) (fun r s₁ h₁ => ?_) fun _ _ h' => h')))
  cases r with
  | none => exact wpAny_pure h₁
  | some v =>
    refine wpAny_bind (wpAny_of_eq (ht v) ?_)
    refine wpAny_bind (wpAny_mono h₁ (fun _ s₂ h₂ => wpAny_bind (wpAny_mono h₂ (fun x s₃ h₃ => ?_) fun _ _ h' => h')) fun _ _ h' => h')
    refine wpAny_bind (wpAny_standAt (wpAny_bind (wpAny_of_eq (hs x) ?_)))
    refine wpAny_bind (wpAny_holding (wpAny_mono h₃ (fun it₂ s₄ h₄ => ?_) fun _ _ h' => h'))
    refine wpAny_bind (wpAny_runOwn ?_)
    rw [Around.mark_none]
    refine codeAny_mono h₄ fun r s₅ h₅ => ?_
    cases r with
    | ok f => exact wpAny_pure ⟨rfl, h₅⟩
    | error e => exact h₅
end
end Mine
namespace Mine
open LCg LCt
/-- what stands behind a turn of the inner loop of a comprehension with two -/
def InEnd (h₀ : Heap) (L : Addr) (m : Str → Option Value) (s₁ : Shared) (I : Addr) (oI : Obj) (I₂ : Addr) (oI₂ : Obj) (C : Addr) (oC : Obj) (D : Addr) (oD : Obj) (rest : Value → Led → Prop) (y : Value) (s₂ : Shared) : Prop :=
  ∃ h' tk news', s₂ = { s₁ with heap := h', toks := tk } ∧ Fr h₀ L h' m ∧ News h₀ L h' ((I, oI) :: (I₂, oI₂) :: (C, oC) :: (D, oD) :: news') ∧ Off3 I C D news' ∧ Off3 I₂ C D news' ∧ rest y news'
theorem InEnd.intro {h₀ : Heap} {L I I₂ C D : Addr} {m : Str → Option Value} {s₁ : Shared} {oI oI₂ oC oD : Obj} {rest : Value → Led → Prop} {y : Value} {h' : Heap} {tk : Nat} {all : Led}
    (F : Fr h₀ L h' m) (N : News h₀ L h' all) (news' : Led) (sub : ∀ p ∈ (I, oI) :: (I₂, oI₂) :: (C, oC) :: (D, oD) :: news', p ∈ all) (off : Off3 I C D news') (off₂ : Off3 I₂ C D news') (r : rest y news') :
    InEnd h₀ L m s₁ I oI I₂ oI₂ C oC D oD rest y { s₁ with heap := h', toks := tk } := ⟨h', tk, news', rfl, F, fun p hp => N p (sub p hp), off, off₂, r⟩
/-- the range that the inner loop goes over -/
def SrcIn (h₀ : Heap) (L : Addr) (m : Str → Option Value) (s₁ : Shared) (all : Led) (lo : Int) (cnt : Nat) (xv : Value) (s₂ : Shared) : Prop :=
  ∃ r b t u v h' tk, xv = .ref r ∧ s₂ = { s₁ with heap := h', toks := tk } ∧ IsRange h' r lo b 1 t u v ∧ Builtin.Range.small lo b 1 = true ∧ Builtin.Range.rangeSize lo b 1 = ((cnt : Nat) : Int) ∧ Fr h₀ L h' m ∧ News h₀ L h' all
theorem SrcIn.intro {h₀ : Heap} {L : Addr} {m : Str → Option Value} {s₁ : Shared} {all all' : Led} {lo b : Int} {cnt : Nat} {r : Addr} {t u v : Tok} {h' : Heap} {tk : Nat} (hr : IsRange h' r lo b 1 t u v) (hsm : Builtin.Range.small lo b 1 = true) (hn : Builtin.Range.rangeSize lo b 1 = ((cnt : Nat) : Int))
    (F : Fr h₀ L h' m) (N : News h₀ L h' all') (sub : ∀ p ∈ all, p ∈ all') : SrcIn h₀ L m s₁ all lo cnt (.ref r) { s₁ with heap := h', toks := tk } := ⟨r, b, t, u, v, h', tk, rfl, rfl, hr, hsm, hn, F, fun p hp => N p (sub p hp)⟩
abbrev itAt (lo : Int) (cnt j : Nat) : Obj := { cls := .type "range_iterator", dict := none, data := .fields #[rawInt (lo + (j : Nat) * 1), rawInt ((cnt : Int) - (j : Nat)), rawInt 1], slots := #[] }
section
variable {prog : Program} {w : World} {A : Around} {E : Value → Shared → Prop} {s : Shared} {h₀ : Heap} {L : Addr} {m : Str → Option Value} {env : Env}
theorem off3_swap {I C D I₂ : Addr} {l : Led} (h : Off3 I C D l) (h2 : ∀ p ∈ l, p.1 ≠ I₂) : Off3 I₂ C D l := Off3.of fun p hp => ⟨h2 p hp, (h.mem p hp).2.1, (h.mem p hp).2.2⟩
/-- the inner loop -/
theorem inner_2 {elt iter₂ : Expr} {x y : Str} {py : Pos} {ifs : List Expr} {g₁ : Comprehension} {scope : Scope} {cl : List (Str × Addr)} {pos : Pos} {I I₂ C D : Addr} {oI : Obj} {i : Nat} {t : Tok} (lo : Int) (cnt : Nat) (K : Nat → List Value → Led → Prop)
    (hh : A.handled = none) (hkind : scope.kind = .function) (hy : scope.names.lookup y = some .local) (hxy : x ≠ y)
    (inner : ∀ j ys G t' oI₂ oC m₂ h tk (E' : Value → Shared → Prop), j < cnt → K j ys G → NsObj oC m₂ → m₂ x = some (.int (i : Int) t) → m₂ y = some (.int (lo + (j : Int)) t') → Fr h₀ L h m →
      News h₀ L h ((I, oI) :: (I₂, oI₂) :: (C, oC) :: (D, lst ys) :: G) → Off3 I C D G → Off3 I₂ C D G →
      wpAny (model prog w) A (forIn ifs true fun c r => if r = true then do let ok ← isTrue c (compEnvC scope cl C env) (eval c (compEnvC scope cl C env)); pure (ForInStep.yield ok) else pure (ForInStep.yield r)) (fun ok s' => if ok = true then
        wpAny (model prog w) A (eval elt (compEnvC scope cl C env)) (InEnd h₀ L m { s with heap := h, toks := tk } I oI I₂ oI₂ C oC D (lst ys) (fun y G' => K (j + 1) (ys ++ [y]) G')) E' s'
        else InEnd h₀ L m { s with heap := h, toks := tk } I oI I₂ oI₂ C oC D (lst ys) (fun _ G' => K (j + 1) ys G') Value.none s') E' { s with heap := h, toks := tk })
    (hsz : ∀ j ys G, j < cnt → K j ys G → ys.length ≤ 1000) {R : Result → Shared → Prop}
    (hne : ((@Ne Nat I C) ∧ (@Ne Nat I D) ∧ (@Ne Nat C D)) ∧ ((@Ne Nat I₂ C) ∧ (@Ne Nat I₂ D) ∧ (@Ne Nat I I₂))) (hCL : C ≠ L) (hDL : D ≠ L) (hC₀ : h₀.get? C = none) (hD₀ : h₀.get? D = none) (hI₂ : I₂ ≠ L) (hI₂₀ : h₀.get? I₂ = none)
    (fin : ∀ ys G oC m₂ h tk, K cnt ys G → NsObj oC m₂ → m₂ x = some (.int (i : Int) t) → Fr h₀ L h m → News h₀ L h ((I, oI) :: (C, oC) :: (D, lst ys) :: G) → Off3 I C D G → R (.ok .next) { s with heap := h, toks := tk })
    {ys : List Value} {G : Led} {oI₂ oC : Obj} {m₂ : Str → Option Value} {h : Heap} {tk : Nat} (h0 : K 0 ys G) (hC : NsObj oC m₂) (hx : m₂ x = some (.int (i : Int) t)) (F : Fr h₀ L h m) (N : News h₀ L h ((I, oI) :: (I₂, oI₂) :: (C, oC) :: (D, lst ys) :: G)) (off : Off3 I C D G) (off₂ : Off3 I₂ C D G)
    (hit : IsRangeIter h I₂ (lo + ((0 : Nat) : Int) * 1) ((cnt : Int) - ((0 : Nat) : Int)) 1) :
    codeAny (model prog w) A (.compStart (.ListComp elt [g₁, ⟨.Name y py, iter₂, ifs, 0⟩] scope pos) 1 (.ref I₂) (.ref D) (compEnvC scope cl C env)) R { s with heap := h, toks := tk } := by
  obtain ⟨⟨n1, n2, n3⟩, n4, n5, n6⟩ := hne
  have W := range_walks (prog := prog) (w := w) (I := I₂) hh lo cnt
  have loop : codeAny (model prog w) A (.compLoop (.ListComp elt [g₁, ⟨.Name y py, iter₂, ifs, 0⟩] scope pos) 1 (.ref I₂) (.ref D) (compEnvC scope cl C env)) R { s with heap := h, toks := tk } := by
    refine codeAny_compLoop_in
      (fun k s' => ∃ j h' tk' ys' G' oI₂' oC' m', s' = { s with heap := h', toks := tk' } ∧ j ≤ cnt ∧ k = cnt + 1 - j ∧ K j ys' G' ∧ NsObj oC' m' ∧ m' x = some (.int (i : Int) t) ∧ Fr h₀ L h' m ∧
        News h₀ L h' ((I, oI) :: (I₂, oI₂') :: (C, oC') :: (D, lst ys') :: G') ∧ Off3 I C D G' ∧ Off3 I₂ C D G' ∧ IsRangeIter h' I₂ (lo + (j : Nat) * 1) ((cnt : Int) - (j : Nat)) 1) ?_ (cnt + 1)
      ⟨0, h, tk, ys, G, oI₂, oC, m₂, rfl, Nat.zero_le _, rfl, h0, hC, hx, F, N, off, off₂, hit⟩
    rintro k s' ⟨j, h', tk', ys', G', oI₂', oC', m', rfl, hj, rfl, hK, hC', hx', F', N', off', off₂', hit'⟩
    have zC := (N' (C, oC') (.tail _ (.tail _ (.head _)))).1
    have rest : ∀ {h₂ : Heap}, (∀ b o, b ∉ [I₂] → h'.get? b = some o → h₂.get? b = some o) → News h₀ L h₂ ((I, oI) :: (C, oC') :: (D, lst ys') :: G') := fun hk p hp => by
      have hp' : p ∈ (I, oI) :: (I₂, oI₂') :: (C, oC') :: (D, lst ys') :: G' := by
        rcases List.mem_cons.mp hp with e | hp
        · exact e ▸ .head _
        · exact .tail _ (.tail _ hp)
      refine ⟨hk _ _ ?_ (N' p hp').1, (N' p hp').2⟩
      simp only [List.mem_singleton]
      rcases List.mem_cons.mp hp with rfl | hp
      · exact n6
      rcases List.mem_cons.mp hp with rfl | hp
      · exact Ne.symm n4
      rcases List.mem_cons.mp hp with rfl | hp
      · exact Ne.symm n5
      exact (off₂'.mem p hp).1
    by_cases hlt : j < cnt
    · refine W.item j _ _ _ hlt hit' fun v h₂ tk₂ hPv hst₂ hk₂ => ?_
      obtain ⟨t', rfl⟩ := hPv
      refine wpAny_assign_Name (wpAny_storeName_local (lookup_relabel_local hy) ((hC'.ns zC).at' fun o e => hk₂ _ o (by simpa using Ne.symm n4) e) (fun h₃ hn₃ hs₃ => ?_) (by simp [compEnvC, relabel, hkind]))
      have hst₃ : IsRangeIter h₃ I₂ (lo + ((j + 1 : Nat) : Int) * 1) ((cnt : Int) - ((j + 1 : Nat) : Int)) 1 := hs₃.extBut _ _ n4 hst₂
      obtain ⟨oC₃, heC, hoC⟩ := ns_obj hn₃
      have F₂ : Fr h₀ L h₂ m := fr_but F' hk₂ (Ne.symm hI₂) hI₂₀
      have F₃ : Fr h₀ L h₃ m := F₂.change hs₃ hCL hC₀
      have N₂ := rest hk₂
      have N₃ : News h₀ L h₃ ((I, oI) :: (I₂, itAt lo cnt (j + 1)) :: (C, oC₃) :: (D, lst ys') :: G') := fun p hp => by
        rcases List.mem_cons.mp hp with rfl | hp
        · have z := N₂ _ (.head _)
          exact ⟨hs₃.extBut _ _ n1 z.1, z.2⟩
        rcases List.mem_cons.mp hp with rfl | hp
        · exact ⟨hst₃, hI₂, hI₂₀⟩
        rcases List.mem_cons.mp hp with rfl | hp
        · exact ⟨heC, hCL, hC₀⟩
        have z := N₂ p (.tail _ (.tail _ hp))
        refine ⟨hs₃.extBut _ _ ?_ z.1, z.2⟩
        rcases List.mem_cons.mp hp with rfl | hp
        · exact Ne.symm n3
        · exact (off'.mem p hp).2.1
      refine wpAny_mono (inner j ys' G' t' _ oC₃ _ h₃ _ _ hlt hK hoC (by simp [hxy, hx']) (by simp) F₃ N₃ off' off₂') (fun ok s₄ h₄ => ?_) fun _ _ e => e
      cases ok with
      | true =>
        simp only [if_true] at h₄ ⊢
        refine wpAny_mono h₄ (fun yv s₅ h₅ => ?_) fun _ _ e => e
        obtain ⟨h₄, tk₄, G₄, rfl, F₄, N₄, off₄, off₅, K₄⟩ := h₅
        have zI := (N₄ _ (.head _)).1
        have zI₂ := (N₄ _ (.tail _ (.head _))).1
        have zC := (N₄ _ (.tail _ (.tail _ (.head _)))).1
        have zD := (N₄ _ (.tail _ (.tail _ (.tail _ (.head _))))).1
        refine append_at (hsz := by show ys'.toArray.size ≤ sizeLine; rw [List.size_toArray]; exact Nat.le_trans (hsz j ys' G' hlt hK) (by decide)) zD fun h₅ hs₅ hD₅ => ?_
        refine ⟨cnt + 1 - (j + 1), by omega, j + 1, h₅, tk₄, ys' ++ [yv], G₄, itAt lo cnt (j + 1), oC₃, _, rfl, hlt, rfl, K₄, hoC, by simp [hxy, hx'], F₄.change hs₅ hDL hD₀, fun p hp => ?_, off₄, off₅, ?_⟩
        · rcases List.mem_cons.mp hp with rfl | hp
          · exact ⟨hs₅.extBut _ _ n2 zI, (N₄ _ (.head _)).2⟩
          rcases List.mem_cons.mp hp with rfl | hp
          · exact ⟨hs₅.extBut _ _ n5 zI₂, (N₄ _ (.tail _ (.head _))).2⟩
          rcases List.mem_cons.mp hp with rfl | hp
          · exact ⟨hs₅.extBut _ _ n3 zC, hCL, hC₀⟩
          rcases List.mem_cons.mp hp with rfl | hp
          · exact ⟨hD₅.trans (congrArg some (lst_snoc ys' yv)), hDL, hD₀⟩
          have z := N₄ p (.tail _ (.tail _ (.tail _ (.tail _ hp))))
          exact ⟨hs₅.extBut _ _ (off₄.mem p hp).2.2 z.1, z.2⟩
        · exact hs₅.extBut _ _ n5 zI₂
      | false =>
        simp only [Bool.false_eq_true, if_false] at h₄ ⊢
        obtain ⟨h₄, tk₄, G₄, rfl, F₄, N₄, off₄, off₅, K₄⟩ := h₄
        have zI₂ := (N₄ _ (.tail _ (.head _))).1
        exact ⟨cnt + 1 - (j + 1), by omega, j + 1, h₄, tk₄, ys', G₄, itAt lo cnt (j + 1), oC₃, _, rfl, hlt, rfl, K₄, hoC, by simp [hxy, hx'], F₄, N₄, off₄, off₅, zI₂⟩
    · obtain rfl : j = cnt := Nat.le_antisymm hj (Nat.not_lt.mp hlt)
      refine W.done _ _ _ hit' fun h₂ tk₂ hk₂ => ?_
      exact fin ys' G' oC' m' h₂ tk₂ hK hC' hx' (fr_but F' hk₂ (Ne.symm hI₂) hI₂₀) (rest hk₂) off'
  exact codeAny_compStart_in loop (W.self 0 _ _ _ hit loop)
end
end Mine
namespace Mine
open LCg LCt
section
variable {prog : Program} {w : World} {A : Around} {E : Value → Shared → Prop} {s : Shared} {h₀ : Heap} {L : Addr} {m : Str → Option Value} {env : Env}
/-- what a comprehension with two loops over ranges wants to know -/
structure Two (prog : Program) (w : World) (A : Around) (h₀ : Heap) (L : Addr) (m : Str → Option Value) (env : Env) (elt iter₂ : Expr) (x y : Str) (ifs : List Expr) (scope : Scope) (cl : List (Str × Addr)) (s : Shared) (n : Nat) (lo : Nat → Int) (cnt : Nat → Nat)
    (J : Nat → List Value → Led → Prop) (K : Nat → Nat → List Value → Led → Prop) (Fin : List Value → Led → Prop) : Prop where
  outer : ∀ i ys G t I oI C oC D m₂ h tk (E' : Value → Shared → Prop), i < n → J i ys G → NsObj oC m₂ → m₂ x = some (.int (i : Int) t) → Fr h₀ L h m → News h₀ L h ((I, oI) :: (C, oC) :: (D, lst ys) :: G) → Off3 I C D G → ((@Ne Nat I C) ∧ (@Ne Nat I D) ∧ (@Ne Nat C D)) →
      wpAny (model prog w) A (eval iter₂ (compEnvC scope cl C env)) (SrcIn h₀ L m { s with heap := h, toks := tk } ((I, oI) :: (C, oC) :: (D, lst ys) :: G) (lo i) (cnt i)) E' { s with heap := h, toks := tk }
  start : ∀ i ys G, i < n → J i ys G → K i 0 ys G
  inner : ∀ i j ys G t t' I oI I₂ oI₂ C oC D m₂ h tk (E' : Value → Shared → Prop), i < n → j < cnt i → K i j ys G → NsObj oC m₂ → m₂ x = some (.int (i : Int) t) → m₂ y = some (.int (lo i + (j : Int)) t') → Fr h₀ L h m →
      News h₀ L h ((I, oI) :: (I₂, oI₂) :: (C, oC) :: (D, lst ys) :: G) → Off3 I C D G → Off3 I₂ C D G → ((@Ne Nat I C) ∧ (@Ne Nat I D) ∧ (@Ne Nat C D)) ∧ ((@Ne Nat I₂ C) ∧ (@Ne Nat I₂ D) ∧ (@Ne Nat I I₂)) →
      wpAny (model prog w) A (forIn ifs true fun c r => if r = true then do let ok ← isTrue c (compEnvC scope cl C env) (eval c (compEnvC scope cl C env)); pure (ForInStep.yield ok) else pure (ForInStep.yield r)) (fun ok s' => if ok = true then
        wpAny (model prog w) A (eval elt (compEnvC scope cl C env)) (InEnd h₀ L m { s with heap := h, toks := tk } I oI I₂ oI₂ C oC D (lst ys) (fun y G' => K i (j + 1) (ys ++ [y]) G')) E' s'
        else InEnd h₀ L m { s with heap := h, toks := tk } I oI I₂ oI₂ C oC D (lst ys) (fun _ G' => K i (j + 1) ys G') Value.none s') E' { s with heap := h, toks := tk }
  size : ∀ i j ys G, i < n → j < cnt i → K i j ys G → ys.length ≤ 1000
  next : ∀ i ys G, i < n → K i (cnt i) ys G → J (i + 1) ys G
  fin : ∀ ys G, J n ys G → Fin ys G
theorem block_2 {elt iter iter₂ : Expr} {x y : Str} {px py : Pos} {ifs : List Expr} {scope : Scope} {cl : List (Str × Addr)} {pos : Pos} {s₂ : Shared} {I : Addr} {n : Nat} {lo : Nat → Int} {cnt : Nat → Nat} {J : Nat → List Value → Led → Prop} {K : Nat → Nat → List Value → Led → Prop} {news : Led}
    {Fin : List Value → Led → Prop} {RR : Value → Addr → Result → Shared → Prop} (hh : A.handled = none) (T : Two prog w A h₀ L m env elt iter₂ x y ifs scope cl s₂ n lo cnt J K Fin)
    (hcell : ∀ y ∈ scope.names, y.2 ≠ .cell) (hkind : scope.kind = .function) (hx : scope.names.lookup x = some .local) (hy : scope.names.lookup y = some .local) (hxy : x ≠ y)
    (hst : IsRangeIter s₂.heap I (0 + ((0 : Nat) : Int) * 1) ((n : Int) - ((0 : Nat) : Int)) 1)
    (F : Fr h₀ L s₂.heap m) (N : News h₀ L s₂.heap news) (hIL : L ≠ I) (hI₀ : h₀.get? I = none) (off : ∀ p ∈ news, p.1 ≠ I) (h0 : J 0 [] news)
    (hs2 : ∀ (env : Env) (x : Value), foldedSetIterable iter₂ env x = pure x)
    (hRR : ∀ D C h tk m' ys news', Fr h₀ L h m → News h₀ L h ((D, lst ys) :: news') → Off1 D news' → h.Ns C m' → h₀.get? C = none → h₀.get? D = none → C ≠ L → D ≠ L → C ≠ D → (∀ p ∈ news', p.1 ≠ C) → Fin ys news' → RR (.ref D) C (.ok .next) { s₂ with heap := h, toks := tk }) :
    wpAny (model prog w) A (newList []) (fun acc s₃ => wpAny (model prog w) A (newFunctionEnv scope env.globals cl [] env.qual none .none (some env)) (fun cenv s₄ =>
      codeAny (model prog w) A (.compStart (.ListComp elt [⟨.Name x px, iter, [], 0⟩, ⟨.Name y py, iter₂, ifs, 0⟩] scope pos) 0 (.ref I) acc { cenv with scope := relabel scope env }) (RR acc cenv.locals) s₄) E s₃) E s₂ := by
  have W := range_walks (prog := prog) (w := w) (I := I) hh 0 n
  refine wpAny_newObj_type (wpAny_newFunctionEnv hcell (by intro y hy; simp at hy) (fun h₁ hns₁ hsb₁ => ?_) hkind)
  dsimp only at hns₁ hsb₁ ⊢
  generalize hH2 : s₂.heap.push { cls := .type "list", dict := none, data := .seq ([] : List Value).toArray } = H2 at hns₁ hsb₁ ⊢
  have hC : H2.objs.size = s₂.heap.objs.size + 1 := by rw [← hH2, Heap.size_push]
  have hDC : s₂.heap.objs.size ≠ H2.objs.size := by rw [hC]; exact Nat.ne_of_lt (Nat.lt_succ_self _)
  have below : ∀ b, b < s₂.heap.objs.size → b ≠ H2.objs.size ∧ b ≠ s₂.heap.objs.size := fun b hb => ⟨by rw [hC]; exact Nat.ne_of_lt (Nat.lt_succ_of_lt hb), Nat.ne_of_lt hb⟩
  have hIlt : I < s₂.heap.objs.size := Heap.lt_size hst
  have old : ∀ b o, s₂.heap.get? b = some o → h₁.get? b = some o := fun b o e => hsb₁.extBut b o (below b (Heap.lt_size e)).1 (Heap.get?_push_of_some _ (hH2 ▸ Heap.get?_push_of_some _ e))
  have hacc : h₁.get? s₂.heap.objs.size = some (lst []) := hsb₁.extBut _ _ hDC (Heap.get?_push_of_some _ (hH2 ▸ Heap.get?_push_size _ rfl))
  have hst₁ : IsRangeIter h₁ I (0 + ((0 : Nat) : Int) * 1) ((n : Int) - ((0 : Nat) : Int)) 1 := old _ _ hst
  have fresh : ∀ a, s₂.heap.objs.size ≤ a → s₂.heap.get? a = none := fun a ha => by
    cases e : s₂.heap.get? a with
    | none => rfl
    | some o' => exact absurd (Heap.lt_size e) (Nat.not_lt.mpr ha)
  have fresh₀ : ∀ a, s₂.heap.objs.size ≤ a → h₀.get? a = none := fun a ha => by
    cases e : h₀.get? a with
    | none => rfl
    | some o' => have := F.keep a o' e; rw [fresh a ha] at this; cases this
  have hD₀ : h₀.get? s₂.heap.objs.size = none := fresh₀ _ (Nat.le_refl _)
  have hC₀ : h₀.get? H2.objs.size = none := fresh₀ _ (by rw [hC]; exact Nat.le_succ _)
  have hLlt : L < s₂.heap.objs.size := F.ns.lt
  have hDL : s₂.heap.objs.size ≠ L := Ne.symm (below L hLlt).2
  have hCL : H2.objs.size ≠ L := Ne.symm (below L hLlt).1
  have hCI : I ≠ H2.objs.size := (below I hIlt).1
  have hDI : I ≠ s₂.heap.objs.size := (below I hIlt).2
  have off₀ : Off3 I H2.objs.size s₂.heap.objs.size news := Off3.of fun p hp => ⟨off p hp, (below _ (Heap.lt_size (N p hp).1)).1, (below _ (Heap.lt_size (N p hp).1)).2⟩
  have loop : ∀ s₃ : Shared, s₃ = { s₂ with heap := h₁, toks := s₂.toks + ([] : List (Str × Value)).length } →
      codeAny (model prog w) A (.compLoop (.ListComp elt [⟨.Name x px, iter, [], 0⟩, ⟨.Name y py, iter₂, ifs, 0⟩] scope pos) 0 (.ref I) (.ref s₂.heap.objs.size) (compEnvC scope cl H2.objs.size env))
        (RR (.ref s₂.heap.objs.size) H2.objs.size) s₃ := by
    rintro s₃ rfl
    refine codeAny_compLoop_out
      (fun k s' => ∃ i h' tk ys m' news', s' = { s₂ with heap := h', toks := tk } ∧ i ≤ n ∧ k = n + 1 - i ∧ IsRangeIter h' I (0 + (i : Nat) * 1) ((n : Int) - (i : Nat)) 1 ∧ Fr h₀ L h' m ∧ h'.Ns H2.objs.size m' ∧ News h₀ L h' ((s₂.heap.objs.size, lst ys) :: news') ∧
        Off3 I H2.objs.size s₂.heap.objs.size news' ∧ J i ys news') ?_ (n + 1)
      ⟨0, h₁, _, [], _, news, rfl, Nat.zero_le _, rfl, hst₁, F.keeps old, hns₁, fun p hp => ?_, off₀, h0⟩ (hs2 _)
    · rintro k s' ⟨i, h', tk, ys, m', news', rfl, hi, rfl, hst', F', hn', N', off', hJ⟩
      by_cases hlt : i < n
      · refine W.item i _ _ _ hlt hst' fun v h₂ tk₂ hPv hst₂ hk₂ => ?_
        obtain ⟨t, rfl⟩ := hPv
        rw [Int.zero_add]
        refine wpAny_assign_Name (wpAny_storeName_local (lookup_relabel_local hx) (hn'.at' fun o e => hk₂ _ o (by simpa using Ne.symm hCI) e) (fun h₃ hn₃ hs₃ => ?_) (by simp [compEnvC, relabel, hkind]))
        have hst₃ : IsRangeIter h₃ I (0 + ((i + 1 : Nat) : Int) * 1) ((n : Int) - ((i + 1 : Nat) : Int)) 1 := hs₃.extBut _ _ hCI hst₂
        obtain ⟨oC, heC, hoC⟩ := ns_obj hn₃
        have F₃ : Fr h₀ L h₃ m := (fr_but F' hk₂ hIL hI₀).change hs₃ hCL hC₀
        have off3 := off'.mem
        have N₂ : News h₀ L h₂ ((s₂.heap.objs.size, lst ys) :: news') := news_but N' hk₂ fun p hp => by
          rcases List.mem_cons.mp hp with rfl | hp
          · exact Ne.symm hDI
          · exact (off3 p hp).1
        have N₃ : News h₀ L h₃ ((I, itAt 0 n (i + 1)) :: (H2.objs.size, oC) :: (s₂.heap.objs.size, lst ys) :: news') := fun p hp => by
          rcases List.mem_cons.mp hp with rfl | hp
          · exact ⟨hst₃, Ne.symm hIL, hI₀⟩
          · rcases List.mem_cons.mp hp with rfl | hp
            · exact ⟨heC, hCL, hC₀⟩
            · have z := N₂ p hp
              refine ⟨hs₃.extBut _ _ ?_ z.1, z.2⟩
              rcases List.mem_cons.mp hp with rfl | hp
              · exact hDC
              · exact (off3 p hp).2.1
        refine wpAny_mono (T.outer i ys news' t I _ H2.objs.size oC s₂.heap.objs.size _ h₃ _ _ hlt hJ hoC (by simp) F₃ N₃ off' ⟨hCI, hDI, Ne.symm hDC⟩) (fun xv s₄ h₄ => ?_) fun _ _ e => e
        obtain ⟨r, b, tr, ur, vr, h₄, tk₄, rfl, rfl, hr, hsm, hn, F₄, N₄⟩ := h₄
        refine wpAny_pyIter_range hr hsm ?_
        rw [hn]
        have zC := (N₄ (H2.objs.size, oC) (.tail _ (.head _))).1
        have zI := (N₄ _ (.head _)).1
        have zD := (N₄ (s₂.heap.objs.size, lst ys) (.tail _ (.tail _ (.head _)))).1
        refine inner_2 (s := s₂) (oI := itAt 0 n (i + 1)) (K := K i) (lo i) (cnt i) hh hkind hy hxy (fun j ys G t' oI₂ oC m₂ h tk E' hj hK hC hx hy F N off off₂ => T.inner i j ys G t t' I _ _ oI₂ _ oC _ m₂ h tk E' hlt hj hK hC hx hy F N off off₂ ?_) (fun j ys G hj hK => T.size i j ys G hlt hj hK)
          ⟨⟨hCI, hDI, Ne.symm hDC⟩, Ne.symm (Nat.ne_of_lt (Heap.lt_size zC)), Ne.symm (Nat.ne_of_lt (Heap.lt_size zD)), Nat.ne_of_lt (Heap.lt_size zI)⟩ hCL hDL hC₀ hD₀ (Ne.symm (Nat.ne_of_lt F₄.ns.lt)) (next_is_new F₄) ?_
          (oI₂ := itAt (lo i) (cnt i) 0) (T.start i ys news' hlt hJ) hoC (by simp) (F₄.push _) (fun p hp => ?_) off' (off3_swap off' fun p hp => Nat.ne_of_lt (Heap.lt_size (N₄ p (.tail _ (.tail _ (.tail _ hp)))).1)) ?_
        · exact ⟨⟨hCI, hDI, Ne.symm hDC⟩, Ne.symm (Nat.ne_of_lt (Heap.lt_size zC)), Ne.symm (Nat.ne_of_lt (Heap.lt_size zD)), Nat.ne_of_lt (Heap.lt_size zI)⟩
        · intro ys₅ G₅ oC₅ m₅ h₅ tk₅ hK hC₅ hx₅ F₅ N₅ off₅
          refine ⟨n + 1 - (i + 1), by omega, i + 1, h₅, tk₅, ys₅, m₅, G₅, rfl, hlt, rfl, (N₅ _ (.head _)).1, F₅, hC₅.ns (N₅ _ (.tail _ (.head _))).1, fun p hp => N₅ p (.tail _ (.tail _ hp)), off₅, T.next i ys₅ G₅ hlt hK⟩
        · have up : ∀ q ∈ (I, itAt 0 n (i + 1)) :: (H2.objs.size, oC) :: (s₂.heap.objs.size, lst ys) :: news', (h₄.push { cls := .type "range_iterator", data := .fields #[rawInt (lo i), rawInt ((cnt i : Nat) : Int), rawInt 1] }).get? q.1 = some q.2 ∧ q.1 ≠ L ∧ h₀.get? q.1 = none := fun q hq => ⟨Heap.get?_push_of_some _ (N₄ q hq).1, (N₄ q hq).2⟩
          rcases List.mem_cons.mp hp with rfl | hp
          · exact up _ (.head _)
          rcases List.mem_cons.mp hp with rfl | hp
          · refine ⟨?_, Ne.symm (Nat.ne_of_lt F₄.ns.lt), next_is_new F₄⟩
            have : (h₄.push { cls := .type "range_iterator", data := .fields #[rawInt (lo i), rawInt ((cnt i : Nat) : Int), rawInt 1] }).get? h₄.objs.size = some { cls := .type "range_iterator", data := .fields #[rawInt (lo i), rawInt ((cnt i : Nat) : Int), rawInt 1] } := Heap.get?_push_size _ rfl
            simpa [itAt] using this
          · exact up _ (.tail _ hp)
        · have : (h₄.push { cls := .type "range_iterator", data := .fields #[rawInt (lo i), rawInt ((cnt i : Nat) : Int), rawInt 1] }).get? h₄.objs.size = some { cls := .type "range_iterator", data := .fields #[rawInt (lo i), rawInt ((cnt i : Nat) : Int), rawInt 1] } := Heap.get?_push_size _ rfl
          simpa [itAt] using this
      · obtain rfl : i = n := Nat.le_antisymm hi (Nat.not_lt.mp hlt)
        refine W.done _ _ _ hst' fun h₂ tk₂ hk₂ => ?_
        have off3 := off'.mem
        exact hRR _ _ h₂ tk₂ _ ys news' (fr_but F' hk₂ hIL hI₀) (news_but N' hk₂ fun p hp => by
          rcases List.mem_cons.mp hp with rfl | hp
          · exact Ne.symm hDI
          · exact (off3 p hp).1) off'.one (hn'.at' fun o e => hk₂ _ o (by simpa using Ne.symm hCI) e) hC₀ hD₀ hCL hDL (Ne.symm hDC) (fun p hp => (off3 p hp).2.1) (T.fin ys news' hJ)
    · rcases List.mem_cons.mp hp with rfl | hp
      · exact ⟨hacc, hDL, hD₀⟩
      · exact ⟨old _ _ (N p hp).1, (N p hp).2⟩
  exact codeAny_compStart_list (loop _ rfl) (W.self 0 _ _ _ hst₁ (loop _ rfl))
/-- the range that the outer loop goes over -/
def SrcOut (prog : Program) (w : World) (A : Around) (h₀ : Heap) (L : Addr) (m : Str → Option Value) (env : Env) (elt iter₂ : Expr) (x y : Str) (ifs : List Expr) (scope : Scope) (cl : List (Str × Addr)) (Fin : Shared → List Value → Led → Prop) (xv : Value) (s₁ : Shared) : Prop :=
  ∃ r b t u v n lo cnt J K news, xv = .ref r ∧ A.handled = none ∧ Fr h₀ L s₁.heap m ∧ News h₀ L s₁.heap news ∧ IsRange s₁.heap r 0 b 1 t u v ∧ Builtin.Range.small 0 b 1 = true ∧ Builtin.Range.rangeSize 0 b 1 = ((n : Nat) : Int) ∧ J 0 [] news ∧
    ∀ s₂ : Shared, (∃ h, s₂ = { s₁ with heap := h }) → Two prog w A h₀ L m env elt iter₂ x y ifs scope cl s₂ n lo cnt J K (Fin s₂)
theorem SrcOut.intro {elt iter₂ : Expr} {x y : Str} {ifs : List Expr} {scope : Scope} {cl : List (Str × Addr)} {Fin : Shared → List Value → Led → Prop} {r : Addr} {b : Int} {t u v : Tok} {news : Led} {s₁ : Shared} (n : Nat) (lo : Nat → Int) (cnt : Nat → Nat) (J : Nat → List Value → Led → Prop) (K : Nat → Nat → List Value → Led → Prop)
    (hh : A.handled = none) (F : Fr h₀ L s₁.heap m) (N : News h₀ L s₁.heap news) (hr : IsRange s₁.heap r 0 b 1 t u v) (hsm : Builtin.Range.small 0 b 1 = true) (hn : Builtin.Range.rangeSize 0 b 1 = ((n : Nat) : Int)) (h0 : J 0 [] news)
    (h : ∀ g, Two prog w A h₀ L m env elt iter₂ x y ifs scope cl { s₁ with heap := g } n lo cnt J K (Fin { s₁ with heap := g })) :
    SrcOut prog w A h₀ L m env elt iter₂ x y ifs scope cl Fin (.ref r) s₁ := ⟨r, b, t, u, v, n, lo, cnt, J, K, news, rfl, hh, F, N, hr, hsm, hn, h0, fun _ ⟨g, e⟩ => e ▸ h g⟩
theorem Assign_ListComp_2 {elt iter iter₂ : Expr} {x x₂ y : Str} {px px₂ py : Pos} {ifs : List Expr} {scope : Scope} {cl : List (Str × Addr)} {pos spos : Pos} {Q : Flow → Shared → Prop} (F₀ : Fr h₀ L s.heap m) (hLe : env.locals = L)
    (hsw : swapsWith (.ListComp elt [⟨.Name x px, iter, [], 0⟩, ⟨.Name x₂ px₂, iter₂, ifs, 0⟩] scope pos) (some (.Name y py)) spos.line env = pure true)
    (hclos : closureFor scope env = pure cl) (hcell : ∀ z ∈ scope.names, z.2 ≠ .cell) (hkind : scope.kind = .function)
    (hnames : ∀ z ∈ scope.names, z.2 = .local → scope.names.lookup z.1 = some .local) (hx : scope.names.lookup x = some .local) (hx₂ : scope.names.lookup x₂ = some .local) (hxy : x ≠ x₂)
    (hy : env.kindOf y = some .local) (hp : (env.scope.kind == .class || (env.scope.kind == .module && env.locals != env.globals)) = false)
    (h : wpAny (model prog w) A (eval iter env) (SrcOut prog w A h₀ L m env elt iter₂ x x₂ ifs scope cl (fun s₂ => FinA h₀ L m s₂ y Q)) E s)
    (hs : ∀ x, foldedSetIterable iter env x = pure x := by intro _; rfl) (hs2 : ∀ (env : Env) (x : Value), foldedSetIterable iter₂ env x = pure x := by intro _ _; rfl) :
    wpAny (model prog w) A (exec (.Assign [.Name y py] (.ListComp elt [⟨.Name x px, iter, [], 0⟩, ⟨.Name x₂ px₂, iter₂, ifs, 0⟩] scope pos) spos) env) Q E s := by
  subst hLe
  rw [exec_Assign_Name_used _ _ _ _ hsw]
  refine wpAny_bind (wpAny_standAt (wpAny_bind ?_))
  show wpAny _ A (do let _ ← comprehension (.ListComp elt [⟨.Name x px, iter, [], 0⟩, ⟨.Name x₂ px₂, iter₂, ifs, 0⟩] scope pos) scope env _ (newList []) false (eval iter env) (some (assign (.Name y py) env))) _ _ s
  refine wpAny_bind (wpAny_mono (wpAny_comprehension_free (use := some (assign (.Name y py) env)) (Q := fun _ s' => Q .next s') rfl hs hclos hkind hnames
    (wpAny_mono h (fun xv s₁ h₁ => ?_) fun _ _ e => e)) (fun _ s' hq => wpAny_pure (wpAny_pure hq)) fun _ _ e => e)
  obtain ⟨r, b, t, u, v, n, lo, cnt, J, K, news, rfl, hh, F, N, hr, hsm, hn, h0, T⟩ := h₁
  refine wpAny_pyIter_range hr hsm ?_
  refine block_2 hh (T _ ⟨_, rfl⟩) hcell hkind hx hx₂ hxy (by show IsRangeIter _ _ _ _ _; rw [hn]; simpa using Heap.get?_push_size _ rfl)
      (F.keeps fun _ _ e => Heap.get?_push_of_some _ e) (N.grown fun _ _ e => Heap.get?_push_of_some _ e) (Nat.ne_of_lt F.ns.lt) (next_is_new F) (fun p hp => Nat.ne_of_lt (Heap.lt_size (N p hp).1)) h0 hs2 ?_
  intro D C h' tk m' ys news' F' N' o1 hn hC₀ hD₀ hCL hDL hCD offC fin
  show wpAny _ A (assign (.Name y py) env (.ref D)) _ _ _
  refine wpAny_assign_Name (wpAny_storeName_local hy F'.ns (fun h₂ hn₂ hs₂ => ?_) hp)
  have hL₀ : h₀.get? env.locals = none := Heap.get?_none_of_le F'.above
  have F₂ : Fr h₀ env.locals h₂ (fun z => if z = y then some (.ref D) else m z) := ⟨hn₂, fun b o e => hs₂.extBut b o (fun q => by rw [q, hL₀] at e; cases e) (F'.keep b o e), F'.above⟩
  refine ⟨m', hn.sameBut hs₂ hCL, fun h'' hs'' => fin D h'' _ (F₂.change hs'' hCL hC₀) (fun p hp => ?_) o1⟩
  have z : h₂.get? p.1 = some p.2 := hs₂.extBut _ _ (N' p hp).2.1 (N' p hp).1
  refine ⟨hs''.extBut _ _ ?_ z, (N' p hp).2⟩
  rcases List.mem_cons.mp hp with rfl | hp
  · exact Ne.symm hCD
  · exact offC p hp
end
end Mine


namespace Mine
open LCg LCt
/-- what stands behind a turn of a comprehension over enumerate: the ledger stays -/
def EnEnd (h₀ : Heap) (L : Addr) (m : Str → Option Value) (s₁ : Shared) (all : Led) (R : Value → Prop) (y : Value) (s₂ : Shared) : Prop :=
  ∃ h' tk, s₂ = { s₁ with heap := h', toks := tk } ∧ Fr h₀ L h' m ∧ News h₀ L h' all ∧ R y
theorem EnEnd.intro {h₀ : Heap} {L : Addr} {m : Str → Option Value} {s₁ : Shared} {all all' : Led} {R : Value → Prop} {y : Value} {h' : Heap} {tk : Nat} (F : Fr h₀ L h' m) (N : News h₀ L h' all') (sub : ∀ p ∈ all, p ∈ all') (r : R y) :
    EnEnd h₀ L m s₁ all R y { s₁ with heap := h', toks := tk } := ⟨h', tk, rfl, F, fun p hp => N p (sub p hp), r⟩
def EnTurn (prog : Program) (w : World) (A : Around) (h₀ : Heap) (L : Addr) (m : Str → Option Value) (env : Env) (ct elt : Expr) (a b : Str) (scope : Scope) (cl : List (Str × Addr)) (s₂ : Shared) (items : Array Value) (news : Led) (I : Nat → List Value → Prop) : Prop :=
  ∀ i ys v t e oe it oi C oC D m₂ h tk (E' : Value → Shared → Prop), items[i]? = some v → I i ys → NsObj oC m₂ → m₂ a = some (.int (i : Int) t) → m₂ b = some v → Fr h₀ L h m → News h₀ L h ((e, oe) :: (it, oi) :: (C, oC) :: (D, lst ys) :: news) →
      Off3 e C D news → Off3 it C D news → ((@Ne Nat e C) ∧ (@Ne Nat e D) ∧ (@Ne Nat C D)) ∧ ((@Ne Nat it C) ∧ (@Ne Nat it D) ∧ (@Ne Nat e it)) →
      wpAny (model prog w) A (isTrue ct (compEnvC scope cl C env) (eval ct (compEnvC scope cl C env))) (fun ok s' => if ok = true then
        wpAny (model prog w) A (eval elt (compEnvC scope cl C env)) (EnEnd h₀ L m { s₂ with heap := h, toks := tk } ((e, oe) :: (it, oi) :: (C, oC) :: (D, lst ys) :: news) (fun y => I (i + 1) (ys ++ [y]))) E' s'
        else EnEnd h₀ L m { s₂ with heap := h, toks := tk } ((e, oe) :: (it, oi) :: (C, oC) :: (D, lst ys) :: news) (fun _ => I (i + 1) ys) Value.none s') E' { s₂ with heap := h, toks := tk }
section
variable {prog : Program} {w : World} {A : Around} {E : Value → Shared → Prop} {s : Shared} {h₀ : Heap} {L : Addr} {m : Str → Option Value} {env : Env}
theorem block_E {ct elt iter : Expr} {a b : Str} {pa pb tp : Pos} {kk : Nat} {scope : Scope} {cl : List (Str × Addr)} {pos : Pos} {s₂ : Shared} {e it l : Addr} {items : Array Value} {n : Nat} {news : Led} {I : Nat → List Value → Prop}
    {RR : Value → Addr → Result → Shared → Prop} (hh : A.handled = none) (hsz : items.size ≤ 1000) (T : EnTurn prog w A h₀ L m env ct elt a b scope cl s₂ items news I) (h0 : I 0 [])
    (hcell : ∀ y ∈ scope.names, y.2 ≠ .cell) (hkind : scope.kind = .function) (ha : scope.names.lookup a = some .local) (hb : scope.names.lookup b = some .local) (hab : a ≠ b)
    (hE : IsEnum s₂.heap e it 0 .none) (hI : s₂.heap.IsListIter it l 0) (hl : (l, listOf items n) ∈ news)
    (F : Fr h₀ L s₂.heap m) (N : News h₀ L s₂.heap news) (heL : e ≠ L) (hiL : it ≠ L) (he₀ : h₀.get? e = none) (hi₀ : h₀.get? it = none) (offe : ∀ p ∈ news, p.1 ≠ e) (offi : ∀ p ∈ news, p.1 ≠ it) (hei : e ≠ it)
    (hRR : ∀ D C h tk m' ys, Fr h₀ L h m → News h₀ L h ((D, lst ys) :: news) → Off1 D news → h.Ns C m' → h₀.get? C = none → h₀.get? D = none → C ≠ L → D ≠ L → C ≠ D → (∀ p ∈ news, p.1 ≠ C) → I items.size ys → RR (.ref D) C (.ok .next) { s₂ with heap := h, toks := tk }) :
    wpAny (model prog w) A (newList []) (fun acc s₃ => wpAny (model prog w) A (newFunctionEnv scope env.globals cl [] env.qual none .none (some env)) (fun cenv s₄ =>
      codeAny (model prog w) A (.compStart (.ListComp elt [⟨.Tuple [.Name a pa, .Name b pb] kk tp, iter, [ct], 0⟩] scope pos) 0 (.ref e) acc { cenv with scope := relabel scope env }) (RR acc cenv.locals) s₄) E s₃) E s₂ := by
  have hle : l ≠ e := offe _ hl
  have hli : l ≠ it := offi _ hl
  have W := WalksT.enumerate (prog := prog) (w := w) hh e it l hei hle hli items
  refine wpAny_newObj_type (wpAny_newFunctionEnv hcell (by intro y hy; simp at hy) (fun h₁ hns₁ hsb₁ => ?_) hkind)
  dsimp only at hns₁ hsb₁ ⊢
  generalize hH2 : s₂.heap.push { cls := .type "list", dict := none, data := .seq ([] : List Value).toArray } = H2 at hns₁ hsb₁ ⊢
  have hC : H2.objs.size = s₂.heap.objs.size + 1 := by rw [← hH2, Heap.size_push]
  have hDC : s₂.heap.objs.size ≠ H2.objs.size := by rw [hC]; exact Nat.ne_of_lt (Nat.lt_succ_self _)
  have below : ∀ b, b < s₂.heap.objs.size → b ≠ H2.objs.size ∧ b ≠ s₂.heap.objs.size := fun b hb => ⟨by rw [hC]; exact Nat.ne_of_lt (Nat.lt_succ_of_lt hb), Nat.ne_of_lt hb⟩
  have helt : e < s₂.heap.objs.size := Heap.lt_size hE
  have hilt : it < s₂.heap.objs.size := by obtain ⟨_, x, _⟩ := hI; exact Heap.lt_size x
  have old : ∀ b o, s₂.heap.get? b = some o → h₁.get? b = some o := fun b o e => hsb₁.extBut b o (below b (Heap.lt_size e)).1 (Heap.get?_push_of_some _ (hH2 ▸ Heap.get?_push_of_some _ e))
  have hacc : h₁.get? s₂.heap.objs.size = some (lst []) := hsb₁.extBut _ _ hDC (Heap.get?_push_of_some _ (hH2 ▸ Heap.get?_push_size _ rfl))
  have fresh : ∀ a, s₂.heap.objs.size ≤ a → s₂.heap.get? a = none := fun a ha => by
    cases e : s₂.heap.get? a with
    | none => rfl
    | some o' => exact absurd (Heap.lt_size e) (Nat.not_lt.mpr ha)
  have fresh₀ : ∀ a, s₂.heap.objs.size ≤ a → h₀.get? a = none := fun a ha => by
    cases e : h₀.get? a with
    | none => rfl
    | some o' => have := F.keep a o' e; rw [fresh a ha] at this; cases this
  have hD₀ : h₀.get? s₂.heap.objs.size = none := fresh₀ _ (Nat.le_refl _)
  have hC₀ : h₀.get? H2.objs.size = none := fresh₀ _ (by rw [hC]; exact Nat.le_succ _)
  have hLlt : L < s₂.heap.objs.size := F.ns.lt
  have hDL : s₂.heap.objs.size ≠ L := Ne.symm (below L hLlt).2
  have hCL : H2.objs.size ≠ L := Ne.symm (below L hLlt).1
  have hCe := (below e helt).1
  have hDe := (below e helt).2
  have hCi := (below it hilt).1
  have hDi := (below it hilt).2
  have offC : ∀ p ∈ news, p.1 ≠ H2.objs.size := fun p hp => (below _ (Heap.lt_size (N p hp).1)).1
  have offD : ∀ p ∈ news, p.1 ≠ s₂.heap.objs.size := fun p hp => (below _ (Heap.lt_size (N p hp).1)).2
  have off3e : Off3 e H2.objs.size s₂.heap.objs.size news := Off3.of fun p hp => ⟨offe p hp, offC p hp, offD p hp⟩
  have off3i : Off3 it H2.objs.size s₂.heap.objs.size news := Off3.of fun p hp => ⟨offi p hp, offC p hp, offD p hp⟩
  have hCw : H2.objs.size ∉ [e, it] := by simp only [List.mem_cons, List.not_mem_nil, or_false, not_or]; exact ⟨Ne.symm hCe, Ne.symm hCi⟩
  have hCf : ∀ b ∈ [e, it, l], b ≠ H2.objs.size := fun b hb => by
    simp only [List.mem_cons, List.not_mem_nil, or_false] at hb
    rcases hb with rfl | rfl | rfl
    · exact hCe
    · exact hCi
    · exact offC _ hl
  have keepF : ∀ {h h' : Heap}, Fr h₀ L h m → (∀ b o, b ∉ [e, it] → h.get? b = some o → h'.get? b = some o) → Fr h₀ L h' m := fun F hk =>
    ⟨F.ns.at' fun o x => hk L o (by simp only [List.mem_cons, List.not_mem_nil, or_false, not_or]; exact ⟨Ne.symm heL, Ne.symm hiL⟩) x, fun b o x => hk b o (fun hm => by
      simp only [List.mem_cons, List.not_mem_nil, or_false] at hm
      rcases hm with rfl | rfl
      · rw [he₀] at x; cases x
      · rw [hi₀] at x; cases x) (F.keep b o x), F.above⟩
  have keepN : ∀ {h h' : Heap} {ys : List Value}, News h₀ L h ((s₂.heap.objs.size, lst ys) :: news) → (∀ b o, b ∉ [e, it] → h.get? b = some o → h'.get? b = some o) → News h₀ L h' ((s₂.heap.objs.size, lst ys) :: news) := fun N hk p hp => by
    refine ⟨hk _ _ ?_ (N p hp).1, (N p hp).2⟩
    simp only [List.mem_cons, List.not_mem_nil, or_false, not_or]
    rcases List.mem_cons.mp hp with rfl | hp
    · exact ⟨Ne.symm hDe, Ne.symm hDi⟩
    · exact ⟨offe p hp, offi p hp⟩
  have hst₁ : (∃ old, IsEnum h₁ e it ((0 : Nat) : Int) old) ∧ h₁.IsListIter it l 0 ∧ h₁.IsList l items := ⟨⟨_, old _ _ hE⟩, hI.at fun o x => old _ o x, ⟨_, old _ _ (N _ hl).1, rfl, _, rfl⟩⟩
  have loop : ∀ s₃ : Shared, s₃ = { s₂ with heap := h₁, toks := s₂.toks + ([] : List (Str × Value)).length } →
      codeAny (model prog w) A (.compLoop (.ListComp elt [⟨.Tuple [.Name a pa, .Name b pb] kk tp, iter, [ct], 0⟩] scope pos) 0 (.ref e) (.ref s₂.heap.objs.size) (compEnvC scope cl H2.objs.size env))
        (RR (.ref s₂.heap.objs.size) H2.objs.size) s₃ := by
    rintro s₃ rfl
    refine kct_loop
      (fun k s' => ∃ i h' tk ys m', s' = { s₂ with heap := h', toks := tk } ∧ i ≤ items.size ∧ k = items.size + 1 - i ∧ ((∃ old, IsEnum h' e it (i : Int) old) ∧ h'.IsListIter it l i ∧ h'.IsList l items) ∧ Fr h₀ L h' m ∧ h'.Ns H2.objs.size m' ∧
        News h₀ L h' ((s₂.heap.objs.size, lst ys) :: news) ∧ ys.length ≤ i ∧ I i ys) ?_ (items.size + 1)
      ⟨0, h₁, _, [], _, rfl, Nat.zero_le _, rfl, hst₁, F.keeps old, hns₁, fun p hp => ?_, Nat.le_refl _, h0⟩
    · rintro k s' ⟨i, h', tk, ys, m', rfl, hi, rfl, hst', F', hn', N', hyl, hJ⟩
      by_cases hlt : i < items.size
      · refine W.item i _ _ _ hlt hst' fun Tt vals h₂ tk₂ hPt _ hT₂ hM₂ hk₂ => ?_
        obtain ⟨t, v, hv, rfl⟩ := hPt
        refine W.go _ _ _ i Tt _ _ _ hM₂ fun h₃ hst₃ hk₃ => ?_
        have hT₃ : h₃.IsTuple Tt #[.int i t, v] := hT₂.at fun o x => hk₃ _ o (W.apart i Tt _ hM₂) x
        have hn₃ : h₃.Ns H2.objs.size m' := (hn'.at' fun o x => hk₂ _ o hCw x).at' fun o x => hk₃ _ o hCw x
        have F₃ := keepF (keepF F' hk₂) hk₃
        have N₃ := keepN (keepN N' hk₂) hk₃
        refine kcp_assign hh hT₃ (lookup_relabel_local ha) (lookup_relabel_local hb) (by simp [compEnvC, relabel, hkind]) hn₃ fun h₄ tk₄ hn₄ hk₄ => ?_
        obtain ⟨oC, heC, hoC⟩ := ns_obj hn₄
        have hst₄ := W.frame (i + 1) h₃ h₄ hst₃ fun b hb o x => hk₄ b o (hCf b hb) x
        have F₄ : Fr h₀ L h₄ m := ⟨F₃.ns.at' fun o x => hk₄ _ o (Ne.symm hCL) x, fun b o x => hk₄ b o (fun q => by have q2 : b = H2.objs.size := q; rw [q2, hC₀] at x; cases x) (F₃.keep b o x), F₃.above⟩
        obtain ⟨⟨oldv, hE₄⟩, ⟨oi, hI₄, hI₄'⟩, hl₄⟩ := hst₄
        have N₄ : News h₀ L h₄ ((e, _) :: (it, oi) :: (H2.objs.size, oC) :: (s₂.heap.objs.size, lst ys) :: news) := fun p hp => by
          rcases List.mem_cons.mp hp with rfl | hp
          · exact ⟨hE₄, heL, he₀⟩
          rcases List.mem_cons.mp hp with rfl | hp
          · exact ⟨hI₄, hiL, hi₀⟩
          rcases List.mem_cons.mp hp with rfl | hp
          · exact ⟨heC, hCL, hC₀⟩
          refine ⟨hk₄ _ _ ?_ (N₃ p hp).1, (N₃ p hp).2⟩
          rcases List.mem_cons.mp hp with rfl | hp
          · exact hDC
          · exact offC p hp
        refine wpAny_mono (T i ys v t e _ it oi H2.objs.size oC s₂.heap.objs.size _ h₄ _ _ hv hJ hoC (by simp [hab]) (by simp) F₄ N₄ off3e off3i ⟨⟨hCe, hDe, Ne.symm hDC⟩, hCi, hDi, hei⟩) (fun ok s₅ h₅ => ?_) fun _ _ e => e
        have stUp : ∀ {h₅ : Heap} {ys' : List Value}, News h₀ L h₅ ((e, _) :: (it, oi) :: (H2.objs.size, oC) :: (s₂.heap.objs.size, lst ys') :: news) → (∃ old, IsEnum h₅ e it ((i + 1 : Nat) : Int) old) ∧ h₅.IsListIter it l (i + 1) ∧ h₅.IsList l items := fun N₅ =>
          ⟨⟨oldv, (N₅ _ (.head _)).1⟩, ⟨oi, (N₅ _ (.tail _ (.head _))).1, hI₄'⟩, ⟨_, (N₅ _ (.tail _ (.tail _ (.tail _ (.tail _ hl))))).1, rfl, _, rfl⟩⟩
        cases ok with
        | true =>
          simp only [if_true] at h₅ ⊢
          refine wpAny_mono h₅ (fun y s₆ h₆ => ?_) fun _ _ e => e
          obtain ⟨h₆, tk₆, rfl, F₆, N₆, r⟩ := h₆
          have zD := (N₆ _ (.tail _ (.tail _ (.tail _ (.head _))))).1
          refine append_at (hsz := by show ys.toArray.size ≤ sizeLine; rw [List.size_toArray]; exact Nat.le_trans (Nat.le_trans hyl (Nat.le_trans hi hsz)) (by decide)) zD fun h₇ hs₇ hD₇ => ?_
          have N₇ : News h₀ L h₇ ((e, _) :: (it, oi) :: (H2.objs.size, oC) :: (s₂.heap.objs.size, lst (ys ++ [y])) :: news) := fun p hp => by
            rcases List.mem_cons.mp hp with rfl | hp
            · exact ⟨hs₇.extBut _ _ hDe (N₆ _ (.head _)).1, heL, he₀⟩
            rcases List.mem_cons.mp hp with rfl | hp
            · exact ⟨hs₇.extBut _ _ hDi (N₆ _ (.tail _ (.head _))).1, hiL, hi₀⟩
            rcases List.mem_cons.mp hp with rfl | hp
            · exact ⟨hs₇.extBut _ _ (Ne.symm hDC) (N₆ _ (.tail _ (.tail _ (.head _)))).1, hCL, hC₀⟩
            rcases List.mem_cons.mp hp with rfl | hp
            · exact ⟨hD₇.trans (congrArg some (lst_snoc ys y)), hDL, hD₀⟩
            · have z := N₆ p (.tail _ (.tail _ (.tail _ (.tail _ hp))))
              exact ⟨hs₇.extBut _ _ (offD p hp) z.1, z.2⟩
          exact ⟨items.size + 1 - (i + 1), by omega, i + 1, h₇, tk₆, ys ++ [y], _, rfl, hlt, rfl, stUp N₇, F₆.change hs₇ hDL hD₀, hoC.ns (N₇ _ (.tail _ (.tail _ (.head _)))).1, fun p hp => N₇ p (.tail _ (.tail _ (.tail _ hp))), by rw [List.length_append, List.length_singleton]; exact Nat.succ_le_succ hyl, r⟩
        | false =>
          simp only [Bool.false_eq_true, if_false] at h₅ ⊢
          obtain ⟨h₆, tk₆, rfl, F₆, N₆, r⟩ := h₅
          exact ⟨items.size + 1 - (i + 1), by omega, i + 1, h₆, tk₆, ys, _, rfl, hlt, rfl, stUp N₆, F₆, hoC.ns (N₆ _ (.tail _ (.tail _ (.head _)))).1, fun p hp => N₆ p (.tail _ (.tail _ (.tail _ hp))), Nat.le_succ_of_le hyl, r⟩
      · obtain rfl : i = items.size := Nat.le_antisymm hi (Nat.not_lt.mp hlt)
        refine W.done _ _ _ hst' fun h₂ tk₂ hk₂ => ?_
        exact hRR _ _ h₂ tk₂ _ ys (keepF F' hk₂) (keepN N' hk₂) off3e.one (hn'.at' fun o x => hk₂ _ o hCw x) hC₀ hD₀ hCL hDL (Ne.symm hDC) offC hJ
    · rcases List.mem_cons.mp hp with rfl | hp
      · exact ⟨hacc, hDL, hD₀⟩
      · exact ⟨old _ _ (N p hp).1, (N p hp).2⟩
  exact codeAny_compStart_list (loop _ rfl) (W.self 0 _ _ _ hst₁ (loop _ rfl))
/-- what is gone over -/
def SrcEn (prog : Program) (w : World) (A : Around) (h₀ : Heap) (L : Addr) (m : Str → Option Value) (env : Env) (ct elt : Expr) (a b : Str) (scope : Scope) (cl : List (Str × Addr)) (Fin : Shared → List Value → Led → Prop) (xv : Value) (s₁ : Shared) : Prop :=
  ∃ e it l items n news I, xv = .ref e ∧ A.handled = none ∧ Fr h₀ L s₁.heap m ∧ News h₀ L s₁.heap news ∧ (l, listOf items n) ∈ news ∧ items.size ≤ 1000 ∧ IsEnum s₁.heap e it 0 .none ∧ s₁.heap.IsListIter it l 0 ∧ e ≠ L ∧ it ≠ L ∧ h₀.get? e = none ∧ h₀.get? it = none ∧ (∀ p ∈ news, p.1 ≠ e) ∧ (∀ p ∈ news, p.1 ≠ it) ∧ e ≠ it ∧
    I 0 [] ∧ EnTurn prog w A h₀ L m env ct elt a b scope cl s₁ items news I ∧ ∀ ys, I items.size ys → Fin s₁ ys news
/-- enumerate upon a list of the ledger -/
theorem enum_src {ct elt : Expr} {a b : Str} {scope : Scope} {cl : List (Str × Addr)} {Fin : Shared → List Value → Led → Prop} {l : Addr} {items : Array Value} {n : Nat} {news : Led} (I : Nat → List Value → Prop) (hh : A.handled = none) (F : Fr h₀ L s.heap m) (N : News h₀ L s.heap news)
    (hl : (l, listOf items n) ∈ news) (hsz : items.size ≤ 1000) (h0 : I 0 []) (T : ∀ g, EnTurn prog w A h₀ L m env ct elt a b scope cl { s with heap := g } items news I) (fin : ∀ g ys, I items.size ys → Fin { s with heap := g } ys news) :
    wpAny (model prog w) A (call (.type "enumerate") [.ref l]) (SrcEn prog w A h₀ L m env ct elt a b scope cl Fin) E s := by
  have hL : s.heap.IsList l items := ⟨_, (N _ hl).1, rfl, _, rfl⟩
  refine call_enumerate_list hL fun h' hE hI hz hk => ?_
  have hlt := F.ns.lt
  have f0 : h₀.get? (s.heap.objs.size + 1) = none := Heap.get?_none_of_le (Nat.le_trans F.above (Nat.le_trans (Nat.le_of_lt hlt) (Nat.le_succ _)))
  have below : ∀ b, b < s.heap.objs.size → b ≠ s.heap.objs.size + 1 ∧ b ≠ s.heap.objs.size := fun b hb => ⟨Nat.ne_of_lt (Nat.lt_succ_of_lt hb), Nat.ne_of_lt hb⟩
  refine ⟨s.heap.objs.size + 1, s.heap.objs.size, l, items, n, news, I, rfl, hh, F.keeps hk, (fun p hp => ⟨hk _ _ (N p hp).1, (N p hp).2⟩), hl, hsz, hE, hI, Ne.symm (below L hlt).1, Ne.symm (below L hlt).2, f0, next_is_new F,
    (fun p hp => (below _ (Heap.lt_size (N p hp).1)).1), (fun p hp => (below _ (Heap.lt_size (N p hp).1)).2), Nat.succ_ne_self _, h0, T h', fun ys hy => fin h' ys hy⟩
theorem ListComp_E {ct elt iter : Expr} {a b : Str} {pa pb tp : Pos} {kk : Nat} {scope : Scope} {cl : List (Str × Addr)} {pos : Pos} {Q : Value → Shared → Prop} (_F₀ : Fr h₀ L s.heap m)
    (hclos : closureFor scope env = pure cl) (hcell : ∀ y ∈ scope.names, y.2 ≠ .cell) (hkind : scope.kind = .function)
    (hnames : ∀ y ∈ scope.names, y.2 = .local → scope.names.lookup y.1 = some .local) (ha : scope.names.lookup a = some .local) (hb : scope.names.lookup b = some .local) (hab : a ≠ b)
    (h : wpAny (model prog w) A (eval iter env) (SrcEn prog w A h₀ L m env ct elt a b scope cl (fun s₂ => FinE h₀ L m s₂ Q)) E s)
    (hs : ∀ x, foldedSetIterable iter env x = pure x := by intro _; rfl) :
    wpAny (model prog w) A (eval (.ListComp elt [⟨.Tuple [.Name a pa, .Name b pb] kk tp, iter, [ct], 0⟩] scope pos) env) Q E s := by
  rw [eval_ListComp]
  refine wpAny_comprehension_free (use := none) rfl hs hclos hkind hnames (wpAny_mono h (fun xv s₁ h₁ => ?_) fun _ _ e => e)
  obtain ⟨e, it, l, items, n, news, I, rfl, hh, F, N, hl, hsz, hE, hI, heL, hiL, he₀, hi₀, offe, offi, hei, h0, T, fin⟩ := h₁
  refine wpAny_pyIter_enum hE ?_
  refine block_E hh hsz T h0 hcell hkind ha hb hab hE hI hl F N heL hiL he₀ hi₀ offe offi hei ?_
  intro D C h tk m' ys F' N' o1 hn hC₀ hD₀ hCL hDL hCD offC hJ
  refine ⟨m', hn, fun h'' hs'' => fin ys hJ D h'' tk (F'.change hs'' hCL hC₀) (fun p hp => ?_) o1⟩
  refine ⟨hs''.extBut _ _ ?_ (N' p hp).1, (N' p hp).2⟩
  rcases List.mem_cons.mp hp with rfl | hp
  · exact Ne.symm hCD
  · exact offC p hp
end
end Mine


namespace Mine
open LCg LCt
theorem subTail {a : Addr × Obj} {r l : Led} (h : ∀ p ∈ r, p ∈ l) : ∀ p ∈ r, p ∈ a :: l := fun p hp => .tail _ (h p hp)
theorem subCons {a : Addr × Obj} {r l : Led} (h1 : a ∈ l) (h : ∀ p ∈ r, p ∈ l) : ∀ p ∈ a :: r, p ∈ l := List.forall_mem_cons.mpr ⟨h1, h⟩
theorem subNil {l : Led} : ∀ p ∈ ([] : Led), p ∈ l := fun _ h => nomatch h
/-- the values are pairs of places in the ledger -/
inductive PairsIn (G : Led) : List Value → List (Nat × Nat) → Prop
  | nil : PairsIn G [] []
  | cons {a : Addr} {x y : Int} {t1 t2 : Tok} {p : Nat × Nat} {vs : List Value} {ps : List (Nat × Nat)} : (a, tupOf #[.int x t1, .int y t2]) ∈ G → x = (p.1 : Int) → y = (p.2 : Int) → PairsIn G vs ps → PairsIn G (.ref a :: vs) (p :: ps)
theorem PairsIn.mono {G G' : Led} {vs : List Value} {ps : List (Nat × Nat)} (h : PairsIn G vs ps) (hs : ∀ p ∈ G, p ∈ G') : PairsIn G' vs ps := by
  induction h with
  | nil => exact .nil
  | cons hm e1 e2 _ ih => exact .cons (hs _ hm) e1 e2 ih
theorem PairsIn.length {G : Led} {vs : List Value} {ps : List (Nat × Nat)} (h : PairsIn G vs ps) : vs.length = ps.length := by
  induction h with
  | nil => rfl
  | cons _ _ _ _ ih => simp [ih]
theorem PairsIn.snoc {G : Led} {vs : List Value} {ps : List (Nat × Nat)} {a : Addr} {x y : Int} {t1 t2 : Tok} {p : Nat × Nat} (h : PairsIn G vs ps) (hm : (a, tupOf #[.int x t1, .int y t2]) ∈ G) (e1 : x = (p.1 : Int)) (e2 : y = (p.2 : Int)) : PairsIn G (vs ++ [.ref a]) (ps ++ [p]) := by
  induction h with
  | nil => exact .cons hm e1 e2 .nil
  | cons hm' e1' e2' _ ih => exact .cons hm' e1' e2' ih
theorem PairsIn.at {G : Led} {vs : List Value} {ps : List (Nat × Nat)} (h : PairsIn G vs ps) : ∀ {i : Nat} {u : Value}, vs[i]? = some u → ∃ a x y t1 t2 p, u = .ref a ∧ ps[i]? = some p ∧ x = ((p : Nat × Nat).1 : Int) ∧ y = (p.2 : Int) ∧ (a, tupOf #[.int x t1, .int y t2]) ∈ G := by
  induction h with
  | nil => intro i u e; simp at e
  | cons hm e1 e2 _ ih =>
    intro i u e
    cases i with
    | zero => simp at e; subst e; exact ⟨_, _, _, _, _, _, rfl, by simp, e1, e2, hm⟩
    | succ i => simp at e; simpa using ih e
def rowTo (i j : Nat) : List (Nat × Nat) := (List.range j).map fun j' => (i, i + 1 + j')
def rows : Nat → List (Nat × Nat)
  | 0 => []
  | i + 1 => rows i ++ rowTo i (4 - i)
theorem rowTo_succ (i j : Nat) : rowTo i (j + 1) = rowTo i j ++ [(i, i + 1 + j)] := by simp [rowTo, List.range_succ]
def allP5 : List (Nat × Nat) := [(0,1),(0,2),(0,3),(0,4),(1,2),(1,3),(1,4),(2,3),(2,4),(3,4)]
theorem rows_all : rows 5 = allP5 := by decide +kernel
theorem rows_len : ∀ i, i < 5 → ∀ j, j < 4 - i → (rows i ++ rowTo i j).length ≤ 10 := by decide +kernel
/-- the pairs so far -/
def PrJ (r : Addr × Obj) (news : Led) (ps : List (Nat × Nat)) (ys : List Value) (G : Led) : Prop :=
  ∃ tups, G = tups ++ (r :: news) ∧ (∀ p ∈ tups, LtA r.1 p.1) ∧ PairsIn tups ys ps
theorem PrJ.zero (r : Addr × Obj) (news : Led) : PrJ r news [] [] (r :: news) := ⟨[], rfl, (fun _ h => nomatch h), .nil⟩
theorem PrJ.step {r : Addr × Obj} {news G : Led} {ps : List (Nat × Nat)} {ys : List Value} (h : PrJ r news ps ys G) {a : Addr} {x y : Int} {t1 t2 : Tok} {p : Nat × Nat} (e1 : x = (p.1 : Int)) (e2 : y = (p.2 : Int)) (ha : ∀ q ∈ G, LtA q.1 a) :
    PrJ r news (ps ++ [p]) (ys ++ [.ref a]) ((a, tupOf #[.int x t1, .int y t2]) :: G) := by
  obtain ⟨tups, rfl, h1, h2⟩ := h
  refine ⟨(a, tupOf #[.int x t1, .int y t2]) :: tups, rfl, List.forall_mem_cons.mpr ⟨ha r (List.mem_append_right _ (.head _)), h1⟩, (h2.mono fun q hq => .tail _ hq).snoc (.head _) e1 e2⟩
theorem off3_cons {I C D a : Addr} {o : Obj} {l : Led} (h : Off3 I C D l) (h1 : (@Ne Nat a I) ∧ (@Ne Nat a C) ∧ (@Ne Nat a D)) : Off3 I C D ((a, o) :: l) := ⟨h1, h⟩
local macro_rules | `(tactic| walk_at "SrcOut") => `(tactic| (refine Mine.Hold.intro ?_))
local macro_rules | `(tactic| walk_at "SrcIn") => `(tactic| (refine Mine.Hold.intro ?_))
local macro_rules | `(tactic| walk_at "call type:enumerate") => `(tactic| (refine Mine.Hold.intro ?_))
local macro_rules | `(tactic| walk_at "EnEnd") => `(tactic| (refine Mine.Hold.intro ?_))
local macro_rules | `(tactic| walk_at "InEnd") => `(tactic| (refine Mine.Hold.intro ?_))
local macro_rules | `(tactic| walk_at "exec Assign cons ListComp") => `(tactic| k_extra "exec Assign cons ListComp")
theorem bindC_cell {k : Str → Option NameKind} {binds : List (Str × Value)} {m : Str → Option Value} {n : Str} {v : Value} (hb : binds = [(n, v)]) (hk : k n = some .cell) : bindC k binds m n = some v := by
  subst hb; simp [bindC, hk]
theorem bindL_cell {k : Str → Option NameKind} {binds : List (Str × Value)} {m : Str → Option Value} {n : Str} {v : Value} (hb : binds = [(n, v)]) (hk : k n = some .cell) : bindL k binds m = m := by
  subst hb; simp [bindL, hk]
theorem newsPair {h₀ h : Heap} {L : Addr} {d c : Addr × Obj} {t n : Led} (N : News h₀ L h (d :: (t ++ c :: n))) : News h₀ L h (d :: c :: (t ++ n)) := fun p hp => N p (by
  simp only [List.mem_cons, List.mem_append] at hp ⊢
  rcases hp with h | h | h | h <;> simp [h])
theorem newsThird {h₀ h : Heap} {L : Addr} {d e c : Addr × Obj} {G : Led} (N : News h₀ L h (d :: e :: c :: G)) : News h₀ L h (d :: G) := fun p hp => N p (by
  simp only [List.mem_cons] at hp ⊢
  rcases hp with h | h <;> simp [h])
theorem endPair {tups : Led} {i : Nat} {zs : List Value} {a' : Addr} {x y : Int} {t1 t2 : Tok} {p : Nat × Nat} (hm : (a', tupOf #[.int x t1, .int y t2]) ∈ tups) (ex : x = (p.1 : Int)) (ey : y = (p.2 : Int)) (hpp : allP5[i]? = some p)
    (h : ∃ es, PairsIn tups zs es ∧ es.Sublist (allP5.take i)) : ∃ es, PairsIn tups (zs ++ [.ref a']) es ∧ es.Sublist (allP5.take (i + 1)) := by
  obtain ⟨es, h1, h2⟩ := h
  refine ⟨es ++ [p], h1.snoc hm ex ey, ?_⟩
  rw [List.take_add_one, hpp]
  exact h2.append (List.Sublist.refl _)
theorem skipPair {tups : Led} {i : Nat} {zs : List Value} (h : ∃ es, PairsIn tups zs es ∧ es.Sublist (allP5.take i)) : ∃ es, PairsIn tups zs es ∧ es.Sublist (allP5.take (i + 1)) := by
  obtain ⟨es, h1, h2⟩ := h
  refine ⟨es, h1, ?_⟩
  rw [List.take_add_one]
  exact h2.trans (List.sublist_append_left _ _)
theorem rng_small : ∀ i : Nat, i < 5 → Builtin.Range.small ((i : Int) + 1) 5 1 = true := by decide
theorem rng_size : ∀ i : Nat, i < 5 → Builtin.Range.rangeSize ((i : Int) + 1) 5 1 = ((4 - i : Nat) : Int) := by decide
theorem pairs_spec (w : World) (n : Int) (tn : Tok) (news : Led) :
   Spec w 350 3000 247 [.int n tn] [] news (fun r news' => ∃ D ys k tups es lo, r = .ref D ∧ news' = (D, listOf ys.toArray k) :: (tups ++ news) ∧ Off1 D (tups ++ news) ∧ AllLt lo news ∧ (∀ p ∈ tups, LtA lo p.1) ∧ PairsIn (tups ++ news) ys es ∧ es.Sublist allP5) := by
  k_with_none
  k_with "getMethod ref" => ((k_here; (with_reducible show wpAny _ _ (getMethod (Value.ref _) (Str.ofString "search") _) _ _ _); k_dflt (refine' Mine.meth_search ?k1 ?k2 ?k3 ?k4 ?k5 ?_; (case k1 => k_asm); (case k2 => k_asm); (case k3 => k_is); (case k4 => rfl); (case k5 => rfl); k_whole)))
  k_with "call builtin:re.Pattern.search" => ((k_here; k_dflt (refine' Mine.call_search ?k1 ?k2 ?k3 ?k4 ?k5 ?_; (case k1 => k_asm); (case k2 => k_asm); (case k3 => k_is); (case k4 => rfl); (case k5 => first | with_reducible exact Mine.srchN _ _ _ (by assumption) | with_reducible exact Mine.srchV _ _ _ (by assumption)); k_whole)))
  k_with "mine use" => (((case k1 => k_asm); (case k2 => k_asm); (case k3 => k_asm); (case k4 => k_asm); (case k5 => k_asm); (case kd => exact Nat.le_of_ble_eq_true rfl); (case ku => exact Nat.le_of_ble_eq_true rfl)))
  k_with "mine lt" => ((walk_at "mine and"; first | omega | assumption | exact allLt_of (by assumption) | exact Mine.ltUp (by omega) (by assumption) | exact Mine.ltUp (by omega) (allLt_of (by assumption))))
  k_with "mine letter" => (first | assumption | exact Mine.Letter.lower (by assumption) | exact Mine.Letter.upper (by assumption) | exact Mine.Letter.lower (Mine.Letter.upper (by assumption)))
  k_with "call builtin:str.lower" => ((k_here; k_dflt (refine Mine.lower_L (by walk_at "mine letter") ?_)))
  k_with "call builtin:str.upper" => ((k_here; k_dflt (refine Mine.upper_L (by walk_at "mine letter") ?_)))
  k_with "eval ListComp" => (k_extra "mine comp")
  k_with "CompRestT" => (k_extra "mine restT")
  k_with "CompRest" => (k_extra "mine rest")
  k_with "exec For Tuple Attribute cons nil" => (k_extra "mine for")
  k_with "exec For Tuple Name cons nil" => (k_extra "mine for")
  k_with "exec While Compare cons nil" => (k_extra "mine while")
  k_with "delItem ref" => ((k_here; k_dflt (refine' Mine.own_delItem ?F ?X ?I ?hQ ?hS ?hF ?_; (case F => k_asm); (case X => k_asm); (case I => k_inst); (case hS => k_is); (case hF => k_is); (case hQ => k_is); k_whole)))
  k_with "mine hdrs" => (first | assumption | exact Mine.Hdrs.mono (by kcj_all) (by assumption))
  k_with "call ref" => ((k_here; k_dflt (refine' Mine.Spec.use (Mine.ent_spec _ _) ?k1 ?k2 ?k3 ?k4 ?k5 ?kd ?ku ?_; walk_at "mine use"; k_whole; intro rE nE hE tkE FE NE RE; obtain ⟨xE, dE, uE, vE, aE, bE, cE, fE, eE, eE', lE, mE, oE, pE⟩ := RE; subst eE eE'; (try (replace lE := Mine.ltOf lE; k_lt lE)); (try dsimp only); (try k_sweep); (try k_fold))))
  k_with "call ref" => ((k_here; k_dflt (refine' Mine.Spec.use (Mine.merge_spec _ _ _ _ _ _ _ _ _ _ _ _ _ _ _ _ _ _ _ _ _ _ _ _ _ _ _ _ _ _ ?h1 ?h2 ?h3 ?h4 ?g1 ?g2 ?g3 ?g4 ?y1 ?y2 ?z1 ?z2 ?z3 ?z4) ?k1 ?k2 ?k3 ?k4 ?k5 ?kd ?ku ?_; walk_at "mine use"; (case h1 => k_mem); (case h2 => k_mem); (case h3 => k_mem); (case h4 => k_mem); (case g1 => k_mem); (case g2 => k_mem); (case g3 => k_mem); (case g4 => k_mem); (case y1 => walk_at "mine strs"); (case y2 => walk_at "mine strs"); (case z1 => walk_at "mine len"); (case z2 => walk_at "mine len"); (case z3 => walk_at "mine len"); (case z4 => walk_at "mine len"); k_whole; intro rM nM hM tkM FM NM RM; obtain ⟨xM, dM, uM, vM, sM, aM, bM, cM, fM, gM, iM, jM, eM, eM', SM, zM, lM, mM, oM, pM⟩ := RM; subst eM eM'; (try (replace lM := Mine.ltOf lM; k_lt lM)); (try dsimp only); (try k_sweep); (try k_fold))))
  k_with "mine strs" => (first | assumption | exact StrsAre.nil | (refine StrsAre.cons _ _ ?_; walk_at "mine strs"))
  k_with "mine len" => (first | assumption | omega | (simp only [List.length_cons, List.length_nil, List.length_append]; omega))
  k_with "mine hdrs" => (first | assumption | (refine Mine.Hdrs.mono ?hs9 (by assumption); kcj_all))
  k_with "subscriptTail Name Constant ref int" => (k_extra "mine item")
  k_with "subscriptTail Attribute Name Constant ref int" => (k_extra "mine item")
  k_with "mine len" => ((simp only [List.length_cons, List.length_nil, List.length_append, List.length_take, List.length_reverse]; omega))
  k_with "call ref" => ((k_here; k_dflt (refine' Mine.Spec.use (Mine.new_spec _ _) ?k1 ?k2 ?k3 ?k4 ?k5 ?kd ?ku ?_; walk_at "mine use"; k_whole; intro rN nN hN tkN FN NN RN; obtain ⟨tN, dN, lN, aN, bN, eN, eN', uN, vN, wN⟩ := RN; subst eN eN'; (try (replace uN := Mine.ltOf uN; k_lt uN)); (try dsimp only); (try k_sweep); (try k_fold))))
  k_with "mine letter" => ((show _ ∈ Mine.letters; decide +kernel))
  k_with "mine hdrs" => (exact Mine.Hdrs.nil)
  k_with "mine len" => (first | assumption | omega | (simp only [List.length_cons, List.length_nil, List.length_append, List.length_take, List.length_reverse] <;> omega) | (subst_vars; (simp only [List.length_cons, List.length_nil, List.length_append, List.length_take, List.length_reverse] <;> omega)))
  k_with "mine tsub" => (first | exact Mine.TSub.nil | exact Mine.TSub.sub (fun _ h => h) | (refine Mine.TSub.keep (by k_mem) ?_; walk_at "mine tsub") | (refine Mine.TSub.skip (by k_cls) ?_; walk_at "mine tsub") | exact Mine.TSub.sub (by kcj_all))
  k_with "mine drop" => (first | (refine' Mine.DropAt.head ?a; (case a => k_all)) | (refine' Mine.DropAt.tail ?a ?b; (case a => k_ne); (case b => walk_at "mine drop")))
  k_with "UnrEnd" => ((refine' Mine.unrEnd_drop ?k1 ?k2 ?k3 ?_; (case k1 => k_asm); (case k2 => k_asm); (case k3 => walk_at "mine drop")))
  k_with "mine sub" => (first | exact fun _ h => h | assumption | exact Mine.subNil | (refine' Mine.subCons ?u1 ?u2; (case u1 => k_mem); (case u2 => walk_at "mine sub")) | (refine Mine.subTail ?_; walk_at "mine sub"))
  k_with "exec Assign cons ListComp" => (k_extra "mine asg")
  w_top off
  have : Challenge.rw_rl0103_02 = Challenge.rw_rl0103_02 ∧ Mine.hd.heap_39 = Mine.hd.heap_39 := by k_fill; exact ⟨rfl, rfl⟩
  intro cn names ig ic more a ccd cl outer A₀ base h₀ L m mean mg mb s Q E B F X N T hret
  k_with "mine asg" => (refine Mine.Hold.intro ?_)
  k_with "mine comp" => (k_dflt (refine ListComp_E (_F₀ := by k_asm) (by with_unfolding_all rfl) (by decide) (by rfl) (by decide) (by rfl) (by rfl) (by decide) ?_))
  k_steps
  unfold Hold
  rename_i gN LN hN tkN FGN FN BN XN TN lN oN dN NN
  replace FN := frCast FN (bindL_cell rfl rfl)
  replace dN : oN.data = Data.cell (some (.int n tn)) := dN.trans (congrArg Data.cell (bindC_cell rfl rfl))
  refine Assign_ListComp_2 (F₀ := by k_asm) (hLe := rfl) (by with_unfolding_all rfl) (by with_unfolding_all rfl) (by decide) (by rfl) (by decide) (by rfl) (by rfl) (by decide) (by rfl) (by rfl) ?_
  k_steps
  unfold Hold
  refine SrcOut.intro 5 (fun i => (i : Int) + 1) (fun i => 4 - i) (fun i => PrJ (LN + 1, oN) news (rows i)) (fun i j => PrJ (LN + 1, oN) news (rows i ++ rowTo i j)) rfl (by k_asm) (by k_asm) (by assumption) (by decide) (by rfl) (PrJ.zero _ _) ?_
  intro g
  refine ⟨?_, ?_, ?_, ?_, ?_, ?_⟩
  · intro i ys G t I oI C oC D m₂ h tk E' hi hJ hC hx F' N' off ne
    k_steps
    unfold Hold
    exact SrcIn.intro (by assumption) (rng_small i hi) (rng_size i hi) (by k_asm) (by k_asm) (fun _ h => h)
  · intro i ys G hi hJ
    simpa [rowTo] using hJ
  · intro i j ys G t t' I oI I₂ oI₂ C oC D m₂ h tk E' hi hj hJ hC hx hy F' N' off off₂ ne
    refine wpAny_tests_nil ?_
    simp only [if_true]
    obtain ⟨ne1, ne2⟩ := ne
    k_steps
    unfold Hold
    rename_i DN _ _ _ _
    rename (I < DN ∧ _) => lD
    obtain ⟨q1, q2, q3, q4, q5⟩ := lD
    refine InEnd.intro (by k_asm) (by k_asm) ((DN, tupOf #[.int (i : Int) t, .int ((i : Int) + 1 + (j : Int)) t']) :: G) ?_ (off3_cons off ⟨Nat.ne_of_gt q1, Nat.ne_of_gt q3, Nat.ne_of_gt q4⟩) (off3_cons off₂ ⟨Nat.ne_of_gt q2, Nat.ne_of_gt q3, Nat.ne_of_gt q4⟩) ?_
    · walk_at "mine sub"
    · rw [rowTo_succ, ← List.append_assoc]
      exact hJ.step (p := (i, i + 1 + j)) rfl (by dsimp only; omega) (ltOf q5)
  · intro i j ys G hi hj hJ
    obtain ⟨_, _, _, hp⟩ := hJ
    rw [hp.length]
    exact Nat.le_trans (rows_len i hi j hj) (by decide)
  · intro i ys G hi hJ
    exact hJ
  · intro ys G hJ D h tk F' N' o1
    obtain ⟨tups, rfl, hgt, hP⟩ := hJ
    rw [rows_all] at hP
    have hys : ys.length = 10 := hP.length
    replace N' := newsPair N'
    replace hP := hP.mono (G' := tups ++ news) fun p hp => List.mem_append_left _ hp
    clear o1
    generalize hG : tups ++ news = G at N' hP
    k_steps
    unfold Hold
    refine enum_src (fun i zs => ∃ es, PairsIn G zs es ∧ es.Sublist (allP5.take i)) rfl (by k_asm) (by k_asm) (.head _) (by show ys.toArray.size ≤ 1000; rw [List.size_toArray]; omega) ⟨[], .nil, List.Sublist.slnil⟩ ?_ ?_
    · intro g2 i zs v t e oe it oi C oC D2 m₂ h2 tk2 E' hv hI hC hk hp F2 N2 off1 off2 ne
      obtain ⟨ne1, ne2⟩ := ne
      have hv' : ys[i]? = some v := by simpa using hv
      have hi : i < 10 := by
        rcases Nat.lt_or_ge i 10 with k | k
        · exact k
        · rw [List.getElem?_eq_none (by omega)] at hv'; cases hv'
      obtain ⟨a', x, y, t1, t2, p, rfl, hpp, ex, ey, hm⟩ := hP.at hv'
      have i10 : i = 0 ∨ i = 1 ∨ i = 2 ∨ i = 3 ∨ i = 4 ∨ i = 5 ∨ i = 6 ∨ i = 7 ∨ i = 8 ∨ i = 9 := by omega
      have endT := endPair (hm := hm) (ex := ex) (ey := ey) (hpp := hpp) hI
      have endF := skipPair (i := i) hI
      clear hI ex ey hpp hv hi
      rcases i10 with rfl | rfl | rfl | rfl | rfl | rfl | rfl | rfl | rfl | rfl
      · replace hk : m₂ (Str.ofString "k") = some (Value.int 0 t) := hk

        k_steps

        · exact EnEnd.intro (by k_asm) (by k_asm) (by walk_at "mine sub") endT
        · exact EnEnd.intro (by k_asm) (by k_asm) (by walk_at "mine sub") endF
      · replace hk : m₂ (Str.ofString "k") = some (Value.int 1 t) := hk
        k_steps
        · exact EnEnd.intro (by k_asm) (by k_asm) (by walk_at "mine sub") endT
        · exact EnEnd.intro (by k_asm) (by k_asm) (by walk_at "mine sub") endF
      · replace hk : m₂ (Str.ofString "k") = some (Value.int 2 t) := hk
        k_steps
        · exact EnEnd.intro (by k_asm) (by k_asm) (by walk_at "mine sub") endT
        · exact EnEnd.intro (by k_asm) (by k_asm) (by walk_at "mine sub") endF
      · replace hk : m₂ (Str.ofString "k") = some (Value.int 3 t) := hk
        k_steps
        · exact EnEnd.intro (by k_asm) (by k_asm) (by walk_at "mine sub") endT
        · exact EnEnd.intro (by k_asm) (by k_asm) (by walk_at "mine sub") endF
      · replace hk : m₂ (Str.ofString "k") = some (Value.int 4 t) := hk
        k_steps
        · exact EnEnd.intro (by k_asm) (by k_asm) (by walk_at "mine sub") endT
        · exact EnEnd.intro (by k_asm) (by k_asm) (by walk_at "mine sub") endF
      · replace hk : m₂ (Str.ofString "k") = some (Value.int 5 t) := hk
        k_steps
        · exact EnEnd.intro (by k_asm) (by k_asm) (by walk_at "mine sub") endT
        · exact EnEnd.intro (by k_asm) (by k_asm) (by walk_at "mine sub") endF
      · replace hk : m₂ (Str.ofString "k") = some (Value.int 6 t) := hk
        k_steps
        · exact EnEnd.intro (by k_asm) (by k_asm) (by walk_at "mine sub") endT
        · exact EnEnd.intro (by k_asm) (by k_asm) (by walk_at "mine sub") endF
      · replace hk : m₂ (Str.ofString "k") = some (Value.int 7 t) := hk
        k_steps
        · exact EnEnd.intro (by k_asm) (by k_asm) (by walk_at "mine sub") endT
        · exact EnEnd.intro (by k_asm) (by k_asm) (by walk_at "mine sub") endF
      · replace hk : m₂ (Str.ofString "k") = some (Value.int 8 t) := hk
        k_steps
        · exact EnEnd.intro (by k_asm) (by k_asm) (by walk_at "mine sub") endT
        · exact EnEnd.intro (by k_asm) (by k_asm) (by walk_at "mine sub") endF
      · replace hk : m₂ (Str.ofString "k") = some (Value.int 9 t) := hk
        k_steps
        · exact EnEnd.intro (by k_asm) (by k_asm) (by walk_at "mine sub") endT
        · exact EnEnd.intro (by k_asm) (by k_asm) (by walk_at "mine sub") endF
    · intro g2 zs hI D2 h2 tk2 F2 N2 o2
      obtain ⟨es, hes, hsub⟩ := hI
      k_steps
      subst hG
      rw [List.take_of_length_le (by rw [List.size_toArray, hys]; decide)] at hsub
      exact hret _ ((D2, listOf zs.toArray zs.length) :: (tups ++ news)) _ _ (by k_asm) (newsThird (by k_asm)) ⟨D2, zs, zs.length, tups, es, LN + 1, rfl, rfl, o2.2.2, allLt_of fun p hp => Nat.lt_succ_of_lt (lN p hp), hgt, hes, hsub⟩
end Mine


namespace Mine
section
variable {prog : Program} {w : World} {A : Around} {E : Value → Shared → Prop} {s : Shared} {env : Env} {h₀ : Heap} {target : Expr} {body : List Stmt} {Q : Flow → Shared → Prop}
/-- what stands behind a turn of a loop over a range -/
def TurnR (h₀ : Heap) (L : Addr) (I : Addr × Obj) (J : (Str → Option Value) → Led → Prop) (s₁ : Shared) (Q : Flow → Shared → Prop) (f : Flow) (s₂ : Shared) : Prop :=
  match f with
  | .ret v => Q (.ret v) s₂
  | .brk => Q .next s₂
  | _ => ∃ h' tk m' news', s₂ = { s₁ with heap := h', toks := tk } ∧ Fr h₀ L h' m' ∧ News h₀ L h' (I :: news') ∧ (∀ p ∈ news', p.1 ≠ I.1) ∧ J m' news'
theorem TurnR.next {h₀ : Heap} {L : Addr} {I : Addr × Obj} {J : (Str → Option Value) → Led → Prop} {s₁ : Shared} {Q : Flow → Shared → Prop} {h' : Heap} {tk : Nat} {m' : Str → Option Value} {all : Led} (news' : Led) (F : Fr h₀ L h' m') (N : News h₀ L h' all)
    (hs : ∀ p ∈ I :: news', p ∈ all) (hI : ∀ p ∈ news', p.1 ≠ I.1) (hJ : J m' news') : TurnR h₀ L I J s₁ Q .next { s₁ with heap := h', toks := tk } :=
  ⟨h', tk, m', news', rfl, F, fun p hp => N p (hs p hp), hI, hJ⟩
/-- a loop over a range by ones -/
theorem iter_rng {r : Addr} {a b : Int} {t u v : Tok} {n : Nat} {m₀ : Str → Option Value} {news : Led} (J : Nat → (Str → Option Value) → Led → Prop)
    (hh : A.handled = none) (F : Fr h₀ env.locals s.heap m₀) (N : News h₀ env.locals s.heap news) (hr : IsRange s.heap r a b 1 t u v) (hsm : Builtin.Range.small a b 1 = true) (hn : Builtin.Range.rangeSize a b 1 = ((n : Nat) : Int)) (h0 : J 0 m₀ news)
    (hgo : ∀ (I : Addr) (v : Value), letOwnedTupleGo target (.ref I) v = pure () := by intro _ _; rfl)
    (turn : ∀ i t' m₁ news₁ h tk I oI, i < n → J i m₁ news₁ → (∀ p ∈ news₁, p.1 ≠ I) → Fr h₀ env.locals h m₁ → News h₀ env.locals h ((I, oI) :: news₁) →
      wpAny (model prog w) A (assign target env (.int (a + (i : Int)) t')) (fun _ s₃ => wpAny (model prog w) A (execs body env) (TurnR h₀ env.locals (I, oI) (J (i + 1)) { s with heap := h, toks := tk } Q) E s₃) E { s with heap := h, toks := tk })
    (done : ∀ m₁ news₁ h tk, J n m₁ news₁ → Fr h₀ env.locals h m₁ → News h₀ env.locals h news₁ → Q .next { s with heap := h, toks := tk }) :
    wpAny (model prog w) A (pyIter (.ref r)) (fun it s₂ => TurnsAt prog w A h₀ env target body Q E it s₂) E s := by
  refine wpAny_pyIter_range hr hsm ?_
  rw [hn]
  have W := KTurns.ofWalks (target := target) (LCg.range_walks (prog := prog) (w := w) (I := s.heap.objs.size) hh a n) fun i v s Q E st q => wpAny_of_eq (hgo _ _) q
  refine ⟨_, _, _, _, _, _, _, m₀, news, fun i m₁ news₁ => J i m₁ news₁, rfl, W, ?_, ?_, ?_, ?_, F.push _, (fun p hp => ⟨Heap.get?_push_of_some _ (N p hp).1, (N p hp).2⟩), h0, ?_, ?_⟩
  · intro hm
    exact absurd F.ns.lt ((List.mem_singleton.mp hm) ▸ Nat.lt_irrefl _)
  · intro b hb
    rw [List.mem_singleton.mp hb]
    exact next_is_new F
  · intro p hp hI
    exact absurd (Heap.lt_size (N p hp).1) ((List.mem_singleton.mp hI) ▸ Nat.lt_irrefl _)
  · show IsRangeIter _ _ _ _ _
    simpa using Heap.get?_push_size _ rfl
  · intro i v m₁ news₁ h₁ tk₁ own hi hP hJ hnw hown hownget hownall hst F₁ N₁
    obtain ⟨t', rfl⟩ := hP
    have hI₀ : h₀.get? s.heap.objs.size = none := next_is_new F
    have hst' : h₁.get? s.heap.objs.size = some { cls := .type "range_iterator", dict := none, data := .fields #[rawInt (a + ((i + 1 : Nat) : Int) * 1), rawInt ((n : Int) - ((i + 1 : Nat) : Int)), rawInt 1], slots := #[] } := hst
    generalize hoI : ({ cls := .type "range_iterator", dict := none, data := .fields #[rawInt (a + ((i + 1 : Nat) : Int) * 1), rawInt ((n : Int) - ((i + 1 : Nat) : Int)), rawInt 1], slots := #[] } : Obj) = oI at hst'
    have mI : (s.heap.objs.size, oI) ∈ own := hownall _ (by simp) hI₀ _ hst'
    have own2 : ∀ p ∈ own, p = (s.heap.objs.size, oI) := by
      intro p hp
      have g := hownget p hp
      have h1 := List.mem_singleton.mp (hown p hp)
      rw [h1, hst'] at g; exact Prod.ext h1 (Option.some.inj g).symm
    have off : ∀ p ∈ news₁, p.1 ≠ s.heap.objs.size := fun p hp e => hnw p hp (by simp [e])
    have N₂ : News h₀ env.locals h₁ ((s.heap.objs.size, oI) :: news₁) := fun p hp => by
      rcases List.mem_cons.mp hp with rfl | hp
      · exact N₁ _ (List.mem_append_left _ mI)
      · exact N₁ _ (List.mem_append_right _ hp)
    have fin : ∀ s₄ : Shared, (∃ h' tk m' news', s₄ = { s with heap := h', toks := tk } ∧ Fr h₀ env.locals h' m' ∧ News h₀ env.locals h' ((s.heap.objs.size, oI) :: news') ∧ (∀ p ∈ news', p.1 ≠ s.heap.objs.size) ∧ J (i + 1) m' news') →
        LoopStepU h₀ env.locals [s.heap.objs.size] own (fun m₁ news₁ => J (i + 1) m₁ news₁) { s with heap := h₁, toks := tk₁ } .next s₄ := by
      rintro s₄ ⟨h', tk, m', news', rfl, F', N', o', j'⟩
      refine ⟨rfl, h', tk, m', news', rfl, F', fun p hp => ?_, fun p hp hq => o' p hp (by simpa using hq), j'⟩
      rcases List.mem_append.mp hp with hp | hp
      · rw [own2 p hp]; exact N' _ List.mem_cons_self
      · exact N' _ (List.mem_cons_of_mem _ hp)
    refine wpAny_mono (turn i t' m₁ news₁ h₁ tk₁ s.heap.objs.size oI hi hJ off F₁ N₂) (fun _ s₃ h₃ => wpAny_mono h₃ (fun f s₄ h₄ => ?_) fun _ _ e => e) fun _ _ e => e
    cases f with
    | ret v => exact h₄
    | brk => exact h₄
    | next => exact LoopStepV.next (fin _ h₄)
    | cont => exact LoopStepV.cont (fin _ h₄)
  · intro h' tk m' news' F' N' hnw hJ
    exact done m' news' h' tk hJ F' N'
end
end Mine


namespace Mine
namespace G
abbrev Arc := Nat × Nat
def allP : List Arc := [(0,1),(0,2),(0,3),(0,4),(1,2),(1,3),(1,4),(2,3),(2,4),(3,4)]
def arcs (es : List Arc) : List Arc := es.flatMap fun p => [(p.1, p.2), (p.2, p.1)]
def fr (A : List Arc) (i : Nat) : List Nat := (A.filter (·.1 == i)).map (·.2)
def nest2 (one other : List Nat) (j : Nat) : Bool := ((one.filter fun k => other.any (· == k)).length : Int) == ((min one.length other.length : Nat) : Int) - (one.count j : Int)
def nested (A : List Arc) : Bool := (List.range 5).all fun i => (List.range i).all fun j => nest2 (fr A i) (fr A j) j
/-- a step of the weighing: what is left of the arcs, the names left, the weights -/
def step (size : Nat) (s : List Arc × List Nat × List Int) : Option (List Arc × List Nat × List Int) :=
  let c := s.2.1.map fun nm => (s.1.map (·.2)).count nm
  match (List.range size).filter fun k => c.getD k 0 == 0 || c.getD k 0 == size - 1 with
  | [] => none
  | k :: _ => some (s.1.filter (·.1 != s.2.1.getD k 0), s.2.1.eraseIdx k, s.2.2.set (s.2.1.getD k 0) (if c.getD k 0 > 0 then (size : Int) else - (size : Int)))
def weigh : Nat → List Arc × List Nat × List Int → List Int
  | 0, s => s.2.2
  | n + 1, s => match step (n + 1) s with
    | none => []
    | some s' => weigh n s'
def weights (A : List Arc) : List Int := weigh 5 (A, [0, 1, 2, 3, 4], [0, 0, 0, 0, 0])
def near (es : List Arc) (i : Nat) : List Nat := (List.range 5).filter fun j => es.contains (i, j) || es.contains (j, i)
def alike (es : List Arc) : Bool := (List.range 5).all fun i => (List.range i).all fun j =>
  ! (! ((near es i).filter fun k => k != j && ! (near es j).contains k).isEmpty && ! ((near es j).filter fun k => k != i && ! (near es i).contains k).isEmpty)
def told (w : List Int) : List Arc := allP.filter fun p => decide (w.getD p.1 0 + w.getD p.2 0 > 0)
def ok (es : List Arc) : Bool :=
  (nested (arcs es) == alike es) && ((! (weights (arcs es)).isEmpty) == alike es) && ((weights (arcs es)).isEmpty || told (weights (arcs es)) == es)
def subs : List Arc → List (List Arc)
  | [] => [[]]
  | p :: r => subs r ++ (subs r).map (p :: ·)
theorem all_ok : (subs allP).all ok = true := by decide +kernel
end G
end Mine


namespace Mine
open LCg LCt
/-- a name as a text: the name 0 is 'a' -/
def one (p : Nat) : Str := ⟨#[97 + p]⟩
theorem offAll {a : Addr} {l : Led} (h : AllLt a l) : Off a l := fun p hp => Nat.ne_of_lt (ltOf h p hp)
/-- add_header where other objects lie ahead of the table -/
theorem add_pre (w : World) (pre : Led) (t d l : Addr) (hs : Int) (kt : Tok) (n₁ n₃ : Nat) (vs : List Value) (kvs : List (Str × Str)) (k v : Str) (tk tv : Tok) (hk : Letter k) (hv : Letter v) (tl : Led) (hH : Hdrs tl vs kvs) (ho : Off l tl) (hop : Off l pre) (htl : NeA t l) (hdl : NeA d l) (hlen : vs.length ≤ 999) :
   Spec w 500 5000 179 [.ref t, .str k tk, .str v tv] [] (pre ++ (l, listOf vs.toArray n₃) :: (t, instObj 182 d) :: (d, hdrDict hs kt l n₁) :: tl)
     (fun r news' => ∃ a o vs' n', r = .none ∧ news' = pre ++ (l, listOf vs'.toArray n') :: (t, instObj 182 d) :: (d, hdrDict hs kt l n₁) :: (a, o) :: tl ∧ Hdrs ((a, o) :: tl) vs' (kvs ++ [(k, v)]) ∧ vs'.length = vs.length + 1 ∧ LtA l a ∧ AllLt a pre ∧ AllLt a tl) := by
  refine (add_spec w t d l hs kt n₁ n₃ vs k v tk tv hk hv (pre ++ tl) (fun p hp => (List.mem_append.mp hp).elim (hop p) (ho p)) htl hdl (by omega)).frame ?_ ?_
  · intro q hq
    simp only [List.mem_cons, List.mem_append] at hq ⊢
    rcases hq with rfl | rfl | rfl | hq | hq
    · exact .inr (.inl rfl)
    · exact .inr (.inr (.inl rfl))
    · exact .inr (.inr (.inr (.inl rfl)))
    · exact .inl hq
    · exact .inr (.inr (.inr (.inr hq)))
  · rintro r n' ⟨a, n'', t1, t2, rfl, rfl, l1, l2, l3, l4⟩
    refine ⟨_, ?_, a, tupOf #[.str k t1, .str v t2], vs ++ [Value.ref a], n'', rfl, rfl, ?_, by simp, l1, ?_, ?_⟩
    · intro q hq
      simp only [List.mem_cons, List.mem_append] at hq ⊢
      rcases hq with hq | rfl | rfl | rfl | rfl | hq
      · exact .inr (.inr (.inr (.inr (.inl hq))))
      · exact .inl rfl
      · exact .inr (.inl rfl)
      · exact .inr (.inr (.inl rfl))
      · exact .inr (.inr (.inr (.inl rfl)))
      · exact .inr (.inr (.inr (.inr (.inr hq))))
    · exact (hH.mono fun q hq => .tail _ hq).snoc hk hv (.head _)
    · exact allLt_of fun p hp => ltOf l4 p (List.mem_append_left _ hp)
    · exact allLt_of fun p hp => ltOf l4 p (List.mem_append_right _ hp)
theorem ifx {M : Model} {A : Around} {E : Value → Shared → Prop} {s : Shared} {t : Sem Value} {Q : Value → Shared → Prop} (P : Value → Prop) (h : wpAny M A t (fun v s' => Hold (P v ∧ ∃ tk, s' = { s with toks := tk })) E s) (k : ∀ v tk, P v → Q v { s with toks := tk }) : wpAny M A t Q E s :=
  wpAny_mono h (fun v s' ⟨hp, tk, e⟩ => e ▸ k v tk hp) fun _ _ e => e
/-- the letters of the table -/
def isLet (p : Nat) (v : Value) : Prop := ∃ x t, v = .str x t ∧ Letter x ∧ Txt.lower x = one p
theorem up5 {p : Nat} (h : p ≤ 4) (t : Tok) : isLet p (.str (Txt.item (Str.ofString "ABCDE") (p : Int)) t) := by
  have : p = 0 ∨ p = 1 ∨ p = 2 ∨ p = 3 ∨ p = 4 := by omega
  rcases this with rfl | rfl | rfl | rfl | rfl <;> exact ⟨_, _, rfl, by show _ ∈ letters; decide +kernel, by decide +kernel⟩
theorem lo5 {p : Nat} (h : p ≤ 4) (t : Tok) : isLet p (.str (Txt.item (Str.ofString "abcde") (p : Int)) t) := by
  have : p = 0 ∨ p = 1 ∨ p = 2 ∨ p = 3 ∨ p = 4 := by omega
  rcases this with rfl | rfl | rfl | rfl | rfl <;> exact ⟨_, _, rfl, by show _ ∈ letters; decide +kernel, by decide +kernel⟩
theorem let5 {p : Nat} (h : p ≤ 4) : Letter (Txt.item (Str.ofString "abcde") (p : Int)) := by
  have : p = 0 ∨ p = 1 ∨ p = 2 ∨ p = 3 ∨ p = 4 := by omega
  rcases this with rfl | rfl | rfl | rfl | rfl <;> (show _ ∈ letters; decide +kernel)
theorem it5 {p : Nat} (h : p ≤ 4) : Txt.item (Str.ofString "abcde") (p : Int) = one p := by
  have : p = 0 ∨ p = 1 ∨ p = 2 ∨ p = 3 ∨ p = 4 := by omega
  rcases this with rfl | rfl | rfl | rfl | rfl <;> decide +kernel
local macro_rules | `(tactic| walk_at "call ref") => `(tactic| ((with_reducible show wpAny _ _ (call (Value.ref 179) _) _ _ _); (refine Mine.Hold.intro ?_)))
local macro_rules | `(tactic| walk_at "UnrEnd") => `(tactic| (refine Mine.Hold.intro ?_))
local macro_rules | `(tactic| walk_at "eval Subscript") => `(tactic| k_extra "eval Subscript")
local macro_rules | `(tactic| walk_at "pyIter ref") => `(tactic| k_extra "pyIter ref")
def lowOf (kvs : List (Str × Str)) : List (Str × Str) := kvs.map fun kv => (Txt.lower kv.1, kv.2)
def onesOf (ps : List (Nat × Nat)) : List (Str × Str) := ps.map fun p => (one p.1, one p.2)
/-- the table after some pairs -/
def TabJ (m₀ : Str → Option Value) (t d l : Addr) (hs : Int) (kt : Tok) (news : Led) (es : List (Nat × Nat)) (i : Nat) (m₁ : Str → Option Value) (news₁ : Led) : Prop :=
  (∀ z, [Str.ofString "i", Str.ofString "j", Str.ofString "one", Str.ofString "other"].contains z = false → m₁ z = m₀ z) ∧ ∃ vs n tups kvs, news₁ = (l, listOf vs.toArray n) :: (t, instObj 182 d) :: (d, hdrDict hs kt l 1) :: (tups ++ news) ∧ Hdrs (tups ++ news) vs kvs ∧
    lowOf kvs = onesOf (G.arcs (es.take i)) ∧ vs.length = 2 * i ∧ ∀ p ∈ tups, LtA l p.1
/-- the table within a turn -/
def Tab2J (m₀ : Str → Option Value) (t d l : Addr) (hs : Int) (kt : Tok) (news : Led) (kvs₀ : List (Str × Str)) (two : List (Nat × Nat)) (b : Nat) (pre : Led) (i : Nat) (m₁ : Str → Option Value) (news₁ : Led) : Prop :=
  (∀ z, [Str.ofString "one", Str.ofString "other"].contains z = false → m₁ z = m₀ z) ∧ ∃ vs n tups kvs, news₁ = pre ++ (l, listOf vs.toArray n) :: (t, instObj 182 d) :: (d, hdrDict hs kt l 1) :: (tups ++ news) ∧ Hdrs (tups ++ news) vs kvs ∧
    lowOf kvs = lowOf kvs₀ ++ onesOf (two.take i) ∧ vs.length = b + i ∧ (∀ p ∈ tups, LtA l p.1) ∧ ∀ q ∈ pre.drop 3, Off q.1 ((l, listOf vs.toArray n) :: (t, instObj 182 d) :: (d, hdrDict hs kt l 1) :: (tups ++ news))
theorem all4 : ∀ q ∈ allP5, q.1 ≤ 4 ∧ q.2 ≤ 4 := by decide
/-- an item of the two pairs -/
theorem two_item {h₀ h : Heap} {L : Addr} {e1 e2 : Addr × Obj} {R : Led} {i a b : Nat} {v : Value} {tA tB : Addr} {ta tb : Tok}
    (_N : News h₀ L h (e1 :: e2 :: (tB, tupOf #[.int (b : Int) tb, .int (a : Int) ta]) :: (tA, tupOf #[.int (a : Int) ta, .int (b : Int) tb]) :: R)) (hv : [Value.ref tA, .ref tB][i]? = some v) (ha : a ≤ 4) (hb : b ≤ 4) :
    ∃ (tt : Addr) (c d : Nat) (tc td : Tok), v = .ref tt ∧ (tt, tupOf #[.int (c : Int) tc, .int (d : Int) td]) ∈ e1 :: e2 :: (tB, tupOf #[.int (b : Int) tb, .int (a : Int) ta]) :: (tA, tupOf #[.int (a : Int) ta, .int (b : Int) tb]) :: R ∧ [(a, b), (b, a)][i]? = some (c, d) ∧ c ≤ 4 ∧ d ≤ 4 := by
  match i, hv with
  | 0, hv => simp at hv; subst hv; exact ⟨tA, a, b, ta, tb, rfl, by simp, rfl, ha, hb⟩
  | 1, hv => simp at hv; subst hv; exact ⟨tB, b, a, tb, ta, rfl, by simp, rfl, hb, ha⟩
  | i + 2, hv => simp at hv
theorem off_ins {I a l : Addr} {o o1 o2 : Obj} {pre tl : Led} {x y : Addr × Obj} (h : ∀ p ∈ pre ++ (l, o1) :: x :: y :: tl, p.1 ≠ I) (ha : a ≠ I) : ∀ p ∈ pre ++ (l, o2) :: x :: y :: (a, o) :: tl, p.1 ≠ I := by
  intro p hp
  simp only [List.mem_append, List.mem_cons] at hp h
  rcases hp with e | rfl | rfl | rfl | rfl | e
  · exact h p (.inl e)
  · exact h (_, o1) (.inr (.inl rfl))
  · exact h _ (.inr (.inr (.inl rfl)))
  · exact h _ (.inr (.inr (.inr (.inl rfl))))
  · exact ha
  · exact h p (.inr (.inr (.inr (.inr e))))
theorem mapKey {m₁ m₀ : Str → Option Value} {st : List Str} (h : ∀ z, st.contains z = false → m₁ z = m₀ z) : (fun z => if st.contains z then m₁ z else m₀ z) = m₁ := by
  funext z
  cases hz : st.contains z with
  | true => simp
  | false => simp [h z hz]
theorem table_spec (w : World) (lp : Addr) (np : Nat) (ys : List Value) (es : List (Nat × Nat)) (n : Int) (tn : Tok) (news : Led) (h1 : (lp, listOf ys.toArray np) ∈ news) (hP : PairsIn news ys es) (hes : es.Sublist allP5) :
   Spec w 350 3000 254 [.ref lp, .int n tn] [] news (fun r news' => ∃ t d l' hs kt vs n1 n3 tups kvs, r = .ref t ∧ news' = (l', listOf vs.toArray n3) :: (t, instObj 182 d) :: (d, hdrDict hs kt l' n1) :: (tups ++ news) ∧ Hdrs (tups ++ news) vs kvs ∧
     kvs.map (fun kv => (Txt.lower kv.1, kv.2)) = (G.arcs es).map (fun p => (one p.1, one p.2)) ∧ vs.length ≤ 20 ∧ AllLt d news ∧ LtA d t ∧ LtA t l' ∧ ∀ p ∈ tups, LtA l' p.1) := by
  k_with_none
  k_with "getMethod ref" => ((k_here; (with_reducible show wpAny _ _ (getMethod (Value.ref _) (Str.ofString "search") _) _ _ _); k_dflt (refine' Mine.meth_search ?k1 ?k2 ?k3 ?k4 ?k5 ?_; (case k1 => k_asm); (case k2 => k_asm); (case k3 => k_is); (case k4 => rfl); (case k5 => rfl); k_whole)))
  k_with "call builtin:re.Pattern.search" => ((k_here; k_dflt (refine' Mine.call_search ?k1 ?k2 ?k3 ?k4 ?k5 ?_; (case k1 => k_asm); (case k2 => k_asm); (case k3 => k_is); (case k4 => rfl); (case k5 => first | with_reducible exact Mine.srchN _ _ _ (by assumption) | with_reducible exact Mine.srchV _ _ _ (by assumption)); k_whole)))
  k_with "mine use" => (((case k1 => k_asm); (case k2 => k_asm); (case k3 => k_asm); (case k4 => k_asm); (case k5 => k_asm); (case kd => exact Nat.le_of_ble_eq_true rfl); (case ku => exact Nat.le_of_ble_eq_true rfl)))
  k_with "mine lt" => ((walk_at "mine and"; first | omega | assumption | exact allLt_of (by assumption) | exact Mine.ltUp (by omega) (by assumption) | exact Mine.ltUp (by omega) (allLt_of (by assumption))))
  k_with "mine letter" => (first | assumption | exact Mine.Letter.lower (by assumption) | exact Mine.Letter.upper (by assumption) | exact Mine.Letter.lower (Mine.Letter.upper (by assumption)))
  k_with "call builtin:str.lower" => ((k_here; k_dflt (refine Mine.lower_L (by walk_at "mine letter") ?_)))
  k_with "call builtin:str.upper" => ((k_here; k_dflt (refine Mine.upper_L (by walk_at "mine letter") ?_)))
  k_with "eval ListComp" => (k_extra "mine comp")
  k_with "CompRestT" => (k_extra "mine restT")
  k_with "CompRest" => (k_extra "mine rest")
  k_with "exec For Tuple Attribute cons nil" => (k_extra "mine for")
  k_with "exec For Tuple Name cons nil" => (k_extra "mine for")
  k_with "exec While Compare cons nil" => (k_extra "mine while")
  k_with "delItem ref" => ((k_here; k_dflt (refine' Mine.own_delItem ?F ?X ?I ?hQ ?hS ?hF ?_; (case F => k_asm); (case X => k_asm); (case I => k_inst); (case hS => k_is); (case hF => k_is); (case hQ => k_is); k_whole)))
  k_with "mine hdrs" => (first | assumption | exact Mine.Hdrs.mono (by kcj_all) (by assumption))
  k_with "call ref" => ((k_here; k_dflt (refine' Mine.Spec.use (Mine.ent_spec _ _) ?k1 ?k2 ?k3 ?k4 ?k5 ?kd ?ku ?_; walk_at "mine use"; k_whole; intro rE nE hE tkE FE NE RE; obtain ⟨xE, dE, uE, vE, aE, bE, cE, fE, eE, eE', lE, mE, oE, pE⟩ := RE; subst eE eE'; (try (replace lE := Mine.ltOf lE; k_lt lE)); (try dsimp only); (try k_sweep); (try k_fold))))
  k_with "call ref" => ((k_here; k_dflt (refine' Mine.Spec.use (Mine.merge_spec _ _ _ _ _ _ _ _ _ _ _ _ _ _ _ _ _ _ _ _ _ _ _ _ _ _ _ _ _ _ ?h1 ?h2 ?h3 ?h4 ?g1 ?g2 ?g3 ?g4 ?y1 ?y2 ?z1 ?z2 ?z3 ?z4) ?k1 ?k2 ?k3 ?k4 ?k5 ?kd ?ku ?_; walk_at "mine use"; (case h1 => k_mem); (case h2 => k_mem); (case h3 => k_mem); (case h4 => k_mem); (case g1 => k_mem); (case g2 => k_mem); (case g3 => k_mem); (case g4 => k_mem); (case y1 => walk_at "mine strs"); (case y2 => walk_at "mine strs"); (case z1 => walk_at "mine len"); (case z2 => walk_at "mine len"); (case z3 => walk_at "mine len"); (case z4 => walk_at "mine len"); k_whole; intro rM nM hM tkM FM NM RM; obtain ⟨xM, dM, uM, vM, sM, aM, bM, cM, fM, gM, iM, jM, eM, eM', SM, zM, lM, mM, oM, pM⟩ := RM; subst eM eM'; (try (replace lM := Mine.ltOf lM; k_lt lM)); (try dsimp only); (try k_sweep); (try k_fold))))
  k_with "mine strs" => (first | assumption | exact StrsAre.nil | (refine StrsAre.cons _ _ ?_; walk_at "mine strs"))
  k_with "mine len" => (first | assumption | omega | (simp only [List.length_cons, List.length_nil, List.length_append]; omega))
  k_with "mine hdrs" => (first | assumption | (refine Mine.Hdrs.mono ?hs9 (by assumption); kcj_all))
  k_with "subscriptTail Name Constant ref int" => (k_extra "mine item")
  k_with "subscriptTail Attribute Name Constant ref int" => (k_extra "mine item")
  k_with "mine len" => ((simp only [List.length_cons, List.length_nil, List.length_append, List.length_take, List.length_reverse]; omega))
  k_with "call ref" => ((k_here; k_dflt (refine' Mine.Spec.use (Mine.new_spec _ _) ?k1 ?k2 ?k3 ?k4 ?k5 ?kd ?ku ?_; walk_at "mine use"; k_whole; intro rN nN hN tkN FN NN RN; obtain ⟨tN, dN, lN, aN, bN, eN, eN', uN, vN, wN⟩ := RN; subst eN eN'; (try (replace uN := Mine.ltOf uN; k_lt uN)); (try dsimp only); (try k_sweep); (try k_fold))))
  k_with "mine letter" => ((show _ ∈ Mine.letters; decide +kernel))
  k_with "mine hdrs" => (exact Mine.Hdrs.nil)
  k_with "mine len" => (first | assumption | omega | (simp only [List.length_cons, List.length_nil, List.length_append, List.length_take, List.length_reverse] <;> omega) | (subst_vars; (simp only [List.length_cons, List.length_nil, List.length_append, List.length_take, List.length_reverse] <;> omega)))
  k_with "mine tsub" => (first | exact Mine.TSub.nil | exact Mine.TSub.sub (fun _ h => h) | (refine Mine.TSub.keep (by k_mem) ?_; walk_at "mine tsub") | (refine Mine.TSub.skip (by k_cls) ?_; walk_at "mine tsub") | exact Mine.TSub.sub (by kcj_all))
  k_with "mine drop" => (first | (refine' Mine.DropAt.head ?a; (case a => k_all)) | (refine' Mine.DropAt.tail ?a ?b; (case a => k_ne); (case b => walk_at "mine drop")))
  k_with "UnrEnd" => ((refine' Mine.unrEnd_drop ?k1 ?k2 ?k3 ?_; (case k1 => k_asm); (case k2 => k_asm); (case k3 => walk_at "mine drop")))
  k_with "mine sub" => (first | exact fun _ h => h | assumption | exact Mine.subNil | (refine' Mine.subCons ?u1 ?u2; (case u1 => k_mem); (case u2 => walk_at "mine sub")) | (refine Mine.subTail ?_; walk_at "mine sub"))
  k_with "eval Subscript" => (((with_reducible show wpAny _ _ (eval (Expr.Subscript (Expr.IfExp _ _ _ _) _ _) _) _ _ _); k_extra "mine ifx"))
  k_with "pyIter ref" => (((with_reducible show wpAny _ _ (pyIter (Value.ref _)) (fun it s₂ => TurnsAt _ _ _ _ _ _ _ _ _ it s₂) _ _); k_extra "mine iter"))
  w_top off
  have : Challenge.rw_rl0103_02 = Challenge.rw_rl0103_02 ∧ Mine.hd.heap_39 = Mine.hd.heap_39 := by k_fill; exact ⟨rfl, rfl⟩
  intro cn names ig ic more a ccd cl outer A₀ base h₀ L m mean mg mb s Q E B F X N T hret
  k_with "mine for" => (walk_at "mine turns")
  k_with "mine iter" => (refine Mine.Hold.intro ?_)
  k_steps
  unfold Hold
  have htl : NeA tN lN := by walk_at "mine lt"
  have hdl : NeA dN lN := by walk_at "mine lt"
  have offN : Off lN news := offAll (ltUp (Nat.lt_trans vN wN) uN)
  have hes10 : es.length ≤ 10 := hes.length_le
  have hyl := hP.length
  refine iter_list (TabJ _ tN dN lN aN bN news es) rfl (by k_asm) (by k_asm) (by k_mem) ⟨fun _ _ => rfl, [], 0, [], [], rfl, .nil, rfl, rfl, fun _ h => nomatch h⟩ ?_ ?_
  · rintro i v m₁ news₁ h tk I oI hv ⟨hm, vs, nv, tups, kvs, rfl, hH, hlow, hvl, hgt⟩ hI hl F1 N1
    rw [← mapKey hm] at F1
    obtain ⟨a', x, y, t1, t2, p, rfl, hpp, rfl, rfl, hmt⟩ := hP.at hv
    have hmt' := List.mem_append_right tups hmt
    have h1' := List.mem_append_right tups h1
    k_steps
    unfold Hold
    rename_i tA _ aA tB _ aB l2 _ FQ NQ lQ
    have i10 : i < 10 := by
      rcases Nat.lt_or_ge i 10 with k | k
      · exact k
      · rw [List.getElem?_eq_none (by omega)] at hv; cases hv
    have p4 : p.1 ≤ 4 ∧ p.2 ≤ 4 := all4 p (hes.mem (List.mem_of_getElem? hpp))
    refine iter_list (Tab2J _ tN dN lN aN bN news kvs [(p.1, p.2), (p.2, p.1)] (2 * i) [(l2, _), (tB, _), (tA, _), (I, oI)]) rfl FQ NQ (.head _) ⟨fun _ _ => rfl, vs, nv, tups, kvs, rfl, hH, by simp [onesOf], hvl, hgt, fun q hq => by rw [List.mem_singleton.mp hq]; exact hI⟩ ?_ ?_
    · rintro i2 v2 m₂ news₂ h₂ tk₂ I2 oI2 hv2 ⟨hm2, vs2, nv2, tups2, kvs2, rfl, hH2, hlow2, hvl2, hgt2, hoI⟩ hI2 hl2 F2 N2
      rw [← mapKey hm2] at F2
      dsimp only [List.cons_append, List.nil_append] at N2
      obtain ⟨tt, c, d', tc, td, rfl, hmt2, hcd, hc4, hd4⟩ := two_item N2 hv2 p4.1 p4.2
      k_with "mine ifx" => (refine Mine.Hold.intro ?_)
      k_steps
      unfold Hold
      refine ifx (isLet c) ?_ ?_
      · k_with_none
        k_with "getMethod ref" => ((k_here; (with_reducible show wpAny _ _ (getMethod (Value.ref _) (Str.ofString "search") _) _ _ _); k_dflt (refine' Mine.meth_search ?k1 ?k2 ?k3 ?k4 ?k5 ?_; (case k1 => k_asm); (case k2 => k_asm); (case k3 => k_is); (case k4 => rfl); (case k5 => rfl); k_whole)))
        k_with "call builtin:re.Pattern.search" => ((k_here; k_dflt (refine' Mine.call_search ?k1 ?k2 ?k3 ?k4 ?k5 ?_; (case k1 => k_asm); (case k2 => k_asm); (case k3 => k_is); (case k4 => rfl); (case k5 => first | with_reducible exact Mine.srchN _ _ _ (by assumption) | with_reducible exact Mine.srchV _ _ _ (by assumption)); k_whole)))
        k_with "mine use" => (((case k1 => k_asm); (case k2 => k_asm); (case k3 => k_asm); (case k4 => k_asm); (case k5 => k_asm); (case kd => exact Nat.le_of_ble_eq_true rfl); (case ku => exact Nat.le_of_ble_eq_true rfl)))
        k_with "mine lt" => ((walk_at "mine and"; first | omega | assumption | exact allLt_of (by assumption) | exact Mine.ltUp (by omega) (by assumption) | exact Mine.ltUp (by omega) (allLt_of (by assumption))))
        k_with "mine letter" => (first | assumption | exact Mine.Letter.lower (by assumption) | exact Mine.Letter.upper (by assumption) | exact Mine.Letter.lower (Mine.Letter.upper (by assumption)))
        k_with "call builtin:str.lower" => ((k_here; k_dflt (refine Mine.lower_L (by walk_at "mine letter") ?_)))
        k_with "call builtin:str.upper" => ((k_here; k_dflt (refine Mine.upper_L (by walk_at "mine letter") ?_)))
        k_with "eval ListComp" => (k_extra "mine comp")
        k_with "CompRestT" => (k_extra "mine restT")
        k_with "CompRest" => (k_extra "mine rest")
        k_with "exec For Tuple Attribute cons nil" => (k_extra "mine for")
        k_with "exec For Tuple Name cons nil" => (k_extra "mine for")
        k_with "exec While Compare cons nil" => (k_extra "mine while")
        k_with "delItem ref" => ((k_here; k_dflt (refine' Mine.own_delItem ?F ?X ?I ?hQ ?hS ?hF ?_; (case F => k_asm); (case X => k_asm); (case I => k_inst); (case hS => k_is); (case hF => k_is); (case hQ => k_is); k_whole)))
        k_with "mine hdrs" => (first | assumption | exact Mine.Hdrs.mono (by kcj_all) (by assumption))
        k_with "call ref" => ((k_here; k_dflt (refine' Mine.Spec.use (Mine.ent_spec _ _) ?k1 ?k2 ?k3 ?k4 ?k5 ?kd ?ku ?_; walk_at "mine use"; k_whole; intro rE nE hE tkE FE NE RE; obtain ⟨xE, dE, uE, vE, aE, bE, cE, fE, eE, eE', lE, mE, oE, pE⟩ := RE; subst eE eE'; (try (replace lE := Mine.ltOf lE; k_lt lE)); (try dsimp only); (try k_sweep); (try k_fold))))
        k_with "call ref" => ((k_here; k_dflt (refine' Mine.Spec.use (Mine.merge_spec _ _ _ _ _ _ _ _ _ _ _ _ _ _ _ _ _ _ _ _ _ _ _ _ _ _ _ _ _ _ ?h1 ?h2 ?h3 ?h4 ?g1 ?g2 ?g3 ?g4 ?y1 ?y2 ?z1 ?z2 ?z3 ?z4) ?k1 ?k2 ?k3 ?k4 ?k5 ?kd ?ku ?_; walk_at "mine use"; (case h1 => k_mem); (case h2 => k_mem); (case h3 => k_mem); (case h4 => k_mem); (case g1 => k_mem); (case g2 => k_mem); (case g3 => k_mem); (case g4 => k_mem); (case y1 => walk_at "mine strs"); (case y2 => walk_at "mine strs"); (case z1 => walk_at "mine len"); (case z2 => walk_at "mine len"); (case z3 => walk_at "mine len"); (case z4 => walk_at "mine len"); k_whole; intro rM nM hM tkM FM NM RM; obtain ⟨xM, dM, uM, vM, sM, aM, bM, cM, fM, gM, iM, jM, eM, eM', SM, zM, lM, mM, oM, pM⟩ := RM; subst eM eM'; (try (replace lM := Mine.ltOf lM; k_lt lM)); (try dsimp only); (try k_sweep); (try k_fold))))
        k_with "mine strs" => (first | assumption | exact StrsAre.nil | (refine StrsAre.cons _ _ ?_; walk_at "mine strs"))
        k_with "mine len" => (first | assumption | omega | (simp only [List.length_cons, List.length_nil, List.length_append]; omega))
        k_with "mine hdrs" => (first | assumption | (refine Mine.Hdrs.mono ?hs9 (by assumption); kcj_all))
        k_with "subscriptTail Name Constant ref int" => (k_extra "mine item")
        k_with "subscriptTail Attribute Name Constant ref int" => (k_extra "mine item")
        k_with "mine len" => ((simp only [List.length_cons, List.length_nil, List.length_append, List.length_take, List.length_reverse]; omega))
        k_with "call ref" => ((k_here; k_dflt (refine' Mine.Spec.use (Mine.new_spec _ _) ?k1 ?k2 ?k3 ?k4 ?k5 ?kd ?ku ?_; walk_at "mine use"; k_whole; intro rN nN hN tkN FN NN RN; obtain ⟨tN, dN, lN, aN, bN, eN, eN', uN, vN, wN⟩ := RN; subst eN eN'; (try (replace uN := Mine.ltOf uN; k_lt uN)); (try dsimp only); (try k_sweep); (try k_fold))))
        k_with "mine letter" => ((show _ ∈ Mine.letters; decide +kernel))
        k_with "mine hdrs" => (exact Mine.Hdrs.nil)
        k_with "mine len" => (first | assumption | omega | (simp only [List.length_cons, List.length_nil, List.length_append, List.length_take, List.length_reverse] <;> omega) | (subst_vars; (simp only [List.length_cons, List.length_nil, List.length_append, List.length_take, List.length_reverse] <;> omega)))
        k_with "mine tsub" => (first | exact Mine.TSub.nil | exact Mine.TSub.sub (fun _ h => h) | (refine Mine.TSub.keep (by k_mem) ?_; walk_at "mine tsub") | (refine Mine.TSub.skip (by k_cls) ?_; walk_at "mine tsub") | exact Mine.TSub.sub (by kcj_all))
        k_with "mine drop" => (first | (refine' Mine.DropAt.head ?a; (case a => k_all)) | (refine' Mine.DropAt.tail ?a ?b; (case a => k_ne); (case b => walk_at "mine drop")))
        k_with "UnrEnd" => ((refine' Mine.unrEnd_drop ?k1 ?k2 ?k3 ?_; (case k1 => k_asm); (case k2 => k_asm); (case k3 => walk_at "mine drop")))
        k_with "mine sub" => (first | exact fun _ h => h | assumption | exact Mine.subNil | (refine' Mine.subCons ?u1 ?u2; (case u1 => k_mem); (case u2 => walk_at "mine sub")) | (refine Mine.subTail ?_; walk_at "mine sub"))
        k_with "eval Subscript" => (((with_reducible show wpAny _ _ (eval (Expr.Subscript (Expr.IfExp _ _ _ _) _ _) _) _ _ _); k_extra "mine ifx"))
        k_with "pyIter ref" => (((with_reducible show wpAny _ _ (pyIter (Value.ref _)) (fun it s₂ => TurnsAt _ _ _ _ _ _ _ _ _ it s₂) _ _); k_extra "mine iter"))
        k_steps
        · exact ⟨up5 hc4 _, _, rfl⟩
        · exact ⟨lo5 hc4 _, _, rfl⟩
      · rintro v9 tk9 ⟨x9, t9, rfl, hx9, lx9⟩
        have hy9 : Letter (Txt.item (Str.ofString "abcde") (d' : Int)) := let5 hd4
        k_steps
        unfold Hold
        refine' Spec.use (add_pre w [(I2, oI2), (l2, _), (tB, _), (tA, _), (I, oI)] tN dN lN aN bN 1 nv2 vs2 kvs2 x9 _ t9 _ hx9 hy9 (tups2 ++ news) hH2 ?o1 ?o2 htl hdl ?o3) ?k1 ?k2 ?k3 ?k4 ?k5 ?kd ?ku ?_
        case o1 => exact fun p hp => (List.mem_append.mp hp).elim (fun h => Nat.ne_of_gt (hgt2 p h)) (offN p)
        case o2 =>
          intro q hq
          simp only [List.mem_cons, List.not_mem_nil, or_false] at hq
          rcases hq with rfl | rfl | rfl | rfl | rfl
          · exact fun e => hI2 (lN, _) (.tail _ (.tail _ (.tail _ (.tail _ (.head _))))) e.symm
          · exact Nat.ne_of_gt lQ.2.2.2.1
          · exact Nat.ne_of_gt aB.2.2.1
          · exact Nat.ne_of_gt aA.2.1
          · exact fun e => hI (lN, _) (.head _) e.symm
        case o3 =>
          have i22 : i2 < 2 := by
            rcases Nat.lt_or_ge i2 2 with k | k
            · exact k
            · rw [List.getElem?_eq_none (by simpa using k)] at hv2; cases hv2
          omega
        case k1 => k_asm
        case k2 => k_asm
        case k3 => k_asm
        case k4 => k_asm
        case k5 => k_asm
        case kd => exact Nat.le_of_ble_eq_true rfl
        case ku => exact Nat.le_of_ble_eq_true rfl
        intro rA nA hA tkA FA NA RA
        obtain ⟨aN', oA, vA, cA, eA, eA', HA, zA, qa, qb, qc⟩ := RA
        subst eA eA'
        dsimp only [List.cons_append, List.nil_append] at NA
        (try dsimp only)
        k_steps
        refine TurnM.next ([(l2, _), (tB, _), (tA, _), (I, oI)] ++ (lN, listOf vA.toArray cA) :: (tN, instObj 182 dN) :: (dN, hdrDict aN bN lN 1) :: (((aN', oA) :: tups2) ++ news)) (by k_asm) (by k_asm) ?_ ?_ ?_ ⟨?_, vA, cA, (aN', oA) :: tups2, _, rfl, HA, ?_, by omega, List.forall_mem_cons.mpr ⟨qa, hgt2⟩, ?_⟩
        · dsimp only [List.cons_append, List.nil_append]
          walk_at "mine sub"
        · exact off_ins hI2 (Nat.ne_of_gt qb.1)
        · exact .head _
        · walk_at "mine same"
        · rw [List.take_add_one, hcd]
          simp only [lowOf, List.map_append, List.map_cons, List.map_nil, lx9, it5 hd4]
          unfold lowOf at hlow2
          rw [hlow2]
          simp [onesOf]
        · intro q hq
          have e : q = (I, oI) := by simpa using hq
          subst e
          exact off_ins (pre := []) (hoI (I, oI) (by simp)) (Nat.ne_of_gt qb.2.2.2.2.1)
    · rintro m₂ news₂ h₂ tk₂ ⟨hm2, vs2, nv2, tups2, kvs2, rfl, hH2, hlow2, hvl2, hgt2, hoI⟩ F2 N2
      rw [← mapKey hm2] at F2
      dsimp only [List.cons_append, List.nil_append] at N2
      k_steps
      refine TurnM.next ((lN, listOf vs2.toArray nv2) :: (tN, instObj 182 dN) :: (dN, hdrDict aN bN lN 1) :: (tups2 ++ news)) (by k_asm) (by k_asm) ?_ ?_ ?_ ⟨?_, vs2, nv2, tups2, kvs2, rfl, hH2, ?_, ?_, hgt2⟩
      · walk_at "mine sub"
      · exact hoI (I, oI) (by simp)
      · exact .tail _ (.tail _ (.tail _ (List.mem_append_right tups2 h1)))
      · walk_at "mine same"
      · rw [hlow2, hlow, List.take_add_one, hpp]
        simp [onesOf, G.arcs]
      · rw [hvl2]; simp only [List.length_cons, List.length_nil]; omega
  · rintro m₁ news₁ h tk ⟨hm, vs, nv, tups, kvs, rfl, hH, hlow, hvl, hgt⟩ F1 N1
    rw [← mapKey hm] at F1
    k_steps
    rw [List.take_of_length_le (by omega)] at hlow
    exact hret _ _ _ _ (by k_asm) (by k_asm) ⟨tN, dN, lN, aN, bN, vs, 1, nv, tups, kvs, rfl, rfl, hH, hlow, by omega, uN, vN, wN, hgt⟩
end Mine


namespace Mine
/-- an entry of the ledger: its agents -/
def EntAt (w : World) (G : Led) (v : Value) (ys : List Str) : Prop := ∃ x d u r k1 k2 k3 k4 n1 n2 n3 us, v = .ref x ∧ (x, instObj 224 d) ∈ G ∧ (d, entDict w k1 k2 k3 k4 u r n1) ∈ G ∧ (u, listOf us.toArray n2) ∈ G ∧ (r, listOf ([] : List Value).toArray n3) ∈ G ∧ StrsAre us ys ∧ us.length ≤ 100
theorem EntAt.mono {w : World} {G G' : Led} {v : Value} {ys : List Str} (h : EntAt w G v ys) (hs : ∀ p ∈ G, p ∈ G') : EntAt w G' v ys := by
  obtain ⟨x, d, u, r, k1, k2, k3, k4, n1, n2, n3, us, e, a, b, c, d', h⟩ := h
  exact ⟨x, d, u, r, k1, k2, k3, k4, n1, n2, n3, us, e, hs _ a, hs _ b, hs _ c, hs _ d', h⟩
section
variable {prog : Program} {w : World} {A : Around} {E : Value → Shared → Prop} {s : Shared} {h₀ : Heap} {L : Addr} {news : Led}
theorem item_L {value slice : Expr} {l : Addr} {vs : List Value} {n : Nat} {k : Int} {u : Tok} {x : Value} {Q : Value → Shared → Prop} (N : News h₀ L s.heap news) (hl : (l, listOf vs.toArray n) ∈ news)
    (h0 : 0 ≤ k) (hfit : k < 2 ^ 63) (hx : vs[k.toNat]? = some x) (h : Q x s)
    (hs : subscripted slice false (.ref l) (.int k u) = operate [.ref l, .int k u] (getItem (.ref l) (.int k u)) := by with_unfolding_all rfl) (hg : ∀ r, letTemporaryGo value (.ref l) r = pure () := by intro _; with_unfolding_all rfl) :
    wpAny (model prog w) A (subscriptTail value slice (.ref l) (.int k u)) Q E s :=
  PyProof.Rows.item_list (News.isList N hl) h0 hfit (by simpa using hx) h hs hg
end
theorem record_spec (w : World) (l : Addr) (k : Nat) (ys : List Value) (xs : List Str) (news : Led) (h1 : (l, listOf ys.toArray k) ∈ news) (hS : StrsAre ys xs) (hz : ys.length ≤ 100) :
   Spec w 350 3000 261 [.ref l] [] news (fun r' news' => ∃ x d u r k1 k2 k3 k4 n, r' = .ref x ∧ news' = (x, instObj 224 d) :: (d, entDict w k1 k2 k3 k4 u r 4) :: (u, listOf ys.toArray n) :: (r, listOf ([] : List Value).toArray 0) :: news ∧ AllLt d news ∧ LtA d x ∧ LtA x u ∧ LtA u r) := by
  k_with_none
  k_with "getMethod ref" => ((k_here; (with_reducible show wpAny _ _ (getMethod (Value.ref _) (Str.ofString "search") _) _ _ _); k_dflt (refine' Mine.meth_search ?k1 ?k2 ?k3 ?k4 ?k5 ?_; (case k1 => k_asm); (case k2 => k_asm); (case k3 => k_is); (case k4 => rfl); (case k5 => rfl); k_whole)))
  k_with "call builtin:re.Pattern.search" => ((k_here; k_dflt (refine' Mine.call_search ?k1 ?k2 ?k3 ?k4 ?k5 ?_; (case k1 => k_asm); (case k2 => k_asm); (case k3 => k_is); (case k4 => rfl); (case k5 => first | with_reducible exact Mine.srchN _ _ _ (by assumption) | with_reducible exact Mine.srchV _ _ _ (by assumption)); k_whole)))
  k_with "mine use" => (((case k1 => k_asm); (case k2 => k_asm); (case k3 => k_asm); (case k4 => k_asm); (case k5 => k_asm); (case kd => exact Nat.le_of_ble_eq_true rfl); (case ku => exact Nat.le_of_ble_eq_true rfl)))
  k_with "mine lt" => ((walk_at "mine and"; first | omega | assumption | exact allLt_of (by assumption) | exact Mine.ltUp (by omega) (by assumption) | exact Mine.ltUp (by omega) (allLt_of (by assumption))))
  k_with "mine letter" => (first | assumption | exact Mine.Letter.lower (by assumption) | exact Mine.Letter.upper (by assumption) | exact Mine.Letter.lower (Mine.Letter.upper (by assumption)))
  k_with "call builtin:str.lower" => ((k_here; k_dflt (refine Mine.lower_L (by walk_at "mine letter") ?_)))
  k_with "call builtin:str.upper" => ((k_here; k_dflt (refine Mine.upper_L (by walk_at "mine letter") ?_)))
  k_with "eval ListComp" => (k_extra "mine comp")
  k_with "CompRestT" => (k_extra "mine restT")
  k_with "CompRest" => (k_extra "mine rest")
  k_with "exec For Tuple Attribute cons nil" => (k_extra "mine for")
  k_with "exec For Tuple Name cons nil" => (k_extra "mine for")
  k_with "exec While Compare cons nil" => (k_extra "mine while")
  k_with "delItem ref" => ((k_here; k_dflt (refine' Mine.own_delItem ?F ?X ?I ?hQ ?hS ?hF ?_; (case F => k_asm); (case X => k_asm); (case I => k_inst); (case hS => k_is); (case hF => k_is); (case hQ => k_is); k_whole)))
  k_with "mine hdrs" => (first | assumption | exact Mine.Hdrs.mono (by kcj_all) (by assumption))
  k_with "call ref" => ((k_here; k_dflt (refine' Mine.Spec.use (Mine.ent_spec _ _) ?k1 ?k2 ?k3 ?k4 ?k5 ?kd ?ku ?_; walk_at "mine use"; k_whole; intro rE nE hE tkE FE NE RE; obtain ⟨xE, dE, uE, vE, aE, bE, cE, fE, eE, eE', lE, mE, oE, pE⟩ := RE; subst eE eE'; (try (replace lE := Mine.ltOf lE; k_lt lE)); (try dsimp only); (try k_sweep); (try k_fold))))
  k_with "call ref" => ((k_here; k_dflt (refine' Mine.Spec.use (Mine.merge_spec _ _ _ _ _ _ _ _ _ _ _ _ _ _ _ _ _ _ _ _ _ _ _ _ _ _ _ _ _ _ ?h1 ?h2 ?h3 ?h4 ?g1 ?g2 ?g3 ?g4 ?y1 ?y2 ?z1 ?z2 ?z3 ?z4) ?k1 ?k2 ?k3 ?k4 ?k5 ?kd ?ku ?_; walk_at "mine use"; (case h1 => k_mem); (case h2 => k_mem); (case h3 => k_mem); (case h4 => k_mem); (case g1 => k_mem); (case g2 => k_mem); (case g3 => k_mem); (case g4 => k_mem); (case y1 => walk_at "mine strs"); (case y2 => walk_at "mine strs"); (case z1 => walk_at "mine len"); (case z2 => walk_at "mine len"); (case z3 => walk_at "mine len"); (case z4 => walk_at "mine len"); k_whole; intro rM nM hM tkM FM NM RM; obtain ⟨xM, dM, uM, vM, sM, aM, bM, cM, fM, gM, iM, jM, eM, eM', SM, zM, lM, mM, oM, pM⟩ := RM; subst eM eM'; (try (replace lM := Mine.ltOf lM; k_lt lM)); (try dsimp only); (try k_sweep); (try k_fold))))
  k_with "mine strs" => (first | assumption | exact StrsAre.nil | (refine StrsAre.cons _ _ ?_; walk_at "mine strs"))
  k_with "mine len" => (first | assumption | omega | (simp only [List.length_cons, List.length_nil, List.length_append]; omega))
  k_with "mine hdrs" => (first | assumption | (refine Mine.Hdrs.mono ?hs9 (by assumption); kcj_all))
  k_with "subscriptTail Name Constant ref int" => (k_extra "mine item")
  k_with "subscriptTail Attribute Name Constant ref int" => (k_extra "mine item")
  k_with "mine len" => ((simp only [List.length_cons, List.length_nil, List.length_append, List.length_take, List.length_reverse]; omega))
  k_with "call ref" => ((k_here; k_dflt (refine' Mine.Spec.use (Mine.new_spec _ _) ?k1 ?k2 ?k3 ?k4 ?k5 ?kd ?ku ?_; walk_at "mine use"; k_whole; intro rN nN hN tkN FN NN RN; obtain ⟨tN, dN, lN, aN, bN, eN, eN', uN, vN, wN⟩ := RN; subst eN eN'; (try (replace uN := Mine.ltOf uN; k_lt uN)); (try dsimp only); (try k_sweep); (try k_fold))))
  k_with "mine letter" => ((show _ ∈ Mine.letters; decide +kernel))
  k_with "mine hdrs" => (exact Mine.Hdrs.nil)
  k_with "mine len" => (first | assumption | omega | (simp only [List.length_cons, List.length_nil, List.length_append, List.length_take, List.length_reverse] <;> omega) | (subst_vars; (simp only [List.length_cons, List.length_nil, List.length_append, List.length_take, List.length_reverse] <;> omega)))
  k_with "mine tsub" => (first | exact Mine.TSub.nil | exact Mine.TSub.sub (fun _ h => h) | (refine Mine.TSub.keep (by k_mem) ?_; walk_at "mine tsub") | (refine Mine.TSub.skip (by k_cls) ?_; walk_at "mine tsub") | exact Mine.TSub.sub (by kcj_all))
  k_with "mine drop" => (first | (refine' Mine.DropAt.head ?a; (case a => k_all)) | (refine' Mine.DropAt.tail ?a ?b; (case a => k_ne); (case b => walk_at "mine drop")))
  k_with "UnrEnd" => ((refine' Mine.unrEnd_drop ?k1 ?k2 ?k3 ?_; (case k1 => k_asm); (case k2 => k_asm); (case k3 => walk_at "mine drop")))
  k_with "mine sub" => (first | exact fun _ h => h | assumption | exact Mine.subNil | (refine' Mine.subCons ?u1 ?u2; (case u1 => k_mem); (case u2 => walk_at "mine sub")) | (refine Mine.subTail ?_; walk_at "mine sub"))
  w_top off
  have : Challenge.rw_rl0103_02 = Challenge.rw_rl0103_02 ∧ Mine.hd.heap_39 = Mine.hd.heap_39 := by k_fill; exact ⟨rfl, rfl⟩
  intro cn names ig ic more a ccd cl outer A₀ base h₀ L m mean mg mb s Q E B F X N T hret
  k_steps
  refine hret _ ((xE, instObj 224 dE) :: (dE, entDict w aE bE cE fE uE vE 4) :: (uE, listOf ys.toArray _) :: (vE, listOf ([] : List Value).toArray 0) :: news) _ _ (by k_asm) (cb_drop (by k_asm) (by kcj_all)) ⟨_, _, _, _, _, _, _, _, _, rfl, rfl, ?_, ?_, ?_, ?_⟩
  all_goals walk_at "mine lt"
end Mine

local macro_rules | `(tactic| walk_at "subscriptTail Name Name ref int") => `(tactic| k_extra "subscriptTail Name Name ref int")

namespace Mine
local macro_rules | `(tactic| walk_at "exec For Name Call cons nil") => `(tactic| k_extra "exec For Name Call cons nil")
local macro_rules | `(tactic| walk_at "pyIter ref") => `(tactic| k_extra "pyIter ref")
theorem one_inj {p q : Nat} : one p = one q ↔ p = q := by
  constructor
  · intro h
    have := congrArg (fun s : Str => s.cps.toList) h
    simp [one] at this
    exact this
  · rintro rfl; rfl
theorem countOne (j : Nat) : ∀ P : List Nat, Spec.countIn (.str (one j)) ((P.map one).map PyData.str) = ((P.count j : Nat) : Int)
  | [] => rfl
  | p :: P => by
    rw [List.map_cons, List.map_cons, Spec.countIn, countOne j P, List.count_cons]
    by_cases h : p = j
    · subst h
      have e : Spec.same (.str (one p)) (.str (one p)) = true := by show ((one p == one p) : Bool) = true; exact beq_self_eq_true _
      rw [e]; simp; omega
    · have e : Spec.same (.str (one p)) (.str (one j)) = false := by show ((one p == one j) : Bool) = false; exact beq_eq_false_iff_ne.mpr fun k => h (one_inj.mp k)
      have e2 : (p == j) = false := beq_eq_false_iff_ne.mpr h
      rw [e, e2]; simp
theorem anyOne (b : List Nat) (p : Nat) : (b.map one).any (· == one p) = b.any (· == p) := by
  induction b with
  | nil => rfl
  | cons q b ih =>
    rw [List.map_cons, List.any_cons, ih, List.any_cons]
    congr 1
    by_cases h : q = p
    · subst h; simp
    · rw [beq_eq_false_iff_ne.mpr (fun e => h (one_inj.mp e)), beq_eq_false_iff_ne.mpr h]
theorem filterOne (a b : List Nat) : (a.map one).filter (fun k => (b.map one).any (· == k)) = (a.filter fun k => b.any (· == k)).map one := by
  rw [List.filter_map]
  congr 1
  exact List.filter_congr fun p _ => anyOne b p
section
variable {prog : Program} {w : World} {A : Around} {E : Value → Shared → Prop} {s : Shared} {h₀ : Heap} {L D : Addr} {news : Led}
theorem lenRef_L {us : List Value} {n : Nat} {Q : Value → Shared → Prop} (N : News h₀ L s.heap news) (hl : (D, listOf us.toArray n) ∈ news) (hz : us.length ≤ 1000) (h : ∀ t' k, Q (.int (us.length : Int) t') { s with toks := k }) : wpAny (model prog w) A (call (.builtin "len") [.ref D]) Q E s :=
  kun_lenL (k := (us.length : Int)) (News.isList N hl) (by rw [List.size_toArray]) (by omega) (h _ _)
theorem count_L {us : List Value} {n j : Nat} {P : List Nat} {x : Str} {t : Tok} {Q : Value → Shared → Prop} (N : News h₀ L s.heap news) (hl : (D, listOf us.toArray n) ∈ news) (hS : StrsAre us (P.map one)) (hx : x = one j) (h : ∀ t' k, Q (.int ((P.count j : Nat) : Int) t') { s with toks := k }) :
    wpAny (model prog w) A (call (.builtin "list.count") [.ref D, .str x t]) Q E s := by
  subst hx
  refine count_list_strs (News.isList N hl) hS ?_
  rw [countOne]
  exact h _ _
end
set_option hygiene false
local macro_rules | `(tactic| walk_at "call builtin:len") => `(tactic| k_extra "call builtin:len")
local macro_rules | `(tactic| walk_at "call builtin:list.count") => `(tactic| k_extra "call builtin:list.count")
set_option hygiene true
theorem rng5_small : ∀ i : Nat, i < 6 → Builtin.Range.small 0 (i : Int) 1 = true := by decide
theorem rng5_size : ∀ i : Nat, i < 6 → Builtin.Range.rangeSize 0 (i : Int) 1 = ((i : Nat) : Int) := by decide
/-- the outer loop -/
def NestJ (m₀ : Str → Option Value) (A5 : List (Nat × Nat)) (news : Led) (i : Nat) (m₁ : Str → Option Value) (news₁ : Led) : Prop :=
  (∀ z, [Str.ofString "i", Str.ofString "j", Str.ofString "one", Str.ofString "other", Str.ofString "shared"].contains z = false → m₁ z = m₀ z) ∧ news₁ = news ∧ ∀ i', i' < i → ∀ j', j' < i' → G.nest2 (G.fr A5 i') (G.fr A5 j') j' = true
/-- the inner loop -/
def Nest2J (m₀ : Str → Option Value) (A5 : List (Nat × Nat)) (news : Led) (i : Nat) (j : Nat) (m₁ : Str → Option Value) (news₁ : Led) : Prop :=
  (∀ z, [Str.ofString "j", Str.ofString "one", Str.ofString "other", Str.ofString "shared"].contains z = false → m₁ z = m₀ z) ∧ news₁ = news ∧ ∀ j', j' < j → G.nest2 (G.fr A5 i) (G.fr A5 j') j' = true
theorem nest2_of_ne {one other : List Nat} {j : Nat} (h : (((one.filter fun k => other.any (· == k)).length : Nat) : Int) ≠ (if ((other.length : Nat) : Int) < ((one.length : Nat) : Int) then ((other.length : Nat) : Int) else ((one.length : Nat) : Int)) - ((one.count j : Nat) : Int)) : G.nest2 one other j = false := by
  unfold G.nest2
  refine beq_eq_false_iff_ne.mpr fun e => h ?_
  rw [e]
  congr 1
  split <;> omega
theorem nest2_of_eq {one other : List Nat} {j : Nat} (h : (((one.filter fun k => other.any (· == k)).length : Nat) : Int) = (if ((other.length : Nat) : Int) < ((one.length : Nat) : Int) then ((other.length : Nat) : Int) else ((one.length : Nat) : Int)) - ((one.count j : Nat) : Int)) : G.nest2 one other j = true := by
  unfold G.nest2
  rw [beq_iff_eq, h]
  congr 1
  split <;> omega
theorem nested_false {A5 : List (Nat × Nat)} {i j : Nat} (hi : i < 5) (hj : j < i) (h : G.nest2 (G.fr A5 i) (G.fr A5 j) j = false) : G.nested A5 = false := by
  cases e : G.nested A5 with
  | false => rfl
  | true =>
    unfold G.nested at e
    rw [List.all_eq_true] at e
    have e2 := e i (List.mem_range.mpr hi)
    rw [List.all_eq_true] at e2
    rw [e2 j (List.mem_range.mpr hj)] at h; cases h
theorem nested_true {A5 : List (Nat × Nat)} (h : ∀ i, i < 5 → ∀ j, j < i → G.nest2 (G.fr A5 i) (G.fr A5 j) j = true) : G.nested A5 = true := by
  unfold G.nested
  rw [List.all_eq_true]
  intro i hi
  rw [List.all_eq_true]
  exact fun j hj => h i (List.mem_range.mp hi) j (List.mem_range.mp hj)
theorem nested_spec (w : World) (lr : Addr) (nr : Nat) (rs : List Value) (A5 : List (Nat × Nat)) (news : Led) (h1 : (lr, listOf rs.toArray nr) ∈ news) (hr : ∀ i, i < 5 → ∃ v, rs[i]? = some v ∧ EntAt w news v ((G.fr A5 i).map one)) :
   Spec w 350 3000 268 [.ref lr] [] news (fun r news' => news' = news ∧ r = .bool (G.nested A5)) := by
  k_with_none
  k_with "getMethod ref" => ((k_here; (with_reducible show wpAny _ _ (getMethod (Value.ref _) (Str.ofString "search") _) _ _ _); k_dflt (refine' Mine.meth_search ?k1 ?k2 ?k3 ?k4 ?k5 ?_; (case k1 => k_asm); (case k2 => k_asm); (case k3 => k_is); (case k4 => rfl); (case k5 => rfl); k_whole)))
  k_with "call builtin:re.Pattern.search" => ((k_here; k_dflt (refine' Mine.call_search ?k1 ?k2 ?k3 ?k4 ?k5 ?_; (case k1 => k_asm); (case k2 => k_asm); (case k3 => k_is); (case k4 => rfl); (case k5 => first | with_reducible exact Mine.srchN _ _ _ (by assumption) | with_reducible exact Mine.srchV _ _ _ (by assumption)); k_whole)))
  k_with "mine use" => (((case k1 => k_asm); (case k2 => k_asm); (case k3 => k_asm); (case k4 => k_asm); (case k5 => k_asm); (case kd => exact Nat.le_of_ble_eq_true rfl); (case ku => exact Nat.le_of_ble_eq_true rfl)))
  k_with "mine lt" => ((walk_at "mine and"; first | omega | assumption | exact allLt_of (by assumption) | exact Mine.ltUp (by omega) (by assumption) | exact Mine.ltUp (by omega) (allLt_of (by assumption))))
  k_with "mine letter" => (first | assumption | exact Mine.Letter.lower (by assumption) | exact Mine.Letter.upper (by assumption) | exact Mine.Letter.lower (Mine.Letter.upper (by assumption)))
  k_with "call builtin:str.lower" => ((k_here; k_dflt (refine Mine.lower_L (by walk_at "mine letter") ?_)))
  k_with "call builtin:str.upper" => ((k_here; k_dflt (refine Mine.upper_L (by walk_at "mine letter") ?_)))
  k_with "eval ListComp" => (k_extra "mine comp")
  k_with "CompRestT" => (k_extra "mine restT")
  k_with "CompRest" => (k_extra "mine rest")
  k_with "exec For Tuple Attribute cons nil" => (k_extra "mine for")
  k_with "exec For Tuple Name cons nil" => (k_extra "mine for")
  k_with "exec While Compare cons nil" => (k_extra "mine while")
  k_with "delItem ref" => ((k_here; k_dflt (refine' Mine.own_delItem ?F ?X ?I ?hQ ?hS ?hF ?_; (case F => k_asm); (case X => k_asm); (case I => k_inst); (case hS => k_is); (case hF => k_is); (case hQ => k_is); k_whole)))
  k_with "mine hdrs" => (first | assumption | exact Mine.Hdrs.mono (by kcj_all) (by assumption))
  k_with "call ref" => ((k_here; k_dflt (refine' Mine.Spec.use (Mine.ent_spec _ _) ?k1 ?k2 ?k3 ?k4 ?k5 ?kd ?ku ?_; walk_at "mine use"; k_whole; intro rE nE hE tkE FE NE RE; obtain ⟨xE, dE, uE, vE, aE, bE, cE, fE, eE, eE', lE, mE, oE, pE⟩ := RE; subst eE eE'; (try (replace lE := Mine.ltOf lE; k_lt lE)); (try dsimp only); (try k_sweep); (try k_fold))))
  k_with "call ref" => ((k_here; k_dflt (refine' Mine.Spec.use (Mine.merge_spec _ _ _ _ _ _ _ _ _ _ _ _ _ _ _ _ _ _ _ _ _ _ _ _ _ _ _ _ _ _ ?h1 ?h2 ?h3 ?h4 ?g1 ?g2 ?g3 ?g4 ?y1 ?y2 ?z1 ?z2 ?z3 ?z4) ?k1 ?k2 ?k3 ?k4 ?k5 ?kd ?ku ?_; walk_at "mine use"; (case h1 => k_mem); (case h2 => k_mem); (case h3 => k_mem); (case h4 => k_mem); (case g1 => k_mem); (case g2 => k_mem); (case g3 => k_mem); (case g4 => k_mem); (case y1 => walk_at "mine strs"); (case y2 => walk_at "mine strs"); (case z1 => walk_at "mine len"); (case z2 => walk_at "mine len"); (case z3 => walk_at "mine len"); (case z4 => walk_at "mine len"); k_whole; intro rM nM hM tkM FM NM RM; obtain ⟨xM, dM, uM, vM, sM, aM, bM, cM, fM, gM, iM, jM, eM, eM', SM, zM, lM, mM, oM, pM⟩ := RM; subst eM eM'; (try (replace lM := Mine.ltOf lM; k_lt lM)); (try dsimp only); (try k_sweep); (try k_fold))))
  k_with "mine strs" => (first | assumption | exact StrsAre.nil | (refine StrsAre.cons _ _ ?_; walk_at "mine strs"))
  k_with "mine len" => (first | assumption | omega | (simp only [List.length_cons, List.length_nil, List.length_append]; omega))
  k_with "mine hdrs" => (first | assumption | (refine Mine.Hdrs.mono ?hs9 (by assumption); kcj_all))
  k_with "subscriptTail Name Constant ref int" => (k_extra "mine item")
  k_with "subscriptTail Attribute Name Constant ref int" => (k_extra "mine item")
  k_with "mine len" => ((simp only [List.length_cons, List.length_nil, List.length_append, List.length_take, List.length_reverse]; omega))
  k_with "call ref" => ((k_here; k_dflt (refine' Mine.Spec.use (Mine.new_spec _ _) ?k1 ?k2 ?k3 ?k4 ?k5 ?kd ?ku ?_; walk_at "mine use"; k_whole; intro rN nN hN tkN FN NN RN; obtain ⟨tN, dN, lN, aN, bN, eN, eN', uN, vN, wN⟩ := RN; subst eN eN'; (try (replace uN := Mine.ltOf uN; k_lt uN)); (try dsimp only); (try k_sweep); (try k_fold))))
  k_with "mine letter" => ((show _ ∈ Mine.letters; decide +kernel))
  k_with "mine hdrs" => (exact Mine.Hdrs.nil)
  k_with "mine len" => (first | assumption | omega | (simp only [List.length_cons, List.length_nil, List.length_append, List.length_take, List.length_reverse] <;> omega) | (subst_vars; (simp only [List.length_cons, List.length_nil, List.length_append, List.length_take, List.length_reverse] <;> omega)))
  k_with "mine tsub" => (first | exact Mine.TSub.nil | exact Mine.TSub.sub (fun _ h => h) | (refine Mine.TSub.keep (by k_mem) ?_; walk_at "mine tsub") | (refine Mine.TSub.skip (by k_cls) ?_; walk_at "mine tsub") | exact Mine.TSub.sub (by kcj_all))
  k_with "mine drop" => (first | (refine' Mine.DropAt.head ?a; (case a => k_all)) | (refine' Mine.DropAt.tail ?a ?b; (case a => k_ne); (case b => walk_at "mine drop")))
  k_with "UnrEnd" => ((refine' Mine.unrEnd_drop ?k1 ?k2 ?k3 ?_; (case k1 => k_asm); (case k2 => k_asm); (case k3 => walk_at "mine drop")))
  k_with "mine sub" => (first | exact fun _ h => h | assumption | exact Mine.subNil | (refine' Mine.subCons ?u1 ?u2; (case u1 => k_mem); (case u2 => walk_at "mine sub")) | (refine Mine.subTail ?_; walk_at "mine sub"))
  k_with "subscriptTail Name Name ref int" => ((k_here; k_dflt (refine' Mine.item_L ?k0 ?k1 ?k2 ?k3 ?k4 ?_; (case k0 => k_asm); (case k1 => k_mem); (case k2 => first | decide | omega); (case k3 => first | decide | omega); (case k4 => first | assumption | rfl); k_whole)))
  k_with "exec For Name Call cons nil" => (k_extra "mine for")
  k_with "pyIter ref" => (((with_reducible show wpAny _ _ (pyIter (Value.ref _)) (fun it s₂ => TurnsAt _ _ _ _ _ _ _ _ _ it s₂) _ _); k_extra "mine iter"))
  k_with "getMethod ref" => ((k_here; (with_reducible show wpAny _ _ (getMethod (Value.ref _) (PySem.Str.ofString "count") _) _ _ _); k_dflt (refine' listMethod_K ?N ?m PySem.F.slot_list_count PySem.F.type_list_count ?_; (case N => k_asm); (case m => k_mem))))
  k_with "call builtin:len" => ((k_here; (with_reducible show wpAny _ _ (call (Value.builtin _) [Value.ref _]) _ _ _); k_dflt (refine' Mine.lenRef_L ?k1 ?k2 ?k3 ?_; (case k1 => k_asm); (case k2 => k_mem); (case k3 => walk_at "mine len"); k_whole); intro t9 k9; (try dsimp only); (try k_sweep)))
  k_with "call builtin:list.count" => ((k_here; k_dflt (refine' Mine.count_L ?k1 ?k2 ?k3 ?k4 ?_; (case k1 => k_asm); (case k2 => k_mem); (case k3 => assumption); (case k4 => exact Mine.it5 (by omega)); k_whole); intro t9 k9; (try dsimp only); (try k_sweep)))
  w_top off
  have : Challenge.rw_rl0103_02 = Challenge.rw_rl0103_02 ∧ Mine.hd.heap_39 = Mine.hd.heap_39 := by k_fill; exact ⟨rfl, rfl⟩
  intro cn names ig ic more a ccd cl outer A₀ base h₀ L m mean mg mb s Q E B F X N T hret
  k_with "mine for" => (walk_at "mine turns")
  k_with "mine iter" => (refine Mine.Hold.intro ?_)
  k_steps
  unfold Hold
  refine iter_rng (n := 5) (NestJ _ A5 news) rfl (by k_asm) (by k_asm) (by assumption) (by decide) (by rfl) ⟨fun _ _ => rfl, rfl, fun i' h => absurd h (Nat.not_lt_zero _)⟩ (by intro _ _; rfl) ?_ ?_
  · rintro i t' m₁ news₁ h tk I oI hi ⟨hm, rfl, hJ⟩ hI F1 N1
    rw [← mapKey hm] at F1
    rw [Int.zero_add]
    obtain ⟨vi, hvi, Ei⟩ := hr i hi
    obtain ⟨xi, di, ui, ri, ki1, ki2, ki3, ki4, ni1, ni2, ni3, usi, rfl, ai, bi, ci, ei, Si, zi⟩ := Ei
    k_steps
    unfold Hold
    refine iter_rng (n := i) (Nest2J _ A5 _ i) rfl (by k_asm) (by k_asm) (by assumption) (rng5_small i (by omega)) (rng5_size i (by omega)) ⟨fun _ _ => rfl, rfl, fun j' h => absurd h (Nat.not_lt_zero _)⟩ (by intro _ _; rfl) ?_ ?_
    · rintro j t2 m₂ news₂ h₂ tk₂ I2 oI2 hj ⟨hm2, e2, hJ2⟩ hI2 F2 N2
      subst e2
      rw [← mapKey hm2] at F2
      rw [Int.zero_add]
      obtain ⟨vj, hvj, Ej⟩ := hr j (by omega)
      obtain ⟨xj, dj, uj, rj, kj1, kj2, kj3, kj4, nj1, nj2, nj3, usj, rfl, aj, bj, cj, ej, Sj, zj⟩ := Ej
      have hl1 := strsAre_length Si
      have hl2 := strsAre_length Sj
      rw [List.length_map] at hl1 hl2
      k_steps
      · rename (_ ≠ _ - _) => hc
        have hl3 := strsAre_length SM
        rw [filterOne, List.length_map] at hl3
        rw [hl1, hl2, hl3] at hc
        have hn := nested_false (A5 := A5) hi hj (nest2_of_ne hc)
        dsimp only [TurnR]
        k_steps
        exact hret _ _ _ _ (by k_asm) (cb_drop (by k_asm) (by walk_at "mine sub")) ⟨rfl, by rw [hn]⟩
      · rename (_ = _ - _) => hc
        have hl3 := strsAre_length SM
        rw [filterOne, List.length_map] at hl3
        rw [hl1, hl2, hl3] at hc
        refine TurnR.next _ (by k_asm) (by k_asm) (by walk_at "mine sub") hI2 ⟨?_, rfl, fun j' hj' => ?_⟩
        · walk_at "mine same"
        · rcases Nat.lt_succ_iff_lt_or_eq.mp hj' with h | rfl
          · exact hJ2 j' h
          · exact nest2_of_eq hc
    · rintro m₂ news₂ h₂ tk₂ ⟨hm2, e2, hJ2⟩ F2 N2
      subst e2
      rw [← mapKey hm2] at F2
      k_steps
      refine TurnR.next _ (by k_asm) (by k_asm) (by walk_at "mine sub") hI ⟨?_, rfl, fun i' hi' => ?_⟩
      · walk_at "mine same"
      · rcases Nat.lt_succ_iff_lt_or_eq.mp hi' with h | rfl
        · exact hJ i' h
        · exact hJ2
  · rintro m₁ news₁ h tk ⟨hm, rfl, hJ⟩ F1 N1
    rw [← mapKey hm] at F1
    k_steps
    have hn : G.nested A5 = true := nested_true hJ
    exact hret _ _ _ _ (by k_asm) (by k_asm) ⟨rfl, by rw [hn]⟩
end Mine


namespace Mine
theorem intDats {news : Led} {vs : List Value} {ys : List Int} (h : IntsAre vs ys) : DatAll news vs (ys.map Dat.int) := by
  induction h with
  | nil => exact .nil
  | cons _ _ _ ih => exact .cons (.int _ _) ih
theorem intsAre_snoc {vs : List Value} {ys : List Int} (h : IntsAre vs ys) (y : Int) (t : Tok) : IntsAre (vs ++ [.int y t]) (ys ++ [y]) := by
  induction h with
  | nil => exact .cons _ _ .nil
  | cons _ _ _ ih => exact .cons _ _ ih
theorem intsAre_at {vs : List Value} {ys : List Int} (h : IntsAre vs ys) : ∀ {i : Nat} {v : Value}, vs[i]? = some v → ∃ y t, ys[i]? = some y ∧ v = .int y t := by
  induction h with
  | nil => intro i v e; simp at e
  | cons y t _ ih =>
    intro i v e
    cases i with
    | zero => simp at e; subst e; exact ⟨y, t, by simp, rfl⟩
    | succ i => simpa using ih (i := i) (v := v) (by simpa using e)
theorem intsAre_get {vs : List Value} {ys : List Int} (h : IntsAre vs ys) : ∀ {i : Nat} {y : Int}, ys[i]? = some y → ∃ t, vs[i]? = some (.int y t) := by
  induction h with
  | nil => intro i y e; simp at e
  | cons y0 t _ ih =>
    intro i y e
    cases i with
    | zero => simp at e; subst e; exact ⟨t, by simp⟩
    | succ i => simpa using ih (i := i) (y := y) (by simpa using e)
theorem intsOk {ys : List Int} : ∀ d ∈ ys.map Dat.int, kqdOk 8 d = true := fun d hd => by
  obtain ⟨y, _, rfl⟩ := List.mem_map.mp hd; rfl
theorem mapInt_inj {ys ys' : List Int} : ys.map Dat.int = ys'.map Dat.int ↔ ys = ys' := by
  constructor
  · intro h
    have : ∀ {a b : List Int}, a.map Dat.int = b.map Dat.int → a = b := by
      intro a
      induction a with
      | nil => intro b e; cases b with | nil => rfl | cons _ _ => simp at e
      | cons x r ih => intro b e; cases b with | nil => simp at e | cons y t => simp at e; rw [e.1, ih e.2]
    exact this h
  · rintro rfl; rfl
section
variable {prog : Program} {w : World} {A : Around} {E : Value → Shared → Prop} {s : Shared} {h₀ : Heap} {L : Addr} {news : Led} {Q : Value → Shared → Prop}
theorem decQ {Q : Value → Shared → Prop} {c : Prop} [Decidable c] (h : Q (.bool (decide c)) s) : ∀ (p : Prop) (i : Decidable p), (p ↔ c) → Q (.bool (@decide p i)) s := fun p i e => by rw [decide_eq_decide.mpr e]; exact h
theorem decNQ {Q : Value → Shared → Prop} {c : Prop} [Decidable c] (h : Q (.bool (!decide c)) s) : ∀ (p : Prop) (i : Decidable p), (p ↔ c) → Q (.bool (!@decide p i)) s := fun p i e => by rw [decide_eq_decide.mpr e]; exact h
theorem in_L {l : Addr} {vs : List Value} {n : Nat} {ys : List Int} {x : Int} {t : Tok} (N : News h₀ L s.heap news) (hl : (l, listOf vs.toArray n) ∈ news) (hy : IntsAre vs ys) (hu : A.units + 64 < cLine) (h : Q (.bool (decide (x ∈ ys))) s) :
    wpAny (model prog w) A (compareOp .In (.int x t) (.ref l)) Q E s :=
  kqd_isIn (n₁ := news) (n₂ := news) (d := .int x) (ds := ys.map Dat.int) N hl rfl rfl (intDats hy) (fun _ h => h) (.int _ _) (fun _ h => h) intsOk rfl hu (decQ h _ _ (by simp))
theorem notIn_L {l : Addr} {vs : List Value} {n : Nat} {ys : List Int} {x : Int} {t : Tok} (N : News h₀ L s.heap news) (hl : (l, listOf vs.toArray n) ∈ news) (hy : IntsAre vs ys) (hu : A.units + 64 < cLine) (h : Q (.bool (!decide (x ∈ ys))) s) :
    wpAny (model prog w) A (compareOp .NotIn (.int x t) (.ref l)) Q E s :=
  kqd_notIn (n₁ := news) (n₂ := news) (d := .int x) (ds := ys.map Dat.int) N hl rfl rfl (intDats hy) (fun _ h => h) (.int _ _) (fun _ h => h) intsOk rfl hu (decNQ h _ _ (by simp))
theorem eqL {a b : Addr} {xs xs' : List Value} {ys ys' : List Int} {k k' : Nat} (N : News h₀ L s.heap news) (ma : (a, listOf xs.toArray k) ∈ news) (mb : (b, listOf xs'.toArray k') ∈ news) (Sa : IntsAre xs ys) (Sb : IntsAre xs' ys') (hu : A.units + 64 < cLine) (h : Q (.bool (decide (ys = ys'))) s) :
    wpAny (model prog w) A (compareOp .Eq (.ref a) (.ref b)) Q E s :=
  kqd_eq N ma rfl rfl (intDats Sa) (fun _ h => h) mb rfl rfl (intDats Sb) (fun _ h => h) intsOk intsOk hu (decQ h _ _ mapInt_inj)
theorem neL {a b : Addr} {xs xs' : List Value} {ys ys' : List Int} {k k' : Nat} (N : News h₀ L s.heap news) (ma : (a, listOf xs.toArray k) ∈ news) (mb : (b, listOf xs'.toArray k') ∈ news) (Sa : IntsAre xs ys) (Sb : IntsAre xs' ys') (hu : A.units + 64 < cLine) (h : Q (.bool (!decide (ys = ys'))) s) :
    wpAny (model prog w) A (compareOp .NotEq (.ref a) (.ref b)) Q E s :=
  kqd_ne N ma rfl rfl (intDats Sa) (fun _ h => h) mb rfl rfl (intDats Sb) (fun _ h => h) intsOk intsOk hu (decNQ h _ _ mapInt_inj)
end
end Mine

local macro_rules | `(tactic| walk_at "compareOp In int ref") => `(tactic| k_extra "compareOp In int ref")
local macro_rules | `(tactic| walk_at "compareOp NotIn int ref") => `(tactic| k_extra "compareOp NotIn int ref")
local macro_rules | `(tactic| walk_at "compareOp Eq ref ref") => `(tactic| k_extra "compareOp Eq ref ref")
local macro_rules | `(tactic| walk_at "compareOp NotEq ref ref") => `(tactic| k_extra "compareOp NotEq ref ref")
local macro_rules | `(tactic| k_ne) => `(tactic| (refine neN ?_; (try dsimp only); first | assumption | exact Ne.symm (by assumption) | exact Nat.ne_of_gt (by assumption) | exact Nat.ne_of_lt (by assumption) | fail "k_ne"))

namespace Mine
open LCg LCt
section
variable {M : Model} {A : Around} {E : Value → Shared → Prop} {s : Shared}
/-- a comprehension's own frame, with cells -/
theorem newEnv_comp {scope : Scope} {globals : Addr} {closure : List (Str × Addr)} {qual : Str} {func : Option Addr} {code : Value} {outer : Env} {builtins : Addr} {Q : Env → Shared → Prop}
    (hQ : Q { scope, locals := s.heap.objs.size, globals, cells := cellsFrom (s.heap.objs.size + 1) scope.names closure, qual, func, code := outer.code, frame := outer.frame, builtins := outer.builtins }
      { s with heap := pushCells (s.heap.push { cls := .type "dict", data := .dict #[] }) scope.names }) :
    wpAny M A (newFunctionEnv scope globals closure [] qual func code (some outer) builtins) Q E s := by
  simp only [newFunctionEnv, Option.isSome_some, if_true]
  refine wpAny_bind (wpAny_alloc ?_)
  refine wpAny_bind (wpAny_layCells _ (fun name kind cells => by cases hkc : kind == NameKind.cell <;> simp [hkc]) _ _ _ _ ?_)
  rw [show ({ s with heap := s.heap.push { cls := .type "dict", data := .dict #[] } } : Shared).heap.objs.size = s.heap.objs.size + 1 from Heap.size_push ..]
  rw [List.forIn_nil]
  exact wpAny_bind (wpAny_pure (wpAny_pure hQ))
end
section
variable {prog : Program} {w : World} {A : Around} {E : Value → Shared → Prop} {s : Shared} {h₀ : Heap} {L : Addr} {m : Str → Option Value} {env : Env}
/-- the turns of a comprehension over a range whose name is a cell -/
structure UC (prog : Program) (w : World) (A : Around) (h₀ : Heap) (L : Addr) (m : Str → Option Value) (env : Env) (elt : Expr) (x : Str) (scope : Scope) (cl : List (Str × Addr)) (s : Shared) (n : Nat) (J : Nat → List Value → Led → Prop) (Fin : List Value → Led → Prop) : Prop where
  step : ∀ i ys news t I oI C oC D X oX m₂ h tk (E' : Value → Shared → Prop), i < n → J i ys news → oX.data = .cell (some (.int (i : Int) t)) → NsObj oC m₂ → Fr h₀ L h m → News h₀ L h ((I, oI) :: (C, oC) :: (D, lst ys) :: (X, oX) :: news) → Off3 I C D ((X, oX) :: news) → ((@Ne Nat I C) ∧ (@Ne Nat I D) ∧ (@Ne Nat C D)) → Off X news →
      wpAny (model prog w) A (eval elt (compEnvC scope ((x, X) :: cl) C env)) (CompEnd h₀ L m { s with heap := h, toks := tk } I oI C oC D (lst ys) (fun _ => True) (fun y nw => ∃ news', nw = (X, oX) :: news' ∧ Off X news' ∧ J (i + 1) (ys ++ [y]) news')) E' { s with heap := h, toks := tk }
  size : ∀ i ys G, i < n → J i ys G → ys.length ≤ 1000
  fin : ∀ ys G, J n ys G → Fin ys G
theorem append_1000 {D : Addr} {ys : List Value} {y : Value} {Q : Value → Shared → Prop} (h0 : s.heap.get? D = some (lst ys)) (hz : ys.length ≤ 1000) (h : ∀ h', Heap.SameBut D s.heap h' → h'.get? D = some (lst (ys ++ [y])) → Q .none { s with heap := h' }) :
    wpAny (model prog w) A (call (.builtin "list.append") [.ref D, y]) Q E s :=
  append_at (hsz := by show ys.toArray.size ≤ sizeLine; rw [List.size_toArray]; exact Nat.le_trans hz (by decide)) h0 fun h' hs hd => h h' hs (hd.trans (congrArg some (lst_snoc ys y)))
theorem block_UC {elt iter : Expr} {x : Str} {px : Pos} {scope : Scope} {cl : List (Str × Addr)} {pos : Pos} {s₂ : Shared} {I : Addr} {n : Nat} {J : Nat → List Value → Led → Prop} {news : Led}
    {Fin : List Value → Led → Prop} {RR : Value → Addr → Result → Shared → Prop} (hh : A.handled = none) (T : UC prog w A h₀ L m env elt x scope cl s₂ n J Fin)
    (hcells : ∀ k, cellsFrom k scope.names cl = (x, k) :: cl) (hpush : ∀ h, pushCells h scope.names = h.push { cls := .type "cell", data := .cell none }) (hkind : scope.kind = .function)
    (hx : ∀ C cl', (compEnvC scope cl' C env).kindOf x = some .cell)
    (hst : IsRangeIter s₂.heap I (0 + ((0 : Nat) : Int) * 1) ((n : Int) - ((0 : Nat) : Int)) 1)
    (F : Fr h₀ L s₂.heap m) (N : News h₀ L s₂.heap news) (hIL : L ≠ I) (hI₀ : h₀.get? I = none) (off : ∀ p ∈ news, p.1 ≠ I) (h0 : J 0 [] news)
    (hRR : ∀ D C h tk m' ys news', Fr h₀ L h m → News h₀ L h ((D, lst ys) :: news') → Off1 D news' → h.Ns C m' → h₀.get? C = none → h₀.get? D = none → C ≠ L → D ≠ L → C ≠ D → (∀ p ∈ news', p.1 ≠ C) → Fin ys news' → RR (.ref D) C (.ok .next) { s₂ with heap := h, toks := tk }) :
    wpAny (model prog w) A (newList []) (fun acc s₃ => wpAny (model prog w) A (newFunctionEnv scope env.globals cl [] env.qual none .none (some env)) (fun cenv s₄ =>
      codeAny (model prog w) A (.compStart (.ListComp elt [⟨.Name x px, iter, [], 0⟩] scope pos) 0 (.ref I) acc { cenv with scope := relabel scope env }) (RR acc cenv.locals) s₄) E s₃) E s₂ := by
  have W := range_walks (prog := prog) (w := w) (I := I) hh 0 n
  refine wpAny_newObj_type (newEnv_comp ?_)
  dsimp only
  rw [hcells, hpush]
  generalize hH2 : s₂.heap.push { cls := .type "list", dict := none, data := .seq ([] : List Value).toArray } = H2
  have hC : H2.objs.size = s₂.heap.objs.size + 1 := by rw [← hH2, Heap.size_push]
  have hX : (H2.push { cls := .type "dict", data := .dict #[] }).objs.size = H2.objs.size + 1 := Heap.size_push ..
  generalize hh₁ : (H2.push { cls := .type "dict", data := .dict #[] }).push { cls := .type "cell", data := .cell none } = h₁
  generalize hXe : H2.objs.size + 1 = X
  generalize hDe : s₂.heap.objs.size = D at hC
  generalize hCe : H2.objs.size = C at hC hXe hX
  have hDC : D ≠ C := by omega
  have hDX : D ≠ X := by omega
  have hCX : C ≠ X := by omega
  have below : ∀ b, b < s₂.heap.objs.size → b ≠ C ∧ b ≠ D ∧ b ≠ X := fun b hb => by omega
  have hIlt : I < s₂.heap.objs.size := Heap.lt_size hst
  have old : ∀ b o, s₂.heap.get? b = some o → h₁.get? b = some o := fun b o e => by
    rw [← hh₁]
    exact Heap.get?_push_of_some _ (Heap.get?_push_of_some _ (hH2 ▸ Heap.get?_push_of_some _ e))
  have hacc : h₁.get? D = some (lst []) := by
    rw [← hh₁]
    refine Heap.get?_push_of_some _ (Heap.get?_push_of_some _ ?_)
    rw [← hH2, ← hDe]
    exact Heap.get?_push_size _ rfl
  have hns₁ : h₁.Ns C (fun _ => none) := by
    rw [← hh₁, ← hCe]
    exact (Heap.Ns.new H2 (.type "dict")).keeps fun _ _ e => Heap.get?_push_of_some _ e
  have hcell₁ : h₁.IsCell X none := by
    rw [← hh₁, ← hXe, ← hCe]
    refine ⟨{ cls := .type "cell", data := .cell none }, ?_, rfl⟩
    have := Heap.get?_push_size (H2.push { cls := .type "dict", data := .dict #[] }) (o := { cls := .type "cell", data := .cell none }) rfl
    rw [Heap.size_push] at this
    exact this
  have hst₁ : IsRangeIter h₁ I (0 + ((0 : Nat) : Int) * 1) ((n : Int) - ((0 : Nat) : Int)) 1 := old _ _ hst
  have fresh : ∀ a, s₂.heap.objs.size ≤ a → s₂.heap.get? a = none := fun a ha => by
    cases e : s₂.heap.get? a with
    | none => rfl
    | some o' => exact absurd (Heap.lt_size e) (Nat.not_lt.mpr ha)
  have fresh₀ : ∀ a, s₂.heap.objs.size ≤ a → h₀.get? a = none := fun a ha => by
    cases e : h₀.get? a with
    | none => rfl
    | some o' => have := F.keep a o' e; rw [fresh a ha] at this; cases this
  have hD₀ : h₀.get? D = none := fresh₀ _ (by omega)
  have hC₀ : h₀.get? C = none := fresh₀ _ (by omega)
  have hX₀ : h₀.get? X = none := fresh₀ _ (by omega)
  have hLlt : L < s₂.heap.objs.size := F.ns.lt
  have hDL : D ≠ L := Ne.symm (below L hLlt).2.1
  have hCL : C ≠ L := Ne.symm (below L hLlt).1
  have hXL : X ≠ L := Ne.symm (below L hLlt).2.2
  have hCI : I ≠ C := (below I hIlt).1
  have hDI : I ≠ D := (below I hIlt).2.1
  have hXI : I ≠ X := (below I hIlt).2.2
  have off₀ : Off3 I C D news := Off3.of fun p hp => ⟨off p hp, (below _ (Heap.lt_size (N p hp).1)).1, (below _ (Heap.lt_size (N p hp).1)).2.1⟩
  have offX₀ : Off X news := fun p hp => (below _ (Heap.lt_size (N p hp).1)).2.2
  have loop : ∀ s₃ : Shared, s₃ = { s₂ with heap := h₁ } →
      codeAny (model prog w) A (.compLoop (.ListComp elt [⟨.Name x px, iter, [], 0⟩] scope pos) 0 (.ref I) (.ref D) (compEnvC scope ((x, X) :: cl) C env))
        (RR (.ref D) C) s₃ := by
    rintro s₃ rfl
    refine codeAny_compLoop_tests
      (fun k s' => ∃ i h' tk ys m' news' vX, s' = { s₂ with heap := h', toks := tk } ∧ i ≤ n ∧ k = n + 1 - i ∧ IsRangeIter h' I (0 + (i : Nat) * 1) ((n : Int) - (i : Nat)) 1 ∧ Fr h₀ L h' m ∧ h'.Ns C m' ∧ h'.IsCell X vX ∧ News h₀ L h' ((D, lst ys) :: news') ∧
        Off3 I C D news' ∧ Off X news' ∧ J i ys news') ?_ (n + 1)
      ⟨0, h₁, _, [], _, news, none, rfl, Nat.zero_le _, rfl, hst₁, F.keeps old, hns₁, hcell₁, fun p hp => ?_, off₀, offX₀, h0⟩
    · rintro k s' ⟨i, h', tk, ys, m', news', vX, rfl, hi, rfl, hst', F', hn', hc', N', off', offX', hJ⟩
      by_cases hlt : i < n
      · refine W.item i _ _ _ hlt hst' fun v h₂ tk₂ hPv hst₂ hk₂ => ?_
        obtain ⟨t, rfl⟩ := hPv
        rw [Int.zero_add]
        have hc₂ : h₂.IsCell X vX := by
          obtain ⟨o, e, d⟩ := hc'
          exact ⟨o, hk₂ _ o (by simpa using Ne.symm hXI) e, d⟩
        refine wpAny_assign_Name (wpAny_storeName_cell (by simp [compEnvC, relabel, hkind]) (hx _ _) (by simp [compEnvC]) hc₂ (fun h₃ hc₃ hs₃ => ?_))
        refine wpAny_tests_nil ?_
        simp only [if_true]
        have hst₃ : IsRangeIter h₃ I (0 + ((i + 1 : Nat) : Int) * 1) ((n : Int) - ((i + 1 : Nat) : Int)) 1 := hs₃.extBut _ _ hXI hst₂
        obtain ⟨oX, heX, hoX⟩ := hc₃
        have hn₃ : h₃.Ns C m' := (hn'.at' fun o e => hk₂ _ o (by simpa using Ne.symm hCI) e).sameBut hs₃ hCX
        obtain ⟨oC, heC, hoC⟩ := ns_obj hn₃
        have F₃ : Fr h₀ L h₃ m := (fr_but F' hk₂ hIL hI₀).change hs₃ hXL hX₀
        have off3 := off'.mem
        have N₂ : News h₀ L h₂ ((D, lst ys) :: news') := news_but N' hk₂ fun p hp => by
          rcases List.mem_cons.mp hp with rfl | hp
          · exact Ne.symm hDI
          · exact (off3 p hp).1
        have N₃ : News h₀ L h₃ ((I, itAt 0 n (i + 1)) :: (C, oC) :: (D, lst ys) :: (X, oX) :: news') := fun p hp => by
          rcases List.mem_cons.mp hp with rfl | hp
          · exact ⟨hst₃, Ne.symm hIL, hI₀⟩
          · rcases List.mem_cons.mp hp with rfl | hp
            · exact ⟨heC, hCL, hC₀⟩
            · rcases List.mem_cons.mp hp with rfl | hp
              · have z := N₂ _ (List.mem_cons_self (a := (D, lst ys)))
                exact ⟨hs₃.extBut _ _ hDX z.1, z.2⟩
              · rcases List.mem_cons.mp hp with rfl | hp
                · exact ⟨heX, hXL, hX₀⟩
                · have z := N₂ p (List.mem_cons_of_mem _ hp)
                  exact ⟨hs₃.extBut _ _ (offX' p hp) z.1, z.2⟩
        have off₃ : Off3 I C D ((X, oX) :: news') := ⟨⟨Ne.symm hXI, Ne.symm hCX, Ne.symm hDX⟩, off'⟩
        refine wpAny_mono (T.step i ys news' t I _ C oC D X oX m' h₃ _ _ hlt hJ hoX hoC F₃ N₃ off₃ ⟨hCI, hDI, Ne.symm hDC⟩ offX') (fun y s₄ h₄ => ?_) fun _ _ e => e
        obtain ⟨h₄, tk₄, nw₄, rfl, F₄, N₄, off₄, -, news₄, rfl, offX₄, hJ₄⟩ := h₄
        have zI := (N₄ (I, itAt 0 n (i + 1)) (.head _)).1
        have zC := (N₄ (C, oC) (.tail _ (.head _))).1
        have zD := (N₄ (D, lst ys) (.tail _ (.tail _ (.head _)))).1
        have zX := (N₄ (X, oX) (.tail _ (.tail _ (.tail _ (.head _))))).1
        refine append_1000 zD (T.size i ys news' hlt hJ) fun h₅ hs₅ hD₅ => ?_
        have off4 := off₄.mem
        refine ⟨n + 1 - (i + 1), by omega, i + 1, h₅, tk₄, ys ++ [y], m', news₄, _, rfl, hlt, rfl, hs₅.extBut _ _ hDI zI, F₄.change hs₅ hDL hD₀, (hoC.ns zC).sameBut hs₅ (Ne.symm hDC), ⟨oX, hs₅.extBut _ _ (Ne.symm hDX) zX, hoX⟩, fun p hp => ?_, off₄.2, offX₄, hJ₄⟩
        rcases List.mem_cons.mp hp with rfl | hp
        · exact ⟨hD₅, hDL, hD₀⟩
        · have z := N₄ p (.tail _ (.tail _ (.tail _ (.tail _ hp))))
          exact ⟨hs₅.extBut _ _ (off4 p (.tail _ hp)).2.2 z.1, z.2⟩
      · obtain rfl : i = n := Nat.le_antisymm hi (Nat.not_lt.mp hlt)
        refine W.done _ _ _ hst' fun h₂ tk₂ hk₂ => ?_
        have off3 := off'.mem
        exact hRR _ _ h₂ tk₂ _ ys news' (fr_but F' hk₂ hIL hI₀) (news_but N' hk₂ fun p hp => by
          rcases List.mem_cons.mp hp with rfl | hp
          · exact Ne.symm hDI
          · exact (off3 p hp).1) off'.one (hn'.at' fun o e => hk₂ _ o (by simpa using Ne.symm hCI) e) hC₀ hD₀ hCL hDL (Ne.symm hDC) (fun p hp => (off3 p hp).2.1) (T.fin ys news' hJ)
    · rcases List.mem_cons.mp hp with rfl | hp
      · exact ⟨hacc, hDL, hD₀⟩
      · exact ⟨old _ _ (N p hp).1, (N p hp).2⟩
  exact codeAny_compStart_list (loop _ rfl) (W.self 0 _ _ _ hst₁ (loop _ rfl))
/-- the range that such a comprehension goes over -/
def SrcUC (prog : Program) (w : World) (A : Around) (h₀ : Heap) (L : Addr) (m : Str → Option Value) (env : Env) (elt : Expr) (x : Str) (scope : Scope) (cl : List (Str × Addr)) (Fin : Shared → List Value → Led → Prop) (xv : Value) (s₁ : Shared) : Prop :=
  ∃ r b t u v n J news, xv = .ref r ∧ A.handled = none ∧ Fr h₀ L s₁.heap m ∧ News h₀ L s₁.heap news ∧ IsRange s₁.heap r 0 b 1 t u v ∧ Builtin.Range.small 0 b 1 = true ∧ Builtin.Range.rangeSize 0 b 1 = ((n : Nat) : Int) ∧ J 0 [] news ∧
    ∀ s₂ : Shared, (∃ h, s₂ = { s₁ with heap := h }) → UC prog w A h₀ L m env elt x scope cl s₂ n J (Fin s₂)
theorem SrcUC.intro {elt : Expr} {x : Str} {scope : Scope} {cl : List (Str × Addr)} {Fin : Shared → List Value → Led → Prop} {r : Addr} {b : Int} {t u v : Tok} {news : Led} {s₁ : Shared} (n : Nat) (J : Nat → List Value → Led → Prop)
    (hh : A.handled = none) (F : Fr h₀ L s₁.heap m) (N : News h₀ L s₁.heap news) (hr : IsRange s₁.heap r 0 b 1 t u v) (hsm : Builtin.Range.small 0 b 1 = true) (hn : Builtin.Range.rangeSize 0 b 1 = ((n : Nat) : Int)) (h0 : J 0 [] news)
    (h : ∀ g, UC prog w A h₀ L m env elt x scope cl { s₁ with heap := g } n J (Fin { s₁ with heap := g })) :
    SrcUC prog w A h₀ L m env elt x scope cl Fin (.ref r) s₁ := ⟨r, b, t, u, v, n, J, news, rfl, hh, F, N, hr, hsm, hn, h0, fun _ ⟨g, e⟩ => e ▸ h g⟩
theorem ListComp_UC {elt iter : Expr} {x : Str} {px : Pos} {scope : Scope} {cl : List (Str × Addr)} {pos : Pos} {Q : Value → Shared → Prop} (F₀ : Fr h₀ L s.heap m)
    (hclos : closureFor scope env = pure cl) (hcells : ∀ k, cellsFrom k scope.names cl = (x, k) :: cl) (hpush : ∀ h, pushCells h scope.names = h.push { cls := .type "cell", data := .cell none }) (hkind : scope.kind = .function)
    (hnames : ∀ y ∈ scope.names, y.2 = .local → scope.names.lookup y.1 = some .local) (hx : ∀ C cl', (compEnvC scope cl' C env).kindOf x = some .cell)
    (h : wpAny (model prog w) A (eval iter env) (SrcUC prog w A h₀ L m env elt x scope cl (fun s₂ => FinE h₀ L m s₂ Q)) E s)
    (hs : ∀ x, foldedSetIterable iter env x = pure x := by intro _; rfl) :
    wpAny (model prog w) A (eval (.ListComp elt [⟨.Name x px, iter, [], 0⟩] scope pos) env) Q E s := by
  rw [eval_ListComp]
  refine wpAny_comprehension_free (use := none) rfl hs hclos hkind hnames (wpAny_mono h (fun xv s₁ h₁ => ?_) fun _ _ e => e)
  obtain ⟨r, b, t, u, v, n, J, news, rfl, hh, F, N, hr, hsm, hn, h0, T⟩ := h₁
  refine wpAny_pyIter_range hr hsm ?_
  refine block_UC hh (T _ ⟨_, rfl⟩) hcells hpush hkind hx (by show IsRangeIter _ _ _ _ _; rw [hn]; simpa using Heap.get?_push_size _ rfl)
      (F.keeps fun _ _ e => Heap.get?_push_of_some _ e) (N.grown fun _ _ e => Heap.get?_push_of_some _ e) (Nat.ne_of_lt F.ns.lt) (next_is_new F) (fun p hp => Nat.ne_of_lt (Heap.lt_size (N p hp).1)) h0 ?_
  intro D C h tk m' ys news' F' N' o1 hn hC₀ hD₀ hCL hDL hCD offC fin
  refine ⟨m', hn, fun h'' hs'' => fin D h'' tk (F'.change hs'' hCL hC₀) (fun p hp => ?_) o1⟩
  refine ⟨hs''.extBut _ _ ?_ (N' p hp).1, (N' p hp).2⟩
  rcases List.mem_cons.mp hp with rfl | hp
  · exact Ne.symm hCD
  · exact offC p hp
end
end Mine


namespace Mine
open LCg LCt
section
variable {prog : Program} {w : World} {A : Around} {E : Value → Shared → Prop} {s : Shared} {h₀ : Heap} {L : Addr} {m : Str → Option Value} {env : Env}
/-- the text that a comprehension goes over -/
def SrcS (prog : Program) (w : World) (A : Around) (h₀ : Heap) (L : Addr) (m : Str → Option Value) (env : Env) (elt : Expr) (x : Str) (scope : Scope) (cl : List (Str × Addr)) (Fin : Shared → List Value → Led → Prop) (xv : Value) (s₁ : Shared) : Prop :=
  ∃ z t news, xv = .str z t ∧ z.cps.all (· < 128) = true ∧ z.cps.size ≤ sizeLine ∧ A.handled = none ∧ Fr h₀ L s₁.heap m ∧ News h₀ L s₁.heap news ∧
    ∀ s₂ : Shared, (∃ h, s₂ = { s₁ with heap := h }) → CompRest prog w A h₀ L m env elt x scope cl s₂ (fun _ => True) (SignAt z) (Fin s₂) z.cps.size 0 [] news
theorem SrcS.intro {elt : Expr} {x : Str} {scope : Scope} {cl : List (Str × Addr)} {Fin : Shared → List Value → Led → Prop} {z : Str} {t : Tok} {news : Led} {s₁ : Shared}
    (ha : z.cps.all (· < 128) = true) (hz : z.cps.size ≤ sizeLine) (hh : A.handled = none) (F : Fr h₀ L s₁.heap m) (N : News h₀ L s₁.heap news)
    (h : ∀ g, CompRest prog w A h₀ L m env elt x scope cl { s₁ with heap := g } (fun _ => True) (SignAt z) (Fin { s₁ with heap := g }) z.cps.size 0 [] news) :
    SrcS prog w A h₀ L m env elt x scope cl Fin (.str z t) s₁ := ⟨z, t, news, rfl, ha, hz, hh, F, N, fun _ ⟨g, e⟩ => e ▸ h g⟩
theorem text_st {I : Addr} {z : Str} {t : Tok} : ∀ i (h h' : Heap) (o : Obj) (nw : Led), h.IsStrIter I "str_ascii_iterator" z t i → h.get? I = some o → h'.get? I = some o → (∀ b o, h₀.get? b = some o → h'.get? b = some o) → News h₀ L h' nw → True → h'.IsStrIter I "str_ascii_iterator" z t i :=
  fun i h h' o nw st e e' _ _ _ => by
    obtain ⟨o', q, r⟩ := st
    rw [e] at q; cases q
    exact ⟨o, e', r⟩
theorem ListComp_S {elt iter : Expr} {x : Str} {px : Pos} {scope : Scope} {cl : List (Str × Addr)} {pos : Pos} {Q : Value → Shared → Prop} (_F₀ : Fr h₀ L s.heap m)
    (hclos : closureFor scope env = pure cl) (hcell : ∀ y ∈ scope.names, y.2 ≠ .cell) (hkind : scope.kind = .function)
    (hnames : ∀ y ∈ scope.names, y.2 = .local → scope.names.lookup y.1 = some .local) (hx : scope.names.lookup x = some .local)
    (h : wpAny (model prog w) A (eval iter env) (SrcS prog w A h₀ L m env elt x scope cl (fun s₂ => FinE h₀ L m s₂ Q)) E s)
    (hs : ∀ x, foldedSetIterable iter env x = pure x := by intro _; rfl) :
    wpAny (model prog w) A (eval (.ListComp elt [⟨.Name x px, iter, [], 0⟩] scope pos) env) Q E s := by
  rw [eval_ListComp]
  refine wpAny_comprehension_free (use := none) rfl hs hclos hkind hnames (wpAny_mono h (fun xv s₁ h₁ => ?_) fun _ _ e => e)
  obtain ⟨z, t, news, rfl, ha, hz, hh, F, N, R⟩ := h₁
  refine wpAny_pyIter_ascii ha ?_
  have up : ∀ b o, s₁.heap.get? b = some o → (s₁.heap.push { cls := .type "str_ascii_iterator", data := .fields #[.str z t, .int 0 0] }).get? b = some o := fun b o e => Heap.get?_push_of_some _ e
  refine block_U (Walks.strAscii hh s₁.heap.objs.size z t) hz (fun i h st => by obtain ⟨o, e, _⟩ := st; exact ⟨o, e⟩) text_st hcell hkind hx ⟨_, Heap.get?_push_size _ rfl, rfl, rfl⟩ (fun b hb => ?_)
    (F.keeps up) (N.grown up) (Nat.ne_of_lt F.ns.lt) (next_is_new F) (fun p hp => Nat.ne_of_lt (Heap.lt_size (N p hp).1)) trivial (R _ ⟨_, rfl⟩) ?_
  · rw [List.mem_singleton.mp hb]
    show s₁.heap.objs.size < (s₁.heap.push _).objs.size
    rw [Heap.size_push]; exact Nat.lt_succ_self _
  · intro D C h tk m' ys news' F' N' o1 hn hC₀ hD₀ hCL hDL hCD offC fin
    refine ⟨m', hn, fun h'' hs'' => fin D h'' tk (F'.change hs'' hCL hC₀) (fun p hp => ?_) o1⟩
    refine ⟨hs''.extBut _ _ ?_ (N' p hp).1, (N' p hp).2⟩
    rcases List.mem_cons.mp hp with rfl | hp
    · exact Ne.symm hCD
    · exact offC p hp
end
end Mine


namespace Mine
theorem del_G (w : World) (t d l : Addr) (hs : Int) (kt : Tok) (n₁ n₃ : Nat) (vs : List Value) (kvs : List (Str × Str)) (x : Str) (tx : Tok) (hx : Letter x) (G news : Led) (hH : Hdrs G vs kvs) (hG : ∀ p ∈ G, p ∈ news) (hlt : Off l news) (htl : NeA t l) (hdl : NeA d l) (hlen : vs.length ≤ 1000) :
   Spec w 500 5000 102 [.ref t, .str x tx] [] ((l, listOf vs.toArray n₃) :: (t, instObj 182 d) :: (d, hdrDict hs kt l n₁) :: news)
     (fun r news' => ∃ vs' n', r = .none ∧ news' = (l, listOf vs'.toArray n') :: (t, instObj 182 d) :: (d, hdrDict hs kt l n₁) :: news ∧ Hdrs G vs' (kvs.filter fun kv => Txt.lower kv.1 != Txt.lower x) ∧ vs'.length ≤ vs.length) := by
  k_with_none
  k_with "getMethod ref" => ((k_here; (with_reducible show wpAny _ _ (getMethod (Value.ref _) (Str.ofString "search") _) _ _ _); k_dflt (refine' Mine.meth_search ?k1 ?k2 ?k3 ?k4 ?k5 ?_; (case k1 => k_asm); (case k2 => k_asm); (case k3 => k_is); (case k4 => rfl); (case k5 => rfl); k_whole)))
  k_with "call builtin:re.Pattern.search" => ((k_here; k_dflt (refine' Mine.call_search ?k1 ?k2 ?k3 ?k4 ?k5 ?_; (case k1 => k_asm); (case k2 => k_asm); (case k3 => k_is); (case k4 => rfl); (case k5 => first | with_reducible exact Mine.srchN _ _ _ (by assumption) | with_reducible exact Mine.srchV _ _ _ (by assumption)); k_whole)))
  k_with "mine use" => (((case k1 => k_asm); (case k2 => k_asm); (case k3 => k_asm); (case k4 => k_asm); (case k5 => k_asm); (case kd => exact Nat.le_of_ble_eq_true rfl); (case ku => exact Nat.le_of_ble_eq_true rfl)))
  k_with "mine lt" => ((walk_at "mine and"; first | omega | assumption | exact allLt_of (by assumption) | exact Mine.ltUp (by omega) (by assumption) | exact Mine.ltUp (by omega) (allLt_of (by assumption))))
  k_with "mine letter" => (first | assumption | exact Mine.Letter.lower (by assumption) | exact Mine.Letter.upper (by assumption) | exact Mine.Letter.lower (Mine.Letter.upper (by assumption)))
  k_with "call builtin:str.lower" => ((k_here; k_dflt (refine Mine.lower_L (by walk_at "mine letter") ?_)))
  k_with "call builtin:str.upper" => ((k_here; k_dflt (refine Mine.upper_L (by walk_at "mine letter") ?_)))
  k_with "eval ListComp" => (k_extra "mine comp")
  k_with "CompRestT" => (k_extra "mine restT")
  k_with "CompRest" => (k_extra "mine rest")
  k_with "exec For Tuple Attribute cons nil" => (k_extra "mine for")
  k_with "exec For Tuple Name cons nil" => (k_extra "mine for")
  k_with "exec While Compare cons nil" => (k_extra "mine while")
  k_with "delItem ref" => ((k_here; k_dflt (refine' Mine.own_delItem ?F ?X ?I ?hQ ?hS ?hF ?_; (case F => k_asm); (case X => k_asm); (case I => k_inst); (case hS => k_is); (case hF => k_is); (case hQ => k_is); k_whole)))
  k_with "mine hdrs" => (first | assumption | exact Mine.Hdrs.mono (by kcj_all) (by assumption))
  k_with "call ref" => ((k_here; k_dflt (refine' Mine.Spec.use (Mine.ent_spec _ _) ?k1 ?k2 ?k3 ?k4 ?k5 ?kd ?ku ?_; walk_at "mine use"; k_whole; intro rE nE hE tkE FE NE RE; obtain ⟨xE, dE, uE, vE, aE, bE, cE, fE, eE, eE', lE, mE, oE, pE⟩ := RE; subst eE eE'; (try (replace lE := Mine.ltOf lE; k_lt lE)); (try dsimp only); (try k_sweep); (try k_fold))))
  k_with "call ref" => ((k_here; k_dflt (refine' Mine.Spec.use (Mine.merge_spec _ _ _ _ _ _ _ _ _ _ _ _ _ _ _ _ _ _ _ _ _ _ _ _ _ _ _ _ _ _ ?h1 ?h2 ?h3 ?h4 ?g1 ?g2 ?g3 ?g4 ?y1 ?y2 ?z1 ?z2 ?z3 ?z4) ?k1 ?k2 ?k3 ?k4 ?k5 ?kd ?ku ?_; walk_at "mine use"; (case h1 => k_mem); (case h2 => k_mem); (case h3 => k_mem); (case h4 => k_mem); (case g1 => k_mem); (case g2 => k_mem); (case g3 => k_mem); (case g4 => k_mem); (case y1 => walk_at "mine strs"); (case y2 => walk_at "mine strs"); (case z1 => walk_at "mine len"); (case z2 => walk_at "mine len"); (case z3 => walk_at "mine len"); (case z4 => walk_at "mine len"); k_whole; intro rM nM hM tkM FM NM RM; obtain ⟨xM, dM, uM, vM, sM, aM, bM, cM, fM, gM, iM, jM, eM, eM', SM, zM, lM, mM, oM, pM⟩ := RM; subst eM eM'; (try (replace lM := Mine.ltOf lM; k_lt lM)); (try dsimp only); (try k_sweep); (try k_fold))))
  k_with "mine strs" => (first | assumption | exact StrsAre.nil | (refine StrsAre.cons _ _ ?_; walk_at "mine strs"))
  k_with "mine len" => (first | assumption | omega | (simp only [List.length_cons, List.length_nil, List.length_append]; omega))
  k_with "mine hdrs" => (first | assumption | (refine Mine.Hdrs.mono ?hs9 (by assumption); kcj_all))
  k_with "subscriptTail Name Constant ref int" => (k_extra "mine item")
  k_with "subscriptTail Attribute Name Constant ref int" => (k_extra "mine item")
  k_with "mine len" => ((simp only [List.length_cons, List.length_nil, List.length_append, List.length_take, List.length_reverse]; omega))
  k_with "call ref" => ((k_here; k_dflt (refine' Mine.Spec.use (Mine.new_spec _ _) ?k1 ?k2 ?k3 ?k4 ?k5 ?kd ?ku ?_; walk_at "mine use"; k_whole; intro rN nN hN tkN FN NN RN; obtain ⟨tN, dN, lN, aN, bN, eN, eN', uN, vN, wN⟩ := RN; subst eN eN'; (try (replace uN := Mine.ltOf uN; k_lt uN)); (try dsimp only); (try k_sweep); (try k_fold))))
  k_with "mine letter" => ((show _ ∈ Mine.letters; decide +kernel))
  k_with "mine hdrs" => (exact Mine.Hdrs.nil)
  k_with "mine len" => (first | assumption | omega | (simp only [List.length_cons, List.length_nil, List.length_append, List.length_take, List.length_reverse] <;> omega) | (subst_vars; (simp only [List.length_cons, List.length_nil, List.length_append, List.length_take, List.length_reverse] <;> omega)))
  k_with "mine tsub" => (first | exact Mine.TSub.nil | exact Mine.TSub.sub (fun _ h => h) | (refine Mine.TSub.keep (by k_mem) ?_; walk_at "mine tsub") | (refine Mine.TSub.skip (by k_cls) ?_; walk_at "mine tsub") | exact Mine.TSub.sub (by kcj_all))
  k_with "mine drop" => (first | (refine' Mine.DropAt.head ?a; (case a => k_all)) | (refine' Mine.DropAt.tail ?a ?b; (case a => k_ne); (case b => walk_at "mine drop")))
  k_with "UnrEnd" => ((refine' Mine.unrEnd_drop ?k1 ?k2 ?k3 ?_; (case k1 => k_asm); (case k2 => k_asm); (case k3 => walk_at "mine drop")))
  k_with "mine sub" => (first | exact fun _ h => h | assumption | exact Mine.subNil | (refine' Mine.subCons ?u1 ?u2; (case u1 => k_mem); (case u2 => walk_at "mine sub")) | (refine Mine.subTail ?_; walk_at "mine sub"))
  k_with "subscriptTail Name Name ref int" => ((k_here; k_dflt (refine' Mine.item_L ?k0 ?k1 ?k2 ?k3 ?k4 ?_; (case k0 => k_asm); (case k1 => k_mem); (case k2 => first | decide | omega); (case k3 => first | decide | omega); (case k4 => first | assumption | rfl); k_whole)))
  k_with "compareOp In int ref" => ((k_here; k_dflt (refine' Mine.in_L ?k0 ?k1 ?k2 ?k3 ?_; (case k0 => k_asm); (case k1 => k_mem); (case k2 => first | assumption | exact .cons _ _ (.cons _ _ .nil)); (case k3 => ke_room); k_whole)))
  k_with "compareOp NotIn int ref" => ((k_here; k_dflt (refine' Mine.notIn_L ?k0 ?k1 ?k2 ?k3 ?_; (case k0 => k_asm); (case k1 => k_mem); (case k2 => assumption); (case k3 => ke_room); k_whole)))
  k_with "compareOp Eq ref ref" => ((k_here; k_dflt (refine' Mine.eqL ?k0 ?k1 ?k2 ?k3 ?k4 ?k5 ?_; (case k0 => k_asm); (case k1 => k_mem); (case k2 => k_mem); (case k3 => assumption); (case k4 => first | assumption | exact .nil); (case k5 => ke_room); k_whole)))
  k_with "compareOp NotEq ref ref" => ((k_here; k_dflt (refine' Mine.neL ?k0 ?k1 ?k2 ?k3 ?k4 ?k5 ?_; (case k0 => k_asm); (case k1 => k_mem); (case k2 => k_mem); (case k3 => assumption); (case k4 => first | assumption | exact .nil); (case k5 => ke_room); k_whole)))
  w_top off
  have : Challenge.rw_rl0103_02 = Challenge.rw_rl0103_02 ∧ Mine.hd.heap_39 = Mine.hd.heap_39 := by k_fill; exact ⟨rfl, rfl⟩
  intro cn names ig ic more a ccd cl outer A₀ base h₀ L m mean mg mb s Q E B F X N T hret
  k_with "mine comp" => (k_dflt (refine LCt.ListComp_T (F₀ := by k_asm) (by with_unfolding_all rfl) (by decide) (by rfl) (by decide) (by rfl) ?_))
  k_steps
  refine LCt.CompSrcT.ledger rfl (by k_asm) (by k_asm) (by k_mem) (by rw [List.size_toArray]; exact Nat.le_trans hlen (by decide)) ?_
  intro g
  refine restT_keep (fun i ys => Hdrs G ys ((kvs.take i).filter fun kv => Txt.lower kv.1 != Txt.lower x)) _ (by simpa using Hdrs.nil) ?_ ?_
  · intro i ys v Ia oI C oC D m₂ h tk E' hi hI hP hC hx' F' N' off ne
    have hP' : vs[i]? = some v := by simpa using hP
    obtain ⟨a', k', v', t1, t2, rfl, hk', lk', lv', hm₀⟩ := hH.at hP'
    have hm' := hG _ hm₀
    k_steps
    · rename_i hc
      refine compEnd_keep (R := fun y => Hdrs G (ys ++ [y]) _) (by k_asm) (by k_asm) (by kcj_all) off (.inr ⟨_, by k_mem, rfl, _, rfl⟩) ?_
      rw [take_filter_snoc _ _ _ _ hk', hc]
      exact hI.snoc lk' lv' hm₀
    · rename_i hc
      refine compEnd_keep (R := fun y => Hdrs G ys _) (by k_asm) (by k_asm) (by kcj_all) off (.inr ⟨_, by k_mem, rfl, _, rfl⟩) ?_
      rw [take_filter_snoc _ _ _ _ hk', hc]
      simpa using hI
  · intro ys hI
    have e2 := hH.length
    have e5 : kvs.take vs.toArray.size = kvs := List.take_of_length_le (by rw [List.size_toArray, e2]; exact Nat.le_refl _)
    rw [e5] at hI
    have hlen2 : ys.length ≤ vs.length := by
      have e1 := hI.length
      have e3 := List.length_filter_le (fun kv : Str × Str => Txt.lower kv.1 != Txt.lower x) kvs
      omega
    have hlen' : ys.length ≤ 1000 := by omega
    k_steps
    refine sliceStore (xs := vs) (ys := ys) (by k_asm) (by k_asm) (by k_mem) (by k_mem) (by walk_at "mine lt") hlen hlen' (by k_upd) ?_
    intro h' F' N'
    k_steps
    refine hret _ ((l, listOf ys.toArray _) :: (t, instObj 182 d) :: (d, hdrDict hs kt l n₁) :: news) _ _ (by k_asm) (cb_drop (by k_asm) (by kcj_all)) ⟨_, _, rfl, rfl, hI, hlen2⟩
/-- the same where other objects lie ahead of the table -/
theorem del_pre (w : World) (pre : Led) (t d l : Addr) (hs : Int) (kt : Tok) (n₁ n₃ : Nat) (vs : List Value) (kvs : List (Str × Str)) (x : Str) (tx : Tok) (hx : Letter x) (tl : Led) (hH : Hdrs tl vs kvs) (ho : Off l tl) (hop : Off l pre) (htl : NeA t l) (hdl : NeA d l) (hlen : vs.length ≤ 1000) :
   Spec w 500 5000 102 [.ref t, .str x tx] [] (pre ++ (l, listOf vs.toArray n₃) :: (t, instObj 182 d) :: (d, hdrDict hs kt l n₁) :: tl)
     (fun r news' => ∃ vs' n', r = .none ∧ news' = pre ++ (l, listOf vs'.toArray n') :: (t, instObj 182 d) :: (d, hdrDict hs kt l n₁) :: tl ∧ Hdrs tl vs' (kvs.filter fun kv => Txt.lower kv.1 != Txt.lower x) ∧ vs'.length ≤ vs.length) := by
  refine (del_G w t d l hs kt n₁ n₃ vs kvs x tx hx tl (pre ++ tl) hH (fun p hp => List.mem_append_right _ hp) (fun p hp => (List.mem_append.mp hp).elim (hop p) (ho p)) htl hdl hlen).frame ?_ ?_
  · intro q hq
    simp only [List.mem_cons, List.mem_append] at hq ⊢
    rcases hq with rfl | rfl | rfl | hq | hq
    · exact .inr (.inl rfl)
    · exact .inr (.inr (.inl rfl))
    · exact .inr (.inr (.inr (.inl rfl)))
    · exact .inl hq
    · exact .inr (.inr (.inr (.inr hq)))
  · rintro r n' ⟨vs', n'', rfl, rfl, hH', hle⟩
    refine ⟨_, ?_, vs', n'', rfl, rfl, hH', hle⟩
    intro q hq
    simp only [List.mem_cons, List.mem_append] at hq ⊢
    rcases hq with hq | rfl | rfl | rfl | hq
    · exact .inr (.inr (.inr (.inl hq)))
    · exact .inl rfl
    · exact .inr (.inl rfl)
    · exact .inr (.inr (.inl rfl))
    · exact .inr (.inr (.inr (.inr hq)))
end Mine


namespace Mine
section
variable {prog : Program} {w : World} {A : Around} {E : Value → Shared → Prop} {s : Shared} {env : Env} {h₀ : Heap} {target : Expr} {body : List Stmt} {Q : Flow → Shared → Prop}
/-- a loop over a range with a step -/
theorem iter_rngS {r : Addr} {a b c : Int} {t u v : Tok} {n : Nat} {m₀ : Str → Option Value} {news : Led} (J : Nat → (Str → Option Value) → Led → Prop)
    (hh : A.handled = none) (F : Fr h₀ env.locals s.heap m₀) (N : News h₀ env.locals s.heap news) (hr : IsRange s.heap r a b c t u v) (hsm : Builtin.Range.small a b c = true) (hn : Builtin.Range.rangeSize a b c = ((n : Nat) : Int)) (h0 : J 0 m₀ news)
    (hgo : ∀ (I : Addr) (v : Value), letOwnedTupleGo target (.ref I) v = pure () := by intro _ _; rfl)
    (turn : ∀ i t' m₁ news₁ h tk I oI, i < n → J i m₁ news₁ → (∀ p ∈ news₁, p.1 ≠ I) → Fr h₀ env.locals h m₁ → News h₀ env.locals h ((I, oI) :: news₁) →
      wpAny (model prog w) A (assign target env (.int (a + (i : Int) * c) t')) (fun _ s₃ => wpAny (model prog w) A (execs body env) (TurnR h₀ env.locals (I, oI) (J (i + 1)) { s with heap := h, toks := tk } Q) E s₃) E { s with heap := h, toks := tk })
    (done : ∀ m₁ news₁ h tk, J n m₁ news₁ → Fr h₀ env.locals h m₁ → News h₀ env.locals h news₁ → Q .next { s with heap := h, toks := tk }) :
    wpAny (model prog w) A (pyIter (.ref r)) (fun it s₂ => TurnsAt prog w A h₀ env target body Q E it s₂) E s := by
  refine wpAny_pyIter_range hr hsm ?_
  rw [hn]
  have W := KTurns.ofWalks (target := target) (Walks.range (prog := prog) (w := w) hh s.heap.objs.size a c n) fun i v s Q E st q => wpAny_of_eq (hgo _ _) q
  refine ⟨_, _, _, _, _, _, _, m₀, news, fun i m₁ news₁ => J i m₁ news₁, rfl, W, ?_, ?_, ?_, ?_, F.push _, (fun p hp => ⟨Heap.get?_push_of_some _ (N p hp).1, (N p hp).2⟩), h0, ?_, ?_⟩
  · intro hm
    exact absurd F.ns.lt ((List.mem_singleton.mp hm) ▸ Nat.lt_irrefl _)
  · intro b hb
    rw [List.mem_singleton.mp hb]
    exact next_is_new F
  · intro p hp hI
    exact absurd (Heap.lt_size (N p hp).1) ((List.mem_singleton.mp hI) ▸ Nat.lt_irrefl _)
  · show IsRangeIter _ _ _ _ _
    simpa using Heap.get?_push_size _ rfl
  · intro i v m₁ news₁ h₁ tk₁ own hi hP hJ hnw hown hownget hownall hst F₁ N₁
    obtain ⟨t', rfl⟩ := hP
    have hI₀ : h₀.get? s.heap.objs.size = none := next_is_new F
    have hst' : h₁.get? s.heap.objs.size = some { cls := .type "range_iterator", dict := none, data := .fields #[rawInt (a + ((i + 1 : Nat) : Int) * c), rawInt ((n : Int) - ((i + 1 : Nat) : Int)), rawInt c], slots := #[] } := hst
    generalize hoI : ({ cls := .type "range_iterator", dict := none, data := .fields #[rawInt (a + ((i + 1 : Nat) : Int) * c), rawInt ((n : Int) - ((i + 1 : Nat) : Int)), rawInt c], slots := #[] } : Obj) = oI at hst'
    have mI : (s.heap.objs.size, oI) ∈ own := hownall _ (by simp) hI₀ _ hst'
    have own2 : ∀ p ∈ own, p = (s.heap.objs.size, oI) := by
      intro p hp
      have g := hownget p hp
      have h1 := List.mem_singleton.mp (hown p hp)
      rw [h1, hst'] at g; exact Prod.ext h1 (Option.some.inj g).symm
    have off : ∀ p ∈ news₁, p.1 ≠ s.heap.objs.size := fun p hp e => hnw p hp (by simp [e])
    have N₂ : News h₀ env.locals h₁ ((s.heap.objs.size, oI) :: news₁) := fun p hp => by
      rcases List.mem_cons.mp hp with rfl | hp
      · exact N₁ _ (List.mem_append_left _ mI)
      · exact N₁ _ (List.mem_append_right _ hp)
    have fin : ∀ s₄ : Shared, (∃ h' tk m' news', s₄ = { s with heap := h', toks := tk } ∧ Fr h₀ env.locals h' m' ∧ News h₀ env.locals h' ((s.heap.objs.size, oI) :: news') ∧ (∀ p ∈ news', p.1 ≠ s.heap.objs.size) ∧ J (i + 1) m' news') →
        LoopStepU h₀ env.locals [s.heap.objs.size] own (fun m₁ news₁ => J (i + 1) m₁ news₁) { s with heap := h₁, toks := tk₁ } .next s₄ := by
      rintro s₄ ⟨h', tk, m', news', rfl, F', N', o', j'⟩
      refine ⟨rfl, h', tk, m', news', rfl, F', fun p hp => ?_, fun p hp hq => o' p hp (by simpa using hq), j'⟩
      rcases List.mem_append.mp hp with hp | hp
      · rw [own2 p hp]; exact N' _ List.mem_cons_self
      · exact N' _ (List.mem_cons_of_mem _ hp)
    refine wpAny_mono (turn i t' m₁ news₁ h₁ tk₁ s.heap.objs.size oI hi hJ off F₁ N₂) (fun _ s₃ h₃ => wpAny_mono h₃ (fun f s₄ h₄ => ?_) fun _ _ e => e) fun _ _ e => e
    cases f with
    | ret v => exact h₄
    | brk => exact h₄
    | next => exact LoopStepV.next (fin _ h₄)
    | cont => exact LoopStepV.cont (fin _ h₄)
  · intro h' tk m' news' F' N' hnw hJ
    exact done m' news' h' tk hJ F' N'
end
section
variable {prog : Program} {w : World} {A : Around} {E : Value → Shared → Prop} {s : Shared} {h₀ : Heap} {L D : Addr} {m : Str → Option Value} {news : Led} {Q : Value → Shared → Prop}
theorem strs_ofGet : ∀ (vs : List Value) (cs : List Nat), vs.length = cs.length → (∀ (j : Nat) (v : Value), vs[j]? = some v → ∃ (c : Nat) (u : Tok), cs[j]? = some c ∧ v = Value.str ⟨#[c]⟩ u) → StrsAre vs (cs.map fun c => (⟨#[c]⟩ : Str))
  | [], [], _, _ => .nil
  | [], _ :: _, e, _ => by simp at e
  | _ :: _, [], e, _ => by simp at e
  | v :: vs, c :: cs, e, h => by
    obtain ⟨c', u, hc, rfl⟩ := h 0 v rfl
    simp at hc; subst hc
    exact .cons _ _ (strs_ofGet vs cs (by simpa using e) fun j v hv => by simpa using h (j + 1) v (by simpa using hv))
theorem ksm {k sz : Nat} (h : k < sz) (h5 : sz ≤ 5) : (k : Int) < 2 ^ 63 := by omega
theorem wsz_eq {i : Nat} (h : i < 5) : (5 : Int) + (i : Int) * -1 = ((5 - i : Nat) : Int) := by omega
theorem listLit_L {z : Str} {t : Tok} (hh : A.handled = none) (F : Fr h₀ L s.heap m) (N : News h₀ L s.heap news) (hz : z.cps.size ≤ 1000)
    (h : ∀ D h' tk ys n, Fr h₀ L h' m → News h₀ L h' ((D, listOf ys.toArray n) :: news) → (∀ p ∈ news, p.1 < D) → StrsAre ys (z.cps.toList.map fun c => (⟨#[c]⟩ : Str)) → Q (.ref D) { s with heap := h', toks := tk }) :
    wpAny (model prog w) A (call (.type "list") [.str z t]) Q E s := by
  refine call_list_str hh z t (hn := Nat.le_trans hz (by decide)) fun h' tk acc' c' hk hS' hacc => ?_
  refine h s.heap.objs.size h' tk acc'.toList c' (F.keeps hk) (fun p hp => ?_) (fun p hp => Heap.lt_size (N p hp).1) (strs_ofGet _ _ ?_ ?_)
  · rcases List.mem_cons.mp hp with rfl | hp
    · exact ⟨hS', fun e => absurd F.ns.lt (e ▸ Nat.lt_irrefl _), next_is_new F⟩
    · exact ⟨hk _ _ (N p hp).1, (N p hp).2⟩
  · have := hacc.1
    simpa using this
  · intro j v hv
    obtain ⟨c, u, hc, rfl⟩ := hacc.2 j v (by simpa using hv)
    exact ⟨c, u, by simpa using hc, rfl⟩
theorem cut_some : ∀ (vs : List Value) (k : Nat) (y : Value), vs[k]? = some y → kl_cut vs k = some (vs.take k, y, vs.drop (k + 1))
  | [], _, _, h => by simp at h
  | v :: vs, 0, y, h => by simp at h; subst h; rfl
  | v :: vs, k + 1, y, h => by
    have q := cut_some vs k y (by simpa using h)
    show (match kl_cut vs k with | some (p, y, q) => some (v :: p, y, q) | none => none) = _
    rw [q]; rfl
theorem popAt_L {vs : List Value} {n k : Nat} {u : Tok} {y : Value} {news' : Led} (F : Fr h₀ L s.heap m) (N : News h₀ L s.heap news) (hy : vs[k]? = some y) (hz : vs.length ≤ 1000) (U : Upd D (listOf vs.toArray n) (listOf (vs.eraseIdx k).toArray (n + 1)) news news')
    {Q : Value → Shared → Prop} (h : ∀ h', Fr h₀ L h' m → News h₀ L h' news' → Q y { s with heap := h' }) : wpAny (model prog w) A (call (.builtin "list.pop") [.ref D, .int (k : Int) u]) Q E s := by
  have hk : k < vs.length := by
    rcases Nat.lt_or_ge k vs.length with h | h
    · exact h
    · rw [List.getElem?_eq_none h] at hy; cases hy
  rw [List.eraseIdx_eq_take_drop_succ] at U
  refine kl_popAt (k := k) F N ?_ ?_ (by simpa using cut_some vs k y hy) U ?_ h
  · unfold Builtin.List.listFitsIndex
    simp only [Bool.and_eq_true, decide_eq_true_eq]
    omega
  · unfold seqIndex?
    simp only [List.size_toArray]
    rw [if_neg (by omega : ¬ ((k : Int) < 0))]
    simp [hk]
  · simpa using Nat.le_trans hz (by decide)
end
local macro_rules | `(tactic| walk_at "exec For Name Call cons nil") => `(tactic| k_extra "exec For Name Call cons nil")
local macro_rules | `(tactic| walk_at "exec Assign cons ListComp") => `(tactic| k_extra "exec Assign cons ListComp")
local macro_rules | `(tactic| walk_at "pyIter ref") => `(tactic| k_extra "pyIter ref")
local macro_rules | `(tactic| walk_at "call type:list") => `(tactic| (refine Mine.Hold.intro ?_))
local macro_rules | `(tactic| walk_at "call builtin:list.pop") => `(tactic| (refine Mine.Hold.intro ?_))
local macro_rules | `(tactic| walk_at "call builtin:str.index") => `(tactic| (refine Mine.Hold.intro ?_))
local macro_rules | `(tactic| walk_at "subscriptTail Name Subscript ref int") => `(tactic| k_extra "subscriptTail Name Subscript ref int")
local macro_rules | `(tactic| walk_at "delItem ref str") => `(tactic| k_extra "delItem ref str")
local macro_rules | `(tactic| walk_at "setItem ref int") => `(tactic| (refine Mine.Hold.intro ?_))
local macro_rules | `(tactic| walk_at "eval IfExp") => `(tactic| (refine Mine.Hold.intro ?_))
set_option hygiene false
local macro_rules | `(tactic| walk_at "call builtin:list.count") => `(tactic| k_extra "call builtin:list.count")
set_option hygiene true
theorem low_vals {kvs : List (Str × Str)} {A : List (Nat × Nat)} (h : lowOf kvs = onesOf A) : kvs.map (·.2) = (A.map (·.2)).map one := by
  have e := congrArg (List.map (fun p : Str × Str => p.2)) h
  rw [lowOf, onesOf, List.map_map, List.map_map] at e
  rw [List.map_map]
  exact e
theorem one_at {vs : List Value} {lf : List Nat} (h : StrsAre vs (lf.map one)) {i : Nat} {v : Value} (hv : vs[i]? = some v) : ∃ p t, lf[i]? = some p ∧ v = .str (one p) t := by
  obtain ⟨y, t, hy, rfl⟩ := strsAre_at h hv
  rw [List.getElem?_map] at hy
  cases e : lf[i]? with
  | none => rw [e] at hy; simp at hy
  | some p => rw [e] at hy; simp at hy; exact ⟨p, t, rfl, by rw [← hy]⟩
theorem rngw_small : ∀ i : Nat, i < 6 → Builtin.Range.small 0 (i : Int) 1 = true := by decide
theorem rngw_size : ∀ i : Nat, i < 6 → Builtin.Range.rangeSize 0 (i : Int) 1 = ((i : Nat) : Int) := by decide
local macro_rules | `(tactic| walk_at "CompSrcT") => `(tactic| (refine Mine.Hold.intro ?_))
/-- how often the names are told -/
def cntOf (A : List (Nat × Nat)) (lf : List Nat) : List Int := lf.map fun nm => (((A.map (·.2)).count nm : Nat) : Int)
/-- the ends among the first j -/
def endsOf (c : List Int) (sz : Nat) (j : Nat) : List Int := ((List.range j).filter fun k => decide (c.getD k 0 ∈ [0, (sz : Int) - 1])).map fun (k : Nat) => (k : Int)
theorem ends_succ {c : List Int} {sz j : Nat} : endsOf c sz (j + 1) = endsOf c sz j ++ (if decide (c.getD j 0 ∈ [0, (sz : Int) - 1]) = true then [(j : Int)] else []) := by
  unfold endsOf
  rw [List.range_succ, List.filter_append, List.map_append]
  congr 1
  rw [List.filter_cons]
  split <;> rfl
theorem cnt_getD {A : List (Nat × Nat)} {lf : List Nat} (k : Nat) : (cntOf A lf).getD k 0 = (((lf.map fun nm => (A.map (·.2)).count nm).getD k 0 : Nat) : Int) := by
  unfold cntOf
  rw [List.getD_eq_getElem?_getD, List.getD_eq_getElem?_getD, List.getElem?_map, List.getElem?_map]
  cases lf[k]? <;> rfl
theorem ends_eq {A : List (Nat × Nat)} {lf : List Nat} {sz : Nat} (h : 1 ≤ sz) :
    endsOf (cntOf A lf) sz sz = ((List.range sz).filter fun k => (lf.map fun nm => (A.map (·.2)).count nm).getD k 0 == 0 || (lf.map fun nm => (A.map (·.2)).count nm).getD k 0 == sz - 1).map fun (k : Nat) => (k : Int) := by
  unfold endsOf
  congr 1
  refine List.filter_congr fun k _ => ?_
  rw [cnt_getD]
  generalize (lf.map fun nm => (A.map (·.2)).count nm).getD k 0 = c
  rw [Bool.eq_iff_iff]
  simp
  omega
theorem weigh_none {A : List (Nat × Nat)} {lf : List Nat} {W : List Int} {sz : Nat} (h : 1 ≤ sz) (he : endsOf (cntOf A lf) sz sz = []) : G.weigh sz (A, lf, W) = [] := by
  obtain ⟨n, rfl⟩ : ∃ n, sz = n + 1 := ⟨sz - 1, by omega⟩
  rw [ends_eq h] at he
  have he := List.map_eq_nil_iff.mp he
  unfold G.weigh G.step
  simp only [he]
theorem weigh_some {A : List (Nat × Nat)} {lf : List Nat} {W : List Int} {sz : Nat} {z : Int} {r : List Int} (h : 1 ≤ sz) (hl : lf.length = sz) (he : endsOf (cntOf A lf) sz sz = z :: r) :
    ∃ k p : Nat, z = (k : Int) ∧ k < sz ∧ lf[k]? = some p ∧ G.weigh sz (A, lf, W) = G.weigh (sz - 1) (A.filter (·.1 != p), lf.eraseIdx k, W.set p (if (cntOf A lf).getD k 0 > 0 then (sz : Int) else - (sz : Int))) := by
  obtain ⟨n, rfl⟩ : ∃ n, sz = n + 1 := ⟨sz - 1, by omega⟩
  rw [ends_eq h] at he
  cases hF : (List.range (n + 1)).filter fun k => (lf.map fun nm => (A.map (·.2)).count nm).getD k 0 == 0 || (lf.map fun nm => (A.map (·.2)).count nm).getD k 0 == n + 1 - 1 with
  | nil => rw [hF] at he; cases he
  | cons k r' =>
    rw [hF] at he
    have hk : k < n + 1 := by
      have : k ∈ (List.range (n + 1)).filter fun k => (lf.map fun nm => (A.map (·.2)).count nm).getD k 0 == 0 || (lf.map fun nm => (A.map (·.2)).count nm).getD k 0 == n + 1 - 1 := by rw [hF]; exact List.mem_cons_self
      exact List.mem_range.mp (List.mem_filter.mp this).1
    have hp : lf[k]? = some (lf.getD k 0) := by rw [List.getD_eq_getElem?_getD, List.getElem?_eq_getElem (by omega)]; rfl
    refine ⟨k, lf.getD k 0, (List.cons.inj he).1.symm, hk, hp, ?_⟩
    show (match G.step (n + 1) (A, lf, W) with | none => [] | some s' => G.weigh n s') = _
    unfold G.step
    simp only [hF]
    rw [cnt_getD]
    congr 1
    have : (((lf.map fun nm => (A.map (·.2)).count nm).getD k 0 : Nat) : Int) > 0 ↔ (lf.map fun nm => (A.map (·.2)).count nm).getD k 0 > 0 := by omega
    simp only [this]
theorem low_del {kvs : List (Str × Str)} {A : List (Nat × Nat)} {p : Nat} (h : lowOf kvs = onesOf A) (hp : p ≤ 4) : lowOf (kvs.filter fun kv => Txt.lower kv.1 != Txt.lower (Txt.upper (one p))) = onesOf (A.filter (·.1 != p)) := by
  have e : Txt.lower (Txt.upper (one p)) = one p := by
    have : p = 0 ∨ p = 1 ∨ p = 2 ∨ p = 3 ∨ p = 4 := by omega
    rcases this with rfl | rfl | rfl | rfl | rfl <;> decide +kernel
  rw [e]
  have e1 : lowOf (kvs.filter fun kv => Txt.lower kv.1 != one p) = (lowOf kvs).filter (fun kv => kv.1 != one p) := by
    unfold lowOf; rw [List.filter_map]; rfl
  have e2 : onesOf (A.filter (·.1 != p)) = (onesOf A).filter (fun kv => kv.1 != one p) := by
    unfold onesOf; rw [List.filter_map]
    congr 1
    refine List.filter_congr fun q _ => ?_
    show _ = (one q.1 != one p)
    by_cases hq : q.1 = p
    · rw [hq]; simp
    · rw [show (q.1 != p) = true from by simpa using hq, show (one q.1 != one p) = true from by simpa using fun k => hq (one_inj.mp k)]
  rw [e1, h, e2]
theorem letter_one {p : Nat} (hp : p ≤ 4) : Letter (one p) := by
  have : p = 0 ∨ p = 1 ∨ p = 2 ∨ p = 3 ∨ p = 4 := by omega
  rcases this with rfl | rfl | rfl | rfl | rfl <;> (show _ ∈ letters; decide +kernel)
theorem occ5 {p : Nat} (h : p ≤ 4) : Builtin.Str.occurrences (Str.ofString "abcde") (one p) 0 (Str.ofString "abcde").length 1 = [p] := by
  have : p = 0 ∨ p = 1 ∨ p = 2 ∨ p = 3 ∨ p = 4 := by omega
  rcases this with rfl | rfl | rfl | rfl | rfl <;> decide +kernel
theorem index5_L {M : Program} {w : World} {A : Around} {E : Value → Shared → Prop} {s : Shared} {p : Nat} {x : Str} {t u : Tok} {Q : Value → Shared → Prop} (hp : p ≤ 4) (hx : x = one p) (h : Q (.int (p : Int) s.toks) { s with toks := s.toks + 1 }) :
    wpAny (model M w) A (call (.builtin "str.index") [.str (Str.ofString "abcde") t, .str x u]) Q E s := by subst hx; exact SC.index (occ5 hp) h
theorem off8of {I a b c d e f g k : Addr} {oa ob oc od oe of og ok : Obj} {tl : Led} (h1 : NeA a I) (h2 : NeA b I) (h3 : NeA c I) (h4 : NeA d I) (h5 : NeA e I) (h6 : NeA f I) (h7 : NeA g I) (h8 : NeA k I) (h9 : Off I tl) :
    ∀ p ∈ (a, oa) :: (b, ob) :: (c, oc) :: (d, od) :: (e, oe) :: (f, of) :: (g, og) :: (k, ok) :: tl, p.1 ≠ I :=
  List.forall_mem_cons.mpr ⟨h1, List.forall_mem_cons.mpr ⟨h2, List.forall_mem_cons.mpr ⟨h3, List.forall_mem_cons.mpr ⟨h4, List.forall_mem_cons.mpr ⟨h5, List.forall_mem_cons.mpr ⟨h6, List.forall_mem_cons.mpr ⟨h7, List.forall_mem_cons.mpr ⟨h8, h9⟩⟩⟩⟩⟩⟩⟩⟩
theorem strs_erase : ∀ (lf : List Nat) (vs : List Value) (k : Nat), StrsAre vs (lf.map one) → StrsAre (vs.eraseIdx k) ((lf.eraseIdx k).map one)
  | [], _, _, h => by cases h; exact .nil
  | p :: lf, _, 0, h => by cases h with | cons _ _ h => exact h
  | p :: lf, _, k + 1, h => by cases h with | cons _ _ h => exact .cons _ _ (strs_erase lf _ k h)
theorem lt5 {p : Nat} {W : List Int} (h : p ≤ 4) (hz : W.length = 5) : (p : Int) < W.length := by rw [hz]; omega
theorem lt5big {p : Nat} (h : p ≤ 4) : (p : Int) < 2 ^ 63 := by omega
theorem cnt_len {A : List (Nat × Nat)} {lf : List Nat} : (cntOf A lf).length = lf.length := by simp [cntOf]
theorem cnt_snoc {A : List (Nat × Nat)} {lf : List Nat} {i p : Nat} (h : lf[i]? = some p) : cntOf A (lf.take (i + 1)) = cntOf A (lf.take i) ++ [(((A.map (·.2)).count p : Nat) : Int)] := by
  rw [List.take_add_one, h]
  simp [cntOf]
theorem abcde_of : (Str.ofString "abcde").cps.toList.map (fun c => (⟨#[c]⟩ : Str)) = ([0, 1, 2, 3, 4] : List Nat).map one := by decide +kernel
theorem off8 {I a b c d e f g k : Addr} {oa ob oc od oe of og ok : Obj} {tl : Led} (h : ∀ p ∈ (a, oa) :: (b, ob) :: (c, oc) :: (d, od) :: (e, oe) :: (f, of) :: (g, og) :: (k, ok) :: tl, p.1 ≠ I) :
    NeA a I ∧ NeA b I ∧ NeA c I ∧ NeA d I ∧ NeA e I ∧ NeA f I ∧ NeA g I ∧ NeA k I ∧ Off I tl :=
  ⟨h _ (.head _), h _ (.tail _ (.head _)), h _ (.tail _ (.tail _ (.head _))), h _ (.tail _ (.tail _ (.tail _ (.head _)))), h _ (.tail _ (.tail _ (.tail _ (.tail _ (.head _))))), h _ (.tail _ (.tail _ (.tail _ (.tail _ (.tail _ (.head _)))))), h _ (.tail _ (.tail _ (.tail _ (.tail _ (.tail _ (.tail _ (.head _))))))), h _ (.tail _ (.tail _ (.tail _ (.tail _ (.tail _ (.tail _ (.tail _ (.head _)))))))),
    fun p hp => h p (.tail _ (.tail _ (.tail _ (.tail _ (.tail _ (.tail _ (.tail _ (.tail _ hp)))))))) ⟩
/-- the weighing so far -/
def WeiJ (m₀ : Str → Option Value) (t d l cT cS cF lW lL : Addr) (oT : Obj) (hs : Int) (kt : Tok) (n₁ : Nat) (A₀ : List (Nat × Nat)) (tl : Led) (i : Nat) (m₁ : Str → Option Value) (news₁ : Led) : Prop :=
  (∀ z, [Str.ofString "name", Str.ofString "ends"].contains z = false → m₁ z = m₀ z) ∧ ∃ (ws lv vs : List Value) (nw nl n : Nat) (oS oF : Obj) (vS vF : Option Value) (kvs : List (Str × Str)) (A : List (Nat × Nat)) (lf : List Nat) (W : List Int),
    news₁ = (lW, listOf ws.toArray nw) :: (lL, listOf lv.toArray nl) :: (cF, oF) :: (cS, oS) :: (cT, oT) :: (l, listOf vs.toArray n) :: (t, instObj 182 d) :: (d, hdrDict hs kt l n₁) :: tl ∧
    oS.data = .cell vS ∧ oF.data = .cell vF ∧ IntsAre ws W ∧ W.length = 5 ∧ StrsAre lv (lf.map one) ∧ lf.length = 5 - i ∧ (∀ p ∈ lf, p ≤ 4) ∧ Hdrs tl vs kvs ∧ lowOf kvs = onesOf A ∧ vs.length ≤ 20 ∧ G.weigh (5 - i) (A, lf, W) = G.weights A₀
theorem weights_spec (w : World) (t d l : Addr) (hs : Int) (kt : Tok) (n₁ n₃ : Nat) (vs : List Value) (kvs : List (Str × Str)) (A₀' : List (Nat × Nat)) (tl : Led) (hH : Hdrs tl vs kvs) (hlow : lowOf kvs = onesOf A₀') (ho : Off l tl) (htl : NeA t l) (hdl : NeA d l) (hlen : vs.length ≤ 20) :
   Spec w 350 3000 273 [.ref t] [] ((l, listOf vs.toArray n₃) :: (t, instObj 182 d) :: (d, hdrDict hs kt l n₁) :: tl) (fun r news' => ∃ D us n, r = .ref D ∧ news' = (D, listOf us.toArray n) :: tl ∧ Off D tl ∧ IntsAre us (G.weights A₀')) := by
  k_with_none
  k_with "getMethod ref" => ((k_here; (with_reducible show wpAny _ _ (getMethod (Value.ref _) (Str.ofString "search") _) _ _ _); k_dflt (refine' Mine.meth_search ?k1 ?k2 ?k3 ?k4 ?k5 ?_; (case k1 => k_asm); (case k2 => k_asm); (case k3 => k_is); (case k4 => rfl); (case k5 => rfl); k_whole)))
  k_with "call builtin:re.Pattern.search" => ((k_here; k_dflt (refine' Mine.call_search ?k1 ?k2 ?k3 ?k4 ?k5 ?_; (case k1 => k_asm); (case k2 => k_asm); (case k3 => k_is); (case k4 => rfl); (case k5 => first | with_reducible exact Mine.srchN _ _ _ (by assumption) | with_reducible exact Mine.srchV _ _ _ (by assumption)); k_whole)))
  k_with "mine use" => (((case k1 => k_asm); (case k2 => k_asm); (case k3 => k_asm); (case k4 => k_asm); (case k5 => k_asm); (case kd => exact Nat.le_of_ble_eq_true rfl); (case ku => exact Nat.le_of_ble_eq_true rfl)))
  k_with "mine lt" => ((walk_at "mine and"; first | omega | assumption | exact allLt_of (by assumption) | exact Mine.ltUp (by omega) (by assumption) | exact Mine.ltUp (by omega) (allLt_of (by assumption))))
  k_with "mine letter" => (first | assumption | exact Mine.Letter.lower (by assumption) | exact Mine.Letter.upper (by assumption) | exact Mine.Letter.lower (Mine.Letter.upper (by assumption)))
  k_with "call builtin:str.lower" => ((k_here; k_dflt (refine Mine.lower_L (by walk_at "mine letter") ?_)))
  k_with "call builtin:str.upper" => ((k_here; k_dflt (refine Mine.upper_L (by walk_at "mine letter") ?_)))
  k_with "eval ListComp" => (k_extra "mine comp")
  k_with "CompRestT" => (k_extra "mine restT")
  k_with "CompRest" => (k_extra "mine rest")
  k_with "exec For Tuple Attribute cons nil" => (k_extra "mine for")
  k_with "exec For Tuple Name cons nil" => (k_extra "mine for")
  k_with "exec While Compare cons nil" => (k_extra "mine while")
  k_with "delItem ref" => ((k_here; k_dflt (refine' Mine.own_delItem ?F ?X ?I ?hQ ?hS ?hF ?_; (case F => k_asm); (case X => k_asm); (case I => k_inst); (case hS => k_is); (case hF => k_is); (case hQ => k_is); k_whole)))
  k_with "mine hdrs" => (first | assumption | exact Mine.Hdrs.mono (by kcj_all) (by assumption))
  k_with "call ref" => ((k_here; k_dflt (refine' Mine.Spec.use (Mine.ent_spec _ _) ?k1 ?k2 ?k3 ?k4 ?k5 ?kd ?ku ?_; walk_at "mine use"; k_whole; intro rE nE hE tkE FE NE RE; obtain ⟨xE, dE, uE, vE, aE, bE, cE, fE, eE, eE', lE, mE, oE, pE⟩ := RE; subst eE eE'; (try (replace lE := Mine.ltOf lE; k_lt lE)); (try dsimp only); (try k_sweep); (try k_fold))))
  k_with "call ref" => ((k_here; k_dflt (refine' Mine.Spec.use (Mine.merge_spec _ _ _ _ _ _ _ _ _ _ _ _ _ _ _ _ _ _ _ _ _ _ _ _ _ _ _ _ _ _ ?h1 ?h2 ?h3 ?h4 ?g1 ?g2 ?g3 ?g4 ?y1 ?y2 ?z1 ?z2 ?z3 ?z4) ?k1 ?k2 ?k3 ?k4 ?k5 ?kd ?ku ?_; walk_at "mine use"; (case h1 => k_mem); (case h2 => k_mem); (case h3 => k_mem); (case h4 => k_mem); (case g1 => k_mem); (case g2 => k_mem); (case g3 => k_mem); (case g4 => k_mem); (case y1 => walk_at "mine strs"); (case y2 => walk_at "mine strs"); (case z1 => walk_at "mine len"); (case z2 => walk_at "mine len"); (case z3 => walk_at "mine len"); (case z4 => walk_at "mine len"); k_whole; intro rM nM hM tkM FM NM RM; obtain ⟨xM, dM, uM, vM, sM, aM, bM, cM, fM, gM, iM, jM, eM, eM', SM, zM, lM, mM, oM, pM⟩ := RM; subst eM eM'; (try (replace lM := Mine.ltOf lM; k_lt lM)); (try dsimp only); (try k_sweep); (try k_fold))))
  k_with "mine strs" => (first | assumption | exact StrsAre.nil | (refine StrsAre.cons _ _ ?_; walk_at "mine strs"))
  k_with "mine len" => (first | assumption | omega | (simp only [List.length_cons, List.length_nil, List.length_append]; omega))
  k_with "mine hdrs" => (first | assumption | (refine Mine.Hdrs.mono ?hs9 (by assumption); kcj_all))
  k_with "subscriptTail Name Constant ref int" => (k_extra "mine item")
  k_with "subscriptTail Attribute Name Constant ref int" => (k_extra "mine item")
  k_with "mine len" => ((simp only [List.length_cons, List.length_nil, List.length_append, List.length_take, List.length_reverse]; omega))
  k_with "call ref" => ((k_here; k_dflt (refine' Mine.Spec.use (Mine.new_spec _ _) ?k1 ?k2 ?k3 ?k4 ?k5 ?kd ?ku ?_; walk_at "mine use"; k_whole; intro rN nN hN tkN FN NN RN; obtain ⟨tN, dN, lN, aN, bN, eN, eN', uN, vN, wN⟩ := RN; subst eN eN'; (try (replace uN := Mine.ltOf uN; k_lt uN)); (try dsimp only); (try k_sweep); (try k_fold))))
  k_with "mine letter" => ((show _ ∈ Mine.letters; decide +kernel))
  k_with "mine hdrs" => (exact Mine.Hdrs.nil)
  k_with "mine len" => (first | assumption | omega | (simp only [List.length_cons, List.length_nil, List.length_append, List.length_take, List.length_reverse] <;> omega) | (subst_vars; (simp only [List.length_cons, List.length_nil, List.length_append, List.length_take, List.length_reverse] <;> omega)))
  k_with "mine tsub" => (first | exact Mine.TSub.nil | exact Mine.TSub.sub (fun _ h => h) | (refine Mine.TSub.keep (by k_mem) ?_; walk_at "mine tsub") | (refine Mine.TSub.skip (by k_cls) ?_; walk_at "mine tsub") | exact Mine.TSub.sub (by kcj_all))
  k_with "mine drop" => (first | (refine' Mine.DropAt.head ?a; (case a => k_all)) | (refine' Mine.DropAt.tail ?a ?b; (case a => k_ne); (case b => walk_at "mine drop")))
  k_with "UnrEnd" => ((refine' Mine.unrEnd_drop ?k1 ?k2 ?k3 ?_; (case k1 => k_asm); (case k2 => k_asm); (case k3 => walk_at "mine drop")))
  k_with "mine sub" => (first | exact fun _ h => h | assumption | exact Mine.subNil | (refine' Mine.subCons ?u1 ?u2; (case u1 => k_mem); (case u2 => walk_at "mine sub")) | (refine Mine.subTail ?_; walk_at "mine sub"))
  k_with "subscriptTail Name Name ref int" => ((k_here; k_dflt (refine' Mine.item_L ?k0 ?k1 ?k2 ?k3 ?k4 ?_; (case k0 => k_asm); (case k1 => k_mem); (case k2 => first | decide | omega); (case k3 => first | decide | omega); (case k4 => first | assumption | rfl); k_whole)))
  k_with "compareOp In int ref" => ((k_here; k_dflt (refine' Mine.in_L ?k0 ?k1 ?k2 ?k3 ?_; (case k0 => k_asm); (case k1 => k_mem); (case k2 => first | assumption | exact .cons _ _ (.cons _ _ .nil)); (case k3 => ke_room); k_whole)))
  k_with "compareOp NotIn int ref" => ((k_here; k_dflt (refine' Mine.notIn_L ?k0 ?k1 ?k2 ?k3 ?_; (case k0 => k_asm); (case k1 => k_mem); (case k2 => assumption); (case k3 => ke_room); k_whole)))
  k_with "compareOp Eq ref ref" => ((k_here; k_dflt (refine' Mine.eqL ?k0 ?k1 ?k2 ?k3 ?k4 ?k5 ?_; (case k0 => k_asm); (case k1 => k_mem); (case k2 => k_mem); (case k3 => assumption); (case k4 => first | assumption | exact .nil); (case k5 => ke_room); k_whole)))
  k_with "compareOp NotEq ref ref" => ((k_here; k_dflt (refine' Mine.neL ?k0 ?k1 ?k2 ?k3 ?k4 ?k5 ?_; (case k0 => k_asm); (case k1 => k_mem); (case k2 => k_mem); (case k3 => assumption); (case k4 => first | assumption | exact .nil); (case k5 => ke_room); k_whole)))
  k_with "exec For Name Call cons nil" => (k_extra "mine for")
  k_with "exec Assign cons ListComp" => (k_extra "mine asg")
  k_with "pyIter ref" => (((with_reducible show wpAny _ _ (pyIter (Value.ref _)) (fun it s₂ => TurnsAt _ _ _ _ _ _ _ _ _ it s₂) _ _); k_extra "mine iter"))
  k_with "getMethod ref" => ((k_here; (with_reducible show wpAny _ _ (getMethod (Value.ref _) (PySem.Str.ofString "count") _) _ _ _); k_dflt (refine' listMethod_K ?N ?m PySem.F.slot_list_count PySem.F.type_list_count ?_; (case N => k_asm); (case m => k_mem))))
  k_with "subscriptTail Name Constant ref int" => ((k_here; k_dflt (refine' Mine.item_L ?k0 ?k1 ?k2 ?k3 ?k4 ?_; (case k0 => k_asm); (case k1 => k_mem); (case k2 => decide); (case k3 => decide); (case k4 => rfl); k_whole)))
  k_with "subscriptTail Name Subscript ref int" => ((k_here; k_dflt (refine' Mine.item_L ?k0 ?k1 ?k2 ?k3 ?k4 ?_; (case k0 => k_asm); (case k1 => k_mem); (case k2 => exact Int.natCast_nonneg _); (case k3 => exact Mine.ksm (by assumption) (by assumption)); (case k4 => assumption); k_whole)))
  k_with "subscriptTail Name Name ref int" => ((k_here; k_dflt (refine' Mine.item_L ?k0 ?k1 ?k2 ?k3 ?k4 ?_; (case k0 => k_asm); (case k1 => k_mem); (case k2 => exact Int.natCast_nonneg _); (case k3 => exact Mine.ksm (by assumption) (by assumption)); (case k4 => assumption); k_whole)))
  k_with "delItem ref str" => ((k_here; k_dflt (refine' Mine.own_delItem ?F ?X ?I ?hQ ?hS ?hF ?_; (case F => k_asm); (case X => k_asm); (case I => k_inst); (case hS => k_is); (case hF => k_is); (case hQ => k_is); k_whole)))
  k_with "mine sub2" => (first | exact fun _ h => h | assumption | (refine Mine.subTail ?_; walk_at "mine sub2"))
  k_with "call ref" => (((with_reducible show wpAny _ _ (call (Value.ref 139) _) _ _ _); (refine Mine.Hold.intro ?_)))
  k_with "call ref" => (((with_reducible show wpAny _ _ (call (Value.ref 102) _) _ _ _); (refine Mine.Hold.intro ?_)))
  k_with "call builtin:list.count" => ((k_here; k_dflt (refine' Mine.count_L ?k1 ?k2 ?k3 ?k4 ?_; (case k1 => k_asm); (case k2 => k_mem); (case k3 => assumption); (case k4 => rfl); k_whole); intro t9 k9; (try dsimp only); (try k_sweep)))
  w_top off
  have : Challenge.rw_rl0103_02 = Challenge.rw_rl0103_02 ∧ Mine.hd.heap_39 = Mine.hd.heap_39 := by k_fill; exact ⟨rfl, rfl⟩
  intro cn names ig ic more a ccd cl outer A₀ base h₀ L m mean mg mb s Q E B F X N T hret
  k_with "mine for" => (walk_at "mine turns")
  k_with "mine iter" => (refine Mine.Hold.intro ?_)
  k_steps
  unfold Hold
  rename_i gN LN hN tkN FGN FN BN XN TN lN oF oS oT dF dS dT NN
  replace FN := frCast FN (bindL_cell rfl rfl)
  replace dT : oT.data = Data.cell (some (.ref t)) := dT.trans (congrArg Data.cell (bindC_cell rfl rfl))
  refine listLit_L rfl (by k_asm) (by k_asm) (by decide +kernel) ?_
  intro D9 h9 tk9 ys9 n9 F9 N9 l9 S9
  rw [abcde_of] at S9
  k_lt l9
  dsimp only
  k_steps
  unfold Hold
  rename (News gN LN _ _) => NW
  walk_at "mine and"
  have hlN : l < LN := by assumption
  have c1 : @Ne Nat (LN + 1) l := Nat.ne_of_gt (Nat.lt_succ_of_lt hlN)
  have c2 : @Ne Nat (LN + 1 + 1) l := Nat.ne_of_gt (Nat.lt_succ_of_lt (Nat.lt_succ_of_lt hlN))
  have c3 : @Ne Nat (LN + 1 + 1 + 1) l := Nat.ne_of_gt (Nat.lt_succ_of_lt (Nat.lt_succ_of_lt (Nat.lt_succ_of_lt hlN)))
  have htN : t < LN := by assumption
  have ct2 : @Ne Nat (LN + 1 + 1) t := Nat.ne_of_gt (Nat.lt_succ_of_lt (Nat.lt_succ_of_lt htN))
  have ct3 : @Ne Nat (LN + 1 + 1 + 1) t := Nat.ne_of_gt (Nat.lt_succ_of_lt (Nat.lt_succ_of_lt (Nat.lt_succ_of_lt htN)))
  have hdN : d < LN := by assumption
  have cd2 : @Ne Nat (LN + 1 + 1) d := Nat.ne_of_gt (Nat.lt_succ_of_lt (Nat.lt_succ_of_lt hdN))
  have cd3 : @Ne Nat (LN + 1 + 1 + 1) d := Nat.ne_of_gt (Nat.lt_succ_of_lt (Nat.lt_succ_of_lt (Nat.lt_succ_of_lt hdN)))
  have n21 : @Ne Nat (LN + 1 + 1) (LN + 1) := Nat.succ_ne_self _
  have n32 : @Ne Nat (LN + 1 + 1 + 1) (LN + 1 + 1) := Nat.succ_ne_self _
  have n31 : @Ne Nat (LN + 1 + 1 + 1) (LN + 1) := Nat.ne_of_gt (Nat.lt_succ_of_lt (Nat.lt_succ_self _))
  have hrep : ∀ t : Tok, (List.replicate (Int.toNat 5) [Value.int 0 t]).flatten = [.int 0 t, .int 0 t, .int 0 t, .int 0 t, .int 0 t] := fun _ => rfl
  rw [hrep] at NW
  refine iter_rngS (n := 5) (WeiJ _ t d l (LN + 1) (LN + 1 + 1) (LN + 1 + 1 + 1) _ D9 oT hs kt n₁ A₀' tl) rfl (by k_asm) (cb_drop NW (by walk_at "mine sub")) (by assumption) (by decide) (by rfl)
    ⟨fun _ _ => rfl, _, ys9, vs, _, n9, n₃, oS, oF, _, _, kvs, A₀', [0, 1, 2, 3, 4], [0, 0, 0, 0, 0], rfl, dS, dF, .cons _ _ (.cons _ _ (.cons _ _ (.cons _ _ (.cons _ _ .nil)))), rfl, S9, rfl, by decide, hH, hlow, hlen, rfl⟩ (by intro _ _; rfl) ?_ ?_
  · clear hH hlow hlen S9 dS dF
    rintro i t' m₁ news₁ h tk I oI hi ⟨hm, ws, lv, vs, nw, nl, n, oS, oF, vS, vF, kvs, A, lf, W, rfl, dS, dF, hW, hW5, hL, hll, hl4, hH, hlow, hlen, hG⟩ hI F1 N1
    rw [← mapKey hm] at F1
    obtain ⟨i1, i2, i3, i4, i5, i6, i7, i8, i9⟩ := off8 hI
    rw [wsz_eq hi]
    have hs1 : 1 ≤ 5 - i := Nat.sub_pos_of_lt hi
    have hs5 : 5 - i ≤ 5 := Nat.sub_le _ _
    have hs' : 5 - (i + 1) = (5 - i) - 1 := Nat.sub_succ _ _
    generalize 5 - i = sz at hll hG hs1 hs5 hs'
    k_with_none
    k_with "getMethod ref" => ((k_here; (with_reducible show wpAny _ _ (getMethod (Value.ref _) (Str.ofString "search") _) _ _ _); k_dflt (refine' Mine.meth_search ?k1 ?k2 ?k3 ?k4 ?k5 ?_; (case k1 => k_asm); (case k2 => k_asm); (case k3 => k_is); (case k4 => rfl); (case k5 => rfl); k_whole)))
    k_with "call builtin:re.Pattern.search" => ((k_here; k_dflt (refine' Mine.call_search ?k1 ?k2 ?k3 ?k4 ?k5 ?_; (case k1 => k_asm); (case k2 => k_asm); (case k3 => k_is); (case k4 => rfl); (case k5 => first | with_reducible exact Mine.srchN _ _ _ (by assumption) | with_reducible exact Mine.srchV _ _ _ (by assumption)); k_whole)))
    k_with "mine use" => (((case k1 => k_asm); (case k2 => k_asm); (case k3 => k_asm); (case k4 => k_asm); (case k5 => k_asm); (case kd => exact Nat.le_of_ble_eq_true rfl); (case ku => exact Nat.le_of_ble_eq_true rfl)))
    k_with "mine lt" => ((walk_at "mine and"; first | omega | assumption | exact allLt_of (by assumption) | exact Mine.ltUp (by omega) (by assumption) | exact Mine.ltUp (by omega) (allLt_of (by assumption))))
    k_with "mine letter" => (first | assumption | exact Mine.Letter.lower (by assumption) | exact Mine.Letter.upper (by assumption) | exact Mine.Letter.lower (Mine.Letter.upper (by assumption)))
    k_with "call builtin:str.lower" => ((k_here; k_dflt (refine Mine.lower_L (by walk_at "mine letter") ?_)))
    k_with "call builtin:str.upper" => ((k_here; k_dflt (refine Mine.upper_L (by walk_at "mine letter") ?_)))
    k_with "eval ListComp" => (k_extra "mine comp")
    k_with "CompRestT" => (k_extra "mine restT")
    k_with "CompRest" => (k_extra "mine rest")
    k_with "exec For Tuple Attribute cons nil" => (k_extra "mine for")
    k_with "exec For Tuple Name cons nil" => (k_extra "mine for")
    k_with "exec While Compare cons nil" => (k_extra "mine while")
    k_with "delItem ref" => ((k_here; k_dflt (refine' Mine.own_delItem ?F ?X ?I ?hQ ?hS ?hF ?_; (case F => k_asm); (case X => k_asm); (case I => k_inst); (case hS => k_is); (case hF => k_is); (case hQ => k_is); k_whole)))
    k_with "mine hdrs" => (first | assumption | exact Mine.Hdrs.mono (by kcj_all) (by assumption))
    k_with "call ref" => ((k_here; k_dflt (refine' Mine.Spec.use (Mine.ent_spec _ _) ?k1 ?k2 ?k3 ?k4 ?k5 ?kd ?ku ?_; walk_at "mine use"; k_whole; intro rE nE hE tkE FE NE RE; obtain ⟨xE, dE, uE, vE, aE, bE, cE, fE, eE, eE', lE, mE, oE, pE⟩ := RE; subst eE eE'; (try (replace lE := Mine.ltOf lE; k_lt lE)); (try dsimp only); (try k_sweep); (try k_fold))))
    k_with "call ref" => ((k_here; k_dflt (refine' Mine.Spec.use (Mine.merge_spec _ _ _ _ _ _ _ _ _ _ _ _ _ _ _ _ _ _ _ _ _ _ _ _ _ _ _ _ _ _ ?h1 ?h2 ?h3 ?h4 ?g1 ?g2 ?g3 ?g4 ?y1 ?y2 ?z1 ?z2 ?z3 ?z4) ?k1 ?k2 ?k3 ?k4 ?k5 ?kd ?ku ?_; walk_at "mine use"; (case h1 => k_mem); (case h2 => k_mem); (case h3 => k_mem); (case h4 => k_mem); (case g1 => k_mem); (case g2 => k_mem); (case g3 => k_mem); (case g4 => k_mem); (case y1 => walk_at "mine strs"); (case y2 => walk_at "mine strs"); (case z1 => walk_at "mine len"); (case z2 => walk_at "mine len"); (case z3 => walk_at "mine len"); (case z4 => walk_at "mine len"); k_whole; intro rM nM hM tkM FM NM RM; obtain ⟨xM, dM, uM, vM, sM, aM, bM, cM, fM, gM, iM, jM, eM, eM', SM, zM, lM, mM, oM, pM⟩ := RM; subst eM eM'; (try (replace lM := Mine.ltOf lM; k_lt lM)); (try dsimp only); (try k_sweep); (try k_fold))))
    k_with "mine strs" => (first | assumption | exact StrsAre.nil | (refine StrsAre.cons _ _ ?_; walk_at "mine strs"))
    k_with "mine len" => (first | assumption | omega | (simp only [List.length_cons, List.length_nil, List.length_append]; omega))
    k_with "mine hdrs" => (first | assumption | (refine Mine.Hdrs.mono ?hs9 (by assumption); kcj_all))
    k_with "subscriptTail Name Constant ref int" => (k_extra "mine item")
    k_with "subscriptTail Attribute Name Constant ref int" => (k_extra "mine item")
    k_with "mine len" => ((simp only [List.length_cons, List.length_nil, List.length_append, List.length_take, List.length_reverse]; omega))
    k_with "call ref" => ((k_here; k_dflt (refine' Mine.Spec.use (Mine.new_spec _ _) ?k1 ?k2 ?k3 ?k4 ?k5 ?kd ?ku ?_; walk_at "mine use"; k_whole; intro rN nN hN tkN FN NN RN; obtain ⟨tN, dN, lN, aN, bN, eN, eN', uN, vN, wN⟩ := RN; subst eN eN'; (try (replace uN := Mine.ltOf uN; k_lt uN)); (try dsimp only); (try k_sweep); (try k_fold))))
    k_with "mine letter" => ((show _ ∈ Mine.letters; decide +kernel))
    k_with "mine hdrs" => (exact Mine.Hdrs.nil)
    k_with "mine len" => (first | assumption | omega | (simp only [List.length_cons, List.length_nil, List.length_append, List.length_take, List.length_reverse] <;> omega) | (subst_vars; (simp only [List.length_cons, List.length_nil, List.length_append, List.length_take, List.length_reverse] <;> omega)))
    k_with "mine tsub" => (first | exact Mine.TSub.nil | exact Mine.TSub.sub (fun _ h => h) | (refine Mine.TSub.keep (by k_mem) ?_; walk_at "mine tsub") | (refine Mine.TSub.skip (by k_cls) ?_; walk_at "mine tsub") | exact Mine.TSub.sub (by kcj_all))
    k_with "mine drop" => (first | (refine' Mine.DropAt.head ?a; (case a => k_all)) | (refine' Mine.DropAt.tail ?a ?b; (case a => k_ne); (case b => walk_at "mine drop")))
    k_with "UnrEnd" => ((refine' Mine.unrEnd_drop ?k1 ?k2 ?k3 ?_; (case k1 => k_asm); (case k2 => k_asm); (case k3 => walk_at "mine drop")))
    k_with "mine sub" => (first | exact fun _ h => h | assumption | exact Mine.subNil | (refine' Mine.subCons ?u1 ?u2; (case u1 => k_mem); (case u2 => walk_at "mine sub")) | (refine Mine.subTail ?_; walk_at "mine sub"))
    k_with "subscriptTail Name Name ref int" => ((k_here; k_dflt (refine' Mine.item_L ?k0 ?k1 ?k2 ?k3 ?k4 ?_; (case k0 => k_asm); (case k1 => k_mem); (case k2 => first | decide | omega); (case k3 => first | decide | omega); (case k4 => first | assumption | rfl); k_whole)))
    k_with "compareOp In int ref" => ((k_here; k_dflt (refine' Mine.in_L ?k0 ?k1 ?k2 ?k3 ?_; (case k0 => k_asm); (case k1 => k_mem); (case k2 => first | assumption | exact .cons _ _ (.cons _ _ .nil)); (case k3 => ke_room); k_whole)))
    k_with "compareOp NotIn int ref" => ((k_here; k_dflt (refine' Mine.notIn_L ?k0 ?k1 ?k2 ?k3 ?_; (case k0 => k_asm); (case k1 => k_mem); (case k2 => assumption); (case k3 => ke_room); k_whole)))
    k_with "compareOp Eq ref ref" => ((k_here; k_dflt (refine' Mine.eqL ?k0 ?k1 ?k2 ?k3 ?k4 ?k5 ?_; (case k0 => k_asm); (case k1 => k_mem); (case k2 => k_mem); (case k3 => assumption); (case k4 => first | assumption | exact .nil); (case k5 => ke_room); k_whole)))
    k_with "compareOp NotEq ref ref" => ((k_here; k_dflt (refine' Mine.neL ?k0 ?k1 ?k2 ?k3 ?k4 ?k5 ?_; (case k0 => k_asm); (case k1 => k_mem); (case k2 => k_mem); (case k3 => assumption); (case k4 => first | assumption | exact .nil); (case k5 => ke_room); k_whole)))
    k_with "exec For Name Call cons nil" => (k_extra "mine for")
    k_with "exec Assign cons ListComp" => (k_extra "mine asg")
    k_with "pyIter ref" => (((with_reducible show wpAny _ _ (pyIter (Value.ref _)) (fun it s₂ => TurnsAt _ _ _ _ _ _ _ _ _ it s₂) _ _); k_extra "mine iter"))
    k_with "getMethod ref" => ((k_here; (with_reducible show wpAny _ _ (getMethod (Value.ref _) (PySem.Str.ofString "count") _) _ _ _); k_dflt (refine' listMethod_K ?N ?m PySem.F.slot_list_count PySem.F.type_list_count ?_; (case N => k_asm); (case m => k_mem))))
    k_with "subscriptTail Name Constant ref int" => ((k_here; k_dflt (refine' Mine.item_L ?k0 ?k1 ?k2 ?k3 ?k4 ?_; (case k0 => k_asm); (case k1 => k_mem); (case k2 => decide); (case k3 => decide); (case k4 => rfl); k_whole)))
    k_with "subscriptTail Name Subscript ref int" => ((k_here; k_dflt (refine' Mine.item_L ?k0 ?k1 ?k2 ?k3 ?k4 ?_; (case k0 => k_asm); (case k1 => k_mem); (case k2 => exact Int.natCast_nonneg _); (case k3 => exact Mine.ksm (by assumption) (by assumption)); (case k4 => assumption); k_whole)))
    k_with "subscriptTail Name Name ref int" => ((k_here; k_dflt (refine' Mine.item_L ?k0 ?k1 ?k2 ?k3 ?k4 ?_; (case k0 => k_asm); (case k1 => k_mem); (case k2 => exact Int.natCast_nonneg _); (case k3 => exact Mine.ksm (by assumption) (by assumption)); (case k4 => assumption); k_whole)))
    k_with "delItem ref str" => ((k_here; k_dflt (refine' Mine.own_delItem ?F ?X ?I ?hQ ?hS ?hF ?_; (case F => k_asm); (case X => k_asm); (case I => k_inst); (case hS => k_is); (case hF => k_is); (case hQ => k_is); k_whole)))
    k_with "mine sub2" => (first | exact fun _ h => h | assumption | (refine Mine.subTail ?_; walk_at "mine sub2"))
    k_with "call ref" => (((with_reducible show wpAny _ _ (call (Value.ref 139) _) _ _ _); (refine Mine.Hold.intro ?_)))
    k_with "call ref" => (((with_reducible show wpAny _ _ (call (Value.ref 102) _) _ _ _); (refine Mine.Hold.intro ?_)))
    k_with "call builtin:list.count" => ((k_here; k_dflt (refine' Mine.count_L ?k1 ?k2 ?k3 ?k4 ?_; (case k1 => k_asm); (case k2 => k_mem); (case k3 => assumption); (case k4 => rfl); k_whole); intro t9 k9; (try dsimp only); (try k_sweep)))
    k_with "mine comp" => (refine Mine.Hold.intro ?_)
    k_steps
    unfold Hold
    have hkv := low_vals hlow
    refine LCg.ListComp_U (F₀ := by k_asm) (by with_unfolding_all rfl) (by decide) (by rfl) (by decide) (by rfl) ?_
    k_steps
    have hlvl : lv.length = lf.length := by rw [strsAre_length hL, List.length_map]
    refine LCg.CompSrc.ledger rfl (by k_asm) (by k_asm) (by k_mem) (by rw [List.size_toArray]; exact Nat.le_trans (by rw [hlvl, hll]; exact hs5 : lv.length ≤ 5) (by decide)) ?_
    intro g
    refine restU_keep (fun j ys => IntsAre ys (cntOf A (lf.take j))) _ (by exact IntsAre.nil) ?_ ?_
    · intro j ys v Ia oIa C oC D m₂ h' tk' E' hj hIj hP hC hx' F' N' off ne
      have hP' : lv[j]? = some v := by simpa using hP
      obtain ⟨p, tp, hp, rfl⟩ := one_at hL hP'
      k_steps
      unfold Hold
      k_here
      refine' Mine.Spec.use (Mine.values_spec _ t d l hs kt n₁ n vs kvs _ ?hH ?h1 ?h2 ?h3 ?hl) ?k1 ?k2 ?k3 ?k4 ?k5 ?kd ?ku ?_
      walk_at "mine use"
      case h2 => k_mem
      case h3 => k_mem
      case h1 => k_mem
      case hH => exact hH.mono (by walk_at "mine sub2")
      case hl => exact Nat.le_trans hlen (by decide)
      intro rV nV hV tkV FV NV RV
      obtain ⟨DV, yV, cV, eV, eV', oV, SV, zV⟩ := RV
      subst eV eV'
      rw [hkv] at SV
      dsimp only
      k_steps
      refine compEnd_keep (R := fun y => IntsAre (ys ++ [y]) _) (by k_asm) (by k_asm) (by walk_at "mine sub") off (.inr ⟨_, by k_mem, rfl, _, rfl⟩) ?_
      rw [cnt_snoc hp]
      exact intsAre_snoc hIj _ _
    · intro ys hIj
      rw [List.take_of_length_le (by rw [List.size_toArray, hlvl]; exact Nat.le_refl _)] at hIj
      k_with "mine asg" => (refine Mine.Hold.intro ?_)
      intro DF hF tkF FF NF oF
      obtain ⟨f1, f2, f3, f4, f5, f6, f7, f8, f9, f10⟩ := oF
      replace f10 := offOne f10
      (try dsimp only at f1 f2 f3 f4 f5 f6 f7 f8 f9)
      k_steps
      unfold Hold
      refine LCt.Assign_ListComp_T (F₀ := by k_asm) (hLe := rfl) (by with_unfolding_all rfl) (by with_unfolding_all rfl) (by decide) (by rfl) (by decide) (by rfl) (by rfl) (by rfl) ?_
      k_steps
      unfold Hold
      refine LCt.CompSrcT.range rfl (by k_asm) (by k_asm) (by assumption) (rngw_small sz (Nat.lt_succ_of_le hs5)) (rngw_size sz (Nat.lt_succ_of_le hs5)) (Nat.le_trans hs5 (by decide)) ?_
      intro g2
      have hcl : (cntOf A lf).length = sz := by rw [cnt_len, hll]
      refine restT_keep (fun j zs => IntsAre zs (endsOf (cntOf A lf) sz j)) sz (by exact IntsAre.nil) ?_ ?_
      · rintro j zs v Ia oIa C oC D m₂ h' tk' E' hj hIz ⟨tp, rfl⟩ hC hx' F' N' off ne
        rw [Int.zero_add] at hx'
        have hcj : (cntOf A lf)[j]? = some ((cntOf A lf).getD j 0) := by
          rw [List.getD_eq_getElem?_getD, List.getElem?_eq_getElem (by rw [hcl]; exact hj)]; rfl
        obtain ⟨tj, hyj⟩ := intsAre_get hIj hcj
        have hyj' : ys[((j : Nat) : Int).toNat]? = some (.int ((cntOf A lf).getD j 0) tj) := hyj
        k_steps
        · rename (_ ∈ [0, ((sz : Nat) : Int) - 1]) => hc
          refine compEnd_keep (R := fun y => IntsAre (zs ++ [y]) _) (by k_asm) (by k_asm) (by walk_at "mine sub") off trivial ?_
          rw [ends_succ, if_pos (decide_eq_true hc)]
          exact intsAre_snoc hIz _ _
        · rename (¬ _ ∈ [0, ((sz : Nat) : Int) - 1]) => hc
          refine compEnd_keep (R := fun y => IntsAre zs _) (by k_asm) (by k_asm) (by walk_at "mine sub") off trivial ?_
          rw [ends_succ, if_neg (by rw [decide_eq_false hc]; exact Bool.false_ne_true), List.append_nil]
          exact hIz
      · intro zs hIz DE hE' tkE FE NE oE
        obtain ⟨g0, g1, g2, g3, g4, g5, g6, g7, g8, g9, g10⟩ := oE
        replace g10 := offOne g10
        (try dsimp only at g0 g1 g2 g3 g4 g5 g6 g7 g8 g9)
        cases hE : endsOf (cntOf A lf) sz sz with
        | nil =>
          rw [hE] at hIz
          have hG0 := weigh_none (W := W) hs1 hE
          k_steps
          dsimp only [TurnR]
          k_steps
          refine hret _ _ _ _ (by k_asm) (cb_drop (by k_asm) (by walk_at "mine sub")) ⟨_, [], 0, rfl, rfl, ?_, ?_⟩
          · walk_at "mine and"; exact neOf (by assumption)
          · rw [← hG, hG0]; exact .nil
        | cons z r =>
          rw [hE] at hIz
          obtain ⟨k, p, rfl, hk, hkp, hG'⟩ := weigh_some (W := W) hs1 hll hE
          obtain ⟨tz, zs', rfl, hIz'⟩ := ints_cons hIz
          have hp4 : p ≤ 4 := hl4 p (List.mem_of_getElem? hkp)
          have hlp : Letter (one p) := letter_one hp4
          have hck : (cntOf A lf)[k]? = some ((cntOf A lf).getD k 0) := by
            rw [List.getD_eq_getElem?_getD, List.getElem?_eq_getElem (by rw [hcl]; exact hk)]; rfl
          obtain ⟨tc, hyk⟩ := intsAre_get hIj hck
          have hyk' : ys[((k : Nat) : Int).toNat]? = some (.int ((cntOf A lf).getD k 0) tc) := hyk
          obtain ⟨tl', hlk⟩ := hL.at (j := k) (y := one p) (by rw [List.getElem?_map, hkp]; rfl)
          obtain ⟨x, hx⟩ : ∃ x, x = one p := ⟨_, rfl⟩
          rw [← hx] at hlk hlp
          k_steps
          · first
              | (rename (decide (_ :: _ = []) = true) => hx; exact absurd (of_decide_eq_true hx) (List.cons_ne_nil _ _))
              | (rename (_ :: _ = []) => hx; exact absurd hx (List.cons_ne_nil _ _))
          unfold Hold
          refine popAt_L (by k_asm) (by k_asm) hlk (Nat.le_trans (by rw [hlvl, hll]; exact hs5 : lv.length ≤ 5) (by decide)) (by k_upd) ?_
          intro h5 F5 N5
          (try dsimp only)
          (try k_sweep)
          k_steps
          unfold Hold
          refine ifx (fun v => ∃ t, v = .int (if (cntOf A lf).getD k 0 > 0 then (sz : Int) else - (sz : Int)) t) ?_ ?_
          · refine IfExp_ ?_
            k_steps
            · rename (_ > _) => hc
              exact ⟨⟨_, by rw [if_pos hc]⟩, _, rfl⟩
            · rename (¬ _ > _) => hc
              exact ⟨⟨_, by rw [if_neg hc]⟩, _, rfl⟩
          · rintro v9 tk9 ⟨t9, rfl⟩
            k_steps
            unfold Hold
            refine index5_L hp4 hx ?_
            k_steps
            unfold Hold
            refine ksa_set (by k_asm) (by k_asm) (by k_upd) hW (Int.natCast_nonneg _) (lt5 hp4 hW5) (lt5big hp4) ?_
            intro h6 F6 N6 hW6 hW65 hsum
            clear hsum
            rw [Int.toNat_natCast] at N6 hW6 hW65
            have hWn : (W.set p (if (cntOf A lf).getD k 0 > 0 then (sz : Int) else - (sz : Int))).length = 5 := hW65.trans hW5
            clear hW65
            (try dsimp only)
            (try k_sweep)
            generalize hv : (if (cntOf A lf).getD k 0 > 0 then (sz : Int) else - (sz : Int)) = vnew at N6 hW6 hWn hG'
            generalize hwn : ws.set p (Value.int vnew t9) = wsn at N6 hW6
            generalize hWN : W.set p vnew = Wn at hW6 hWn hG'
            generalize hlv : lv.eraseIdx k = lvn at N6
            clear hIj hIz hIz' hyk hyk' hck hE
            k_steps
            unfold Hold
            k_here
            refine' Spec.use (del_pre w [_, _, _, _, (_, listOf wsn.toArray nw), (D9, listOf lvn.toArray (nl + 1)), (LN + 1 + 1 + 1, _), (LN + 1 + 1, _), (LN + 1, oT)] t d l hs kt n₁ n vs kvs (Txt.upper x) _ (Letter.upper hlp) tl hH ho ?o2 htl hdl (Nat.le_trans hlen (by decide))) ?k1 ?k2 ?k3 ?k4 ?k5 ?kd ?ku ?_
            case k1 => k_asm
            case k2 => k_asm
            case k3 => k_asm
            case k4 => k_asm
            case k5 => k_asm
            case kd => exact Nat.le_of_ble_eq_true rfl
            case ku => exact Nat.le_of_ble_eq_true rfl
            case o2 =>
              refine List.forall_mem_cons.mpr ⟨?_, List.forall_mem_cons.mpr ⟨?_, List.forall_mem_cons.mpr ⟨?_, List.forall_mem_cons.mpr ⟨Ne.symm i6, List.forall_mem_cons.mpr ⟨?_, List.forall_mem_cons.mpr ⟨?_, List.forall_mem_cons.mpr ⟨c3, List.forall_mem_cons.mpr ⟨c2, List.forall_mem_cons.mpr ⟨c1, List.forall_mem_nil _⟩⟩⟩⟩⟩⟩⟩⟩⟩
              all_goals k_ne
            intro rA nA hA tkA FA NA RA
            obtain ⟨vs', n', rfl, rfl, HH, hle⟩ := RA
            dsimp only [List.cons_append, List.nil_append] at NA
            (try dsimp only)
            k_steps
            rename (_ = Data.cell (some (Value.int _ _))) => dS'
            rename (_ = Data.cell (some (Value.ref _))) => dF'
            refine TurnR.next _ (by k_asm) (by k_asm) ?sb (off8of i1 i2 i3 i4 i5 i6 i7 i8 i9) ⟨?sm, wsn, lvn, vs', nw, nl + 1, n', _, _, _, _, _, A.filter (·.1 != p), lf.eraseIdx k, Wn, rfl, dS', dF', hW6, hWn, ?s1, ?s2, fun q hq => hl4 q (List.mem_of_mem_eraseIdx hq), HH, ?s3, Nat.le_trans hle hlen, ?s4⟩
            case sm => walk_at "mine same"
            case s1 => rw [← hlv]; exact strs_erase lf lv k hL
            case s2 => rw [hs', List.length_eraseIdx_of_lt (by rw [hll]; exact hk), hll]
            case s3 => rw [hx]; exact low_del hlow hp4
            case s4 => rw [hs', ← hG', hG]
            case sb => walk_at "mine sub"
  · rintro m₁ news₁ h tk ⟨hm, ws, lv, vs, nw, nl, n, oS, oF, vS, vF, kvs, A, lf, W, rfl, dS, dF, hW, hW5, hL, hll, hl4, hH, hlow, hlen, hG⟩ F1 N1
    rw [← mapKey hm] at F1
    k_steps
    refine hret _ _ _ _ (by k_asm) (cb_drop (by k_asm) (by walk_at "mine sub")) ⟨_, ws, nw, rfl, rfl, ?_, ?_⟩
    · walk_at "mine and"; exact neOf (by assumption)
    · rw [← hG]; exact hW
end Mine


namespace Mine
open LCg LCt
/-- a pair as a datum -/
def pd (p : Nat × Nat) : Dat := .tuple [.int (p.1 : Int), .int (p.2 : Int)]
theorem pd_inj {p q : Nat × Nat} (h : pd p = pd q) : p = q := by
  obtain ⟨a, b⟩ := p
  obtain ⟨c, d⟩ := q
  simp only [pd, Dat.tuple.injEq, List.cons.injEq, Dat.int.injEq, and_true] at h
  rw [Int.ofNat.inj h.1, Int.ofNat.inj h.2]
theorem pd_mem {p : Nat × Nat} {es : List (Nat × Nat)} : pd p ∈ es.map pd ↔ p ∈ es := by
  constructor
  · intro h
    obtain ⟨q, hq, e⟩ := List.mem_map.mp h
    rw [← pd_inj e]; exact hq
  · exact fun h => List.mem_map_of_mem h
theorem pairDats {G : Led} {vs : List Value} {es : List (Nat × Nat)} (h : PairsIn G vs es) : DatAll G vs (es.map pd) := by
  induction h with
  | nil => exact .nil
  | cons hm e1 e2 _ ih => subst e1 e2; exact .cons (.tuple hm (.cons (.int _ _) (.cons (.int _ _) .nil))) ih
theorem pairsOk {es : List (Nat × Nat)} : ∀ d ∈ es.map pd, kqdOk 8 d = true := fun d hd => by
  obtain ⟨p, _, rfl⟩ := List.mem_map.mp hd; rfl
section
variable {prog : Program} {w : World} {A : Around} {E : Value → Shared → Prop} {s : Shared} {h₀ : Heap} {L : Addr} {news : Led} {Q : Value → Shared → Prop}
theorem pairIn_L {G : Led} {l a : Addr} {vs : List Value} {n i j : Nat} {es : List (Nat × Nat)} {t u : Tok} (N : News h₀ L s.heap news) (hl : (l, listOf vs.toArray n) ∈ news) (hP : PairsIn G vs es) (hG : ∀ p ∈ G, p ∈ news) (ha : (a, tupOf #[.int (i : Int) t, .int (j : Int) u]) ∈ news) (hu : A.units + 64 < cLine)
    (h : Q (.bool (decide ((i, j) ∈ es))) s) : wpAny (model prog w) A (compareOp .In (.ref a) (.ref l)) Q E s :=
  kqd_isIn (n₁ := G) (n₂ := news) (d := pd (i, j)) (ds := es.map pd) N hl rfl rfl (pairDats hP) hG (.tuple ha (.cons (.int _ _) (.cons (.int _ _) .nil))) (fun _ h => h) pairsOk rfl hu (decQ h _ _ pd_mem)
end
/-- the friends of a name, as the program lists them -/
def nearI (es : List (Nat × Nat)) (i : Nat) : List Int := (G.near es i).map fun (j : Nat) => (j : Int)
def nearTo (es : List (Nat × Nat)) (i j : Nat) : List Int := ((List.range j).filter fun j => decide ((i, j) ∈ es) || decide ((j, i) ∈ es)).map fun (j : Nat) => (j : Int)
theorem near_all (es : List (Nat × Nat)) (i : Nat) : nearTo es i 5 = nearI es i := by
  unfold nearTo nearI G.near
  congr 1
  refine List.filter_congr fun j _ => ?_
  rw [Bool.eq_iff_iff]
  simp
theorem near_succ {es : List (Nat × Nat)} {i j : Nat} : nearTo es i (j + 1) = nearTo es i j ++ (if (decide ((i, j) ∈ es) || decide ((j, i) ∈ es)) = true then [(j : Int)] else []) := by
  unfold nearTo
  rw [List.range_succ, List.filter_append, List.map_append]
  congr 1
  rw [List.filter_cons]
  split <;> rfl
theorem near_len (es : List (Nat × Nat)) (i : Nat) : (nearI es i).length ≤ 5 := by
  unfold nearI G.near
  rw [List.length_map]
  exact Nat.le_trans (List.length_filter_le _ _) (by simp)
/-- the lists of friends lie in the ledger -/
def NearIn (es : List (Nat × Nat)) (lists : Led) (ys : List Value) : Prop := ∀ i v, ys[i]? = some v → ∃ a us n, v = .ref a ∧ (a, listOf us.toArray n) ∈ lists ∧ IntsAre us (nearI es i)
theorem NearIn.snoc {es : List (Nat × Nat)} {lists : Led} {ys : List Value} {a : Addr} {us : List Value} {n : Nat} (h : NearIn es lists ys) (hu : IntsAre us (nearI es ys.length)) : NearIn es ((a, listOf us.toArray n) :: lists) (ys ++ [.ref a]) := by
  intro i v hv
  rcases Nat.lt_or_ge i ys.length with k | k
  · rw [List.getElem?_append_left k] at hv
    obtain ⟨a', us', n', e, hm, hi⟩ := h i v hv
    exact ⟨a', us', n', e, .tail _ hm, hi⟩
  · rw [List.getElem?_append_right k] at hv
    have e : i - ys.length = 0 := by
      rcases Nat.eq_zero_or_pos (i - ys.length) with q | q
      · exact q
      · rw [List.getElem?_eq_none (by show 1 ≤ _; omega)] at hv; cases hv
    have e2 : i = ys.length := by omega
    rw [e] at hv
    simp at hv
    subst hv e2
    exact ⟨a, us, n, rfl, .head _, hu⟩
def NearJ (es : List (Nat × Nat)) (B : Led) (c1 c2 c3 c4 : Addr) (i : Nat) (ys : List Value) (G : Led) : Prop :=
  ∃ lists, G = lists ++ B ∧ (∀ p ∈ lists, NeA p.1 c1 ∧ NeA p.1 c2 ∧ NeA p.1 c3 ∧ NeA p.1 c4) ∧ ys.length = i ∧ NearIn es lists ys
/-- the friends of the one that the other lacks -/
def moreOf (a b : List Int) (j : Nat) : List Int := a.filter fun k => decide (k ≠ (j : Int)) && !decide (k ∈ b)
def al2 (es : List (Nat × Nat)) (i j : Nat) : Bool := ! (! (moreOf (nearI es i) (nearI es j) j).isEmpty && ! (moreOf (nearI es j) (nearI es i) i).isEmpty)
theorem more_eq (es : List (Nat × Nat)) (i j : Nat) : moreOf (nearI es i) (nearI es j) j = ((G.near es i).filter fun k => k != j && ! (G.near es j).contains k).map fun (k : Nat) => (k : Int) := by
  unfold moreOf nearI
  rw [List.filter_map]
  refine congrArg (List.map _) (List.filter_congr fun k _ => ?_)
  rw [Bool.eq_iff_iff]
  simp
  constructor
  · rintro ⟨a, b⟩
    exact ⟨fun e => a (by rw [e]), fun h => b k h rfl⟩
  · rintro ⟨a, b⟩
    refine ⟨fun e => a (by omega), fun x hx e => b ?_⟩
    have : x = k := by omega
    exact this ▸ hx
theorem more_snoc {l b : List Int} {j q : Nat} {y : Int} (h : l[q]? = some y) : moreOf (l.take (q + 1)) b j = moreOf (l.take q) b j ++ (if (decide (y ≠ (j : Int)) && !decide (y ∈ b)) = true then [y] else []) := take_filter_snoc _ _ _ _ h
theorem alike_al2 (es : List (Nat × Nat)) : G.alike es = (List.range 5).all fun i => (List.range i).all fun j => al2 es i j := by
  unfold G.alike al2
  congr 1
  funext i
  congr 1
  funext j
  rw [more_eq, more_eq]
  simp only [List.isEmpty_map]
theorem alike_false {es : List (Nat × Nat)} {i j : Nat} (hi : i < 5) (hj : j < i) (h : al2 es i j = false) : G.alike es = false := by
  rw [alike_al2]
  cases e : (List.range 5).all fun i => (List.range i).all fun j => al2 es i j with
  | false => rfl
  | true =>
    rw [List.all_eq_true] at e
    have e2 := e i (List.mem_range.mpr hi)
    rw [List.all_eq_true] at e2
    rw [e2 j (List.mem_range.mpr hj)] at h; cases h
theorem alike_true {es : List (Nat × Nat)} (h : ∀ i, i < 5 → ∀ j, j < i → al2 es i j = true) : G.alike es = true := by
  rw [alike_al2, List.all_eq_true]
  intro i hi
  rw [List.all_eq_true]
  exact fun j hj => h i (List.mem_range.mp hi) j (List.mem_range.mp hj)
theorem al2_left {es : List (Nat × Nat)} {i j : Nat} (h : moreOf (nearI es i) (nearI es j) j = []) : al2 es i j = true := by unfold al2; rw [h]; rfl
theorem al2_right {es : List (Nat × Nat)} {i j : Nat} (h : moreOf (nearI es j) (nearI es i) i = []) : al2 es i j = true := by unfold al2; rw [h]; simp
theorem al2_none {es : List (Nat × Nat)} {i j : Nat} (h1 : ¬ moreOf (nearI es i) (nearI es j) j = []) (h2 : ¬ moreOf (nearI es j) (nearI es i) i = []) : al2 es i j = false := by
  unfold al2
  cases e1 : moreOf (nearI es i) (nearI es j) j with
  | nil => exact absurd e1 h1
  | cons a r => cases e2 : moreOf (nearI es j) (nearI es i) i with
    | nil => exact absurd e2 h2
    | cons b q => rfl
theorem NearIn.mono {es : List (Nat × Nat)} {l l' : Led} {ys : List Value} (h : NearIn es l ys) (hs : ∀ p ∈ l, p ∈ l') : NearIn es l' ys := by
  intro i v hv
  obtain ⟨a, us, n, e, hm, hi⟩ := h i v hv
  exact ⟨a, us, n, e, hs _ hm, hi⟩
theorem NearIn.get {es : List (Nat × Nat)} {l : Led} {ys : List Value} {n : Nat} (h : NearIn es l ys) (hl : ys.length = n) {i : Nat} (hi : i < n) : ∃ a us k, ys[((i : Nat) : Int).toNat]? = some (.ref a) ∧ (a, listOf us.toArray k) ∈ l ∧ IntsAre us (nearI es i) := by
  obtain ⟨a, us, k, e, hm, hu⟩ := h i _ (List.getElem?_eq_getElem (by omega))
  exact ⟨a, us, k, by rw [Int.toNat_natCast, List.getElem?_eq_getElem (by omega), e], hm, hu⟩
theorem off5 {I a b c d e : Addr} {oa ob oc od oe : Obj} {tl : Led} (h : ∀ p ∈ (a, oa) :: (b, ob) :: (c, oc) :: (d, od) :: (e, oe) :: tl, p.1 ≠ I) :
    NeA a I ∧ NeA b I ∧ NeA c I ∧ NeA d I ∧ NeA e I ∧ Off I tl :=
  ⟨h _ (.head _), h _ (.tail _ (.head _)), h _ (.tail _ (.tail _ (.head _))), h _ (.tail _ (.tail _ (.tail _ (.head _)))), h _ (.tail _ (.tail _ (.tail _ (.tail _ (.head _))))), fun p hp => h p (.tail _ (.tail _ (.tail _ (.tail _ (.tail _ hp)))))⟩
theorem off5of {I a b c d e : Addr} {oa ob oc od oe : Obj} {tl : Led} (h1 : NeA a I) (h2 : NeA b I) (h3 : NeA c I) (h4 : NeA d I) (h5 : NeA e I) (h9 : Off I tl) : ∀ p ∈ (a, oa) :: (b, ob) :: (c, oc) :: (d, od) :: (e, oe) :: tl, p.1 ≠ I :=
  List.forall_mem_cons.mpr ⟨h1, List.forall_mem_cons.mpr ⟨h2, List.forall_mem_cons.mpr ⟨h3, List.forall_mem_cons.mpr ⟨h4, List.forall_mem_cons.mpr ⟨h5, h9⟩⟩⟩⟩⟩
theorem newsMid {h₀ h : Heap} {L : Addr} {d a b c e : Addr × Obj} {t n : Led} (N : News h₀ L h (d :: (t ++ a :: b :: c :: e :: n))) : News h₀ L h (d :: a :: b :: c :: e :: (t ++ n)) := fun p hp => N p (by
  simp only [List.mem_cons, List.mem_append] at hp ⊢
  rcases hp with h | h | h | h | h | h | h <;> simp [h])
/-- the outer loop -/
def AlJ (m₀ : Str → Option Value) (es : List (Nat × Nat)) (d c4 c3 c2 c1 : Addr) (oD oN oP : Obj) (G : Led) (i : Nat) (m₁ : Str → Option Value) (news₁ : Led) : Prop :=
  (∀ z, [Str.ofString "more"].contains z = false → m₁ z = m₀ z) ∧ ∃ (oI oJ : Obj) (vI vJ : Option Value), news₁ = (d, oD) :: (c4, oN) :: (c3, oJ) :: (c2, oI) :: (c1, oP) :: G ∧ oI.data = .cell vI ∧ oJ.data = .cell vJ ∧ ∀ i', i' < i → ∀ j', j' < i' → al2 es i' j' = true
/-- the inner loop -/
def Al2J (m₀ : Str → Option Value) (es : List (Nat × Nat)) (it : Addr × Obj) (d c4 c3 c2 c1 : Addr) (oD oN oI oP : Obj) (G : Led) (i : Nat) (j : Nat) (m₁ : Str → Option Value) (news₁ : Led) : Prop :=
  (∀ z, [Str.ofString "more"].contains z = false → m₁ z = m₀ z) ∧ ∃ (oJ : Obj) (vJ : Option Value), news₁ = it :: (d, oD) :: (c4, oN) :: (c3, oJ) :: (c2, oI) :: (c1, oP) :: G ∧ oJ.data = .cell vJ ∧ ∀ j', j' < j → al2 es i j' = true
local macro_rules | `(tactic| walk_at "exec For Name Call cons nil") => `(tactic| k_extra "exec For Name Call cons nil")
local macro_rules | `(tactic| walk_at "exec Assign cons ListComp") => `(tactic| k_extra "exec Assign cons ListComp")
local macro_rules | `(tactic| walk_at "pyIter ref") => `(tactic| k_extra "pyIter ref")
local macro_rules | `(tactic| walk_at "SrcUC") => `(tactic| (refine Mine.Hold.intro ?_))
local macro_rules | `(tactic| walk_at "CompSrcT") => `(tactic| (refine Mine.Hold.intro ?_))
local macro_rules | `(tactic| walk_at "compareOp In ref ref") => `(tactic| k_extra "compareOp In ref ref")
theorem alike_spec (w : World) (lp : Addr) (np : Nat) (ps : List Value) (es : List (Nat × Nat)) (news : Led) (h1 : (lp, listOf ps.toArray np) ∈ news) (hP : PairsIn news ps es) (hz : ps.length ≤ 10) :
   Spec w 350 3000 278 [.ref lp] [] news (fun r news' => news' = news ∧ r = .bool (G.alike es)) := by
  k_with_none
  k_with "getMethod ref" => ((k_here; (with_reducible show wpAny _ _ (getMethod (Value.ref _) (Str.ofString "search") _) _ _ _); k_dflt (refine' Mine.meth_search ?k1 ?k2 ?k3 ?k4 ?k5 ?_; (case k1 => k_asm); (case k2 => k_asm); (case k3 => k_is); (case k4 => rfl); (case k5 => rfl); k_whole)))
  k_with "call builtin:re.Pattern.search" => ((k_here; k_dflt (refine' Mine.call_search ?k1 ?k2 ?k3 ?k4 ?k5 ?_; (case k1 => k_asm); (case k2 => k_asm); (case k3 => k_is); (case k4 => rfl); (case k5 => first | with_reducible exact Mine.srchN _ _ _ (by assumption) | with_reducible exact Mine.srchV _ _ _ (by assumption)); k_whole)))
  k_with "mine use" => (((case k1 => k_asm); (case k2 => k_asm); (case k3 => k_asm); (case k4 => k_asm); (case k5 => k_asm); (case kd => exact Nat.le_of_ble_eq_true rfl); (case ku => exact Nat.le_of_ble_eq_true rfl)))
  k_with "mine lt" => ((walk_at "mine and"; first | omega | assumption | exact allLt_of (by assumption) | exact Mine.ltUp (by omega) (by assumption) | exact Mine.ltUp (by omega) (allLt_of (by assumption))))
  k_with "mine letter" => (first | assumption | exact Mine.Letter.lower (by assumption) | exact Mine.Letter.upper (by assumption) | exact Mine.Letter.lower (Mine.Letter.upper (by assumption)))
  k_with "call builtin:str.lower" => ((k_here; k_dflt (refine Mine.lower_L (by walk_at "mine letter") ?_)))
  k_with "call builtin:str.upper" => ((k_here; k_dflt (refine Mine.upper_L (by walk_at "mine letter") ?_)))
  k_with "eval ListComp" => (k_extra "mine comp")
  k_with "CompRestT" => (k_extra "mine restT")
  k_with "CompRest" => (k_extra "mine rest")
  k_with "exec For Tuple Attribute cons nil" => (k_extra "mine for")
  k_with "exec For Tuple Name cons nil" => (k_extra "mine for")
  k_with "exec While Compare cons nil" => (k_extra "mine while")
  k_with "delItem ref" => ((k_here; k_dflt (refine' Mine.own_delItem ?F ?X ?I ?hQ ?hS ?hF ?_; (case F => k_asm); (case X => k_asm); (case I => k_inst); (case hS => k_is); (case hF => k_is); (case hQ => k_is); k_whole)))
  k_with "mine hdrs" => (first | assumption | exact Mine.Hdrs.mono (by kcj_all) (by assumption))
  k_with "call ref" => ((k_here; k_dflt (refine' Mine.Spec.use (Mine.ent_spec _ _) ?k1 ?k2 ?k3 ?k4 ?k5 ?kd ?ku ?_; walk_at "mine use"; k_whole; intro rE nE hE tkE FE NE RE; obtain ⟨xE, dE, uE, vE, aE, bE, cE, fE, eE, eE', lE, mE, oE, pE⟩ := RE; subst eE eE'; (try (replace lE := Mine.ltOf lE; k_lt lE)); (try dsimp only); (try k_sweep); (try k_fold))))
  k_with "call ref" => ((k_here; k_dflt (refine' Mine.Spec.use (Mine.merge_spec _ _ _ _ _ _ _ _ _ _ _ _ _ _ _ _ _ _ _ _ _ _ _ _ _ _ _ _ _ _ ?h1 ?h2 ?h3 ?h4 ?g1 ?g2 ?g3 ?g4 ?y1 ?y2 ?z1 ?z2 ?z3 ?z4) ?k1 ?k2 ?k3 ?k4 ?k5 ?kd ?ku ?_; walk_at "mine use"; (case h1 => k_mem); (case h2 => k_mem); (case h3 => k_mem); (case h4 => k_mem); (case g1 => k_mem); (case g2 => k_mem); (case g3 => k_mem); (case g4 => k_mem); (case y1 => walk_at "mine strs"); (case y2 => walk_at "mine strs"); (case z1 => walk_at "mine len"); (case z2 => walk_at "mine len"); (case z3 => walk_at "mine len"); (case z4 => walk_at "mine len"); k_whole; intro rM nM hM tkM FM NM RM; obtain ⟨xM, dM, uM, vM, sM, aM, bM, cM, fM, gM, iM, jM, eM, eM', SM, zM, lM, mM, oM, pM⟩ := RM; subst eM eM'; (try (replace lM := Mine.ltOf lM; k_lt lM)); (try dsimp only); (try k_sweep); (try k_fold))))
  k_with "mine strs" => (first | assumption | exact StrsAre.nil | (refine StrsAre.cons _ _ ?_; walk_at "mine strs"))
  k_with "mine len" => (first | assumption | omega | (simp only [List.length_cons, List.length_nil, List.length_append]; omega))
  k_with "mine hdrs" => (first | assumption | (refine Mine.Hdrs.mono ?hs9 (by assumption); kcj_all))
  k_with "subscriptTail Name Constant ref int" => (k_extra "mine item")
  k_with "subscriptTail Attribute Name Constant ref int" => (k_extra "mine item")
  k_with "mine len" => ((simp only [List.length_cons, List.length_nil, List.length_append, List.length_take, List.length_reverse]; omega))
  k_with "call ref" => ((k_here; k_dflt (refine' Mine.Spec.use (Mine.new_spec _ _) ?k1 ?k2 ?k3 ?k4 ?k5 ?kd ?ku ?_; walk_at "mine use"; k_whole; intro rN nN hN tkN FN NN RN; obtain ⟨tN, dN, lN, aN, bN, eN, eN', uN, vN, wN⟩ := RN; subst eN eN'; (try (replace uN := Mine.ltOf uN; k_lt uN)); (try dsimp only); (try k_sweep); (try k_fold))))
  k_with "mine letter" => ((show _ ∈ Mine.letters; decide +kernel))
  k_with "mine hdrs" => (exact Mine.Hdrs.nil)
  k_with "mine len" => (first | assumption | omega | (simp only [List.length_cons, List.length_nil, List.length_append, List.length_take, List.length_reverse] <;> omega) | (subst_vars; (simp only [List.length_cons, List.length_nil, List.length_append, List.length_take, List.length_reverse] <;> omega)))
  k_with "mine tsub" => (first | exact Mine.TSub.nil | exact Mine.TSub.sub (fun _ h => h) | (refine Mine.TSub.keep (by k_mem) ?_; walk_at "mine tsub") | (refine Mine.TSub.skip (by k_cls) ?_; walk_at "mine tsub") | exact Mine.TSub.sub (by kcj_all))
  k_with "mine drop" => (first | (refine' Mine.DropAt.head ?a; (case a => k_all)) | (refine' Mine.DropAt.tail ?a ?b; (case a => k_ne); (case b => walk_at "mine drop")))
  k_with "UnrEnd" => ((refine' Mine.unrEnd_drop ?k1 ?k2 ?k3 ?_; (case k1 => k_asm); (case k2 => k_asm); (case k3 => walk_at "mine drop")))
  k_with "mine sub" => (first | exact fun _ h => h | assumption | exact Mine.subNil | (refine' Mine.subCons ?u1 ?u2; (case u1 => k_mem); (case u2 => walk_at "mine sub")) | (refine Mine.subTail ?_; walk_at "mine sub"))
  k_with "subscriptTail Name Name ref int" => ((k_here; k_dflt (refine' Mine.item_L ?k0 ?k1 ?k2 ?k3 ?k4 ?_; (case k0 => k_asm); (case k1 => k_mem); (case k2 => first | decide | omega); (case k3 => first | decide | omega); (case k4 => first | assumption | rfl); k_whole)))
  k_with "compareOp In int ref" => ((k_here; k_dflt (refine' Mine.in_L ?k0 ?k1 ?k2 ?k3 ?_; (case k0 => k_asm); (case k1 => k_mem); (case k2 => first | assumption | exact .cons _ _ (.cons _ _ .nil)); (case k3 => ke_room); k_whole)))
  k_with "compareOp NotIn int ref" => ((k_here; k_dflt (refine' Mine.notIn_L ?k0 ?k1 ?k2 ?k3 ?_; (case k0 => k_asm); (case k1 => k_mem); (case k2 => assumption); (case k3 => ke_room); k_whole)))
  k_with "compareOp Eq ref ref" => ((k_here; k_dflt (refine' Mine.eqL ?k0 ?k1 ?k2 ?k3 ?k4 ?k5 ?_; (case k0 => k_asm); (case k1 => k_mem); (case k2 => k_mem); (case k3 => assumption); (case k4 => first | assumption | exact .nil); (case k5 => ke_room); k_whole)))
  k_with "compareOp NotEq ref ref" => ((k_here; k_dflt (refine' Mine.neL ?k0 ?k1 ?k2 ?k3 ?k4 ?k5 ?_; (case k0 => k_asm); (case k1 => k_mem); (case k2 => k_mem); (case k3 => assumption); (case k4 => first | assumption | exact .nil); (case k5 => ke_room); k_whole)))
  k_with "exec For Name Call cons nil" => (k_extra "mine for")
  k_with "exec Assign cons ListComp" => (k_extra "mine asg")
  k_with "pyIter ref" => (((with_reducible show wpAny _ _ (pyIter (Value.ref _)) (fun it s₂ => TurnsAt _ _ _ _ _ _ _ _ _ it s₂) _ _); k_extra "mine iter"))
  k_with "compareOp In ref ref" => ((k_here; k_dflt (refine' Mine.pairIn_L ?k0 ?k1 ?k2 ?k5 ?k3 ?k4 ?_; (case k0 => k_asm); (case k1 => k_mem); (case k3 => k_mem); (case k2 => assumption); (case k5 => walk_at "mine sub2"); (case k4 => ke_room); k_whole)))
  k_with "mine sub2" => (first | exact fun _ h => h | assumption | (refine Mine.subTail ?_; walk_at "mine sub2"))
  w_top off
  have : Challenge.rw_rl0103_02 = Challenge.rw_rl0103_02 ∧ Mine.hd.heap_39 = Mine.hd.heap_39 := by k_fill; exact ⟨rfl, rfl⟩
  intro cn names ig ic more a ccd cl outer A₀ base h₀ L m mean mg mb s Q E B F X N T hret
  k_with "mine comp" => (refine Mine.Hold.intro ?_)
  k_steps
  unfold Hold
  rename_i gN LN hN tkN FGN FN BN XN TN lN oN oJ oI oP dN dJ dI dP NN
  replace FN := frCast FN (bindL_cell rfl rfl)
  replace dP : oP.data = Data.cell (some (.ref lp)) := dP.trans (congrArg Data.cell (bindC_cell rfl rfl))
  refine ListComp_UC (F₀ := by k_asm) (by with_unfolding_all rfl) (by intro k; rfl) (by intro h; rfl) (by rfl) (by decide) (by intro C cl'; rfl) ?_
  k_steps
  unfold Hold
  refine SrcUC.intro 5 (NearJ es ((LN + 1 + 1 + 1 + 1, oN) :: (LN + 1 + 1 + 1, oJ) :: (LN + 1 + 1, oI) :: (LN + 1, oP) :: news) (LN + 1) (LN + 1 + 1) (LN + 1 + 1 + 1) (LN + 1 + 1 + 1 + 1)) rfl (by k_asm) (by k_asm) (by assumption) (by decide) (by rfl) ⟨[], rfl, (fun _ h => nomatch h), rfl, fun i v hv => by simp at hv⟩ ?_
  intro g
  refine ⟨?_, ?_, ?_⟩
  · rintro i ys G t I oI' C oC D X' oX m₂ h tk E' hi ⟨lists, rfl, hne, hyl, hnear⟩ hoX hC F' N' off ne offX
    have m1 : (LN + 1, oP) ∈ lists ++ ((LN + 1 + 1 + 1 + 1, oN) :: (LN + 1 + 1 + 1, oJ) :: (LN + 1 + 1, oI) :: (LN + 1, oP) :: news) := List.mem_append_right _ (.tail _ (.tail _ (.tail _ (.head _))))
    have m2 : (lp, listOf ps.toArray np) ∈ lists ++ ((LN + 1 + 1 + 1 + 1, oN) :: (LN + 1 + 1 + 1, oJ) :: (LN + 1 + 1, oI) :: (LN + 1, oP) :: news) := List.mem_append_right _ (.tail _ (.tail _ (.tail _ (.tail _ h1))))
    have m3 := hP.mono (G' := lists ++ ((LN + 1 + 1 + 1 + 1, oN) :: (LN + 1 + 1 + 1, oJ) :: (LN + 1 + 1, oI) :: (LN + 1, oP) :: news)) fun p hp => List.mem_append_right _ (.tail _ (.tail _ (.tail _ (.tail _ hp))))
    have back : ∀ (D2 : Addr) (zs : List Value) n, IntsAre zs (nearI es i) → (∀ p ∈ lists ++ ((LN + 1 + 1 + 1 + 1, oN) :: (LN + 1 + 1 + 1, oJ) :: (LN + 1 + 1, oI) :: (LN + 1, oP) :: news), p.1 ≠ D2) →
        NearJ es ((LN + 1 + 1 + 1 + 1, oN) :: (LN + 1 + 1 + 1, oJ) :: (LN + 1 + 1, oI) :: (LN + 1, oP) :: news) (LN + 1) (LN + 1 + 1) (LN + 1 + 1 + 1) (LN + 1 + 1 + 1 + 1) (i + 1) (ys ++ [.ref D2]) ((D2, listOf zs.toArray n) :: (lists ++ ((LN + 1 + 1 + 1 + 1, oN) :: (LN + 1 + 1 + 1, oJ) :: (LN + 1 + 1, oI) :: (LN + 1, oP) :: news))) := by
      intro D2 zs n hz ho
      refine ⟨(D2, listOf zs.toArray n) :: lists, rfl, List.forall_mem_cons.mpr ⟨⟨?_, ?_, ?_, ?_⟩, hne⟩, by simp [hyl], hnear.snoc (by rw [hyl]; exact hz)⟩
      · exact Ne.symm (ho _ (List.mem_append_right _ (.tail _ (.tail _ (.tail _ (.head _))))))
      · exact Ne.symm (ho _ (List.mem_append_right _ (.tail _ (.tail _ (.head _)))))
      · exact Ne.symm (ho _ (List.mem_append_right _ (.tail _ (.head _))))
      · exact Ne.symm (ho _ (List.mem_append_right _ (.head _)))
    generalize lists ++ ((LN + 1 + 1 + 1 + 1, oN) :: (LN + 1 + 1 + 1, oJ) :: (LN + 1 + 1, oI) :: (LN + 1, oP) :: news) = G at N' off offX m1 m2 m3 back
    refine LCt.ListComp_T (F₀ := F') (by with_unfolding_all rfl) (by decide) (by rfl) (by decide) (by rfl) ?_
    k_steps
    unfold Hold
    refine LCt.CompSrcT.range rfl (by k_asm) (by k_asm) (by assumption) (by decide) (by rfl) (by decide) ?_
    intro g2
    refine restT_keep (fun j zs => IntsAre zs (nearTo es i j)) 5 (by exact IntsAre.nil) ?_ ?_
    · rintro j zs v Ib oIb Cb oCb Db m₃ h' tk' E2 hj hIz ⟨tp, rfl⟩ hCb hx' Fb Nb offb neb
      rw [Int.zero_add] at hx'
      k_steps
      · rename (_ ∈ es) => hc
        refine compEnd_keep (R := fun y => IntsAre (zs ++ [y]) _) (by k_asm) (by k_asm) (by walk_at "mine sub") offb trivial ?_
        rw [near_succ, if_pos (by simp [hc])]
        exact intsAre_snoc hIz _ _
      · rename (_ ∈ es) => hc
        refine compEnd_keep (R := fun y => IntsAre (zs ++ [y]) _) (by k_asm) (by k_asm) (by walk_at "mine sub") offb trivial ?_
        rw [near_succ, if_pos (by simp [hc])]
        exact intsAre_snoc hIz _ _
      · rename (¬ (j, i) ∈ es) => hc
        rename (¬ (i, j) ∈ es) => hc2
        refine compEnd_keep (R := fun y => IntsAre zs _) (by k_asm) (by k_asm) (by walk_at "mine sub") offb trivial ?_
        rw [near_succ, if_neg (by simp [hc, hc2]), List.append_nil]
        exact hIz
    · intro zs hIz D2 h2 tk2 F2 N2 o1
      rw [near_all] at hIz
      obtain ⟨q1, q2, q3, q4, q5⟩ := o1
      exact CompEnd.intro (by k_asm) (by k_asm) ((X', oX) :: (D2, listOf zs.toArray _) :: G) (by walk_at "mine sub") ⟨off.1, ⟨Ne.symm q1, Ne.symm q2, Ne.symm q3⟩, off.2⟩ trivial ⟨_, rfl, List.forall_mem_cons.mpr ⟨Ne.symm q4, offX⟩, back D2 zs _ hIz (offOne q5)⟩
  · rintro i ys G hi ⟨lists, rfl, hne, hyl, hnear⟩
    exact Nat.le_trans (Nat.le_of_eq hyl) (by omega)
  · rintro ys G ⟨lists, rfl, hne, hyl, hnear⟩ D2 h2 tk2 F2 N2 o1
    replace o1 := offOne o1
    have e4 : NeA (LN + 1 + 1 + 1 + 1) D2 := o1 _ (List.mem_append_right _ (.head _))
    have e3 : NeA (LN + 1 + 1 + 1) D2 := o1 _ (List.mem_append_right _ (.tail _ (.head _)))
    have e2 : NeA (LN + 1 + 1) D2 := o1 _ (List.mem_append_right _ (.tail _ (.tail _ (.head _))))
    have e1 : NeA (LN + 1) D2 := o1 _ (List.mem_append_right _ (.tail _ (.tail _ (.tail _ (.head _)))))
    have eG : Off D2 (lists ++ news) := fun p hp => o1 p ((List.mem_append.mp hp).elim (List.mem_append_left _) fun h => List.mem_append_right _ (.tail _ (.tail _ (.tail _ (.tail _ h)))))
    replace N2 := newsMid N2
    replace hnear := hnear.mono (l' := lists ++ news) fun p hp => List.mem_append_left _ hp
    have g1 : Off (LN + 1) (lists ++ news) := fun p hp => (List.mem_append.mp hp).elim (fun h => (hne p h).1) fun h => Nat.ne_of_lt (Nat.lt_succ_of_lt (lN p h))
    have g2 : Off (LN + 1 + 1) (lists ++ news) := fun p hp => (List.mem_append.mp hp).elim (fun h => (hne p h).2.1) fun h => Nat.ne_of_lt (Nat.lt_succ_of_lt (Nat.lt_succ_of_lt (lN p h)))
    have g3 : Off (LN + 1 + 1 + 1) (lists ++ news) := fun p hp => (List.mem_append.mp hp).elim (fun h => (hne p h).2.2.1) fun h => Nat.ne_of_lt (Nat.lt_succ_of_lt (Nat.lt_succ_of_lt (Nat.lt_succ_of_lt (lN p h))))
    have g4 : Off (LN + 1 + 1 + 1 + 1) (lists ++ news) := fun p hp => (List.mem_append.mp hp).elim (fun h => (hne p h).2.2.2) fun h => Nat.ne_of_lt (Nat.lt_succ_of_lt (Nat.lt_succ_of_lt (Nat.lt_succ_of_lt (Nat.lt_succ_of_lt (lN p h)))))
    have gN' : ∀ p ∈ news, p ∈ lists ++ news := fun p hp => List.mem_append_right _ hp
    clear hne lN hP h1 o1
    generalize lists ++ news = G at N2 hnear eG g1 g2 g3 g4 gN'
    k_with_none
    k_with "getMethod ref" => ((k_here; (with_reducible show wpAny _ _ (getMethod (Value.ref _) (Str.ofString "search") _) _ _ _); k_dflt (refine' Mine.meth_search ?k1 ?k2 ?k3 ?k4 ?k5 ?_; (case k1 => k_asm); (case k2 => k_asm); (case k3 => k_is); (case k4 => rfl); (case k5 => rfl); k_whole)))
    k_with "call builtin:re.Pattern.search" => ((k_here; k_dflt (refine' Mine.call_search ?k1 ?k2 ?k3 ?k4 ?k5 ?_; (case k1 => k_asm); (case k2 => k_asm); (case k3 => k_is); (case k4 => rfl); (case k5 => first | with_reducible exact Mine.srchN _ _ _ (by assumption) | with_reducible exact Mine.srchV _ _ _ (by assumption)); k_whole)))
    k_with "mine use" => (((case k1 => k_asm); (case k2 => k_asm); (case k3 => k_asm); (case k4 => k_asm); (case k5 => k_asm); (case kd => exact Nat.le_of_ble_eq_true rfl); (case ku => exact Nat.le_of_ble_eq_true rfl)))
    k_with "mine lt" => ((walk_at "mine and"; first | omega | assumption | exact allLt_of (by assumption) | exact Mine.ltUp (by omega) (by assumption) | exact Mine.ltUp (by omega) (allLt_of (by assumption))))
    k_with "mine letter" => (first | assumption | exact Mine.Letter.lower (by assumption) | exact Mine.Letter.upper (by assumption) | exact Mine.Letter.lower (Mine.Letter.upper (by assumption)))
    k_with "call builtin:str.lower" => ((k_here; k_dflt (refine Mine.lower_L (by walk_at "mine letter") ?_)))
    k_with "call builtin:str.upper" => ((k_here; k_dflt (refine Mine.upper_L (by walk_at "mine letter") ?_)))
    k_with "eval ListComp" => (k_extra "mine comp")
    k_with "CompRestT" => (k_extra "mine restT")
    k_with "CompRest" => (k_extra "mine rest")
    k_with "exec For Tuple Attribute cons nil" => (k_extra "mine for")
    k_with "exec For Tuple Name cons nil" => (k_extra "mine for")
    k_with "exec While Compare cons nil" => (k_extra "mine while")
    k_with "delItem ref" => ((k_here; k_dflt (refine' Mine.own_delItem ?F ?X ?I ?hQ ?hS ?hF ?_; (case F => k_asm); (case X => k_asm); (case I => k_inst); (case hS => k_is); (case hF => k_is); (case hQ => k_is); k_whole)))
    k_with "mine hdrs" => (first | assumption | exact Mine.Hdrs.mono (by kcj_all) (by assumption))
    k_with "call ref" => ((k_here; k_dflt (refine' Mine.Spec.use (Mine.ent_spec _ _) ?k1 ?k2 ?k3 ?k4 ?k5 ?kd ?ku ?_; walk_at "mine use"; k_whole; intro rE nE hE tkE FE NE RE; obtain ⟨xE, dE, uE, vE, aE, bE, cE, fE, eE, eE', lE, mE, oE, pE⟩ := RE; subst eE eE'; (try (replace lE := Mine.ltOf lE; k_lt lE)); (try dsimp only); (try k_sweep); (try k_fold))))
    k_with "call ref" => ((k_here; k_dflt (refine' Mine.Spec.use (Mine.merge_spec _ _ _ _ _ _ _ _ _ _ _ _ _ _ _ _ _ _ _ _ _ _ _ _ _ _ _ _ _ _ ?h1 ?h2 ?h3 ?h4 ?g1 ?g2 ?g3 ?g4 ?y1 ?y2 ?z1 ?z2 ?z3 ?z4) ?k1 ?k2 ?k3 ?k4 ?k5 ?kd ?ku ?_; walk_at "mine use"; (case h1 => k_mem); (case h2 => k_mem); (case h3 => k_mem); (case h4 => k_mem); (case g1 => k_mem); (case g2 => k_mem); (case g3 => k_mem); (case g4 => k_mem); (case y1 => walk_at "mine strs"); (case y2 => walk_at "mine strs"); (case z1 => walk_at "mine len"); (case z2 => walk_at "mine len"); (case z3 => walk_at "mine len"); (case z4 => walk_at "mine len"); k_whole; intro rM nM hM tkM FM NM RM; obtain ⟨xM, dM, uM, vM, sM, aM, bM, cM, fM, gM, iM, jM, eM, eM', SM, zM, lM, mM, oM, pM⟩ := RM; subst eM eM'; (try (replace lM := Mine.ltOf lM; k_lt lM)); (try dsimp only); (try k_sweep); (try k_fold))))
    k_with "mine strs" => (first | assumption | exact StrsAre.nil | (refine StrsAre.cons _ _ ?_; walk_at "mine strs"))
    k_with "mine len" => (first | assumption | omega | (simp only [List.length_cons, List.length_nil, List.length_append]; omega))
    k_with "mine hdrs" => (first | assumption | (refine Mine.Hdrs.mono ?hs9 (by assumption); kcj_all))
    k_with "subscriptTail Name Constant ref int" => (k_extra "mine item")
    k_with "subscriptTail Attribute Name Constant ref int" => (k_extra "mine item")
    k_with "mine len" => ((simp only [List.length_cons, List.length_nil, List.length_append, List.length_take, List.length_reverse]; omega))
    k_with "call ref" => ((k_here; k_dflt (refine' Mine.Spec.use (Mine.new_spec _ _) ?k1 ?k2 ?k3 ?k4 ?k5 ?kd ?ku ?_; walk_at "mine use"; k_whole; intro rN nN hN tkN FN NN RN; obtain ⟨tN, dN, lN, aN, bN, eN, eN', uN, vN, wN⟩ := RN; subst eN eN'; (try (replace uN := Mine.ltOf uN; k_lt uN)); (try dsimp only); (try k_sweep); (try k_fold))))
    k_with "mine letter" => ((show _ ∈ Mine.letters; decide +kernel))
    k_with "mine hdrs" => (exact Mine.Hdrs.nil)
    k_with "mine len" => (first | assumption | omega | (simp only [List.length_cons, List.length_nil, List.length_append, List.length_take, List.length_reverse] <;> omega) | (subst_vars; (simp only [List.length_cons, List.length_nil, List.length_append, List.length_take, List.length_reverse] <;> omega)))
    k_with "mine tsub" => (first | exact Mine.TSub.nil | exact Mine.TSub.sub (fun _ h => h) | (refine Mine.TSub.keep (by k_mem) ?_; walk_at "mine tsub") | (refine Mine.TSub.skip (by k_cls) ?_; walk_at "mine tsub") | exact Mine.TSub.sub (by kcj_all))
    k_with "mine drop" => (first | (refine' Mine.DropAt.head ?a; (case a => k_all)) | (refine' Mine.DropAt.tail ?a ?b; (case a => k_ne); (case b => walk_at "mine drop")))
    k_with "UnrEnd" => ((refine' Mine.unrEnd_drop ?k1 ?k2 ?k3 ?_; (case k1 => k_asm); (case k2 => k_asm); (case k3 => walk_at "mine drop")))
    k_with "mine sub" => (first | exact fun _ h => h | assumption | exact Mine.subNil | (refine' Mine.subCons ?u1 ?u2; (case u1 => k_mem); (case u2 => walk_at "mine sub")) | (refine Mine.subTail ?_; walk_at "mine sub"))
    k_with "subscriptTail Name Name ref int" => ((k_here; k_dflt (refine' Mine.item_L ?k0 ?k1 ?k2 ?k3 ?k4 ?_; (case k0 => k_asm); (case k1 => k_mem); (case k2 => first | decide | omega); (case k3 => first | decide | omega); (case k4 => first | assumption | rfl); k_whole)))
    k_with "compareOp In int ref" => ((k_here; k_dflt (refine' Mine.in_L ?k0 ?k1 ?k2 ?k3 ?_; (case k0 => k_asm); (case k1 => k_mem); (case k2 => first | assumption | exact .cons _ _ (.cons _ _ .nil)); (case k3 => ke_room); k_whole)))
    k_with "compareOp NotIn int ref" => ((k_here; k_dflt (refine' Mine.notIn_L ?k0 ?k1 ?k2 ?k3 ?_; (case k0 => k_asm); (case k1 => k_mem); (case k2 => assumption); (case k3 => ke_room); k_whole)))
    k_with "compareOp Eq ref ref" => ((k_here; k_dflt (refine' Mine.eqL ?k0 ?k1 ?k2 ?k3 ?k4 ?k5 ?_; (case k0 => k_asm); (case k1 => k_mem); (case k2 => k_mem); (case k3 => assumption); (case k4 => first | assumption | exact .nil); (case k5 => ke_room); k_whole)))
    k_with "compareOp NotEq ref ref" => ((k_here; k_dflt (refine' Mine.neL ?k0 ?k1 ?k2 ?k3 ?k4 ?k5 ?_; (case k0 => k_asm); (case k1 => k_mem); (case k2 => k_mem); (case k3 => assumption); (case k4 => first | assumption | exact .nil); (case k5 => ke_room); k_whole)))
    k_with "exec For Name Call cons nil" => (k_extra "mine for")
    k_with "exec Assign cons ListComp" => (k_extra "mine asg")
    k_with "pyIter ref" => (((with_reducible show wpAny _ _ (pyIter (Value.ref _)) (fun it s₂ => TurnsAt _ _ _ _ _ _ _ _ _ it s₂) _ _); k_extra "mine iter"))
    k_with "compareOp In ref ref" => ((k_here; k_dflt (refine' Mine.pairIn_L ?k0 ?k1 ?k2 ?k5 ?k3 ?k4 ?_; (case k0 => k_asm); (case k1 => k_mem); (case k3 => k_mem); (case k2 => assumption); (case k5 => walk_at "mine sub2"); (case k4 => ke_room); k_whole)))
    k_with "mine sub2" => (first | exact fun _ h => h | assumption | (refine Mine.subTail ?_; walk_at "mine sub2"))
    k_with "mine for" => (walk_at "mine turns")
    k_with "mine iter" => (refine Mine.Hold.intro ?_)
    k_with "mine comp" => (refine Mine.Hold.intro ?_)
    k_steps
    unfold Hold
    rename (_ = Data.cell (some (Value.ref D2))) => dN2
    refine iter_rng (n := 5) (AlJ _ es D2 (LN + 1 + 1 + 1 + 1) (LN + 1 + 1 + 1) (LN + 1 + 1) (LN + 1) (lst ys) _ oP G) rfl (by k_asm) (by k_asm) (by assumption) (by decide) (by rfl) ⟨fun _ _ => rfl, oI, oJ, _, _, rfl, dI, dJ, fun i' h => absurd h (Nat.not_lt_zero _)⟩ (by intro _ _; rfl) ?_ ?_
    · clear dI dJ
      rintro i t' m₁ news₁ h tk I oIt hi ⟨hm, oI, oJ, vI, vJ, rfl, dI, dJ, hJ⟩ hI F1 N1
      rw [← mapKey hm] at F1
      rw [Int.zero_add]
      obtain ⟨i1, i2, i3, i4, i5, i9⟩ := off5 hI
      obtain ⟨ai, usi, ni, hyi, hmi, hui⟩ := hnear.get hyl hi
      k_steps
      unfold Hold
      rename (_ = Data.cell (some (Value.int _ _))) => dI2
      refine iter_rng (n := i) (Al2J _ es (I, oIt) D2 (LN + 1 + 1 + 1 + 1) (LN + 1 + 1 + 1) (LN + 1 + 1) (LN + 1) (lst ys) _ _ oP G i) rfl (by k_asm) (by k_asm) (by assumption) (rngw_small i (by omega)) (rngw_size i (by omega)) ⟨fun _ _ => rfl, oJ, vJ, rfl, dJ, fun j' h => absurd h (Nat.not_lt_zero _)⟩ (by intro _ _; rfl) ?_ ?_
      · clear dJ
        rintro j t2 m₂ news₂ h₂ tk₂ I2 oI2 hj ⟨hm2, oJ, vJ, rfl, dJ, hJ2⟩ hI2 F2 N2
        rw [← mapKey hm2] at F2
        rw [Int.zero_add]
        have j0 : NeA I I2 := hI2 _ (.head _)
        obtain ⟨j1, j2, j3, j4, j5, j9⟩ := off5 fun p hp => hI2 p (.tail _ hp)
        obtain ⟨aj, usj, nj, hyj, hmj, huj⟩ := hnear.get hyl (i := j) (by omega)
        have hzi : usi.length ≤ 5 := IntsAre.length hui ▸ near_len es i
        have hzj : usj.length ≤ 5 := IntsAre.length huj ▸ near_len es j
        k_with "mine asg" => (refine Mine.Hold.intro ?_)
        k_steps
        unfold Hold
        refine LCt.Assign_ListComp_T (F₀ := by k_asm) (hLe := rfl) (by with_unfolding_all rfl) (by with_unfolding_all rfl) (by decide) (by rfl) (by decide) (by rfl) (by rfl) (by rfl) ?_
        k_steps
        unfold Hold
        refine LCt.CompSrcT.ledger rfl (by k_asm) (by k_asm) (by k_mem) (by rw [List.size_toArray]; exact Nat.le_trans (by omega : usi.length ≤ 1000) (by decide)) ?_
        intro g3
        refine restT_keep (fun q zs => IntsAre zs (moreOf ((nearI es i).take q) (nearI es j) j)) _ (by exact IntsAre.nil) ?_ ?_
        · intro q zs v Ib oIb Cb oCb Db m₃ h' tk' E2 hq hIz hP' hCb hx' Fb Nb offb neb
          obtain ⟨y, ty, hy, rfl⟩ := intsAre_at hui (by simpa using hP')
          k_steps
          · rename (_ ∈ nearI es j) => hc
            refine compEnd_keep (R := fun y => IntsAre zs _) (by k_asm) (by k_asm) (by walk_at "mine sub") offb (.inr ⟨_, by k_mem, rfl, _, rfl⟩) ?_
            rw [more_snoc hy, if_neg (by simp [hc]), List.append_nil]
            exact hIz
          · rename (¬ _ ∈ nearI es j) => hc
            rename (y ≠ _) => hc2
            refine compEnd_keep (R := fun y => IntsAre (zs ++ [y]) _) (by k_asm) (by k_asm) (by walk_at "mine sub") offb (.inr ⟨_, by k_mem, rfl, _, rfl⟩) ?_
            rw [more_snoc hy, if_pos (by simp [hc, hc2])]
            exact intsAre_snoc hIz _ _
          · rename (y = _) => hc2
            refine compEnd_keep (R := fun y => IntsAre zs _) (by k_asm) (by k_asm) (by walk_at "mine sub") offb (.inr ⟨_, by k_mem, rfl, _, rfl⟩) ?_
            rw [more_snoc hy, if_neg (by simp [hc2]), List.append_nil]
            exact hIz
        · intro zs hIz
          rw [List.take_of_length_le (by rw [List.size_toArray]; exact Nat.le_of_eq (IntsAre.length hui).symm)] at hIz
          k_steps
          · rename (decide (_ = []) = true) => hc
            rename (_ = Data.cell (some (Value.int _ _))) => dJ'
            refine TurnR.next _ (by k_asm) (by k_asm) (by walk_at "mine sub") (List.forall_mem_cons.mpr ⟨j0, off5of j1 j2 j3 j4 j5 j9⟩) ⟨by walk_at "mine same", _, _, rfl, dJ', fun j' hj' => ?_⟩
            rcases Nat.lt_succ_iff_lt_or_eq.mp hj' with h | rfl
            · exact hJ2 j' h
            · exact al2_left (of_decide_eq_true hc)
          · unfold Hold
            rename (decide (_ = []) = false) => hc1
            rename (_ = Data.cell (some (Value.int _ _))) => dJ'
            refine LCt.ListComp_T (F₀ := by k_asm) (by with_unfolding_all rfl) (by decide) (by rfl) (by decide) (by rfl) ?_
            k_steps
            unfold Hold
            refine LCt.CompSrcT.ledger rfl (by k_asm) (by k_asm) (by k_mem) (by rw [List.size_toArray]; exact Nat.le_trans (by omega : usj.length ≤ 1000) (by decide)) ?_
            intro g4
            refine restT_keep (fun q zs => IntsAre zs (moreOf ((nearI es j).take q) (nearI es i) i)) _ (by exact IntsAre.nil) ?_ ?_
            · intro q zs v Ib oIb Cb oCb Db m₃ h' tk' E2 hq hIz hP' hCb hx' Fb Nb offb neb
              obtain ⟨y, ty, hy, rfl⟩ := intsAre_at huj (by simpa using hP')
              k_steps
              · rename (_ ∈ nearI es i) => hc
                refine compEnd_keep (R := fun y => IntsAre zs _) (by k_asm) (by k_asm) (by walk_at "mine sub") offb (.inr ⟨_, by k_mem, rfl, _, rfl⟩) ?_
                rw [more_snoc hy, if_neg (by simp [hc]), List.append_nil]
                exact hIz
              · rename (¬ _ ∈ nearI es i) => hc
                rename (y ≠ _) => hc2
                refine compEnd_keep (R := fun y => IntsAre (zs ++ [y]) _) (by k_asm) (by k_asm) (by walk_at "mine sub") offb (.inr ⟨_, by k_mem, rfl, _, rfl⟩) ?_
                rw [more_snoc hy, if_pos (by simp [hc, hc2])]
                exact intsAre_snoc hIz _ _
              · rename (y = _) => hc2
                refine compEnd_keep (R := fun y => IntsAre zs _) (by k_asm) (by k_asm) (by walk_at "mine sub") offb (.inr ⟨_, by k_mem, rfl, _, rfl⟩) ?_
                rw [more_snoc hy, if_neg (by simp [hc2]), List.append_nil]
                exact hIz
            · intro zs2 hIz2
              rw [List.take_of_length_le (by rw [List.size_toArray]; exact Nat.le_of_eq (IntsAre.length huj).symm)] at hIz2
              k_steps
              · rename (decide (_ = []) = true) => hc
                refine TurnR.next _ (by k_asm) (by k_asm) (by walk_at "mine sub") (List.forall_mem_cons.mpr ⟨j0, off5of j1 j2 j3 j4 j5 j9⟩) ⟨by walk_at "mine same", _, _, rfl, dJ', fun j' hj' => ?_⟩
                rcases Nat.lt_succ_iff_lt_or_eq.mp hj' with h | rfl
                · exact hJ2 j' h
                · exact al2_right (of_decide_eq_true hc)
              · rename (decide (moreOf (nearI es j) _ _ = []) = false) => hc
                have hn := alike_false hi hj (al2_none (of_decide_eq_false hc1) (of_decide_eq_false hc))
                dsimp only [TurnR]
                k_steps
                exact hret _ _ _ _ (by k_asm) (cb_drop (by k_asm) fun p hp => (by walk_at "mine sub2" : ∀ p ∈ G, p ∈ _) p (gN' p hp)) ⟨rfl, by rw [hn]⟩
      · rintro m₂ news₂ h₂ tk₂ ⟨hm2, oJ, vJ, rfl, dJ, hJ2⟩ F2 N2
        rw [← mapKey hm2] at F2
        k_steps
        refine TurnR.next _ (by k_asm) (by k_asm) (by walk_at "mine sub") (off5of i1 i2 i3 i4 i5 i9) ⟨by walk_at "mine same", _, _, _, _, rfl, dI2, dJ, fun i' hi' => ?_⟩
        rcases Nat.lt_succ_iff_lt_or_eq.mp hi' with h | rfl
        · exact hJ i' h
        · exact hJ2
    · rintro m₁ news₁ h tk ⟨hm, oI, oJ, vI, vJ, rfl, dI, dJ, hJ⟩ F1 N1
      rw [← mapKey hm] at F1
      k_steps
      have hn := alike_true hJ
      exact hret _ _ _ _ (by k_asm) (cb_drop (by k_asm) fun p hp => (by walk_at "mine sub2" : ∀ p ∈ G, p ∈ _) p (gN' p hp)) ⟨rfl, by rw [hn]⟩
end Mine


namespace Mine
open LCg LCt
theorem withOwn {M : Model} {env : Env} {α : Type} {t : Sem α} {Q : α → Shared → Prop} {E : Value → Shared → Prop} {s : Shared} (h : PassesOwn M (callerA.deeper env) env E) (k : PassesOwn M (callerA.deeper env) env E → wpAny M (callerA.deeper env) t Q E s) : wpAny M (callerA.deeper env) t Q E s := k h
theorem ints_two {vs : List Value} {ns : List Int} (h : IntsAre vs ns) (hz : ns.length = 2) : ∃ a b t u, vs = [.int a t, .int b u] := by
  cases h with
  | nil => simp at hz
  | cons a t h => cases h with
    | nil => simp at hz
    | cons b u h => cases h with
      | nil => exact ⟨a, b, t, u, rfl⟩
      | cons c v h => simp at hz
/-- no tuple of a list and two cells -/
theorem no_tup3 {a b c d : Addr} {o1 o2 : Obj} {vs : Array Value} {n : Nat} {v1 v2 : Option Value} (h1 : o1.data = .cell v1) (h2 : o2.data = .cell v2) {xs : Array Value} (h : (d, tupOf xs) ∈ [(a, listOf vs n), (b, o1), (c, o2)]) : False := by
  simp only [List.mem_cons, List.not_mem_nil, or_false] at h
  rcases h with h | h | h
  · have e := congrArg (fun p => p.2.cls) h
    simp at e
  · have e : tupOf xs = o1 := congrArg Prod.snd h
    rw [← e] at h1; cases h1
  · have e : tupOf xs = o2 := congrArg Prod.snd h
    rw [← e] at h2; cases h2
theorem PairsIn.out {T B : Led} {vs : List Value} {ps : List (Nat × Nat)} (h : PairsIn (T ++ B) vs ps) (hb : ∀ a xs, (a, tupOf xs) ∉ B) : PairsIn T vs ps := by
  induction h with
  | nil => exact .nil
  | cons hm e1 e2 _ ih => exact .cons ((List.mem_append.mp hm).resolve_right (hb _ _)) e1 e2 ih
theorem newsCell {h₀ h : Heap} {L : Addr} {d a b c : Addr × Obj} {t : Led} (N : News h₀ L h (d :: (t ++ [a, b, c]))) : News h₀ L h (d :: a :: b :: c :: t) := fun p hp => N p (by
  simp only [List.mem_cons, List.mem_append, List.not_mem_nil, or_false] at hp ⊢
  rcases hp with h | h | h | h | h <;> simp [h])
theorem pairsFacts {lp lU cW cT lo : Addr} {oU oW oT : Obj} {tups : Led} (oP : Off1 lp (tups ++ [(lU, oU), (cW, oW), (cT, oT)])) (gP : AllLt lo [(lU, oU), (cW, oW), (cT, oT)]) (hgt : ∀ p ∈ tups, LtA lo p.1) :
    NeA lU lp ∧ NeA cW lp ∧ NeA cT lp ∧ Off lp tups ∧ Off cW tups ∧ Off cT tups := by
  replace oP := offOne oP
  obtain ⟨g1, g2, g3, -⟩ := gP
  exact ⟨oP _ (List.mem_append_right _ (.head _)), oP _ (List.mem_append_right _ (.tail _ (.head _))), oP _ (List.mem_append_right _ (.tail _ (.tail _ (.head _)))), fun p hp => oP p (List.mem_append_left _ hp),
    fun p hp => Nat.ne_of_gt (Nat.lt_trans g2 (hgt p hp)), fun p hp => Nat.ne_of_gt (Nat.lt_trans g3 (hgt p hp))⟩
/-- the table's ledger, its tuples last -/
theorem newsTab {h₀ h : Heap} {L : Addr} {l t d a b c e : Addr × Obj} {t2 t1 : Led} (N : News h₀ L h (l :: t :: d :: (t2 ++ (a :: b :: c :: e :: t1)))) : News h₀ L h (l :: t :: d :: a :: b :: c :: e :: (t2 ++ t1)) := fun p hp => N p (by
  simp only [List.mem_cons, List.mem_append] at hp ⊢
  rcases hp with h | h | h | h | h | h | h | h | h <;> simp [h])
theorem tabTups {a b c d : Addr} {o1 o2 : Obj} {vs us : Array Value} {n k : Nat} {v1 v2 : Option Value} {t2 t1 : Led} (h1 : o1.data = .cell v1) (h2 : o2.data = .cell v2) :
    ∀ x xs, (x, tupOf xs) ∈ t2 ++ ((a, listOf us k) :: (b, listOf vs n) :: (c, o1) :: (d, o2) :: t1) → (x, tupOf xs) ∈ t2 ++ t1 := by
  intro x xs h
  rcases List.mem_append.mp h with h | h
  · exact List.mem_append_left _ h
  · rcases List.mem_cons.mp h with h | h
    · exfalso
      have e := congrArg (fun p => p.2.cls) h
      simp at e
    · have q : (x, tupOf xs) ∈ [(b, listOf vs n), (c, o1), (d, o2)] ∨ (x, tupOf xs) ∈ t1 := by
        simp only [List.mem_cons, List.not_mem_nil, or_false] at h ⊢
        rcases h with h | h | h | h <;> simp [h]
      rcases q with q | q
      · exact (no_tup3 h1 h2 q).elim
      · exact List.mem_append_right _ q
theorem tabFacts {lp lU cW cT d t l : Addr} {oP oU oW oT : Obj} {t2 t1 : Led} (g : AllLt d ((lp, oP) :: (lU, oU) :: (cW, oW) :: (cT, oT) :: t1)) (h1 : LtA d t) (h2 : LtA t l) (h3 : ∀ p ∈ t2, LtA l p.1) (h4 : Off cW t1) (h5 : Off cT t1) :
    (NeA l cT ∧ NeA t cT ∧ NeA d cT) ∧ (NeA l cW ∧ NeA t cW ∧ NeA d cW) ∧ (NeA lp l ∧ NeA lU l ∧ NeA cW l ∧ NeA cT l ∧ NeA t l ∧ NeA d l) ∧ Off cW (t2 ++ t1) ∧ Off cT (t2 ++ t1) ∧ Off l (t2 ++ t1) ∧ (lp < d ∧ lU < d ∧ cW < d ∧ cT < d) := by
  have g5 := ltOf (by exact g.2.2.2.2 : AllLt d t1)
  obtain ⟨g1, g2, g3, g4, -⟩ := g
  have k1 : LtA d l := Nat.lt_trans h1 h2
  refine ⟨⟨Nat.ne_of_gt (Nat.lt_trans g4 k1), Nat.ne_of_gt (Nat.lt_trans g4 h1), Nat.ne_of_gt g4⟩, ⟨Nat.ne_of_gt (Nat.lt_trans g3 k1), Nat.ne_of_gt (Nat.lt_trans g3 h1), Nat.ne_of_gt g3⟩,
    ⟨Nat.ne_of_lt (Nat.lt_trans g1 k1), Nat.ne_of_lt (Nat.lt_trans g2 k1), Nat.ne_of_lt (Nat.lt_trans g3 k1), Nat.ne_of_lt (Nat.lt_trans g4 k1), Nat.ne_of_lt h2, Nat.ne_of_lt k1⟩, ?_, ?_, ?_, g1, g2, g3, g4⟩
  · exact fun p hp => (List.mem_append.mp hp).elim (fun h => Nat.ne_of_gt (Nat.lt_trans (Nat.lt_trans g3 k1) (h3 p h))) (h4 p)
  · exact fun p hp => (List.mem_append.mp hp).elim (fun h => Nat.ne_of_gt (Nat.lt_trans (Nat.lt_trans g4 k1) (h3 p h))) (h5 p)
  · exact fun p hp => (List.mem_append.mp hp).elim (fun h => Nat.ne_of_gt (h3 p h)) fun h => Nat.ne_of_lt (Nat.lt_trans (g5 p h) k1)
theorem fr_low {kvs : List (Str × Str)} {A : List (Nat × Nat)} {i : Nat} (h : lowOf kvs = onesOf A) : (kvs.filter fun kv => Txt.lower kv.1 == one i).map (·.2) = (G.fr A i).map one := by
  have e1 : lowOf (kvs.filter fun kv => Txt.lower kv.1 == one i) = (lowOf kvs).filter (fun kv => kv.1 == one i) := by
    unfold lowOf; rw [List.filter_map]; rfl
  have e2 : (onesOf A).filter (fun kv => kv.1 == one i) = onesOf (A.filter (·.1 == i)) := by
    unfold onesOf; rw [List.filter_map]
    refine congrArg (List.map _) (List.filter_congr fun q _ => ?_)
    show (one q.1 == one i) = (q.1 == i)
    by_cases hq : q.1 = i
    · rw [hq]; simp
    · rw [show (q.1 == i) = false from beq_eq_false_iff_ne.mpr hq, show (one q.1 == one i) = false from beq_eq_false_iff_ne.mpr fun k => hq (one_inj.mp k)]
  have e3 : (kvs.filter fun kv => Txt.lower kv.1 == one i).map (·.2) = (lowOf (kvs.filter fun kv => Txt.lower kv.1 == one i)).map (·.2) := by
    unfold lowOf; rw [List.map_map]; rfl
  rw [e3, e1, h, e2]
  unfold onesOf G.fr
  rw [List.map_map, List.map_map]; rfl
theorem lowup {i : Nat} (h : i < 5) : Txt.lower (Txt.upper (one i)) = one i := by
  have : i = 0 ∨ i = 1 ∨ i = 2 ∨ i = 3 ∨ i = 4 := by omega
  rcases this with rfl | rfl | rfl | rfl | rfl <;> decide +kernel
theorem sign5 {i c : Nat} (hi : i < 5) (h : (Str.ofString "abcde").cps[i]? = some c) : (⟨#[c]⟩ : Str) = one i := by
  have e : (Str.ofString "abcde").cps = #[97, 98, 99, 100, 101] := by decide +kernel
  rw [e] at h
  have : i = 0 ∨ i = 1 ∨ i = 2 ∨ i = 3 ∨ i = 4 := by omega
  rcases this with rfl | rfl | rfl | rfl | rfl <;> (simp at h; subst h; rfl)
theorem abcde_size : (Str.ofString "abcde").cps.size = 5 := by decide +kernel
/-- the records made so far -/
def RecJ (w : World) (Gt : Led) (cW lT : Addr) (A : List (Nat × Nat)) (i : Nat) (ys : List Value) (Gr : Led) : Prop :=
  (∀ p ∈ Gt, p ∈ Gr) ∧ (∀ p ∈ Gr, NeA p.1 cW ∧ NeA p.1 lT) ∧ ys.length = i ∧ ∀ (j : Nat) (v : Value), ys[j]? = some v → EntAt w Gr v ((G.fr A j).map one)
theorem RecJ.step {w : World} {Gt Gr Gr' : Led} {cW lT : Addr} {A : List (Nat × Nat)} {i : Nat} {ys : List Value} {v : Value} (h : RecJ w Gt cW lT A i ys Gr) (hE : EntAt w Gr' v ((G.fr A i).map one)) (h1 : ∀ p ∈ Gr, p ∈ Gr') (h2 : ∀ p ∈ Gr', NeA p.1 cW ∧ NeA p.1 lT) :
    RecJ w Gt cW lT A (i + 1) (ys ++ [v]) Gr' := by
  obtain ⟨a, b, c, d⟩ := h
  refine ⟨fun p hp => h1 p (a p hp), h2, by simp [c], fun j v' hv => ?_⟩
  rcases Nat.lt_or_ge j ys.length with k | k
  · rw [List.getElem?_append_left k] at hv
    exact (d j v' hv).mono h1
  · rw [List.getElem?_append_right k] at hv
    have e : j - ys.length = 0 := by
      rcases Nat.eq_zero_or_pos (j - ys.length) with q | q
      · exact q
      · rw [List.getElem?_eq_none (by show 1 ≤ _; omega)] at hv; cases hv
    rw [e] at hv
    simp at hv
    subst hv
    have : j = i := by omega
    rw [this]; exact hE
theorem endRec {h₀ : Heap} {L : Addr} {m : Str → Option Value} {w : World} {s₁ : Shared} {Ia C D x d u r g lT cW : Addr} {oI oC oD oG : Obj} {p1 p2 p3 p4 p5 p6 p7 : Addr × Obj} {Gr Gt : Led} {us ys : List Value} {a b c f : Tok} {k i : Nat} {A : List (Nat × Nat)} {h' : Heap} {tk : Nat}
    (F : Fr h₀ L h' m) (N : News h₀ L h' ((x, instObj 224 d) :: (d, entDict w a b c f u r 4) :: (u, listOf us.toArray k) :: (r, listOf ([] : List Value).toArray 0) :: (g, oG) :: (Ia, oI) :: (C, oC) :: (D, oD) :: p1 :: p2 :: p3 :: p4 :: p5 :: p6 :: p7 :: Gr))
    (off : Off3 Ia C D (p1 :: p2 :: p3 :: p4 :: p5 :: p6 :: p7 :: Gr)) (hJ : RecJ w Gt cW lT A i ys Gr) (S : StrsAre us ((G.fr A i).map one)) (hz : us.length ≤ 100)
    (l1 : AllLt d ((g, oG) :: (Ia, oI) :: (C, oC) :: (D, oD) :: p1 :: p2 :: p3 :: p4 :: p5 :: p6 :: p7 :: Gr)) (l0 : LtA lT d) (l0' : LtA cW d) (l2 : LtA d x) (l3 : LtA x u) (l4 : LtA u r) :
    CompEnd h₀ L m s₁ Ia oI C oC D oD (fun _ => True) (fun y nw => ∃ G', nw = p1 :: p2 :: p3 :: p4 :: p5 :: p6 :: p7 :: G' ∧ RecJ w Gt cW lT A (i + 1) (ys ++ [y]) G') (.ref x) { s₁ with heap := h', toks := tk } := by
  obtain ⟨_, q1, q2, q3, _⟩ := l1
  obtain ⟨a1, a2, a3, a4, a5, a6, a7, ag⟩ := off
  have x1 := Nat.lt_trans l2 l3
  have x2 := Nat.lt_trans x1 l4
  refine CompEnd.intro F N (p1 :: p2 :: p3 :: p4 :: p5 :: p6 :: p7 :: (x, instObj 224 d) :: (d, entDict w a b c f u r 4) :: (u, listOf us.toArray k) :: (r, listOf ([] : List Value).toArray 0) :: Gr) ?_ ⟨a1, a2, a3, a4, a5, a6, a7, ?_, ?_, ?_, ?_, ag⟩ trivial
    ⟨_, rfl, hJ.step ⟨x, d, u, r, a, b, c, f, 4, k, 0, us, rfl, .head _, .tail _ (.head _), .tail _ (.tail _ (.head _)), .tail _ (.tail _ (.tail _ (.head _))), S, hz⟩ ?_ ?_⟩
  · intro y hy
    simp only [List.mem_cons] at hy ⊢
    rcases hy with h | h | h | h | h | h | h | h | h | h | h | h | h | h | h <;> simp [h]
  · exact ⟨Nat.ne_of_gt (Nat.lt_trans q1 l2), Nat.ne_of_gt (Nat.lt_trans q2 l2), Nat.ne_of_gt (Nat.lt_trans q3 l2)⟩
  · exact ⟨Nat.ne_of_gt q1, Nat.ne_of_gt q2, Nat.ne_of_gt q3⟩
  · exact ⟨Nat.ne_of_gt (Nat.lt_trans q1 x1), Nat.ne_of_gt (Nat.lt_trans q2 x1), Nat.ne_of_gt (Nat.lt_trans q3 x1)⟩
  · exact ⟨Nat.ne_of_gt (Nat.lt_trans q1 x2), Nat.ne_of_gt (Nat.lt_trans q2 x2), Nat.ne_of_gt (Nat.lt_trans q3 x2)⟩
  · intro y hy; exact .tail _ (.tail _ (.tail _ (.tail _ hy)))
  · exact List.forall_mem_cons.mpr ⟨⟨Nat.ne_of_gt (Nat.lt_trans l0' l2), Nat.ne_of_gt (Nat.lt_trans l0 l2)⟩, List.forall_mem_cons.mpr ⟨⟨Nat.ne_of_gt l0', Nat.ne_of_gt l0⟩, List.forall_mem_cons.mpr ⟨⟨Nat.ne_of_gt (Nat.lt_trans l0' x1), Nat.ne_of_gt (Nat.lt_trans l0 x1)⟩, List.forall_mem_cons.mpr ⟨⟨Nat.ne_of_gt (Nat.lt_trans l0' x2), Nat.ne_of_gt (Nat.lt_trans l0 x2)⟩, hJ.2.1⟩⟩⟩⟩
section
variable {prog : Program} {w : World} {A : Around} {s : Shared} {h₀ : Heap} {L : Addr} {m : Str → Option Value} {env : Env} {elt : Expr} {x : Str} {scope : Scope} {cl : List (Str × Addr)} {S : Led → Prop} {P : Nat → Value → Prop} {Fin : List Value → Led → Prop}
theorem restU_grow (f : Led → Led) (J : Nat → List Value → Led → Prop) (n : Nat) {G₀ : Led} (h0 : J 0 [] G₀)
    (step : ∀ i ys G v Ia oI C oC D m₂ h tk (E' : Value → Shared → Prop), i < n → J i ys G → P i v → NsObj oC m₂ → m₂ x = some v → Fr h₀ L h m → News h₀ L h ((Ia, oI) :: (C, oC) :: (D, lst ys) :: f G) → Off3 Ia C D (f G) → ((@Ne Nat Ia C) ∧ (@Ne Nat Ia D) ∧ (@Ne Nat C D)) →
      wpAny (model prog w) A (eval elt (compEnvC scope cl C env)) (CompEnd h₀ L m { s with heap := h, toks := tk } Ia oI C oC D (lst ys) S (fun y news' => ∃ G', news' = f G' ∧ J (i + 1) (ys ++ [y]) G')) E' { s with heap := h, toks := tk })
    (fin : ∀ ys G, J n ys G → Fin ys (f G)) : CompRest prog w A h₀ L m env elt x scope cl s S P Fin n 0 [] (f G₀) := by
  refine restU_inv (fun i ys nw => ∃ G, nw = f G ∧ J i ys G) n ⟨G₀, rfl, h0⟩ ?_ ?_
  · rintro i ys nw v Ia oI C oC D m₂ h tk E' hi ⟨G, rfl, hJ⟩ hP hC hx F N off ne
    exact step i ys G v Ia oI C oC D m₂ h tk E' hi hJ hP hC hx F N off ne
  · rintro ys nw ⟨G, rfl, hJ⟩
    exact fin ys G hJ
end
theorem sub_mem {es L : List (Nat × Nat)} (h : es.Sublist L) : es ∈ G.subs L := by
  induction h with
  | slnil => exact List.mem_singleton.mpr rfl
  | cons a _ ih => exact List.mem_append_left _ ih
  | cons_cons a _ ih => exact List.mem_append_right _ (List.mem_map_of_mem ih)
theorem ok_of {es : List (Nat × Nat)} (h : es.Sublist allP5) : G.nested (G.arcs es) = G.alike es ∧ (!decide (G.weights (G.arcs es) = [])) = G.alike es ∧ (G.weights (G.arcs es) = [] ∨ G.told (G.weights (G.arcs es)) = es) := by
  have e := List.all_eq_true.mp G.all_ok es (sub_mem h)
  unfold G.ok at e
  simp only [Bool.and_eq_true, Bool.or_eq_true, beq_iff_eq, List.isEmpty_iff] at e
  refine ⟨e.1.1, ?_, e.2⟩
  rw [← e.1.2]
  cases G.weights (G.arcs es) <;> rfl
theorem weigh_len : ∀ (n : Nat) (s : List (Nat × Nat) × List Nat × List Int), G.weigh n s = [] ∨ (G.weigh n s).length = s.2.2.length
  | 0, s => .inr rfl
  | n + 1, s => by
    show (match G.step (n + 1) s with | none => [] | some s' => G.weigh n s') = [] ∨ (match G.step (n + 1) s with | none => [] | some s' => G.weigh n s').length = _
    cases e : G.step (n + 1) s with
    | none => exact .inl rfl
    | some s' =>
      have hs : s'.2.2.length = s.2.2.length := by
        unfold G.step at e
        dsimp only at e
        split at e
        · cases e
        · cases e
          simp
      rcases weigh_len n s' with h | h
      · exact .inl h
      · exact .inr (h.trans hs)
theorem weights_len (A : List (Nat × Nat)) : G.weights A = [] ∨ (G.weights A).length = 5 := weigh_len 5 _
theorem w_get {us : List Value} {W : List Int} (h : IntsAre us W) (hl : W.length = 5) {k : Nat} (hk : k < 5) {z : Int} (hz : z = (k : Int)) : ∃ t, us[z.toNat]? = some (.int (W.getD k 0) t) := by
  have e : W[k]? = some (W.getD k 0) := by rw [List.getD_eq_getElem?_getD, List.getElem?_eq_getElem (by omega)]; rfl
  obtain ⟨t, ht⟩ := intsAre_get h e
  exact ⟨t, by rw [hz, Int.toNat_natCast]; exact ht⟩
/-- the pairs told so far -/
def toldF (W : List Int) (p : Nat × Nat) : Bool := !decide (W = []) && decide (W.getD p.1 0 + W.getD p.2 0 > 0)
def ToldJ (base : Led) (ps : List (Nat × Nat)) (ys : List Value) (Gr : Led) : Prop := (∀ p ∈ base, p ∈ Gr) ∧ PairsIn Gr ys ps
theorem told_eq (W : List Int) (h : ¬ W = []) : allP5.filter (toldF W) = G.told W := by
  unfold G.told
  refine List.filter_congr fun p _ => ?_
  unfold toldF
  rw [decide_eq_false h]; rfl
theorem told_nil {W : List Int} {p : Nat × Nat} (h : decide (W = []) = true) : ¬ toldF W p = true := by unfold toldF; rw [h]; simp
theorem told_no {W : List Int} {i j : Nat} (h : ¬ W.getD i 0 + W.getD j 0 > 0) : ¬ toldF W (i, j) = true := by unfold toldF; rw [decide_eq_false h]; simp
theorem told_yes {W : List Int} {i j : Nat} (h : decide (W = []) = false) (k : W.getD i 0 + W.getD j 0 > 0) : toldF W (i, j) = true := by unfold toldF; rw [h, decide_eq_true k]; rfl
theorem ij_nn (i j : Nat) : 0 ≤ (i : Int) + 1 + (j : Int) := by omega
theorem ij_sm {i j : Nat} (hi : i < 5) (hj : j < 4 - i) : (i : Int) + 1 + (j : Int) < 2 ^ 63 := by omega
theorem i_sm {i : Nat} (hi : i < 5) : (i : Int) < 2 ^ 63 := by omega
theorem filt_row {W : List Int} {i j : Nat} : (rows i ++ rowTo i (j + 1)).filter (toldF W) = (rows i ++ rowTo i j).filter (toldF W) ++ (if toldF W (i, i + 1 + j) = true then [(i, i + 1 + j)] else []) := by
  rw [rowTo_succ, ← List.append_assoc, List.filter_append (rows i ++ rowTo i j)]
  congr 1
  rw [List.filter_cons]
  split <;> rfl
section
variable {prog : Program} {w : World} {A : Around} {E : Value → Shared → Prop} {s : Shared} {h₀ : Heap} {L : Addr} {news : Led} {Q : Value → Shared → Prop}
theorem mapPd_inj : ∀ {a b : List (Nat × Nat)}, a.map pd = b.map pd ↔ a = b := by
  intro a b
  constructor
  · revert b
    induction a with
    | nil => intro b e; cases b with | nil => rfl | cons _ _ => simp at e
    | cons x r ih => intro b e; cases b with | nil => simp at e | cons y t => simp only [List.map_cons, List.cons.injEq] at e; rw [pd_inj e.1, ih e.2]
  · rintro rfl; rfl
theorem eqPairs_L {Ga Gb : Led} {a b : Addr} {xs ys : List Value} {es fs : List (Nat × Nat)} {k k' : Nat} (N : News h₀ L s.heap news) (ma : (a, listOf xs.toArray k) ∈ news) (mb : (b, listOf ys.toArray k') ∈ news) (Pa : PairsIn Ga xs es) (sa : ∀ p ∈ Ga, p ∈ news) (Pb : PairsIn Gb ys fs) (sb : ∀ p ∈ Gb, p ∈ news)
    (hu : A.units + 64 < cLine) (h : Q (.bool (decide (es = fs))) s) : wpAny (model prog w) A (compareOp .Eq (.ref a) (.ref b)) Q E s :=
  kqd_eq N ma rfl rfl (pairDats Pa) sa mb rfl rfl (pairDats Pb) sb pairsOk pairsOk hu (decQ h _ _ mapPd_inj)
theorem neBool2_L {a b : Addr} {b1 b2 c1 c2 : Bool} {k k' : Nat} (N : News h₀ L s.heap news) (ma : (a, listOf #[.bool b1, .bool b2] k) ∈ news) (mb : (b, listOf #[.bool c1, .bool c2] k') ∈ news) (e1 : b1 = c1) (e2 : b2 = c2) (hu : A.units + 64 < cLine) (h : Q (.bool false) s) :
    wpAny (model prog w) A (compareOp .NotEq (.ref a) (.ref b)) Q E s := by
  subst e1 e2
  refine ne_dataH (reads_list_at (N.get ma) rfl rfl (.cons (.bool b1) (.cons (.bool b2) .nil))) (reads_list_at (N.get mb) rfl rfl (.cons (.bool b1) (.cons (.bool b2) .nil))) ?_ ?_ hu ?_
  · cases b1 <;> cases b2 <;> rfl
  · cases b1 <;> cases b2 <;> rfl
  · cases b1 <;> cases b2 <;> exact h
end
local macro_rules | `(tactic| k_qdec) => `(tactic| decide +kernel)
local macro_rules | `(tactic| walk_at "call ref") => `(tactic| (refine Mine.Hold.intro ?_))
local macro_rules | `(tactic| walk_at "zz one") => `(tactic| k_extra "zz one")
local macro_rules | `(tactic| walk_at "zz two") => `(tactic| k_extra "zz two")
local macro_rules | `(tactic| walk_at "zz three") => `(tactic| k_extra "zz three")
local macro_rules | `(tactic| walk_at "SrcOut") => `(tactic| (refine Mine.Hold.intro ?_))
local macro_rules | `(tactic| walk_at "SrcIn") => `(tactic| (refine Mine.Hold.intro ?_))
local macro_rules | `(tactic| walk_at "InEnd") => `(tactic| (refine Mine.Hold.intro ?_))
local macro_rules | `(tactic| walk_at "SrcS") => `(tactic| (refine Mine.Hold.intro ?_))
local macro_rules | `(tactic| walk_at "exec Assign cons ListComp") => `(tactic| k_extra "exec Assign cons ListComp")
theorem main_holds : PySem.Challenge.rw_rl0103_02.Holds := Mine.hd (by
  k_with_none
  k_with "getMethod ref" => ((k_here; (with_reducible show wpAny _ _ (getMethod (Value.ref _) (Str.ofString "search") _) _ _ _); k_dflt (refine' Mine.meth_search ?k1 ?k2 ?k3 ?k4 ?k5 ?_; (case k1 => k_asm); (case k2 => k_asm); (case k3 => k_is); (case k4 => rfl); (case k5 => rfl); k_whole)))
  k_with "call builtin:re.Pattern.search" => ((k_here; k_dflt (refine' Mine.call_search ?k1 ?k2 ?k3 ?k4 ?k5 ?_; (case k1 => k_asm); (case k2 => k_asm); (case k3 => k_is); (case k4 => rfl); (case k5 => first | with_reducible exact Mine.srchN _ _ _ (by assumption) | with_reducible exact Mine.srchV _ _ _ (by assumption)); k_whole)))
  k_with "mine use" => (((case k1 => k_asm); (case k2 => k_asm); (case k3 => k_asm); (case k4 => k_asm); (case k5 => k_asm); (case kd => exact Nat.le_of_ble_eq_true rfl); (case ku => exact Nat.le_of_ble_eq_true rfl)))
  k_with "mine lt" => ((walk_at "mine and"; first | omega | assumption | exact allLt_of (by assumption) | exact Mine.ltUp (by omega) (by assumption) | exact Mine.ltUp (by omega) (allLt_of (by assumption))))
  k_with "mine letter" => (first | assumption | exact Mine.Letter.lower (by assumption) | exact Mine.Letter.upper (by assumption) | exact Mine.Letter.lower (Mine.Letter.upper (by assumption)))
  k_with "call builtin:str.lower" => ((k_here; k_dflt (refine Mine.lower_L (by walk_at "mine letter") ?_)))
  k_with "call builtin:str.upper" => ((k_here; k_dflt (refine Mine.upper_L (by walk_at "mine letter") ?_)))
  k_with "eval ListComp" => (k_extra "mine comp")
  k_with "CompRestT" => (k_extra "mine restT")
  k_with "CompRest" => (k_extra "mine rest")
  k_with "exec For Tuple Attribute cons nil" => (k_extra "mine for")
  k_with "exec For Tuple Name cons nil" => (k_extra "mine for")
  k_with "exec While Compare cons nil" => (k_extra "mine while")
  k_with "delItem ref" => ((k_here; k_dflt (refine' Mine.own_delItem ?F ?X ?I ?hQ ?hS ?hF ?_; (case F => k_asm); (case X => k_asm); (case I => k_inst); (case hS => k_is); (case hF => k_is); (case hQ => k_is); k_whole)))
  k_with "mine hdrs" => (first | assumption | exact Mine.Hdrs.mono (by kcj_all) (by assumption))
  k_with "call ref" => ((k_here; k_dflt (refine' Mine.Spec.use (Mine.ent_spec _ _) ?k1 ?k2 ?k3 ?k4 ?k5 ?kd ?ku ?_; walk_at "mine use"; k_whole; intro rE nE hE tkE FE NE RE; obtain ⟨xE, dE, uE, vE, aE, bE, cE, fE, eE, eE', lE, mE, oE, pE⟩ := RE; subst eE eE'; (try (replace lE := Mine.ltOf lE; k_lt lE)); (try dsimp only); (try k_sweep); (try k_fold))))
  k_with "call ref" => ((k_here; k_dflt (refine' Mine.Spec.use (Mine.merge_spec _ _ _ _ _ _ _ _ _ _ _ _ _ _ _ _ _ _ _ _ _ _ _ _ _ _ _ _ _ _ ?h1 ?h2 ?h3 ?h4 ?g1 ?g2 ?g3 ?g4 ?y1 ?y2 ?z1 ?z2 ?z3 ?z4) ?k1 ?k2 ?k3 ?k4 ?k5 ?kd ?ku ?_; walk_at "mine use"; (case h1 => k_mem); (case h2 => k_mem); (case h3 => k_mem); (case h4 => k_mem); (case g1 => k_mem); (case g2 => k_mem); (case g3 => k_mem); (case g4 => k_mem); (case y1 => walk_at "mine strs"); (case y2 => walk_at "mine strs"); (case z1 => walk_at "mine len"); (case z2 => walk_at "mine len"); (case z3 => walk_at "mine len"); (case z4 => walk_at "mine len"); k_whole; intro rM nM hM tkM FM NM RM; obtain ⟨xM, dM, uM, vM, sM, aM, bM, cM, fM, gM, iM, jM, eM, eM', SM, zM, lM, mM, oM, pM⟩ := RM; subst eM eM'; (try (replace lM := Mine.ltOf lM; k_lt lM)); (try dsimp only); (try k_sweep); (try k_fold))))
  k_with "mine strs" => (first | assumption | exact StrsAre.nil | (refine StrsAre.cons _ _ ?_; walk_at "mine strs"))
  k_with "mine len" => (first | assumption | omega | (simp only [List.length_cons, List.length_nil, List.length_append]; omega))
  k_with "mine hdrs" => (first | assumption | (refine Mine.Hdrs.mono ?hs9 (by assumption); kcj_all))
  k_with "subscriptTail Name Constant ref int" => (k_extra "mine item")
  k_with "subscriptTail Attribute Name Constant ref int" => (k_extra "mine item")
  k_with "mine len" => ((simp only [List.length_cons, List.length_nil, List.length_append, List.length_take, List.length_reverse]; omega))
  k_with "call ref" => ((k_here; k_dflt (refine' Mine.Spec.use (Mine.new_spec _ _) ?k1 ?k2 ?k3 ?k4 ?k5 ?kd ?ku ?_; walk_at "mine use"; k_whole; intro rN nN hN tkN FN NN RN; obtain ⟨tN, dN, lN, aN, bN, eN, eN', uN, vN, wN⟩ := RN; subst eN eN'; (try (replace uN := Mine.ltOf uN; k_lt uN)); (try dsimp only); (try k_sweep); (try k_fold))))
  k_with "mine letter" => ((show _ ∈ Mine.letters; decide +kernel))
  k_with "mine hdrs" => (exact Mine.Hdrs.nil)
  k_with "mine len" => (first | assumption | omega | (simp only [List.length_cons, List.length_nil, List.length_append, List.length_take, List.length_reverse] <;> omega) | (subst_vars; (simp only [List.length_cons, List.length_nil, List.length_append, List.length_take, List.length_reverse] <;> omega)))
  k_with "mine tsub" => (first | exact Mine.TSub.nil | exact Mine.TSub.sub (fun _ h => h) | (refine Mine.TSub.keep (by k_mem) ?_; walk_at "mine tsub") | (refine Mine.TSub.skip (by k_cls) ?_; walk_at "mine tsub") | exact Mine.TSub.sub (by kcj_all))
  k_with "mine drop" => (first | (refine' Mine.DropAt.head ?a; (case a => k_all)) | (refine' Mine.DropAt.tail ?a ?b; (case a => k_ne); (case b => walk_at "mine drop")))
  k_with "UnrEnd" => ((refine' Mine.unrEnd_drop ?k1 ?k2 ?k3 ?_; (case k1 => k_asm); (case k2 => k_asm); (case k3 => walk_at "mine drop")))
  k_with "mine sub" => (first | exact fun _ h => h | assumption | exact Mine.subNil | (refine' Mine.subCons ?u1 ?u2; (case u1 => k_mem); (case u2 => walk_at "mine sub")) | (refine Mine.subTail ?_; walk_at "mine sub"))
  k_with "subscriptTail Name Name ref int" => ((k_here; k_dflt (refine' Mine.item_L ?k0 ?k1 ?k2 ?k3 ?k4 ?_; (case k0 => k_asm); (case k1 => k_mem); (case k2 => first | decide | omega); (case k3 => first | decide | omega); (case k4 => first | assumption | rfl); k_whole)))
  k_with "compareOp In int ref" => ((k_here; k_dflt (refine' Mine.in_L ?k0 ?k1 ?k2 ?k3 ?_; (case k0 => k_asm); (case k1 => k_mem); (case k2 => first | assumption | exact .cons _ _ (.cons _ _ .nil)); (case k3 => ke_room); k_whole)))
  k_with "compareOp NotIn int ref" => ((k_here; k_dflt (refine' Mine.notIn_L ?k0 ?k1 ?k2 ?k3 ?_; (case k0 => k_asm); (case k1 => k_mem); (case k2 => assumption); (case k3 => ke_room); k_whole)))
  k_with "compareOp Eq ref ref" => ((k_here; k_dflt (refine' Mine.eqL ?k0 ?k1 ?k2 ?k3 ?k4 ?k5 ?_; (case k0 => k_asm); (case k1 => k_mem); (case k2 => k_mem); (case k3 => assumption); (case k4 => first | assumption | exact .nil); (case k5 => ke_room); k_whole)))
  k_with "compareOp NotEq ref ref" => ((k_here; k_dflt (refine' Mine.neL ?k0 ?k1 ?k2 ?k3 ?k4 ?k5 ?_; (case k0 => k_asm); (case k1 => k_mem); (case k2 => k_mem); (case k3 => assumption); (case k4 => first | assumption | exact .nil); (case k5 => ke_room); k_whole)))
  k_with "mine use" => (((case k1 => k_asm); (case k2 => k_asm); (case k3 => k_asm); (case k4 => k_asm); (case k5 => k_asm); (case kd => first | exact Nat.le_of_ble_eq_true rfl | decide); (case ku => first | exact Nat.le_of_ble_eq_true rfl | decide)))
  k_with "zz one" => (k_extra "mine zz")
  k_with "zz two" => (k_extra "mine zz")
  k_with "zz three" => (k_extra "mine zz")
  k_with "compareOp NotEq ref ref" => (k_extra "mine ne")
  k_with "compareOp Eq ref ref" => (k_extra "mine eq")
  k_with "subscriptTail Name Name ref int" => (k_extra "mine wi")
  k_with "mine sub2" => (first | exact fun _ h => h | assumption | (refine Mine.subTail ?_; walk_at "mine sub2"))
  k_with "exec Assign cons ListComp" => (k_extra "mine asg")
  w_top off
  k_with "mine comp" => (refine Mine.Hold.intro ?_)
  k_go0
  (all_goals try k_fold)
  k_steps
  unfold Hold
  rename_i hDx hx FL w1 w0 c1 c0 NL XL
  replace FL := frCast FL (bindL_of rfl rfl)
  replace c1 : w1.data = Data.cell none := c1.trans (congrArg Data.cell (bindC_of rfl rfl))
  replace c0 : w0.data = Data.cell none := c0.trans (congrArg Data.cell (bindC_of rfl rfl))
  clear XL
  (try clear hx)
  (try clear hDx)
  refine withOwn (env := envOfC _ _ _ _ _) (by passes_own) ?_
  intro hPO
  clear_value ek
  refine' SpecH.use (numbers_spec _ _ _ _ ?hI ?hb _) ?k1 ?k2 ?k3 ?k4 ?k5 ?kd ?ku ?hH ?_
  walk_at "mine use"
  case hI => assumption
  case hb => omega
  case hH => assumption
  intro rU nU hU tkU FU NU RU
  obtain ⟨lU, vU, cU, numsU, eU, eU', aU, iU, zU⟩ := RU
  obtain ⟨n0, n1, t0, t1, eV⟩ := ints_two iU zU
  subst eU eU' eV
  clear iU
  have aU2 := ltOf aU
  k_lt aU2
  (try dsimp only)
  k_steps
  unfold Hold
  refine' Spec.use (pairs_spec _ _ _ _) ?k1 ?k2 ?k3 ?k4 ?k5 ?kd ?ku ?_
  walk_at "mine use"
  intro rP nP hP tkP FP NP RP
  obtain ⟨lp, ps, np, tups, es, lo, rfl, rfl, oP, gP, hgt, hPI, hes⟩ := RP
  replace hPI := hPI.out fun a xs h => no_tup3 c1 c0 h
  replace NP := newsCell NP
  obtain ⟨x1, x2, x3, x4, x5, x6⟩ := pairsFacts oP gP hgt
  clear oP gP hgt aU
  k_steps
  unfold Hold
  refine' Spec.use (table_spec _ lp np ps es _ _ _ ?h1 (hPI.mono ?h2) hes) ?k1 ?k2 ?k3 ?k4 ?k5 ?kd ?ku ?_
  walk_at "mine use"
  case h1 => k_mem
  case h2 => walk_at "mine sub2"
  intro rT nT hT tkT FT NT RT
  obtain ⟨tT, dT, lT, hsT, ktT, vsT, n1T, n3T, tups2, kvs, rfl, rfl, HT, hlow, hvl, gT, lT1, lT2, hgT⟩ := RT
  replace HT := HT.mono' (tabTups c1 c0)
  replace hPI := hPI.mono (G' := tups2 ++ tups) fun p hp => List.mem_append_right _ hp
  obtain ⟨⟨y1, y2, y3⟩, ⟨y4, y5, y6⟩, ⟨y7, y8, y9, y10, y11, y12⟩, z1, z2, z3, q1, q2, q3, q4⟩ := tabFacts gT lT1 lT2 hgT x5 x6
  replace NT := newsTab NT
  clear gT hgT x4 x5 x6
  generalize tups2 ++ tups = Gt at NT HT hPI z1 z2 z3
  k_steps
  unfold Hold
  rename (_ = Data.cell (some (Value.ref tT))) => cT'
  rename World => ww
  rename Shared => s1
  rename Obj => oTb
  refine ListComp_S (_F₀ := by k_asm) (by with_unfolding_all rfl) (by decide) (by rfl) (by decide) (by rfl) ?_
  k_steps
  unfold Hold
  refine SrcS.intro (by decide +kernel) (by rw [abcde_size]; decide) rfl (by k_asm) (by k_asm) ?_
  intro g
  rw [abcde_size]
  refine restU_grow (fun Gr => _ :: _ :: _ :: _ :: _ :: _ :: _ :: Gr) (RecJ ww Gt _ lT (G.arcs es)) 5 (G₀ := Gt) ⟨fun _ h => h, fun p hp => ⟨z1 p hp, z3 p hp⟩, rfl, fun j v hv => by simp at hv⟩ ?_ ?_
  · rintro i ys Gr v Ia oI C oC D m₂ h tk E' hi hJ ⟨c, u, hcs, rfl⟩ hC hx' F' N' off ne
    (try dsimp only at N')
    (try dsimp only at off)
    have hJ1 := hJ.1
    obtain ⟨x, hx⟩ : ∃ x, x = one i := ⟨_, rfl⟩
    rw [sign5 hi hcs, ← hx] at hx'
    have hlx : Letter x := by rw [hx]; exact letter_one (by omega)
    k_steps
    unfold Hold
    refine' Spec.use (getall_spec ww tT dT lT hsT ktT n1T n3T vsT kvs (Txt.upper x) _ (Letter.upper hlx) _ ?hH ?h1 ?h2 ?h3 (by omega)) ?k1 ?k2 ?k3 ?k4 ?k5 ?kd ?ku ?_
    walk_at "mine use"
    case h1 => k_mem
    case h2 => k_mem
    case h3 => k_mem
    case hH => exact (HT.mono hJ1).mono (by walk_at "mine sub2")
    intro rA nA hA tkA FA NA RA
    obtain ⟨lA, usA, kA, rfl, rfl, oA, SA, zA⟩ := RA
    rw [hx, lowup hi, fr_low hlow] at SA
    k_steps
    unfold Hold
    refine' Spec.use (record_spec ww lA kA usA _ _ ?h1 SA (by omega)) ?k1 ?k2 ?k3 ?k4 ?k5 ?kd ?ku ?_
    walk_at "mine use"
    case h1 => k_mem
    intro rR nR hR tkR FR NR RR
    obtain ⟨xR, dR, uR, vR, aR, bR, cR, fR, kR, rfl, rfl, lR1, lR2, lR3, lR4⟩ := RR
    (try dsimp only)
    exact endRec FR NR off hJ SA (by omega) lR1 lR1.2.2.2.2.1 lR1.2.2.2.2.2.2.2.2.2.1 lR2 lR3 lR4
  · intro ys Gr hJ
    dsimp only
    k_steps
    unfold Hold
    obtain ⟨eN, eW, eT⟩ := ok_of hes
    refine' Spec.use (nested_spec ww _ _ ys (G.arcs es) _ ?h1 ?hr) ?k1 ?k2 ?k3 ?k4 ?k5 ?kd ?ku ?_
    walk_at "mine use"
    case h1 => k_mem
    case hr =>
      intro i hi
      have hl := hJ.2.2.1
      refine ⟨ys[i], List.getElem?_eq_getElem (by omega), (hJ.2.2.2 i _ (List.getElem?_eq_getElem (by omega))).mono (by walk_at "mine sub2")⟩
    intro rN nN hN tkN FN NN RN
    obtain ⟨rfl, rfl⟩ := RN
    rw [eN]
    clear eN
    (try dsimp only)
    k_steps
    unfold Hold
    have hGW : ∀ p ∈ Gr, p.1 ≠ s1.heap.objs.size + 1 + 1 := fun p hp => (hJ.2.1 p hp).1
    have hGl : Off lT Gr := fun p hp => (hJ.2.1 p hp).2
    refine' Spec.use (weights_spec ww tT dT lT hsT ktT n1T n3T vsT kvs (G.arcs es) ((lp, listOf ps.toArray np) :: (lU, listOf #[Value.int n0 t0, Value.int n1 t1] cU) :: (s1.heap.objs.size + 1 + 1, w1) :: (s1.heap.objs.size + 1, oTb) :: Gr) ?hH hlow ?ho y11 y12 hvl) ?k1 ?k2 ?k3 ?k4 ?k5 ?kd ?ku ?_
    case k4 => exact cb_drop (by k_asm) (by walk_at "mine sub")
    case k1 => k_asm
    case k2 => k_asm
    case k3 => k_asm
    case k5 => k_asm
    case kd => exact Nat.le_of_ble_eq_true rfl
    case ku => exact Nat.le_of_ble_eq_true rfl
    case hH => exact (HT.mono hJ.1).mono (by walk_at "mine sub2")
    case ho => exact List.forall_mem_cons.mpr ⟨y7, List.forall_mem_cons.mpr ⟨y8, List.forall_mem_cons.mpr ⟨y9, List.forall_mem_cons.mpr ⟨y10, hGl⟩⟩⟩⟩
    intro rW nW hW tkW FW NW RW
    obtain ⟨lw, us, nw, rfl, rfl, ow, hIW⟩ := RW
    have e1 : NeA lp lw := ow _ (.head _)
    have e2 : NeA lU lw := ow _ (.tail _ (.head _))
    have e3 : NeA (s1.heap.objs.size + 1 + 1) lw := ow _ (.tail _ (.tail _ (.head _)))
    have e4 : NeA (s1.heap.objs.size + 1) lw := ow _ (.tail _ (.tail _ (.tail _ (.head _))))
    (try dsimp only)
    k_steps
    unfold Hold
    rename Obj => oWb
    rename (_ = Data.cell (some (Value.ref lw))) => cWb
    have hPG := hPI.mono hJ.1
    have hps : ps.length ≤ 10 := by rw [hPI.length]; exact hes.length_le
    refine' Spec.use (alike_spec ww lp np ps es _ ?h1 (hPG.mono ?h2) hps) ?k1 ?k2 ?k3 ?k4 ?k5 ?kd ?ku ?_
    walk_at "mine use"
    case h1 => k_mem
    case h2 => walk_at "mine sub2"
    intro rL nL hL tkL FL9 NL9 RL
    obtain ⟨rfl, rfl⟩ := RL
    (try dsimp only)
    k_with "mine ne" => (refine Mine.Hold.intro ?_)
    k_with "mine asg" => (refine Mine.Hold.intro ?_)
    k_steps
    unfold Hold
    refine neL (by k_asm) (by k_mem) (by k_mem) hIW .nil (by ke_room) ?_
    rw [eW]
    k_steps
    unfold Hold
    refine neBool2_L (by k_asm) (by k_mem) (by k_mem) rfl rfl (by ke_room) ?_
    k_steps
    unfold Hold
    have hwl := weights_len (G.arcs es)
    generalize G.weights (G.arcs es) = W at hIW eT hwl
    clear eW hJ
    refine Assign_ListComp_2 (F₀ := by k_asm) (hLe := rfl) (by with_unfolding_all rfl) (by with_unfolding_all rfl) (by decide) (by rfl) (by decide) (by rfl) (by rfl) (by decide) (by rfl) (by rfl) ?_
    k_steps
    unfold Hold
    refine SrcOut.intro 5 (fun i => (i : Int) + 1) (fun i => 4 - i) (fun i => ToldJ ((lw, listOf us.toArray nw) :: (lp, listOf ps.toArray np) :: (s1.heap.objs.size + 1 + 1, oWb) :: Gr) ((rows i).filter (toldF W))) (fun i j => ToldJ ((lw, listOf us.toArray nw) :: (lp, listOf ps.toArray np) :: (s1.heap.objs.size + 1 + 1, oWb) :: Gr) ((rows i ++ rowTo i j).filter (toldF W))) rfl (by k_asm) (cb_drop (by k_asm) (by walk_at "mine sub")) (by assumption) (by decide) (by rfl) ⟨fun _ h => h, .nil⟩ ?_
    intro g2
    refine ⟨?_, ?_, ?_, ?_, ?_, ?_⟩
    · intro i ys Gq t I oI C oC D m₂ h tk E' hi hJ hC hx F' N' off ne
      k_steps
      unfold Hold
      exact SrcIn.intro (by assumption) (rng_small i hi) (rng_size i hi) (by k_asm) (by k_asm) (fun _ h => h)
    · intro i ys Gq hi hJ
      simpa [rowTo] using hJ
    · intro i j ys Gq t t' I oI I₂ oI₂ C oC D m₂ h tk E' hi hj hJ hC hx hy F' N' off off₂ ne
      refine wpAny_tests_one ?_
      obtain ⟨ne1, ne2⟩ := ne
      obtain ⟨hB, hQ⟩ := hJ
      have b1 := hB _ (.head _)
      have b2 := hB _ (.tail _ (.tail _ (.head _)))
      k_with_none
      k_with "getMethod ref" => ((k_here; (with_reducible show wpAny _ _ (getMethod (Value.ref _) (Str.ofString "search") _) _ _ _); k_dflt (refine' Mine.meth_search ?k1 ?k2 ?k3 ?k4 ?k5 ?_; (case k1 => k_asm); (case k2 => k_asm); (case k3 => k_is); (case k4 => rfl); (case k5 => rfl); k_whole)))
      k_with "call builtin:re.Pattern.search" => ((k_here; k_dflt (refine' Mine.call_search ?k1 ?k2 ?k3 ?k4 ?k5 ?_; (case k1 => k_asm); (case k2 => k_asm); (case k3 => k_is); (case k4 => rfl); (case k5 => first | with_reducible exact Mine.srchN _ _ _ (by assumption) | with_reducible exact Mine.srchV _ _ _ (by assumption)); k_whole)))
      k_with "mine use" => (((case k1 => k_asm); (case k2 => k_asm); (case k3 => k_asm); (case k4 => k_asm); (case k5 => k_asm); (case kd => exact Nat.le_of_ble_eq_true rfl); (case ku => exact Nat.le_of_ble_eq_true rfl)))
      k_with "mine lt" => ((walk_at "mine and"; first | omega | assumption | exact allLt_of (by assumption) | exact Mine.ltUp (by omega) (by assumption) | exact Mine.ltUp (by omega) (allLt_of (by assumption))))
      k_with "mine letter" => (first | assumption | exact Mine.Letter.lower (by assumption) | exact Mine.Letter.upper (by assumption) | exact Mine.Letter.lower (Mine.Letter.upper (by assumption)))
      k_with "call builtin:str.lower" => ((k_here; k_dflt (refine Mine.lower_L (by walk_at "mine letter") ?_)))
      k_with "call builtin:str.upper" => ((k_here; k_dflt (refine Mine.upper_L (by walk_at "mine letter") ?_)))
      k_with "eval ListComp" => (k_extra "mine comp")
      k_with "CompRestT" => (k_extra "mine restT")
      k_with "CompRest" => (k_extra "mine rest")
      k_with "exec For Tuple Attribute cons nil" => (k_extra "mine for")
      k_with "exec For Tuple Name cons nil" => (k_extra "mine for")
      k_with "exec While Compare cons nil" => (k_extra "mine while")
      k_with "delItem ref" => ((k_here; k_dflt (refine' Mine.own_delItem ?F ?X ?I ?hQ ?hS ?hF ?_; (case F => k_asm); (case X => k_asm); (case I => k_inst); (case hS => k_is); (case hF => k_is); (case hQ => k_is); k_whole)))
      k_with "mine hdrs" => (first | assumption | exact Mine.Hdrs.mono (by kcj_all) (by assumption))
      k_with "call ref" => ((k_here; k_dflt (refine' Mine.Spec.use (Mine.ent_spec _ _) ?k1 ?k2 ?k3 ?k4 ?k5 ?kd ?ku ?_; walk_at "mine use"; k_whole; intro rE nE hE tkE FE NE RE; obtain ⟨xE, dE, uE, vE, aE, bE, cE, fE, eE, eE', lE, mE, oE, pE⟩ := RE; subst eE eE'; (try (replace lE := Mine.ltOf lE; k_lt lE)); (try dsimp only); (try k_sweep); (try k_fold))))
      k_with "call ref" => ((k_here; k_dflt (refine' Mine.Spec.use (Mine.merge_spec _ _ _ _ _ _ _ _ _ _ _ _ _ _ _ _ _ _ _ _ _ _ _ _ _ _ _ _ _ _ ?h1 ?h2 ?h3 ?h4 ?g1 ?g2 ?g3 ?g4 ?y1 ?y2 ?z1 ?z2 ?z3 ?z4) ?k1 ?k2 ?k3 ?k4 ?k5 ?kd ?ku ?_; walk_at "mine use"; (case h1 => k_mem); (case h2 => k_mem); (case h3 => k_mem); (case h4 => k_mem); (case g1 => k_mem); (case g2 => k_mem); (case g3 => k_mem); (case g4 => k_mem); (case y1 => walk_at "mine strs"); (case y2 => walk_at "mine strs"); (case z1 => walk_at "mine len"); (case z2 => walk_at "mine len"); (case z3 => walk_at "mine len"); (case z4 => walk_at "mine len"); k_whole; intro rM nM hM tkM FM NM RM; obtain ⟨xM, dM, uM, vM, sM, aM, bM, cM, fM, gM, iM, jM, eM, eM', SM, zM, lM, mM, oM, pM⟩ := RM; subst eM eM'; (try (replace lM := Mine.ltOf lM; k_lt lM)); (try dsimp only); (try k_sweep); (try k_fold))))
      k_with "mine strs" => (first | assumption | exact StrsAre.nil | (refine StrsAre.cons _ _ ?_; walk_at "mine strs"))
      k_with "mine len" => (first | assumption | omega | (simp only [List.length_cons, List.length_nil, List.length_append]; omega))
      k_with "mine hdrs" => (first | assumption | (refine Mine.Hdrs.mono ?hs9 (by assumption); kcj_all))
      k_with "subscriptTail Name Constant ref int" => (k_extra "mine item")
      k_with "subscriptTail Attribute Name Constant ref int" => (k_extra "mine item")
      k_with "mine len" => ((simp only [List.length_cons, List.length_nil, List.length_append, List.length_take, List.length_reverse]; omega))
      k_with "call ref" => ((k_here; k_dflt (refine' Mine.Spec.use (Mine.new_spec _ _) ?k1 ?k2 ?k3 ?k4 ?k5 ?kd ?ku ?_; walk_at "mine use"; k_whole; intro rN nN hN tkN FN NN RN; obtain ⟨tN, dN, lN, aN, bN, eN, eN', uN, vN, wN⟩ := RN; subst eN eN'; (try (replace uN := Mine.ltOf uN; k_lt uN)); (try dsimp only); (try k_sweep); (try k_fold))))
      k_with "mine letter" => ((show _ ∈ Mine.letters; decide +kernel))
      k_with "mine hdrs" => (exact Mine.Hdrs.nil)
      k_with "mine len" => (first | assumption | omega | (simp only [List.length_cons, List.length_nil, List.length_append, List.length_take, List.length_reverse] <;> omega) | (subst_vars; (simp only [List.length_cons, List.length_nil, List.length_append, List.length_take, List.length_reverse] <;> omega)))
      k_with "mine tsub" => (first | exact Mine.TSub.nil | exact Mine.TSub.sub (fun _ h => h) | (refine Mine.TSub.keep (by k_mem) ?_; walk_at "mine tsub") | (refine Mine.TSub.skip (by k_cls) ?_; walk_at "mine tsub") | exact Mine.TSub.sub (by kcj_all))
      k_with "mine drop" => (first | (refine' Mine.DropAt.head ?a; (case a => k_all)) | (refine' Mine.DropAt.tail ?a ?b; (case a => k_ne); (case b => walk_at "mine drop")))
      k_with "UnrEnd" => ((refine' Mine.unrEnd_drop ?k1 ?k2 ?k3 ?_; (case k1 => k_asm); (case k2 => k_asm); (case k3 => walk_at "mine drop")))
      k_with "mine sub" => (first | exact fun _ h => h | assumption | exact Mine.subNil | (refine' Mine.subCons ?u1 ?u2; (case u1 => k_mem); (case u2 => walk_at "mine sub")) | (refine Mine.subTail ?_; walk_at "mine sub"))
      k_with "subscriptTail Name Name ref int" => ((k_here; k_dflt (refine' Mine.item_L ?k0 ?k1 ?k2 ?k3 ?k4 ?_; (case k0 => k_asm); (case k1 => k_mem); (case k2 => first | decide | omega); (case k3 => first | decide | omega); (case k4 => first | assumption | rfl); k_whole)))
      k_with "compareOp In int ref" => ((k_here; k_dflt (refine' Mine.in_L ?k0 ?k1 ?k2 ?k3 ?_; (case k0 => k_asm); (case k1 => k_mem); (case k2 => first | assumption | exact .cons _ _ (.cons _ _ .nil)); (case k3 => ke_room); k_whole)))
      k_with "compareOp NotIn int ref" => ((k_here; k_dflt (refine' Mine.notIn_L ?k0 ?k1 ?k2 ?k3 ?_; (case k0 => k_asm); (case k1 => k_mem); (case k2 => assumption); (case k3 => ke_room); k_whole)))
      k_with "compareOp Eq ref ref" => ((k_here; k_dflt (refine' Mine.eqL ?k0 ?k1 ?k2 ?k3 ?k4 ?k5 ?_; (case k0 => k_asm); (case k1 => k_mem); (case k2 => k_mem); (case k3 => assumption); (case k4 => first | assumption | exact .nil); (case k5 => ke_room); k_whole)))
      k_with "compareOp NotEq ref ref" => ((k_here; k_dflt (refine' Mine.neL ?k0 ?k1 ?k2 ?k3 ?k4 ?k5 ?_; (case k0 => k_asm); (case k1 => k_mem); (case k2 => k_mem); (case k3 => assumption); (case k4 => first | assumption | exact .nil); (case k5 => ke_room); k_whole)))
      k_with "mine use" => (((case k1 => k_asm); (case k2 => k_asm); (case k3 => k_asm); (case k4 => k_asm); (case k5 => k_asm); (case kd => first | exact Nat.le_of_ble_eq_true rfl | decide); (case ku => first | exact Nat.le_of_ble_eq_true rfl | decide)))
      k_with "zz one" => (k_extra "mine zz")
      k_with "zz two" => (k_extra "mine zz")
      k_with "zz three" => (k_extra "mine zz")
      k_with "compareOp NotEq ref ref" => (k_extra "mine ne")
      k_with "compareOp Eq ref ref" => (k_extra "mine eq")
      k_with "subscriptTail Name Name ref int" => (k_extra "mine wi")
      k_with "mine sub2" => (first | exact fun _ h => h | assumption | (refine Mine.subTail ?_; walk_at "mine sub2"))
      k_with "exec Assign cons ListComp" => (k_extra "mine asg")
      k_with "mine wi" => (refine Mine.Hold.intro ?_)
      k_steps
      · unfold Hold
        rename (decide (W = []) = true) => hc
        refine InEnd.intro (by k_asm) (by k_asm) Gq (by walk_at "mine sub") off off₂ ⟨hB, ?_⟩
        rw [filt_row, if_neg (told_nil hc), List.append_nil]
        exact hQ
      · unfold Hold
        rename (decide (W = []) = false) => hc
        have hl5 : W.length = 5 := hwl.resolve_left (of_decide_eq_false hc)
        obtain ⟨ti, gi⟩ := w_get hIW hl5 (k := i) hi rfl
        obtain ⟨tj, gj⟩ := w_get hIW hl5 (k := i + 1 + j) (by omega) (z := (i : Int) + 1 + (j : Int)) (by omega)
        refine item_L (by k_asm) (by k_mem) (Int.natCast_nonneg _) (i_sm hi) gi ?_
        k_steps
        unfold Hold
        refine item_L (by k_asm) (by k_mem) (ij_nn i j) (ij_sm hi hj) gj ?_
        k_steps
        · unfold Hold
          rename (_ > _) => hp
          rename (_ < _ ∧ I < _ ∧ _) => lD
          obtain ⟨_, r1, r2, r3, r4, r5⟩ := lD
          refine InEnd.intro (by k_asm) (by k_asm) ((_, tupOf #[.int (i : Int) t, .int ((i : Int) + 1 + (j : Int)) t']) :: Gq) ?_ (off3_cons off ⟨Nat.ne_of_gt r1, Nat.ne_of_gt r3, Nat.ne_of_gt r4⟩) (off3_cons off₂ ⟨Nat.ne_of_gt r2, Nat.ne_of_gt r3, Nat.ne_of_gt r4⟩) ⟨fun p hp => .tail _ (hB p hp), ?_⟩
          · walk_at "mine sub"
          · rw [filt_row, if_pos (told_yes hc hp)]
            exact (hQ.mono fun p hp => .tail _ hp).snoc (p := (i, i + 1 + j)) (.head _) rfl (by dsimp only; omega)
        · unfold Hold
          rename (¬ _ > _) => hp
          refine InEnd.intro (by k_asm) (by k_asm) Gq (by walk_at "mine sub") off off₂ ⟨hB, ?_⟩
          rw [filt_row, if_neg (told_no hp), List.append_nil]
          exact hQ
    · intro i j ys Gq hi hj hJ
      rw [hJ.2.length]
      exact Nat.le_trans (List.length_filter_le _ _) (Nat.le_trans (rows_len i hi j hj) (by decide))
    · intro i ys Gq hi hJ
      exact hJ
    · intro ys2 Gq hJ
      rw [rows_all] at hJ
      have hPQ := hPG.mono (G' := Gq) fun p hp => hJ.1 p (.tail _ (.tail _ (.tail _ hp)))
      have hTQ := hJ.2
      have b1 := hJ.1 _ (.head _)
      have b2 := hJ.1 _ (.tail _ (.tail _ (.head _)))
      have b3 := hJ.1 _ (.tail _ (.head _))
      intro D9 h9 tk9 F9 N9 o9
      clear hJ
      k_with_none
      k_with "getMethod ref" => ((k_here; (with_reducible show wpAny _ _ (getMethod (Value.ref _) (Str.ofString "search") _) _ _ _); k_dflt (refine' Mine.meth_search ?k1 ?k2 ?k3 ?k4 ?k5 ?_; (case k1 => k_asm); (case k2 => k_asm); (case k3 => k_is); (case k4 => rfl); (case k5 => rfl); k_whole)))
      k_with "call builtin:re.Pattern.search" => ((k_here; k_dflt (refine' Mine.call_search ?k1 ?k2 ?k3 ?k4 ?k5 ?_; (case k1 => k_asm); (case k2 => k_asm); (case k3 => k_is); (case k4 => rfl); (case k5 => first | with_reducible exact Mine.srchN _ _ _ (by assumption) | with_reducible exact Mine.srchV _ _ _ (by assumption)); k_whole)))
      k_with "mine use" => (((case k1 => k_asm); (case k2 => k_asm); (case k3 => k_asm); (case k4 => k_asm); (case k5 => k_asm); (case kd => exact Nat.le_of_ble_eq_true rfl); (case ku => exact Nat.le_of_ble_eq_true rfl)))
      k_with "mine lt" => ((walk_at "mine and"; first | omega | assumption | exact allLt_of (by assumption) | exact Mine.ltUp (by omega) (by assumption) | exact Mine.ltUp (by omega) (allLt_of (by assumption))))
      k_with "mine letter" => (first | assumption | exact Mine.Letter.lower (by assumption) | exact Mine.Letter.upper (by assumption) | exact Mine.Letter.lower (Mine.Letter.upper (by assumption)))
      k_with "call builtin:str.lower" => ((k_here; k_dflt (refine Mine.lower_L (by walk_at "mine letter") ?_)))
      k_with "call builtin:str.upper" => ((k_here; k_dflt (refine Mine.upper_L (by walk_at "mine letter") ?_)))
      k_with "eval ListComp" => (k_extra "mine comp")
      k_with "CompRestT" => (k_extra "mine restT")
      k_with "CompRest" => (k_extra "mine rest")
      k_with "exec For Tuple Attribute cons nil" => (k_extra "mine for")
      k_with "exec For Tuple Name cons nil" => (k_extra "mine for")
      k_with "exec While Compare cons nil" => (k_extra "mine while")
      k_with "delItem ref" => ((k_here; k_dflt (refine' Mine.own_delItem ?F ?X ?I ?hQ ?hS ?hF ?_; (case F => k_asm); (case X => k_asm); (case I => k_inst); (case hS => k_is); (case hF => k_is); (case hQ => k_is); k_whole)))
      k_with "mine hdrs" => (first | assumption | exact Mine.Hdrs.mono (by kcj_all) (by assumption))
      k_with "call ref" => ((k_here; k_dflt (refine' Mine.Spec.use (Mine.ent_spec _ _) ?k1 ?k2 ?k3 ?k4 ?k5 ?kd ?ku ?_; walk_at "mine use"; k_whole; intro rE nE hE tkE FE NE RE; obtain ⟨xE, dE, uE, vE, aE, bE, cE, fE, eE, eE', lE, mE, oE, pE⟩ := RE; subst eE eE'; (try (replace lE := Mine.ltOf lE; k_lt lE)); (try dsimp only); (try k_sweep); (try k_fold))))
      k_with "call ref" => ((k_here; k_dflt (refine' Mine.Spec.use (Mine.merge_spec _ _ _ _ _ _ _ _ _ _ _ _ _ _ _ _ _ _ _ _ _ _ _ _ _ _ _ _ _ _ ?h1 ?h2 ?h3 ?h4 ?g1 ?g2 ?g3 ?g4 ?y1 ?y2 ?z1 ?z2 ?z3 ?z4) ?k1 ?k2 ?k3 ?k4 ?k5 ?kd ?ku ?_; walk_at "mine use"; (case h1 => k_mem); (case h2 => k_mem); (case h3 => k_mem); (case h4 => k_mem); (case g1 => k_mem); (case g2 => k_mem); (case g3 => k_mem); (case g4 => k_mem); (case y1 => walk_at "mine strs"); (case y2 => walk_at "mine strs"); (case z1 => walk_at "mine len"); (case z2 => walk_at "mine len"); (case z3 => walk_at "mine len"); (case z4 => walk_at "mine len"); k_whole; intro rM nM hM tkM FM NM RM; obtain ⟨xM, dM, uM, vM, sM, aM, bM, cM, fM, gM, iM, jM, eM, eM', SM, zM, lM, mM, oM, pM⟩ := RM; subst eM eM'; (try (replace lM := Mine.ltOf lM; k_lt lM)); (try dsimp only); (try k_sweep); (try k_fold))))
      k_with "mine strs" => (first | assumption | exact StrsAre.nil | (refine StrsAre.cons _ _ ?_; walk_at "mine strs"))
      k_with "mine len" => (first | assumption | omega | (simp only [List.length_cons, List.length_nil, List.length_append]; omega))
      k_with "mine hdrs" => (first | assumption | (refine Mine.Hdrs.mono ?hs9 (by assumption); kcj_all))
      k_with "subscriptTail Name Constant ref int" => (k_extra "mine item")
      k_with "subscriptTail Attribute Name Constant ref int" => (k_extra "mine item")
      k_with "mine len" => ((simp only [List.length_cons, List.length_nil, List.length_append, List.length_take, List.length_reverse]; omega))
      k_with "call ref" => ((k_here; k_dflt (refine' Mine.Spec.use (Mine.new_spec _ _) ?k1 ?k2 ?k3 ?k4 ?k5 ?kd ?ku ?_; walk_at "mine use"; k_whole; intro rN nN hN tkN FN NN RN; obtain ⟨tN, dN, lN, aN, bN, eN, eN', uN, vN, wN⟩ := RN; subst eN eN'; (try (replace uN := Mine.ltOf uN; k_lt uN)); (try dsimp only); (try k_sweep); (try k_fold))))
      k_with "mine letter" => ((show _ ∈ Mine.letters; decide +kernel))
      k_with "mine hdrs" => (exact Mine.Hdrs.nil)
      k_with "mine len" => (first | assumption | omega | (simp only [List.length_cons, List.length_nil, List.length_append, List.length_take, List.length_reverse] <;> omega) | (subst_vars; (simp only [List.length_cons, List.length_nil, List.length_append, List.length_take, List.length_reverse] <;> omega)))
      k_with "mine tsub" => (first | exact Mine.TSub.nil | exact Mine.TSub.sub (fun _ h => h) | (refine Mine.TSub.keep (by k_mem) ?_; walk_at "mine tsub") | (refine Mine.TSub.skip (by k_cls) ?_; walk_at "mine tsub") | exact Mine.TSub.sub (by kcj_all))
      k_with "mine drop" => (first | (refine' Mine.DropAt.head ?a; (case a => k_all)) | (refine' Mine.DropAt.tail ?a ?b; (case a => k_ne); (case b => walk_at "mine drop")))
      k_with "UnrEnd" => ((refine' Mine.unrEnd_drop ?k1 ?k2 ?k3 ?_; (case k1 => k_asm); (case k2 => k_asm); (case k3 => walk_at "mine drop")))
      k_with "mine sub" => (first | exact fun _ h => h | assumption | exact Mine.subNil | (refine' Mine.subCons ?u1 ?u2; (case u1 => k_mem); (case u2 => walk_at "mine sub")) | (refine Mine.subTail ?_; walk_at "mine sub"))
      k_with "subscriptTail Name Name ref int" => ((k_here; k_dflt (refine' Mine.item_L ?k0 ?k1 ?k2 ?k3 ?k4 ?_; (case k0 => k_asm); (case k1 => k_mem); (case k2 => first | decide | omega); (case k3 => first | decide | omega); (case k4 => first | assumption | rfl); k_whole)))
      k_with "compareOp In int ref" => ((k_here; k_dflt (refine' Mine.in_L ?k0 ?k1 ?k2 ?k3 ?_; (case k0 => k_asm); (case k1 => k_mem); (case k2 => first | assumption | exact .cons _ _ (.cons _ _ .nil)); (case k3 => ke_room); k_whole)))
      k_with "compareOp NotIn int ref" => ((k_here; k_dflt (refine' Mine.notIn_L ?k0 ?k1 ?k2 ?k3 ?_; (case k0 => k_asm); (case k1 => k_mem); (case k2 => assumption); (case k3 => ke_room); k_whole)))
      k_with "compareOp Eq ref ref" => ((k_here; k_dflt (refine' Mine.eqL ?k0 ?k1 ?k2 ?k3 ?k4 ?k5 ?_; (case k0 => k_asm); (case k1 => k_mem); (case k2 => k_mem); (case k3 => assumption); (case k4 => first | assumption | exact .nil); (case k5 => ke_room); k_whole)))
      k_with "compareOp NotEq ref ref" => ((k_here; k_dflt (refine' Mine.neL ?k0 ?k1 ?k2 ?k3 ?k4 ?k5 ?_; (case k0 => k_asm); (case k1 => k_mem); (case k2 => k_mem); (case k3 => assumption); (case k4 => first | assumption | exact .nil); (case k5 => ke_room); k_whole)))
      k_with "mine use" => (((case k1 => k_asm); (case k2 => k_asm); (case k3 => k_asm); (case k4 => k_asm); (case k5 => k_asm); (case kd => first | exact Nat.le_of_ble_eq_true rfl | decide); (case ku => first | exact Nat.le_of_ble_eq_true rfl | decide)))
      k_with "zz one" => (k_extra "mine zz")
      k_with "zz two" => (k_extra "mine zz")
      k_with "zz three" => (k_extra "mine zz")
      k_with "compareOp NotEq ref ref" => (k_extra "mine ne")
      k_with "compareOp Eq ref ref" => (k_extra "mine eq")
      k_with "subscriptTail Name Name ref int" => (k_extra "mine wi")
      k_with "mine sub2" => (first | exact fun _ h => h | assumption | (refine Mine.subTail ?_; walk_at "mine sub2"))
      k_with "exec Assign cons ListComp" => (k_extra "mine asg")
      k_with "mine eq" => (refine Mine.Hold.intro ?_)
      k_steps
      unfold Hold
      refine eqPairs_L (by k_asm) (by k_mem) (by k_mem) hTQ (by walk_at "mine sub2") hPQ (by walk_at "mine sub2") (by ke_room) ?_
      by_cases hW0 : W = []
      · rw [hW0] at hIW
        k_steps
        unfold Hold
        refine eqL (by k_asm) (by k_mem) (by k_mem) hIW .nil (by ke_room) ?_
        k_steps
      · rw [decide_eq_true (show allP5.filter (toldF W) = es by rw [told_eq W hW0]; exact eT.resolve_left hW0)]
        k_steps)
end Mine
theorem PySem.Challenge.cw_rl0103_02_holds : PySem.Challenge.rw_rl0103_02.Holds :=
  Mine.main_holds


