import PyProof.Rows.All
import Wide.All
import OpenK.AllK
import Wide.FinOn
import PySem.Challenge.RW_rl0103_01
open PySem PySem.W PySem.Spec PySem.Calls PyProof.Rows
set_option Elab.async false
set_option maxRecDepth 100000
set_option maxHeartbeats 8000000
set_option rowWalk.seconds 0
set_option compiler.extract_closed false

section
local macro_rules
  | `(tactic| refine $f:ident $args*) => do
    if f.getId.eraseMacroScopes == `PySem.W.holds_open && args.size > 9 && args[8]!.raw.isOfKind ``Lean.Parser.Term.syntheticHole then
      let h ← `(fun w => by kernel_rfl)
      let args := args.set! 8 h
      `(tactic| refine $f $args*)
    else Lean.Macro.throwUnsupported
open_top Mine.hd for PySem.Challenge.rw_rl0103_01
end


namespace Mine
abbrev Led := List (Addr × Obj)
noncomputable abbrev lse : List Str := looseW hd.view_39 [Str.ofString "tspecials", Str.ofString "_name_disallowed_re", Str.ofString "_value_disallowed_re", Str.ofString "_formatparam"]

/-- a tree that only looks, run on what is known of the heap -/
def readOf (look : Addr → Option Obj) {α : Type} : Sem α → Option α
  | .pure a => some a
  | .rule _ k => readOf look (k ())
  | .at _ k => readOf look (k ())
  | .load a _ k => match look a with
    | some o => readOf look (k o)
    | none => none
  | _ => none
theorem wpAny_readOf {M : Model} {A : Around} {E : Value → Shared → Prop} {s : Shared} {look : Addr → Option Obj} {α : Type} {Q : α → Shared → Prop} (hl : ∀ a o, look a = some o → s.heap.get? a = some o) :
    ∀ {t : Sem α} {r : α}, readOf look t = some r → Q r s → wpAny M A t Q E s := by
  intro t
  induction t with
  | pure a => intro r h q; injection h with h; subst h; exact fun _ _ _ => q
  | rule tag k ih => intro r h q Γ p hΓ; exact ih () h q Γ p hΓ
  | «at» pos k ih => intro r h q Γ p hΓ; exact ih () h q Γ _ hΓ
  | load a part k ih =>
    intro r h q Γ p hΓ
    simp only [readOf] at h
    split at h
    · rename_i o ho
      exact ⟨o, hl a o ho, ih o h q Γ p hΓ⟩
    · cases h
  | _ => intro r h; simp [readOf] at h

/-- a tree shown for more room holds for less -/
theorem wpAny_le {M : Model} {α : Type} {A A' : Around} {t : Sem α} {Q : α → Shared → Prop} {E : Value → Shared → Prop} {s : Shared} (h : wpAny M A' t Q E s)
    (hh : A'.handled = A.handled) (hf : A'.frames = A.frames) (hg : A'.guards = none) (hd : A.depth ≤ A'.depth) (hu : A.units ≤ A'.units) : wpAny M A t Q E s :=
  fun Γ p hΓ => h Γ p ⟨hΓ.1.trans hh.symm, Nat.le_trans hΓ.2.1 hd, fun l e => hΓ.2.2.1 l (hf ▸ e), (fun g e => by rw [hg] at e; cases e), Nat.le_trans hΓ.2.2.2.2 hu⟩

/-- what a call does: f upon vs, kw, the ledger at first news; Ret says what comes back and the ledger behind it. Up to D frames, U units deep -/
def Spec (w : World) (D U : Nat) (f : Addr) (vs : List Value) (kw : List (Str × Value)) (news : Led) (Ret : Value → Led → Prop) : Prop :=
  ∀ (cn : Str) (names : List (Str × NameKind)) (ig ic : Bool) (more : List (Str × Const)) (a : Addr) (ccd : Value) (cl : List (Str × Addr)) (outer : List Env) (A₀ : Around) (base h₀ : Heap) (L : Addr) (m : Str → Option Value)
    (mean : ExcName → Option Value) (mg mb : Str → Option Value) (s : Shared) (Q E : Value → Shared → Prop),
    Below A₀ base outer h₀ → Fr h₀ L s.heap m → (hd.heap_39 w.params).In h₀ → News h₀ L s.heap news → Top hd.view_39 lse mean mg mb h₀ →
    (∀ r news' h' tk', Fr h₀ L h' m → News h₀ L h' news' → Ret r news' → Q r { s with heap := h', toks := tk' }) →
    wpAny (model Challenge.rw_rl0103_01.row.prog w) (ktrTop D U none cn { kind := .function, names := names, isGenerator := ig, isCoroutine := ic, more := more } L a ccd cl outer) (call (.ref f) vs kw) Q E s
theorem Spec.use {w : World} {D U : Nat} {f : Addr} {vs : List Value} {kw : List (Str × Value)} {news : Led} {Ret : Value → Led → Prop} (C : Spec w D U f vs kw news Ret)
    {dp un : Nat} {gd : Option (List Code)} {cn : Str} {names : List (Str × NameKind)} {ig ic : Bool} {more : List (Str × Const)} {a : Addr} {ccd : Value} {cl : List (Str × Addr)} {outer : List Env} {A₀ : Around} {base h₀ : Heap} {L : Addr} {m : Str → Option Value}
    {mean : ExcName → Option Value} {mg mb : Str → Option Value} {s : Shared} {Q E : Value → Shared → Prop}
    (B : Below A₀ base outer h₀) (F : Fr h₀ L s.heap m) (X : (hd.heap_39 w.params).In h₀) (N : News h₀ L s.heap news) (T : Top hd.view_39 lse mean mg mb h₀) (hd : dp ≤ D) (hu : un ≤ U)
    (ret : ∀ r news' h' tk', Fr h₀ L h' m → News h₀ L h' news' → Ret r news' → Q r { s with heap := h', toks := tk' }) :
    wpAny (model Challenge.rw_rl0103_01.row.prog w) (ktrTop dp un gd cn { kind := .function, names := names, isGenerator := ig, isCoroutine := ic, more := more } L a ccd cl outer) (call (.ref f) vs kw) Q E s :=
  wpAny_le (C _ _ _ _ _ _ _ _ _ _ _ _ _ _ _ _ _ _ _ _ B F X N T ret) rfl rfl rfl hd hu

def letters : List Str := ["a", "b", "c", "d", "e", "f", "g", "A", "B", "C", "D", "E", "F", "G"].map Str.ofString
def Letter (x : Str) : Prop := x ∈ letters

theorem plainAttrs_re : PlainAttrs "re.Pattern" :=
  ⟨⟨"object.__getattribute__", by rw [typeLookup_type, builtinLookup_eq_fast]; kernel_rfl, by decide +kernel⟩, by rw [typeLookup_type, builtinLookup_eq_fast]; kernel_rfl⟩
theorem slot_re_search : Slot "re.Pattern" "search" "re.Pattern.search" :=
  .of (owner := "re.Pattern") (n := "search") (by rw [typeLookup_type, builtinLookup_eq_fast]; kernel_rfl) (by decide +kernel) (by decide +kernel) (by decide +kernel)
    (by first | exact .inl (by decide +kernel) | exact .inr (by decide +kernel)) (by rw [isSubtype_type]; kernel_rfl)
theorem type_re_search : typeOf (.builtin "re.Pattern.search") = pure (.type "method_descriptor") := by show builtinType _ = _; rw [builtinType_eq_fast]; kernel_rfl
theorem entry_re_search : entryFor table "re.Pattern.search" = some Builtin.«re.Pattern.search» := entryFor_of_tree (by kernel_rfl)
theorem args_re_search_2 (a b : Value) : argsOk "re.Pattern.search" ⟨[a, b], []⟩ := by
  unfold argsOk; kernel_rfl

structure NoHit (w : World) (a : Addr) (x : Str) (t : Tok) : Prop where
  out : readOf (fun a => (hd.heap_39 w.params).lookup a) (Builtin.«re.Pattern.search» ⟨[.ref a, .str x t], []⟩) = some (.done (.ret .none))
theorem srchN (w : World) (x : Str) (t : Tok) (hx : Letter x) : NoHit w 48 x t := by
  simp only [Letter, letters, List.map_cons, List.map_nil, List.mem_cons, List.not_mem_nil, or_false] at hx
  rcases hx with rfl | rfl | rfl | rfl | rfl | rfl | rfl | rfl | rfl | rfl | rfl | rfl | rfl | rfl <;> exact ⟨by kernel_rfl⟩
theorem srchV (w : World) (x : Str) (t : Tok) (hx : Letter x) : NoHit w 53 x t := by
  simp only [Letter, letters, List.map_cons, List.map_nil, List.mem_cons, List.not_mem_nil, or_false] at hx
  rcases hx with rfl | rfl | rfl | rfl | rfl | rfl | rfl | rfl | rfl | rfl | rfl | rfl | rfl | rfl <;> exact ⟨by kernel_rfl⟩
section
variable {prog : Program} {A : Around} {E : Value → Shared → Prop} {s : Shared} {w : World} {h₀ : Heap} {L : Addr} {m : Str → Option Value}
theorem look_in (F : Fr h₀ L s.heap m) (X : (hd.heap_39 w.params).In h₀) : ∀ a o, (hd.heap_39 w.params).lookup a = some o → s.heap.get? a = some o := fun a o e => F.keep a o (X a o e)
theorem meth_search {a : Addr} {o : Obj} {pl : Sem Bool} {Q : Value × List Value → Shared → Prop} (F : Fr h₀ L s.heap m) (X : (hd.heap_39 w.params).In h₀) (e : (hd.heap_39 w.params).lookup a = some o) (hc : o.cls = .type "re.Pattern") (hn : o.dict = none)
    (h : Q (.builtin "re.Pattern.search", [.ref a]) s) : wpAny (model prog w) A (getMethod (.ref a) (Str.ofString "search") pl) Q E s :=
  getMethod_builtin (T := "re.Pattern") ⟨o, look_in F X a o e, hc⟩ plainAttrs_re slot_re_search type_re_search (fun b eb => by injection eb with eb; subst eb; exact ⟨o, look_in F X _ _ e, hn⟩) h
theorem call_search {a : Addr} {o : Obj} {x : Str} {t : Tok} {Q : Value → Shared → Prop} (F : Fr h₀ L s.heap m) (X : (hd.heap_39 w.params).In h₀) (e : (hd.heap_39 w.params).lookup a = some o) (hc : o.cls = .type "re.Pattern")
    (hr : NoHit w a x t)
    (h : Q .none s) : wpAny (model prog w) A (call (.builtin "re.Pattern.search") [.ref a, .str x t]) Q E s :=
  wpAny_call_entry slot_re_search (T := "re.Pattern") ⟨o, look_in F X a o e, hc⟩ entry_re_search (wpAny_readOf (look_in F X) hr.out ⟨_, rfl, h⟩) (args_re_search_2 _ _)
end
/-- a goal by which the written part is called to mind -/
theorem fill : Challenge.rw_rl0103_01 = Challenge.rw_rl0103_01 ∧ hd.heap_39 = hd.heap_39 := by k_fill; exact ⟨rfl, rfl⟩
end Mine

local macro_rules | `(tactic| k_room) => `(tactic| ((try simp only [depth_mark, depth_under_make, depth_under_kw, depth_in1, depth_deeper, depth_caller]); (try dsimp only [ktrTop]); decide))
local macro_rules | `(tactic| walk_at "getMethod ref") => `(tactic| k_extra "getMethod ref")
local macro_rules | `(tactic| walk_at "call builtin:re.Pattern.search") => `(tactic| k_extra "call builtin:re.Pattern.search")

namespace Mine
/-- a goal that the walk is to leave alone -/
def Hold (P : Prop) : Prop := P
theorem Hold.intro {P : Prop} (h : Hold P) : P := h

/-- what stands behind a turn of a loop over a list of the ledger: I is the iterator, src the list -/
def TurnM (h₀ : Heap) (L : Addr) (I : Addr × Obj) (src : Addr × Obj) (J : (Str → Option Value) → Led → Prop) (s₁ : Shared) (Q : Flow → Shared → Prop) (f : Flow) (s₂ : Shared) : Prop :=
  match f with
  | .ret v => Q (.ret v) s₂
  | .brk => Q .next s₂
  | _ => ∃ h' tk m' news', s₂ = { s₁ with heap := h', toks := tk } ∧ Fr h₀ L h' m' ∧ News h₀ L h' (I :: news') ∧ (∀ p ∈ news', p.1 ≠ I.1) ∧ src ∈ news' ∧ J m' news'
theorem TurnM.next {h₀ : Heap} {L : Addr} {I src : Addr × Obj} {J : (Str → Option Value) → Led → Prop} {s₁ : Shared} {Q : Flow → Shared → Prop} {h' : Heap} {tk : Nat} {m' : Str → Option Value} {all : Led} (news' : Led) (F : Fr h₀ L h' m') (N : News h₀ L h' all)
    (hs : ∀ p ∈ I :: news', p ∈ all) (hI : ∀ p ∈ news', p.1 ≠ I.1) (hm : src ∈ news') (hJ : J m' news') : TurnM h₀ L I src J s₁ Q .next { s₁ with heap := h', toks := tk } :=
  ⟨h', tk, m', news', rfl, F, fun p hp => N p (hs p hp), hI, hm, hJ⟩

section
variable {prog : Program} {w : World} {A : Around} {E : Value → Shared → Prop} {s : Shared} {env : Env} {h₀ : Heap} {target : Expr} {body : List Stmt} {Q : Flow → Shared → Prop}
theorem iter_list {l : Addr} {its : List Value} {n : Nat} {m₀ : Str → Option Value} {news : Led} (J : Nat → (Str → Option Value) → Led → Prop)
    (hh : A.handled = none) (F : Fr h₀ env.locals s.heap m₀) (N : News h₀ env.locals s.heap news) (hl : (l, listOf its.toArray n) ∈ news) (h0 : J 0 m₀ news)
    (turn : ∀ i v m₁ news₁ h tk I oI, its[i]? = some v → J i m₁ news₁ → (∀ p ∈ news₁, p.1 ≠ I) → (l, listOf its.toArray n) ∈ news₁ → Fr h₀ env.locals h m₁ → News h₀ env.locals h ((I, oI) :: news₁) →
      wpAny (model prog w) A (assign target env v) (fun _ s₃ => wpAny (model prog w) A (execs body env) (TurnM h₀ env.locals (I, oI) (l, listOf its.toArray n) (J (i + 1)) { s with heap := h, toks := tk } Q) E s₃) E { s with heap := h, toks := tk })
    (done : ∀ m₁ news₁ h tk, J its.length m₁ news₁ → Fr h₀ env.locals h m₁ → News h₀ env.locals h news₁ → Q .next { s with heap := h, toks := tk }) :
    wpAny (model prog w) A (pyIter (.ref l)) (fun it s₂ => TurnsAt prog w A h₀ env target body Q E it s₂) E s := by
  have hls : s.heap.IsList l its.toArray := ⟨_, (N _ hl).1, rfl, _, rfl⟩
  have hlt : l < s.heap.objs.size := Heap.lt_size (N _ hl).1
  have hne : l ≠ s.heap.objs.size := Nat.ne_of_lt hlt
  have hl₀ : h₀.get? l = none := (N _ hl).2.2
  refine wpAny_pyIter_list hls ?_
  have W := KTurns.ofWalks (target := target) (Walks.list (prog := prog) (w := w) hh s.heap.objs.size l hne its.toArray) fun i v s Q E st q => letGo_listiter st.1 q
  refine ⟨_, _, _, _, _, _, _, m₀, news, fun i m₁ news₁ => (l, listOf its.toArray n) ∈ news₁ ∧ J i m₁ news₁, rfl, W, ?_, ?_, ?_, ⟨⟨_, Heap.get?_push_size _ rfl, rfl, rfl⟩, hls.at fun o e => Heap.get?_push_of_some _ e⟩, F.push _, (fun p hp => ⟨Heap.get?_push_of_some _ (N p hp).1, (N p hp).2⟩), ⟨hl, h0⟩, ?_, ?_⟩
  · intro hm
    rcases List.mem_cons.mp hm with e | hm
    · exact absurd F.ns.lt (e ▸ Nat.lt_irrefl _)
    · exact (N _ hl).2.1 (List.mem_singleton.mp hm).symm
  · intro b hb
    rw [List.mem_singleton.mp hb]
    exact next_is_new F
  · intro p hp hI
    exact absurd (Heap.lt_size (N p hp).1) ((List.mem_singleton.mp hI) ▸ Nat.lt_irrefl _)
  · intro i v m₁ news₁ h₁ tk₁ own hi hP hJ hnw hown hownget hownall hst F₁ N₁
    obtain ⟨⟨oI, hoI, _⟩, hL⟩ := hst
    have hI₀ : h₀.get? s.heap.objs.size = none := next_is_new F
    have mI : (s.heap.objs.size, oI) ∈ own := hownall _ (by simp) hI₀ _ hoI
    have hv : its[i]? = some v := by simpa using hP
    have gl : h₁.get? l = some (listOf its.toArray n) := (N₁ _ (List.mem_append_right _ hJ.1)).1
    have own2 : ∀ p ∈ own, p = (s.heap.objs.size, oI) ∨ p = (l, listOf its.toArray n) := by
      intro p hp
      have g := hownget p hp
      rcases List.mem_cons.mp (hown p hp) with h1 | h1
      · left; rw [h1, hoI] at g; exact Prod.ext h1 (Option.some.inj g).symm
      · right
        have h2 := List.mem_singleton.mp h1
        rw [h2, gl] at g; exact Prod.ext h2 (Option.some.inj g).symm
    have off : ∀ p ∈ news₁, p.1 ≠ s.heap.objs.size := fun p hp e => hnw p hp (by simp [e])
    have N₂ : News h₀ env.locals h₁ ((s.heap.objs.size, oI) :: news₁) := fun p hp => by
      rcases List.mem_cons.mp hp with rfl | hp
      · exact N₁ _ (List.mem_append_left _ mI)
      · exact N₁ _ (List.mem_append_right _ hp)
    have fin : ∀ s₄ : Shared, (∃ h' tk m' news', s₄ = { s with heap := h', toks := tk } ∧ Fr h₀ env.locals h' m' ∧ News h₀ env.locals h' ((s.heap.objs.size, oI) :: news') ∧ (∀ p ∈ news', p.1 ≠ s.heap.objs.size) ∧ (l, listOf its.toArray n) ∈ news' ∧ J (i + 1) m' news') →
        LoopStepU h₀ env.locals [s.heap.objs.size] own (fun m₁ news₁ => (l, listOf its.toArray n) ∈ news₁ ∧ J (i + 1) m₁ news₁) { s with heap := h₁, toks := tk₁ } .next s₄ := by
      rintro s₄ ⟨h', tk, m', news', rfl, F', N', o', sm, j'⟩
      refine ⟨rfl, h', tk, m', news', rfl, F', fun p hp => ?_, fun p hp hq => o' p hp (by simpa using hq), sm, j'⟩
      rcases List.mem_append.mp hp with hp | hp
      · rcases own2 p hp with rfl | rfl
        · exact N' _ List.mem_cons_self
        · exact N' _ (List.mem_cons_of_mem _ sm)
      · exact N' _ (List.mem_cons_of_mem _ hp)
    refine wpAny_mono (turn i v m₁ news₁ h₁ tk₁ s.heap.objs.size oI hv hJ.2 off hJ.1 F₁ N₂) (fun _ s₃ h₃ => wpAny_mono h₃ (fun f s₄ h₄ => ?_) fun _ _ e => e) fun _ _ e => e
    cases f with
    | ret v => exact h₄
    | brk => exact h₄
    | next => exact LoopStepV.next (fin _ h₄)
    | cont => exact LoopStepV.cont (fin _ h₄)
  · intro h' tk m' news' F' N' hnw hJ
    have hJ' : J its.length m' news' := by simpa using hJ.2
    exact done m' news' h' tk hJ' F' N'
theorem iter_keep {l : Addr} {its : List Value} {n : Nat} {m₀ : Str → Option Value} {news : Led} (J : Nat → (Str → Option Value) → Prop)
    (hh : A.handled = none) (F : Fr h₀ env.locals s.heap m₀) (N : News h₀ env.locals s.heap news) (hl : (l, listOf its.toArray n) ∈ news) (h0 : J 0 m₀)
    (turn : ∀ i v m₁ h tk I oI, its[i]? = some v → J i m₁ → (∀ p ∈ news, p.1 ≠ I) → Fr h₀ env.locals h m₁ → News h₀ env.locals h ((I, oI) :: news) →
      wpAny (model prog w) A (assign target env v) (fun _ s₃ => wpAny (model prog w) A (execs body env) (TurnM h₀ env.locals (I, oI) (l, listOf its.toArray n) (fun m' news' => news' = news ∧ J (i + 1) m') { s with heap := h, toks := tk } Q) E s₃) E { s with heap := h, toks := tk })
    (done : ∀ m₁ h tk, J its.length m₁ → Fr h₀ env.locals h m₁ → News h₀ env.locals h news → Q .next { s with heap := h, toks := tk }) :
    wpAny (model prog w) A (pyIter (.ref l)) (fun it s₂ => TurnsAt prog w A h₀ env target body Q E it s₂) E s := by
  refine iter_list (fun i m₁ news₁ => news₁ = news ∧ J i m₁) hh F N hl ⟨rfl, h0⟩ ?_ ?_
  · rintro i v m₁ news₁ h tk I oI hv ⟨rfl, hJ⟩ hI _ F₁ N₁
    exact turn i v m₁ h tk I oI hv hJ hI F₁ N₁
  · rintro m₁ news₁ h tk ⟨rfl, hJ⟩ F₁ N₁
    exact done m₁ h tk hJ F₁ N₁
/-- a loop over a list of the ledger whose turns store the names in stored alone and leave the ledger -/
theorem iter_scan {l : Addr} {its : List Value} {n : Nat} {m₀ : Str → Option Value} {news : Led} (stored : List Str) (P : Nat → Prop)
    (hh : A.handled = none) (F : Fr h₀ env.locals s.heap m₀) (N : News h₀ env.locals s.heap news) (hl : (l, listOf its.toArray n) ∈ news) (h0 : P 0)
    (turn : ∀ i v (u : Str → Option Value) h tk I oI, its[i]? = some v → P i → (∀ p ∈ news, p.1 ≠ I) → Fr h₀ env.locals h (fun z => if stored.contains z then u z else m₀ z) → News h₀ env.locals h ((I, oI) :: news) →
      wpAny (model prog w) A (assign target env v) (fun _ s₃ => wpAny (model prog w) A (execs body env) (TurnM h₀ env.locals (I, oI) (l, listOf its.toArray n) (fun m' news' => news' = news ∧ (∀ z, stored.contains z = false → m' z = m₀ z) ∧ P (i + 1)) { s with heap := h, toks := tk } Q) E s₃) E { s with heap := h, toks := tk })
    (done : ∀ (u : Str → Option Value) h tk, P its.length → Fr h₀ env.locals h (fun z => if stored.contains z then u z else m₀ z) → News h₀ env.locals h news → Q .next { s with heap := h, toks := tk }) :
    wpAny (model prog w) A (pyIter (.ref l)) (fun it s₂ => TurnsAt prog w A h₀ env target body Q E it s₂) E s := by
  have key : ∀ m₁ : Str → Option Value, (∀ z, stored.contains z = false → m₁ z = m₀ z) → (fun z => if stored.contains z then m₁ z else m₀ z) = m₁ := fun m₁ h => by
    funext z
    cases hz : stored.contains z with
    | true => simp
    | false => simp [h z hz]
  refine iter_keep (fun i m₁ => (∀ z, stored.contains z = false → m₁ z = m₀ z) ∧ P i) hh F N hl ⟨fun _ _ => rfl, h0⟩ ?_ ?_
  · rintro i v m₁ h tk I oI hv ⟨hm, hP⟩ hI F₁ N₁
    exact turn i v m₁ h tk I oI hv hP hI (by rw [key m₁ hm]; exact F₁) N₁
  · rintro m₁ h tk ⟨hm, hP⟩ F₁ N₁
    exact done m₁ h tk hP (by rw [key m₁ hm]; exact F₁) N₁
end
/-- one address below, unlike another: at the naturals, for omega -/
abbrev LtA (a b : Nat) : Prop := @LT.lt Nat _ a b
abbrev NeA (a b : Nat) : Prop := @Ne Nat a b
theorem ltOf {d : Addr} : ∀ {l : List (Addr × Obj)}, AllLt d l → ∀ p ∈ l, @LT.lt Nat _ p.1 d
  | [], _, _, h => nomatch h
  | _ :: _, x, p, h => by
    rcases List.mem_cons.mp h with rfl | h
    · exact x.1
    · exact ltOf x.2 p h
theorem neOf {d : Addr} {l : List (Addr × Obj)} (h : AllLt d l) : ∀ p ∈ l, p.1 ≠ d := fun p hp => Nat.ne_of_lt (ltOf h p hp)
theorem ltUp {b a : Addr} (h : LtA b a) : ∀ {l : List (Addr × Obj)}, AllLt b l → AllLt a l
  | [], _ => trivial
  | _ :: _, x => ⟨Nat.lt_trans x.1 h, ltUp h x.2⟩
/-- an address is that of no object of the ledger -/
def Off (a : Addr) (news : Led) : Prop := ∀ p ∈ news, p.1 ≠ a
/-- an address above all of the ledger -/
abbrev Top' (a : Addr) (news : Led) : Prop := AllLt a news

section
variable {prog : Program} {w : World} {A : Around} {E : Value → Shared → Prop} {s : Shared} {h₀ : Heap} {L : Addr} {news : Led}
theorem glued_one (x v : Str) : Txt.join x [v] = v := rfl
theorem join_one {D : Addr} {n : Nat} {x v : Str} {t tv : Tok} {Q : Value → Shared → Prop} (N : News h₀ L s.heap news) (hm : (D, listOf #[.str v tv] n) ∈ news) (hx : x.length ≤ 1000) (hv : v.length ≤ 1000)
    (h : ∀ t' k, Q (.str v t') { s with toks := k }) : wpAny (model prog w) A (call (.builtin "str.join") [.str x t, .ref D]) Q E s :=
  join_list (ys := [v]) ⟨_, (N _ hm).1, rfl, _, rfl⟩ (StrsAre.cons _ _ .nil) (by simp; omega) h
end
section
variable {prog : Program} {w : World} {A : Around} {E : Value → Shared → Prop} {s : Shared} {h₀ : Heap} {L D : Addr} {m : Str → Option Value} {news news' : Led}
theorem append_M {vs : List Value} {n : Nat} {x : Value} {Q : Value → Shared → Prop} (F : Fr h₀ L s.heap m) (N : News h₀ L s.heap news) (hz : vs.length ≤ 1000) (U : Upd D (listOf vs.toArray n) (listOf (vs ++ [x]).toArray (n + 1)) news news')
    (h : ∀ h', Fr h₀ L h' m → News h₀ L h' news' → Q .none { s with heap := h' }) : wpAny (model prog w) A (call (.builtin "list.append") [.ref D, x]) Q E s :=
  append_K (its := vs.toArray) (n := n) F N (by rw [List.push_toArray]; exact U) h (by show vs.toArray.size ≤ sizeLine; rw [List.size_toArray]; exact Nat.le_trans hz (by decide))
end
theorem Letter.len {x : Str} (h : Letter x) : x.length = 1 := by
  simp only [Letter, letters, List.map_cons, List.map_nil, List.mem_cons, List.not_mem_nil, or_false] at h
  rcases h with rfl | rfl | rfl | rfl | rfl | rfl | rfl | rfl | rfl | rfl | rfl | rfl | rfl | rfl <;> rfl
end Mine

local macro_rules | `(tactic| k_mem) => `(tactic| assumption)
local macro_rules | `(tactic| walk_at "mine offs") => `(tactic| (intro p9 hp9; walk_at "mine and"; (repeat (with_reducible rename AllLt _ _ => hA9; first | (have hB9 := Mine.ltOf hA9 p9 hp9; clear hA9) | clear hA9)); (repeat (with_reducible rename (∀ p ∈ _, p.1 < _) => hA9; first | (have hB9 := ltN (hA9 p9 hp9); clear hA9) | clear hA9)); (refine neN ?_); (try dsimp only); omega))
local macro_rules | `(tactic| k_all) => `(tactic| first | assumption | exact Mine.neOf (by assumption) | walk_at "mine offs")
local macro_rules | `(tactic| walk_at "call builtin:list.append") => `(tactic| (k_here; (with_reducible show wpAny _ _ (call (Value.builtin _) [Value.ref _, _]) _ _ _); k_dflt (refine' Mine.append_M ?k1 ?k2 ?z ?k3 ?_; (case k1 => k_asm); (case k2 => k_asm); (case k3 => k_upd); (case z => first | assumption | omega); k_whole); intro h' F' N'; (try k_sweep)))
local macro_rules | `(tactic| walk_at "mine and") => `(tactic| (repeat (with_reducible rename _ ∧ _ => hc9; cases hc9)))
local macro_rules | `(tactic| walk_at "mine same") => `(tactic| (intro z9 h9; (simp only [List.contains_cons, List.contains_nil, Bool.or_false, Bool.or_eq_false_iff, beq_eq_false_iff_ne, ne_eq] at h9); (simp [h9]; done)))

namespace Mine
theorem conv_spec (w : World) (self : Value) (x : Str) (t : Tok) (b : Bool) (hx : Letter x) (news : Led) :
   Spec w 600 6000 83 [self, .str x t] [(Str.ofString "name", .bool b)] news (fun r news' => r = .str x t ∧ news' = news) := by
  k_with_none
  k_with "getMethod ref" => ((k_here; (with_reducible show wpAny _ _ (getMethod (Value.ref _) (Str.ofString "search") _) _ _ _); k_dflt (refine' Mine.meth_search ?k1 ?k2 ?k3 ?k4 ?k5 ?_; (case k1 => k_asm); (case k2 => k_asm); (case k3 => k_is); (case k4 => rfl); (case k5 => rfl); k_whole)))
  k_with "call builtin:re.Pattern.search" => ((k_here; k_dflt (refine' Mine.call_search ?k1 ?k2 ?k3 ?k4 ?k5 ?_; (case k1 => k_asm); (case k2 => k_asm); (case k3 => k_is); (case k4 => rfl); (case k5 => first | with_reducible exact Mine.srchN _ _ _ (by assumption) | with_reducible exact Mine.srchV _ _ _ (by assumption)); k_whole)))
  k_with "mine use" => (((case k1 => k_asm); (case k2 => k_asm); (case k3 => k_asm); (case k4 => k_asm); (case k5 => k_asm); (case kd => exact Nat.le_of_ble_eq_true rfl); (case ku => exact Nat.le_of_ble_eq_true rfl)))
  k_with "mine lt" => ((walk_at "mine and"; first | omega | assumption | exact allLt_of (by assumption) | exact Mine.ltUp (by omega) (by assumption) | exact Mine.ltUp (by omega) (allLt_of (by assumption))))
  w_top off
  have : Challenge.rw_rl0103_01 = Challenge.rw_rl0103_01 ∧ Mine.hd.heap_39 = Mine.hd.heap_39 := by k_fill; exact ⟨rfl, rfl⟩
  intro cn names ig ic more a ccd cl outer A₀ base h₀ L m mean mg mb s Q E B F X N T hret
  cases b
  all_goals (
    k_steps
    exact hret _ _ _ _ (by k_asm) (by k_asm) ⟨rfl, rfl⟩)
end Mine

local macro_rules | `(tactic| walk_at "call ref") => `(tactic| (k_here; k_dflt (refine' Mine.Spec.use (Mine.conv_spec _ _ _ _ _ ?hx _) ?k1 ?k2 ?k3 ?k4 ?k5 ?kd ?ku ?_; walk_at "mine use"; (case hx => first | assumption | (walk_at "mine letter") | decide); k_whole; intro r9 n9 h9 tk9 F9 N9 R9; obtain ⟨e9, e9'⟩ := R9; subst e9; (have e9'' := Eq.symm e9'); subst e9''; (try dsimp only); (try k_sweep); (try k_fold))))

namespace Mine
abbrev hdrDict (hv : Int) (kt : Tok) (l : Addr) (n : Nat) : Obj := dictOf [⟨hv, .str (Str.ofString "_headers") kt, .ref l⟩] n
abbrev tupOf (its : Array Value) : Obj := { cls := .type "tuple", data := .seq its }
theorem new_spec (w : World) (news : Led) :
   Spec w 500 5000 184 [] [] news (fun r news' => ∃ t d l hv kt, r = .ref t ∧ news' = (l, listOf #[] 0) :: (t, instObj 184 d) :: (d, hdrDict hv kt l 1) :: news ∧ AllLt d news ∧ LtA d t ∧ LtA t l) := by
  k_with_none
  k_with "getMethod ref" => ((k_here; (with_reducible show wpAny _ _ (getMethod (Value.ref _) (Str.ofString "search") _) _ _ _); k_dflt (refine' Mine.meth_search ?k1 ?k2 ?k3 ?k4 ?k5 ?_; (case k1 => k_asm); (case k2 => k_asm); (case k3 => k_is); (case k4 => rfl); (case k5 => rfl); k_whole)))
  k_with "call builtin:re.Pattern.search" => ((k_here; k_dflt (refine' Mine.call_search ?k1 ?k2 ?k3 ?k4 ?k5 ?_; (case k1 => k_asm); (case k2 => k_asm); (case k3 => k_is); (case k4 => rfl); (case k5 => first | with_reducible exact Mine.srchN _ _ _ (by assumption) | with_reducible exact Mine.srchV _ _ _ (by assumption)); k_whole)))
  k_with "mine use" => (((case k1 => k_asm); (case k2 => k_asm); (case k3 => k_asm); (case k4 => k_asm); (case k5 => k_asm); (case kd => exact Nat.le_of_ble_eq_true rfl); (case ku => exact Nat.le_of_ble_eq_true rfl)))
  k_with "mine lt" => ((walk_at "mine and"; first | omega | assumption | exact allLt_of (by assumption) | exact Mine.ltUp (by omega) (by assumption) | exact Mine.ltUp (by omega) (allLt_of (by assumption))))
  w_top off
  have : Challenge.rw_rl0103_01 = Challenge.rw_rl0103_01 ∧ Mine.hd.heap_39 = Mine.hd.heap_39 := by k_fill; exact ⟨rfl, rfl⟩
  intro cn names ig ic more a ccd cl outer A₀ base h₀ L m mean mg mb s Q E B F X N T hret
  k_steps
  rename_i F' N'
  refine For_turns F' ?_
  k_steps
  refine iter_keep (its := []) (fun _ m₁ => True) rfl (by k_asm) (by k_asm) (by k_mem) trivial ?_ ?_
  · intro i v m₁ h tk I oI hv; simp at hv
  · intro m₁ h tk hJ F'' N''
    k_steps
    refine hret _ _ _ _ (by k_asm) (by k_asm) ⟨_, _, _, _, _, rfl, rfl, ?_, ?_, ?_⟩ <;> walk_at "mine lt"
theorem add_spec (w : World) (t d l : Addr) (hs : Int) (kt : Tok) (n₁ n₃ : Nat) (vs : List Value) (k v : Str) (tk tv : Tok) (hk : Letter k) (hv : Letter v) (news : Led) (hlt : Off l news) (htl : NeA t l) (hdl : NeA d l) (hlen : vs.length ≤ 1000) :
   Spec w 500 5000 181 [.ref t, .str k tk, .str v tv] [] ((l, listOf vs.toArray n₃) :: (t, instObj 184 d) :: (d, hdrDict hs kt l n₁) :: news)
     (fun r news' => ∃ a n' t1 t2, r = .none ∧ news' = (l, listOf (vs ++ [Value.ref a]).toArray n') :: (t, instObj 184 d) :: (d, hdrDict hs kt l n₁) :: (a, tupOf #[.str k t1, .str v t2]) :: news ∧ LtA l a ∧ LtA t a ∧ LtA d a ∧ AllLt a news) := by
  k_with_none
  k_with "getMethod ref" => ((k_here; (with_reducible show wpAny _ _ (getMethod (Value.ref _) (Str.ofString "search") _) _ _ _); k_dflt (refine' Mine.meth_search ?k1 ?k2 ?k3 ?k4 ?k5 ?_; (case k1 => k_asm); (case k2 => k_asm); (case k3 => k_is); (case k4 => rfl); (case k5 => rfl); k_whole)))
  k_with "call builtin:re.Pattern.search" => ((k_here; k_dflt (refine' Mine.call_search ?k1 ?k2 ?k3 ?k4 ?k5 ?_; (case k1 => k_asm); (case k2 => k_asm); (case k3 => k_is); (case k4 => rfl); (case k5 => first | with_reducible exact Mine.srchN _ _ _ (by assumption) | with_reducible exact Mine.srchV _ _ _ (by assumption)); k_whole)))
  k_with "mine use" => (((case k1 => k_asm); (case k2 => k_asm); (case k3 => k_asm); (case k4 => k_asm); (case k5 => k_asm); (case kd => exact Nat.le_of_ble_eq_true rfl); (case ku => exact Nat.le_of_ble_eq_true rfl)))
  k_with "mine lt" => ((walk_at "mine and"; first | omega | assumption | exact allLt_of (by assumption) | exact Mine.ltUp (by omega) (by assumption) | exact Mine.ltUp (by omega) (allLt_of (by assumption))))
  w_top off
  have : Challenge.rw_rl0103_01 = Challenge.rw_rl0103_01 ∧ Mine.hd.heap_39 = Mine.hd.heap_39 := by k_fill; exact ⟨rfl, rfl⟩
  intro cn names ig ic more a ccd cl outer A₀ base h₀ L m mean mg mb s Q E B F X N T hret
  k_steps
  refine join_one (by k_asm) (by k_mem) (by decide) (by have := hv.len; omega) ?_
  intro t' k'
  (try dsimp only)
  k_steps
  refine append_M (news := (_, tupOf #[.str k _, .str v _]) :: (l, listOf vs.toArray n₃) :: (t, instObj 184 d) :: (d, hdrDict hs kt l n₁) :: news) (by k_asm) (cb_drop (by k_asm) (by kcj_all)) hlen (by k_upd) ?_
  intro h' F' N'
  k_steps
  refine hret _ ((l, listOf (vs ++ [Value.ref _]).toArray _) :: (t, instObj 184 d) :: (d, hdrDict hs kt l n₁) :: (_, tupOf #[.str k _, .str v _]) :: news) _ _ (by k_asm) (cb_drop (by k_asm) (by kcj_all)) ⟨_, _, _, _, rfl, rfl, ?_, ?_, ?_, ?_⟩ <;> walk_at "mine lt"
/-- the lines of a table: refs to pairs of letters in the ledger -/
inductive Hdrs (news : Led) : List Value → List (Str × Str) → Prop
  | nil : Hdrs news [] []
  | cons {a : Addr} {k v : Str} {t1 t2 : Tok} {vs : List Value} {kvs : List (Str × Str)} : Letter k → Letter v → (a, tupOf #[.str k t1, .str v t2]) ∈ news → Hdrs news vs kvs → Hdrs news (.ref a :: vs) ((k, v) :: kvs)
theorem Hdrs.mono {news news' : Led} (hs : ∀ p ∈ news, p ∈ news') {vs : List Value} {kvs : List (Str × Str)} (h : Hdrs news vs kvs) : Hdrs news' vs kvs := by
  induction h with
  | nil => exact .nil
  | cons hk hv hm _ ih => exact .cons hk hv (hs _ hm) ih
theorem Hdrs.length {news : Led} {vs : List Value} {kvs : List (Str × Str)} (h : Hdrs news vs kvs) : vs.length = kvs.length := by
  induction h with
  | nil => rfl
  | cons _ _ _ _ ih => simp [ih]
theorem Hdrs.snoc {news : Led} {vs : List Value} {kvs : List (Str × Str)} {a : Addr} {k v : Str} {t1 t2 : Tok} (h : Hdrs news vs kvs) (hk : Letter k) (hv : Letter v) (hm : (a, tupOf #[.str k t1, .str v t2]) ∈ news) : Hdrs news (vs ++ [.ref a]) (kvs ++ [(k, v)]) := by
  induction h with
  | nil => exact .cons hk hv hm .nil
  | cons hk' hv' hm' _ ih => exact .cons hk' hv' hm' ih
theorem Hdrs.at {news : Led} {vs : List Value} {kvs : List (Str × Str)} (h : Hdrs news vs kvs) : ∀ {i : Nat} {u : Value}, vs[i]? = some u → ∃ a k v t1 t2, u = .ref a ∧ kvs[i]? = some (k, v) ∧ Letter k ∧ Letter v ∧ (a, tupOf #[.str k t1, .str v t2]) ∈ news := by
  induction h with
  | nil => intro i u e; simp at e
  | cons hk hv hm _ ih =>
    intro i u e
    cases i with
    | zero => simp at e; subst e; exact ⟨_, _, _, _, _, rfl, by simp, hk, hv, hm⟩
    | succ i => simp at e; simpa using ih e
theorem Letter.lower {x : Str} (h : Letter x) : Letter (Txt.lower x) := by
  simp only [Letter, letters, List.map_cons, List.map_nil, List.mem_cons, List.not_mem_nil, or_false] at h
  rcases h with rfl | rfl | rfl | rfl | rfl | rfl | rfl | rfl | rfl | rfl | rfl | rfl | rfl | rfl <;> (show _ ∈ letters; decide +kernel)
theorem Letter.upper {x : Str} (h : Letter x) : Letter (Txt.upper x) := by
  simp only [Letter, letters, List.map_cons, List.map_nil, List.mem_cons, List.not_mem_nil, or_false] at h
  rcases h with rfl | rfl | rfl | rfl | rfl | rfl | rfl | rfl | rfl | rfl | rfl | rfl | rfl | rfl <;> (show _ ∈ letters; decide +kernel)
section
variable {prog : Program} {w : World} {A : Around} {E : Value → Shared → Prop} {s : Shared} {x : Str} {t : Tok} {Q : Value → Shared → Prop}
theorem lower_L (hx : Letter x) (h : Q (.str (Txt.lower x) s.toks) { s with toks := s.toks + 1 }) : wpAny (model prog w) A (call (.builtin "str.lower") [.str x t]) Q E s := SCL.lower (by have := hx.len; omega) fun _ => h
theorem upper_L (hx : Letter x) (h : Q (.str (Txt.upper x) s.toks) { s with toks := s.toks + 1 }) : wpAny (model prog w) A (call (.builtin "str.upper") [.str x t]) Q E s := SCL.upper (by have := hx.len; omega) fun _ => h
end
end Mine

local macro_rules | `(tactic| walk_at "call builtin:str.lower") => `(tactic| k_extra "call builtin:str.lower")
local macro_rules | `(tactic| walk_at "call builtin:str.upper") => `(tactic| k_extra "call builtin:str.upper")

namespace Mine
open LCg LCt
section
variable {prog : Program} {w : World} {A : Around} {s : Shared} {h₀ : Heap} {L : Addr} {m : Str → Option Value} {env : Env} {ct elt : Expr} {x : Str} {scope : Scope} {cl : List (Str × Addr)} {S : Led → Prop} {P : Nat → Value → Prop} {Fin : List Value → Led → Prop}
theorem compEnd_mono {s₁ : Shared} {Ia C D : Addr} {oI oC oD : Obj} {rest rest' : Value → Led → Prop} (hr : ∀ y nw, rest y nw → rest' y nw) {y : Value} {s₂ : Shared}
    (h : CompEnd h₀ L m s₁ Ia oI C oC D oD S rest y s₂) : CompEnd h₀ L m s₁ Ia oI C oC D oD S rest' y s₂ := by
  obtain ⟨h', tk, news', e, F, N, off, hS, r⟩ := h
  exact ⟨h', tk, news', e, F, N, off, hS, hr _ _ r⟩
/-- a comprehension with one test, by what holds of the places gone, the values kept and the ledger -/
theorem restT_inv (I : Nat → List Value → Led → Prop) (n : Nat) {news : Led} (h0 : I 0 [] news)
    (step : ∀ i ys news v Ia oI C oC D m₂ h tk (E' : Value → Shared → Prop), i < n → I i ys news → P i v → NsObj oC m₂ → m₂ x = some v → Fr h₀ L h m → News h₀ L h ((Ia, oI) :: (C, oC) :: (D, lst ys) :: news) → Off3 Ia C D news → ((@Ne Nat Ia C) ∧ (@Ne Nat Ia D) ∧ (@Ne Nat C D)) →
      wpAny (model prog w) A (isTrue ct (compEnvC scope cl C env) (eval ct (compEnvC scope cl C env))) (fun ok s' => if ok = true then
        wpAny (model prog w) A (eval elt (compEnvC scope cl C env)) (CompEnd h₀ L m { s with heap := h, toks := tk } Ia oI C oC D (lst ys) S (fun y news' => I (i + 1) (ys ++ [y]) news')) E' s'
        else CompEnd h₀ L m { s with heap := h, toks := tk } Ia oI C oC D (lst ys) S (fun _ news' => I (i + 1) ys news') Value.none s') E' { s with heap := h, toks := tk })
    (fin : ∀ ys news, I n ys news → Fin ys news) : CompRestT prog w A h₀ L m env ct elt x scope cl s S P Fin n 0 [] news := by
  suffices H : ∀ k i ys news, i + k = n → I i ys news → CompRestT prog w A h₀ L m env ct elt x scope cl s S P Fin k i ys news from H n 0 [] news (Nat.zero_add n) h0
  intro k
  induction k with
  | zero => intro i ys news e hI; rw [Nat.add_zero] at e; subst e; exact fin ys news hI
  | succ k ih =>
    intro i ys news e hI v Ia oI C oC D m₂ h tk E' hP hC hx F N off ne
    refine wpAny_mono (step i ys news v Ia oI C oC D m₂ h tk E' (by omega) hI hP hC hx F N off ne) (fun ok s' h' => ?_) fun _ _ e => e
    cases ok with
    | true =>
      simp only [if_true] at h' ⊢
      exact wpAny_mono h' (fun y s'' c => compEnd_mono (fun y nw hi => ih (i + 1) (ys ++ [y]) nw (by omega) hi) c) fun _ _ e => e
    | false =>
      simp only [Bool.false_eq_true, if_false] at h' ⊢
      exact compEnd_mono (fun y nw hi => ih (i + 1) ys nw (by omega) hi) h'
theorem restU_inv (I : Nat → List Value → Led → Prop) (n : Nat) {news : Led} (h0 : I 0 [] news)
    (step : ∀ i ys news v Ia oI C oC D m₂ h tk (E' : Value → Shared → Prop), i < n → I i ys news → P i v → NsObj oC m₂ → m₂ x = some v → Fr h₀ L h m → News h₀ L h ((Ia, oI) :: (C, oC) :: (D, lst ys) :: news) → Off3 Ia C D news → ((@Ne Nat Ia C) ∧ (@Ne Nat Ia D) ∧ (@Ne Nat C D)) →
      wpAny (model prog w) A (eval elt (compEnvC scope cl C env)) (CompEnd h₀ L m { s with heap := h, toks := tk } Ia oI C oC D (lst ys) S (fun y news' => I (i + 1) (ys ++ [y]) news')) E' { s with heap := h, toks := tk })
    (fin : ∀ ys news, I n ys news → Fin ys news) : CompRest prog w A h₀ L m env elt x scope cl s S P Fin n 0 [] news := by
  suffices H : ∀ k i ys news, i + k = n → I i ys news → CompRest prog w A h₀ L m env elt x scope cl s S P Fin k i ys news from H n 0 [] news (Nat.zero_add n) h0
  intro k
  induction k with
  | zero => intro i ys news e hI; rw [Nat.add_zero] at e; subst e; exact fin ys news hI
  | succ k ih =>
    intro i ys news e hI v Ia oI C oC D m₂ h tk E' hP hC hx F N off ne
    exact wpAny_mono (step i ys news v Ia oI C oC D m₂ h tk E' (by omega) hI hP hC hx F N off ne) (fun y s'' c => compEnd_mono (fun y nw hi => ih (i + 1) (ys ++ [y]) nw (by omega) hi) c) fun _ _ e => e
/-- the same where the ledger stays -/
theorem restT_keep {news : Led} (I : Nat → List Value → Prop) (n : Nat) (h0 : I 0 [])
    (step : ∀ i ys v Ia oI C oC D m₂ h tk (E' : Value → Shared → Prop), i < n → I i ys → P i v → NsObj oC m₂ → m₂ x = some v → Fr h₀ L h m → News h₀ L h ((Ia, oI) :: (C, oC) :: (D, lst ys) :: news) → Off3 Ia C D news → ((@Ne Nat Ia C) ∧ (@Ne Nat Ia D) ∧ (@Ne Nat C D)) →
      wpAny (model prog w) A (isTrue ct (compEnvC scope cl C env) (eval ct (compEnvC scope cl C env))) (fun ok s' => if ok = true then
        wpAny (model prog w) A (eval elt (compEnvC scope cl C env)) (CompEnd h₀ L m { s with heap := h, toks := tk } Ia oI C oC D (lst ys) S (fun y news' => news' = news ∧ I (i + 1) (ys ++ [y]))) E' s'
        else CompEnd h₀ L m { s with heap := h, toks := tk } Ia oI C oC D (lst ys) S (fun _ news' => news' = news ∧ I (i + 1) ys) Value.none s') E' { s with heap := h, toks := tk })
    (fin : ∀ ys, I n ys → Fin ys news) : CompRestT prog w A h₀ L m env ct elt x scope cl s S P Fin n 0 [] news := by
  refine restT_inv (fun i ys nw => nw = news ∧ I i ys) n ⟨rfl, h0⟩ ?_ ?_
  · rintro i ys nw v Ia oI C oC D m₂ h tk E' hi ⟨rfl, hI⟩ hP hC hx F N off ne
    exact step i ys v Ia oI C oC D m₂ h tk E' hi hI hP hC hx F N off ne
  · rintro ys nw ⟨rfl, hI⟩
    exact fin ys hI
theorem restU_keep {news : Led} (I : Nat → List Value → Prop) (n : Nat) (h0 : I 0 [])
    (step : ∀ i ys v Ia oI C oC D m₂ h tk (E' : Value → Shared → Prop), i < n → I i ys → P i v → NsObj oC m₂ → m₂ x = some v → Fr h₀ L h m → News h₀ L h ((Ia, oI) :: (C, oC) :: (D, lst ys) :: news) → Off3 Ia C D news → ((@Ne Nat Ia C) ∧ (@Ne Nat Ia D) ∧ (@Ne Nat C D)) →
      wpAny (model prog w) A (eval elt (compEnvC scope cl C env)) (CompEnd h₀ L m { s with heap := h, toks := tk } Ia oI C oC D (lst ys) S (fun y news' => news' = news ∧ I (i + 1) (ys ++ [y]))) E' { s with heap := h, toks := tk })
    (fin : ∀ ys, I n ys → Fin ys news) : CompRest prog w A h₀ L m env elt x scope cl s S P Fin n 0 [] news := by
  refine restU_inv (fun i ys nw => nw = news ∧ I i ys) n ⟨rfl, h0⟩ ?_ ?_
  · rintro i ys nw v Ia oI C oC D m₂ h tk E' hi ⟨rfl, hI⟩ hP hC hx F N off ne
    exact step i ys v Ia oI C oC D m₂ h tk E' hi hI hP hC hx F N off ne
  · rintro ys nw ⟨rfl, hI⟩
    exact fin ys hI
/-- a turn's end where the ledger stays -/
theorem compEnd_keep {s₁ : Shared} {Ia C D : Addr} {oI oC oD : Obj} {R : Value → Prop} {y : Value} {h' : Heap} {tk : Nat} {news all : Led}
    (F : Fr h₀ L h' m) (N : News h₀ L h' all) (sub : ∀ p ∈ (Ia, oI) :: (C, oC) :: (D, oD) :: news, p ∈ all) (off : Off3 Ia C D news) (hS : S news) (r : R y) :
    CompEnd h₀ L m s₁ Ia oI C oC D oD S (fun y news' => news' = news ∧ R y) y { s₁ with heap := h', toks := tk } := CompEnd.intro F N news sub off hS ⟨rfl, r⟩
end
theorem find_first {α : Type} (p : α → Bool) : ∀ (l : List α) (i : Nat) (a : α), (∀ j b, j < i → l[j]? = some b → p b = false) → l[i]? = some a → p a = true → l.find? p = some a
  | [], _, _, _, h, _ => by simp at h
  | b :: r, 0, a, _, h, hp => by simp at h; subst h; simp [hp]
  | b :: r, i + 1, a, hf, h, hp => by
    have hb := hf 0 b (Nat.succ_pos _) (by simp)
    rw [List.find?_cons, hb]
    exact find_first p r i a (fun j c hj hc => hf (j + 1) c (Nat.succ_lt_succ hj) (by simpa using hc)) (by simpa using h) hp
theorem find_none {α : Type} (p : α → Bool) (l : List α) (hf : ∀ j b, j < l.length → l[j]? = some b → p b = false) : l.find? p = none := by
  rw [List.find?_eq_none]
  intro a ha
  obtain ⟨i, hi, e⟩ := List.mem_iff_getElem.mp ha
  have := hf i a hi (by rw [← e]; simp)
  rw [this]; exact Bool.false_ne_true
theorem take_filter_snoc {α : Type} (p : α → Bool) (l : List α) (i : Nat) (a : α) (h : l[i]? = some a) : (l.take (i + 1)).filter p = (l.take i).filter p ++ (if p a then [a] else []) := by
  rw [List.take_add_one, h, List.filter_append]
  cases hp : p a <;> simp [hp]
end Mine

local macro_rules | `(tactic| walk_at "eval ListComp") => `(tactic| k_extra "eval ListComp")
local macro_rules | `(tactic| walk_at "CompRestT") => `(tactic| k_extra "CompRestT")
local macro_rules | `(tactic| walk_at "CompRest") => `(tactic| k_extra "CompRest")
local macro_rules | `(tactic| walk_at "exec For Tuple Attribute cons nil") => `(tactic| k_extra "exec For Tuple Attribute cons nil")
local macro_rules | `(tactic| walk_at "exec For Tuple Name cons nil") => `(tactic| k_extra "exec For Tuple Name cons nil")
local macro_rules | `(tactic| walk_at "mine turns") => `(tactic| ((with_reducible rename Fr _ _ _ _ => lF'); with_unfolding_all refine For_turns lF' ?_))
local macro_rules | `(tactic| walk_at "exec While Compare cons nil") => `(tactic| k_extra "exec While Compare cons nil")

namespace Mine
abbrev sliceAll : Obj := { cls := .type "slice", data := .fields #[.none, .none, .none] }
theorem noIndex_slice : typeLookup (.type "slice") "__index__" = pure none := by rw [typeLookup_type, builtinLookup_eq_fast]; kernel_rfl
section
variable {prog : Program} {w : World} {A : Around} {E : Value → Shared → Prop} {s : Shared} {h₀ : Heap} {L : Addr} {m : Str → Option Value} {news news' : Led} {env : Env}
theorem sliceAll_new {p : Pos} {Q : Value → Shared → Prop} (F : Fr h₀ L s.heap m) (N : News h₀ L s.heap news)
    (h : ∀ a h', Fr h₀ L h' m → News h₀ L h' ((a, sliceAll) :: news) → (∀ p ∈ news, p.1 < a) → Q (.ref a) { s with heap := h' }) : wpAny (model prog w) A (eval (.Slice none none none p) env) Q E s := by
  refine wpAny_Slice ?_
  show wpAny _ A (pure Value.none) _ _ _
  refine wpAny_pure ?_
  show wpAny _ A (pure Value.none) _ _ _
  refine wpAny_pure ?_
  show wpAny _ A (pure Value.none) _ _ _
  refine wpAny_pure ?_
  exact h s.heap.objs.size _ (F.push _) (N.push F _) fun p hp => Heap.lt_size (N p hp).1
theorem sliceStore {l sl D : Addr} {xs ys : List Value} {n k : Nat} {Q : Unit → Shared → Prop} (F : Fr h₀ L s.heap m) (N : News h₀ L s.heap news) (hm : (sl, sliceAll) ∈ news) (hD : (D, listOf ys.toArray k) ∈ news)
    (hlD : NeA l D) (hx : xs.length ≤ 1000) (hy : ys.length ≤ 1000) (U : Upd l (listOf xs.toArray n) (listOf ys.toArray (if ys.length = xs.length then n else n + 1)) news news')
    (h : ∀ h', Fr h₀ L h' m → News h₀ L h' news' → Q () { s with heap := h' }) : wpAny (model prog w) A (setItem (.ref l) (.ref sl) (.ref D)) Q E s := by
  obtain ⟨pre, post, e1, e2, a1, b1⟩ := U.split
  have zl := N (l, listOf xs.toArray n) (by rw [e1]; exact List.mem_append.mpr (.inr (.head _)))
  have ho : s.heap.get? l = some (listOf xs.toArray n) := zl.1
  have hl : s.heap.IsList l xs.toArray := ⟨_, ho, rfl, _, rfl⟩
  have hoD : s.heap.get? D = some (listOf ys.toArray k) := (N _ hD).1
  have hoS : s.heap.get? sl = some sliceAll := (N _ hm).1
  have hTS : s.TypeIs (.ref sl) "slice" := ⟨_, hoS, rfl⟩
  have hTD : s.TypeIs (.ref D) "list" := ⟨_, hoD, rfl⟩
  unfold setItem
  refine wpAny_holding ?_
  refine wpAny_bind (wpAny_sequenceKey hl.typeIs (by decide) ?_)
  refine wpAny_bind (wpAny_callSpecial?_slot (name := Str.ofString "__setitem__") hl.typeIs slot_list_setitem
    (wpAny_call_entry slot_list_setitem hl.typeIs entry_list_setitem ?_ (args_list_setitem _ _ _)))
  show wpAny _ _ (Builtin.List.listSubscript? (.ref sl) >>= _) _ _ s
  refine wpAny_bind ?_
  unfold Builtin.List.listSubscript?
  refine wpAny_bind (wpAny_specialOf hTS noIndex_slice ?_)
  refine wpAny_pure ?_
  refine wpAny_bind (wpAny_typeOf hTS ?_)
  have hfs : ∀ (Q' : Array Value → Shared → Prop) (E' : Value → Shared → Prop) (A' : Around), Q' #[.none, .none, .none] s → wpAny (model prog w) A' (fieldsOf (.ref sl)) Q' E' s := fun Q' E' A' q => by
    unfold fieldsOf
    exact wpAny_bind (wpAny_load hoS (wpAny_pure q))
  show wpAny _ _ (Builtin.List.listSliceParts (.ref sl) >>= _) _ _ s
  refine wpAny_bind ?_
  unfold Builtin.List.listSliceParts field
  refine wpAny_bind (wpAny_bind (hfs _ _ _ (wpAny_pure ?_)))
  refine wpAny_bind (wpAny_pure ?_)
  refine wpAny_bind (wpAny_bind (hfs _ _ _ (wpAny_pure ?_)))
  refine wpAny_bind (wpAny_pure ?_)
  refine wpAny_bind (wpAny_bind (hfs _ _ _ (wpAny_pure ?_)))
  refine wpAny_bind (wpAny_pure ?_)
  refine wpAny_pure ?_
  have hsame : Builtin.List.listSameRef (.ref l) (.ref D) = false := by
    show (l == D) = false
    exact beq_eq_false_iff_ne.mpr hlD
  show wpAny _ _ (if Builtin.List.listSameRef (.ref l) (.ref D) = true then _ else _) _ _ s
  rw [if_neg (by rw [hsame]; exact Bool.false_ne_true)]
  refine wpAny_bind ?_
  unfold Builtin.List.listAllItems
  refine wpAny_bind (wpAny_typeOf hTD ?_)
  have hitem : ∀ (b : Addr) (zs : List Value) (c : Nat) (Q' : Array Value → Shared → Prop) (E' : Value → Shared → Prop) (A' : Around), s.heap.get? b = some (listOf zs.toArray c) → Q' zs.toArray s → wpAny (model prog w) A' (Builtin.List.listItems (.ref b)) Q' E' s := fun b zs c Q' E' A' hb q => by
    unfold Builtin.List.listItems seqItems?
    exact wpAny_bind (wpAny_bind (wpAny_load hb (wpAny_pure (wpAny_pure q))))
  show wpAny _ _ (Builtin.List.listItems (.ref D)) _ _ s
  refine hitem D ys k _ _ _ hoD ?_
  refine wpAny_bind (hitem l xs n _ _ _ ho ?_)
  have hsi : sliceIndices .none .none .none xs.toArray.size = pure (0, (xs.toArray.size : Int), 1) := rfl
  rw [hsi]
  refine wpAny_bind (wpAny_pure ?_)
  have hlong : Builtin.List.listTooLong (xs.toArray.size + ys.toArray.size) = false := by
    unfold Builtin.List.listTooLong
    refine decide_eq_false ?_
    have : sizeLine = 16777216 := by decide
    rw [List.size_toArray, List.size_toArray]; omega
  show wpAny _ _ (if ((1 : Int) == 1) = true then _ else _) _ _ s
  rw [if_pos (show ((1 : Int) == 1) = true from rfl)]
  refine wpAny_bind (wpAny_rule ?_)
  show wpAny _ _ (if Builtin.List.listTooLong (xs.toArray.size + ys.toArray.size) = true then _ else _) _ _ s
  rw [if_neg (by rw [hlong]; exact Bool.false_ne_true)]
  have hfx : xs.toArray.extract 0 (0 : Int).toNat ++ ys.toArray ++ xs.toArray.extract (max (0 : Int) (xs.toArray.size : Int)).toNat xs.toArray.size = ys.toArray := by
    have e : (max (0 : Int) (xs.toArray.size : Int)).toNat = xs.length := by rw [List.size_toArray]; omega
    rw [e]; simp
  refine wpAny_bind ?_
  show wpAny _ _ (updateSeq l _) _ _ s
  refine wpAny_updateSeq ho rfl ?_ (by rw [List.size_toArray]; exact Nat.le_trans hx (by decide)) (by show (xs.toArray.extract 0 (0 : Int).toNat ++ ys.toArray ++ xs.toArray.extract (max (0 : Int) (xs.toArray.size : Int)).toNat xs.toArray.size).size ≤ _; rw [hfx, List.size_toArray]; exact Nat.le_trans hy (by decide))
  refine wpAny_bind (wpAny_letGo ?_)
  refine wpAny_pure ⟨_, rfl, wpAny_pure ?_⟩
  have hnew : Obj.mapSeq (fun zs : Array Value => zs.extract 0 (0 : Int).toNat ++ ys.toArray ++ zs.extract (max (0 : Int) (xs.toArray.size : Int)).toNat zs.size) (listOf xs.toArray n) = listOf ys.toArray (if ys.length = xs.length then n else n + 1) := by
    show Obj.mk _ _ (.seq _ _) _ = _
    simp only [hfx]
    simp
  subst e1 e2
  refine h _ (F.change (Heap.SameBut.update ..) zl.2.1 zl.2.2) (news_set N a1 b1 (Heap.SameBut.update ..) ?_)
  rw [Heap.get?_update_self _ ho (by rw [hnew]; rfl), hnew]
end
end Mine

local macro_rules | `(tactic| walk_at "eval Slice") => `(tactic| (k_here; k_dflt (refine' Mine.sliceAll_new ?k1 ?k2 ?_; (case k1 => k_asm); (case k2 => k_asm); k_whole; intro a9 h9 F9 N9 l9; (try k_lt l9); (try k_sweep))))

namespace Mine
theorem del_spec (w : World) (t d l : Addr) (hs : Int) (kt : Tok) (n₁ n₃ : Nat) (vs : List Value) (kvs : List (Str × Str)) (x : Str) (tx : Tok) (hx : Letter x) (news : Led) (hH : Hdrs news vs kvs) (hlt : Off l news) (htl : NeA t l) (hdl : NeA d l) (hlen : vs.length ≤ 1000) :
   Spec w 500 5000 102 [.ref t, .str x tx] [] ((l, listOf vs.toArray n₃) :: (t, instObj 184 d) :: (d, hdrDict hs kt l n₁) :: news)
     (fun r news' => ∃ vs' n', r = .none ∧ news' = (l, listOf vs'.toArray n') :: (t, instObj 184 d) :: (d, hdrDict hs kt l n₁) :: news ∧ Hdrs news vs' (kvs.filter fun kv => Txt.lower kv.1 != Txt.lower x) ∧ vs'.length ≤ vs.length) := by
  k_with_none
  k_with "getMethod ref" => ((k_here; (with_reducible show wpAny _ _ (getMethod (Value.ref _) (Str.ofString "search") _) _ _ _); k_dflt (refine' Mine.meth_search ?k1 ?k2 ?k3 ?k4 ?k5 ?_; (case k1 => k_asm); (case k2 => k_asm); (case k3 => k_is); (case k4 => rfl); (case k5 => rfl); k_whole)))
  k_with "call builtin:re.Pattern.search" => ((k_here; k_dflt (refine' Mine.call_search ?k1 ?k2 ?k3 ?k4 ?k5 ?_; (case k1 => k_asm); (case k2 => k_asm); (case k3 => k_is); (case k4 => rfl); (case k5 => first | with_reducible exact Mine.srchN _ _ _ (by assumption) | with_reducible exact Mine.srchV _ _ _ (by assumption)); k_whole)))
  k_with "mine use" => (((case k1 => k_asm); (case k2 => k_asm); (case k3 => k_asm); (case k4 => k_asm); (case k5 => k_asm); (case kd => exact Nat.le_of_ble_eq_true rfl); (case ku => exact Nat.le_of_ble_eq_true rfl)))
  k_with "mine lt" => ((walk_at "mine and"; first | omega | assumption | exact allLt_of (by assumption) | exact Mine.ltUp (by omega) (by assumption) | exact Mine.ltUp (by omega) (allLt_of (by assumption))))
  k_with "mine letter" => (first | assumption | exact Mine.Letter.lower (by assumption) | exact Mine.Letter.upper (by assumption) | exact Mine.Letter.lower (Mine.Letter.upper (by assumption)))
  k_with "call builtin:str.lower" => ((k_here; k_dflt (refine Mine.lower_L (by walk_at "mine letter") ?_)))
  k_with "call builtin:str.upper" => ((k_here; k_dflt (refine Mine.upper_L (by walk_at "mine letter") ?_)))
  k_with "eval ListComp" => (k_extra "mine comp")
  k_with "CompRestT" => (k_extra "mine restT")
  k_with "CompRest" => (k_extra "mine rest")
  k_with "exec For Tuple Attribute cons nil" => (k_extra "mine for")
  k_with "exec For Tuple Name cons nil" => (k_extra "mine for")
  k_with "exec While Compare cons nil" => (k_extra "mine while")
  w_top off
  have : Challenge.rw_rl0103_01 = Challenge.rw_rl0103_01 ∧ Mine.hd.heap_39 = Mine.hd.heap_39 := by k_fill; exact ⟨rfl, rfl⟩
  intro cn names ig ic more a ccd cl outer A₀ base h₀ L m mean mg mb s Q E B F X N T hret
  k_with "mine comp" => (k_dflt (refine LCt.ListComp_T (F₀ := by k_asm) (by with_unfolding_all rfl) (by decide) (by rfl) (by decide) (by rfl) ?_))
  k_steps
  refine LCt.CompSrcT.ledger rfl (by k_asm) (by k_asm) (by k_mem) (by rw [List.size_toArray]; exact Nat.le_trans hlen (by decide)) ?_
  intro g
  refine restT_keep (fun i ys => Hdrs news ys ((kvs.take i).filter fun kv => Txt.lower kv.1 != Txt.lower x)) _ (by simpa using Hdrs.nil) ?_ ?_
  · intro i ys v Ia oI C oC D m₂ h tk E' hi hI hP hC hx' F' N' off ne
    have hP' : vs[i]? = some v := by simpa using hP
    obtain ⟨a', k', v', t1, t2, rfl, hk', lk', lv', hm'⟩ := hH.at hP'
    k_steps
    · rename_i hc
      refine compEnd_keep (R := fun y => Hdrs news (ys ++ [y]) _) (by k_asm) (by k_asm) (by kcj_all) off (.inr ⟨_, by k_mem, rfl, _, rfl⟩) ?_
      rw [take_filter_snoc _ _ _ _ hk', hc]
      exact hI.snoc lk' lv' hm'
    · rename_i hc
      refine compEnd_keep (R := fun y => Hdrs news ys _) (by k_asm) (by k_asm) (by kcj_all) off (.inr ⟨_, by k_mem, rfl, _, rfl⟩) ?_
      rw [take_filter_snoc _ _ _ _ hk', hc]
      simpa using hI
  · intro ys hI
    have e2 := hH.length
    have e5 : kvs.take vs.toArray.size = kvs := List.take_of_length_le (by rw [List.size_toArray, e2]; exact Nat.le_refl _)
    rw [e5] at hI
    have hlen2 : ys.length ≤ vs.length := by
      have e1 := hI.length
      have e3 := List.length_filter_le (fun kv : Str × Str => Txt.lower kv.1 != Txt.lower x) kvs
      omega
    have hlen' : ys.length ≤ 1000 := by omega
    k_steps
    refine sliceStore (xs := vs) (ys := ys) (by k_asm) (by k_asm) (by k_mem) (by k_mem) (by walk_at "mine lt") hlen hlen' (by k_upd) ?_
    intro h' F' N'
    k_steps
    refine hret _ ((l, listOf ys.toArray _) :: (t, instObj 184 d) :: (d, hdrDict hs kt l n₁) :: news) _ _ (by k_asm) (cb_drop (by k_asm) (by kcj_all)) ⟨_, _, rfl, rfl, hI, hlen2⟩
end Mine

local macro_rules | `(tactic| walk_at "call ref") => `(tactic| (k_here; k_dflt (refine' Mine.Spec.use (Mine.del_spec _ _ _ _ _ _ _ _ _ _ _ _ ?hx _ ?hH ?ho ?ht ?hd ?hl) ?k1 ?k2 ?k3 ?k4 ?k5 ?kd ?ku ?_; walk_at "mine use"; (case hx => walk_at "mine letter"); (case hH => assumption); (case ho => assumption); (case ht => assumption); (case hd => assumption); (case hl => assumption); k_whole; intro r9 n9 h9 tk9 F9 N9 R9; obtain ⟨vs9, c9, e9, e9', H9, L9⟩ := R9; subst e9 e9'; (try dsimp only); (try k_sweep); (try k_fold))))

namespace Mine
section
variable {M : Model} {A : Around} {E : Value → Shared → Prop} {s : Shared} {K : Frag} {x C L f : Addr} {h₀ : Heap} {m : Str → Option Value} {ox : Obj} {od : Option Obj} {i : Value}
theorem own_delItem {Q : Unit → Shared → Prop} (F : Fr h₀ L s.heap m) (X₀ : K.In h₀) (I : InstAt s.heap x ox C od) (hq : noSeq K C = true) (hs : findIn K (.ref C) "__delitem__" = some (some (.ref f))) (hf : isFn K (.ref f) = true)
    (h : wpAny M A (call (.ref f) [.ref x, i]) (fun _ s' => Q () s') E s) : wpAny M A (delItem (.ref x) i) Q E s := by
  have X := X₀.keeps F.keep
  unfold delItem sequenceKey
  refine wpAny_holding (wpAny_bind (wpAny_bind (I.type.here ?_)))
  refine wpAny_bind ((anyM_none X hq).here ?_)
  rw [if_pos (show (!false) = true from rfl)]
  exact wpAny_pure (wpAny_bind (special_fn X I hs (beq_iff_eq.mp hf) (wpAny_mono h (fun _ _ z => wpAny_pure z) fun _ _ z => z)))
end
end Mine

local macro_rules | `(tactic| walk_at "delItem ref") => `(tactic| k_extra "delItem ref")

namespace Mine
theorem set_spec (w : World) (t d l : Addr) (hs : Int) (kt : Tok) (n₁ n₃ : Nat) (vs : List Value) (kvs : List (Str × Str)) (k v : Str) (tk tv : Tok) (hk : Letter k) (hv : Letter v) (news : Led) (hH : Hdrs news vs kvs) (hlt : Off l news) (htl : NeA t l) (hdl : NeA d l) (hlen : vs.length ≤ 999) :
   Spec w 400 4000 97 [.ref t, .str k tk, .str v tv] [] ((l, listOf vs.toArray n₃) :: (t, instObj 184 d) :: (d, hdrDict hs kt l n₁) :: news)
     (fun r news' => ∃ a vs' n' t1 t2, r = .none ∧ news' = (l, listOf (vs' ++ [Value.ref a]).toArray n') :: (t, instObj 184 d) :: (d, hdrDict hs kt l n₁) :: (a, tupOf #[.str k t1, .str v t2]) :: news ∧ Hdrs news vs' (kvs.filter fun kv => Txt.lower kv.1 != Txt.lower k) ∧ vs'.length ≤ vs.length ∧ LtA l a ∧ LtA t a ∧ LtA d a ∧ AllLt a news) := by
  k_with_none
  k_with "getMethod ref" => ((k_here; (with_reducible show wpAny _ _ (getMethod (Value.ref _) (Str.ofString "search") _) _ _ _); k_dflt (refine' Mine.meth_search ?k1 ?k2 ?k3 ?k4 ?k5 ?_; (case k1 => k_asm); (case k2 => k_asm); (case k3 => k_is); (case k4 => rfl); (case k5 => rfl); k_whole)))
  k_with "call builtin:re.Pattern.search" => ((k_here; k_dflt (refine' Mine.call_search ?k1 ?k2 ?k3 ?k4 ?k5 ?_; (case k1 => k_asm); (case k2 => k_asm); (case k3 => k_is); (case k4 => rfl); (case k5 => first | with_reducible exact Mine.srchN _ _ _ (by assumption) | with_reducible exact Mine.srchV _ _ _ (by assumption)); k_whole)))
  k_with "mine use" => (((case k1 => k_asm); (case k2 => k_asm); (case k3 => k_asm); (case k4 => k_asm); (case k5 => k_asm); (case kd => exact Nat.le_of_ble_eq_true rfl); (case ku => exact Nat.le_of_ble_eq_true rfl)))
  k_with "mine lt" => ((walk_at "mine and"; first | omega | assumption | exact allLt_of (by assumption) | exact Mine.ltUp (by omega) (by assumption) | exact Mine.ltUp (by omega) (allLt_of (by assumption))))
  k_with "mine letter" => (first | assumption | exact Mine.Letter.lower (by assumption) | exact Mine.Letter.upper (by assumption) | exact Mine.Letter.lower (Mine.Letter.upper (by assumption)))
  k_with "call builtin:str.lower" => ((k_here; k_dflt (refine Mine.lower_L (by walk_at "mine letter") ?_)))
  k_with "call builtin:str.upper" => ((k_here; k_dflt (refine Mine.upper_L (by walk_at "mine letter") ?_)))
  k_with "eval ListComp" => (k_extra "mine comp")
  k_with "CompRestT" => (k_extra "mine restT")
  k_with "CompRest" => (k_extra "mine rest")
  k_with "exec For Tuple Attribute cons nil" => (k_extra "mine for")
  k_with "exec For Tuple Name cons nil" => (k_extra "mine for")
  k_with "exec While Compare cons nil" => (k_extra "mine while")
  k_with "delItem ref" => ((k_here; k_dflt (refine' Mine.own_delItem ?F ?X ?I ?hQ ?hS ?hF ?_; (case F => k_asm); (case X => k_asm); (case I => k_inst); (case hS => k_is); (case hF => k_is); (case hQ => k_is); k_whole)))
  w_top off
  have : Challenge.rw_rl0103_01 = Challenge.rw_rl0103_01 ∧ Mine.hd.heap_39 = Mine.hd.heap_39 := by k_fill; exact ⟨rfl, rfl⟩
  intro cn names ig ic more a ccd cl outer A₀ base h₀ L m mean mg mb s Q E B F X N T hret
  have hlen0 : vs.length ≤ 1000 := by omega
  k_steps
  refine hret _ ((l, listOf (_ ++ [Value.ref _]).toArray _) :: (t, instObj 184 d) :: (d, hdrDict hs kt l n₁) :: (_, tupOf #[.str k _, .str v _]) :: news) _ _ (by k_asm) (cb_drop (by k_asm) (by kcj_all)) ⟨_, _, _, _, _, rfl, rfl, ?_, ?_, ?_, ?_, ?_, ?_⟩
  · assumption
  all_goals walk_at "mine lt"
end Mine


namespace Mine
theorem get_spec (w : World) (t d l : Addr) (hs : Int) (kt : Tok) (n₁ n₃ : Nat) (vs : List Value) (kvs : List (Str × Str)) (x : Str) (tx : Tok) (hx : Letter x) (news : Led) (hH : Hdrs news vs kvs) (h1 : (l, listOf vs.toArray n₃) ∈ news) (h2 : (t, instObj 184 d) ∈ news) (h3 : (d, hdrDict hs kt l n₁) ∈ news) :
   Spec w 400 4000 131 [.ref t, .str x tx] [] news
     (fun r news' => news' = news ∧ match kvs.find? (fun kv => Txt.lower kv.1 == Txt.lower x) with | some kv => ∃ t', r = .str kv.2 t' | none => r = .none) := by
  k_with_none
  k_with "getMethod ref" => ((k_here; (with_reducible show wpAny _ _ (getMethod (Value.ref _) (Str.ofString "search") _) _ _ _); k_dflt (refine' Mine.meth_search ?k1 ?k2 ?k3 ?k4 ?k5 ?_; (case k1 => k_asm); (case k2 => k_asm); (case k3 => k_is); (case k4 => rfl); (case k5 => rfl); k_whole)))
  k_with "call builtin:re.Pattern.search" => ((k_here; k_dflt (refine' Mine.call_search ?k1 ?k2 ?k3 ?k4 ?k5 ?_; (case k1 => k_asm); (case k2 => k_asm); (case k3 => k_is); (case k4 => rfl); (case k5 => first | with_reducible exact Mine.srchN _ _ _ (by assumption) | with_reducible exact Mine.srchV _ _ _ (by assumption)); k_whole)))
  k_with "mine use" => (((case k1 => k_asm); (case k2 => k_asm); (case k3 => k_asm); (case k4 => k_asm); (case k5 => k_asm); (case kd => exact Nat.le_of_ble_eq_true rfl); (case ku => exact Nat.le_of_ble_eq_true rfl)))
  k_with "mine lt" => ((walk_at "mine and"; first | omega | assumption | exact allLt_of (by assumption) | exact Mine.ltUp (by omega) (by assumption) | exact Mine.ltUp (by omega) (allLt_of (by assumption))))
  k_with "mine letter" => (first | assumption | exact Mine.Letter.lower (by assumption) | exact Mine.Letter.upper (by assumption) | exact Mine.Letter.lower (Mine.Letter.upper (by assumption)))
  k_with "call builtin:str.lower" => ((k_here; k_dflt (refine Mine.lower_L (by walk_at "mine letter") ?_)))
  k_with "call builtin:str.upper" => ((k_here; k_dflt (refine Mine.upper_L (by walk_at "mine letter") ?_)))
  k_with "eval ListComp" => (k_extra "mine comp")
  k_with "CompRestT" => (k_extra "mine restT")
  k_with "CompRest" => (k_extra "mine rest")
  k_with "exec For Tuple Attribute cons nil" => (k_extra "mine for")
  k_with "exec For Tuple Name cons nil" => (k_extra "mine for")
  k_with "exec While Compare cons nil" => (k_extra "mine while")
  k_with "delItem ref" => ((k_here; k_dflt (refine' Mine.own_delItem ?F ?X ?I ?hQ ?hS ?hF ?_; (case F => k_asm); (case X => k_asm); (case I => k_inst); (case hS => k_is); (case hF => k_is); (case hQ => k_is); k_whole)))
  w_top off
  have : Challenge.rw_rl0103_01 = Challenge.rw_rl0103_01 ∧ Mine.hd.heap_39 = Mine.hd.heap_39 := by k_fill; exact ⟨rfl, rfl⟩
  intro cn names ig ic more a ccd cl outer A₀ base h₀ L m mean mg mb s Q E B F X N T hret
  k_with "mine for" => (walk_at "mine turns")
  k_steps
  refine iter_scan (its := vs) [Str.ofString "k", Str.ofString "v"] (fun i => ∀ j kv, j < i → kvs[j]? = some kv → (Txt.lower kv.1 == Txt.lower x) = false) rfl (by k_asm) (by k_asm) (by k_mem) (fun j kv h => absurd h (Nat.not_lt_zero _)) ?_ ?_
  · intro i u m' h tk I oI hu hP hI F' N'
    obtain ⟨a', k', v', t1, t2, rfl, hk', lk', lv', hm'⟩ := hH.at hu
    k_steps
    · rename_i hc
      dsimp only [TurnM]
      k_steps
      refine hret _ news _ _ (by k_asm) (cb_drop (by k_asm) (by kcj_all)) ⟨rfl, ?_⟩
      rw [find_first _ kvs i _ hP hk' hc]
      exact ⟨_, rfl⟩
    · rename_i hc
      refine TurnM.next news (by k_asm) (by k_asm) (by kcj_all) hI h1 ⟨rfl, by walk_at "mine same", ?_⟩
      intro j kv hj hkv
      rcases Nat.lt_succ_iff_lt_or_eq.mp hj with hj | rfl
      · exact hP j kv hj hkv
      · rw [hk'] at hkv; cases hkv; exact hc
  · intro m' h tk hP F' N'
    k_steps
    refine hret _ news _ _ (by k_asm) (by k_asm) ⟨rfl, ?_⟩
    rw [find_none _ kvs (fun j b hj hb => hP j b (by rw [hH.length]; exact hj) hb)]
end Mine

set_option hygiene false
local macro_rules | `(tactic| walk_at "call ref") => `(tactic| k_extra "call ref")
set_option hygiene true

namespace Mine
abbrev entDict (w : World) (k1 k2 k3 k4 : Tok) (u r : Addr) (n : Nat) : Obj := dictOf [⟨PyData.keyHash w.params (Str.ofString "useragents"), .str (Str.ofString "useragents") k1, .ref u⟩, ⟨PyData.keyHash w.params (Str.ofString "rulelines"), .str (Str.ofString "rulelines") k2, .ref r⟩,
  ⟨PyData.keyHash w.params (Str.ofString "delay"), .str (Str.ofString "delay") k3, .none⟩, ⟨PyData.keyHash w.params (Str.ofString "req_rate"), .str (Str.ofString "req_rate") k4, .none⟩] n
theorem ent_spec (w : World) (news : Led) :
   Spec w 500 5000 226 [] [] news (fun r' news' => ∃ x d u r k1 k2 k3 k4, r' = .ref x ∧ news' = (r, listOf #[] 0) :: (u, listOf #[] 0) :: (x, instObj 226 d) :: (d, entDict w k1 k2 k3 k4 u r 4) :: news ∧ AllLt d news ∧ LtA d x ∧ LtA x u ∧ LtA u r) := by
  k_with_none
  k_with "getMethod ref" => ((k_here; (with_reducible show wpAny _ _ (getMethod (Value.ref _) (Str.ofString "search") _) _ _ _); k_dflt (refine' Mine.meth_search ?k1 ?k2 ?k3 ?k4 ?k5 ?_; (case k1 => k_asm); (case k2 => k_asm); (case k3 => k_is); (case k4 => rfl); (case k5 => rfl); k_whole)))
  k_with "call builtin:re.Pattern.search" => ((k_here; k_dflt (refine' Mine.call_search ?k1 ?k2 ?k3 ?k4 ?k5 ?_; (case k1 => k_asm); (case k2 => k_asm); (case k3 => k_is); (case k4 => rfl); (case k5 => first | with_reducible exact Mine.srchN _ _ _ (by assumption) | with_reducible exact Mine.srchV _ _ _ (by assumption)); k_whole)))
  k_with "mine use" => (((case k1 => k_asm); (case k2 => k_asm); (case k3 => k_asm); (case k4 => k_asm); (case k5 => k_asm); (case kd => exact Nat.le_of_ble_eq_true rfl); (case ku => exact Nat.le_of_ble_eq_true rfl)))
  k_with "mine lt" => ((walk_at "mine and"; first | omega | assumption | exact allLt_of (by assumption) | exact Mine.ltUp (by omega) (by assumption) | exact Mine.ltUp (by omega) (allLt_of (by assumption))))
  k_with "mine letter" => (first | assumption | exact Mine.Letter.lower (by assumption) | exact Mine.Letter.upper (by assumption) | exact Mine.Letter.lower (Mine.Letter.upper (by assumption)))
  k_with "call builtin:str.lower" => ((k_here; k_dflt (refine Mine.lower_L (by walk_at "mine letter") ?_)))
  k_with "call builtin:str.upper" => ((k_here; k_dflt (refine Mine.upper_L (by walk_at "mine letter") ?_)))
  k_with "eval ListComp" => (k_extra "mine comp")
  k_with "CompRestT" => (k_extra "mine restT")
  k_with "CompRest" => (k_extra "mine rest")
  k_with "exec For Tuple Attribute cons nil" => (k_extra "mine for")
  k_with "exec For Tuple Name cons nil" => (k_extra "mine for")
  k_with "exec While Compare cons nil" => (k_extra "mine while")
  k_with "delItem ref" => ((k_here; k_dflt (refine' Mine.own_delItem ?F ?X ?I ?hQ ?hS ?hF ?_; (case F => k_asm); (case X => k_asm); (case I => k_inst); (case hS => k_is); (case hF => k_is); (case hQ => k_is); k_whole)))
  k_with "call ref" => ((k_here; k_dflt (refine' Mine.Spec.use (Mine.get_spec _ _ _ _ _ _ _ _ _ _ _ _ ?hx _ ?hH ?h1 ?h2 ?h3) ?k1 ?k2 ?k3 ?k4 ?k5 ?kd ?ku ?_; walk_at "mine use"; (case hx => walk_at "mine letter"); (case h2 => k_mem); (case h3 => k_mem); (case h1 => k_mem); (case hH => walk_at "mine hdrs"); k_whole; intro rG nG hG tkG FG NG RG; obtain ⟨eG, VG⟩ := RG; (have eG' := Eq.symm eG); (first | subst eG' | subst eG); (try dsimp only); (try k_sweep); (try k_fold))))
  k_with "mine hdrs" => (first | assumption | exact Mine.Hdrs.mono (by kcj_all) (by assumption))
  w_top off
  have : Challenge.rw_rl0103_01 = Challenge.rw_rl0103_01 ∧ Mine.hd.heap_39 = Mine.hd.heap_39 := by k_fill; exact ⟨rfl, rfl⟩
  intro cn names ig ic more a ccd cl outer A₀ base h₀ L m mean mg mb s Q E B F X N T hret
  k_steps
  refine hret _ _ _ _ (by k_asm) (by k_asm) ⟨_, _, _, _, _, _, _, _, rfl, rfl, ?_, ?_, ?_, ?_⟩ <;> walk_at "mine lt"
end Mine

set_option hygiene false
set_option hygiene true

namespace Mine
open Builtin
theorem c_entry_getattribute : entryFor table "set.__getattribute__" = some Builtin.«object.__getattribute__» :=
  entryFor_alias (id' := "object.__getattribute__") (by kernel_rfl) (by decide +kernel) (by decide +kernel) (by kernel_rfl)
theorem c_lookup : typeLookup (.type "set") "__contains__" = pure (some (.builtin "set.__contains__")) := by rw [typeLookup_type, builtinLookup_eq_fast]; kernel_rfl
theorem c_getattr_none : typeLookup (.type "set") "__getattr__" = pure none := by rw [typeLookup_type, builtinLookup_eq_fast]; kernel_rfl
theorem c_type : typeOf (.builtin "set.__contains__") = pure (.type "method_descriptor") := by show builtinType _ = _; rw [builtinType_eq_fast]; kernel_rfl
theorem c_get : typeLookup (.type "method_descriptor") "__get__" = pure (some (.builtin "method_descriptor.__get__")) := by rw [typeLookup_type, builtinLookup_eq_fast]; kernel_rfl
theorem c_noset : typeLookup (.type "method_descriptor") "__set__" = pure none := by rw [typeLookup_type, builtinLookup_eq_fast]; kernel_rfl
theorem c_nodel : typeLookup (.type "method_descriptor") "__delete__" = pure none := by rw [typeLookup_type, builtinLookup_eq_fast]; kernel_rfl
theorem c_slot_get : Slot "method_descriptor" "__get__" "method_descriptor.__get__" :=
  .of (owner := "method_descriptor") (n := "__get__") (by rw [typeLookup_type, builtinLookup_eq_fast]; kernel_rfl) (by decide +kernel) (by decide +kernel) (by decide +kernel)
    (by first | exact .inl (by decide +kernel) | exact .inr (by decide +kernel)) (by rw [isSubtype_type]; kernel_rfl)
theorem c_entry_get : entryFor table "method_descriptor.__get__" = some Builtin.«method_descriptor.__get__» := entryFor_of_tree (by kernel_rfl)
theorem c_args_get (a b c : Value) : argsOk "method_descriptor.__get__" ⟨[a, b, c], []⟩ := by unfold argsOk; kernel_rfl
section
variable {prog : Program} {w : World} {A : Around} {E : Value → Shared → Prop} {s : Shared}
/-- the bound method of a set's own __contains__ -/
abbrev boundIn (a : Addr) : Obj := { cls := .type "builtin_function_or_method", data := .fields #[.builtin "set.__contains__", .ref a] }
theorem get_body {a : Addr} {es : Array (Int × Value)} {ep : Nat} {tb : SetTable} {sl : Array (Option Value)} {P : PySem.Fin → Shared → Prop} (hx : s.heap.get? a = some { cls := .type "set", dict := none, data := .set es ep tb, slots := sl })
    (h : P (.done (.ret (.ref s.heap.objs.size))) { s with heap := s.heap.push (boundIn a) }) :
    wpAny (model prog w) A (Builtin.«method_descriptor.__get__» ⟨[.builtin "set.__contains__", .ref a, .type "set"], []⟩) P E s := by
  obtain ⟨hp, g, d, tk, os⟩ := s
  have hT : (⟨hp, g, d, tk, os⟩ : Shared).TypeIs (.ref a) "set" := ⟨_, hx, rfl⟩
  have f2 := sub_set_self
  have f3 : Manifest.toldItsClass.contains "set.__contains__" = false := by decide +kernel
  unfold Builtin.«method_descriptor.__get__»
  repeat (any_goals (first | assumption | wp_step))
  have e : ".".intercalate ("set.__contains__".cutAt '.').dropLast = "set" := by decide +kernel
  rw [e]
  refine wpAny_of_eq f2 ?_
  refine wpAny_pure ?_
  refine wpAny_bind (wpAny_newObj_type (wpAny_pure h))
theorem getattribute_contains {a : Addr} {es : Array (Int × Value)} {ep : Nat} {tb : SetTable} {sl : Array (Option Value)} {u : Tok} {P : PySem.Fin → Shared → Prop} (hx : s.heap.get? a = some { cls := .type "set", dict := none, data := .set es ep tb, slots := sl })
    (h : P (.done (.ret (.ref s.heap.objs.size))) { s with heap := s.heap.push (boundIn a) }) :
    wpAny (model prog w) A (Builtin.«object.__getattribute__» ⟨[.ref a, .str "__contains__" u], []⟩) P E s := by
  obtain ⟨hp, g, d, tk, os⟩ := s
  have hT : (⟨hp, g, d, tk, os⟩ : Shared).TypeIs (.ref a) "set" := ⟨_, hx, rfl⟩
  have f1 := c_lookup
  have f2 := c_type
  have f3 := c_get
  have f4 := c_noset
  have f5 := c_nodel
  unfold Builtin.«object.__getattribute__»
  repeat (any_goals (first | assumption | wp_step))
  refine codeAny_call_builtin c_slot_get.plain c_entry_get ?_
  refine c_slot_get.check _ _ _ _ _ _ _ _ (show Shared.TypeIs _ _ _ from c_type) (c_args_get _ _ _) ?_
  exact get_body hx (wpAny_pure h)
theorem getAttr_contains {a : Addr} {es : Array (Int × Value)} {ep : Nat} {tb : SetTable} {sl : Array (Option Value)} {Q : Value → Shared → Prop} {ex : Bool} (hx : s.heap.get? a = some { cls := .type "set", dict := none, data := .set es ep tb, slots := sl })
    (h : ∀ tk, Q (.ref s.heap.objs.size) { s with heap := s.heap.push (boundIn a), toks := tk }) :
    wpAny (model prog w) A (getAttr (.ref a) "__contains__" ex) Q E s := by
  obtain ⟨hp, g, d, tk, os⟩ := s
  have hT : ∀ tk', (⟨hp, g, d, tk', os⟩ : Shared).TypeIs (.ref a) "set" := fun _ => ⟨_, hx, rfl⟩
  have f3 := F.slot_set_getattribute.lookup
  have f4 := F.slot_set_getattribute.bind (.ref a)
  have f5 := c_getattr_none
  unfold getAttr getAttrBy
  repeat (any_goals (first | assumption | exact hT _ | ((with_reducible show wpAny _ _ (call (Value.builtin "set.__getattribute__") _ _) _ _ _); refine wpAny_call_entry F.slot_set_getattribute (hT _) c_entry_getattribute (getattribute_contains hx ⟨_, rfl, ?_⟩) (F.args_set_getattribute_2 _ _)) | wp_step))
  have e0 : (ex && onTheHeap (Value.builtin "set.__getattribute__")) = false := by cases ex <;> rfl
  rw [if_neg (by rw [e0]; exact Bool.false_ne_true)]
  unfold boundAndCalled
  refine wpAny_bind (wpAny_of_eq f4 ?_)
  refine wpAny_call_entry (T := "set") (name := "__getattribute__") F.slot_set_getattribute (hT _) c_entry_getattribute (getattribute_contains hx ⟨_, rfl, ?_⟩) (F.args_set_getattribute_2 _ _)
  refine handed_on rfl ?_
  exact h _
end
end Mine


namespace Mine
open Builtin
theorem mro_filter : mroOf (.type "filter") = pure [.type "filter", .type "object"] := by rw [mroOf_type]; kernel_rfl
theorem lookup_filter_new : typeLookup (.type "filter") "__new__" = pure (some (.builtin "filter.__new__")) := by rw [typeLookup_type, builtinLookup_eq_fast]; kernel_rfl
theorem slot_filter_init : Slot "filter" "__init__" "object.__init__" :=
  .of (owner := "object") (n := "__init__") (by rw [typeLookup_type, builtinLookup_eq_fast]; kernel_rfl) (by decide +kernel) (by decide +kernel) (by decide +kernel)
    (by first | exact .inl (by decide +kernel) | exact .inr (by decide +kernel)) (by rw [isSubtype_type]; kernel_rfl)
theorem called_filter : TypeCalled "filter" "filter.__new__" "object.__init__" :=
  ⟨by decide +kernel, by decide +kernel, ⟨_, _, mro_filter⟩, madeBy_type mro_filter lookup_filter_new (by decide +kernel), by decide +kernel, by rw [isSubtype_type]; kernel_rfl, slot_filter_init⟩
theorem typeCall_filter (a b : Value) : checkTypeCall "filter" ⟨[a, b], []⟩ = pure () := by kernel_rfl
theorem newCall_filter (a b : Value) : checkBuiltinCall "filter.__new__" ⟨[.type "filter", a, b], []⟩ = pure () := by kernel_rfl
theorem entry_filter_new : entryFor table "filter.__new__" = some Builtin.«filter.__new__» := entryFor_of_tree (by kernel_rfl)
theorem args_object_init_3 (a b c : Value) : argsOk "object.__init__" ⟨[a, b, c], []⟩ := by unfold argsOk; kernel_rfl
theorem sub_filter : isSubtype (.type "filter") (.type "filter") = pure true := by rw [isSubtype_type]; kernel_rfl
abbrev listIterObj (l : Addr) (i : Int) : Obj := { cls := .type "list_iterator", data := .fields #[.ref l, .int i 0] }
abbrev filtObj (f : Value) (it : Addr) : Obj := { cls := .type "filter", data := .fields #[f, .ref it] }
set_option maxRecDepth 100000 in
theorem meets_filter_new (f : Value) (l : Addr) (items : Array Value) (n : Nat) (dct : Option Addr) (sl : Array (Option Value)) :
    Meets (Builtin.«filter.__new__» ⟨[.type "filter", f, .ref l], []⟩) (fun _ R s => s.heap.get? l = some { cls := .type "list", dict := dct, data := .seq items n, slots := sl } ∧
      R (.ok (.ret (.ref (s.heap.push (listIterObj l 0)).objs.size))) { s with heap := (s.heap.push (listIterObj l 0)).push (filtObj f s.heap.objs.size) }) :=
  .of_wp fun prog w A R s h => by
    obtain ⟨hp, g, d, tk, os⟩ := s; obtain ⟨hl, h⟩ := h
    have hsub := sub_filter
    have hL : Heap.IsList (Shared.heap ⟨hp, g, d, tk, os⟩) l items := ⟨_, hl, rfl, n, rfl⟩
    unfold Builtin.«filter.__new__»
    generalize hPI : pyIter = PI
    repeat (any_goals (first | assumption | wp_step))
    subst hPI
    refine wpAny_pyIter_list hL ?_
    repeat (any_goals (first | assumption | wp_step))
    exact ⟨_, rfl, h⟩
section
variable {prog : Program} {w : World} {A : Around} {E : Value → Shared → Prop} {s : Shared}
theorem call_filter {f : Value} {l : Addr} {items : Array Value} {Q : Value → Shared → Prop} (hL : s.heap.IsList l items)
    (h : Q (.ref (s.heap.objs.size + 1)) { s with heap := (s.heap.push (listIterObj l 0)).push (filtObj f s.heap.objs.size) }) :
    wpAny (model prog w) A (call (.type "filter") [f, .ref l]) Q E s := by
  obtain ⟨⟨c, dct, dt, sl⟩, hl, hc, n, hd⟩ := hL
  replace hc : c = .type "list" := hc
  replace hd : dt = .seq items n := hd
  subst hc hd
  refine callType_new called_filter (by decide) (typeCall_filter _ _) (newCall_filter _ _) (fun obj => args_object_init_3 obj _ _) entry_filter_new
    (meets_filter_new f l items n dct sl) ⟨hl, ?_⟩
  have hz : (s.heap.push (listIterObj l 0)).objs.size = s.heap.objs.size + 1 := Heap.size_push ..
  show _ ∧ _
  rw [hz]
  refine ⟨⟨filtObj f s.heap.objs.size, ?_, rfl⟩, h⟩
  have := Heap.get?_push_size (s.heap.push (listIterObj l 0)) (o := filtObj f s.heap.objs.size) rfl
  rw [hz] at this; exact this
theorem plain_set_contains : plainId "set.__contains__" = true := by decide +kernel
theorem call_boundIn {BF S : Addr} {Sf : Str → Bool} {c : Nat} {y : Str} {t : Tok} {Q : Value → Shared → Prop} (hb : s.heap.get? BF = some (boundIn S)) (hS : s.heap.SetOf (strKind prog w) S Sf c)
    (h : Q (.bool (Sf y)) { s with toks := s.toks + 1 }) : wpAny (model prog w) A (call (.ref BF) [.str y t]) Q E s := by
  refine wpAny_call (codeAny_of_tree ?_)
  show wpAny _ _ (callAny (.ref BF) _) _ _ _
  obtain ⟨o, es, ep, tb, ho, hex, hdat, hrest⟩ := id hS
  have hT : s.TypeIs (.ref S) "set" := hS.typeIs
  have f1 : Manifest.signature? "set.__contains__" = some ⟨.oneArg, "set.__contains__", "__contains__", .self, [⟨"object", .posOnly, true⟩]⟩ := by kernel_rfl
  have f2 : builtinKind "set.__contains__" = some .method := by kernel_rfl
  have f3 : isSubtype (.type "set") (.type "module") = pure false := by rw [isSubtype_type]; kernel_rfl
  have f4 : Manifest.varargsMethods.contains "set.__contains__" = false := by decide +kernel
  unfold callAny
  refine wpAny_bind (wpAny_load hb ?_)
  show wpAny _ _ (checkBoundCall "set.__contains__" ⟨[.ref S, .str y t], []⟩ >>= fun _ => again (.builtin "set.__contains__" ⟨[.ref S, .str y t], []⟩)) _ _ s
  refine wpAny_bind ?_
  unfold checkBoundCall
  simp only [f1, f2]
  show wpAny _ _ (isInstance (.ref S) (.type "module") >>= _) _ _ s
  refine wpAny_bind (wpAny_isInstance hT f3 ?_)
  have f5 : Bind.checkArgs "set.__contains__" ⟨.oneArg, toString (Bind.lastOf "set") ++ toString "." ++ toString (Bind.lastOf "set.__contains__"), "__contains__", .self, [⟨"object", .posOnly, true⟩]⟩ ⟨[.ref S, .str y t], []⟩ = pure () := by kernel_rfl
  have hty : ∀ (Q' : Bool → Shared → Prop) (E' : Value → Shared → Prop) (A' : Around), Q' false s → wpAny (model prog w) A' (isType (.ref S)) Q' E' s := fun Q' E' A' q => by
    show wpAny _ _ (loadHead S >>= _) _ _ s
    refine wpAny_bind (wpAny_loadPart ho ?_)
    rw [hdat]
    exact wpAny_pure q
  rw [if_neg (by rw [f4]; exact Bool.false_ne_true)]
  refine wpAny_bind (hty _ _ _ ?_)
  rw [if_neg Bool.false_ne_true]
  refine wpAny_bind (wpAny_typeOf hT ?_)
  refine wpAny_of_eq f5 ?_
  refine wpAny_pure ⟨plainId_quiet plain_set_contains _, codeAny_builtin entry_set_contains ?_⟩
  rw [Around.under_plainId plain_set_contains _]
  unfold Builtin.«frozenset.__contains__» Builtin.Frozenset.oneOther
  simp only [List.isEmpty_nil, bind_assoc]
  unfold Builtin.Frozenset.addrOf Builtin.Frozenset.withSetAsKey setContains
  refine wpAny_bind (wpAny_pure ?_)
  try dsimp only
  refine wpAny_bind (wpAny_pure ?_)
  try dsimp only
  refine wpAny_bind (wpAny_tryCatch ?_)
  refine wpAny_holding ?_
  refine wpAny_bind ((strKind prog w).pyHash (k := y) (strKind_is _ _ _ _) ?_)
  refine wpAny_bind (wpAny_setFind_of (s := { s with toks := s.toks + 1 }) (k := y) (strKind_is _ _ _ _) rfl hS fun r hr => ?_)
  refine wpAny_pure ?_
  show wpAny _ _ (ret (Value.bool r.isSome)) _ _ _
  rw [hr]
  exact wpAny_pure h
end
end Mine


namespace Mine
open Builtin
theorem slot_filter_next : Slot "filter" "__next__" "filter.__next__" :=
  .of (owner := "filter") (n := "__next__") (by rw [typeLookup_type, builtinLookup_eq_fast]; kernel_rfl) (by decide +kernel) (by decide +kernel) (by decide +kernel)
    (by first | exact .inl (by decide +kernel) | exact .inr (by decide +kernel)) (by rw [isSubtype_type]; kernel_rfl)
theorem entry_filter_next : entryFor table "filter.__next__" = some Builtin.«filter.__next__» := entryFor_of_tree (by kernel_rfl)
theorem args_filter_next (a : Value) : argsOk "filter.__next__" ⟨[a], []⟩ := by unfold argsOk; kernel_rfl
theorem slot_filter_iter : Slot "filter" "__iter__" "filter.__iter__" :=
  .of (owner := "filter") (n := "__iter__") (by rw [typeLookup_type, builtinLookup_eq_fast]; kernel_rfl) (by decide +kernel) (by decide +kernel) (by decide +kernel)
    (by first | exact .inl (by decide +kernel) | exact .inr (by decide +kernel)) (by rw [isSubtype_type]; kernel_rfl)
theorem entry_filter_iter : entryFor table "filter.__iter__" = some Builtin.«dict_keyiterator.__iter__» :=
  entryFor_alias (id' := "dict_keyiterator.__iter__") (by kernel_rfl) (by decide +kernel) (by decide +kernel) (by kernel_rfl)
theorem args_filter_iter (a : Value) : argsOk "filter.__iter__" ⟨[a], []⟩ := by unfold argsOk; kernel_rfl
theorem filter_no_len : typeLookup (.type "filter") "__len__" = pure none := by rw [typeLookup_type, builtinLookup_eq_fast]; kernel_rfl
theorem filter_no_hint : typeLookup (.type "filter") "__length_hint__" = pure none := by rw [typeLookup_type, builtinLookup_eq_fast]; kernel_rfl
section
variable {prog : Program} {w : World} {A : Around} {E : Value → Shared → Prop} {s : Shared}
theorem iter_next_item {it l : Addr} {i : Nat} {items : Array Value} {x : Value} {Q : Option Value → Shared → Prop} (hit : s.heap.IsListIter it l i) (hl : s.heap.IsList l items) (hx : items[i]? = some x)
    (hQ : ∀ h', h'.IsListIter it l (i + 1) → Heap.SameBut it s.heap h' → Q (some x) { s with heap := h' }) : wpAny (model prog w) A (callSpecial? (.ref it) "__next__") Q E s := by
  obtain ⟨o, ho, hc, hd⟩ := id hit
  obtain ⟨ol, hol, _, nl, hdl⟩ := hl
  refine wpAny_callSpecial?_slot (name := Str.ofString "__next__") hit.typeIs slot_listiter_next
    (wpAny_call_entry slot_listiter_next hit.typeIs entry_listiter_next ?_ (args_listiter_next _))
  show wpAny _ _ (field (.ref it) 0 >>= _) _ _ s
  refine wpAny_bind (wpAny_field ho hd (x := .ref l) rfl ?_)
  show wpAny _ _ (if (Value.ref l == Value.none) = true then _ else _) _ _ s
  rw [if_neg (show ¬ ((Value.ref l == Value.none) = true) from Bool.false_ne_true)]
  show wpAny _ _ (field (.ref it) 1 >>= _) _ _ s
  refine wpAny_bind (wpAny_field ho hd (x := .int i 0) rfl ?_)
  show wpAny _ _ (seqItems? (.ref l) >>= _) _ _ s
  refine wpAny_bind (wpAny_seqItems hol hdl ?_)
  simp only [Int.toNat_natCast, hx]
  refine wpAny_bind (wpAny_setField ho hd (by simp) (wpAny_pure ⟨x, rfl, hQ _ ?_ (Heap.SameBut.update ..)⟩))
  exact ⟨_, Heap.get?_update_self _ ho (Obj.isFreed_of_fields (Obj.data_mapFields hd _)), (Obj.cls_mapFields ..).trans hc, by
    rw [Obj.data_mapFields hd]; simp [rawInt]⟩
theorem iter_next_end {it l : Addr} {i : Nat} {items : Array Value} {Q : Option Value → Shared → Prop} (hh : A.handled = none) (hit : s.heap.IsListIter it l i) (hl : s.heap.IsList l items) (hx : items[i]? = none)
    (hE : ∀ h' e o, Heap.ExtBut it s.heap h' → h'.get? e = some o → o.cls = .type "StopIteration" → E (.ref e) { s with heap := h' }) : wpAny (model prog w) A (callSpecial? (.ref it) "__next__") Q E s := by
  obtain ⟨o, ho, hc, hd⟩ := id hit
  obtain ⟨ol, hol, _, nl, hdl⟩ := hl
  refine wpAny_callSpecial?_slot (name := Str.ofString "__next__") hit.typeIs slot_listiter_next
    (wpAny_call_entry slot_listiter_next hit.typeIs entry_listiter_next ?_ (args_listiter_next _))
  show wpAny _ _ (field (.ref it) 0 >>= _) _ _ s
  refine wpAny_bind (wpAny_field ho hd (x := .ref l) rfl ?_)
  show wpAny _ _ (if (Value.ref l == Value.none) = true then _ else _) _ _ s
  rw [if_neg (show ¬ ((Value.ref l == Value.none) = true) from Bool.false_ne_true)]
  show wpAny _ _ (field (.ref it) 1 >>= _) _ _ s
  refine wpAny_bind (wpAny_field ho hd (x := .int i 0) rfl ?_)
  show wpAny _ _ (seqItems? (.ref l) >>= _) _ _ s
  refine wpAny_bind (wpAny_seqItems hol hdl ?_)
  simp only [Int.toNat_natCast, hx]
  refine wpAny_bind (wpAny_rule (wpAny_bind (wpAny_setField ho hd (by simp) ?_)))
  show wpAny _ _ (newExc (.type "StopIteration") [] >>= _) _ _ _
  refine wpAny_bind ?_
  simp only [newExc, newTuple]
  refine wpAny_bind (wpAny_newObj_type ?_ (by size_fits))
  refine wpAny_bind (m := firstArgMember _ _) (wpAny_of_eq (a := Value.none) (by first | rfl | (simp only [firstArgMember]; rfl)) ?_)
  refine wpAny_newObj_type ?_ (by size_fits)
  simp only [raiseNew]
  refine wpAny_bind (wpAny_handled ?_)
  rw [show A.in1.handled = none from hh]
  refine wpAny_bind (wpAny_pure (wpAny_throw ?_))
  exact hE _ _ _ (((Heap.SameBut.update ..).extBut.push _).push _) (Heap.get?_push_size _ rfl) rfl
end

/-- the filter's parts in the heap: the filter F over the iterator IT of the list l, by the bound method BF of the set S -/
structure FiltAt (prog : Program) (w : World) (h : Heap) (F IT l BF S : Addr) (items : Array Value) (Sf : Str → Bool) (c j : Nat) : Prop where
  f : h.get? F = some (filtObj (.ref BF) IT)
  it : h.IsListIter IT l j
  l : h.IsList l items
  s : h.SetOf (strKind prog w) S Sf c
  b : h.get? BF = some (boundIn S)
theorem FiltAt.keep {prog : Program} {w : World} {h h' : Heap} {F IT l BF S : Addr} {items : Array Value} {Sf : Str → Bool} {c j : Nat} (x : FiltAt prog w h F IT l BF S items Sf c j)
    (hk : ∀ b ∈ [F, IT, l, BF, S], ∀ o, h.get? b = some o → h'.get? b = some o) : FiltAt prog w h' F IT l BF S items Sf c j := by
  refine ⟨hk _ (by simp) _ x.f, ?_, ?_, ?_, hk _ (by simp) _ x.b⟩
  · obtain ⟨o, ho, r⟩ := x.it; exact ⟨o, hk _ (by simp) _ ho, r⟩
  · obtain ⟨o, ho, r⟩ := x.l; exact ⟨o, hk _ (by simp) _ ho, r⟩
  · obtain ⟨o, es, ep, t, ho, r⟩ := x.s; exact ⟨o, es, ep, t, hk _ (by simp) _ ho, r⟩
theorem FiltAt.next {prog : Program} {w : World} {h h' : Heap} {F IT l BF S : Addr} {items : Array Value} {Sf : Str → Bool} {c j : Nat} (x : FiltAt prog w h F IT l BF S items Sf c j)
    (hF : F ≠ IT) (hl : l ≠ IT) (hB : BF ≠ IT) (hS : S ≠ IT) (hi : h'.IsListIter IT l (j + 1)) (hk : Heap.SameBut IT h h') : FiltAt prog w h' F IT l BF S items Sf c (j + 1) := by
  refine ⟨hk.extBut _ _ hF x.f, hi, ?_, ?_, hk.extBut _ _ hB x.b⟩
  · obtain ⟨o, ho, r⟩ := x.l; exact ⟨o, hk.extBut _ _ hl ho, r⟩
  · obtain ⟨o, es, ep, t, ho, r⟩ := x.s; exact ⟨o, es, ep, t, hk.extBut _ _ hS ho, r⟩

theorem strsAre_at {vs : List Value} {ys : List Str} (h : StrsAre vs ys) : ∀ {i : Nat} {v : Value}, vs[i]? = some v → ∃ y t, ys[i]? = some y ∧ v = .str y t := by
  induction h with
  | nil => intro i v e; simp at e
  | cons y t _ ih =>
    intro i v e
    cases i with
    | zero => simp at e; exact ⟨y, t, by simp, e.symm⟩
    | succ i => simp at e; simpa using ih e
theorem strsAre_length {vs : List Value} {ys : List Str} (h : StrsAre vs ys) : vs.length = ys.length := by
  induction h with
  | nil => rfl
  | cons _ _ _ ih => simp [ih]

section
variable {prog : Program} {w : World} {A : Around} {s : Shared} {R : Result → Shared → Prop} {F IT l BF S : Addr} {items : Array Value} {ys : List Str} {Sf : Str → Bool} {c : Nat}
theorem code_filter_next (hh : A.handled = none) (hy : StrsAre items.toList ys) (hF : F ≠ IT) (hl : l ≠ IT) (hB : BF ≠ IT) (hS : S ≠ IT) :
    ∀ (k j : Nat) (s : Shared), items.size - j = k → FiltAt prog w s.heap F IT l BF S items Sf c j →
      (∀ j' y t h' tk, j ≤ j' → ys[j']? = some y → Sf y = true → (∀ m z, j ≤ m → m < j' → ys[m]? = some z → Sf z = false) → FiltAt prog w h' F IT l BF S items Sf c (j' + 1) → (∀ b o, b ≠ IT → s.heap.get? b = some o → h'.get? b = some o) → R (.ok (.ret (.str y t))) { s with heap := h', toks := tk }) →
      (∀ h' tk e o, (∀ m z, j ≤ m → ys[m]? = some z → Sf z = false) → (∀ b o, b ≠ IT → s.heap.get? b = some o → h'.get? b = some o) → h'.get? e = some o → o.cls = .type "StopIteration" → R (.error (.ref e)) { s with heap := h', toks := tk }) →
      codeAny (model prog w) A (.builtin "filter.__next__" ⟨[.ref F], []⟩) R s := by
  intro k
  induction k with
  | zero =>
    intro j s hk x hR hE
    have hnone : items[j]? = none := Array.getElem?_eq_none (by omega)
    refine codeAny_builtin entry_filter_next ?_
    rw [Around.under_plainId slot_filter_next.plain _]
    show wpAny _ _ (field (.ref F) 0 >>= _) _ _ s
    refine wpAny_bind (wpAny_field x.f rfl (x := .ref BF) rfl ?_)
    refine wpAny_bind (wpAny_field x.f rfl (x := .ref IT) rfl ?_)
    refine wpAny_bind (iter_next_end hh x.it x.l hnone fun h' e o hx he hc => ?_)
    refine hE h' s.toks e o (fun m z hm hz => ?_) hx he hc
    have := List.getElem?_eq_some_iff.mp hz
    obtain ⟨hlt, _⟩ := this
    have e1 := strsAre_length hy
    rw [Array.length_toList] at e1
    omega
  | succ k ih =>
    intro j s hk x hR hE
    have hjlt : j < items.size := by omega
    have hsome : items[j]? = some items[j] := by simp [hjlt]
    obtain ⟨y, t, hyj, hv⟩ := strsAre_at hy (i := j) (v := items[j]) (by rw [Array.getElem?_toList]; exact hsome)
    refine codeAny_builtin entry_filter_next ?_
    rw [Around.under_plainId slot_filter_next.plain _]
    show wpAny _ _ (field (.ref F) 0 >>= _) _ _ s
    refine wpAny_bind (wpAny_field x.f rfl (x := .ref BF) rfl ?_)
    refine wpAny_bind (wpAny_field x.f rfl (x := .ref IT) rfl ?_)
    refine wpAny_bind (iter_next_item x.it x.l hsome fun h' hi hx => ?_)
    have x' := x.next hF hl hB hS hi hx
    rw [hv]
    refine wpAny_bind (wpAny_holding ?_)
    show wpAny _ _ (call (.ref BF) [.str y t] >>= fun good => holding [good] (truthy good)) _ _ _
    refine wpAny_bind (call_boundIn (s := { s with heap := h' }) x'.b x'.s ?_)
    refine wpAny_holding (wpAny_truthy_bool ?_)
    cases hs : Sf y with
    | true =>
      refine wpAny_pure ?_
      exact hR j y t h' _ (Nat.le_refl _) hyj hs (fun m z h1 h2 => absurd h1 (Nat.not_le.mpr h2)) x' hx.extBut
    | false =>
      refine wpAny_pure ⟨plainId_quiet slot_filter_next.plain _, ?_⟩
      refine ih (j + 1) { s with heap := h', toks := s.toks + 1 } (by omega) x' ?_ ?_
      · intro j' y' t' h'' tk hj' hy' hs' hm' x'' hk''
        refine hR j' y' t' h'' tk (by omega) hy' hs' (fun m z h1 h2 hz => ?_) x'' fun b o hb e => hk'' b o hb (hx.extBut b o hb e)
        rcases Nat.eq_or_lt_of_le h1 with rfl | h1
        · rw [hyj] at hz; cases hz; exact hs
        · exact hm' m z h1 h2 hz
      · intro h'' tk e o hm' hk'' he hc
        refine hE h'' tk e o (fun m z h1 hz => ?_) (fun b o hb e => hk'' b o hb (hx.extBut b o hb e)) he hc
        rcases Nat.eq_or_lt_of_le h1 with rfl | h1
        · rw [hyj] at hz; cases hz; exact hs
        · exact hm' m z h1 hz
end
end Mine


namespace Mine
open Builtin
theorem filter_at {α : Type} (p : α → Bool) (l : List α) (j : Nat) (a : α) (h : l[j]? = some a) (hp : p a = true) : (l.filter p)[((l.take j).filter p).length]? = some a := by
  have e : l = l.take j ++ a :: l.drop (j + 1) := by
    have hlt := (List.getElem?_eq_some_iff.mp h).1
    have h2 : l.drop j = l[j] :: l.drop (j + 1) := List.drop_eq_getElem_cons hlt
    have h3 : l[j] = a := (List.getElem?_eq_some_iff.mp h).2
    rw [h3] at h2
    rw [← h2, List.take_append_drop]
  have e2 : l.filter p = (l.take j).filter p ++ a :: (l.drop (j + 1)).filter p := by
    conv => lhs; rw [e]
    rw [List.filter_append, List.filter_cons_of_pos hp]
  rw [e2]; simp
theorem filter_skip {α : Type} (p : α → Bool) (l : List α) (j : Nat) : ∀ j', j ≤ j' → (∀ m z, j ≤ m → m < j' → l[m]? = some z → p z = false) → ((l.take j').filter p) = (l.take j).filter p := by
  intro j' hj
  induction hj with
  | refl => intro _; rfl
  | @step m hm ih =>
    intro hf
    have hlt : j ≤ m := hm
    rw [List.take_add_one, List.filter_append, ih fun k z h1 h2 hz => hf k z h1 (Nat.lt_succ_of_lt h2) hz]
    cases hz : l[m]? with
    | none => simp
    | some z => simp [hf m z hlt (Nat.lt_succ_self _) hz]
section
variable {prog : Program} {w : World} {A : Around} {s : Shared} {F IT l BF S : Addr} {items : Array Value} {ys : List Str} {Sf : Str → Bool} {c : Nat}
theorem pyNext_filter (hh : A.handled = none) (hy : StrsAre items.toList ys) (hF : F ≠ IT) (hl : l ≠ IT) (hB : BF ≠ IT) (hS : S ≠ IT) {j : Nat} {Q : Option Value → Shared → Prop} {E : Value → Shared → Prop} (x : FiltAt prog w s.heap F IT l BF S items Sf c j)
    (hQ : ∀ j' y t h' tk, j ≤ j' → ys[j']? = some y → Sf y = true → (∀ m z, j ≤ m → m < j' → ys[m]? = some z → Sf z = false) → FiltAt prog w h' F IT l BF S items Sf c (j' + 1) → (∀ b o, b ≠ IT → s.heap.get? b = some o → h'.get? b = some o) → Q (some (.str y t)) { s with heap := h', toks := tk })
    (hE : ∀ h' tk, (∀ m z, j ≤ m → ys[m]? = some z → Sf z = false) → (∀ b o, b ≠ IT → s.heap.get? b = some o → h'.get? b = some o) → Q none { s with heap := h', toks := tk }) :
    wpAny (model prog w) A (pyNext (.ref F)) Q E s := by
  have hT : s.TypeIs (.ref F) "filter" := ⟨_, x.f, rfl⟩
  unfold pyNext
  refine wpAny_bind (wpAny_attempt (wpAny_callSpecial?_slot (name := Str.ofString "__next__") hT slot_filter_next (wpAny_call ?_)))
  refine codeAny_call_builtin_code (plainId_quiet slot_filter_next.plain _) (slot_filter_next.check _ _ _ _ _ _ _ _ hT (args_filter_next _) ?_)
  refine code_filter_next (A := A) hh hy hF hl hB hS _ j s rfl x ?_ ?_
  · intro j' y t h' tk h1 h2 h3 h4 h5 h6
    exact wpAny_pure (hQ j' y t h' tk h1 h2 h3 h4 h5 h6)
  · intro h' tk e o h1 h2 h3 h4
    refine wpAny_bind (wpAny_isInstance (T := "StopIteration") (b := true) ⟨_, h3, h4⟩ isSubtype_stop ?_)
    exact wpAny_pure (hE h' tk h1 h2)
theorem walks_filter (hh : A.handled = none) (hy : StrsAre items.toList ys) (hF : F ≠ IT) (hl : l ≠ IT) (hB : BF ≠ IT) (hS : S ≠ IT) :
    Walks prog w A F [F, IT, l, BF, S] [IT] (ys.filter Sf).length (fun i v => ∃ y t, (ys.filter Sf)[i]? = some y ∧ v = .str y t)
      (fun i h => ∃ j, FiltAt prog w h F IT l BF S items Sf c j ∧ ((ys.take j).filter Sf).length = i) where
  sub := fun b hb => by rw [List.mem_singleton.mp hb]; simp
  frame := fun i h h' st hk => by
    obtain ⟨j, x, e⟩ := st
    exact ⟨j, x.keep hk, e⟩
  item := fun i s Q E hi st hQ => by
    obtain ⟨j, x, e⟩ := st
    refine pyNext_filter hh hy hF hl hB hS x ?_ ?_
    · intro j' y t h' tk h1 h2 h3 h4 h5 h6
      have e1 := filter_skip Sf ys j j' h1 h4
      have e2 := filter_at Sf ys j' y h2 h3
      rw [e1, e] at e2
      refine hQ _ h' tk ⟨y, t, e2, rfl⟩ ⟨j' + 1, h5, ?_⟩ fun b o hb eb => h6 b o (fun q => hb (by simp [q])) eb
      rw [List.take_add_one, h2, List.filter_append, e1, List.length_append, e]; simp [h3]
    · intro h' tk h1 h2
      exfalso
      have e1 := filter_skip Sf ys j (max j ys.length) (Nat.le_max_left _ _) (fun m z a _ hz => h1 m z a hz)
      rw [List.take_of_length_le (Nat.le_max_right _ _)] at e1
      rw [e1] at hi; omega
  done := fun s Q E st hQ => by
    obtain ⟨j, x, e⟩ := st
    refine pyNext_filter hh hy hF hl hB hS x ?_ ?_
    · intro j' y t h' tk h1 h2 h3 h4 h5 h6
      exfalso
      have e1 := filter_skip Sf ys j j' h1 h4
      have e2 := filter_at Sf ys j' y h2 h3
      rw [e1, e] at e2
      have := (List.getElem?_eq_some_iff.mp e2).1
      omega
    · intro h' tk h1 h2
      exact hQ h' tk fun b o hb eb => h2 b o (fun q => hb (by simp [q])) eb
  self := fun i s Q E st hQ => by
    obtain ⟨j, x, e⟩ := st
    have hT : s.TypeIs (.ref F) "filter" := ⟨_, x.f, rfl⟩
    refine wpAny_pyIter_slot hT slot_filter_iter (wpAny_call_entry slot_filter_iter hT entry_filter_iter ?_ (args_filter_iter _))
    show wpAny _ _ (ret (.ref F)) _ _ s
    exact wpAny_pure ⟨_, rfl, "filter", _, hT, slot_filter_next.lookup, hQ⟩
end
section
variable {prog : Program} {w : World} {A : Around} {s : Shared} {R : Result → Shared → Prop} {E : Value → Shared → Prop}
variable {I : Addr} {fp wr : List Addr} {G : Array GenState → Array GenState → Prop} {n : Nat} {P : Nat → Value → Prop} {St : Nat → Shared → Prop}
theorem extend_filter (W : WalksS prog w A.in1 I fp wr G n P St) (hT : ∀ i s, St i s → s.TypeIs (.ref I) "filter") (S : Addr) (res : Value) (c₀ : Nat) (hst : St 0 s) (hSf : S ∉ fp) (hI : I ∈ fp)
    (hS : s.heap.get? S = some { cls := .type "list", data := .seq #[] c₀ })
    (hR : ∀ s' acc' c', Moved (S :: wr) G s s' → s'.heap.get? S = some { cls := .type "list", dict := none, data := .seq acc' c', slots := #[] } → ItemsOf P acc' n → R (.ok (.ret res)) s') (hn : n ≤ sizeLine) :
    wpAny (model prog w) A.in1 (Builtin.List.listExtendWith (.ref S) (.ref I) res)
      (fun fin s' => match fin with | .done f => R (.ok f) s' | .again c' => c'.quiet = true ∧ codeAny (model prog w) A c' R s') (fun e s' => R (.error e) s') s := by
  have hSI : S ≠ I := fun e => hSf (e ▸ hI)
  unfold Builtin.List.listExtendWith
  refine wpAny_bind (wpAny_typeOf (hT 0 _ hst) ?_)
  have h1 : Builtin.List.listSameRef (.ref S) (.ref I) = false := by simp [Builtin.List.listSameRef, hSI]
  have h2 : (Value.type "filter" == Value.type "list") = false := by decide
  have h3 : (Value.type "filter" == Value.type "tuple") = false := by decide
  simp only [h1, h2, h3, Bool.or_false, Bool.false_eq_true, if_false]
  refine wpAny_bind (W.self 0 _ _ _ hst ?_)
  refine wpAny_bind (wpAny_holding ?_)
  unfold Builtin.List.listLengthHint
  refine wpAny_bind (wpAny_specialOf (hT 0 _ hst) filter_no_len ?_)
  show wpAny _ A.in1 (specialOf (Value.ref I) (Str.ofString "__length_hint__") >>= _) _ _ _
  refine wpAny_bind (wpAny_specialOf (hT 0 _ hst) filter_no_hint ?_)
  refine wpAny_pure ?_
  show wpAny _ A.in1 (rule "list.extend.makes-room" >>= fun _ => Builtin.List.listTouch (.ref S) >>= fun _ =>
    again (.builtin "list.extend.loop" ⟨[.ref S, .ref I, res], []⟩)) _ _ _
  refine wpAny_bind (wpAny_rule ?_)
  refine wpAny_bind ?_
  show wpAny _ A.in1 (updateSeq S (·.push .none) >>= fun _ => updateSeq S (·.pop)) _ _ _
  refine wpAny_bind (wpAny_updateSeq hS rfl ?_)
  have hS₂ := Heap.get?_update_self (Obj.mapSeq (·.push Value.none)) hS rfl
  refine wpAny_updateSeq (hz := by seq_fits) hS₂ rfl ?_
  have hS₃ := Heap.get?_update_self (Obj.mapSeq (·.pop)) hS₂ rfl
  have oth : ∀ b o, b ≠ S → s.heap.get? b = some o → ((s.heap.update S (Obj.mapSeq (·.push Value.none))).update S (Obj.mapSeq (·.pop))).get? b = some o :=
    fun b o hb e => (Heap.get?_update_other _ _ (Ne.symm hb)).trans ((Heap.get?_update_other _ _ (Ne.symm hb)).trans e)
  refine wpAny_pure ⟨plainId_quiet F.plain_extend_loop _, codeAny_extend_loopS W hn _ hSf _ n 0 _ _ _ rfl (Nat.zero_le _)
    (W.frame 0 s _ s.toks hst (Nat.le_refl _) fun b hb o e => oth b o (fun h => hSf (h ▸ hb)) e) hS₃ (ItemsOf.nil P) fun s' acc' c' hm hS' hacc => ?_⟩
  exact hR s' acc' c' (Moved.trans W.gtrans ((Moved.refl W.grefl).then_heap (Nat.le_refl _) fun b o hb e => oth b o (fun h => hb (h ▸ List.mem_cons_self)) e) hm) hS' hacc
theorem list_init_filter (W : WalksS prog w A.in1 I fp wr G n P St) (hT : ∀ i s, St i s → s.TypeIs (.ref I) "filter") (S : Addr) (hst : St 0 s) (hSf : S ∉ fp) (hI : I ∈ fp)
    (hS : s.heap.get? S = some { cls := .type "list", data := .seq #[] })
    (hR : ∀ s' acc' c', Moved (S :: wr) G s s' → s'.heap.get? S = some { cls := .type "list", dict := none, data := .seq acc' c', slots := #[] } → ItemsOf P acc' n → R (.ok (.ret .none)) s') (hn : n ≤ sizeLine) :
    wpAny (model prog w) A.in1 (Builtin.«list.__init__» ⟨[.ref S, .ref I], []⟩)
      (fun fin s' => match fin with | .done f => R (.ok f) s' | .again c' => c'.quiet = true ∧ codeAny (model prog w) A c' R s') (fun e s' => R (.error e) s') s := by
  show wpAny _ A.in1 (do let old ← Builtin.List.listItems (.ref S); Builtin.List.listUpdate (.ref S) (fun _ => #[]); letGo old.toList.reverse; Builtin.List.listExtendWith (.ref S) (.ref I) .none) _ _ s
  refine wpAny_bind ?_
  unfold Builtin.List.listItems
  refine wpAny_bind (wpAny_seqItems hS rfl (wpAny_pure ?_))
  show wpAny _ A.in1 (updateSeq S (fun _ => #[]) >>= fun _ => letGo (#[] : Array Value).toList.reverse >>= fun _ => Builtin.List.listExtendWith (.ref S) (.ref I) .none) _ _ s
  refine wpAny_bind (wpAny_updateSeq hS rfl ?_)
  have hS₂ := Heap.get?_update_self (Obj.mapSeq (fun _ => (#[] : Array Value))) hS rfl
  have oth : ∀ b o, b ≠ S → s.heap.get? b = some o → (s.heap.update S (Obj.mapSeq (fun _ => (#[] : Array Value)))).get? b = some o :=
    fun b o hb e => (Heap.get?_update_other _ _ (Ne.symm hb)).trans e
  refine wpAny_bind (wpAny_letGo ?_)
  refine extend_filter (hn := hn) W hT S .none _ (W.frame 0 s _ s.toks hst (Nat.le_refl _) fun b hb o e => oth b o (fun h => hSf (h ▸ hb)) e) hSf hI hS₂ fun s' acc' c' hm hS' hacc => ?_
  exact hR s' acc' c' (Moved.trans W.gtrans ((Moved.refl W.grefl).then_heap (Nat.le_refl _) fun b o hb e => oth b o (fun h => hb (h ▸ List.mem_cons_self)) e) hm) hS' hacc
theorem call_list_filter {Q : Value → Shared → Prop} (W : WalksS prog w A.in1.in1 I fp wr G n P St) (hT : ∀ i s, St i s → s.TypeIs (.ref I) "filter") (hst : St 0 s) (hfp : ∀ b ∈ fp, b < s.heap.objs.size) (hI : I ∈ fp)
    (hQ : ∀ s' acc' c', Moved (s.heap.objs.size :: wr) G { s with heap := s.heap.push { cls := .type "list", data := .seq #[] } } s' →
      s'.heap.get? s.heap.objs.size = some { cls := .type "list", dict := none, data := .seq acc' c', slots := #[] } → ItemsOf P acc' n → Q (.ref s.heap.objs.size) s') (hn : n ≤ sizeLine) :
    wpAny (model prog w) A (call (.type "list") [.ref I]) Q E s := by
  have hSf : s.heap.objs.size ∉ fp := fun hm => Nat.lt_irrefl _ (hfp _ hm)
  refine callType_codes (Q₁ := fun obj s₁ => obj = .ref s.heap.objs.size ∧ s₁ = { s with heap := s.heap.push { cls := .type "list", data := .seq #[] } }) F.called_list (F.typeCall_list_1 _) F.entry_list_init
    (code_list_new _ ⟨rfl, rfl⟩) fun obj s₁ h₁ => ?_
  obtain ⟨rfl, rfl⟩ := h₁
  have hS : (s.heap.push { cls := .type "list", data := .seq #[] }).get? s.heap.objs.size = some { cls := .type "list", data := .seq #[] } := Heap.get?_push_size _ rfl
  refine ⟨⟨_, hS, rfl⟩, F.args_list_init_2 _ _, list_init_filter (hn := hn) W hT _ (W.frame 0 s _ s.toks hst (Nat.le_refl _) fun b _ o e => Heap.get?_push_of_some _ e) hSf hI hS fun s' acc' c' hm hS' hacc => ?_⟩
  exact ⟨rfl, hQ s' acc' c' hm hS' hacc⟩
end
end Mine


namespace Mine
open Builtin
theorem any_take_snoc {α : Type} [DecidableEq α] (l : List α) (i : Nat) (a : α) (h : l[i]? = some a) (k : α) : ((l.take (i + 1)).any (· == k)) = ((l.take i).any (· == k) || decide (k = a)) := by
  rw [List.take_add_one, h, List.any_append]
  by_cases e : a = k
  · subst e; simp
  · have e' : ¬ k = a := fun q => e q.symm
    simp [e, e']
section
variable {prog : Program} {w : World} {A : Around} {R : Result → Shared → Prop} {I : Addr} {fp wr : List Addr} {G : Array GenState → Array GenState → Prop} {n : Nat} {P : Nat → Value → Prop} {St : Nat → Shared → Prop}
theorem set_loop_strs (W : WalksS prog w A.in1 I fp wr G n P St) (S : Addr) (hSf : S ∉ fp) (ys : List Str) (hval : ∀ i v, P i v → ∃ y t, ys[i]? = some y ∧ v = .str y t) (hb : n + 1 < scanBound) :
    ∀ (k i c : Nat) (s : Shared), n - i = k → i ≤ n → c ≤ i → St i s → s.heap.SetOf (strKind prog w) S (fun k' => (ys.take i).any (· == k')) c →
      (∀ s' c', Moved (S :: wr) G s s' → s'.heap.SetOf (strKind prog w) S (fun k' => (ys.take n).any (· == k')) c' → R (.ok (.ret .none)) s') →
      codeAny (model prog w) A (.builtin "set.update.loop" ⟨[.ref S, .ref I], []⟩) R s := by
  have hSw : S ∉ wr := fun h => hSf (W.sub _ h)
  have hsub : ∀ b ∈ wr, b ∈ S :: wr := fun b hb => List.mem_cons_of_mem _ hb
  have keep : ∀ {s s' : Shared} {Sf : Str → Bool} {c : Nat}, Moved wr G s s' → s.heap.SetOf (strKind prog w) S Sf c → s'.heap.SetOf (strKind prog w) S Sf c := fun hm hS => by
    obtain ⟨o, es, ep, t, ho, rest⟩ := hS
    exact ⟨o, es, ep, t, hm.heap S _ hSw ho, rest⟩
  intro k
  induction k with
  | zero =>
    intro i c s hk hi hci hst hS hR
    obtain rfl : i = n := by omega
    refine codeAny_builtin F.entry_set_update_loop ?_
    rw [Around.under_plainId F.plain_set_update_loop _]
    show wpAny _ A.in1 (pyNext (.ref I) >>= _) _ _ s
    refine wpAny_bind (W.done s _ _ hst fun s' hm => ?_)
    show wpAny _ A.in1 (ret Value.none) _ _ s'
    exact wpAny_pure (hR s' c (hm.mono hsub) (keep hm hS))
  | succ k ih =>
    intro i c s hk hi hci hst hS hR
    have hlt : i < n := by omega
    refine codeAny_builtin F.entry_set_update_loop ?_
    rw [Around.under_plainId F.plain_set_update_loop _]
    show wpAny _ A.in1 (pyNext (.ref I) >>= _) _ _ s
    refine wpAny_bind (W.item i s _ _ hlt hst fun v s' hP hst' hm => ?_)
    obtain ⟨y, t, hyi, rfl⟩ := hval i v hP
    show wpAny _ A.in1 (holding [Value.str y t] (setAdd S (.str y t)) >>= _) _ _ s'
    refine wpAny_bind (wpAny_holding ?_)
    unfold setAdd
    refine wpAny_holding ?_
    refine wpAny_bind ((strKind prog w).pyHash (k := y) (strKind_is _ _ _ _) ?_)
    have hS' := keep hm hS
    refine wpAny_setAddHashed_of (knd := strKind prog w) (k := y) (s := { s' with toks := s'.toks + 1 }) (strKind_is _ _ _ _) rfl hS' (by omega) fun h' hsb hS2 => ?_
    refine wpAny_pure ⟨plainId_quiet F.plain_set_update_loop _, ih (i + 1) (if (ys.take i).any (· == y) = true then c else c + 1) _ (by omega) hlt (by split <;> omega) (W.frame _ s' _ _ hst' (Nat.le_succ _) fun b hb o e => ?_) ?_ fun s'' c'' hm'' hS'' => ?_⟩
    · rw [hsb.2 b (fun h : b = S => hSf (by rw [← h]; exact hb))]; exact e
    · have e : (fun k' => (ys.take (i + 1)).any (· == k')) = fun k' => ((ys.take i).any (· == k') || decide (k' = y)) := funext fun k' => any_take_snoc ys i y hyi k'
      rw [e]; exact hS2
    · refine hR s'' c'' (Moved.trans W.gtrans ((hm.mono hsub).then_heap (Nat.le_succ _) fun b o hb e => ?_) hm'') hS''
      rw [hsb.2 b (fun h : b = S => hb (by rw [h]; exact List.mem_cons_self))]; exact e
end
section
variable {prog : Program} {w : World} {A : Around} {E : Value → Shared → Prop} {s : Shared}
set_option maxHeartbeats 8000000 in
theorem call_set_strs {l : Addr} {items : Array Value} {ys : List Str} {Q : Value → Shared → Prop} (hh : A.handled = none) (hl : s.heap.IsList l items) (hi : StrsAre items.toList ys) (hb : items.size + 1 < scanBound)
    (h : ∀ (h' : Heap) (tk c : Nat), h'.SetOf (strKind prog w) s.heap.objs.size (fun k' => ys.any (· == k')) c → (∀ b o, b < s.heap.objs.size → s.heap.get? b = some o → h'.get? b = some o) → Q (.ref s.heap.objs.size) { s with heap := h', toks := tk }) :
    wpAny (model prog w) A (call (.type "set") [.ref l]) Q E s := by
  obtain ⟨c, tl, hmro⟩ := F.called_set.mro
  have hmade := F.called_set.made
  have hsub := F.called_set.sub
  refine wpAny_call (codeAny_of_tree ?_)
  show wpAny _ _ (callAny (.type "set") _) _ _ _
  refine wpAny_pure ⟨Code.quiet_builtin _ (by decide +kernel), codeAny_builtin F.entry_type_call ?_⟩
  rw [Around.under_plain (weight_type_call_type "set" [.ref l] []) rfl]
  have h1 := F.called_set.notType
  have h2 := F.called_set.canCreate
  have hct := F.typeCall_set_1 (.ref l)
  repeat (any_goals (first | assumption | wp_step))
  refine codeAny_mono (code_set_new_1 (.ref l) (E := E) (Q₁ := fun obj s₁ => ∃ led : Bool, obj = .ref s.heap.objs.size ∧ s₁ = { s with heap := s.heap.push { cls := .type "set", dict := none, data := .set #[] 0 (.fresh 0 0 led) } }) fun led => ⟨led, rfl, rfl⟩) fun r s₁ hr => ?_
  cases r with
  | error e => exact hr
  | ok fl =>
    cases fl with
    | ret obj =>
      obtain ⟨led, rfl, rfl⟩ := hr
      have hS : (s.heap.push { cls := .type "set", dict := none, data := .set #[] 0 (.fresh 0 0 led) }).get? s.heap.objs.size = some { cls := .type "set", dict := none, data := .set #[] 0 (.fresh 0 0 led) } := Heap.get?_push_size _ rfl
      have hT : Shared.TypeIs { s with heap := s.heap.push { cls := .type "set", dict := none, data := .set #[] 0 (.fresh 0 0 led) } } (.ref s.heap.objs.size) "set" := ⟨_, hS, rfl⟩
      have hli := F.called_set.init.lookup
      have hbi := F.called_set.init.bind (.ref s.heap.objs.size)
      repeat (any_goals (first | assumption | wp_step))
      refine codeAny_mono (codeAny_call_builtin (R := wants (fun r s₂ => r = .none ∧ ∃ h' tk c, s₂ = { s with heap := h', toks := tk } ∧
          h'.SetOf (strKind prog w) s.heap.objs.size (fun k' => ys.any (· == k')) c ∧
          (∀ b o, b < s.heap.objs.size → s.heap.get? b = some o → h'.get? b = some o)) E) F.called_set.init.plain F.entry_set_init (check_set_init_1 hT ?_)) fun r₂ s₂ hr₂ => ?_
      · obtain ⟨ol, hol, hcl, nl, hdl⟩ := hl
        obtain ⟨ocls, odict, odata, oslots⟩ := ol
        simp only at hcl hdl
        subst hcl; subst hdl
        have hol' : (s.heap.push { cls := .type "set", dict := none, data := .set #[] 0 (.fresh 0 0 led) }).get? l = some { cls := .type "list", dict := odict, data := .seq items nl, slots := oslots } := Heap.get?_push_of_some _ hol
        have hsls := F.sub_list_set
        have hslf := F.sub_list_frozenset
        have hne : (Value.type "list" == Value.type "dict") = false := by decide
        have hl1 : (s.heap.push { cls := .type "set", dict := none, data := .set #[] 0 (.fresh 0 0 led) }).IsList l items := ⟨_, hol', rfl, nl, rfl⟩
        unfold Builtin.«set.__init__» noKeywords Builtin.Frozenset.updateFrom
        generalize hPI : pyIter = PI
        wp_walk
        subst hPI
        refine wpAny_pyIter_list hl1 ?_
        refine wpAny_bind (wpAny_runValue ?_)
        have hlS : l < s.heap.objs.size := Heap.lt_size hol
        have hh3 : A.in1.in1.in1.handled = none := by simp [hh]
        have hneI : l ≠ (s.heap.push { cls := .type "set", dict := none, data := .set #[] 0 (.fresh 0 0 led) }).objs.size := by
          rw [Heap.size_push]; exact Nat.ne_of_lt (Nat.lt_succ_of_lt hlS)
        have hSf : s.heap.objs.size ∉ [(s.heap.push { cls := .type "set", dict := none, data := .set #[] 0 (.fresh 0 0 led) }).objs.size, l] := by
          rw [Heap.size_push]; simp only [List.mem_cons, List.mem_singleton, List.not_mem_nil, or_false, not_or]
          exact ⟨Nat.ne_of_lt (Nat.lt_succ_self _), Nat.ne_of_gt hlS⟩
        have hval : ∀ (i : Nat) (v : Value), items[i]? = some v → ∃ y t, ys[i]? = some y ∧ v = .str y t := fun i v hv =>
          strsAre_at hi (by rw [Array.getElem?_toList]; exact hv)
        have hyn : ys.take items.size = ys := List.take_of_length_le (by have := strsAre_length hi; rw [Array.length_toList] at this; omega)
        refine set_loop_strs ((Walks.list hh3 _ l hneI items).toS) s.heap.objs.size
          hSf ys hval hb (items.size - 0) 0 0 _ (by omega) (Nat.zero_le _) (Nat.le_refl _)
          ⟨⟨_, Heap.get?_push_size _ rfl, rfl, rfl⟩, (hl1.push _)⟩ ?hS0 ?hR
        case hS0 =>
          have hget : ((s.heap.push { cls := .type "set", dict := none, data := .set #[] 0 (.fresh 0 0 led) }).push { cls := .type "list_iterator", data := .fields #[.ref l, .int 0 0] }).get? s.heap.objs.size
              = some { cls := .type "set", dict := none, data := .set #[] 0 (.fresh 0 0 led) } := Heap.get?_push_of_some _ hS
          have q := (PyProof.Rows.setObjOf_fresh (knd := strKind prog w) led).setOf hget (by unfold scanBound; omega)
          have e : (fun k' => (ys.take 0).any (· == k')) = (fun _ : Str => false) := funext fun _ => rfl
          rw [e]; exact q
        case hR =>
          intro s' c' hm hS'
          rw [hyn] at hS'
          obtain ⟨h', g', d', tk', os'⟩ := s'
          have eg : g' = s.gens := hm.gens
          have ed : d' = s.drawn := hm.drawn
          have eo : os' = s.os := hm.os
          subst eg; subst ed; subst eo
          show wpAny _ _ _ _ _ _
          refine wpAny_pure ?_
          show wpAny _ _ (ret Value.none) _ _ _
          refine wpAny_pure ⟨rfl, h', tk', c', rfl, hS', fun b o hb e => ?_⟩
          have hb1 : b ≠ s.heap.objs.size := Nat.ne_of_lt hb
          have hb2 : b ≠ (s.heap.push { cls := .type "set", dict := none, data := .set #[] 0 (.fresh 0 0 led) }).objs.size := by
            rw [Heap.size_push]; exact Nat.ne_of_lt (Nat.lt_succ_of_lt hb)
          exact hm.heap b o (by simp only [List.mem_cons, List.mem_singleton, List.not_mem_nil, or_false, not_or]; exact ⟨hb1, hb2⟩) (Heap.get?_push_of_some _ (Heap.get?_push_of_some _ e))
      · cases r₂ with
        | error e => exact hr₂
        | ok fl₂ =>
          cases fl₂ with
          | ret r =>
            obtain ⟨rfl, h', tk, c', rfl, hS', hk'⟩ := hr₂
            repeat (any_goals (first | assumption | wp_step))
            exact h _ _ _ hS' hk'
          | _ => exact hr₂.elim
    | _ => exact hr.elim
end
end Mine


namespace Mine
/-- an object that is the set of just these texts -/
def TextSet (prog : Program) (w : World) (o : Obj) (Sf : Str → Bool) : Prop := ∃ c, c < scanBound ∧ o.SetObjOf (strKind prog w) Sf c
theorem strsAre_of {vs : List Value} {ys : List Str} (hl : vs.length = ys.length) (h : ∀ (i : Nat) (v : Value), vs[i]? = some v → ∃ y t, ys[i]? = some y ∧ v = .str y t) : StrsAre vs ys := by
  induction vs generalizing ys with
  | nil =>
    cases ys with
    | nil => exact .nil
    | cons _ _ => simp at hl
  | cons v vs ih =>
    cases ys with
    | nil => simp at hl
    | cons y ys =>
      obtain ⟨y', t, e, rfl⟩ := h 0 v (by simp)
      simp at e; subst e
      exact .cons _ _ (ih (by simpa using hl) fun i u hu => by simpa using h (i + 1) u (by simpa using hu))
section
variable {prog : Program} {w : World} {A : Around} {E : Value → Shared → Prop} {s : Shared} {h₀ : Heap} {L : Addr} {m : Str → Option Value} {news : Led}
theorem set_L {l : Addr} {us : List Value} {ys : List Str} {n : Nat} {Q : Value → Shared → Prop} (F : Fr h₀ L s.heap m) (N : News h₀ L s.heap news) (hl : (l, listOf us.toArray n) ∈ news) (hy : StrsAre us ys) (hz : us.length ≤ 1000) (hh : A.handled = none)
    (h : ∀ a o h' tk, Fr h₀ L h' m → News h₀ L h' ((a, o) :: news) → (∀ p ∈ news, p.1 < a) → TextSet prog w o (fun k => ys.any (· == k)) → Q (.ref a) { s with heap := h', toks := tk }) :
    wpAny (model prog w) A (call (.type "set") [.ref l]) Q E s := by
  refine call_set_strs (items := us.toArray) (ys := ys) hh ⟨_, (N _ hl).1, rfl, _, rfl⟩ (by simpa using hy) (by rw [List.size_toArray]; unfold scanBound; omega) fun h' tk c hS hk => ?_
  obtain ⟨o, es, ep, t, ho, hex, hd, hel, hmem, hb, hf, hn⟩ := id hS
  have hso : o.SetObjOf (strKind prog w) (fun k => ys.any (· == k)) c := ⟨hex, es, ep, t, hd, hel, hmem, hn, hf⟩
  have hLlt : L < s.heap.objs.size := F.ns.lt
  refine h _ o h' tk ⟨F.ns.at' fun o' e => hk L o' hLlt e, fun b o' e => hk b o' (Heap.lt_size (F.keep b o' e)) (F.keep b o' e), F.above⟩ (fun p hp => ?_) (fun p hp => Heap.lt_size (N p hp).1) ⟨c, by omega, hso⟩
  rcases List.mem_cons.mp hp with rfl | hp
  · exact ⟨ho, Nat.ne_of_gt hLlt, next_is_new F⟩
  · exact ⟨hk _ _ (Heap.lt_size (N p hp).1) (N p hp).1, (N p hp).2⟩
theorem contains_L {a : Addr} {o : Obj} {Sf : Str → Bool} {ex : Bool} {Q : Value → Shared → Prop} (F : Fr h₀ L s.heap m) (N : News h₀ L s.heap news) (hm : (a, o) ∈ news) (hs : TextSet prog w o Sf)
    (h : ∀ b h' tk, Fr h₀ L h' m → News h₀ L h' ((b, boundIn a) :: news) → (∀ p ∈ news, p.1 < b) → Q (.ref b) { s with heap := h', toks := tk }) :
    wpAny (model prog w) A (getAttr (.ref a) (Str.ofString "__contains__") ex) Q E s := by
  obtain ⟨c, hc, ⟨h1, h2, h3⟩, es, ep, t, hd, _⟩ := hs
  obtain ⟨oc, od, odat, osl⟩ := o
  simp only at h1 h2 h3 hd
  subst h1 h2 h3 hd
  refine getAttr_contains (N _ hm).1 fun tk => ?_
  exact h _ _ _ (F.push _) (N.push F _) fun p hp => Heap.lt_size (N p hp).1
theorem filter_L {l b : Addr} {us : List Value} {n : Nat} {Q : Value → Shared → Prop} (F : Fr h₀ L s.heap m) (N : News h₀ L s.heap news) (hl : (l, listOf us.toArray n) ∈ news)
    (h : ∀ f it h', Fr h₀ L h' m → News h₀ L h' ((f, filtObj (.ref b) it) :: (it, listIterObj l 0) :: news) → (∀ p ∈ news, p.1 < it) → it < f → Q (.ref f) { s with heap := h' }) :
    wpAny (model prog w) A (call (.type "filter") [.ref b, .ref l]) Q E s := by
  refine call_filter (items := us.toArray) ⟨_, (N _ hl).1, rfl, _, rfl⟩ ?_
  have e : (s.heap.push (listIterObj l 0)).objs.size = s.heap.objs.size + 1 := Heap.size_push ..
  have F1 := F.push (listIterObj l 0)
  have N1 := N.push F (listIterObj l 0)
  have N2 := N1.push F1 (filtObj (.ref b) s.heap.objs.size)
  rw [e] at N2
  exact h _ _ _ (F1.push _) N2 (fun p hp => Heap.lt_size (N p hp).1) (Nat.lt_succ_self _)
theorem list_L {f it l b sa : Addr} {so : Obj} {us : List Value} {ys : List Str} {n : Nat} {Sf : Str → Bool} {Q : Value → Shared → Prop} (F : Fr h₀ L s.heap m) (N : News h₀ L s.heap ((f, filtObj (.ref b) it) :: (it, listIterObj l 0) :: news))
    (hl : (l, listOf us.toArray n) ∈ news) (hb : (b, boundIn sa) ∈ news) (hs : (sa, so) ∈ news) (hset : TextSet prog w so Sf) (hy : StrsAre us ys) (hoff : ∀ p ∈ news, p.1 < it) (hfi : it < f) (hz : us.length ≤ 1000) (hh : A.handled = none)
    (h : ∀ D vs c h' tk, Fr h₀ L h' m → News h₀ L h' ((D, listOf vs.toArray c) :: news) → (∀ p ∈ news, p.1 < D) → StrsAre vs (ys.filter Sf) → vs.length ≤ us.length → Q (.ref D) { s with heap := h', toks := tk }) :
    wpAny (model prog w) A (call (.type "list") [.ref f]) Q E s := by
  obtain ⟨c, hc, hso⟩ := hset
  have nf := N _ (List.mem_cons_self)
  have ni := N _ (List.mem_cons_of_mem _ List.mem_cons_self)
  have nn : News h₀ L s.heap news := fun p hp => N p (List.mem_cons_of_mem _ (List.mem_cons_of_mem _ hp))
  have W := (walks_filter (prog := prog) (w := w) (A := A.in1.in1) (F := f) (IT := it) (l := l) (BF := b) (S := sa) (items := us.toArray) (ys := ys) (Sf := Sf) (c := c) (by simpa using hh) (by simpa using hy) (Nat.ne_of_gt hfi) (Nat.ne_of_lt (hoff _ hl)) (Nat.ne_of_lt (hoff _ hb)) (Nat.ne_of_lt (hoff _ hs))).toS
  have hle : (ys.filter Sf).length ≤ 1000 := by
    have e1 := List.length_filter_le Sf ys
    have e2 := strsAre_length hy
    omega
  have hItLt : it < s.heap.objs.size := Heap.lt_size ni.1
  refine call_list_filter W (fun i s' st => by obtain ⟨j, x, _⟩ := st; exact ⟨_, x.f, rfl⟩) ⟨0, ⟨nf.1, ⟨_, ni.1, rfl, rfl⟩, ⟨_, (nn _ hl).1, rfl, _, rfl⟩, hso.setOf (nn _ hs).1 hc, (nn _ hb).1⟩, by simp⟩ ?_ (by simp) ?_ (Nat.le_trans hle (by decide))
  · intro a ha
    simp only [List.mem_cons, List.not_mem_nil, or_false] at ha
    rcases ha with rfl | rfl | rfl | rfl | rfl
    · exact Heap.lt_size nf.1
    · exact hItLt
    · exact Heap.lt_size (nn _ hl).1
    · exact Heap.lt_size (nn _ hb).1
    · exact Heap.lt_size (nn _ hs).1
  · intro s' acc' c' hm hD hit
    rw [Moved.eq_with hm]
    have keep : ∀ a o, a ≠ it → s.heap.get? a = some o → s'.heap.get? a = some o := fun a o ha e =>
      hm.heap a o (by simp only [List.mem_cons, List.not_mem_nil, or_false, not_or]; exact ⟨Nat.ne_of_lt (Heap.lt_size e), ha⟩) (Heap.get?_push_of_some _ e)
    have hLit : L ≠ it := Ne.symm ni.2.1
    have hst : StrsAre acc'.toList (ys.filter Sf) := strsAre_of (by rw [Array.length_toList]; exact hit.1) fun i v hv => hit.2 i v (by rw [← Array.getElem?_toList]; exact hv)
    refine h s.heap.objs.size acc'.toList c' s'.heap s'.toks ⟨F.ns.at' fun o e => keep L o hLit e, fun a o e => keep a o (fun q => by rw [q, ni.2.2] at e; cases e) (F.keep a o e), F.above⟩ (fun p hp => ?_) (fun p hp => Heap.lt_size (nn p hp).1) hst ?_
    · rcases List.mem_cons.mp hp with rfl | hp
      · exact ⟨hD, Nat.ne_of_gt F.ns.lt, next_is_new F⟩
      · exact ⟨keep _ _ (Nat.ne_of_lt (hoff p hp)) (nn p hp).1, (nn p hp).2⟩
    · have e1 := strsAre_length hst
      have e2 := List.length_filter_le Sf ys
      have e3 := strsAre_length hy
      omega
end
end Mine

local macro_rules | `(tactic| walk_at "call type:set") => `(tactic| (k_here; (with_reducible show wpAny _ _ (call (Value.type "set") [Value.ref _]) _ _ _); k_dflt (refine' Mine.set_L ?k1 ?k2 ?k3 ?k4 ?k5 rfl ?_; (case k1 => k_asm); (case k2 => k_asm); (case k3 => k_mem); (case k4 => assumption); (case k5 => first | assumption | omega); k_whole; intro a9 o9 h9 tk9 F9 N9 l9 T9; (try k_lt l9); (try k_sweep))))
local macro_rules | `(tactic| walk_at "getAttr ref") => `(tactic| (k_here; (with_reducible show wpAny _ _ (getAttr (Value.ref _) (Str.ofString "__contains__") _) _ _ _); k_dflt (refine' Mine.contains_L ?k1 ?k2 ?k3 ?k4 ?_; (case k1 => k_asm); (case k2 => k_asm); (case k4 => assumption); (case k3 => k_mem); k_whole; intro b9 h9 tk9 F9 N9 l9; (try k_lt l9); (try k_sweep))))
local macro_rules | `(tactic| walk_at "call type:filter") => `(tactic| (k_here; k_dflt (refine' Mine.filter_L ?k1 ?k2 ?k3 ?_; (case k1 => k_asm); (case k2 => k_asm); (case k3 => k_mem); k_whole; intro f9 i9 h9 F9 N9 l9 m9; (try k_lt2 m9); (try k_sweep))))
local macro_rules | `(tactic| walk_at "call type:list") => `(tactic| (k_here; (with_reducible show wpAny _ _ (call (Value.type "list") [Value.ref _]) _ _ _); k_dflt (refine' Mine.list_L ?k1 ?k2 ?k3 ?k4 ?k5 ?k6 ?k7 ?k8 ?k9 ?ka rfl ?_; (case k1 => k_asm); (case k2 => k_asm); (case k4 => k_mem); (case k5 => k_mem); (case k3 => k_mem); (case k6 => assumption); (case k7 => assumption); (case k8 => assumption); (case k9 => assumption); (case ka => first | assumption | omega); k_whole; intro D9 v9 c9 h9 tk9 F9 N9 l9 S9 z9; (try k_lt l9); (try k_sweep))))

namespace Mine
section
variable {prog : Program} {w : World} {A : Around} {E : Value → Shared → Prop} {s : Shared} {h₀ : Heap} {L : Addr} {m : Str → Option Value} {news : Led}
theorem add_L {l b : Addr} {vs ws : List Value} {n k : Nat} {Q : Value → Shared → Prop} (F : Fr h₀ L s.heap m) (N : News h₀ L s.heap news) (hl : (l, listOf vs.toArray n) ∈ news) (hb : (b, listOf ws.toArray k) ∈ news) (hz : vs.length + ws.length ≤ 2000000)
    (h : ∀ a h', Fr h₀ L h' m → News h₀ L h' ((a, listOf (vs ++ ws).toArray 0) :: news) → (∀ p ∈ news, p.1 < a) → Q (.ref a) { s with heap := h' }) : wpAny (model prog w) A (binaryOp .Add (.ref l) (.ref b)) Q E s :=
  add_lists F N ⟨_, (N _ hl).1, rfl, _, rfl⟩ ⟨_, (N _ hb).1, rfl, _, rfl⟩ (fun h' F' N' => h _ h' F' N' fun p hp => Heap.lt_size (N p hp).1) (Nat.le_trans hz (by decide))
end
end Mine

local macro_rules | `(tactic| walk_at "binaryOp Add ref ref") => `(tactic| (k_here; k_dflt (refine' Mine.add_L ?k1 ?k2 ?k3 ?k4 ?k5 ?_; (case k1 => k_asm); (case k2 => k_asm); (case k3 => k_mem); (case k4 => k_mem); (case k5 => omega); k_whole; intro a9 h9 F9 N9 l9; (try k_lt l9); (try k_sweep))))

namespace Mine
theorem merge_spec (w : World) (x1 d1 u1 r1 x2 d2 u2 r2 : Addr) (k1 k2 k3 k4 j1 j2 j3 j4 : Tok) (n1 n2 n3 n4 n5 n6 : Nat) (us1 us2 rs1 rs2 : List Value) (ys1 ys2 : List Str) (news : Led)
   (h1 : (x1, instObj 226 d1) ∈ news) (h2 : (d1, entDict w k1 k2 k3 k4 u1 r1 n1) ∈ news) (h3 : (u1, listOf us1.toArray n2) ∈ news) (h4 : (r1, listOf rs1.toArray n3) ∈ news)
   (g1 : (x2, instObj 226 d2) ∈ news) (g2 : (d2, entDict w j1 j2 j3 j4 u2 r2 n4) ∈ news) (g3 : (u2, listOf us2.toArray n5) ∈ news) (g4 : (r2, listOf rs2.toArray n6) ∈ news)
   (hy1 : StrsAre us1 ys1) (hy2 : StrsAre us2 ys2) (z1 : us1.length ≤ 1000) (z2 : us2.length ≤ 1000) (z3 : rs1.length ≤ 1000) (z4 : rs2.length ≤ 1000) :
   Spec w 400 4000 237 [.ref x1, .ref x2] [] news (fun r' news' => ∃ x d u r us a1 a2 a3 a4 c1 c2 c3, r' = .ref x ∧ news' = (x, instObj 226 d) :: (d, entDict w a1 a2 a3 a4 u r c3) :: (u, listOf us.toArray c2) :: (r, listOf (rs1 ++ rs2).toArray c1) :: news ∧
     StrsAre us (ys1.filter fun k => ys2.any (· == k)) ∧ us.length ≤ us1.length ∧ AllLt d news ∧ LtA d x ∧ LtA x u ∧ LtA u r) := by
  k_with_none
  k_with "getMethod ref" => ((k_here; (with_reducible show wpAny _ _ (getMethod (Value.ref _) (Str.ofString "search") _) _ _ _); k_dflt (refine' Mine.meth_search ?k1 ?k2 ?k3 ?k4 ?k5 ?_; (case k1 => k_asm); (case k2 => k_asm); (case k3 => k_is); (case k4 => rfl); (case k5 => rfl); k_whole)))
  k_with "call builtin:re.Pattern.search" => ((k_here; k_dflt (refine' Mine.call_search ?k1 ?k2 ?k3 ?k4 ?k5 ?_; (case k1 => k_asm); (case k2 => k_asm); (case k3 => k_is); (case k4 => rfl); (case k5 => first | with_reducible exact Mine.srchN _ _ _ (by assumption) | with_reducible exact Mine.srchV _ _ _ (by assumption)); k_whole)))
  k_with "mine use" => (((case k1 => k_asm); (case k2 => k_asm); (case k3 => k_asm); (case k4 => k_asm); (case k5 => k_asm); (case kd => exact Nat.le_of_ble_eq_true rfl); (case ku => exact Nat.le_of_ble_eq_true rfl)))
  k_with "mine lt" => ((walk_at "mine and"; first | omega | assumption | exact allLt_of (by assumption) | exact Mine.ltUp (by omega) (by assumption) | exact Mine.ltUp (by omega) (allLt_of (by assumption))))
  k_with "mine letter" => (first | assumption | exact Mine.Letter.lower (by assumption) | exact Mine.Letter.upper (by assumption) | exact Mine.Letter.lower (Mine.Letter.upper (by assumption)))
  k_with "call builtin:str.lower" => ((k_here; k_dflt (refine Mine.lower_L (by walk_at "mine letter") ?_)))
  k_with "call builtin:str.upper" => ((k_here; k_dflt (refine Mine.upper_L (by walk_at "mine letter") ?_)))
  k_with "eval ListComp" => (k_extra "mine comp")
  k_with "CompRestT" => (k_extra "mine restT")
  k_with "CompRest" => (k_extra "mine rest")
  k_with "exec For Tuple Attribute cons nil" => (k_extra "mine for")
  k_with "exec For Tuple Name cons nil" => (k_extra "mine for")
  k_with "exec While Compare cons nil" => (k_extra "mine while")
  k_with "delItem ref" => ((k_here; k_dflt (refine' Mine.own_delItem ?F ?X ?I ?hQ ?hS ?hF ?_; (case F => k_asm); (case X => k_asm); (case I => k_inst); (case hS => k_is); (case hF => k_is); (case hQ => k_is); k_whole)))
  k_with "call ref" => ((k_here; k_dflt (refine' Mine.Spec.use (Mine.get_spec _ _ _ _ _ _ _ _ _ _ _ _ ?hx _ ?hH ?h1 ?h2 ?h3) ?k1 ?k2 ?k3 ?k4 ?k5 ?kd ?ku ?_; walk_at "mine use"; (case hx => walk_at "mine letter"); (case h2 => k_mem); (case h3 => k_mem); (case h1 => k_mem); (case hH => walk_at "mine hdrs"); k_whole; intro rG nG hG tkG FG NG RG; obtain ⟨eG, VG⟩ := RG; (have eG' := Eq.symm eG); (first | subst eG' | subst eG); (try dsimp only); (try k_sweep); (try k_fold))))
  k_with "mine hdrs" => (first | assumption | exact Mine.Hdrs.mono (by kcj_all) (by assumption))
  k_with "call ref" => ((k_here; k_dflt (refine' Mine.Spec.use (Mine.ent_spec _ _) ?k1 ?k2 ?k3 ?k4 ?k5 ?kd ?ku ?_; walk_at "mine use"; k_whole; intro rE nE hE tkE FE NE RE; obtain ⟨xE, dE, uE, vE, aE, bE, cE, fE, eE, eE', lE, mE, oE, pE⟩ := RE; subst eE eE'; (try (replace lE := Mine.ltOf lE; k_lt lE)); (try dsimp only); (try k_sweep); (try k_fold))))
  w_top off
  have : Challenge.rw_rl0103_01 = Challenge.rw_rl0103_01 ∧ Mine.hd.heap_39 = Mine.hd.heap_39 := by k_fill; exact ⟨rfl, rfl⟩
  intro cn names ig ic more a ccd cl outer A₀ base h₀ L m mean mg mb s Q E B F X N T hret
  k_steps
  refine hret _ ((_, instObj 226 _) :: (_, entDict w _ _ _ _ _ _ _) :: (_, listOf (List.toArray _) _) :: (_, listOf (rs1 ++ rs2).toArray _) :: news) _ _ (by k_asm) (cb_drop (by k_asm) (by kcj_all)) ⟨_, _, _, _, _, _, _, _, _, _, _, _, rfl, rfl, ?_, ?_, ?_, ?_, ?_, ?_⟩
  · assumption
  all_goals walk_at "mine lt"
end Mine

set_option hygiene false
set_option hygiene true


local macro_rules | `(tactic| walk_at "subscriptTail Name Constant ref int") => `(tactic| k_extra "subscriptTail Name Constant ref int")
local macro_rules | `(tactic| walk_at "subscriptTail Attribute Name Constant ref int") => `(tactic| k_extra "subscriptTail Attribute Name Constant ref int")

namespace Mine
def StEnd (h₀ : Heap) (L : Addr) (s : Shared) {σ : Type} (x : Str) (V : σ → Value) (G : σ → Led) (I : Nat → σ → Prop) (m : Str → Option Value) (n : Nat) (f : Flow) (s₃ : Shared) : Prop :=
  f = .next ∧ ∃ h' tk' m' nx n' c', s₃ = { s with heap := h', toks := tk' } ∧ Fr h₀ L h' m' ∧ m' x = some (V c') ∧ (∀ z, z ≠ x → m' z = m z) ∧ News h₀ L h' nx ∧ (∀ p ∈ G c', p ∈ nx) ∧ n' < n ∧ I n' c'
theorem StEnd.intro {h₀ : Heap} {L : Addr} {s : Shared} {σ : Type} {x : Str} {V : σ → Value} {G : σ → Led} {I : Nat → σ → Prop} {m : Str → Option Value} {n : Nat} {h' : Heap} {tk' : Nat} {m' : Str → Option Value} {nx : Led} (n' : Nat) (c' : σ)
    (F : Fr h₀ L h' m') (N : News h₀ L h' nx) (e1 : m' x = some (V c')) (e2 : ∀ z, z ≠ x → m' z = m z) (hG : ∀ p ∈ G c', p ∈ nx) (hn : n' < n) (hI : I n' c') : StEnd h₀ L s x V G I m n .next { s with heap := h', toks := tk' } :=
  ⟨rfl, h', tk', m', nx, n', c', rfl, F, e1, e2, N, hG, hn, hI⟩
/-- a while whose turns set the one name x and turn the ledger by a state -/
theorem while_st {prog : Program} {w : World} {A : Around} {E : Value → Shared → Prop} {Q : Flow → Shared → Prop} {s : Shared} {env : Env} {h₀ : Heap} {L : Addr} {test : Expr} {body : List Stmt} {pos : Pos} {m : Str → Option Value} {news : Led} {σ : Type}
    (x : Str) (V : σ → Value) (G : σ → Led) (I : Nat → σ → Prop) (c₀ : σ) (n₀ : Nat) (F : Fr h₀ L s.heap m) (N : News h₀ L s.heap news) (hx : m x = some (V c₀)) (hG : ∀ p ∈ G c₀, p ∈ news) (hI : I n₀ c₀)
    (turn : ∀ n c h tk, Fr h₀ L h (fun z => if z = x then some (V c) else m z) → News h₀ L h (G c) → I n c →
      wpAny (model prog w) A (isTrue test env (eval test env)) (fun b s₂ =>
        if b = true then wpAny (model prog w) A (execs body env) (StEnd h₀ L s x V G I m n) E s₂ else Q .next s₂) E { s with heap := h, toks := tk })
    (hE : PassesOwn (model prog w) A env E := by passes_own) :
    wpAny (model prog w) A (exec (.While test body [] pos) env) Q E s := by
  have key : ∀ (m₁ : Str → Option Value) (v : Value), m₁ x = some v → (∀ z, z ≠ x → m₁ z = m z) → (fun z => if z = x then some v else m z) = m₁ := fun m₁ v h1 h2 => by
    funext z
    by_cases hz : z = x
    · subst hz; simp [h1]
    · simp [hz, h2 z hz]
  refine While_inv (fun n m₁ news₁ => ∃ c, m₁ x = some (V c) ∧ (∀ z, z ≠ x → m₁ z = m z) ∧ news₁ = G c ∧ I n c) F (fun p hp => N p (hG p hp)) ⟨c₀, hx, fun _ _ => rfl, rfl, hI⟩ ?_ hE
  rintro n m₁ news₁ h₁ tk₁ F₁ N₁ ⟨c, e1, e2, rfl, hc⟩
  refine wpAny_mono (turn n c h₁ tk₁ (by rw [key m₁ _ e1 e2]; exact F₁) N₁ hc) (fun b s₂ h₂ => ?_) fun _ _ e => e
  cases b with
  | false => exact h₂
  | true =>
    simp only [if_true] at h₂ ⊢
    refine wpAny_mono h₂ (fun f s₃ h₃ => ?_) fun _ _ e => e
    obtain ⟨rfl, h', tk', m', nx, n', c', rfl, F', a1, a2, N', a3, hn, hI'⟩ := h₃
    exact WhileStep.intro F' (fun p hp => N' p (a3 p hp)) hn ⟨c', a1, a2, rfl, hI'⟩
theorem strsAre_snoc {vs : List Value} {ys : List Str} (h : StrsAre vs ys) (y : Str) (t : Tok) : StrsAre (vs ++ [.str y t]) (ys ++ [y]) := by
  induction h with
  | nil => exact .cons _ _ .nil
  | cons _ _ _ ih => exact .cons _ _ ih
/-- the way up a table from a place -/
inductive Path (kvs : List (Str × Str)) : Str → List Str → Prop
  | last {x : Str} : kvs.find? (fun kv => Txt.lower kv.1 == Txt.lower (Txt.upper x)) = none → Path kvs x [x]
  | step {x k y : Str} {ps : List Str} : kvs.find? (fun kv => Txt.lower kv.1 == Txt.lower (Txt.upper x)) = some (k, y) → Letter y → Path kvs y ps → Path kvs x (x :: ps)
theorem road_spec (w : World) (t d l : Addr) (hs : Int) (kt : Tok) (n₁ n₃ : Nat) (vs : List Value) (kvs : List (Str × Str)) (x : Str) (tx : Tok) (hx : Letter x) (news : Led) (hH : Hdrs news vs kvs) (h1 : (l, listOf vs.toArray n₃) ∈ news) (h2 : (t, instObj 184 d) ∈ news) (h3 : (d, hdrDict hs kt l n₁) ∈ news)
   (ps : List Str) (hp : Path kvs x ps) (hps : ps.length ≤ 1000) :
   Spec w 350 3000 258 [.ref t, .str x tx] [] news (fun r' news' => ∃ x' d' u' r'' us a1 a2 a3 a4 c, r' = .ref x' ∧ news' = (x', instObj 226 d') :: (d', entDict w a1 a2 a3 a4 u' r'' 4) :: (u', listOf us.toArray c) :: (r'', listOf #[.str x tx] 1) :: news ∧ StrsAre us ps ∧ us.length ≤ 1000 ∧ AllLt d' news ∧ LtA d' x' ∧ LtA x' u' ∧ LtA u' r'') := by
  k_with_none
  k_with "getMethod ref" => ((k_here; (with_reducible show wpAny _ _ (getMethod (Value.ref _) (Str.ofString "search") _) _ _ _); k_dflt (refine' Mine.meth_search ?k1 ?k2 ?k3 ?k4 ?k5 ?_; (case k1 => k_asm); (case k2 => k_asm); (case k3 => k_is); (case k4 => rfl); (case k5 => rfl); k_whole)))
  k_with "call builtin:re.Pattern.search" => ((k_here; k_dflt (refine' Mine.call_search ?k1 ?k2 ?k3 ?k4 ?k5 ?_; (case k1 => k_asm); (case k2 => k_asm); (case k3 => k_is); (case k4 => rfl); (case k5 => first | with_reducible exact Mine.srchN _ _ _ (by assumption) | with_reducible exact Mine.srchV _ _ _ (by assumption)); k_whole)))
  k_with "mine use" => (((case k1 => k_asm); (case k2 => k_asm); (case k3 => k_asm); (case k4 => k_asm); (case k5 => k_asm); (case kd => exact Nat.le_of_ble_eq_true rfl); (case ku => exact Nat.le_of_ble_eq_true rfl)))
  k_with "mine lt" => ((walk_at "mine and"; first | omega | assumption | exact allLt_of (by assumption) | exact Mine.ltUp (by omega) (by assumption) | exact Mine.ltUp (by omega) (allLt_of (by assumption))))
  k_with "mine letter" => (first | assumption | exact Mine.Letter.lower (by assumption) | exact Mine.Letter.upper (by assumption) | exact Mine.Letter.lower (Mine.Letter.upper (by assumption)))
  k_with "call builtin:str.lower" => ((k_here; k_dflt (refine Mine.lower_L (by walk_at "mine letter") ?_)))
  k_with "call builtin:str.upper" => ((k_here; k_dflt (refine Mine.upper_L (by walk_at "mine letter") ?_)))
  k_with "eval ListComp" => (k_extra "mine comp")
  k_with "CompRestT" => (k_extra "mine restT")
  k_with "CompRest" => (k_extra "mine rest")
  k_with "exec For Tuple Attribute cons nil" => (k_extra "mine for")
  k_with "exec For Tuple Name cons nil" => (k_extra "mine for")
  k_with "exec While Compare cons nil" => (k_extra "mine while")
  k_with "delItem ref" => ((k_here; k_dflt (refine' Mine.own_delItem ?F ?X ?I ?hQ ?hS ?hF ?_; (case F => k_asm); (case X => k_asm); (case I => k_inst); (case hS => k_is); (case hF => k_is); (case hQ => k_is); k_whole)))
  k_with "call ref" => ((k_here; k_dflt (refine' Mine.Spec.use (Mine.get_spec _ _ _ _ _ _ _ _ _ _ _ _ ?hx _ ?hH ?h1 ?h2 ?h3) ?k1 ?k2 ?k3 ?k4 ?k5 ?kd ?ku ?_; walk_at "mine use"; (case hx => walk_at "mine letter"); (case h2 => k_mem); (case h3 => k_mem); (case h1 => k_mem); (case hH => walk_at "mine hdrs"); k_whole; intro rG nG hG tkG FG NG RG; obtain ⟨eG, VG⟩ := RG; (have eG' := Eq.symm eG); (first | subst eG' | subst eG); (try dsimp only); (try k_sweep); (try k_fold))))
  k_with "mine hdrs" => (first | assumption | exact Mine.Hdrs.mono (by kcj_all) (by assumption))
  k_with "call ref" => ((k_here; k_dflt (refine' Mine.Spec.use (Mine.ent_spec _ _) ?k1 ?k2 ?k3 ?k4 ?k5 ?kd ?ku ?_; walk_at "mine use"; k_whole; intro rE nE hE tkE FE NE RE; obtain ⟨xE, dE, uE, vE, aE, bE, cE, fE, eE, eE', lE, mE, oE, pE⟩ := RE; subst eE eE'; (try (replace lE := Mine.ltOf lE; k_lt lE)); (try dsimp only); (try k_sweep); (try k_fold))))
  k_with "call ref" => ((k_here; k_dflt (refine' Mine.Spec.use (Mine.merge_spec _ _ _ _ _ _ _ _ _ _ _ _ _ _ _ _ _ _ _ _ _ _ _ _ _ _ _ _ _ _ ?h1 ?h2 ?h3 ?h4 ?g1 ?g2 ?g3 ?g4 ?y1 ?y2 ?z1 ?z2 ?z3 ?z4) ?k1 ?k2 ?k3 ?k4 ?k5 ?kd ?ku ?_; walk_at "mine use"; (case h1 => k_mem); (case h2 => k_mem); (case h3 => k_mem); (case h4 => k_mem); (case g1 => k_mem); (case g2 => k_mem); (case g3 => k_mem); (case g4 => k_mem); (case y1 => walk_at "mine strs"); (case y2 => walk_at "mine strs"); (case z1 => walk_at "mine len"); (case z2 => walk_at "mine len"); (case z3 => walk_at "mine len"); (case z4 => walk_at "mine len"); k_whole; intro rM nM hM tkM FM NM RM; obtain ⟨xM, dM, uM, vM, sM, aM, bM, cM, fM, gM, iM, jM, eM, eM', SM, zM, lM, mM, oM, pM⟩ := RM; subst eM eM'; (try (replace lM := Mine.ltOf lM; k_lt lM)); (try dsimp only); (try k_sweep); (try k_fold))))
  k_with "mine strs" => (first | assumption | exact StrsAre.nil | (refine StrsAre.cons _ _ ?_; walk_at "mine strs"))
  k_with "mine len" => (first | assumption | omega | (simp only [List.length_cons, List.length_nil, List.length_append]; omega))
  k_with "mine hdrs" => (first | assumption | (refine Mine.Hdrs.mono ?hs9 (by assumption); kcj_all))
  k_with "subscriptTail Name Constant ref int" => (k_extra "mine item")
  k_with "subscriptTail Attribute Name Constant ref int" => (k_extra "mine item")
  w_top off
  have : Challenge.rw_rl0103_01 = Challenge.rw_rl0103_01 ∧ Mine.hd.heap_39 = Mine.hd.heap_39 := by k_fill; exact ⟨rfl, rfl⟩
  intro cn names ig ic more a ccd cl outer A₀ base h₀ L m mean mg mb s Q E B F X N T hret
  k_with "mine while" => (refine Mine.Hold.intro ?_)
  k_steps
  refine while_st (σ := List Value × Nat × List Str × List Str × Value) (Str.ofString "place") (fun c => c.2.2.2.2) (fun c => (uE, listOf c.1.toArray c.2.1) :: (xE, instObj 226 dE) :: (dE, entDict w aE bE cE fE uE vE 4) :: (vE, listOf #[.str x tx] 1) :: news)
    (fun n c => StrsAre c.1 c.2.2.1 ∧ c.2.2.1 ++ c.2.2.2.1 = ps ∧ n = c.2.2.2.1.length ∧ ((c.2.2.2.2 = .none ∧ c.2.2.2.1 = []) ∨ ∃ y t, c.2.2.2.2 = .str y t ∧ Letter y ∧ Path kvs y c.2.2.2.1)) ([], 0, [], ps, .str x tx) ps.length (by k_asm) (by k_asm) rfl (by kcj_all) ⟨.nil, rfl, rfl, .inr ⟨x, tx, rfl, hx, hp⟩⟩ ?_
  rintro n ⟨us, c, ys, rest, pv⟩ h tk F' N' ⟨hus, hys, hn, hpv⟩
  dsimp only at F' N' hus hys hn hpv
  have hl' : us.length ≤ 1000 := by
    have e1 := strsAre_length hus
    have e2 := congrArg List.length hys
    rw [List.length_append] at e2
    omega
  rcases hpv with ⟨rfl, rfl⟩ | ⟨y, t', rfl, ly, hpath⟩
  · k_steps
    simp only [List.append_nil] at hys
    refine hret _ ((xE, instObj 226 dE) :: (dE, entDict w aE bE cE fE uE vE 4) :: (uE, listOf us.toArray c) :: (vE, listOf #[.str x tx] 1) :: news) _ _ (by k_asm) (cb_drop (by k_asm) (by kcj_all)) ⟨_, _, _, _, _, _, _, _, _, _, rfl, rfl, hys ▸ hus, hl', ?_, ?_, ?_, ?_⟩
    all_goals walk_at "mine lt"
  · k_steps
    cases hpath with
    | last hf =>
      rw [hf] at VG
      subst VG
      refine StEnd.intro 0 (us ++ [.str y t'], c + 1, ys ++ [y], [], .none) (by k_asm) (by k_asm) rfl (by intro z hz; simp [hz]) (by kcj_all) (by simp at hn; omega) ⟨strsAre_snoc hus _ _, by simpa using hys, rfl, .inl ⟨rfl, rfl⟩⟩
    | @step _ k' y' rest' hf ly' hp' =>
      rw [hf] at VG
      obtain ⟨tv, rfl⟩ := VG
      refine StEnd.intro rest'.length (us ++ [.str y t'], c + 1, ys ++ [y], rest', .str y' tv) (by k_asm) (by k_asm) rfl (by intro z hz; simp [hz]) (by kcj_all) (by simp at hn; omega) ⟨strsAre_snoc hus _ _, by simpa using hys, rfl, .inr ⟨y', tv, rfl, ly', hp'⟩⟩
end Mine


namespace Mine
theorem isStrOf_at (k : Str) {vs : List Value} {ys : List Str} (h : StrsAre vs ys) : ∀ (i : Nat) (hi : i < vs.length), ∃ y, ys[i]? = some y ∧ isStrOf k vs[i] = (y == k) := by
  intro i hi
  obtain ⟨y, t, e, ev⟩ := strsAre_at h (i := i) (v := vs[i]) (by simp [hi])
  exact ⟨y, e, by rw [ev]; rfl⟩
section
variable {prog : Program} {w : World} {A : Around} {E : Value → Shared → Prop} {s : Shared} {h₀ : Heap} {L : Addr} {m : Str → Option Value} {news : Led}
theorem index_L {l : Addr} {us : List Value} {n : Nat} {a c : List Str} {mt : Str} {t : Tok} {Q : Value → Shared → Prop} (N : News h₀ L s.heap news) (hl : (l, listOf us.toArray n) ∈ news) (hy : StrsAre us (a ++ mt :: c)) (hm : mt ∉ a) (hz : us.length ≤ 1000)
    (h : Q (.int (a.length : Nat) s.toks) { s with toks := s.toks + 1 }) : wpAny (model prog w) A (call (.builtin "list.index") [.ref l, .str mt t]) Q E s := by
  have ho := (N _ hl).1
  have hlen := strsAre_length hy
  rw [List.length_append, List.length_cons] at hlen
  refine call_meets PySem.F.slot_list_index ⟨_, ho, rfl⟩ PySem.F.entry_list_index (PySem.F.args_list_index_2 _ _)
    (PySem.SeqAt.list_indexAt l us.toArray n none #[] (.str mt t) (isStrOf mt) a.length (by rw [List.size_toArray]; omega) (by omega) ?_ ?_) ⟨ho, fun y hy' => (eq_isStrOf mt t hy y (by simpa using hy')).at _ _, h⟩
  · obtain ⟨y, e, ev⟩ := isStrOf_at mt hy a.length (by omega)
    show isStrOf mt us[a.length] = true
    rw [ev]
    simp at e
    simp [e]
  · intro j hj hlt
    obtain ⟨y, e, ev⟩ := isStrOf_at mt hy j (by simpa using hj)
    show isStrOf mt us[j] = false
    rw [ev]
    rw [List.getElem?_append_left hlt] at e
    have hmem : y ∈ a := List.mem_of_getElem? e
    exact beq_eq_false_iff_ne.mpr fun q => hm (q ▸ hmem)
end
end Mine

local macro_rules | `(tactic| walk_at "call builtin:list.index") => `(tactic| k_extra "call builtin:list.index")

namespace Mine
section
variable {prog : Program} {w : World} {A : Around} {E : Value → Shared → Prop} {s : Shared} {h₀ : Heap} {L l : Addr} {m : Str → Option Value} {news : Led} {value slice : PySem.Expr} {us : List Value} {n : Nat} {Q : Value → Shared → Prop}
theorem upto_L {vu : Value} {k : Nat} (F : Fr h₀ L s.heap m) (N : News h₀ L s.heap news) (hl : (l, listOf us.toArray n) ∈ news) (pu : IsPart vu (some (k : Int))) (hz : us.length ≤ 1000000)
    (hs : subscripted slice false (.ref l) (.ref s.heap.objs.size) = operate [.ref s.heap.objs.size, .ref l] (getItem (.ref l) (.ref s.heap.objs.size))) (ht : ∀ r, letTemporaryGo value (.ref l) r = pure ())
    (h : ∀ D h', Fr h₀ L h' m → News h₀ L h' ((D, listOf (us.take k).toArray 0) :: news) → (∀ p ∈ news, p.1 < D) → Q (.ref D) { s with heap := h' }) :
    wpAny (model prog w) A (subscriptTail value slice (.ref l) (.ref s.heap.objs.size)) Q E { s with heap := s.heap.push { cls := .type "slice", data := .fields #[.none, vu, .none] } } := by
  refine kmk_slice F N (News.isList N hl) IsPart.none pu (fun D h' F' N' l1 => h D h' F' ?_ l1) hs ht (by rw [List.size_toArray]; exact Nat.le_trans hz (by decide))
  rw [slicePick_upto'] at N'
  exact N'
theorem rev_L {vk : Value} {ops : List Value} (F : Fr h₀ L s.heap m) (N : News h₀ L s.heap news) (hl : (l, listOf us.toArray n) ∈ news) (pk : IsPart vk (some (-1))) (hz : us.length ≤ 1000000)
    (hs : subscripted slice false (.ref l) (.ref s.heap.objs.size) = operate ops (getItem (.ref l) (.ref s.heap.objs.size))) (ht : ∀ r, letTemporaryGo value (.ref l) r = pure ())
    (h : ∀ D h', Fr h₀ L h' m → News h₀ L h' ((D, listOf us.reverse.toArray 0) :: news) → (∀ p ∈ news, p.1 < D) → Q (.ref D) { s with heap := h' }) :
    wpAny (model prog w) A (subscriptTail value slice (.ref l) (.ref s.heap.objs.size)) Q E { s with heap := s.heap.push { cls := .type "slice", data := .fields #[.none, .none, vk] } } :=
  krv_lit (its := us.toArray) (zs := us.reverse) F N (News.isList N hl) pk rfl h hs ht (by rw [List.size_toArray]; exact Nat.le_trans hz (by decide))
end
end Mine

local macro_rules | `(tactic| walk_at "subscriptTail Name Slice ref ref") => `(tactic| (k_here; (with_reducible show wpAny _ _ (subscriptTail _ (PySem.Expr.Slice none (some _) none _) (Value.ref _) (Value.ref _)) _ _ _); k_dflt (refine' Mine.upto_L ?F ?N ?l ?p ?z ?s ?t ?_; (case F => k_asm); (case N => k_asm); (case l => k_mem); (case p => exact IsPart.int _ _); (case z => first | omega | walk_at "mine len"); (case s => with_unfolding_all rfl); (case t => kmk_pure)); k_whole; intro D9 h9 F9 N9 l9; (try k_lt l9); (try k_sweep)))
local macro_rules | `(tactic| walk_at "subscriptTail Name Slice ref ref") => `(tactic| (k_here; (with_reducible show wpAny _ _ (subscriptTail _ (PySem.Expr.Slice none none (some _) _) (Value.ref _) (Value.ref _)) _ _ _); k_dflt (refine' Mine.rev_L ?F ?N ?l ?p ?z ?s ?t ?_; (case F => k_asm); (case N => k_asm); (case l => k_mem); (case p => exact IsPart.int _ _); (case z => first | omega | (simp only [List.length_take]; omega) | walk_at "mine len"); (case s => with_unfolding_all rfl); (case t => kmk_pure)); k_whole; intro D9 h9 F9 N9 l9; (try k_lt l9); (try k_sweep)))
local macro_rules | `(tactic| walk_at "binaryOp Add ref ref") => `(tactic| (k_here; k_dflt (refine' Mine.add_L ?k1 ?k2 ?k3 ?k4 ?k5 ?_; (case k1 => k_asm); (case k2 => k_asm); (case k3 => k_mem); (case k4 => k_mem); (case k5 => walk_at "mine len"); k_whole; intro a9 h9 F9 N9 l9; (try k_lt l9); (try k_sweep))))

namespace Mine
section
variable {prog : Program} {w : World} {A : Around} {E : Value → Shared → Prop} {s : Shared} {h₀ : Heap} {L D b : Addr} {m : Str → Option Value} {news news' : Led}
def extN (n : Nat) (ws : List Value) : Nat := if ws.isEmpty then n else n + 1
theorem extend_L {vs ws : List Value} {n n2 : Nat} {Q : Value → Shared → Prop} (F : Fr h₀ L s.heap m) (N : News h₀ L s.heap news) (hb : (b, listOf ws.toArray n2) ∈ news) (hz : vs.length + ws.length ≤ 100000)
    (U : Upd D (listOf vs.toArray n) (listOf (vs ++ ws).toArray (extN n ws)) news news')
    (h : ∀ h', Fr h₀ L h' m → News h₀ L h' news' → Q .none { s with heap := h' }) : wpAny (model prog w) A (call (.builtin "list.extend") [.ref D, .ref b]) Q E s := by
  have hk : vs.length + ws.length ≤ sizeLine := Nat.le_trans hz (by decide)
  have hd : ¬(!vs.toArray.isEmpty && Builtin.List.listTooLong (vs.toArray.size + ws.toArray.size)) = true := by
    rw [List.size_toArray, List.size_toArray]
    have : Builtin.List.listTooLong (vs.length + ws.length) = false := decide_eq_false (by omega)
    rw [this]
    simp
  have hz2 : vs.toArray.size + ws.toArray.size ≤ sizeLine + 1 := by rw [List.size_toArray, List.size_toArray]; omega
  have hz1 : vs.toArray.toList.length ≤ sizeLine := by show vs.length ≤ _; omega
  cases ws with
  | nil =>
    rw [List.append_nil] at U
    exact kxn_extend F N hb rfl U hd hz1 hz2 h
  | cons x ws => exact kl_extend F N hb rfl (by simp) U hd hz1 hz2 h
end
end Mine

local macro_rules | `(tactic| walk_at "call builtin:list.extend") => `(tactic| (k_here; (with_reducible show wpAny _ _ (call (Value.builtin _) [Value.ref _, Value.ref _]) _ _ _); k_dflt (refine' Mine.extend_L ?F ?N ?b ?z ?U ?_; (case F => k_asm); (case N => k_asm); (case b => k_mem); (case U => k_upd); (case z => walk_at "mine len"); k_whole); intro h' F' N'; (try k_sweep)))

namespace Mine
theorem Spec.frame {w : World} {D U : Nat} {f : Addr} {vs : List Value} {kw : List (Str × Value)} {news₀ news : Led} {Ret₀ Ret : Value → Led → Prop} (C : Spec w D U f vs kw news₀ Ret₀) (hs : ∀ p ∈ news₀, p ∈ news)
    (hr : ∀ r n', Ret₀ r n' → ∃ n'', (∀ p ∈ n'', p ∈ n') ∧ Ret r n'') : Spec w D U f vs kw news Ret := by
  intro cn names ig ic more a ccd cl outer A₀ base h₀ L m mean mg mb s Q E B F X N T hret
  refine C cn names ig ic more a ccd cl outer A₀ base h₀ L m mean mg mb s Q E B F X (cb_drop N hs) T ?_
  intro r n' h' tk' F' N' R
  obtain ⟨n'', e, R'⟩ := hr r n' R
  exact hret r n'' h' tk' F' (cb_drop N' e) R'
theorem Hdrs.mono' {news news' : Led} (hs : ∀ a xs, (a, tupOf xs) ∈ news → (a, tupOf xs) ∈ news') {vs : List Value} {kvs : List (Str × Str)} (h : Hdrs news vs kvs) : Hdrs news' vs kvs := by
  induction h with
  | nil => exact .nil
  | cons hk hv hm _ ih => exact .cons hk hv (hs _ _ hm) ih
/-- the tuples of a ledger lie in another -/
def TSub (tups news : Led) : Prop := ∀ a xs, (a, tupOf xs) ∈ tups → (a, tupOf xs) ∈ news
theorem TSub.nil {news : Led} : TSub [] news := fun _ _ h => nomatch h
theorem TSub.sub {tups news : Led} (h : ∀ p ∈ tups, p ∈ news) : TSub tups news := fun _ _ hm => h _ hm
theorem TSub.keep {b : Addr} {o : Obj} {r news : Led} (h : (b, o) ∈ news) (t : TSub r news) : TSub ((b, o) :: r) news := fun a xs hm => by
  rcases List.mem_cons.mp hm with e | hm
  · rw [e]; exact h
  · exact t a xs hm
theorem TSub.skip {b : Addr} {o : Obj} {r news : Led} (h : o.cls ≠ .type "tuple") (t : TSub r news) : TSub ((b, o) :: r) news := fun a xs hm => by
  rcases List.mem_cons.mp hm with e | hm
  · exact absurd (congrArg (fun p => p.2.cls) e).symm h
  · exact t a xs hm
/-- a ledger less one object -/
inductive DropAt (I : Addr) (it : Obj) : Led → Led → Prop
  | head {r : Led} : (∀ p ∈ r, p.1 ≠ I) → DropAt I it ((I, it) :: r) r
  | tail {p : Addr × Obj} {r r' : Led} : p.1 ≠ I → DropAt I it r r' → DropAt I it (p :: r) (p :: r')
theorem DropAt.out {I : Addr} {it : Obj} {l l' : Led} (h : DropAt I it l l') : (I, it) ∈ l ∧ (∀ p ∈ l', p ∈ l) ∧ ∀ p ∈ l', p.1 ≠ I := by
  induction h with
  | head h => exact ⟨.head _, fun p hp => .tail _ hp, h⟩
  | tail h _ ih =>
    refine ⟨.tail _ ih.1, fun p hp => ?_, fun p hp => ?_⟩
    · rcases List.mem_cons.mp hp with rfl | hp
      · exact .head _
      · exact .tail _ (ih.2.1 p hp)
    · rcases List.mem_cons.mp hp with rfl | hp
      · exact h
      · exact ih.2.2 p hp
theorem unrEnd_drop {h₀ : Heap} {L I : Addr} {it : Obj} {rest : (Str → Option Value) → List (Addr × Obj) → Prop} {s₁ : Shared} {h' : Heap} {tk : Nat} {m' : Str → Option Value} {all news' : List (Addr × Obj)} (F : Fr h₀ L h' m') (N : News h₀ L h' all)
    (D : DropAt I it all news') (r : rest m' news') : UnrEnd h₀ L s₁ I it rest { s₁ with heap := h', toks := tk } :=
  UnrEnd.intro F N news' (fun p hp => by
    rcases List.mem_cons.mp hp with rfl | hp
    · exact D.out.1
    · exact D.out.2.1 p hp) D.out.2.2 r
theorem tup_out {pre post : Led} {l a : Addr} {vs : Array Value} {n : Nat} {xs : Array Value} (h : (a, tupOf xs) ∈ pre ++ (l, listOf vs n) :: post) : (a, tupOf xs) ∈ pre ++ post := by
  rcases List.mem_append.mp h with h | h
  · exact List.mem_append.mpr (.inl h)
  · rcases List.mem_cons.mp h with h | h
    · exfalso
      have e := congrArg (fun p => p.2.cls) h
      simp at e
    · exact List.mem_append.mpr (.inr h)
theorem inst_out {pre post : Led} {l t d : Addr} {C : Addr} {vs : Array Value} {n : Nat} (h : (t, instObj C d) ∈ pre ++ (l, listOf vs n) :: post) : (t, instObj C d) ∈ pre ++ post := by
  rcases List.mem_append.mp h with h | h
  · exact List.mem_append.mpr (.inl h)
  · rcases List.mem_cons.mp h with h | h
    · exfalso
      have e := congrArg (fun p => p.2.cls) h
      simp at e
    · exact List.mem_append.mpr (.inr h)
theorem dict_out {pre post : Led} {l d l' : Addr} {hv : Int} {kt : Tok} {k : Nat} {vs : Array Value} {n : Nat} (h : (d, hdrDict hv kt l' k) ∈ pre ++ (l, listOf vs n) :: post) : (d, hdrDict hv kt l' k) ∈ pre ++ post := by
  rcases List.mem_append.mp h with h | h
  · exact List.mem_append.mpr (.inl h)
  · rcases List.mem_cons.mp h with h | h
    · exfalso
      have e := congrArg (fun p => p.2.cls) h
      simp [dictOf] at e
    · exact List.mem_append.mpr (.inr h)
theorem allLt_app {a l : Addr} {o : Obj} {pre post : Led} (h1 : AllLt a (pre ++ post)) (h2 : LtA l a) : AllLt a (pre ++ (l, o) :: post) := by
  refine allLt_of fun p hp => ?_
  rcases List.mem_append.mp hp with hp | hp
  · exact ltOf h1 p (List.mem_append.mpr (.inl hp))
  · rcases List.mem_cons.mp hp with rfl | hp
    · exact h2
    · exact ltOf h1 p (List.mem_append.mpr (.inr hp))
end Mine

set_option hygiene false
set_option hygiene true
local macro_rules | `(tactic| walk_at "UnrEnd") => `(tactic| k_extra "UnrEnd")

namespace Mine
theorem filter_meet (a1 c1 a2 c2 : List Str) (mt : Str) (h : ∀ y ∈ a1, y ∉ a2 ++ mt :: c2) : ∃ rest, (a1 ++ mt :: c1).filter (fun k => (a2 ++ mt :: c2).any (· == k)) = mt :: rest := by
  refine ⟨c1.filter (fun k => (a2 ++ mt :: c2).any (· == k)), ?_⟩
  have e : a1.filter (fun k => (a2 ++ mt :: c2).any (· == k)) = [] := by
    rw [List.filter_eq_nil_iff]
    intro y hy
    have := h y hy
    simp only [List.any_eq_true, beq_iff_eq, exists_eq_right, not_exists]
    simpa using this
  rw [List.filter_append, e, List.nil_append, List.filter_cons_of_pos (by simp)]
theorem strsAre_rev {vs : List Value} {ys : List Str} (h : StrsAre vs ys) : StrsAre vs.reverse ys.reverse := by
  induction h with
  | nil => exact .nil
  | cons _ _ _ ih => rw [List.reverse_cons, List.reverse_cons]; exact ih.append' (.cons _ _ .nil)
theorem way_spec (w : World) (x1 d1 u1 r1 x2 d2 u2 r2 : Addr) (k1 k2 k3 k4 j1 j2 j3 j4 : Tok) (n1 n2 n3 n4 n5 n6 : Nat) (us1 us2 rs1 rs2 : List Value) (a1 c1 a2 c2 : List Str) (mt : Str) (news : Led)
   (h1 : (x1, instObj 226 d1) ∈ news) (h2 : (d1, entDict w k1 k2 k3 k4 u1 r1 n1) ∈ news) (h3 : (u1, listOf us1.toArray n2) ∈ news) (h4 : (r1, listOf rs1.toArray n3) ∈ news)
   (g1 : (x2, instObj 226 d2) ∈ news) (g2 : (d2, entDict w j1 j2 j3 j4 u2 r2 n4) ∈ news) (g3 : (u2, listOf us2.toArray n5) ∈ news) (g4 : (r2, listOf rs2.toArray n6) ∈ news)
   (hy1 : StrsAre us1 (a1 ++ mt :: c1)) (hy2 : StrsAre us2 (a2 ++ mt :: c2)) (hd : ∀ y ∈ a1, y ∉ a2 ++ mt :: c2) (hm1 : mt ∉ a1) (hm : mt ∉ a2) (z1 : us1.length ≤ 100) (z2 : us2.length ≤ 100) (z3 : rs1.length ≤ 100) (z4 : rs2.length ≤ 100) :
   Spec w 350 3000 265 [.ref x1, .ref x2] [] news (fun r' news' => ∃ x d u r us b1 b2 b3 b4 e1 e2, r' = .ref x ∧ news' = (x, instObj 226 d) :: (d, entDict w b1 b2 b3 b4 u r 4) :: (u, listOf us.toArray e1) :: (r, listOf (rs1 ++ rs2).toArray e2) :: news ∧
     StrsAre us (a1 ++ mt :: a2.reverse) ∧ us.length ≤ 201 ∧ AllLt d news ∧ LtA d x ∧ LtA x u ∧ LtA u r) := by
  k_with_none
  k_with "getMethod ref" => ((k_here; (with_reducible show wpAny _ _ (getMethod (Value.ref _) (Str.ofString "search") _) _ _ _); k_dflt (refine' Mine.meth_search ?k1 ?k2 ?k3 ?k4 ?k5 ?_; (case k1 => k_asm); (case k2 => k_asm); (case k3 => k_is); (case k4 => rfl); (case k5 => rfl); k_whole)))
  k_with "call builtin:re.Pattern.search" => ((k_here; k_dflt (refine' Mine.call_search ?k1 ?k2 ?k3 ?k4 ?k5 ?_; (case k1 => k_asm); (case k2 => k_asm); (case k3 => k_is); (case k4 => rfl); (case k5 => first | with_reducible exact Mine.srchN _ _ _ (by assumption) | with_reducible exact Mine.srchV _ _ _ (by assumption)); k_whole)))
  k_with "mine use" => (((case k1 => k_asm); (case k2 => k_asm); (case k3 => k_asm); (case k4 => k_asm); (case k5 => k_asm); (case kd => exact Nat.le_of_ble_eq_true rfl); (case ku => exact Nat.le_of_ble_eq_true rfl)))
  k_with "mine lt" => ((walk_at "mine and"; first | omega | assumption | exact allLt_of (by assumption) | exact Mine.ltUp (by omega) (by assumption) | exact Mine.ltUp (by omega) (allLt_of (by assumption))))
  k_with "mine letter" => (first | assumption | exact Mine.Letter.lower (by assumption) | exact Mine.Letter.upper (by assumption) | exact Mine.Letter.lower (Mine.Letter.upper (by assumption)))
  k_with "call builtin:str.lower" => ((k_here; k_dflt (refine Mine.lower_L (by walk_at "mine letter") ?_)))
  k_with "call builtin:str.upper" => ((k_here; k_dflt (refine Mine.upper_L (by walk_at "mine letter") ?_)))
  k_with "eval ListComp" => (k_extra "mine comp")
  k_with "CompRestT" => (k_extra "mine restT")
  k_with "CompRest" => (k_extra "mine rest")
  k_with "exec For Tuple Attribute cons nil" => (k_extra "mine for")
  k_with "exec For Tuple Name cons nil" => (k_extra "mine for")
  k_with "exec While Compare cons nil" => (k_extra "mine while")
  k_with "delItem ref" => ((k_here; k_dflt (refine' Mine.own_delItem ?F ?X ?I ?hQ ?hS ?hF ?_; (case F => k_asm); (case X => k_asm); (case I => k_inst); (case hS => k_is); (case hF => k_is); (case hQ => k_is); k_whole)))
  k_with "call ref" => ((k_here; k_dflt (refine' Mine.Spec.use (Mine.get_spec _ _ _ _ _ _ _ _ _ _ _ _ ?hx _ ?hH ?h1 ?h2 ?h3) ?k1 ?k2 ?k3 ?k4 ?k5 ?kd ?ku ?_; walk_at "mine use"; (case hx => walk_at "mine letter"); (case h2 => k_mem); (case h3 => k_mem); (case h1 => k_mem); (case hH => walk_at "mine hdrs"); k_whole; intro rG nG hG tkG FG NG RG; obtain ⟨eG, VG⟩ := RG; (have eG' := Eq.symm eG); (first | subst eG' | subst eG); (try dsimp only); (try k_sweep); (try k_fold))))
  k_with "mine hdrs" => (first | assumption | exact Mine.Hdrs.mono (by kcj_all) (by assumption))
  k_with "call ref" => ((k_here; k_dflt (refine' Mine.Spec.use (Mine.ent_spec _ _) ?k1 ?k2 ?k3 ?k4 ?k5 ?kd ?ku ?_; walk_at "mine use"; k_whole; intro rE nE hE tkE FE NE RE; obtain ⟨xE, dE, uE, vE, aE, bE, cE, fE, eE, eE', lE, mE, oE, pE⟩ := RE; subst eE eE'; (try (replace lE := Mine.ltOf lE; k_lt lE)); (try dsimp only); (try k_sweep); (try k_fold))))
  k_with "call ref" => ((k_here; k_dflt (refine' Mine.Spec.use (Mine.merge_spec _ _ _ _ _ _ _ _ _ _ _ _ _ _ _ _ _ _ _ _ _ _ _ _ _ _ _ _ _ _ ?h1 ?h2 ?h3 ?h4 ?g1 ?g2 ?g3 ?g4 ?y1 ?y2 ?z1 ?z2 ?z3 ?z4) ?k1 ?k2 ?k3 ?k4 ?k5 ?kd ?ku ?_; walk_at "mine use"; (case h1 => k_mem); (case h2 => k_mem); (case h3 => k_mem); (case h4 => k_mem); (case g1 => k_mem); (case g2 => k_mem); (case g3 => k_mem); (case g4 => k_mem); (case y1 => walk_at "mine strs"); (case y2 => walk_at "mine strs"); (case z1 => walk_at "mine len"); (case z2 => walk_at "mine len"); (case z3 => walk_at "mine len"); (case z4 => walk_at "mine len"); k_whole; intro rM nM hM tkM FM NM RM; obtain ⟨xM, dM, uM, vM, sM, aM, bM, cM, fM, gM, iM, jM, eM, eM', SM, zM, lM, mM, oM, pM⟩ := RM; subst eM eM'; (try (replace lM := Mine.ltOf lM; k_lt lM)); (try dsimp only); (try k_sweep); (try k_fold))))
  k_with "mine strs" => (first | assumption | exact StrsAre.nil | (refine StrsAre.cons _ _ ?_; walk_at "mine strs"))
  k_with "mine len" => (first | assumption | omega | (simp only [List.length_cons, List.length_nil, List.length_append]; omega))
  k_with "mine hdrs" => (first | assumption | (refine Mine.Hdrs.mono ?hs9 (by assumption); kcj_all))
  k_with "subscriptTail Name Constant ref int" => (k_extra "mine item")
  k_with "subscriptTail Attribute Name Constant ref int" => (k_extra "mine item")
  k_with "call builtin:list.index" => ((k_here; k_dflt (refine' Mine.index_L ?k1 ?k2 ?k3 ?k4 ?k5 ?_; (case k1 => k_asm); (case k2 => k_mem); (case k3 => assumption); (case k4 => assumption); (case k5 => first | assumption | omega); k_whole)))
  k_with "mine len" => ((simp only [List.length_cons, List.length_nil, List.length_append, List.length_take, List.length_reverse]; omega))
  k_with "call ref" => ((k_here; k_dflt (refine' Mine.Spec.use (Mine.new_spec _ _) ?k1 ?k2 ?k3 ?k4 ?k5 ?kd ?ku ?_; walk_at "mine use"; k_whole; intro rN nN hN tkN FN NN RN; obtain ⟨tN, dN, lN, aN, bN, eN, eN', uN, vN, wN⟩ := RN; subst eN eN'; (try (replace uN := Mine.ltOf uN; k_lt uN)); (try dsimp only); (try k_sweep); (try k_fold))))
  k_with "mine letter" => ((show _ ∈ Mine.letters; decide +kernel))
  k_with "mine hdrs" => (exact Mine.Hdrs.nil)
  k_with "mine len" => (first | assumption | omega | (simp only [List.length_cons, List.length_nil, List.length_append, List.length_take, List.length_reverse] <;> omega) | (subst_vars; (simp only [List.length_cons, List.length_nil, List.length_append, List.length_take, List.length_reverse] <;> omega)))
  k_with "mine tsub" => (first | exact Mine.TSub.nil | exact Mine.TSub.sub (fun _ h => h) | (refine Mine.TSub.keep (by k_mem) ?_; walk_at "mine tsub") | (refine Mine.TSub.skip (by k_cls) ?_; walk_at "mine tsub") | exact Mine.TSub.sub (by kcj_all))
  k_with "mine drop" => (first | (refine' Mine.DropAt.head ?a; (case a => k_all)) | (refine' Mine.DropAt.tail ?a ?b; (case a => k_ne); (case b => walk_at "mine drop")))
  k_with "UnrEnd" => ((refine' Mine.unrEnd_drop ?k1 ?k2 ?k3 ?_; (case k1 => k_asm); (case k2 => k_asm); (case k3 => walk_at "mine drop")))
  w_top off
  have : Challenge.rw_rl0103_01 = Challenge.rw_rl0103_01 ∧ Mine.hd.heap_39 = Mine.hd.heap_39 := by k_fill; exact ⟨rfl, rfl⟩
  intro cn names ig ic more a ccd cl outer A₀ base h₀ L m mean mg mb s Q E B F X N T hret
  k_with "mine item" => (refine Mine.Hold.intro ?_)
  have y1 : us1.length ≤ 1000 := by omega
  have y2 : us2.length ≤ 1000 := by omega
  have y3 : rs1.length ≤ 1000 := by omega
  have y4 : rs2.length ≤ 1000 := by omega
  k_steps
  unfold Hold
  obtain ⟨rest, er⟩ := filter_meet a1 c1 a2 c2 mt hd
  rw [er] at SM
  cases SM with
  | cons _ tM SM' =>
  k_with_none
  k_with "getMethod ref" => ((k_here; (with_reducible show wpAny _ _ (getMethod (Value.ref _) (Str.ofString "search") _) _ _ _); k_dflt (refine' Mine.meth_search ?k1 ?k2 ?k3 ?k4 ?k5 ?_; (case k1 => k_asm); (case k2 => k_asm); (case k3 => k_is); (case k4 => rfl); (case k5 => rfl); k_whole)))
  k_with "call builtin:re.Pattern.search" => ((k_here; k_dflt (refine' Mine.call_search ?k1 ?k2 ?k3 ?k4 ?k5 ?_; (case k1 => k_asm); (case k2 => k_asm); (case k3 => k_is); (case k4 => rfl); (case k5 => first | with_reducible exact Mine.srchN _ _ _ (by assumption) | with_reducible exact Mine.srchV _ _ _ (by assumption)); k_whole)))
  k_with "mine use" => (((case k1 => k_asm); (case k2 => k_asm); (case k3 => k_asm); (case k4 => k_asm); (case k5 => k_asm); (case kd => exact Nat.le_of_ble_eq_true rfl); (case ku => exact Nat.le_of_ble_eq_true rfl)))
  k_with "mine lt" => ((walk_at "mine and"; first | omega | assumption | exact allLt_of (by assumption) | exact Mine.ltUp (by omega) (by assumption) | exact Mine.ltUp (by omega) (allLt_of (by assumption))))
  k_with "mine letter" => (first | assumption | exact Mine.Letter.lower (by assumption) | exact Mine.Letter.upper (by assumption) | exact Mine.Letter.lower (Mine.Letter.upper (by assumption)))
  k_with "call builtin:str.lower" => ((k_here; k_dflt (refine Mine.lower_L (by walk_at "mine letter") ?_)))
  k_with "call builtin:str.upper" => ((k_here; k_dflt (refine Mine.upper_L (by walk_at "mine letter") ?_)))
  k_with "eval ListComp" => (k_extra "mine comp")
  k_with "CompRestT" => (k_extra "mine restT")
  k_with "CompRest" => (k_extra "mine rest")
  k_with "exec For Tuple Attribute cons nil" => (k_extra "mine for")
  k_with "exec For Tuple Name cons nil" => (k_extra "mine for")
  k_with "exec While Compare cons nil" => (k_extra "mine while")
  k_with "delItem ref" => ((k_here; k_dflt (refine' Mine.own_delItem ?F ?X ?I ?hQ ?hS ?hF ?_; (case F => k_asm); (case X => k_asm); (case I => k_inst); (case hS => k_is); (case hF => k_is); (case hQ => k_is); k_whole)))
  k_with "call ref" => ((k_here; k_dflt (refine' Mine.Spec.use (Mine.get_spec _ _ _ _ _ _ _ _ _ _ _ _ ?hx _ ?hH ?h1 ?h2 ?h3) ?k1 ?k2 ?k3 ?k4 ?k5 ?kd ?ku ?_; walk_at "mine use"; (case hx => walk_at "mine letter"); (case h2 => k_mem); (case h3 => k_mem); (case h1 => k_mem); (case hH => walk_at "mine hdrs"); k_whole; intro rG nG hG tkG FG NG RG; obtain ⟨eG, VG⟩ := RG; (have eG' := Eq.symm eG); (first | subst eG' | subst eG); (try dsimp only); (try k_sweep); (try k_fold))))
  k_with "mine hdrs" => (first | assumption | exact Mine.Hdrs.mono (by kcj_all) (by assumption))
  k_with "call ref" => ((k_here; k_dflt (refine' Mine.Spec.use (Mine.ent_spec _ _) ?k1 ?k2 ?k3 ?k4 ?k5 ?kd ?ku ?_; walk_at "mine use"; k_whole; intro rE nE hE tkE FE NE RE; obtain ⟨xE, dE, uE, vE, aE, bE, cE, fE, eE, eE', lE, mE, oE, pE⟩ := RE; subst eE eE'; (try (replace lE := Mine.ltOf lE; k_lt lE)); (try dsimp only); (try k_sweep); (try k_fold))))
  k_with "call ref" => ((k_here; k_dflt (refine' Mine.Spec.use (Mine.merge_spec _ _ _ _ _ _ _ _ _ _ _ _ _ _ _ _ _ _ _ _ _ _ _ _ _ _ _ _ _ _ ?h1 ?h2 ?h3 ?h4 ?g1 ?g2 ?g3 ?g4 ?y1 ?y2 ?z1 ?z2 ?z3 ?z4) ?k1 ?k2 ?k3 ?k4 ?k5 ?kd ?ku ?_; walk_at "mine use"; (case h1 => k_mem); (case h2 => k_mem); (case h3 => k_mem); (case h4 => k_mem); (case g1 => k_mem); (case g2 => k_mem); (case g3 => k_mem); (case g4 => k_mem); (case y1 => walk_at "mine strs"); (case y2 => walk_at "mine strs"); (case z1 => walk_at "mine len"); (case z2 => walk_at "mine len"); (case z3 => walk_at "mine len"); (case z4 => walk_at "mine len"); k_whole; intro rM nM hM tkM FM NM RM; obtain ⟨xM, dM, uM, vM, sM, aM, bM, cM, fM, gM, iM, jM, eM, eM', SM, zM, lM, mM, oM, pM⟩ := RM; subst eM eM'; (try (replace lM := Mine.ltOf lM; k_lt lM)); (try dsimp only); (try k_sweep); (try k_fold))))
  k_with "mine strs" => (first | assumption | exact StrsAre.nil | (refine StrsAre.cons _ _ ?_; walk_at "mine strs"))
  k_with "mine len" => (first | assumption | omega | (simp only [List.length_cons, List.length_nil, List.length_append]; omega))
  k_with "mine hdrs" => (first | assumption | (refine Mine.Hdrs.mono ?hs9 (by assumption); kcj_all))
  k_with "subscriptTail Name Constant ref int" => (k_extra "mine item")
  k_with "subscriptTail Attribute Name Constant ref int" => (k_extra "mine item")
  k_with "call builtin:list.index" => ((k_here; k_dflt (refine' Mine.index_L ?k1 ?k2 ?k3 ?k4 ?k5 ?_; (case k1 => k_asm); (case k2 => k_mem); (case k3 => assumption); (case k4 => assumption); (case k5 => first | assumption | omega); k_whole)))
  k_with "mine len" => ((simp only [List.length_cons, List.length_nil, List.length_append, List.length_take, List.length_reverse]; omega))
  k_with "call ref" => ((k_here; k_dflt (refine' Mine.Spec.use (Mine.new_spec _ _) ?k1 ?k2 ?k3 ?k4 ?k5 ?kd ?ku ?_; walk_at "mine use"; k_whole; intro rN nN hN tkN FN NN RN; obtain ⟨tN, dN, lN, aN, bN, eN, eN', uN, vN, wN⟩ := RN; subst eN eN'; (try (replace uN := Mine.ltOf uN; k_lt uN)); (try dsimp only); (try k_sweep); (try k_fold))))
  k_with "mine letter" => ((show _ ∈ Mine.letters; decide +kernel))
  k_with "mine hdrs" => (exact Mine.Hdrs.nil)
  k_with "mine len" => (first | assumption | omega | (simp only [List.length_cons, List.length_nil, List.length_append, List.length_take, List.length_reverse] <;> omega) | (subst_vars; (simp only [List.length_cons, List.length_nil, List.length_append, List.length_take, List.length_reverse] <;> omega)))
  k_with "mine tsub" => (first | exact Mine.TSub.nil | exact Mine.TSub.sub (fun _ h => h) | (refine Mine.TSub.keep (by k_mem) ?_; walk_at "mine tsub") | (refine Mine.TSub.skip (by k_cls) ?_; walk_at "mine tsub") | exact Mine.TSub.sub (by kcj_all))
  k_with "mine drop" => (first | (refine' Mine.DropAt.head ?a; (case a => k_all)) | (refine' Mine.DropAt.tail ?a ?b; (case a => k_ne); (case b => walk_at "mine drop")))
  k_with "UnrEnd" => ((refine' Mine.unrEnd_drop ?k1 ?k2 ?k3 ?_; (case k1 => k_asm); (case k2 => k_asm); (case k3 => walk_at "mine drop")))
  k_steps
  have hs1 : StrsAre (us1.take a1.length) a1 := by
    have := hy1.take' a1.length
    rwa [List.take_left] at this
  have hs2 : StrsAre (us2.take a2.length) a2 := by
    have := hy2.take' a2.length
    rwa [List.take_left] at this
  have hs : StrsAre (us1.take a1.length ++ [.str mt tM] ++ (us2.take a2.length).reverse) (a1 ++ mt :: a2.reverse) := by
    have := (hs1.append' (StrsAre.cons mt tM .nil)).append' (strsAre_rev hs2)
    simpa using this
  refine hret _ ((xE, instObj 226 dE) :: (dE, entDict w aE bE cE fE uE vE 4) :: (uE, listOf (us1.take a1.length ++ [Value.str mt tM] ++ (us2.take a2.length).reverse).toArray _) :: (vE, listOf (rs1 ++ rs2).toArray _) :: news) _ _ (by k_asm) (cb_drop (by k_asm) (by kcj_all)) ⟨_, _, _, _, _, _, _, _, _, _, _, rfl, rfl, hs, ?_, ?_, ?_, ?_, ?_⟩
  · simp only [List.length_append, List.length_take, List.length_reverse, List.length_cons, List.length_nil]
    omega
  all_goals walk_at "mine lt"
end Mine


namespace Mine
/-- the letter of a place -/
abbrev lc (i : Int) : Str := Txt.item (Str.ofString "abcdefg") i
theorem lc_letter {i : Int} (h0 : 0 ≤ i) (h1 : i < 7) : Letter (lc i) := by
  have : i = 0 ∨ i = 1 ∨ i = 2 ∨ i = 3 ∨ i = 4 ∨ i = 5 ∨ i = 6 := by omega
  rcases this with rfl | rfl | rfl | rfl | rfl | rfl | rfl <;> (show _ ∈ letters; decide +kernel)
section
variable {prog : Program} {w : World} {A : Around} {E : Value → Shared → Prop} {s : Shared} {h₀ : Heap} {L : Addr} {news : Led}
theorem item_L {value slice : Expr} {l : Addr} {vs : List Value} {n : Nat} {k : Int} {u : Tok} {x : Value} {Q : Value → Shared → Prop} (N : News h₀ L s.heap news) (hl : (l, listOf vs.toArray n) ∈ news)
    (h0 : 0 ≤ k) (hfit : k < 2 ^ 63) (hx : vs[k.toNat]? = some x) (h : Q x s)
    (hs : subscripted slice false (.ref l) (.int k u) = operate [.ref l, .int k u] (getItem (.ref l) (.int k u)) := by with_unfolding_all rfl) (hg : ∀ r, letTemporaryGo value (.ref l) r = pure () := by intro _; with_unfolding_all rfl) :
    wpAny (model prog w) A (subscriptTail value slice (.ref l) (.int k u)) Q E s :=
  PyProof.Rows.item_list (News.isList N hl) h0 hfit (by simpa using hx) h hs hg
end
end Mine

local macro_rules | `(tactic| walk_at "subscriptTail Name Name ref int") => `(tactic| k_extra "subscriptTail Name Name ref int")

namespace Mine
def RgEnd (x : Str) (m₀ : Str → Option Value) (J : Led → Prop) (m' : Str → Option Value) (news' : Led) : Prop := (∀ y, y ≠ x → m' y = m₀ y) ∧ J news'
section
variable {prog : Program} {w : World} {A : Around} {E : Value → Shared → Prop} {s : Shared} {env : Env} {h₀ : Heap} {x : Str} {body : List Stmt} {Q : Flow → Shared → Prop}
/-- a range's turns by what holds of the ledger -/
theorem range_inv {I : Addr} {a : Int} {n : Nat} {m₀ : Str → Option Value} (J : Addr → Nat → Led → Prop) (N : Nat)
    (turn : ∀ i t h tk news, i < N → J I i news → Fr h₀ env.locals h (fun y => if y = x then some (.int (a + (i : Int)) t) else m₀ y) → News h₀ env.locals h ((I, itR (a + ((i + 1 : Nat) : Int)) ((n : Int) - ((i + 1 : Nat) : Int))) :: news) →
      wpAny (model prog w) A (execs body env) (UnrPost h₀ env.locals { s with heap := h, toks := tk } I (itR (a + ((i + 1 : Nat) : Int)) ((n : Int) - ((i + 1 : Nat) : Int))) (RgEnd x m₀ (J I (i + 1))) Q) E { s with heap := h, toks := tk })
    (done : ∀ (u : Option Value) h tk news, J I N news → Fr h₀ env.locals h (fun y => if y = x then u else m₀ y) → News h₀ env.locals h news → Q .next { s with heap := h, toks := tk }) :
    ∀ k i m news, i + k = N → (∀ y, y ≠ x → m y = m₀ y) → J I i news → RangeRest prog w A E h₀ env x body Q s I a n k i m news := by
  intro k
  induction k with
  | zero =>
    intro i m news e hm hJ h tk F N'
    rw [Nat.add_zero] at e; subst e
    refine done (m x) h tk news hJ ?_ N'
    have key : (fun y => if y = x then m x else m₀ y) = m := by
      funext y
      by_cases hy : y = x
      · simp [hy]
      · simp [hy, hm y hy]
    rw [key]; exact F
  | succ k ih =>
    intro i m news e hm hJ t h tk F N'
    have key : (fun y => if y = x then some (Value.int (a + (i : Int)) t) else m y) = (fun y => if y = x then some (Value.int (a + (i : Int)) t) else m₀ y) := by
      funext y
      by_cases hy : y = x
      · simp [hy]
      · simp [hy, hm y hy]
    rw [key] at F
    refine wpAny_mono (turn i t h tk news (by omega) hJ F N') (fun f s₃ h₃ => ?_) fun _ _ e => e
    cases f with
    | ret v => exact h₃
    | brk => exact h₃
    | next =>
      obtain ⟨h', tk', m', news', e1, F', N'', off, hm', hJ'⟩ := h₃
      exact ⟨h', tk', m', news', e1, F', N'', off, ih (i + 1) m' news' (by omega) hm' hJ'⟩
    | cont =>
      obtain ⟨h', tk', m', news', e1, F', N'', off, hm', hJ'⟩ := h₃
      exact ⟨h', tk', m', news', e1, F', N'', off, ih (i + 1) m' news' (by omega) hm' hJ'⟩
end
theorem offOf {d : Addr} {l : Led} (h : AllLt d l) : Off d l := fun p hp => Nat.ne_of_lt (ltOf h p hp)
theorem off_cons {a : Addr} {p : Addr × Obj} {l : Led} (h : NeA p.1 a) (t : Off a l) : Off a (p :: l) := List.forall_mem_cons.mpr ⟨h, t⟩
/-- add_header behind one other object -/
theorem add_one (w : World) (p : Addr × Obj) (t d l : Addr) (hs : Int) (kt : Tok) (n₁ n₃ : Nat) (vs : List Value) (kvs : List (Str × Str)) (k v : Str) (tk tv : Tok) (hk : Letter k) (hv : Letter v) (tl : Led) (hH : Hdrs tl vs kvs) (ho : Off l tl) (hp : Off p.1 tl) (hpl : NeA p.1 l) (htl : NeA t l) (hdl : NeA d l) (hlen : vs.length ≤ 999) :
   Spec w 500 5000 181 [.ref t, .str k tk, .str v tv] [] (p :: (l, listOf vs.toArray n₃) :: (t, instObj 184 d) :: (d, hdrDict hs kt l n₁) :: tl)
     (fun r news' => ∃ tl' vs' n', r = .none ∧ news' = p :: (l, listOf vs'.toArray n') :: (t, instObj 184 d) :: (d, hdrDict hs kt l n₁) :: tl' ∧ Hdrs tl' vs' (kvs ++ [(k, v)]) ∧ Off l tl' ∧ Off p.1 tl' ∧ vs'.length = vs.length + 1 ∧ ∃ a o, tl' = (a, o) :: tl ∧ LtA l a) := by
  refine (add_spec w t d l hs kt n₁ n₃ vs k v tk tv hk hv (p :: tl) (off_cons hpl ho) htl hdl (by omega)).frame ?_ ?_
  · intro q hq
    simp only [List.mem_cons] at hq ⊢
    rcases hq with rfl | rfl | rfl | rfl | hq <;> simp_all
  · rintro r n' ⟨a, n'', t1, t2, rfl, rfl, l1, l2, l3, l4⟩
    refine ⟨p :: (l, listOf (vs ++ [Value.ref a]).toArray n'') :: (t, instObj 184 d) :: (d, hdrDict hs kt l n₁) :: (a, tupOf #[.str k t1, .str v t2]) :: tl, ?_, (a, tupOf #[.str k t1, .str v t2]) :: tl, vs ++ [Value.ref a], n'', rfl, rfl, ?_, ?_, ?_, by simp, a, _, rfl, l1⟩
    · intro q hq
      simp only [List.mem_cons] at hq ⊢
      rcases hq with rfl | rfl | rfl | rfl | rfl | hq <;> simp_all
    · exact (hH.mono fun q hq => .tail _ hq).snoc hk hv (.head _)
    · exact off_cons (Nat.ne_of_gt l1) ho
    · exact off_cons (Nat.ne_of_gt (ltOf l4 p (.head _))) hp
theorem set_one (w : World) (p : Addr × Obj) (t d l : Addr) (hs : Int) (kt : Tok) (n₁ n₃ : Nat) (vs : List Value) (kvs : List (Str × Str)) (k v : Str) (tk tv : Tok) (hk : Letter k) (hv : Letter v) (tl : Led) (hH : Hdrs tl vs kvs) (ho : Off l tl) (hp : Off p.1 tl) (hc : p.2.cls ≠ .type "tuple") (hpl : NeA p.1 l) (htl : NeA t l) (hdl : NeA d l) (hlen : vs.length ≤ 999) :
   Spec w 400 4000 97 [.ref t, .str k tk, .str v tv] [] (p :: (l, listOf vs.toArray n₃) :: (t, instObj 184 d) :: (d, hdrDict hs kt l n₁) :: tl)
     (fun r news' => ∃ tl' vs' n', r = .none ∧ news' = p :: (l, listOf vs'.toArray n') :: (t, instObj 184 d) :: (d, hdrDict hs kt l n₁) :: tl' ∧ Hdrs tl' vs' (kvs.filter (fun kv => Txt.lower kv.1 != Txt.lower k) ++ [(k, v)]) ∧ Off l tl' ∧ Off p.1 tl' ∧ vs'.length ≤ vs.length + 1 ∧ ∃ a o, tl' = (a, o) :: tl ∧ LtA l a) := by
  refine (set_spec w t d l hs kt n₁ n₃ vs kvs k v tk tv hk hv (p :: tl) (hH.mono fun q hq => .tail _ hq) (off_cons hpl ho) htl hdl hlen).frame ?_ ?_
  · intro q hq
    simp only [List.mem_cons] at hq ⊢
    rcases hq with rfl | rfl | rfl | rfl | hq <;> simp_all
  · rintro r n' ⟨a, vs', n'', t1, t2, rfl, rfl, hH', hle, l1, l2, l3, l4⟩
    have lp := ltOf l4 p (.head _)
    have hH2 : Hdrs tl vs' (kvs.filter fun kv => Txt.lower kv.1 != Txt.lower k) := hH'.mono' fun b xs hm => by
      rcases List.mem_cons.mp hm with e | hm
      · exact absurd (congrArg (fun p => p.2.cls) e).symm hc
      · exact hm
    refine ⟨p :: (l, listOf (vs' ++ [Value.ref a]).toArray n'') :: (t, instObj 184 d) :: (d, hdrDict hs kt l n₁) :: (a, tupOf #[.str k t1, .str v t2]) :: tl, ?_, (a, tupOf #[.str k t1, .str v t2]) :: tl, vs' ++ [Value.ref a], n'', rfl, rfl, ?_, ?_, ?_, by simp; omega, a, _, rfl, l1⟩
    · intro q hq
      simp only [List.mem_cons] at hq ⊢
      rcases hq with rfl | rfl | rfl | rfl | rfl | hq <;> simp_all
    · exact (hH2.mono fun q hq => .tail _ hq).snoc hk hv (.head _)
    · exact off_cons (Nat.ne_of_gt l1) ho
    · exact off_cons (Nat.ne_of_gt lp) hp
end Mine


namespace Mine
/-- Spec, where something is known of the heap below -/
def SpecH (w : World) (H : Heap → Prop) (D U : Nat) (f : Addr) (vs : List Value) (kw : List (Str × Value)) (news : Led) (Ret : Value → Led → Prop) : Prop :=
  ∀ (cn : Str) (names : List (Str × NameKind)) (ig ic : Bool) (more : List (Str × Const)) (a : Addr) (ccd : Value) (cl : List (Str × Addr)) (outer : List Env) (A₀ : Around) (base h₀ : Heap) (L : Addr) (m : Str → Option Value)
    (mean : ExcName → Option Value) (mg mb : Str → Option Value) (s : Shared) (Q E : Value → Shared → Prop),
    Below A₀ base outer h₀ → Fr h₀ L s.heap m → (hd.heap_39 w.params).In h₀ → News h₀ L s.heap news → Top hd.view_39 lse mean mg mb h₀ → H h₀ →
    (∀ r news' h' tk', Fr h₀ L h' m → News h₀ L h' news' → Ret r news' → Q r { s with heap := h', toks := tk' }) →
    wpAny (model Challenge.rw_rl0103_01.row.prog w) (ktrTop D U none cn { kind := .function, names := names, isGenerator := ig, isCoroutine := ic, more := more } L a ccd cl outer) (call (.ref f) vs kw) Q E s
theorem SpecH.use {w : World} {H : Heap → Prop} {D U : Nat} {f : Addr} {vs : List Value} {kw : List (Str × Value)} {news : Led} {Ret : Value → Led → Prop} (C : SpecH w H D U f vs kw news Ret)
    {dp un : Nat} {gd : Option (List Code)} {cn : Str} {names : List (Str × NameKind)} {ig ic : Bool} {more : List (Str × Const)} {a : Addr} {ccd : Value} {cl : List (Str × Addr)} {outer : List Env} {A₀ : Around} {base h₀ : Heap} {L : Addr} {m : Str → Option Value}
    {mean : ExcName → Option Value} {mg mb : Str → Option Value} {s : Shared} {Q E : Value → Shared → Prop}
    (B : Below A₀ base outer h₀) (F : Fr h₀ L s.heap m) (X : (hd.heap_39 w.params).In h₀) (N : News h₀ L s.heap news) (T : Top hd.view_39 lse mean mg mb h₀) (hd : dp ≤ D) (hu : un ≤ U) (hH : H h₀)
    (ret : ∀ r news' h' tk', Fr h₀ L h' m → News h₀ L h' news' → Ret r news' → Q r { s with heap := h', toks := tk' }) :
    wpAny (model Challenge.rw_rl0103_01.row.prog w) (ktrTop dp un gd cn { kind := .function, names := names, isGenerator := ig, isCoroutine := ic, more := more } L a ccd cl outer) (call (.ref f) vs kw) Q E s :=
  wpAny_le (C _ _ _ _ _ _ _ _ _ _ _ _ _ _ _ _ _ _ _ _ B F X N T hH ret) rfl rfl rfl hd hu
theorem lenOf {items : List Value} {ns : List Int} (h : items.length = ns.length) : ((items.toArray.size : Nat) : Int) = (ns.length : Int) := by rw [List.size_toArray, h]
local macro_rules | `(tactic| walk_at "call builtin:len") => `(tactic| (refine Mine.Hold.intro ?_))
theorem numbers_spec (w : World) (sa : Addr) (items : List Value) (ns : List Int) (hI : IntsAre items ns) (hb : ns.length ≤ 1000) (news : Led) :
   SpecH w (fun h₀ => h₀.IsList sa items.toArray) 350 3000 244 [.ref sa] [] news (fun r news' => ∃ l vs n nums, r = .ref l ∧ news' = (l, listOf vs.toArray n) :: news ∧ AllLt l news ∧ IntsAre vs nums ∧ nums.length = 6) := by
  k_with_none
  k_with "getMethod ref" => ((k_here; (with_reducible show wpAny _ _ (getMethod (Value.ref _) (Str.ofString "search") _) _ _ _); k_dflt (refine' Mine.meth_search ?k1 ?k2 ?k3 ?k4 ?k5 ?_; (case k1 => k_asm); (case k2 => k_asm); (case k3 => k_is); (case k4 => rfl); (case k5 => rfl); k_whole)))
  k_with "call builtin:re.Pattern.search" => ((k_here; k_dflt (refine' Mine.call_search ?k1 ?k2 ?k3 ?k4 ?k5 ?_; (case k1 => k_asm); (case k2 => k_asm); (case k3 => k_is); (case k4 => rfl); (case k5 => first | with_reducible exact Mine.srchN _ _ _ (by assumption) | with_reducible exact Mine.srchV _ _ _ (by assumption)); k_whole)))
  k_with "mine use" => (((case k1 => k_asm); (case k2 => k_asm); (case k3 => k_asm); (case k4 => k_asm); (case k5 => k_asm); (case kd => exact Nat.le_of_ble_eq_true rfl); (case ku => exact Nat.le_of_ble_eq_true rfl)))
  k_with "mine lt" => ((walk_at "mine and"; first | omega | assumption | exact allLt_of (by assumption) | exact Mine.ltUp (by omega) (by assumption) | exact Mine.ltUp (by omega) (allLt_of (by assumption))))
  k_with "mine letter" => (first | assumption | exact Mine.Letter.lower (by assumption) | exact Mine.Letter.upper (by assumption) | exact Mine.Letter.lower (Mine.Letter.upper (by assumption)))
  k_with "call builtin:str.lower" => ((k_here; k_dflt (refine Mine.lower_L (by walk_at "mine letter") ?_)))
  k_with "call builtin:str.upper" => ((k_here; k_dflt (refine Mine.upper_L (by walk_at "mine letter") ?_)))
  k_with "eval ListComp" => (k_extra "mine comp")
  k_with "CompRestT" => (k_extra "mine restT")
  k_with "CompRest" => (k_extra "mine rest")
  k_with "exec For Tuple Attribute cons nil" => (k_extra "mine for")
  k_with "exec For Tuple Name cons nil" => (k_extra "mine for")
  k_with "exec While Compare cons nil" => (k_extra "mine while")
  k_with "delItem ref" => ((k_here; k_dflt (refine' Mine.own_delItem ?F ?X ?I ?hQ ?hS ?hF ?_; (case F => k_asm); (case X => k_asm); (case I => k_inst); (case hS => k_is); (case hF => k_is); (case hQ => k_is); k_whole)))
  k_with "call ref" => ((k_here; k_dflt (refine' Mine.Spec.use (Mine.get_spec _ _ _ _ _ _ _ _ _ _ _ _ ?hx _ ?hH ?h1 ?h2 ?h3) ?k1 ?k2 ?k3 ?k4 ?k5 ?kd ?ku ?_; walk_at "mine use"; (case hx => walk_at "mine letter"); (case h2 => k_mem); (case h3 => k_mem); (case h1 => k_mem); (case hH => walk_at "mine hdrs"); k_whole; intro rG nG hG tkG FG NG RG; obtain ⟨eG, VG⟩ := RG; (have eG' := Eq.symm eG); (first | subst eG' | subst eG); (try dsimp only); (try k_sweep); (try k_fold))))
  k_with "mine hdrs" => (first | assumption | exact Mine.Hdrs.mono (by kcj_all) (by assumption))
  k_with "call ref" => ((k_here; k_dflt (refine' Mine.Spec.use (Mine.ent_spec _ _) ?k1 ?k2 ?k3 ?k4 ?k5 ?kd ?ku ?_; walk_at "mine use"; k_whole; intro rE nE hE tkE FE NE RE; obtain ⟨xE, dE, uE, vE, aE, bE, cE, fE, eE, eE', lE, mE, oE, pE⟩ := RE; subst eE eE'; (try (replace lE := Mine.ltOf lE; k_lt lE)); (try dsimp only); (try k_sweep); (try k_fold))))
  k_with "call ref" => ((k_here; k_dflt (refine' Mine.Spec.use (Mine.merge_spec _ _ _ _ _ _ _ _ _ _ _ _ _ _ _ _ _ _ _ _ _ _ _ _ _ _ _ _ _ _ ?h1 ?h2 ?h3 ?h4 ?g1 ?g2 ?g3 ?g4 ?y1 ?y2 ?z1 ?z2 ?z3 ?z4) ?k1 ?k2 ?k3 ?k4 ?k5 ?kd ?ku ?_; walk_at "mine use"; (case h1 => k_mem); (case h2 => k_mem); (case h3 => k_mem); (case h4 => k_mem); (case g1 => k_mem); (case g2 => k_mem); (case g3 => k_mem); (case g4 => k_mem); (case y1 => walk_at "mine strs"); (case y2 => walk_at "mine strs"); (case z1 => walk_at "mine len"); (case z2 => walk_at "mine len"); (case z3 => walk_at "mine len"); (case z4 => walk_at "mine len"); k_whole; intro rM nM hM tkM FM NM RM; obtain ⟨xM, dM, uM, vM, sM, aM, bM, cM, fM, gM, iM, jM, eM, eM', SM, zM, lM, mM, oM, pM⟩ := RM; subst eM eM'; (try (replace lM := Mine.ltOf lM; k_lt lM)); (try dsimp only); (try k_sweep); (try k_fold))))
  k_with "mine strs" => (first | assumption | exact StrsAre.nil | (refine StrsAre.cons _ _ ?_; walk_at "mine strs"))
  k_with "mine len" => (first | assumption | omega | (simp only [List.length_cons, List.length_nil, List.length_append]; omega))
  k_with "mine hdrs" => (first | assumption | (refine Mine.Hdrs.mono ?hs9 (by assumption); kcj_all))
  k_with "subscriptTail Name Constant ref int" => (k_extra "mine item")
  k_with "subscriptTail Attribute Name Constant ref int" => (k_extra "mine item")
  k_with "call builtin:list.index" => ((k_here; k_dflt (refine' Mine.index_L ?k1 ?k2 ?k3 ?k4 ?k5 ?_; (case k1 => k_asm); (case k2 => k_mem); (case k3 => assumption); (case k4 => assumption); (case k5 => first | assumption | omega); k_whole)))
  k_with "mine len" => ((simp only [List.length_cons, List.length_nil, List.length_append, List.length_take, List.length_reverse]; omega))
  k_with "call ref" => ((k_here; k_dflt (refine' Mine.Spec.use (Mine.new_spec _ _) ?k1 ?k2 ?k3 ?k4 ?k5 ?kd ?ku ?_; walk_at "mine use"; k_whole; intro rN nN hN tkN FN NN RN; obtain ⟨tN, dN, lN, aN, bN, eN, eN', uN, vN, wN⟩ := RN; subst eN eN'; (try (replace uN := Mine.ltOf uN; k_lt uN)); (try dsimp only); (try k_sweep); (try k_fold))))
  k_with "mine letter" => ((show _ ∈ Mine.letters; decide +kernel))
  k_with "mine hdrs" => (exact Mine.Hdrs.nil)
  k_with "mine len" => (first | assumption | omega | (simp only [List.length_cons, List.length_nil, List.length_append, List.length_take, List.length_reverse] <;> omega) | (subst_vars; (simp only [List.length_cons, List.length_nil, List.length_append, List.length_take, List.length_reverse] <;> omega)))
  k_with "mine tsub" => (first | exact Mine.TSub.nil | exact Mine.TSub.sub (fun _ h => h) | (refine Mine.TSub.keep (by k_mem) ?_; walk_at "mine tsub") | (refine Mine.TSub.skip (by k_cls) ?_; walk_at "mine tsub") | exact Mine.TSub.sub (by kcj_all))
  k_with "mine drop" => (first | (refine' Mine.DropAt.head ?a; (case a => k_all)) | (refine' Mine.DropAt.tail ?a ?b; (case a => k_ne); (case b => walk_at "mine drop")))
  k_with "UnrEnd" => ((refine' Mine.unrEnd_drop ?k1 ?k2 ?k3 ?_; (case k1 => k_asm); (case k2 => k_asm); (case k3 => walk_at "mine drop")))
  k_with "subscriptTail Name Name ref int" => ((k_here; k_dflt (refine' Mine.item_L ?k0 ?k1 ?k2 ?k3 ?k4 ?_; (case k0 => k_asm); (case k1 => k_mem); (case k2 => first | decide | omega); (case k3 => first | decide | omega); (case k4 => first | assumption | rfl); k_whole)))
  k_with "mine letter" => (exact Mine.lc_letter (by omega) (by omega))
  w_top off
  have : Challenge.rw_rl0103_01 = Challenge.rw_rl0103_01 ∧ Mine.hd.heap_39 = Mine.hd.heap_39 := by k_fill; exact ⟨rfl, rfl⟩
  intro cn names ig ic more a ccd cl outer A₀ base h₀ L m mean mg mb s Q E B F X N T hsl hret
  have hlen : items.length = ns.length := IntsAre.length hI
  k_with "pyIter ref" => k_state (fun (pre : List Int) (numbers : List Int) => numbers.length = 6) "numbers"
  k_steps
  unfold Hold
  rename (Fr h₀ L _ m) => FG
  have hg := hsl.at fun o e => FG.keep _ o e
  refine' kun_lenL ?k1 (lenOf hlen) ?k3 ?_
  case k1 => is_list
  case k3 => omega
  k_steps
  refine hret _ ((_, listOf (List.toArray _) _) :: news) _ _ (by k_asm) (by k_asm) ⟨_, _, _, _, rfl, rfl, allLt_of (by assumption), by assumption, by assumption⟩
end Mine


namespace Mine
theorem ints_cons {vs : List Value} {a : Int} {r : List Int} (h : IntsAre vs (a :: r)) : ∃ t vs', vs = .int a t :: vs' ∧ IntsAre vs' r := by
  cases h with
  | cons _ t h => exact ⟨t, _, rfl, h⟩
theorem ints_nil {vs : List Value} (h : IntsAre vs []) : vs = [] := by cases h; rfl
theorem fmod_in (a : Int) {b : Int} (hb : 0 < b) : 0 ≤ a.fmod b ∧ a.fmod b < b := by
  rw [Int.fmod_eq_emod_of_nonneg a (Int.le_of_lt hb)]
  exact ⟨Int.emod_nonneg a (by omega), Int.emod_lt_of_pos a hb⟩
theorem above7 {ws : List Value} {nums : List Int} (h : IntsAre ws ([0, 0] ++ List.map (fun k' : Int => (nums.getD k'.toNat 0).fmod (k' + 2)) (rangeKs 0 ((5 : Int) - 0).toNat))) :
    ∃ (b2 b3 b4 b5 b6 : Int) (t0 t1 t2 t3 t4 t5 t6 : Tok), ws = [.int 0 t0, .int 0 t1, .int b2 t2, .int b3 t3, .int b4 t4, .int b5 t5, .int b6 t6] ∧
      (0 ≤ b2 ∧ b2 < 2) ∧ (0 ≤ b3 ∧ b3 < 3) ∧ (0 ≤ b4 ∧ b4 < 4) ∧ (0 ≤ b5 ∧ b5 < 5) ∧ (0 ≤ b6 ∧ b6 < 6) := by
  have e : rangeKs 0 ((5 : Int) - 0).toNat = [0, 1, 2, 3, 4] := by decide
  rw [e] at h
  obtain ⟨t0, r0, e0, h0⟩ := ints_cons h
  obtain ⟨t1, r1, e1, h1⟩ := ints_cons h0
  obtain ⟨t2, r2, e2, h2⟩ := ints_cons h1
  obtain ⟨t3, r3, e3, h3⟩ := ints_cons h2
  obtain ⟨t4, r4, e4, h4⟩ := ints_cons h3
  obtain ⟨t5, r5, e5, h5⟩ := ints_cons h4
  obtain ⟨t6, r6, e6, h6⟩ := ints_cons h5
  have e7 := ints_nil h6
  subst e7 e6 e5 e4 e3 e2 e1 e0
  exact ⟨_, _, _, _, _, t0, t1, t2, t3, t4, t5, t6, rfl, fmod_in _ (by decide), fmod_in _ (by decide), fmod_in _ (by decide), fmod_in _ (by decide), fmod_in _ (by decide)⟩
theorem four4 {ys : List Value} {g : Int → Int} (h : IntsAre ys (List.map (fun k' : Int => (g k').fmod 7) (rangeKs 0 ((4 : Int) - 0).toNat))) :
    ∃ (u0 u1 u2 u3 : Nat) (t0 t1 t2 t3 : Tok), ys = [.int (u0 : Int) t0, .int (u1 : Int) t1, .int (u2 : Int) t2, .int (u3 : Int) t3] ∧ u0 ≤ 6 ∧ u1 ≤ 6 ∧ u2 ≤ 6 ∧ u3 ≤ 6 := by
  have e : rangeKs 0 ((4 : Int) - 0).toNat = [0, 1, 2, 3] := by decide
  rw [e] at h
  have key : ∀ a : Int, ∃ u : Nat, a.fmod 7 = (u : Int) ∧ u ≤ 6 := fun a => by
    obtain ⟨h1, h2⟩ := fmod_in a (b := 7) (by decide)
    exact ⟨(a.fmod 7).toNat, by omega, by omega⟩
  obtain ⟨u0, e0, k0⟩ := key (g 0)
  obtain ⟨u1, e1, k1⟩ := key (g 1)
  obtain ⟨u2, e2, k2⟩ := key (g 2)
  obtain ⟨u3, e3, k3⟩ := key (g 3)
  simp only [List.map_cons, List.map_nil, e0, e1, e2, e3] at h
  obtain ⟨t0, r0, f0, h0⟩ := ints_cons h
  obtain ⟨t1, r1, f1, h1⟩ := ints_cons h0
  obtain ⟨t2, r2, f2, h2⟩ := ints_cons h1
  obtain ⟨t3, r3, f3, h3⟩ := ints_cons h2
  have f4 := ints_nil h3
  subst f4 f3 f2 f1 f0
  exact ⟨u0, u1, u2, u3, t0, t1, t2, t3, rfl, k0, k1, k2, k3⟩
theorem newsJoin {h₀ h : Heap} {L : Addr} {news' A B : Led} (N : News h₀ L h news') (h1 : ∀ p ∈ A, p ∈ news') (h2 : ∀ p ∈ B, p ∈ news') : News h₀ L h (A ++ B) := fun p hp =>
  (List.mem_append.mp hp).elim (fun k => N p (h1 p k)) fun k => N p (h2 p k)
theorem newsShift3 {h₀ h : Heap} {L : Addr} {a b c : Addr × Obj} {X B : Led} (N : News h₀ L h (a :: b :: c :: (B ++ X))) : News h₀ L h ((a :: b :: c :: X) ++ B) := fun p hp => N p (by
  simp only [List.cons_append, List.mem_cons, List.mem_append] at hp ⊢
  rcases hp with h | h | h | h | h <;> simp [h])
theorem offGt {a l : Addr} {tups : Led} (h : ∀ p ∈ tups, LtA l p.1) (k : @LE.le Nat _ a l) : ∀ p ∈ tups, p.1 ≠ a := fun p hp => Nat.ne_of_gt (Nat.lt_of_le_of_lt k (h p hp))
theorem bindL_of {k : Str → Option NameKind} {binds : List (Str × Value)} {m : Str → Option Value} {n : Str} {v : Value} (hb : binds = [(n, v)]) (hk : k n = some .local) : bindL k binds m = fun y => if y = n then some v else m y := by
  subst hb; simp [bindL, hk]
theorem bindC_of {k : Str → Option NameKind} {binds : List (Str × Value)} {m : Str → Option Value} {n y : Str} {v : Value} (hb : binds = [(n, v)]) (hk : k n = some .local) : bindC k binds m y = m y := by
  subst hb; simp [bindC, hk]
theorem frCast {h₀ h : Heap} {L : Addr} {m m' : Str → Option Value} (F : Fr h₀ L h m) (e : m = m') : Fr h₀ L h m' := e ▸ F
end Mine

local macro_rules | `(tactic| k_all) => `(tactic| exact Mine.offGt (by assumption) (by walk_at "mine and"; omega))

namespace Mine
local macro_rules | `(tactic| walk_at "setItem ref str") => `(tactic| k_extra "setItem ref str")
set_option hygiene false
set_option hygiene true
local macro_rules | `(tactic| walk_at "UnrEnd") => `(tactic| (refine Mine.Hold.intro ?_))
local macro_rules | `(tactic| walk_at "RangeRest") => `(tactic| (refine Mine.Hold.intro ?_))
def tabOf (b2 b3 b4 b5 b6 : Int) : List (Str × Str) := [(Str.ofString "B", lc 0), (Str.ofString "c", lc b2), (Str.ofString "D", lc b3), (Str.ofString "e", lc b4), (Str.ofString "F", lc b5), (Str.ofString "g", lc b6)]
def stage1 (i : Nat) : List (Str × Str) := (List.range i).map fun (j : Nat) => (Txt.item (Str.ofString "AbCdEfG") (1 + (j : Int)), Str.ofString "a")
def TabIs (I l t d : Addr) (hs : Int) (kt : Tok) (news₀ : Led) (kvs : List (Str × Str)) (b : Nat) (news : Led) : Prop :=
  ∃ vs n tl, news = (l, listOf vs.toArray n) :: (t, instObj 184 d) :: (d, hdrDict hs kt l 1) :: tl ∧ Hdrs tl vs kvs ∧ Off l tl ∧ Off I tl ∧ NeA I l ∧ NeA t I ∧ NeA d I ∧ vs.length ≤ b ∧ ∃ tups, tl = tups ++ news₀ ∧ ∀ p ∈ tups, LtA l p.1
theorem item1_letter {i : Nat} (h : i < 6) : Letter (Txt.item (Str.ofString "AbCdEfG") (1 + (i : Int))) := by
  have : i = 0 ∨ i = 1 ∨ i = 2 ∨ i = 3 ∨ i = 4 ∨ i = 5 := by omega
  rcases this with rfl | rfl | rfl | rfl | rfl | rfl <;> (show _ ∈ letters; decide +kernel)
theorem item2_letter {i : Nat} (h : i < 6) : Letter (Txt.item (Str.ofString "aBcDeFg") (1 + (i : Int))) := by
  have : i = 0 ∨ i = 1 ∨ i = 2 ∨ i = 3 ∨ i = 4 ∨ i = 5 := by omega
  rcases this with rfl | rfl | rfl | rfl | rfl | rfl <;> (show _ ∈ letters; decide +kernel)
theorem a_letter : Letter (Str.ofString "a") := by show _ ∈ letters; decide +kernel
theorem stage1_succ (i : Nat) : stage1 (i + 1) = stage1 i ++ [(Txt.item (Str.ofString "AbCdEfG") (1 + (i : Int)), Str.ofString "a")] := by
  simp [stage1, List.range_succ]
def stage2 (vals : List Int) : Nat → List (Str × Str)
  | 0 => stage1 6
  | i + 1 => (stage2 vals i).filter (fun kv => Txt.lower kv.1 != Txt.lower (Txt.item (Str.ofString "aBcDeFg") (1 + (i : Int)))) ++ [(Txt.item (Str.ofString "aBcDeFg") (1 + (i : Int)), lc (vals.getD i 0))]
theorem stage2_end (b2 b3 b4 b5 b6 : Int) : stage2 [0, b2, b3, b4, b5, b6] 6 = tabOf b2 b3 b4 b5 b6 := by kernel_rfl
theorem above_item {b2 b3 b4 b5 b6 : Int} (g2 : 0 ≤ b2 ∧ b2 < 2) (g3 : 0 ≤ b3 ∧ b3 < 3) (g4 : 0 ≤ b4 ∧ b4 < 4) (g5 : 0 ≤ b5 ∧ b5 < 5) (g6 : 0 ≤ b6 ∧ b6 < 6) (t0 t1 t2 t3 t4 t5 t6 : Tok) {i : Nat} (h : i < 6) :
    ∃ (z : Int) (tz : Tok), [Value.int 0 t0, .int 0 t1, .int b2 t2, .int b3 t3, .int b4 t4, .int b5 t5, .int b6 t6][(1 + (i : Int)).toNat]? = some (.int z tz) ∧ 0 ≤ z ∧ z < 7 ∧ [0, b2, b3, b4, b5, b6].getD i 0 = z := by
  have : i = 0 ∨ i = 1 ∨ i = 2 ∨ i = 3 ∨ i = 4 ∨ i = 5 := by omega
  rcases this with rfl | rfl | rfl | rfl | rfl | rfl
  · exact ⟨0, t1, rfl, by omega, by omega, rfl⟩
  · exact ⟨b2, t2, rfl, by omega, by omega, rfl⟩
  · exact ⟨b3, t3, rfl, by omega, by omega, rfl⟩
  · exact ⟨b4, t4, rfl, by omega, by omega, rfl⟩
  · exact ⟨b5, t5, rfl, by omega, by omega, rfl⟩
  · exact ⟨b6, t6, rfl, by omega, by omega, rfl⟩
theorem table_spec (w : World) (l : Addr) (n : Nat) (b2 b3 b4 b5 b6 : Int) (t0 t1 t2 t3 t4 t5 t6 : Tok) (news : Led) (h1 : (l, listOf #[.int 0 t0, .int 0 t1, .int b2 t2, .int b3 t3, .int b4 t4, .int b5 t5, .int b6 t6] n) ∈ news)
   (g2 : 0 ≤ b2 ∧ b2 < 2) (g3 : 0 ≤ b3 ∧ b3 < 3) (g4 : 0 ≤ b4 ∧ b4 < 4) (g5 : 0 ≤ b5 ∧ b5 < 5) (g6 : 0 ≤ b6 ∧ b6 < 6) :
   Spec w 350 3000 251 [.ref l] [] news (fun r news' => ∃ t d l' hs kt vs n1 n3 tups, r = .ref t ∧ news' = (l', listOf vs.toArray n3) :: (t, instObj 184 d) :: (d, hdrDict hs kt l' n1) :: (tups ++ news) ∧ Hdrs (tups ++ news) vs (tabOf b2 b3 b4 b5 b6) ∧ vs.length ≤ 12 ∧ AllLt d news ∧ LtA d t ∧ LtA t l' ∧ ∀ p ∈ tups, LtA l' p.1) := by
  k_with_none
  k_with "getMethod ref" => ((k_here; (with_reducible show wpAny _ _ (getMethod (Value.ref _) (Str.ofString "search") _) _ _ _); k_dflt (refine' Mine.meth_search ?k1 ?k2 ?k3 ?k4 ?k5 ?_; (case k1 => k_asm); (case k2 => k_asm); (case k3 => k_is); (case k4 => rfl); (case k5 => rfl); k_whole)))
  k_with "call builtin:re.Pattern.search" => ((k_here; k_dflt (refine' Mine.call_search ?k1 ?k2 ?k3 ?k4 ?k5 ?_; (case k1 => k_asm); (case k2 => k_asm); (case k3 => k_is); (case k4 => rfl); (case k5 => first | with_reducible exact Mine.srchN _ _ _ (by assumption) | with_reducible exact Mine.srchV _ _ _ (by assumption)); k_whole)))
  k_with "mine use" => (((case k1 => k_asm); (case k2 => k_asm); (case k3 => k_asm); (case k4 => k_asm); (case k5 => k_asm); (case kd => exact Nat.le_of_ble_eq_true rfl); (case ku => exact Nat.le_of_ble_eq_true rfl)))
  k_with "mine lt" => ((walk_at "mine and"; first | omega | assumption | exact allLt_of (by assumption) | exact Mine.ltUp (by omega) (by assumption) | exact Mine.ltUp (by omega) (allLt_of (by assumption))))
  k_with "mine letter" => (first | assumption | exact Mine.Letter.lower (by assumption) | exact Mine.Letter.upper (by assumption) | exact Mine.Letter.lower (Mine.Letter.upper (by assumption)))
  k_with "call builtin:str.lower" => ((k_here; k_dflt (refine Mine.lower_L (by walk_at "mine letter") ?_)))
  k_with "call builtin:str.upper" => ((k_here; k_dflt (refine Mine.upper_L (by walk_at "mine letter") ?_)))
  k_with "eval ListComp" => (k_extra "mine comp")
  k_with "CompRestT" => (k_extra "mine restT")
  k_with "CompRest" => (k_extra "mine rest")
  k_with "exec For Tuple Attribute cons nil" => (k_extra "mine for")
  k_with "exec For Tuple Name cons nil" => (k_extra "mine for")
  k_with "exec While Compare cons nil" => (k_extra "mine while")
  k_with "delItem ref" => ((k_here; k_dflt (refine' Mine.own_delItem ?F ?X ?I ?hQ ?hS ?hF ?_; (case F => k_asm); (case X => k_asm); (case I => k_inst); (case hS => k_is); (case hF => k_is); (case hQ => k_is); k_whole)))
  k_with "call ref" => ((k_here; k_dflt (refine' Mine.Spec.use (Mine.get_spec _ _ _ _ _ _ _ _ _ _ _ _ ?hx _ ?hH ?h1 ?h2 ?h3) ?k1 ?k2 ?k3 ?k4 ?k5 ?kd ?ku ?_; walk_at "mine use"; (case hx => walk_at "mine letter"); (case h2 => k_mem); (case h3 => k_mem); (case h1 => k_mem); (case hH => walk_at "mine hdrs"); k_whole; intro rG nG hG tkG FG NG RG; obtain ⟨eG, VG⟩ := RG; (have eG' := Eq.symm eG); (first | subst eG' | subst eG); (try dsimp only); (try k_sweep); (try k_fold))))
  k_with "mine hdrs" => (first | assumption | exact Mine.Hdrs.mono (by kcj_all) (by assumption))
  k_with "call ref" => ((k_here; k_dflt (refine' Mine.Spec.use (Mine.ent_spec _ _) ?k1 ?k2 ?k3 ?k4 ?k5 ?kd ?ku ?_; walk_at "mine use"; k_whole; intro rE nE hE tkE FE NE RE; obtain ⟨xE, dE, uE, vE, aE, bE, cE, fE, eE, eE', lE, mE, oE, pE⟩ := RE; subst eE eE'; (try (replace lE := Mine.ltOf lE; k_lt lE)); (try dsimp only); (try k_sweep); (try k_fold))))
  k_with "call ref" => ((k_here; k_dflt (refine' Mine.Spec.use (Mine.merge_spec _ _ _ _ _ _ _ _ _ _ _ _ _ _ _ _ _ _ _ _ _ _ _ _ _ _ _ _ _ _ ?h1 ?h2 ?h3 ?h4 ?g1 ?g2 ?g3 ?g4 ?y1 ?y2 ?z1 ?z2 ?z3 ?z4) ?k1 ?k2 ?k3 ?k4 ?k5 ?kd ?ku ?_; walk_at "mine use"; (case h1 => k_mem); (case h2 => k_mem); (case h3 => k_mem); (case h4 => k_mem); (case g1 => k_mem); (case g2 => k_mem); (case g3 => k_mem); (case g4 => k_mem); (case y1 => walk_at "mine strs"); (case y2 => walk_at "mine strs"); (case z1 => walk_at "mine len"); (case z2 => walk_at "mine len"); (case z3 => walk_at "mine len"); (case z4 => walk_at "mine len"); k_whole; intro rM nM hM tkM FM NM RM; obtain ⟨xM, dM, uM, vM, sM, aM, bM, cM, fM, gM, iM, jM, eM, eM', SM, zM, lM, mM, oM, pM⟩ := RM; subst eM eM'; (try (replace lM := Mine.ltOf lM; k_lt lM)); (try dsimp only); (try k_sweep); (try k_fold))))
  k_with "mine strs" => (first | assumption | exact StrsAre.nil | (refine StrsAre.cons _ _ ?_; walk_at "mine strs"))
  k_with "mine len" => (first | assumption | omega | (simp only [List.length_cons, List.length_nil, List.length_append]; omega))
  k_with "mine hdrs" => (first | assumption | (refine Mine.Hdrs.mono ?hs9 (by assumption); kcj_all))
  k_with "subscriptTail Name Constant ref int" => (k_extra "mine item")
  k_with "subscriptTail Attribute Name Constant ref int" => (k_extra "mine item")
  k_with "call builtin:list.index" => ((k_here; k_dflt (refine' Mine.index_L ?k1 ?k2 ?k3 ?k4 ?k5 ?_; (case k1 => k_asm); (case k2 => k_mem); (case k3 => assumption); (case k4 => assumption); (case k5 => first | assumption | omega); k_whole)))
  k_with "mine len" => ((simp only [List.length_cons, List.length_nil, List.length_append, List.length_take, List.length_reverse]; omega))
  k_with "call ref" => ((k_here; k_dflt (refine' Mine.Spec.use (Mine.new_spec _ _) ?k1 ?k2 ?k3 ?k4 ?k5 ?kd ?ku ?_; walk_at "mine use"; k_whole; intro rN nN hN tkN FN NN RN; obtain ⟨tN, dN, lN, aN, bN, eN, eN', uN, vN, wN⟩ := RN; subst eN eN'; (try (replace uN := Mine.ltOf uN; k_lt uN)); (try dsimp only); (try k_sweep); (try k_fold))))
  k_with "mine letter" => ((show _ ∈ Mine.letters; decide +kernel))
  k_with "mine hdrs" => (exact Mine.Hdrs.nil)
  k_with "mine len" => (first | assumption | omega | (simp only [List.length_cons, List.length_nil, List.length_append, List.length_take, List.length_reverse] <;> omega) | (subst_vars; (simp only [List.length_cons, List.length_nil, List.length_append, List.length_take, List.length_reverse] <;> omega)))
  k_with "mine tsub" => (first | exact Mine.TSub.nil | exact Mine.TSub.sub (fun _ h => h) | (refine Mine.TSub.keep (by k_mem) ?_; walk_at "mine tsub") | (refine Mine.TSub.skip (by k_cls) ?_; walk_at "mine tsub") | exact Mine.TSub.sub (by kcj_all))
  k_with "mine drop" => (first | (refine' Mine.DropAt.head ?a; (case a => k_all)) | (refine' Mine.DropAt.tail ?a ?b; (case a => k_ne); (case b => walk_at "mine drop")))
  k_with "UnrEnd" => ((refine' Mine.unrEnd_drop ?k1 ?k2 ?k3 ?_; (case k1 => k_asm); (case k2 => k_asm); (case k3 => walk_at "mine drop")))
  k_with "subscriptTail Name Name ref int" => ((k_here; k_dflt (refine' Mine.item_L ?k0 ?k1 ?k2 ?k3 ?k4 ?_; (case k0 => k_asm); (case k1 => k_mem); (case k2 => first | decide | omega); (case k3 => first | decide | omega); (case k4 => first | assumption | rfl); k_whole)))
  k_with "mine letter" => (exact Mine.lc_letter (by omega) (by omega))
  k_with "setItem ref str" => ((k_here; (with_reducible show wpAny _ _ (setItem (Value.ref _) _ _) _ _ _); k_dflt (refine' ksp_setItem ?F ?X ?I ?hQ ?hS ?hF ?_; (case F => k_asm); (case X => k_asm); (case I => k_inst); (case hS => k_is); (case hF => k_is); (case hQ => k_is); k_whole)))
  k_with "call ref" => ((k_here; k_dflt (refine' Mine.Spec.use (Mine.add_one _ _ _ _ _ _ _ _ _ _ _ _ _ _ _ ?hx ?hv _ ?hH ?ho ?hp ?hq ?ht ?hd ?hl) ?k1 ?k2 ?k3 ?k4 ?k5 ?kd ?ku ?_; walk_at "mine use"; (case hx => walk_at "mine letter"); (case hv => walk_at "mine letter"); (case hH => assumption); (case ho => assumption); (case hp => assumption); (case hq => assumption); (case ht => assumption); (case hd => assumption); (case hl => omega); k_whole; intro rA nA hA tkA FA NA RA; obtain ⟨uA, vA, cA, eA, eA', HA, oA, pA, zA, sA⟩ := RA; subst eA eA'; (try dsimp only); (try k_sweep); (try k_fold))))
  k_with "call ref" => ((k_here; k_dflt (refine' Mine.Spec.use (Mine.set_one _ _ _ _ _ _ _ _ _ _ _ _ _ _ _ ?hx ?hv _ ?hH ?ho ?hp ?hc ?hq ?ht ?hd ?hl) ?k1 ?k2 ?k3 ?k4 ?k5 ?kd ?ku ?_; walk_at "mine use"; (case hx => walk_at "mine letter"); (case hv => walk_at "mine letter"); (case hH => assumption); (case ho => assumption); (case hp => assumption); (case hc => k_cls); (case hq => assumption); (case ht => assumption); (case hd => assumption); (case hl => omega); k_whole; intro rA nA hA tkA FA NA RA; obtain ⟨uA, vA, cA, eA, eA', HA, oA, pA, zA, sA⟩ := RA; subst eA eA'; (try dsimp only); (try k_sweep); (try k_fold))))
  k_with "mine letter" => (assumption)
  w_top off
  have : Challenge.rw_rl0103_01 = Challenge.rw_rl0103_01 ∧ Mine.hd.heap_39 = Mine.hd.heap_39 := by k_fill; exact ⟨rfl, rfl⟩
  intro cn names ig ic more a ccd cl outer A₀ base h₀ L m mean mg mb s Q E B F X N T hret
  have hab : ∀ i : Nat, i < 6 → _ := fun i h => above_item g2 g3 g4 g5 g6 t0 t1 t2 t3 t4 t5 t6 h
  cases g2; cases g3; cases g4; cases g5; cases g6
  k_steps
  unfold Hold
  have htl : NeA tN lN := by walk_at "mine lt"
  have hdl : NeA dN lN := by walk_at "mine lt"
  refine range_inv (fun I i => TabIs I lN tN dN aN bN news (stage1 i) i) 6 ?_ ?_ _ _ _ _ rfl (fun _ _ => rfl) ?_
  · rintro i t h tk news1 hi ⟨vs, c, tl, rfl, hH, ho, hp, hq, hqt, hqd, hz, tups, rfl, hgt⟩ F1 N1
    have hle := item1_letter hi
    have hla := a_letter
    k_steps
    unfold Hold
    refine UnrEnd.intro (by k_asm) (by k_asm) ((lN, listOf vA.toArray cA) :: (tN, instObj 184 dN) :: (dN, hdrDict aN bN lN 1) :: uA) (fun p hp => hp) ?_ ⟨fun y hy => if_neg hy, vA, cA, uA, rfl, ?_, oA, pA, hq, hqt, hqd, by omega, ?_⟩
    · exact off_cons (Ne.symm hq) (off_cons hqt (off_cons hqd pA))
    · rw [stage1_succ]; exact HA
    · obtain ⟨aA, ob, rfl, gA⟩ := sA
      exact ⟨(aA, ob) :: tups, rfl, List.forall_mem_cons.mpr ⟨gA, hgt⟩⟩
  · intro u h tk news1 hJ F1 N1
    obtain ⟨vs, c, tl, rfl, hH, ho, hp, hq, hqt, hqd, hz, tups, rfl, hgt⟩ := hJ
    k_steps
    unfold Hold
    refine range_inv (fun I i => TabIs I lN tN dN aN bN news (stage2 [0, b2, b3, b4, b5, b6] i) (6 + i)) 6 ?_ ?_ _ _ _ _ rfl (fun _ _ => rfl) ?_
    · rintro i t h tk news1 hi ⟨vs, c, tl, rfl, hH, ho, hp, hq, hqt, hqd, hz, tups, rfl, hgt⟩ F1 N1
      have hle := item2_letter hi
      obtain ⟨z, tz, hx, hz0, hz7, hzv⟩ := hab i hi
      have hlv := lc_letter hz0 hz7
      have hm1 : _ ∈ tups ++ news := List.mem_append_right _ h1
      k_steps
      unfold Hold
      refine UnrEnd.intro (by k_asm) (by k_asm) ((lN, listOf vA.toArray cA) :: (tN, instObj 184 dN) :: (dN, hdrDict aN bN lN 1) :: uA) (fun p hp => hp) ?_ ⟨fun y hy => if_neg hy, vA, cA, uA, rfl, ?_, oA, pA, hq, hqt, hqd, by omega, ?_⟩
      · exact off_cons (Ne.symm hq) (off_cons hqt (off_cons hqd pA))
      · rw [stage2, hzv]; exact HA
      · obtain ⟨aA, ob, rfl, gA⟩ := sA
        exact ⟨(aA, ob) :: tups, rfl, List.forall_mem_cons.mpr ⟨gA, hgt⟩⟩
    · intro u h tk news1 hJ F1 N1
      obtain ⟨vs, c, tl, rfl, hH, ho, hp, hq, hqt, hqd, hz, tups, rfl, hgt⟩ := hJ
      k_steps
      rw [stage2_end] at hH
      exact hret _ ((lN, listOf vs.toArray c) :: (tN, instObj 184 dN) :: (dN, hdrDict aN bN lN 1) :: (tups ++ news)) _ _ (by k_asm) (by k_asm) ⟨tN, dN, lN, aN, bN, vs, 1, c, tups, rfl, rfl, hH, by omega, uN, vN, wN, hgt⟩
    · rename (lN < _ ∧ _) => l1
      obtain ⟨q1, q2, q3, q4⟩ := l1
      exact ⟨vs, c, _, rfl, hH, ho, offOf q4, Nat.ne_of_gt q1, Nat.ne_of_lt q2, Nat.ne_of_lt q3, hz, tups, rfl, hgt⟩
  · rename (lN < _ ∧ _) => l1
    obtain ⟨q1, q2, q3, q4⟩ := l1
    exact ⟨[], _, _, rfl, .nil, offOf (ltUp (Nat.lt_trans vN wN) uN), offOf q4, Nat.ne_of_gt q1, Nat.ne_of_lt q2, Nat.ne_of_lt q3, Nat.le_refl _, [], rfl, fun _ h => nomatch h⟩
end Mine


namespace Mine
namespace T
/-- a tree: the places above n, n - 1, .., 1 -/
def Ok : List Nat → Prop
  | [] => True
  | p :: t => p ≤ t.length ∧ Ok t
def road : List Nat → Nat → List Nat
  | [], _ => [0]
  | p :: t, u => if u = t.length + 1 then u :: road t p else road t u
def way : List Nat → Nat → Nat → List Nat
  | [], _, _ => [0]
  | p :: t, u, v => if u = t.length + 1 then (if v = t.length + 1 then [u] else u :: way t p v) else if v = t.length + 1 then way t u p ++ [v] else way t u v
def dist : List Nat → Nat → Nat → Nat
  | [], _, _ => 0
  | p :: t, u, v => if u = t.length + 1 then (if v = t.length + 1 then 0 else dist t p v + 1) else if v = t.length + 1 then dist t u p + 1 else dist t u v
theorem road_le : ∀ (t : List Nat), Ok t → ∀ u, u ≤ t.length → ∀ y ∈ road t u, y ≤ t.length
  | [], _, _, _, y, hy => by simp [road] at hy; omega
  | p :: t, ⟨hp, ht⟩, u, hu, y, hy => by
    simp only [road] at hy
    simp only [List.length_cons] at hu ⊢
    split at hy
    · rcases List.mem_cons.mp hy with rfl | hy
      · omega
      · have := road_le t ht p hp y hy; omega
    · have := road_le t ht u (by omega) y hy; omega
theorem way_le : ∀ (t : List Nat), Ok t → ∀ u v, u ≤ t.length → v ≤ t.length → ∀ y ∈ way t u v, y ≤ t.length
  | [], _, _, _, _, _, y, hy => by simp [way] at hy; omega
  | p :: t, ⟨hp, ht⟩, u, v, hu, hv, y, hy => by
    simp only [way] at hy
    simp only [List.length_cons] at hu hv ⊢
    split at hy
    · split at hy
      · simp at hy; omega
      · rcases List.mem_cons.mp hy with rfl | hy
        · omega
        · have := way_le t ht p v hp (by omega) y hy; omega
    · split at hy
      · rcases List.mem_append.mp hy with hy | hy
        · have := way_le t ht u p (by omega) hp y hy; omega
        · simp at hy; omega
      · have := way_le t ht u v (by omega) (by omega) y hy; omega
theorem way_rev : ∀ (t : List Nat) (u v : Nat), way t v u = (way t u v).reverse
  | [], _, _ => rfl
  | p :: t, u, v => by
    simp only [way]
    by_cases hu : u = t.length + 1 <;> by_cases hv : v = t.length + 1
    · simp [hu, hv]
    · simp [hu, hv, way_rev t p v]
    · simp [hu, hv, way_rev t u p]
    · simp [hu, hv, way_rev t u v]
theorem way_len : ∀ (t : List Nat) (u v : Nat), (way t u v).length = dist t u v + 1
  | [], _, _ => rfl
  | p :: t, u, v => by
    simp only [way, dist]
    by_cases hu : u = t.length + 1 <;> by_cases hv : v = t.length + 1 <;> simp [hu, hv, way_len t]
theorem dist_symm (t : List Nat) (u v : Nat) : dist t v u = dist t u v := by
  have e1 := way_len t u v
  have e2 := way_len t v u
  rw [way_rev t u v, List.length_reverse] at e2
  omega
theorem way_nodup : ∀ (t : List Nat), Ok t → ∀ u v, u ≤ t.length → v ≤ t.length → (way t u v).Nodup
  | [], _, _, _, _, _ => by simp [way]
  | p :: t, ⟨hp, ht⟩, u, v, hu, hv => by
    simp only [List.length_cons] at hu hv
    simp only [way]
    by_cases h1 : u = t.length + 1 <;> by_cases h2 : v = t.length + 1
    · simp [h1, h2]
    · simp only [h1, h2, if_true, if_false, List.nodup_cons]
      exact ⟨fun h => by have := way_le t ht p v hp (by omega) _ h; omega, way_nodup t ht p v hp (by omega)⟩
    · simp only [h1, h2, if_true, if_false]
      rw [List.nodup_append]
      refine ⟨way_nodup t ht u p (by omega) hp, by simp, fun a ha b hb e => ?_⟩
      have := way_le t ht u p (by omega) hp _ ha
      simp at hb; omega
    · simp only [h1, h2, if_false]
      exact way_nodup t ht u v (by omega) (by omega)
/-- three places: their ways meet -/
theorem tripod : ∀ (t : List Nat), Ok t → ∀ p v x, p ≤ t.length → v ≤ t.length → x ≤ t.length →
    ∃ c m r1 r2, way t p v = c ++ m :: r1 ∧ way t p x = c ++ m :: r2 ∧ way t v x = r1.reverse ++ m :: r2
  | [], _, _, _, _, _, _, _ => ⟨[], 0, [], [], rfl, rfl, rfl⟩
  | q :: t, ⟨hq, ht⟩, p, v, x, hp, hv, hx => by
    simp only [List.length_cons] at hp hv hx
    simp only [way]
    by_cases h1 : p = t.length + 1 <;> by_cases h2 : v = t.length + 1 <;> by_cases h3 : x = t.length + 1
    · exact ⟨[], p, [], [], by simp [h1, h2], by simp [h1, h3], by simp [h1, h2, h3]⟩
    · exact ⟨[], p, [], way t q x, by simp [h1, h2], by simp [h1, h3], by simp [h1, h2, h3]⟩
    · exact ⟨[], p, way t q v, [], by simp [h1, h2], by simp [h1, h3], by simp [h1, h2, h3, way_rev t q v]⟩
    · obtain ⟨c, m, r1, r2, e1, e2, e3⟩ := tripod t ht q v x hq (by omega) (by omega)
      exact ⟨p :: c, m, r1, r2, by simp [h1, h2, e1], by simp [h1, h3, e2], by simp [h2, h3, e3]⟩
    · exact ⟨way t p q, v, [], [], by simp [h1, h2], by simp [h1, h2, h3], by simp [h2, h3]⟩
    · obtain ⟨c, m, r1, r2, e1, e2, e3⟩ := tripod t ht p q x (by omega) hq (by omega)
      exact ⟨c, m, r1 ++ [v], r2, by simp [h1, h2, e1], by simp [h1, h3, e2], by simp [h2, h3, e3]⟩
    · obtain ⟨c, m, r1, r2, e1, e2, e3⟩ := tripod t ht p v q (by omega) (by omega) hq
      exact ⟨c, m, r1, r2 ++ [x], by simp [h1, h2, e1], by simp [h1, h3, e2], by simp [h2, h3, e3]⟩
    · obtain ⟨c, m, r1, r2, e1, e2, e3⟩ := tripod t ht p v x (by omega) (by omega) (by omega)
      exact ⟨c, m, r1, r2, by simp [h1, h2, e1], by simp [h1, h3, e2], by simp [h2, h3, e3]⟩
def both (a b : List Nat) : List Nat := a.filter fun k => b.contains k
def half (S P R : Int) : Int := max 0 (1 + (S - min P R) / 2)
theorem half_up {S P R S' P' R' : Int} (h1 : S' = S + 1) (h2 : P' = P + 1) (h3 : R' = R + 1) : half S P R = half S' P' R' := by
  subst h1 h2 h3
  unfold half
  have : S + 1 - min (P + 1) (R + 1) = S - min P R := by omega
  rw [this]
theorem half_none {S P R : Int} (h1 : S + 2 ≤ P) (h2 : S + 2 ≤ R) : 0 = half S P R := by
  unfold half
  have : S + 2 ≤ min P R := Int.le_min.mpr ⟨h1, h2⟩
  omega
theorem half_congr {S P R S' P' R' : Int} (h1 : S = S') (h2 : P = P') (h3 : R = R') : half S P R = max 0 (1 + (S' - min P' R') / 2) := by
  subst h1 h2 h3; rfl
theorem half_comm {S P R P' R' : Int} (h1 : P' = R) (h2 : R' = P) : half S P R = half S P' R' := by
  subst h1 h2
  unfold half
  rw [Int.min_comm]
theorem half_same {c a b : Int} (hc : 0 ≤ c) (ha : 0 ≤ a) (hb : 0 ≤ b) : c + 1 = half ((c + a) + (c + b)) (a + b) ((c + b) + (c + a)) := by
  unfold half
  have : min (a + b) (c + b + (c + a)) = a + b := Int.min_eq_left (by omega)
  rw [this]
  have : c + a + (c + b) - (a + b) = 2 * c := by omega
  rw [this]
  omega
structure Four (t : List Nat) (u v w x : Nat) : Prop where
  one : both (way t u v) (way t w x) <:+: way t u v
  two : both (way t u v) (way t w x) <:+: way t w x ∨ both (way t u v) (way t w x) <:+: (way t w x).reverse
  len : ((both (way t u v) (way t w x)).length : Int) = half ((dist t u v : Int) + dist t w x) ((dist t u w : Int) + dist t v x) ((dist t u x : Int) + dist t v w)
theorem both_rev1 (a b : List Nat) : both a.reverse b = (both a b).reverse := by simp [both, List.filter_reverse]
theorem both_rev2 (a b : List Nat) : both a b.reverse = both a b := by simp [both]
theorem Four.swap1 {t : List Nat} {u v w x : Nat} (h : Four t u v w x) : Four t v u w x := by
  obtain ⟨h1, h2, h3⟩ := h
  refine ⟨?_, ?_, ?_⟩
  · rw [way_rev t u v, both_rev1]; exact List.reverse_infix.mpr h1
  · rw [way_rev t u v, both_rev1]
    rcases h2 with h2 | h2
    · exact .inr (List.reverse_infix.mpr h2)
    · refine .inl ?_
      have := List.reverse_infix.mpr h2
      rwa [List.reverse_reverse] at this
  · rw [way_rev t u v, both_rev1, List.length_reverse, h3, dist_symm t u v]; exact half_comm (Int.add_comm _ _) (Int.add_comm _ _)
theorem Four.swap2 {t : List Nat} {u v w x : Nat} (h : Four t u v w x) : Four t u v x w := by
  obtain ⟨h1, h2, h3⟩ := h
  refine ⟨?_, ?_, ?_⟩
  · rw [way_rev t w x, both_rev2]; exact h1
  · rw [way_rev t w x, both_rev2, List.reverse_reverse]; exact h2.symm
  · rw [way_rev t w x, both_rev2, h3, dist_symm t w x]; exact half_comm rfl rfl
theorem four_same {t : List Nat} (ht : Ok t) {u v x : Nat} (hu : u ≤ t.length) (hv : v ≤ t.length) (hx : x ≤ t.length) : Four t u v u x := by
  obtain ⟨c, m, r1, r2, e1, e2, e3⟩ := tripod t ht u v x hu hv hx
  have n1 := way_nodup t ht u v hu hv
  have n2 := way_nodup t ht u x hu hx
  have n3 := way_nodup t ht v x hv hx
  have l1 := way_len t u v
  have l2 := way_len t u x
  have l3 := way_len t v x
  have hb : both (way t u v) (way t u x) = c ++ [m] := by
    rw [e1] at n1; rw [e2] at n2; rw [e3] at n3
    rw [e1, e2, both]
    rw [show c ++ m :: r1 = (c ++ [m]) ++ r1 by simp, List.filter_append]
    have k1 : (c ++ [m]).filter (fun k => (c ++ m :: r2).contains k) = c ++ [m] := by
      rw [List.filter_eq_self]
      intro a ha
      simp at ha ⊢
      rcases ha with ha | ha
      · exact .inl ha
      · exact .inr (.inl ha)
    have k2 : r1.filter (fun k => (c ++ m :: r2).contains k) = [] := by
      rw [List.filter_eq_nil_iff]
      intro a ha h
      simp at h
      rw [List.nodup_append] at n1 n3
      obtain ⟨_, a2, a3⟩ := n1
      obtain ⟨_, b2, b3⟩ := n3
      rcases h with h | h | h
      · exact a3 a h a (List.mem_cons_of_mem _ ha) rfl
      · exact (List.nodup_cons.mp a2).1 (h ▸ ha)
      · exact b3 a (by simpa using ha) a (List.mem_cons_of_mem _ h) rfl
    rw [k1, k2, List.append_nil]
  have z : dist t u u = 0 := by
    obtain ⟨c', m', r1', r2', f1, f2, f3⟩ := tripod t ht u u u hu hu hu
    have hh : ∀ t u, dist t u u = 0 := by
      intro t; induction t with
      | nil => intro u; rfl
      | cons p t ih => intro u; simp only [dist]; split <;> simp [ih]
    exact hh t u
  refine ⟨?_, ?_, ?_⟩
  · rw [hb, e1]; exact ⟨[], r1, by simp⟩
  · rw [hb, e2]; exact .inl ⟨[], r2, by simp⟩
  · rw [hb, z]
    rw [e1] at l1; rw [e2] at l2; rw [e3] at l3
    simp only [List.length_append, List.length_cons, List.length_reverse] at l1 l2 l3
    have k1 : dist t u v = c.length + r1.length := by omega
    have k2 : dist t u x = c.length + r2.length := by omega
    have k3 : dist t v x = r1.length + r2.length := by omega
    rw [dist_symm t u v, k1, k2, k3]
    have q := half_same (c := c.length) (a := r1.length) (b := r2.length) (Int.natCast_nonneg _) (Int.natCast_nonneg _) (Int.natCast_nonneg _)
    simpa using q
theorem both_congr {a b b' : List Nat} (h : ∀ y ∈ a, b.contains y = b'.contains y) : both a b = both a b' := by
  unfold both
  exact List.filter_congr h
theorem four : ∀ (t : List Nat), Ok t → ∀ u v w x, u ≤ t.length → v ≤ t.length → w ≤ t.length → x ≤ t.length → Four t u v w x
  | [], _, u, v, w, x, hu, hv, hw, hx => by
    have e1 : u = 0 := Nat.le_zero.mp hu
    have e3 : w = 0 := Nat.le_zero.mp hw
    subst e1 e3
    exact four_same (t := []) trivial (Nat.le_refl _) hv hx
  | p :: t, ⟨hp, ht⟩, u, v, w, x, hu, hv, hw, hx => by
    by_cases huw : u = w
    · subst huw; exact four_same (t := p :: t) ⟨hp, ht⟩ hu hv hx
    by_cases hux : u = x
    · subst hux; exact (four_same (t := p :: t) ⟨hp, ht⟩ hu hv hw).swap2
    by_cases hvw : v = w
    · subst hvw; exact (four_same (t := p :: t) ⟨hp, ht⟩ hv hu hx).swap1
    by_cases hvx : v = x
    · subst hvx; exact (four_same (t := p :: t) ⟨hp, ht⟩ hv hu hw).swap1.swap2
    simp only [List.length_cons] at hu hv hw hx
    have out : ∀ a b, a ≤ t.length → b ≤ t.length → (way t a b).contains (t.length + 1) = false := fun a b ha hb => by
      cases h : (way t a b).contains (t.length + 1) with
      | false => rfl
      | true => have := way_le t ht a b ha hb _ (by simpa using h); omega
    have outm : ∀ a b, a ≤ t.length → b ≤ t.length → ∀ y ∈ way t a b, y ≠ t.length + 1 := fun a b ha hb y hy => by
      have := way_le t ht a b ha hb _ hy; omega
    have tri : ∀ a b c, a ≤ t.length → b ≤ t.length → c ≤ t.length → dist t b c ≤ dist t a b + dist t a c := fun a b c ha hb hc => by
      obtain ⟨k, m, r1, r2, e1, e2, e3⟩ := tripod t ht a b c ha hb hc
      have l1 := way_len t a b
      have l2 := way_len t a c
      have l3 := way_len t b c
      rw [e1] at l1; rw [e2] at l2; rw [e3] at l3
      simp at l1 l2 l3
      omega
    by_cases h1 : u = t.length + 1
    · have h3 : w ≠ t.length + 1 := by omega
      have h4 : x ≠ t.length + 1 := by omega
      by_cases h2 : v = t.length + 1
      · have e1 : way (p :: t) u v = [u] := by simp [way, h1, h2]
        have e2 : way (p :: t) w x = way t w x := by simp [way, h3, h4]
        have eb : both (way (p :: t) u v) (way (p :: t) w x) = [] := by
          rw [e1, e2, both, h1, List.filter_cons, out w x (by omega) (by omega)]; rfl
        refine ⟨?_, ?_, ?_⟩
        · rw [eb]; exact List.nil_infix
        · rw [eb]; exact .inl List.nil_infix
        · rw [eb]
          have := tri p w x hp (by omega) (by omega)
          simp only [dist, h1, h2, h3, h4, if_true, if_false, List.length_nil]
          exact half_none (by omega) (by omega)
      · have e1 : way (p :: t) u v = u :: way t p v := by simp [way, h1, h2]
        have e2 : way (p :: t) w x = way t w x := by simp [way, h3, h4]
        have eb : both (way (p :: t) u v) (way (p :: t) w x) = both (way t p v) (way t w x) := by
          rw [e1, e2, both, h1, List.filter_cons, out w x (by omega) (by omega)]; rfl
        obtain ⟨f1, f2, f3⟩ := four t ht p v w x hp (by omega) (by omega) (by omega)
        refine ⟨?_, ?_, ?_⟩
        · rw [eb, e1]; exact f1.trans (List.suffix_cons _ _).isInfix
        · rw [eb, e2]; exact f2
        · rw [eb, f3]
          simp only [dist, h1, h2, h3, h4, if_true, if_false]
          exact half_up (by omega) (by omega) (by omega)
    · by_cases h2 : v = t.length + 1
      · have h3 : w ≠ t.length + 1 := by omega
        have h4 : x ≠ t.length + 1 := by omega
        have e1 : way (p :: t) u v = way t u p ++ [v] := by simp [way, h1, h2]
        have e2 : way (p :: t) w x = way t w x := by simp [way, h3, h4]
        have eb : both (way (p :: t) u v) (way (p :: t) w x) = both (way t u p) (way t w x) := by
          rw [e1, e2, both, h2, List.filter_append, List.filter_cons, out w x (by omega) (by omega)]; simp [both]
        obtain ⟨f1, f2, f3⟩ := four t ht u p w x (by omega) hp (by omega) (by omega)
        refine ⟨?_, ?_, ?_⟩
        · rw [eb, e1]; exact f1.trans (List.prefix_append _ _).isInfix
        · rw [eb, e2]; exact f2
        · rw [eb, f3]
          simp only [dist, h1, h2, h3, h4, if_true, if_false]
          exact half_up (by omega) (by omega) (by omega)
      · have e1 : way (p :: t) u v = way t u v := by simp [way, h1, h2]
        by_cases h3 : w = t.length + 1
        · by_cases h4 : x = t.length + 1
          · have e2 : way (p :: t) w x = [w] := by simp [way, h3, h4]
            have eb : both (way (p :: t) u v) (way (p :: t) w x) = [] := by
              rw [e1, e2, both, List.filter_eq_nil_iff]
              intro y hy h
              have := outm u v (by omega) (by omega) y hy
              simp at h; omega
            refine ⟨?_, ?_, ?_⟩
            · rw [eb]; exact List.nil_infix
            · rw [eb]; exact .inl List.nil_infix
            · rw [eb]
              have := tri p u v hp (by omega) (by omega)
              have a1 := dist_symm t u p
              have a2 := dist_symm t v p
              simp only [dist, h1, h2, h3, h4, if_true, if_false, List.length_nil]
              exact half_none (by omega) (by omega)
          · have e2 : way (p :: t) w x = w :: way t p x := by simp [way, h3, h4]
            have eb : both (way (p :: t) u v) (way (p :: t) w x) = both (way t u v) (way t p x) := by
              rw [e1, e2]
              refine both_congr fun y hy => ?_
              have := outm u v (by omega) (by omega) y hy
              simp; omega
            obtain ⟨f1, f2, f3⟩ := four t ht u v p x (by omega) (by omega) hp (by omega)
            refine ⟨?_, ?_, ?_⟩
            · rw [eb, e1]; exact f1
            · rw [eb, e2, List.reverse_cons]
              rcases f2 with f2 | f2
              · exact .inl (f2.trans (List.suffix_cons _ _).isInfix)
              · exact .inr (f2.trans (List.prefix_append _ _).isInfix)
            · rw [eb, f3]
              simp only [dist, h1, h2, h3, h4, if_true, if_false]
              exact half_up (by omega) (by omega) (by omega)
        · by_cases h4 : x = t.length + 1
          · have e2 : way (p :: t) w x = way t w p ++ [x] := by simp [way, h3, h4]
            have eb : both (way (p :: t) u v) (way (p :: t) w x) = both (way t u v) (way t w p) := by
              rw [e1, e2]
              refine both_congr fun y hy => ?_
              have := outm u v (by omega) (by omega) y hy
              simp; omega
            obtain ⟨f1, f2, f3⟩ := four t ht u v w p (by omega) (by omega) (by omega) hp
            refine ⟨?_, ?_, ?_⟩
            · rw [eb, e1]; exact f1
            · rw [eb, e2, List.reverse_append]
              rcases f2 with f2 | f2
              · exact .inl (f2.trans (List.prefix_append _ _).isInfix)
              · exact .inr (f2.trans (List.suffix_append _ _).isInfix)
            · rw [eb, f3]
              simp only [dist, h1, h2, h3, h4, if_true, if_false]
              exact half_up (by omega) (by omega) (by omega)
          · have e2 : way (p :: t) w x = way t w x := by simp [way, h3, h4]
            obtain ⟨f1, f2, f3⟩ := four t ht u v w x (by omega) (by omega) (by omega) (by omega)
            refine ⟨?_, ?_, ?_⟩
            · rw [e1, e2]; exact f1
            · rw [e1, e2]; exact f2
            · rw [e1, e2, f3]
              simp only [dist, h1, h2, h3, h4, if_false]
/-- the way by the two roads -/
theorem meet : ∀ (t : List Nat), Ok t → ∀ u v, u ≤ t.length → v ≤ t.length →
    ∃ a1 m c1 a2 c2, road t u = a1 ++ m :: c1 ∧ road t v = a2 ++ m :: c2 ∧ (∀ y ∈ a1, y ∉ road t v) ∧ m ∉ a1 ∧ m ∉ a2 ∧ way t u v = a1 ++ m :: a2.reverse
  | [], _, _, _, _, _ => ⟨[], 0, [], [], [], rfl, rfl, by simp, by simp, by simp, rfl⟩
  | p :: t, ⟨hp, ht⟩, u, v, hu, hv => by
    simp only [List.length_cons] at hu hv
    by_cases h1 : u = t.length + 1 <;> by_cases h2 : v = t.length + 1
    · exact ⟨[], u, road t p, [], road t p, by simp [road, h1], by simp [road, h1, h2], by simp, by simp, by simp, by simp [way, h1, h2]⟩
    · obtain ⟨a1, m, c1, a2, c2, e1, e2, e3, e4, e5, e6⟩ := meet t ht p v hp (by omega)
      have ev : road (p :: t) v = road t v := by simp [road, h2]
      refine ⟨u :: a1, m, c1, a2, c2, by simp [road, h1, e1], by rw [ev, e2], ?_, ?_, e5, by simp [way, h1, h2, e6]⟩
      · intro y hy
        rw [ev]
        rcases List.mem_cons.mp hy with rfl | hy
        · intro h
          have := road_le t ht v (by omega) _ h; omega
        · exact e3 y hy
      · intro h
        rcases List.mem_cons.mp h with rfl | h
        · have := road_le t ht p hp m (by rw [e1]; simp); omega
        · exact e4 h
    · obtain ⟨a1, m, c1, a2, c2, e1, e2, e3, e4, e5, e6⟩ := meet t ht u p (by omega) hp
      have eu : road (p :: t) u = road t u := by simp [road, h1]
      have ev : road (p :: t) v = v :: road t p := by simp [road, h2]
      refine ⟨a1, m, c1, v :: a2, c2, by rw [eu, e1], by rw [ev, e2]; rfl, ?_, e4, ?_, by simp [way, h1, h2, e6]⟩
      · intro y hy h
        rw [ev] at h
        rcases List.mem_cons.mp h with rfl | h
        · have := road_le t ht u (by omega) y (by rw [e1]; simp [hy]); omega
        · exact e3 y hy h
      · intro h
        rcases List.mem_cons.mp h with rfl | h
        · have := road_le t ht u (by omega) m (by rw [e1]; simp); omega
        · exact e5 h
    · obtain ⟨a1, m, c1, a2, c2, e1, e2, e3, e4, e5, e6⟩ := meet t ht u v (by omega) (by omega)
      have eu : road (p :: t) u = road t u := by simp [road, h1]
      have ev : road (p :: t) v = road t v := by simp [road, h2]
      exact ⟨a1, m, c1, a2, c2, by rw [eu, e1], by rw [ev, e2], by rw [ev]; exact e3, e4, e5, by simp [way, h1, h2, e6]⟩
theorem count_one {n : Nat} {p q : Nat → Bool} (h : ∀ y, y ≠ n → q y = p y) (h1 : q n = true) (h2 : p n = false) : ∀ l : List Nat, l.Nodup → n ∈ l → (l.filter q).length = (l.filter p).length + 1
  | [], _, hm => nomatch hm
  | a :: l, hn, hm => by
    obtain ⟨b1, b2⟩ := List.nodup_cons.mp hn
    by_cases e : a = n
    · subst e
      have : l.filter q = l.filter p := List.filter_congr fun y hy => h y fun k => b1 (k ▸ hy)
      simp [h1, h2, this]
    · have hm' : n ∈ l := by
        rcases List.mem_cons.mp hm with k | k
        · exact absurd k.symm e
        · exact k
      have := count_one h h1 h2 l b2 hm'
      simp only [List.filter_cons, h a e]
      split <;> simp [this]
theorem steps : ∀ (t : List Nat), Ok t → ∀ u v, u ≤ t.length → v ≤ t.length → ∀ N, t.length < N →
    ((List.range N).filter fun y => (road t u).contains y != (road t v).contains y).length = dist t u v
  | [], _, _, _, _, _, _, _ => by simp [road, dist]
  | p :: t, ⟨hp, ht⟩, u, v, hu, hv, N, hN => by
    simp only [List.length_cons] at hu hv hN
    have out : ∀ a, a ≤ t.length → (road t a).contains (t.length + 1) = false := fun a ha => by
      cases h : (road t a).contains (t.length + 1) with
      | false => rfl
      | true => have := road_le t ht a ha _ (by simpa using h); omega
    have hin : t.length + 1 ∈ List.range N := List.mem_range.mpr hN
    by_cases h1 : u = t.length + 1 <;> by_cases h2 : v = t.length + 1
    · simp [h1, h2, dist]
    · have e := steps t ht p v hp (by omega) N (by omega)
      have eu : road (p :: t) u = (t.length + 1) :: road t p := by simp [road, h1]
      have ev : road (p :: t) v = road t v := by simp [road, h2]
      have ed : dist (p :: t) u v = dist t p v + 1 := by simp [dist, h1, h2]
      rw [eu, ev, ed, ← e]
      refine count_one (n := t.length + 1) (fun y hy => ?_) ?_ ?_ _ List.nodup_range hin
      · simp only [List.contains_cons]
        rw [show (y == t.length + 1) = false from beq_eq_false_iff_ne.mpr hy]; rfl
      · simp only [List.contains_cons, beq_self_eq_true, Bool.true_or, out v (by omega)]; rfl
      · simp only [out p hp, out v (by omega)]; rfl
    · have e := steps t ht u p (by omega) hp N (by omega)
      have eu : road (p :: t) u = road t u := by simp [road, h1]
      have ev : road (p :: t) v = (t.length + 1) :: road t p := by simp [road, h2]
      have ed : dist (p :: t) u v = dist t u p + 1 := by simp [dist, h1, h2]
      rw [eu, ev, ed, ← e]
      refine count_one (n := t.length + 1) (fun y hy => ?_) ?_ ?_ _ List.nodup_range hin
      · simp only [List.contains_cons]
        rw [show (y == t.length + 1) = false from beq_eq_false_iff_ne.mpr hy]; rfl
      · simp only [List.contains_cons, beq_self_eq_true, Bool.true_or, out u (by omega)]; rfl
      · simp only [out p hp, out u (by omega)]; rfl
    · have e := steps t ht u v (by omega) (by omega) N (by omega)
      have eu : road (p :: t) u = road t u := by simp [road, h1]
      have ev : road (p :: t) v = road t v := by simp [road, h2]
      have ed : dist (p :: t) u v = dist t u v := by simp [dist, h1, h2]
      rw [eu, ev, ed, ← e]
/-- what lies above a place -/
def up (t : List Nat) (u : Nat) : Nat := t.getD (t.length - u) 0
theorem road_zero : ∀ t : List Nat, road t 0 = [0]
  | [] => rfl
  | p :: t => by simp [road, road_zero t]
theorem road_step : ∀ (t : List Nat), Ok t → ∀ u, 0 < u → u ≤ t.length → road t u = u :: road t (up t u) ∧ up t u < u
  | [], _, u, h, hu => by simp at hu; omega
  | p :: t, ⟨hp, ht⟩, u, h, hu => by
    simp only [List.length_cons] at hu
    by_cases h1 : u = t.length + 1
    · have e : up (p :: t) u = p := by simp [up, h1]
      have hne : p ≠ t.length + 1 := by omega
      rw [e]
      refine ⟨?_, by omega⟩
      simp [road, h1, hne]
    · obtain ⟨e1, e2⟩ := road_step t ht u h (by omega)
      have e : up (p :: t) u = up t u := by
        unfold up
        rw [List.length_cons, show t.length + 1 - u = (t.length - u) + 1 by omega, List.getD_cons_succ]
      rw [e]
      refine ⟨?_, e2⟩
      have hne : up t u ≠ t.length + 1 := by omega
      simp only [road, h1, hne, if_false]
      exact e1
theorem road_head (t : List Nat) (u : Nat) (hu : u ≤ t.length) (ht : Ok t) : ∃ r, road t u = u :: r := by
  rcases Nat.eq_zero_or_pos u with rfl | h
  · exact ⟨[], road_zero t⟩
  · exact ⟨_, (road_step t ht u h hu).1⟩
end T
end Mine


namespace Mine
open Builtin Builtin.Str
/-- places as a text: the place 0 is 'a' -/
def one (p : Nat) : Str := ⟨#[97 + p]⟩
def tx (cs : List Nat) : Str := ⟨cs.toArray⟩
def pl (P : List Nat) : Str := tx (P.map (97 + ·))
theorem tx_len (cs : List Nat) : (tx cs).length = cs.length := List.size_toArray
theorem pl_len (P : List Nat) : (pl P).length = P.length := by rw [pl, tx_len, List.length_map]
theorem one_inj {p q : Nat} : one p = one q ↔ p = q := by
  constructor
  · intro h
    have := congrArg (fun s : Str => s.cps.toList) h
    simp [one] at this
    exact this
  · rintro rfl; rfl
theorem glue_fold : ∀ (P : List Nat) (acc : Array Nat), (P.map one).foldl (fun acc p => acc ++ (Str.ofString "").cps ++ p.cps) acc = acc ++ (P.map (97 + ·)).toArray
  | [], acc => by simp
  | p :: P, acc => by
    rw [List.map_cons, List.foldl_cons, glue_fold P]
    have e : (Str.ofString "").cps = #[] := by decide +kernel
    rw [e]
    simp [one]
theorem join_pl (P : List Nat) : Txt.join (Str.ofString "") (P.map one) = pl P := by
  show glued _ _ = _
  unfold glued
  cases P with
  | nil => rfl
  | cons p P =>
    have e : ((p :: P).map one).drop 1 = P.map one := by simp
    rw [e, glue_fold]
    show Str.mk _ = Str.mk _
    simp [one]
theorem signs_pl (P : List Nat) : signs (pl P) = P.map one := by
  simp [signs, pl, tx, one]
theorem in_tx {A B : List Nat} (h : A <:+: B) : (!(occurrences (tx B) (tx A) 0 (tx B).length 1).isEmpty) = true := by
  obtain ⟨s, t, e⟩ := h
  refine (StrLaws.found_iff _ _).mpr ⟨s.length, ?_, ?_⟩
  · rw [tx_len, tx_len, ← e]; simp
  · rw [StrLaws.subAt_eq, tx_len, ← e]
    simp [tx]
theorem tx_add (A B : List Nat) : tx A ++ tx B = tx (A ++ B) := by
  show Str.mk _ = Str.mk _
  simp [tx]
theorem filterMap_rev {α : Type} (l : List α) : ∀ n, n ≤ l.length → ((List.range n).map fun (i : Nat) => ((n : Int) - 1 + -1 * (i : Int)).toNat).filterMap (l[·]?) = (l.take n).reverse := by
  intro n
  induction n with
  | zero => intro _; rfl
  | succ n ih =>
    intro hn
    have h1 : n < l.length := hn
    have e1 : (List.range (n + 1)).map (fun (i : Nat) => (((n + 1 : Nat) : Int) - 1 + -1 * (i : Int)).toNat) = n :: (List.range n).map (fun (i : Nat) => ((n : Int) - 1 + -1 * (i : Int)).toNat) := by
      rw [List.range_succ_eq_map, List.map_cons, List.map_map]
      congr 1
      · omega
      · refine List.map_congr_left fun i _ => ?_
        simp only [Function.comp]
        omega
    rw [e1, List.filterMap_cons, List.getElem?_eq_getElem h1]
    simp only
    rw [ih (by omega), List.take_add_one, List.getElem?_eq_getElem h1, List.reverse_append]
    rfl
theorem tx_rev (cs : List Nat) (uk : Tok) : Txt.sliceBy (tx cs) none none (-1, uk) = tx cs.reverse := by
  unfold Txt.sliceBy
  rw [if_neg (by simp)]
  show Str.mk _ = Str.mk _
  congr 2
  have e : slicePicked (tx cs) none none (some (-1, uk)) = (List.range cs.length).map fun (i : Nat) => ((cs.length : Int) - 1 + -1 * (i : Int)).toNat := by
    show sliceRange (((tx cs).length : Int) - 1) (-1) (-1) = _
    unfold sliceRange
    rw [tx_len]
    simp only [show ¬ ((-1 : Int) > 0) by decide, if_false]
    congr 2
    rw [show (- (-1 : Int)) = 1 from rfl, Int.ediv_one]
    split <;> omega
  rw [e]
  have := filterMap_rev cs cs.length (Nat.le_refl _)
  rw [List.take_length] at this
  simpa [tx] using this
section
variable {prog : Program} {w : World} {A : Around} {E : Value → Shared → Prop} {s : Shared} {h₀ : Heap} {L : Addr} {m : Str → Option Value} {news : Led} {Q : Value → Shared → Prop}
theorem strs_ofGet : ∀ (vs : List Value) (cs : List Nat), vs.length = cs.length → (∀ (j : Nat) (v : Value), vs[j]? = some v → ∃ (c : Nat) (u : Tok), cs[j]? = some c ∧ v = Value.str ⟨#[c]⟩ u) → StrsAre vs (cs.map fun c => (⟨#[c]⟩ : Str))
  | [], [], _, _ => .nil
  | [], _ :: _, e, _ => by simp at e
  | _ :: _, [], e, _ => by simp at e
  | v :: vs, c :: cs, e, h => by
    obtain ⟨c', u, hc, rfl⟩ := h 0 v rfl
    simp at hc; subst hc
    exact .cons _ _ (strs_ofGet vs cs (by simpa using e) fun j v hv => by simpa using h (j + 1) v (by simpa using hv))
theorem listStr_L {cs : List Nat} {t : Tok} (hh : A.handled = none) (F : Fr h₀ L s.heap m) (N : News h₀ L s.heap news) (hz : cs.length ≤ 1000)
    (h : ∀ D h' tk ys n, Fr h₀ L h' m → News h₀ L h' ((D, listOf ys.toArray n) :: news) → (∀ p ∈ news, p.1 < D) → StrsAre ys (cs.map fun c => (⟨#[c]⟩ : Str)) → Q (.ref D) { s with heap := h', toks := tk }) :
    wpAny (model prog w) A (call (.type "list") [.str (tx cs) t]) Q E s := by
  refine call_list_str hh (tx cs) t (hn := by show (tx cs).length ≤ _; rw [tx_len]; exact Nat.le_trans hz (by decide)) fun h' tk acc' c' hk hS' hacc => ?_
  refine h s.heap.objs.size h' tk acc'.toList c' (F.keeps hk) (fun p hp => ?_) (fun p hp => Heap.lt_size (N p hp).1) (strs_ofGet _ _ ?_ ?_)
  · rcases List.mem_cons.mp hp with rfl | hp
    · exact ⟨hS', fun e => absurd F.ns.lt (e ▸ Nat.lt_irrefl _), next_is_new F⟩
    · exact ⟨hk _ _ (N p hp).1, (N p hp).2⟩
  · have := hacc.1
    simpa [tx] using this
  · intro j v hv
    obtain ⟨c, u, hc, rfl⟩ := hacc.2 j v (by simpa using hv)
    exact ⟨c, u, by simpa [tx] using hc, rfl⟩
theorem revStr_L {value slice : Expr} {cs : List Nat} {t uk : Tok} (F : Fr h₀ L s.heap m) (N : News h₀ L s.heap news) (hz : cs.length ≤ 1000)
    (h : ∀ h' t' c, Fr h₀ L h' m → News h₀ L h' news → Q (.str (tx cs.reverse) t') { s with heap := h', toks := c })
    (hs : subscripted slice false (.str (tx cs) t) (.ref s.heap.objs.size) = operate [.ref s.heap.objs.size, .str (tx cs) t] (getItem (.str (tx cs) t) (.ref s.heap.objs.size)))
    (ht : ∀ r, letTemporaryGo value (.str (tx cs) t) r = pure ()) :
    wpAny (model prog w) A (subscriptTail value slice (.str (tx cs) t) (.ref s.heap.objs.size)) Q E { s with heap := s.heap.push { cls := .type "slice", data := .fields #[.none, .none, .int (-1) uk] } } :=
  slice_strK_nn F N rfl (fun h' t' c F' N' => by rw [tx_rev]; exact h h' t' c F' N') hs ht (by rw [tx_len]; exact Nat.le_trans hz (by decide))
theorem addTx_L {a b : List Nat} {t u : Tok} (hz : a.length + b.length ≤ 10000) (h : ∀ t' k, Q (.str (tx (a ++ b)) t') { s with toks := k }) : wpAny (model prog w) A (binaryOp .Add (.str (tx a) t) (.str (tx b) u)) Q E s :=
  KXadd.add (K := a.length) (L := b.length) (by rw [tx_len]; exact Nat.le_refl _) (by rw [tx_len]; exact Nat.le_refl _) (by omega) fun t' k _ => by rw [tx_add]; exact h t' k
theorem joinPl_L {D : Addr} {us : List Value} {n : Nat} {P : List Nat} {t : Tok} (N : News h₀ L s.heap news) (hm : (D, listOf us.toArray n) ∈ news) (hy : StrsAre us (P.map one)) (hz : us.length ≤ 1000)
    (h : ∀ t' k, Q (.str (tx (P.map (97 + ·))) t') { s with toks := k }) : wpAny (model prog w) A (call (.builtin "str.join") [.str (Str.ofString "") t, .ref D]) Q E s := by
  have hl := strsAre_length hy
  rw [List.length_map] at hl
  refine join_list (ys := P.map one) ⟨_, (N _ hm).1, rfl, _, rfl⟩ hy ?_ fun t' k => by rw [join_pl]; exact h t' k
  have e1 : ((P.map one).map (·.length)).sum = P.length := by
    clear hy hl h
    induction P with
    | nil => rfl
    | cons p P ih =>
      have e : (one p).length = 1 := rfl
      rw [List.map_cons, List.map_cons, List.sum_cons, ih, e, List.length_cons]
      omega
  have e2 : (Str.ofString "").length = 0 := by decide +kernel
  rw [e1, e2]; omega
theorem lenTx_L {cs : List Nat} {t : Tok} (hz : cs.length ≤ 1000) (h : ∀ t' k, Q (.int (cs.length : Nat) t') { s with toks := k }) : wpAny (model prog w) A (call (.builtin "len") [.str (tx cs) t]) Q E s :=
  len_str (by rw [tx_len]; omega) (by rw [tx_len]; exact h _ _)
end
theorem strDats {news : Led} {vs : List Value} {ys : List Str} (h : StrsAre vs ys) : DatAll news vs (ys.map Dat.str) := by
  induction h with
  | nil => exact .nil
  | cons _ _ _ ih => exact .cons (.str _ _) ih
end Mine


namespace Mine
theorem intDats {news : Led} {vs : List Value} {ys : List Int} (h : IntsAre vs ys) : DatAll news vs (ys.map Dat.int) := by
  induction h with
  | nil => exact .nil
  | cons _ _ _ ih => exact .cons (.int _ _) ih
theorem intsAre_snoc {vs : List Value} {ys : List Int} (h : IntsAre vs ys) (y : Int) (t : Tok) : IntsAre (vs ++ [.int y t]) (ys ++ [y]) := by
  induction h with
  | nil => exact .cons _ _ .nil
  | cons _ _ _ ih => exact .cons _ _ ih
/-- the tree of a list of places above -/
def treeOf (b2 b3 b4 b5 b6 : Int) : List Nat := [b6.toNat, b5.toNat, b4.toNat, b3.toNat, b2.toNat, 0]
theorem treeOk {b2 b3 b4 b5 b6 : Int} (g2 : 0 ≤ b2 ∧ b2 < 2) (g3 : 0 ≤ b3 ∧ b3 < 3) (g4 : 0 ≤ b4 ∧ b4 < 4) (g5 : 0 ≤ b5 ∧ b5 < 5) (g6 : 0 ≤ b6 ∧ b6 < 6) : T.Ok (treeOf b2 b3 b4 b5 b6) := by
  simp only [treeOf, T.Ok, List.length_cons, List.length_nil]
  refine ⟨?_, ?_, ?_, ?_, ?_, ?_, trivial⟩ <;> omega
theorem above_at {b2 b3 b4 b5 b6 : Int} (g2 : 0 ≤ b2 ∧ b2 < 2) (g3 : 0 ≤ b3 ∧ b3 < 3) (g4 : 0 ≤ b4 ∧ b4 < 4) (g5 : 0 ≤ b5 ∧ b5 < 5) (g6 : 0 ≤ b6 ∧ b6 < 6) (t0 t1 t2 t3 t4 t5 t6 : Tok) {y : Nat} (h0 : 0 < y) (h1 : y ≤ 6) :
    ∃ (z : Nat) (tz : Tok), [Value.int 0 t0, .int 0 t1, .int b2 t2, .int b3 t3, .int b4 t4, .int b5 t5, .int b6 t6][((y : Nat) : Int).toNat]? = some (.int (z : Int) tz) ∧ T.up (treeOf b2 b3 b4 b5 b6) y = z := by
  have : y = 1 ∨ y = 2 ∨ y = 3 ∨ y = 4 ∨ y = 5 ∨ y = 6 := by omega
  rcases this with rfl | rfl | rfl | rfl | rfl | rfl
  · exact ⟨0, t1, rfl, rfl⟩
  · exact ⟨b2.toNat, t2, by show some (Value.int b2 t2) = _; rw [Int.toNat_of_nonneg g2.1], rfl⟩
  · exact ⟨b3.toNat, t3, by show some (Value.int b3 t3) = _; rw [Int.toNat_of_nonneg g3.1], rfl⟩
  · exact ⟨b4.toNat, t4, by show some (Value.int b4 t4) = _; rw [Int.toNat_of_nonneg g4.1], rfl⟩
  · exact ⟨b5.toNat, t5, by show some (Value.int b5 t5) = _; rw [Int.toNat_of_nonneg g5.1], rfl⟩
  · exact ⟨b6.toNat, t6, by show some (Value.int b6 t6) = _; rw [Int.toNat_of_nonneg g6.1], rfl⟩
section
variable {prog : Program} {w : World} {A : Around} {E : Value → Shared → Prop} {s : Shared} {h₀ : Heap} {L : Addr} {news : Led}
theorem last_L {value slice : Expr} {l : Addr} {us : List Value} {x : Value} {n : Nat} {u : Tok} {Q : Value → Shared → Prop} (N : News h₀ L s.heap news) (hl : (l, listOf (us ++ [x]).toArray n) ∈ news) (h : Q x s)
    (hs : subscripted slice false (.ref l) (.int (-1) u) = operate [.ref l, .int (-1) u] (getItem (.ref l) (.int (-1) u)) := by with_unfolding_all rfl) :
    wpAny (model prog w) A (subscriptTail value slice (.ref l) (.int (-1) u)) Q E s := by
  refine kde_neg (j := us.length) (News.isList N hl) (by decide) (by decide) ?_ (by simp) h hs
  unfold seqIndex?
  rw [List.length_append]
  simp
  try omega
theorem in_L {l : Addr} {vs : List Value} {n : Nat} {ys : List Int} {x : Int} {t : Tok} {Q : Value → Shared → Prop} (N : News h₀ L s.heap news) (hl : (l, listOf vs.toArray n) ∈ news) (hy : IntsAre vs ys) (hu : A.units + 64 < cLine) (h : Q (.bool (decide (x ∈ ys))) s) :
    wpAny (model prog w) A (compareOp .In (.int x t) (.ref l)) Q E s := by
  refine kqd_isIn (n₁ := news) (n₂ := news) (d := .int x) (ds := ys.map Dat.int) N hl rfl rfl (intDats hy) (fun _ h => h) (.int _ _) (fun _ h => h) (fun d hd => ?_) rfl hu ?_
  · obtain ⟨z, _, rfl⟩ := List.mem_map.mp hd; rfl
  · have key : ∀ (p : Prop) (i : Decidable p), (p ↔ x ∈ ys) → Q (.bool (@decide p i)) s := fun p i e => by rw [decide_eq_decide.mpr e]; exact h
    exact key _ _ (by simp)
end
theorem neUp {a : Addr} {l : Led} (h : ∀ p ∈ l, p.1 < a) : ∀ p ∈ l, p.1 ≠ a + 1 := fun p hp => Nat.ne_of_lt (Nat.lt_succ_of_lt (h p hp))
end Mine

local macro_rules | `(tactic| k_all) => `(tactic| exact Mine.neUp (by assumption))
local macro_rules | `(tactic| walk_at "subscriptTail Name UnaryOp ref int") => `(tactic| k_extra "subscriptTail Name UnaryOp ref int")
local macro_rules | `(tactic| walk_at "compareOp In int ref") => `(tactic| k_extra "compareOp In int ref")
local macro_rules | `(tactic| walk_at "subscriptTail Name Subscript ref int") => `(tactic| k_extra "subscriptTail Name Subscript ref int")

namespace Mine
theorem lc_one {u : Int} (h0 : 0 ≤ u) (h1 : u < 7) : lc u = one u.toNat := by
  have : u = 0 ∨ u = 1 ∨ u = 2 ∨ u = 3 ∨ u = 4 ∨ u = 5 ∨ u = 6 := by omega
  rcases this with rfl | rfl | rfl | rfl | rfl | rfl | rfl <;> decide +kernel
theorem one_letter {u : Nat} (h : u ≤ 6) : Letter (one u) := by
  have : u = 0 ∨ u = 1 ∨ u = 2 ∨ u = 3 ∨ u = 4 ∨ u = 5 ∨ u = 6 := by omega
  rcases this with rfl | rfl | rfl | rfl | rfl | rfl | rfl <;> (show _ ∈ letters; decide +kernel)
theorem look_cons {k v q : Str} {r : List (Str × Str)} (b : Bool) (h : (Txt.lower k == q) = b) : ((k, v) :: r).find? (fun kv => Txt.lower kv.1 == q) = if b then some (k, v) else r.find? (fun kv => Txt.lower kv.1 == q) := by
  rw [List.find?_cons]
  show (match (Txt.lower k == q) with | true => _ | false => _) = _
  rw [h]; cases b <;> rfl
theorem path_tab {b2 b3 b4 b5 b6 : Int} (g2 : 0 ≤ b2 ∧ b2 < 2) (g3 : 0 ≤ b3 ∧ b3 < 3) (g4 : 0 ≤ b4 ∧ b4 < 4) (g5 : 0 ≤ b5 ∧ b5 < 5) (g6 : 0 ≤ b6 ∧ b6 < 6) :
    ∀ (n u : Nat), u ≤ n → u ≤ 6 → Path (tabOf b2 b3 b4 b5 b6) (one u) ((T.road (treeOf b2 b3 b4 b5 b6) u).map one) := by
  have hok := treeOk g2 g3 g4 g5 g6
  have h2 := lc_one g2.1 (by omega)
  have h3 := lc_one g3.1 (by omega)
  have h4 := lc_one g4.1 (by omega)
  have h5 := lc_one g5.1 (by omega)
  have h6 := lc_one g6.1 (by omega)
  have h0 : lc 0 = one 0 := by decide +kernel
  intro n
  induction n with
  | zero =>
    intro u hu _
    have : u = 0 := by omega
    subst this
    rw [T.road_zero]
    refine Path.last ?_
    unfold tabOf
    rw [look_cons false (by decide +kernel), if_neg Bool.false_ne_true, look_cons false (by decide +kernel), if_neg Bool.false_ne_true, look_cons false (by decide +kernel), if_neg Bool.false_ne_true, look_cons false (by decide +kernel), if_neg Bool.false_ne_true, look_cons false (by decide +kernel), if_neg Bool.false_ne_true, look_cons false (by decide +kernel), if_neg Bool.false_ne_true]
    rfl
  | succ n ih =>
    intro u hu hu6
    by_cases hz : u ≤ n
    · exact ih u hz hu6
    obtain ⟨e1, e2⟩ := T.road_step (treeOf b2 b3 b4 b5 b6) hok u (by omega) hu6
    rw [e1, List.map_cons]
    have hp := ih (T.up (treeOf b2 b3 b4 b5 b6) u) (by omega) (by omega)
    have hl := one_letter (u := T.up (treeOf b2 b3 b4 b5 b6) u) (by omega)
    clear e1 ih
    have : u = 1 ∨ u = 2 ∨ u = 3 ∨ u = 4 ∨ u = 5 ∨ u = 6 := by omega
    rcases this with rfl | rfl | rfl | rfl | rfl | rfl
    · refine Path.step (k := Str.ofString "B") ?_ hl hp
      unfold tabOf
      rw [look_cons true (by decide +kernel), if_pos rfl, h0]; rfl
    · refine Path.step (k := Str.ofString "c") ?_ hl hp
      unfold tabOf
      rw [look_cons false (by decide +kernel), if_neg Bool.false_ne_true, look_cons true (by decide +kernel), if_pos rfl, h2]; rfl
    · refine Path.step (k := Str.ofString "D") ?_ hl hp
      unfold tabOf
      rw [look_cons false (by decide +kernel), if_neg Bool.false_ne_true, look_cons false (by decide +kernel), if_neg Bool.false_ne_true, look_cons true (by decide +kernel), if_pos rfl, h3]; rfl
    · refine Path.step (k := Str.ofString "e") ?_ hl hp
      unfold tabOf
      rw [look_cons false (by decide +kernel), if_neg Bool.false_ne_true, look_cons false (by decide +kernel), if_neg Bool.false_ne_true, look_cons false (by decide +kernel), if_neg Bool.false_ne_true, look_cons true (by decide +kernel), if_pos rfl, h4]; rfl
    · refine Path.step (k := Str.ofString "F") ?_ hl hp
      unfold tabOf
      rw [look_cons false (by decide +kernel), if_neg Bool.false_ne_true, look_cons false (by decide +kernel), if_neg Bool.false_ne_true, look_cons false (by decide +kernel), if_neg Bool.false_ne_true, look_cons false (by decide +kernel), if_neg Bool.false_ne_true, look_cons true (by decide +kernel), if_pos rfl, h5]; rfl
    · refine Path.step (k := Str.ofString "g") ?_ hl hp
      unfold tabOf
      rw [look_cons false (by decide +kernel), if_neg Bool.false_ne_true, look_cons false (by decide +kernel), if_neg Bool.false_ne_true, look_cons false (by decide +kernel), if_neg Bool.false_ne_true, look_cons false (by decide +kernel), if_neg Bool.false_ne_true, look_cons false (by decide +kernel), if_neg Bool.false_ne_true, look_cons true (by decide +kernel), if_pos rfl, h6]; rfl
theorem any_one (b : List Nat) (p : Nat) : (b.map one).any (· == one p) = b.contains p := by
  induction b with
  | nil => rfl
  | cons q b ih =>
    rw [List.map_cons, List.any_cons, ih, List.contains_cons]
    congr 1
    by_cases h : p = q
    · subst h; simp
    · rw [beq_eq_false_iff_ne.mpr (fun e => h (one_inj.mp e).symm), beq_eq_false_iff_ne.mpr h]
theorem filter_one (a b : List Nat) : (a.map one).filter (fun k => (b.map one).any (· == k)) = (T.both a b).map one := by
  unfold T.both
  rw [List.filter_map]
  congr 1
  exact List.filter_congr fun p _ => any_one b p
end Mine


namespace Mine
local macro_rules | `(tactic| walk_at "CompSrcT") => `(tactic| (refine Mine.Hold.intro ?_))
theorem memI (i : Nat) (l : List Nat) : decide ((0 : Int) + (i : Int) ∈ l.map fun (y : Nat) => (y : Int)) = l.contains i := by
  by_cases h : i ∈ l
  · rw [decide_eq_true, List.contains_iff_mem.mpr h]
    exact List.mem_map.mpr ⟨i, h, by omega⟩
  · rw [decide_eq_false, Eq.comm]
    · cases e : l.contains i with
      | false => rfl
      | true => exact absurd (List.contains_iff_mem.mp e) h
    · intro k
      obtain ⟨y, hy, e⟩ := List.mem_map.mp k
      have : y = i := by omega
      exact h (this ▸ hy)
theorem steps_spec (w : World) (l : Addr) (n : Nat) (b2 b3 b4 b5 b6 : Int) (t0 t1 t2 t3 t4 t5 t6 : Tok) (u v : Nat) (tu tv : Tok) (news : Led) (h1 : (l, listOf #[.int 0 t0, .int 0 t1, .int b2 t2, .int b3 t3, .int b4 t4, .int b5 t5, .int b6 t6] n) ∈ news)
   (g2 : 0 ≤ b2 ∧ b2 < 2) (g3 : 0 ≤ b3 ∧ b3 < 3) (g4 : 0 ≤ b4 ∧ b4 < 4) (g5 : 0 ≤ b5 ∧ b5 < 5) (g6 : 0 ≤ b6 ∧ b6 < 6) (hu : u ≤ 6) (hv : v ≤ 6) :
   Spec w 350 3000 270 [.ref l, .int (u : Int) tu, .int (v : Int) tv] [] news (fun r news' => news' = news ∧ ∃ t, r = .int (T.dist (treeOf b2 b3 b4 b5 b6) u v : Nat) t) := by
  k_with_none
  k_with "getMethod ref" => ((k_here; (with_reducible show wpAny _ _ (getMethod (Value.ref _) (Str.ofString "search") _) _ _ _); k_dflt (refine' Mine.meth_search ?k1 ?k2 ?k3 ?k4 ?k5 ?_; (case k1 => k_asm); (case k2 => k_asm); (case k3 => k_is); (case k4 => rfl); (case k5 => rfl); k_whole)))
  k_with "call builtin:re.Pattern.search" => ((k_here; k_dflt (refine' Mine.call_search ?k1 ?k2 ?k3 ?k4 ?k5 ?_; (case k1 => k_asm); (case k2 => k_asm); (case k3 => k_is); (case k4 => rfl); (case k5 => first | with_reducible exact Mine.srchN _ _ _ (by assumption) | with_reducible exact Mine.srchV _ _ _ (by assumption)); k_whole)))
  k_with "mine use" => (((case k1 => k_asm); (case k2 => k_asm); (case k3 => k_asm); (case k4 => k_asm); (case k5 => k_asm); (case kd => exact Nat.le_of_ble_eq_true rfl); (case ku => exact Nat.le_of_ble_eq_true rfl)))
  k_with "mine lt" => ((walk_at "mine and"; first | omega | assumption | exact allLt_of (by assumption) | exact Mine.ltUp (by omega) (by assumption) | exact Mine.ltUp (by omega) (allLt_of (by assumption))))
  k_with "mine letter" => (first | assumption | exact Mine.Letter.lower (by assumption) | exact Mine.Letter.upper (by assumption) | exact Mine.Letter.lower (Mine.Letter.upper (by assumption)))
  k_with "call builtin:str.lower" => ((k_here; k_dflt (refine Mine.lower_L (by walk_at "mine letter") ?_)))
  k_with "call builtin:str.upper" => ((k_here; k_dflt (refine Mine.upper_L (by walk_at "mine letter") ?_)))
  k_with "eval ListComp" => (k_extra "mine comp")
  k_with "CompRestT" => (k_extra "mine restT")
  k_with "CompRest" => (k_extra "mine rest")
  k_with "exec For Tuple Attribute cons nil" => (k_extra "mine for")
  k_with "exec For Tuple Name cons nil" => (k_extra "mine for")
  k_with "exec While Compare cons nil" => (k_extra "mine while")
  k_with "delItem ref" => ((k_here; k_dflt (refine' Mine.own_delItem ?F ?X ?I ?hQ ?hS ?hF ?_; (case F => k_asm); (case X => k_asm); (case I => k_inst); (case hS => k_is); (case hF => k_is); (case hQ => k_is); k_whole)))
  k_with "call ref" => ((k_here; k_dflt (refine' Mine.Spec.use (Mine.get_spec _ _ _ _ _ _ _ _ _ _ _ _ ?hx _ ?hH ?h1 ?h2 ?h3) ?k1 ?k2 ?k3 ?k4 ?k5 ?kd ?ku ?_; walk_at "mine use"; (case hx => walk_at "mine letter"); (case h2 => k_mem); (case h3 => k_mem); (case h1 => k_mem); (case hH => walk_at "mine hdrs"); k_whole; intro rG nG hG tkG FG NG RG; obtain ⟨eG, VG⟩ := RG; (have eG' := Eq.symm eG); (first | subst eG' | subst eG); (try dsimp only); (try k_sweep); (try k_fold))))
  k_with "mine hdrs" => (first | assumption | exact Mine.Hdrs.mono (by kcj_all) (by assumption))
  k_with "call ref" => ((k_here; k_dflt (refine' Mine.Spec.use (Mine.ent_spec _ _) ?k1 ?k2 ?k3 ?k4 ?k5 ?kd ?ku ?_; walk_at "mine use"; k_whole; intro rE nE hE tkE FE NE RE; obtain ⟨xE, dE, uE, vE, aE, bE, cE, fE, eE, eE', lE, mE, oE, pE⟩ := RE; subst eE eE'; (try (replace lE := Mine.ltOf lE; k_lt lE)); (try dsimp only); (try k_sweep); (try k_fold))))
  k_with "call ref" => ((k_here; k_dflt (refine' Mine.Spec.use (Mine.merge_spec _ _ _ _ _ _ _ _ _ _ _ _ _ _ _ _ _ _ _ _ _ _ _ _ _ _ _ _ _ _ ?h1 ?h2 ?h3 ?h4 ?g1 ?g2 ?g3 ?g4 ?y1 ?y2 ?z1 ?z2 ?z3 ?z4) ?k1 ?k2 ?k3 ?k4 ?k5 ?kd ?ku ?_; walk_at "mine use"; (case h1 => k_mem); (case h2 => k_mem); (case h3 => k_mem); (case h4 => k_mem); (case g1 => k_mem); (case g2 => k_mem); (case g3 => k_mem); (case g4 => k_mem); (case y1 => walk_at "mine strs"); (case y2 => walk_at "mine strs"); (case z1 => walk_at "mine len"); (case z2 => walk_at "mine len"); (case z3 => walk_at "mine len"); (case z4 => walk_at "mine len"); k_whole; intro rM nM hM tkM FM NM RM; obtain ⟨xM, dM, uM, vM, sM, aM, bM, cM, fM, gM, iM, jM, eM, eM', SM, zM, lM, mM, oM, pM⟩ := RM; subst eM eM'; (try (replace lM := Mine.ltOf lM; k_lt lM)); (try dsimp only); (try k_sweep); (try k_fold))))
  k_with "mine strs" => (first | assumption | exact StrsAre.nil | (refine StrsAre.cons _ _ ?_; walk_at "mine strs"))
  k_with "mine len" => (first | assumption | omega | (simp only [List.length_cons, List.length_nil, List.length_append]; omega))
  k_with "mine hdrs" => (first | assumption | (refine Mine.Hdrs.mono ?hs9 (by assumption); kcj_all))
  k_with "subscriptTail Name Constant ref int" => (k_extra "mine item")
  k_with "subscriptTail Attribute Name Constant ref int" => (k_extra "mine item")
  k_with "call builtin:list.index" => ((k_here; k_dflt (refine' Mine.index_L ?k1 ?k2 ?k3 ?k4 ?k5 ?_; (case k1 => k_asm); (case k2 => k_mem); (case k3 => assumption); (case k4 => assumption); (case k5 => first | assumption | omega); k_whole)))
  k_with "mine len" => ((simp only [List.length_cons, List.length_nil, List.length_append, List.length_take, List.length_reverse]; omega))
  k_with "call ref" => ((k_here; k_dflt (refine' Mine.Spec.use (Mine.new_spec _ _) ?k1 ?k2 ?k3 ?k4 ?k5 ?kd ?ku ?_; walk_at "mine use"; k_whole; intro rN nN hN tkN FN NN RN; obtain ⟨tN, dN, lN, aN, bN, eN, eN', uN, vN, wN⟩ := RN; subst eN eN'; (try (replace uN := Mine.ltOf uN; k_lt uN)); (try dsimp only); (try k_sweep); (try k_fold))))
  k_with "mine letter" => ((show _ ∈ Mine.letters; decide +kernel))
  k_with "mine hdrs" => (exact Mine.Hdrs.nil)
  k_with "mine len" => (first | assumption | omega | (simp only [List.length_cons, List.length_nil, List.length_append, List.length_take, List.length_reverse] <;> omega) | (subst_vars; (simp only [List.length_cons, List.length_nil, List.length_append, List.length_take, List.length_reverse] <;> omega)))
  k_with "mine tsub" => (first | exact Mine.TSub.nil | exact Mine.TSub.sub (fun _ h => h) | (refine Mine.TSub.keep (by k_mem) ?_; walk_at "mine tsub") | (refine Mine.TSub.skip (by k_cls) ?_; walk_at "mine tsub") | exact Mine.TSub.sub (by kcj_all))
  k_with "mine drop" => (first | (refine' Mine.DropAt.head ?a; (case a => k_all)) | (refine' Mine.DropAt.tail ?a ?b; (case a => k_ne); (case b => walk_at "mine drop")))
  k_with "UnrEnd" => ((refine' Mine.unrEnd_drop ?k1 ?k2 ?k3 ?_; (case k1 => k_asm); (case k2 => k_asm); (case k3 => walk_at "mine drop")))
  k_with "subscriptTail Name Name ref int" => ((k_here; k_dflt (refine' Mine.item_L ?k0 ?k1 ?k2 ?k3 ?k4 ?_; (case k0 => k_asm); (case k1 => k_mem); (case k2 => first | decide | omega); (case k3 => first | decide | omega); (case k4 => first | assumption | rfl); k_whole)))
  k_with "mine letter" => (exact Mine.lc_letter (by omega) (by omega))
  k_with "subscriptTail Name UnaryOp ref int" => ((k_here; k_dflt (refine' Mine.last_L ?k0 ?k1 ?_; (case k0 => k_asm); (case k1 => k_mem); k_whole)))
  k_with "compareOp In int ref" => ((k_here; k_dflt (refine' Mine.in_L ?k0 ?k1 ?k2 ?k3 ?_; (case k0 => k_asm); (case k1 => k_mem); (case k2 => assumption); (case k3 => ke_room); k_whole)))
  k_with "subscriptTail Name Subscript ref int" => ((k_here; k_dflt (refine' Mine.item_L ?k0 ?k1 ?k2 ?k3 ?k4 ?_; (case k0 => k_asm); (case k1 => k_mem); (case k2 => omega); (case k3 => omega); (case k4 => assumption); k_whole)))
  w_top off
  have : Challenge.rw_rl0103_01 = Challenge.rw_rl0103_01 ∧ Mine.hd.heap_39 = Mine.hd.heap_39 := by k_fill; exact ⟨rfl, rfl⟩
  intro cn names ig ic more a ccd cl outer A₀ base h₀ L m mean mg mb s Q E B F X N T hret
  have hok := treeOk g2 g3 g4 g5 g6
  have hab := fun (y : Nat) (h0 : 0 < y) (h1 : y ≤ 6) => above_at g2 g3 g4 g5 g6 t0 t1 t2 t3 t4 t5 t6 h0 h1
  k_with "mine while" => (refine Mine.Hold.intro ?_)
  k_with "mine comp" => (k_dflt (refine LCt.ListComp_T (F₀ := by k_asm) (by with_unfolding_all rfl) (by decide) (by rfl) (by decide) (by rfl) ?_))
  k_steps
  rename_i L1 _ _ _ _ _ _ _ _ _ RL _ lRL _ CO dCO DL _ FD ND lDL
  refine iter_listUnr (vs := [.int (u : Int) _, .int (v : Int) _]) rfl (by k_asm) (by k_asm) (by k_mem) rfl rfl ?_
  intro I1 l1
  k_lt l1
  refine ListRest.succ ?_
  intro it1 h1' tk1 hcls1 F1 N1
  k_steps
  unfold Hold
  rename_i RD1 _ _ _ lRD1 _ FR1 NR1
  refine while_st (σ := List Value × Nat × List Nat × Nat × Tok) (Str.ofString "road") (fun _ => Value.ref RD1) (fun c => (RD1, listOf (c.1 ++ [Value.int (c.2.2.2.1 : Int) c.2.2.2.2]).toArray c.2.1) :: (I1, it1) :: (DL, listOf #[Value.int (u : Int) tu, .int (v : Int) tv] 0) :: (RL, listOf #[] 0) :: (L1 + 1, CO) :: news)
    (fun k c => IntsAre c.1 (c.2.2.1.map fun (y : Nat) => (y : Int)) ∧ c.2.2.1 ++ Mine.T.road (treeOf b2 b3 b4 b5 b6) c.2.2.2.1 = Mine.T.road (treeOf b2 b3 b4 b5 b6) u ∧ c.2.2.2.1 ≤ 6 ∧ k = c.2.2.2.1 ∧ c.1.length + c.2.2.2.1 ≤ 6) ([], 0, [], u, tu) u (by k_asm) (by k_asm) rfl (by kcj_all) ⟨.nil, rfl, by assumption, rfl, by simpa using ‹u ≤ 6›⟩ ?_
  rintro k ⟨us1, c1, P1, y, ty⟩ h2 tk2 F2 N2 ⟨hus1, hP1, hy, hk, hlen1⟩
  dsimp only at F2 N2 hus1 hP1 hy hk hlen1
  have hl1 : (us1 ++ [Value.int (y : Int) ty]).length ≤ 1000 := by rw [List.length_append, List.length_singleton]; omega
  rcases Nat.eq_zero_or_pos y with hy0 | hy0
  rotate_left
  · obtain ⟨z, tz, hx, hz⟩ := hab y hy0 hy
    have hyi : (0 : Int) < (y : Int) := by omega
    obtain ⟨er, el⟩ := Mine.T.road_step _ hok y hy0 hy
    rw [hz] at er el
    k_steps
    refine StEnd.intro z (us1 ++ [Value.int (y : Int) ty], c1 + 1, P1 ++ [y], z, tz) (by k_asm) (by k_asm) rfl (by intro z' hz'; simp [hz']) (by kcj_all) (by omega) ⟨by simpa using intsAre_snoc hus1 _ _, ?_, by dsimp only; omega, rfl, ?_⟩
    · rw [List.append_assoc]; simpa [er] using hP1
    · dsimp only; rw [List.length_append, List.length_singleton]; omega
  subst hy0
  rw [Mine.T.road_zero] at hP1
  have hI1 : IntsAre (us1 ++ [Value.int ((0 : Nat) : Int) ty]) ((Mine.T.road (treeOf b2 b3 b4 b5 b6) u).map fun (y : Nat) => (y : Int)) := by
    rw [← hP1]; simpa using intsAre_snoc hus1 _ ty
  k_steps
  · k_mem
  unfold Hold
  rename_i IT2 _ _ _ RD2 _ _ _ lRD2 _ FR2 NR2
  refine while_st (σ := List Value × Nat × List Nat × Nat × Tok) (Str.ofString "road") (fun _ => Value.ref RD2) (fun c => (RD2, listOf (c.1 ++ [Value.int (c.2.2.2.1 : Int) c.2.2.2.2]).toArray c.2.1) :: (I1, IT2) :: (RD1, listOf (us1 ++ [Value.int ((0 : Nat) : Int) ty]).toArray c1) :: (DL, listOf #[Value.int (u : Int) tu, Value.int (v : Int) tv] 0) :: (RL, listOf #[Value.ref RD1] 1) :: (L1 + 1, CO) :: news)
    (fun k c => IntsAre c.1 (c.2.2.1.map fun (y : Nat) => (y : Int)) ∧ c.2.2.1 ++ Mine.T.road (treeOf b2 b3 b4 b5 b6) c.2.2.2.1 = Mine.T.road (treeOf b2 b3 b4 b5 b6) v ∧ c.2.2.2.1 ≤ 6 ∧ k = c.2.2.2.1 ∧ c.1.length + c.2.2.2.1 ≤ 6) ([], 0, [], v, tv) v (by k_asm) (by k_asm) rfl (by kcj_all) ⟨.nil, rfl, by assumption, rfl, by simpa using ‹v ≤ 6›⟩ ?_
  rintro k ⟨us2, c2, P2, y, ty2⟩ h3 tk3 F3 N3 ⟨hus2, hP2, hy, hk, hlen2⟩
  dsimp only at F3 N3 hus2 hP2 hy hk hlen2
  have hl2 : (us2 ++ [Value.int (y : Int) ty2]).length ≤ 1000 := by rw [List.length_append, List.length_singleton]; omega
  rcases Nat.eq_zero_or_pos y with hy0 | hy0
  rotate_left
  · obtain ⟨z, tz, hx, hz⟩ := hab y hy0 hy
    have hyi : (0 : Int) < (y : Int) := by omega
    obtain ⟨er, el⟩ := Mine.T.road_step _ hok y hy0 hy
    rw [hz] at er el
    k_steps
    refine StEnd.intro z (us2 ++ [Value.int (y : Int) ty2], c2 + 1, P2 ++ [y], z, tz) (by k_asm) (by k_asm) rfl (by intro z' hz'; simp [hz']) (by kcj_all) (by omega) ⟨by simpa using intsAre_snoc hus2 _ _, ?_, by dsimp only; omega, rfl, ?_⟩
    · rw [List.append_assoc]; simpa [er] using hP2
    · dsimp only; rw [List.length_append, List.length_singleton]; omega
  subst hy0
  rw [Mine.T.road_zero] at hP2
  have hI2 : IntsAre (us2 ++ [Value.int ((0 : Nat) : Int) ty2]) ((Mine.T.road (treeOf b2 b3 b4 b5 b6) v).map fun (y : Nat) => (y : Int)) := by
    rw [← hP2]; simpa using intsAre_snoc hus2 _ ty2
  k_steps
  · k_mem
  unfold Hold
  refine LCt.CompSrcT.range rfl (by k_asm) (by k_asm) (by assumption) (by decide) (by rfl) (by decide) ?_
  intro g
  refine restT_keep (fun i ys => ys.length = ((List.range i).filter fun y => (Mine.T.road (treeOf b2 b3 b4 b5 b6) u).contains y != (Mine.T.road (treeOf b2 b3 b4 b5 b6) v).contains y).length) _ rfl ?_ ?_
  · rintro i ys pv Ia oI C oC D m₂ h tk E' hi hI ⟨tp, rfl⟩ hC hx' F' N' off ne
    k_steps
    · rename (_ != _) = true => hc
      refine compEnd_keep (R := fun y => (ys ++ [y]).length = _) (by k_asm) (by k_asm) (by kcj_all) off trivial ?_
      rw [memI, memI] at hc
      rw [List.length_append, List.range_succ, List.filter_append, List.length_append, ← hI, List.filter_cons, hc]; rfl
    · rename (_ != _) = false => hc
      refine compEnd_keep (R := fun y => ys.length = _) (by k_asm) (by k_asm) (by kcj_all) off trivial ?_
      rw [memI, memI] at hc
      rw [List.range_succ, List.filter_append, List.length_append, ← hI, List.filter_cons, hc]; rfl
  · intro ys hI
    have e7 : (7 : Int).toNat = 7 := rfl
    have hst := Mine.T.steps (treeOf b2 b3 b4 b5 b6) hok u v hu hv 7 (by simp [treeOf])
    have hlen : ys.length = Mine.T.dist (treeOf b2 b3 b4 b5 b6) u v := hI.trans hst
    have hz : ys.length ≤ 7 := by rw [hI]; exact Nat.le_trans (List.length_filter_le _ _) (by rw [List.length_range]; decide)
    k_steps
    refine kun_lenL (k := (ys.length : Int)) (News.isList (by k_asm) (by k_mem)) (by rw [List.size_toArray]) (by omega) ?_
    k_steps
    refine hret _ news _ _ (by k_asm) (cb_drop (by k_asm) (by kcj_all)) ⟨rfl, _, by rw [hlen]⟩
end Mine


namespace Mine
open LCg LCt
theorem T.road_len : ∀ (t : List Nat) (u : Nat), (T.road t u).length ≤ t.length + 1
  | [], _ => by simp [T.road]
  | p :: t, u => by
    simp only [T.road]
    split
    · have := T.road_len t p; simp; omega
    · have := T.road_len t u; simp; omega
/-- an entry of the ledger: its agents, its rules -/
def EntAt (w : World) (G : Led) (v : Value) (ys zs : List Str) : Prop := ∃ x d u r k1 k2 k3 k4 n1 n2 n3 us rs, v = .ref x ∧ (x, instObj 226 d) ∈ G ∧ (d, entDict w k1 k2 k3 k4 u r n1) ∈ G ∧ (u, listOf us.toArray n2) ∈ G ∧ (r, listOf rs.toArray n3) ∈ G ∧ StrsAre us ys ∧ StrsAre rs zs ∧ us.length ≤ 100 ∧ rs.length ≤ 100
theorem EntAt.mono {w : World} {G G' : Led} {v : Value} {ys zs : List Str} (h : EntAt w G v ys zs) (hs : ∀ p ∈ G, p ∈ G') : EntAt w G' v ys zs := by
  obtain ⟨x, d, u, r, k1, k2, k3, k4, n1, n2, n3, us, rs, e, a, b, c, d', h⟩ := h
  exact ⟨x, d, u, r, k1, k2, k3, k4, n1, n2, n3, us, rs, e, hs _ a, hs _ b, hs _ c, hs _ d', h⟩
theorem four_step {ys : List Value} {i : Nat} (h : ∃ us : List Nat, IntsAre ys (us.map fun (u : Nat) => (u : Int)) ∧ us.length = i ∧ ∀ u ∈ us, u ≤ 6) (a : Int) (t : Tok) :
    ∃ us : List Nat, IntsAre (ys ++ [.int (a.fmod 7) t]) (us.map fun (u : Nat) => (u : Int)) ∧ us.length = i + 1 ∧ ∀ u ∈ us, u ≤ 6 := by
  obtain ⟨us, h1, h2, h3⟩ := h
  obtain ⟨b1, b2⟩ := fmod_in a (b := 7) (by decide)
  refine ⟨us ++ [(a.fmod 7).toNat], ?_, by simp [h2], ?_⟩
  · have := intsAre_snoc h1 (a.fmod 7) t
    rw [List.map_append, List.map_cons, List.map_nil]
    have e : (((a.fmod 7).toNat : Nat) : Int) = a.fmod 7 := by omega
    rw [e]; exact this
  · intro u hu
    rcases List.mem_append.mp hu with hu | hu
    · exact h3 u hu
    · simp at hu; omega
theorem four_list {ys : List Value} (h : ∃ us : List Nat, IntsAre ys (us.map fun (u : Nat) => (u : Int)) ∧ us.length = 4 ∧ ∀ u ∈ us, u ≤ 6) :
    ∃ (u0 u1 u2 u3 : Nat) (t0 t1 t2 t3 : Tok), ys = [.int (u0 : Int) t0, .int (u1 : Int) t1, .int (u2 : Int) t2, .int (u3 : Int) t3] ∧ u0 ≤ 6 ∧ u1 ≤ 6 ∧ u2 ≤ 6 ∧ u3 ≤ 6 := by
  obtain ⟨us, h1, h2, h3⟩ := h
  match us, h2, h1, h3 with
  | [u0, u1, u2, u3], _, h, h3 =>
    simp only [List.map_cons, List.map_nil] at h
    obtain ⟨t0, r0, f0, h0⟩ := ints_cons h
    obtain ⟨t1, r1, f1, h1⟩ := ints_cons h0
    obtain ⟨t2, r2, f2, h2⟩ := ints_cons h1
    obtain ⟨t3, r3, f3, h4⟩ := ints_cons h2
    have f4 := ints_nil h4
    subst f4 f3 f2 f1 f0
    exact ⟨u0, u1, u2, u3, t0, t1, t2, t3, rfl, h3 _ (by simp), h3 _ (by simp), h3 _ (by simp), h3 _ (by simp)⟩
section
variable {prog : Program} {w : World} {A : Around} {E : Value → Shared → Prop} {s : Shared} {h₀ : Heap} {L : Addr} {m : Str → Option Value} {env : Env} {elt : Expr} {x : Str} {scope : Scope} {cl : List (Str × Addr)} {S : Led → Prop} {P : Nat → Value → Prop} {Fin : List Value → Led → Prop}
/-- a comprehension whose elements make objects: the ledger is f of what is made -/
theorem restU_grow (f : Led → Led) (J : Nat → List Value → Led → Prop) (n : Nat) {G₀ : Led} (h0 : J 0 [] G₀)
    (step : ∀ i ys G v Ia oI C oC D m₂ h tk (E' : Value → Shared → Prop), i < n → J i ys G → P i v → NsObj oC m₂ → m₂ x = some v → Fr h₀ L h m → News h₀ L h ((Ia, oI) :: (C, oC) :: (D, lst ys) :: f G) → Off3 Ia C D (f G) → ((@Ne Nat Ia C) ∧ (@Ne Nat Ia D) ∧ (@Ne Nat C D)) →
      wpAny (model prog w) A (eval elt (compEnvC scope cl C env)) (CompEnd h₀ L m { s with heap := h, toks := tk } Ia oI C oC D (lst ys) S (fun y news' => ∃ G', news' = f G' ∧ J (i + 1) (ys ++ [y]) G')) E' { s with heap := h, toks := tk })
    (fin : ∀ ys G, J n ys G → Fin ys (f G)) : CompRest prog w A h₀ L m env elt x scope cl s S P Fin n 0 [] (f G₀) := by
  refine restU_inv (fun i ys nw => ∃ G, nw = f G ∧ J i ys G) n ⟨G₀, rfl, h0⟩ ?_ ?_
  · rintro i ys nw v Ia oI C oC D m₂ h tk E' hi ⟨G, rfl, hJ⟩ hP hC hx F N off ne
    exact step i ys G v Ia oI C oC D m₂ h tk E' hi hJ hP hC hx F N off ne
  · rintro ys nw ⟨G, rfl, hJ⟩
    exact fin ys G hJ
end
theorem endFour {h₀ : Heap} {L : Addr} {m : Str → Option Value} {s₁ : Shared} {Ia C D : Addr} {oI oC oD : Obj} {ys : List Value} {i : Nat} {a : Int} {t : Tok} {h' : Heap} {tk : Nat} {news all : Led}
    (F : Fr h₀ L h' m) (N : News h₀ L h' all) (sub : ∀ p ∈ (Ia, oI) :: (C, oC) :: (D, oD) :: news, p ∈ all) (off : Off3 Ia C D news) (hI : ∃ us : List Nat, IntsAre ys (us.map fun (u : Nat) => (u : Int)) ∧ us.length = i ∧ ∀ u ∈ us, u ≤ 6) :
    CompEnd h₀ L m s₁ Ia oI C oC D oD (fun _ => True) (fun y news' => news' = news ∧ ∃ us : List Nat, IntsAre (ys ++ [y]) (us.map fun (u : Nat) => (u : Int)) ∧ us.length = i + 1 ∧ ∀ u ∈ us, u ≤ 6) (.int (a.fmod 7) t) { s₁ with heap := h', toks := tk } :=
  compEnd_keep (R := fun y => ∃ us : List Nat, IntsAre (ys ++ [y]) (us.map fun (u : Nat) => (u : Int)) ∧ us.length = i + 1 ∧ ∀ u ∈ us, u ≤ 6) F N sub off trivial (four_step hI a t)
/-- the roads made so far -/
def RoadsJ (w : World) (tups : Led) (lT : Addr) (t fs : List Nat) (i : Nat) (ys : List Value) (G : Led) : Prop :=
  (∀ p ∈ tups, p ∈ G) ∧ (∀ p ∈ G, LtA lT p.1) ∧ ys.length = i ∧ ∀ (j : Nat) (v : Value), ys[j]? = some v → ∃ u, fs[j]? = some u ∧ EntAt w G v ((T.road t u).map one) [one u]
theorem RoadsJ.zero {w : World} {tups : Led} {lT : Addr} {t fs : List Nat} (h : ∀ p ∈ tups, LtA lT p.1) : RoadsJ w tups lT t fs 0 [] tups :=
  ⟨fun _ h => h, h, rfl, fun j v h => by rw [List.getElem?_nil] at h; cases h⟩
theorem RoadsJ.step {w : World} {tups G G' : Led} {lT : Addr} {t fs : List Nat} {i u : Nat} {ys : List Value} {v : Value} (h : RoadsJ w tups lT t fs i ys G) (e : fs[i]? = some u) (hE : EntAt w G' v ((T.road t u).map one) [one u])
    (h1 : ∀ p ∈ G, p ∈ G') (h2 : ∀ p ∈ G', LtA lT p.1) : RoadsJ w tups lT t fs (i + 1) (ys ++ [v]) G' := by
  obtain ⟨a, b, c, d⟩ := h
  refine ⟨fun p hp => h1 p (a p hp), h2, by simp [c], fun j v' hv => ?_⟩
  by_cases hj : j < ys.length
  · rw [List.getElem?_append_left hj] at hv
    obtain ⟨u', e', E'⟩ := d j v' hv
    exact ⟨u', e', E'.mono h1⟩
  · rw [List.getElem?_append_right (by omega)] at hv
    have : j = i := by
      rcases Nat.lt_or_ge (j - ys.length) 1 with k | k
      · omega
      · rw [List.getElem?_eq_none (by simpa using k)] at hv; cases hv
    subst this
    have : j - ys.length = 0 := by omega
    rw [this] at hv
    simp at hv
    subst hv
    exact ⟨u, e, hE⟩
theorem RoadsJ.four {w : World} {tups G : Led} {lT : Addr} {t : List Nat} {u0 u1 u2 u3 : Nat} {ys : List Value} (h : RoadsJ w tups lT t [u0, u1, u2, u3] 4 ys G) :
    ∃ v0 v1 v2 v3, ys = [v0, v1, v2, v3] ∧ EntAt w G v0 ((T.road t u0).map one) [one u0] ∧ EntAt w G v1 ((T.road t u1).map one) [one u1] ∧ EntAt w G v2 ((T.road t u2).map one) [one u2] ∧ EntAt w G v3 ((T.road t u3).map one) [one u3] := by
  obtain ⟨_, _, c, d⟩ := h
  match ys, c, d with
  | [v0, v1, v2, v3], _, d =>
    obtain ⟨a0, e0, E0⟩ := d 0 v0 rfl
    obtain ⟨a1, e1, E1⟩ := d 1 v1 rfl
    obtain ⟨a2, e2, E2⟩ := d 2 v2 rfl
    obtain ⟨a3, e3, E3⟩ := d 3 v3 rfl
    simp at e0 e1 e2 e3
    subst e0 e1 e2 e3
    exact ⟨v0, v1, v2, v3, rfl, E0, E1, E2, E3⟩
theorem item4 {u0 u1 u2 u3 : Nat} {s0 s1 s2 s3 : Tok} {i : Nat} {v : Value} (h : ([Value.int (u0 : Int) s0, .int (u1 : Int) s1, .int (u2 : Int) s2, .int (u3 : Int) s3].toArray)[i]? = some v) (l0 : u0 ≤ 6) (l1 : u1 ≤ 6) (l2 : u2 ≤ 6) (l3 : u3 ≤ 6) :
    ∃ (u : Nat) (t : Tok), v = .int (u : Int) t ∧ [u0, u1, u2, u3][i]? = some u ∧ u ≤ 6 := by
  rw [List.getElem?_toArray] at h
  match i, h with
  | 0, h => simp at h; subst h; exact ⟨u0, s0, rfl, rfl, l0⟩
  | 1, h => simp at h; subst h; exact ⟨u1, s1, rfl, rfl, l1⟩
  | 2, h => simp at h; subst h; exact ⟨u2, s2, rfl, rfl, l2⟩
  | 3, h => simp at h; subst h; exact ⟨u3, s3, rfl, rfl, l3⟩
  | i + 4, h => simp at h
theorem TSub.app {A B news : Led} (h1 : TSub A news) (h2 : TSub B news) : TSub (A ++ B) news := fun a xs h => (List.mem_append.mp h).elim (h1 a xs) (h2 a xs)
theorem TSub.cell {b : Addr} {o : Obj} {v : Option Value} {r news : Led} (h : o.data = Data.cell v) (t : TSub r news) : TSub ((b, o) :: r) news := fun a xs hm => by
  rcases List.mem_cons.mp hm with e | hm
  · have e2 := congrArg (fun p => p.2.data) e
    simp [h] at e2
  · exact t a xs hm
theorem gtUp {lT x : Addr} {G : Led} {o : Obj} (h1 : LtA lT x) (h : ∀ p ∈ G, LtA lT p.1) : ∀ p ∈ (x, o) :: G, LtA lT p.1 := List.forall_mem_cons.mpr ⟨h1, h⟩
theorem entMade {w : World} {G : Led} {x d u r : Addr} {us : List Value} {a b c f : Tok} {k p : Nat} {t : List Nat} {xs : Str} {tx : Tok} (e : xs = one p) (S : StrsAre us ((T.road t p).map one)) (ht : t.length ≤ 50) :
    EntAt w ((x, instObj 226 d) :: (d, entDict w a b c f u r 4) :: (u, listOf us.toArray k) :: (r, listOf #[.str xs tx] 1) :: G) (.ref x) ((T.road t p).map one) [one p] := by
  have hl := strsAre_length S
  rw [List.length_map] at hl
  have hr := T.road_len t p
  subst e
  exact ⟨x, d, u, r, a, b, c, f, 4, k, 1, us, [.str (one p) tx], rfl, .head _, .tail _ (.head _), .tail _ (.tail _ (.head _)), .tail _ (.tail _ (.tail _ (.head _))), S, .cons _ _ .nil, by omega, by simp⟩
theorem off3_grow {I C D : Addr} {p1 p2 p3 p4 p5 p6 p7 p8 p9 p10 e1 e2 e3 e4 : Addr × Obj} {G : Led} (off : Off3 I C D (p1 :: p2 :: p3 :: p4 :: p5 :: p6 :: p7 :: p8 :: p9 :: p10 :: G))
    (h1 : (@Ne Nat e1.1 I) ∧ (@Ne Nat e1.1 C) ∧ (@Ne Nat e1.1 D)) (h2 : (@Ne Nat e2.1 I) ∧ (@Ne Nat e2.1 C) ∧ (@Ne Nat e2.1 D)) (h3 : (@Ne Nat e3.1 I) ∧ (@Ne Nat e3.1 C) ∧ (@Ne Nat e3.1 D)) (h4 : (@Ne Nat e4.1 I) ∧ (@Ne Nat e4.1 C) ∧ (@Ne Nat e4.1 D)) :
    Off3 I C D (p1 :: p2 :: p3 :: p4 :: p5 :: p6 :: p7 :: p8 :: p9 :: p10 :: e1 :: e2 :: e3 :: e4 :: G) := by
  obtain ⟨a1, a2, a3, a4, a5, a6, a7, a8, a9, a10, g⟩ := off
  exact ⟨a1, a2, a3, a4, a5, a6, a7, a8, a9, a10, h1, h2, h3, h4, g⟩
theorem endRoad {h₀ : Heap} {L : Addr} {m : Str → Option Value} {w : World} {s₁ : Shared} {Ia C D x d u r lT : Addr} {oI oC oD : Obj} {S' : Led → Prop} {p1 p2 p3 p4 p5 p6 p7 p8 p9 p10 : Addr × Obj} {G tups : Led} {us ys : List Value} {a b c f : Tok} {k i p : Nat} {t fs : List Nat} {xs : Str} {tx : Tok} {h' : Heap} {tk : Nat}
    (F : Fr h₀ L h' m) (N : News h₀ L h' ((x, instObj 226 d) :: (d, entDict w a b c f u r 4) :: (u, listOf us.toArray k) :: (r, listOf #[.str xs tx] 1) :: (Ia, oI) :: (C, oC) :: (D, oD) :: p1 :: p2 :: p3 :: p4 :: p5 :: p6 :: p7 :: p8 :: p9 :: p10 :: G))
    (off : Off3 Ia C D (p1 :: p2 :: p3 :: p4 :: p5 :: p6 :: p7 :: p8 :: p9 :: p10 :: G)) (hJ : RoadsJ w tups lT t fs i ys G) (eu : fs[i]? = some p) (e : xs = one p) (Sr : StrsAre us ((T.road t p).map one)) (ht : t.length ≤ 50)
    (l1 : AllLt d ((Ia, oI) :: (C, oC) :: (D, oD) :: p1 :: p2 :: p3 :: p4 :: p5 :: p6 :: p7 :: p8 :: p9 :: p10 :: G)) (l0 : LtA lT d) (l2 : LtA d x) (l3 : LtA x u) (l4 : LtA u r)
    (hS : S' (p1 :: p2 :: p3 :: p4 :: p5 :: p6 :: p7 :: p8 :: p9 :: p10 :: (x, instObj 226 d) :: (d, entDict w a b c f u r 4) :: (u, listOf us.toArray k) :: (r, listOf #[.str xs tx] 1) :: G)) :
    LCg.CompEnd h₀ L m s₁ Ia oI C oC D oD S' (fun y nw => ∃ G', nw = p1 :: p2 :: p3 :: p4 :: p5 :: p6 :: p7 :: p8 :: p9 :: p10 :: G' ∧ RoadsJ w tups lT t fs (i + 1) (ys ++ [y]) G') (.ref x) { s₁ with heap := h', toks := tk } := by
  obtain ⟨q1, q2, q3, _⟩ := l1
  refine LCg.CompEnd.intro F N (p1 :: p2 :: p3 :: p4 :: p5 :: p6 :: p7 :: p8 :: p9 :: p10 :: (x, instObj 226 d) :: (d, entDict w a b c f u r 4) :: (u, listOf us.toArray k) :: (r, listOf #[.str xs tx] 1) :: G) ?_ (off3_grow off ?_ ?_ ?_ ?_) hS ⟨_, rfl, hJ.step eu (entMade e Sr ht) ?_ ?_⟩
  · intro y hy
    simp only [List.mem_cons] at hy ⊢
    rcases hy with h | h | h | h | h | h | h | h | h | h | h | h | h | h | h | h | h | h <;> simp [h]
  · exact ⟨Nat.ne_of_gt (Nat.lt_trans q1 l2), Nat.ne_of_gt (Nat.lt_trans q2 l2), Nat.ne_of_gt (Nat.lt_trans q3 l2)⟩
  · exact ⟨Nat.ne_of_gt q1, Nat.ne_of_gt q2, Nat.ne_of_gt q3⟩
  · exact ⟨Nat.ne_of_gt (Nat.lt_trans (Nat.lt_trans q1 l2) l3), Nat.ne_of_gt (Nat.lt_trans (Nat.lt_trans q2 l2) l3), Nat.ne_of_gt (Nat.lt_trans (Nat.lt_trans q3 l2) l3)⟩
  · exact ⟨Nat.ne_of_gt (Nat.lt_trans (Nat.lt_trans (Nat.lt_trans q1 l2) l3) l4), Nat.ne_of_gt (Nat.lt_trans (Nat.lt_trans (Nat.lt_trans q2 l2) l3) l4), Nat.ne_of_gt (Nat.lt_trans (Nat.lt_trans (Nat.lt_trans q3 l2) l3) l4)⟩
  · intro y hy; exact .tail _ (.tail _ (.tail _ (.tail _ hy)))
  · exact gtUp (Nat.lt_trans l0 l2) (gtUp l0 (gtUp (Nat.lt_trans (Nat.lt_trans l0 l2) l3) (gtUp (Nat.lt_trans (Nat.lt_trans (Nat.lt_trans l0 l2) l3) l4) hJ.2.1)))
theorem subTail {a : Addr × Obj} {r l : Led} (h : ∀ p ∈ r, p ∈ l) : ∀ p ∈ r, p ∈ a :: l := fun p hp => .tail _ (h p hp)
theorem subCons {a : Addr × Obj} {r l : Led} (h1 : a ∈ l) (h : ∀ p ∈ r, p ∈ l) : ∀ p ∈ a :: r, p ∈ l := List.forall_mem_cons.mpr ⟨h1, h⟩
theorem subNil {l : Led} : ∀ p ∈ ([] : Led), p ∈ l := fun _ h => nomatch h
theorem newsDrop {h₀ h : Heap} {L : Addr} {p1 p2 p3 p4 j1 j2 : Addr × Obj} {X : Led} (N : News h₀ L h (p1 :: p2 :: p3 :: p4 :: j1 :: j2 :: X)) : News h₀ L h (p1 :: p2 :: p3 :: p4 :: X) := fun p hp => N p (by
  simp only [List.mem_cons] at hp ⊢
  rcases hp with h | h | h | h | h <;> simp [h])
end Mine


namespace Mine
/-- a turn that neither leaves nor gives back -/
theorem TurnM.weak {h₀ : Heap} {L : Addr} {I src : Addr × Obj} {J : (Str → Option Value) → Led → Prop} {s₁ s₂ : Shared} {Q : Flow → Shared → Prop} {f : Flow} (h : TurnM h₀ L I src J s₁ (fun _ _ => False) f s₂) : TurnM h₀ L I src J s₁ Q f s₂ := by
  cases f with
  | ret v => exact h.elim
  | brk => exact h.elim
  | next => exact h
  | cont => exact h
section
variable {prog : Program} {w : World} {A : Around} {E : Value → Shared → Prop} {s : Shared} {env : Env} {h₀ : Heap} {target : Expr} {body : List Stmt} {Q : Flow → Shared → Prop}
/-- what stands behind a turn that grows two lists -/
def TwoJ (stored : List Str) (m₀ : Str → Option Value) (f : Obj → Obj → Led) (P : List Value → List Value → Prop) (m' : Str → Option Value) (news' : Led) : Prop :=
  (∀ z, stored.contains z = false → m' z = m₀ z) ∧ ∃ ss k hs k', news' = f (listOf ss.toArray k) (listOf hs.toArray k') ∧ P ss hs
/-- a loop over a list of the ledger whose turns store the names in stored, and grow two lists -/
theorem iter_two {l : Addr} {its : List Value} {n : Nat} {m₀ : Str → Option Value} (stored : List Str) (f : Obj → Obj → Led) (P : Nat → List Value → List Value → Prop) {ss₀ hs₀ : List Value} {n₀ n₁ : Nat}
    (hh : A.handled = none) (F : Fr h₀ env.locals s.heap m₀) (N : News h₀ env.locals s.heap (f (listOf ss₀.toArray n₀) (listOf hs₀.toArray n₁))) (hl : ∀ o o', (l, listOf its.toArray n) ∈ f o o') (h0 : P 0 ss₀ hs₀)
    (turn : ∀ i v (u : Str → Option Value) ss k hs k' h tk I oI, its[i]? = some v → P i ss hs → (∀ p ∈ f (listOf ss.toArray k) (listOf hs.toArray k'), p.1 ≠ I) → Fr h₀ env.locals h (fun z => if stored.contains z then u z else m₀ z) →
      News h₀ env.locals h ((I, oI) :: f (listOf ss.toArray k) (listOf hs.toArray k')) →
      wpAny (model prog w) A (assign target env v) (fun _ s₃ => wpAny (model prog w) A (execs body env) (TurnM h₀ env.locals (I, oI) (l, listOf its.toArray n) (TwoJ stored m₀ f (P (i + 1))) { s with heap := h, toks := tk } (fun _ _ => False)) E s₃) E { s with heap := h, toks := tk })
    (done : ∀ (u : Str → Option Value) ss k hs k' h tk, P its.length ss hs → Fr h₀ env.locals h (fun z => if stored.contains z then u z else m₀ z) → News h₀ env.locals h (f (listOf ss.toArray k) (listOf hs.toArray k')) → Q .next { s with heap := h, toks := tk }) :
    wpAny (model prog w) A (pyIter (.ref l)) (fun it s₂ => TurnsAt prog w A h₀ env target body Q E it s₂) E s := by
  have key : ∀ m₁ : Str → Option Value, (∀ z, stored.contains z = false → m₁ z = m₀ z) → (fun z => if stored.contains z then m₁ z else m₀ z) = m₁ := fun m₁ h => by
    funext z
    cases hz : stored.contains z with
    | true => simp
    | false => simp [h z hz]
  refine iter_list (fun i m₁ news₁ => TwoJ stored m₀ f (P i) m₁ news₁) hh F N (hl _ _) ⟨fun _ _ => rfl, _, _, _, _, rfl, h0⟩ ?_ ?_
  · rintro i v m₁ news₁ h tk I oI hv ⟨hm, ss, k, hs, k', rfl, hP⟩ hI _ F₁ N₁
    exact wpAny_mono (turn i v m₁ ss k hs k' h tk I oI hv hP hI (by rw [key m₁ hm]; exact F₁) N₁) (fun _ s₃ h₃ => wpAny_mono h₃ (fun f s₄ h₄ => h₄.weak) fun _ _ e => e) fun _ _ e => e
  · rintro m₁ news₁ h tk ⟨hm, ss, k, hs, k', rfl, hP⟩ F₁ N₁
    exact done m₁ ss k hs k' h tk hP (by rw [key m₁ hm]; exact F₁) N₁
end
end Mine


namespace Mine
open LCg LCt
theorem withOwn {M : Model} {env : Env} {α : Type} {t : Sem α} {Q : α → Shared → Prop} {E : Value → Shared → Prop} {s : Shared} (h : PassesOwn M (callerA.deeper env) env E) (k : PassesOwn M (callerA.deeper env) env E → wpAny M (callerA.deeper env) t Q E s) : wpAny M (callerA.deeper env) t Q E s := k h
theorem strsFour {us : List Value} {x1 x2 x3 x4 : Str} (h : StrsAre us ([x1, x2] ++ [x3, x4])) : StrsAre us [x1, x2, x3, x4] := h
/-- the way of two roads -/
theorem way_ent (w : World) (t : List Nat) (u v : Nat) (v1 v2 : Value) (news : Led) (ht : T.Ok t) (hu : u ≤ t.length) (hv : v ≤ t.length) (hl : t.length ≤ 40) (h1 : EntAt w news v1 ((T.road t u).map one) [one u]) (h2 : EntAt w news v2 ((T.road t v).map one) [one v]) :
    Spec w 350 3000 265 [v1, v2] [] news (fun r' news' => ∃ x d a r us rs b1 b2 b3 b4 e1 e2, r' = .ref x ∧ news' = (x, instObj 226 d) :: (d, entDict w b1 b2 b3 b4 a r 4) :: (a, listOf us.toArray e1) :: (r, listOf rs.toArray e2) :: news ∧
     StrsAre us ((T.way t u v).map one) ∧ StrsAre rs [one u, one v] ∧ us.length ≤ 100 ∧ rs.length = 2 ∧ AllLt d news ∧ LtA d x ∧ LtA x a ∧ LtA a r) := by
  obtain ⟨x1, d1, u1, r1, k1, k2, k3, k4, n1, n2, n3, us1, rs1, rfl, a1, a2, a3, a4, S1, R1, z1, z3⟩ := h1
  obtain ⟨x2, d2, u2, r2, j1, j2, j3, j4, n4, n5, n6, us2, rs2, rfl, c1, c2, c3, c4, S2, R2, z2, z4⟩ := h2
  obtain ⟨p, m, q, p', q', e1, e2, e3, e4, e5, e6⟩ := T.meet t ht u v hu hv
  rw [e1, List.map_append, List.map_cons] at S1
  rw [e2, List.map_append, List.map_cons] at S2
  rw [e2] at e3
  have hd : ∀ y ∈ p.map one, y ∉ p'.map one ++ one m :: q'.map one := by
    intro y hy hm
    obtain ⟨a, ha, rfl⟩ := List.mem_map.mp hy
    have : one a ∈ (p' ++ m :: q').map one := by simpa using hm
    obtain ⟨b, hb, e⟩ := List.mem_map.mp this
    exact e3 a ha (one_inj.mp e ▸ hb)
  have nm : ∀ l : List Nat, m ∉ l → one m ∉ l.map one := fun l h k => by
    obtain ⟨b, hb, e⟩ := List.mem_map.mp k
    exact h (one_inj.mp e ▸ hb)
  refine Spec.frame (way_spec w x1 d1 u1 r1 x2 d2 u2 r2 k1 k2 k3 k4 j1 j2 j3 j4 n1 n2 n3 n4 n5 n6 us1 us2 rs1 rs2 _ _ _ _ _ news a1 a2 a3 a4 c1 c2 c3 c4 S1 S2 hd (nm p e4) (nm p' e5) z1 z2 z3 z4) (fun _ h => h) ?_
  rintro r' n' ⟨x, d, a, r, us, b1, b2, b3, b4, f1, f2, rfl, rfl, S, _, l1, l2, l3, l4⟩
  have S' : StrsAre us ((T.way t u v).map one) := by rw [e6]; simpa using S
  have R : StrsAre (rs1 ++ rs2) [one u, one v] := R1.append' R2
  refine ⟨_, (fun _ h => h), x, d, a, r, us, rs1 ++ rs2, b1, b2, b3, b4, f1, f2, rfl, rfl, S', R, ?_, strsAre_length R, l1, l2, l3, l4⟩
  have g1 := T.road_len t u
  have g2 := T.road_len t v
  have hz2 := strsAre_length S'
  rw [List.length_map, e6] at hz2
  rw [e1] at g1
  rw [e2] at g2
  simp only [List.length_append, List.length_cons, List.length_reverse] at g1 g2 hz2
  omega
theorem merge_ent (w : World) (v1 v2 : Value) (ys1 ys2 zs1 zs2 : List Str) (news : Led) (h1 : EntAt w news v1 ys1 zs1) (h2 : EntAt w news v2 ys2 zs2) :
    Spec w 400 4000 237 [v1, v2] [] news (fun r' news' => ∃ x d a r us rs b1 b2 b3 b4 e1 e2 e3, r' = .ref x ∧ news' = (x, instObj 226 d) :: (d, entDict w b1 b2 b3 b4 a r e3) :: (a, listOf us.toArray e1) :: (r, listOf rs.toArray e2) :: news ∧
     StrsAre us (ys1.filter fun k => ys2.any (· == k)) ∧ StrsAre rs (zs1 ++ zs2) ∧ us.length ≤ 100 ∧ rs.length ≤ 200 ∧ AllLt d news ∧ LtA d x ∧ LtA x a ∧ LtA a r) := by
  obtain ⟨x1, d1, u1, r1, k1, k2, k3, k4, n1, n2, n3, us1, rs1, rfl, a1, a2, a3, a4, S1, R1, z1, z3⟩ := h1
  obtain ⟨x2, d2, u2, r2, j1, j2, j3, j4, n4, n5, n6, us2, rs2, rfl, c1, c2, c3, c4, S2, R2, z2, z4⟩ := h2
  refine Spec.frame (merge_spec w x1 d1 u1 r1 x2 d2 u2 r2 k1 k2 k3 k4 j1 j2 j3 j4 n1 n2 n3 n4 n5 n6 us1 us2 rs1 rs2 ys1 ys2 news a1 a2 a3 a4 c1 c2 c3 c4 S1 S2 (by omega) (by omega) (by omega) (by omega)) (fun _ h => h) ?_
  rintro r' n' ⟨x, d, a, r, us, b1, b2, b3, b4, f1, f2, f3, rfl, rfl, S, hz, l1, l2, l3, l4⟩
  refine ⟨_, (fun _ h => h), x, d, a, r, us, rs1 ++ rs2, b1, b2, b3, b4, f2, f1, f3, rfl, rfl, S, R1.append' R2, by omega, by rw [List.length_append]; omega, l1, l2, l3, l4⟩
section
variable {prog : Program} {w : World} {A : Around} {E : Value → Shared → Prop} {s : Shared} {h₀ : Heap} {L : Addr} {m : Str → Option Value} {env : Env}
/-- a comprehension over a written tuple -/
def SrcTu (prog : Program) (w : World) (A : Around) (h₀ : Heap) (L : Addr) (m : Str → Option Value) (env : Env) (elt : Expr) (x : Str) (scope : Scope) (cl : List (Str × Addr)) (Fin : Shared → List Value → Led → Prop) (xv : Value) (s₁ : Shared) : Prop :=
  ∃ ax its news, xv = .ref ax ∧ A.handled = none ∧ Fr h₀ L s₁.heap m ∧ News h₀ L s₁.heap news ∧ (ax, tupOf its) ∈ news ∧ its.size ≤ sizeLine ∧
    ∀ s₂ : Shared, (∃ h, s₂ = { s₁ with heap := h }) → CompRest prog w A h₀ L m env elt x scope cl s₂ (fun nw => (ax, tupOf its) ∈ nw) (fun i v => its[i]? = some v) (Fin s₂) its.size 0 [] news
theorem SrcTu.intro {elt : Expr} {x : Str} {scope : Scope} {cl : List (Str × Addr)} {Fin : Shared → List Value → Led → Prop} {ax : Addr} {its : Array Value} {news : Led} {s₁ : Shared}
    (hh : A.handled = none) (F : Fr h₀ L s₁.heap m) (N : News h₀ L s₁.heap news) (hm : (ax, tupOf its) ∈ news) (hsz : its.size ≤ sizeLine)
    (h : ∀ g, CompRest prog w A h₀ L m env elt x scope cl { s₁ with heap := g } (fun nw => (ax, tupOf its) ∈ nw) (fun i v => its[i]? = some v) (Fin { s₁ with heap := g }) its.size 0 [] news) :
    SrcTu prog w A h₀ L m env elt x scope cl Fin (.ref ax) s₁ := ⟨ax, its, news, rfl, hh, F, N, hm, hsz, fun _ ⟨g, e⟩ => e ▸ h g⟩
theorem ListComp_Tu {elt iter : Expr} {x : Str} {px : Pos} {scope : Scope} {cl : List (Str × Addr)} {pos : Pos} {Q : Value → Shared → Prop} (_F₀ : Fr h₀ L s.heap m)
    (hclos : closureFor scope env = pure cl) (hcell : ∀ y ∈ scope.names, y.2 ≠ .cell) (hkind : scope.kind = .function)
    (hnames : ∀ y ∈ scope.names, y.2 = .local → scope.names.lookup y.1 = some .local) (hx : scope.names.lookup x = some .local)
    (h : wpAny (model prog w) A (eval iter env) (SrcTu prog w A h₀ L m env elt x scope cl (fun s₂ => FinE h₀ L m s₂ Q)) E s)
    (hs : ∀ x, foldedSetIterable iter env x = pure x := by intro _; rfl) :
    wpAny (model prog w) A (eval (.ListComp elt [⟨.Name x px, iter, [], 0⟩] scope pos) env) Q E s := by
  rw [eval_ListComp]
  refine wpAny_comprehension_free (use := none) rfl hs hclos hkind hnames (wpAny_mono h (fun xv s₁ h₁ => ?_) fun _ _ e => e)
  obtain ⟨ax, its, news, rfl, hh, F, N, hm, hsz, R⟩ := h₁
  have hl : s₁.heap.IsTuple ax its := ⟨_, (N _ hm).1, rfl, _, rfl⟩
  have hlt : ax < s₁.heap.objs.size := Heap.lt_size (N _ hm).1
  refine wpAny_pyIter_tuple hl ?_
  have up : ∀ b o, s₁.heap.get? b = some o → (s₁.heap.push { cls := .type "tuple_iterator", data := .fields #[.ref ax, .int 0 0] }).get? b = some o := fun b o e => Heap.get?_push_of_some _ e
  refine block_U (Walks.tuple hh s₁.heap.objs.size ax (Nat.ne_of_lt hlt) its) hsz (fun i h st => by obtain ⟨o, e, _⟩ := st.1; exact ⟨o, e⟩) (fun i h h' o nw st e e' k N S => ⟨by obtain ⟨o', q, r⟩ := st.1; rw [e] at q; cases q; exact ⟨o, e', r⟩, ⟨_, (N _ S).1, rfl, _, rfl⟩⟩) hcell hkind hx ⟨⟨_, Heap.get?_push_size _ rfl, rfl, rfl⟩, hl.at fun o e => up _ o e⟩ (fun b hb => ?_)
    (F.keeps up) (N.grown up) (Nat.ne_of_lt F.ns.lt) (next_is_new F) (fun p hp => Nat.ne_of_lt (Heap.lt_size (N p hp).1)) hm (R _ ⟨_, rfl⟩) ?_
  · show b < (s₁.heap.push _).objs.size
    rw [Heap.size_push]
    rcases List.mem_cons.mp hb with rfl | hb
    · exact Nat.lt_succ_self _
    · rw [List.mem_singleton.mp hb]; exact Nat.lt_succ_of_lt hlt
  · intro D C h tk m' ys news' F' N' o1 hn hC₀ hD₀ hCL hDL hCD offC fin
    refine ⟨m', hn, fun h'' hs'' => fin D h'' tk (F'.change hs'' hCL hC₀) (fun p hp => ?_) o1⟩
    refine ⟨hs''.extBut _ _ ?_ (N' p hp).1, (N' p hp).2⟩
    rcases List.mem_cons.mp hp with rfl | hp
    · exact Ne.symm hCD
    · exact offC p hp
theorem notIn_L {a b : List Nat} {t u : Tok} {Q : Value → Shared → Prop} (hi : a <:+: b) (h : Q (.bool false) s) : wpAny (model prog w) A (compareOp .NotIn (.str (tx a) t) (.str (tx b) u)) Q E s := by
  refine PyProof.Rows.notIn_str ?_
  rw [in_tx hi]; exact h
end
end Mine
namespace Mine
theorem newsCut {h₀ h : Heap} {L : Addr} {p1 p2 p3 p4 p5 p6 p7 p8 t1 t2 t3 a u c1 c2 c3 c4 : Addr × Obj} {G : Led} (N : News h₀ L h (p1 :: p2 :: p3 :: p4 :: p5 :: p6 :: p7 :: p8 :: t1 :: t2 :: t3 :: a :: u :: c1 :: c2 :: c3 :: c4 :: G)) :
    News h₀ L h (p1 :: p2 :: p3 :: p4 :: p5 :: p6 :: p7 :: p8 :: a :: c1 :: c2 :: G) := fun p hp => N p (by
  simp only [List.mem_cons] at hp ⊢
  rcases hp with h | h | h | h | h | h | h | h | h | h | h | h <;> simp [h])
def quad : Nat → Nat × Nat × Nat × Nat
  | 0 => (0, 1, 2, 3)
  | 1 => (0, 2, 1, 3)
  | _ => (0, 3, 1, 2)
def qU (us : List Nat) (a : Nat) : Nat := us.getD a 0
def sumQ (t us : List Nat) (q : Nat × Nat × Nat × Nat) : Int := ((T.dist t (qU us q.1) (qU us q.2.1) : Nat) : Int) + ((T.dist t (qU us q.2.2.1) (qU us q.2.2.2) : Nat) : Int)
def bothQ (t us : List Nat) (q : Nat × Nat × Nat × Nat) : List Nat := T.both (T.way t (qU us q.1) (qU us q.2.1)) (T.way t (qU us q.2.2.1) (qU us q.2.2.2))
theorem turn_item {i : Nat} {v : Value} {tA tB tC : Addr} {a1 a2 a3 a4 b1 b2 b3 b4 c1 c2 c3 c4 : Tok} (hv : [Value.ref tA, .ref tB, .ref tC][i]? = some v) :
    ∃ (ta : Addr) (a b c d : Nat) (s1 s2 s3 s4 : Tok), v = .ref ta ∧ (ta, tupOf #[.int (a : Int) s1, .int (b : Int) s2, .int (c : Int) s3, .int (d : Int) s4]) ∈ [(tC, tupOf #[.int 0 c1, .int 3 c2, .int 1 c3, .int 2 c4]), (tB, tupOf #[.int 0 b1, .int 2 b2, .int 1 b3, .int 3 b4]), (tA, tupOf #[.int 0 a1, .int 1 a2, .int 2 a3, .int 3 a4])] ∧
      quad i = (a, b, c, d) ∧ a ≤ 3 ∧ b ≤ 3 ∧ c ≤ 3 ∧ d ≤ 3 := by
  match i, hv with
  | 0, hv => simp at hv; subst hv; exact ⟨tA, 0, 1, 2, 3, a1, a2, a3, a4, rfl, by simp, rfl, by omega, by omega, by omega, by omega⟩
  | 1, hv => simp at hv; subst hv; exact ⟨tB, 0, 2, 1, 3, b1, b2, b3, b4, rfl, by simp, rfl, by omega, by omega, by omega, by omega⟩
  | 2, hv => simp at hv; subst hv; exact ⟨tC, 0, 3, 1, 2, c1, c2, c3, c4, rfl, by simp, rfl, by omega, by omega, by omega, by omega⟩
  | i + 3, hv => simp at hv
theorem turn_item' {h₀ h : Heap} {L : Addr} {pI pL : Addr × Obj} {R : Led} {i : Nat} {v : Value} {tA tB tC : Addr} {a1 a2 a3 a4 b1 b2 b3 b4 c1 c2 c3 c4 : Tok}
    (_N : News h₀ L h (pI :: pL :: (tC, tupOf #[.int 0 c1, .int 3 c2, .int 1 c3, .int 2 c4]) :: (tB, tupOf #[.int 0 b1, .int 2 b2, .int 1 b3, .int 3 b4]) :: (tA, tupOf #[.int 0 a1, .int 1 a2, .int 2 a3, .int 3 a4]) :: R)) (hv : [Value.ref tA, .ref tB, .ref tC][i]? = some v) :
    ∃ (ta : Addr) (a b c d : Nat) (s1 s2 s3 s4 : Tok), v = .ref ta ∧ (ta, tupOf #[.int (a : Int) s1, .int (b : Int) s2, .int (c : Int) s3, .int (d : Int) s4]) ∈ pI :: pL :: (tC, tupOf #[.int 0 c1, .int 3 c2, .int 1 c3, .int 2 c4]) :: (tB, tupOf #[.int 0 b1, .int 2 b2, .int 1 b3, .int 3 b4]) :: (tA, tupOf #[.int 0 a1, .int 1 a2, .int 2 a3, .int 3 a4]) :: R ∧
      quad i = (a, b, c, d) ∧ a ≤ 3 ∧ b ≤ 3 ∧ c ≤ 3 ∧ d ≤ 3 := by
  obtain ⟨ta, a, b, c, d, s1, s2, s3, s4, e, hm, r⟩ := turn_item (a1 := a1) (a2 := a2) (a3 := a3) (a4 := a4) (b1 := b1) (b2 := b2) (b3 := b3) (b4 := b4) (c1 := c1) (c2 := c2) (c3 := c3) (c4 := c4) hv
  refine ⟨ta, a, b, c, d, s1, s2, s3, s4, e, ?_, r⟩
  simp only [List.mem_cons, List.not_mem_nil, or_false] at hm ⊢
  rcases hm with h | h | h <;> simp [h]
theorem roadAt {w : World} {G : Led} {v0 v1 v2 v3 : Value} {t : List Nat} {u0 u1 u2 u3 : Nat} (E0 : EntAt w G v0 ((T.road t u0).map one) [one u0]) (E1 : EntAt w G v1 ((T.road t u1).map one) [one u1]) (E2 : EntAt w G v2 ((T.road t u2).map one) [one u2]) (E3 : EntAt w G v3 ((T.road t u3).map one) [one u3]) {a : Nat} (ha : a ≤ 3) :
    ∃ v, [v0, v1, v2, v3][((a : Nat) : Int).toNat]? = some v ∧ EntAt w G v ((T.road t (qU [u0, u1, u2, u3] a)).map one) [one (qU [u0, u1, u2, u3] a)] := by
  have : a = 0 ∨ a = 1 ∨ a = 2 ∨ a = 3 := by omega
  rcases this with rfl | rfl | rfl | rfl
  · exact ⟨v0, rfl, E0⟩
  · exact ⟨v1, rfl, E1⟩
  · exact ⟨v2, rfl, E2⟩
  · exact ⟨v3, rfl, E3⟩
theorem fourAt {u0 u1 u2 u3 : Nat} {s0 s1 s2 s3 : Tok} (l0 : u0 ≤ 6) (l1 : u1 ≤ 6) (l2 : u2 ≤ 6) (l3 : u3 ≤ 6) {a : Nat} (ha : a ≤ 3) :
    ∃ s, [Value.int (u0 : Int) s0, .int (u1 : Int) s1, .int (u2 : Int) s2, .int (u3 : Int) s3][((a : Nat) : Int).toNat]? = some (.int (qU [u0, u1, u2, u3] a : Nat) s) ∧ qU [u0, u1, u2, u3] a ≤ 6 := by
  have : a = 0 ∨ a = 1 ∨ a = 2 ∨ a = 3 := by omega
  rcases this with rfl | rfl | rfl | rfl
  · exact ⟨s0, rfl, l0⟩
  · exact ⟨s1, rfl, l1⟩
  · exact ⟨s2, rfl, l2⟩
  · exact ⟨s3, rfl, l3⟩
end Mine
namespace Mine
section
variable {prog : Program} {w : World} {A : Around} {E : Value → Shared → Prop} {s : Shared} {h₀ : Heap} {L : Addr} {news : Led}
theorem neStrs_L {a b : Addr} {xs xs' : List Value} {ys ys' : List Str} {k k' : Nat} {Q : Value → Shared → Prop} (N : News h₀ L s.heap news) (ma : (a, listOf xs.toArray k) ∈ news) (mb : (b, listOf xs'.toArray k') ∈ news) (Sa : StrsAre xs ys) (Sb : StrsAre xs' ys') (e : ys = ys') (ok : ∀ y ∈ ys, PyData.strOk y = true) (hu : A.units + 64 < cLine) (h : Q (.bool false) s) :
    wpAny (model prog w) A (compareOp .NotEq (.ref a) (.ref b)) Q E s := by
  subst e
  refine kqd_ne N ma rfl rfl (strDats Sa) (fun _ h => h) mb rfl rfl (strDats Sb) (fun _ h => h) ?_ ?_ hu ?_
  · intro d hd; obtain ⟨y, hy, rfl⟩ := List.mem_map.mp hd; exact ok y hy
  · intro d hd; obtain ⟨y, hy, rfl⟩ := List.mem_map.mp hd; exact ok y hy
  · have key : ∀ (p : Prop) (i : Decidable p), p → Q (.bool (!@decide p i)) s := fun p i e => by rw [decide_eq_true e]; exact h
    exact key _ _ rfl
theorem neInts_L {a b : Addr} {xs xs' : List Value} {ys ys' : List Int} {k k' : Nat} {Q : Value → Shared → Prop} (N : News h₀ L s.heap news) (ma : (a, listOf xs.toArray k) ∈ news) (mb : (b, listOf xs'.toArray k') ∈ news) (Sa : IntsAre xs ys) (Sb : IntsAre xs' ys') (e : ys = ys') (hu : A.units + 64 < cLine) (h : Q (.bool false) s) :
    wpAny (model prog w) A (compareOp .NotEq (.ref a) (.ref b)) Q E s := by
  subst e
  refine kqd_ne N ma rfl rfl (intDats Sa) (fun _ h => h) mb rfl rfl (intDats Sb) (fun _ h => h) ?_ ?_ hu ?_
  · intro d hd; obtain ⟨y, _, rfl⟩ := List.mem_map.mp hd; rfl
  · intro d hd; obtain ⟨y, _, rfl⟩ := List.mem_map.mp hd; rfl
  · have key : ∀ (p : Prop) (i : Decidable p), p → Q (.bool (!@decide p i)) s := fun p i e => by rw [decide_eq_true e]; exact h
    exact key _ _ rfl
theorem eqInts_L {a b : Addr} {xs xs' : List Value} {ys ys' : List Int} {k k' : Nat} {Q : Value → Shared → Prop} (N : News h₀ L s.heap news) (ma : (a, listOf xs.toArray k) ∈ news) (mb : (b, listOf xs'.toArray k') ∈ news) (Sa : IntsAre xs ys) (Sb : IntsAre xs' ys') (e : ys = ys') (hu : A.units + 64 < cLine) (h : Q (.bool true) s) :
    wpAny (model prog w) A (compareOp .Eq (.ref a) (.ref b)) Q E s := by
  subst e
  refine kqd_eq N ma rfl rfl (intDats Sa) (fun _ h => h) mb rfl rfl (intDats Sb) (fun _ h => h) ?_ ?_ hu ?_
  · intro d hd; obtain ⟨y, _, rfl⟩ := List.mem_map.mp hd; rfl
  · intro d hd; obtain ⟨y, _, rfl⟩ := List.mem_map.mp hd; rfl
  · have key : ∀ (p : Prop) (i : Decidable p), p → Q (.bool (@decide p i)) s := fun p i e => by rw [decide_eq_true e]; exact h
    exact key _ _ rfl
theorem sp_tx : Str.ofString " " = tx [32] := by decide +kernel
theorem addSp_L {a : List Nat} {t u : Tok} {Q : Value → Shared → Prop} (hz : a.length ≤ 1000) (h : ∀ t' k, Q (.str (tx (a ++ [32])) t') { s with toks := k }) : wpAny (model prog w) A (binaryOp .Add (.str (tx a) t) (.str (Str.ofString " ") u)) Q E s := by
  rw [sp_tx]
  exact addTx_L (by rw [List.length_singleton]; omega) h
end
theorem one_ok {p : Nat} (h : p ≤ 6) : PyData.strOk (one p) = true := by
  have : p = 0 ∨ p = 1 ∨ p = 2 ∨ p = 3 ∨ p = 4 ∨ p = 5 ∨ p = 6 := by omega
  rcases this with rfl | rfl | rfl | rfl | rfl | rfl | rfl <;> decide +kernel
theorem ones_ok {P : List Nat} (h : ∀ p ∈ P, p ≤ 6) : ∀ y ∈ P.map one, PyData.strOk y = true := by
  intro y hy
  obtain ⟨p, hp, rfl⟩ := List.mem_map.mp hy
  exact one_ok (h p hp)
theorem both_le {t : List Nat} (ht : T.Ok t) (h6 : t.length = 6) {u v : Nat} (hu : u ≤ 6) (hv : v ≤ 6) (Q : List Nat) : ∀ p ∈ T.both (T.way t u v) Q, p ≤ 6 := by
  intro p hp
  have := T.way_le t ht u v (by omega) (by omega) p (List.mem_filter.mp hp).1
  omega
theorem signs_tx (P : List Nat) : (P.map (97 + ·)).map (fun c => (⟨#[c]⟩ : Str)) = P.map one := by rw [List.map_map]; rfl
theorem tup4 {qa qb qc qd : Nat} {ka kb kc kd : Tok} {i : Nat} {v : Value} (h : (#[Value.int (qa : Int) ka, .int (qb : Int) kb, .int (qc : Int) kc, .int (qd : Int) kd] : Array Value)[i]? = some v) (la : qa ≤ 3) (lb : qb ≤ 3) (lc : qc ≤ 3) (ld : qd ≤ 3) :
    ∃ (q : Nat) (t : Tok), v = .int (q : Int) t ∧ [qa, qb, qc, qd][i]? = some q ∧ q ≤ 3 := by
  match i, h with
  | 0, h => simp at h; subst h; exact ⟨qa, ka, rfl, rfl, la⟩
  | 1, h => simp at h; subst h; exact ⟨qb, kb, rfl, rfl, lb⟩
  | 2, h => simp at h; subst h; exact ⟨qc, kc, rfl, rfl, lc⟩
  | 3, h => simp at h; subst h; exact ⟨qd, kd, rfl, rfl, ld⟩
  | i + 4, h => simp at h
theorem bindC_cell {k : Str → Option NameKind} {binds : List (Str × Value)} {m : Str → Option Value} {n : Str} {v : Value} (hb : binds = [(n, v)]) (hk : k n = some .cell) : bindC k binds m n = some v := by
  subst hb; simp [bindC, hk]
theorem bindL_cell {k : Str → Option NameKind} {binds : List (Str × Value)} {m : Str → Option Value} {n : Str} {v : Value} (hb : binds = [(n, v)]) (hk : k n = some .cell) : bindL k binds m = m := by
  subst hb; simp [bindL, hk]
end Mine
namespace Mine
theorem take4 {f : Nat → Str} {l : List Nat} {i q : Nat} (h : l[i]? = some q) : (l.map f).take (i + 1) = (l.map f).take i ++ [f q] := by
  rw [List.take_add_one, List.getElem?_map, h]; rfl
theorem four_ok {a b c d : Nat} (h1 : a ≤ 6) (h2 : b ≤ 6) (h3 : c ≤ 6) (h4 : d ≤ 6) : ∀ y ∈ [one a, one b] ++ [one c, one d], PyData.strOk y = true :=
  ones_ok (P := [a, b, c, d]) (by intro p hp; simp only [List.mem_cons, List.not_mem_nil, or_false] at hp; rcases hp with rfl | rfl | rfl | rfl <;> assumption)
theorem four_stepI {us : List Nat} {ys : List Value} {l : List Nat} {i q : Nat} {tk : Tok} (h : StrsAre ys ((l.map fun q => one (qU us q)).take i)) (hq : l[i]? = some q) (h6 : qU us q ≤ 6) :
    StrsAre (ys ++ [.str (lc ((qU us q : Nat) : Int)) tk]) ((l.map fun q => one (qU us q)).take (i + 1)) := by
  have elc := lc_one (u := ((qU us q : Nat) : Int)) (by omega) (by omega)
  rw [Int.toNat_natCast] at elc
  rw [take4 hq, elc]
  exact strsAre_snoc h _ _
theorem way_dist (t : List Nat) (u v : Nat) : (((T.way t u v).map (97 + ·)).length : Int) - 1 = ((T.dist t u v : Nat) : Int) := by
  rw [List.length_map, T.way_len]; omega
theorem inf_two {a b : List Nat} (h : a <:+: b ∨ a <:+: b.reverse) : a.map (97 + ·) <:+: (b.map (97 + ·) ++ [32]) ++ (b.map (97 + ·)).reverse := by
  rcases h with h | h
  · exact (h.map _).trans ((List.prefix_append _ _).isInfix.trans (List.prefix_append _ _).isInfix)
  · rw [← List.map_reverse]
    exact (h.map _).trans (List.suffix_append _ _).isInfix
end Mine
namespace Mine
theorem off_same {I : Addr} {l l' : Led} (h : ∀ p ∈ l, p.1 ≠ I) (e : l'.map (·.1) = l.map (·.1)) : ∀ p ∈ l', p.1 ≠ I := fun p hp => by
  have : p.1 ∈ l'.map (·.1) := List.mem_map.mpr ⟨p, hp, rfl⟩
  rw [e] at this
  obtain ⟨q, hq, e2⟩ := List.mem_map.mp this
  rw [← e2]; exact h q hq
theorem sum_snoc {t us : List Nat} {ss : List Value} {i : Nat} {q : Nat × Nat × Nat × Nat} {tk : Tok} (h : IntsAre ss ((List.range i).map fun i => sumQ t us (quad i))) (hq : quad i = q) :
    IntsAre (ss ++ [.int (((T.dist t (qU us q.1) (qU us q.2.1) : Nat) : Int) + (((T.dist t (qU us q.2.2.1) (qU us q.2.2.2) : Nat) : Int) + 0)) tk]) ((List.range (i + 1)).map fun i => sumQ t us (quad i)) := by
  have e1 : sumQ t us (quad i) = ((T.dist t (qU us q.1) (qU us q.2.1) : Nat) : Int) + (((T.dist t (qU us q.2.2.1) (qU us q.2.2.2) : Nat) : Int) + 0) := by rw [hq, Int.add_zero]; rfl
  rw [List.range_succ, List.map_append, List.map_singleton, e1]; exact intsAre_snoc h _ _
theorem len_snoc {t us : List Nat} {hs : List Value} {i : Nat} {q : Nat × Nat × Nat × Nat} {tk : Tok} (h : IntsAre hs ((List.range i).map fun i => ((bothQ t us (quad i)).length : Int))) (hq : quad i = q) :
    IntsAre (hs ++ [.int ((((bothQ t us q).map (97 + ·)).length : Nat) : Int) tk]) ((List.range (i + 1)).map fun i => ((bothQ t us (quad i)).length : Int)) := by
  have e1 : ((bothQ t us (quad i)).length : Int) = ((((bothQ t us q).map (97 + ·)).length : Nat) : Int) := by rw [hq, List.length_map]
  rw [List.range_succ, List.map_append, List.map_singleton, e1]; exact intsAre_snoc h _ _
theorem ints3 {ss : List Value} {f : Nat → Int} (h : IntsAre ss ((List.range 3).map f)) : ∃ t0 t1 t2, ss = [.int (f 0) t0, .int (f 1) t1, .int (f 2) t2] := by
  have h' : IntsAre ss [f 0, f 1, f 2] := h
  obtain ⟨t0, r0, e0, h0⟩ := ints_cons h'
  obtain ⟨t1, r1, e1, h1⟩ := ints_cons h0
  obtain ⟨t2, r2, e2, h2⟩ := ints_cons h1
  have e3 := ints_nil h2
  subst e3 e2 e1 e0
  exact ⟨t0, t1, t2, rfl⟩
theorem buneman {t : List Nat} (ht : T.Ok t) (h6 : t.length = 6) {u0 u1 u2 u3 : Nat} (l0 : u0 ≤ 6) (l1 : u1 ≤ 6) (l2 : u2 ≤ 6) (l3 : u3 ≤ 6) :
    ((bothQ t [u0, u1, u2, u3] (quad 0)).length : Int) = max 0 (1 + (sumQ t [u0, u1, u2, u3] (quad 0) - min (sumQ t [u0, u1, u2, u3] (quad 1)) (sumQ t [u0, u1, u2, u3] (quad 2))) / 2) ∧
    ((bothQ t [u0, u1, u2, u3] (quad 1)).length : Int) = max 0 (1 + (sumQ t [u0, u1, u2, u3] (quad 1) - min (sumQ t [u0, u1, u2, u3] (quad 0)) (sumQ t [u0, u1, u2, u3] (quad 2))) / 2) ∧
    ((bothQ t [u0, u1, u2, u3] (quad 2)).length : Int) = max 0 (1 + (sumQ t [u0, u1, u2, u3] (quad 2) - min (sumQ t [u0, u1, u2, u3] (quad 0)) (sumQ t [u0, u1, u2, u3] (quad 1))) / 2) := by
  have f0 := (T.four t ht u0 u1 u2 u3 (by omega) (by omega) (by omega) (by omega)).len
  have f1 := (T.four t ht u0 u2 u1 u3 (by omega) (by omega) (by omega) (by omega)).len
  have f2 := (T.four t ht u0 u3 u1 u2 (by omega) (by omega) (by omega) (by omega)).len
  have s1 := T.dist_symm t u1 u2
  have s2 := T.dist_symm t u1 u3
  have s3 := T.dist_symm t u2 u3
  simp only [bothQ, sumQ, quad, qU, List.getD_cons_zero, List.getD_cons_succ]
  refine ⟨f0.trans (T.half_congr ?_ ?_ ?_), f1.trans (T.half_congr ?_ ?_ ?_), f2.trans (T.half_congr ?_ ?_ ?_)⟩ <;> omega
end Mine
namespace Mine
theorem TwoJ.turn {h₀ : Heap} {L I : Addr} {oI : Obj} {src : Addr × Obj} {stored : List Str} {m₀ : Str → Option Value} {f : Obj → Obj → Led} {P : List Value → List Value → Prop} {s₁ : Shared} {Q : Flow → Shared → Prop} {h' : Heap} {tk : Nat} {m' : Str → Option Value} {all : Led} {ss' hs' : List Value} {k k' : Nat} {o o' : Obj}
    (F : Fr h₀ L h' m') (N : News h₀ L h' all) (hI : ∀ p ∈ f o o', p.1 ≠ I) (e : (f (listOf ss'.toArray k) (listOf hs'.toArray k')).map (·.1) = (f o o').map (·.1)) (hm : src ∈ f (listOf ss'.toArray k) (listOf hs'.toArray k'))
    (hst : ∀ z, stored.contains z = false → m' z = m₀ z) (hP : P ss' hs') (sub : ∀ p ∈ (I, oI) :: f (listOf ss'.toArray k) (listOf hs'.toArray k'), p ∈ all) : TurnM h₀ L (I, oI) src (TwoJ stored m₀ f P) s₁ Q .next { s₁ with heap := h', toks := tk } :=
  TurnM.next _ F N sub (off_same hI e) hm ⟨hst, _, _, _, _, rfl, hP⟩
end Mine
namespace Mine
theorem bun_step {S M A B H : Int} {ys : List Value} {l : List Int} {i : Nat} {t : Tok} (h : IntsAre ys (l.take i)) (hl : l[i]? = some H) (hb : H = max 0 (1 + (S - min A B) / 2)) (h1 : M = A ∨ M = B) (h2 : M ≤ A ∧ M ≤ B) :
    IntsAre (ys ++ [.int (if 1 + (S - M).fdiv 2 > 0 then 1 + (S - M).fdiv 2 else 0) t]) (l.take (i + 1)) := by
  have e : (if 1 + (S - M).fdiv 2 > 0 then 1 + (S - M).fdiv 2 else 0) = H := by
    rw [Int.fdiv_eq_ediv_of_nonneg _ (by decide)]
    split <;> omega
  rw [e, List.take_add_one, hl]
  exact intsAre_snoc h _ _
end Mine
namespace Mine
theorem sum_snoc' {t us : List Nat} {ss : List Value} {i qa qb qc qd : Nat} {tk : Tok} (h : IntsAre ss ((List.range i).map fun i => sumQ t us (quad i))) (hq : quad i = (qa, qb, qc, qd)) :
    IntsAre (ss ++ [.int (((T.dist t (qU us qa) (qU us qb) : Nat) : Int) + (((T.dist t (qU us qc) (qU us qd) : Nat) : Int) + 0)) tk]) ((List.range (i + 1)).map fun i => sumQ t us (quad i)) := sum_snoc h hq
theorem len_snoc' {t us : List Nat} {hs : List Value} {i qa qb qc qd : Nat} {tk : Tok} (h : IntsAre hs ((List.range i).map fun i => ((bothQ t us (quad i)).length : Int))) (hq : quad i = (qa, qb, qc, qd)) :
    IntsAre (hs ++ [.int ((((T.both (T.way t (qU us qa) (qU us qb)) (T.way t (qU us qc) (qU us qd))).map (97 + ·)).length : Nat) : Int) tk]) ((List.range (i + 1)).map fun i => ((bothQ t us (quad i)).length : Int)) := len_snoc h hq
end Mine
namespace Mine
theorem newsKeep {h₀ h : Heap} {L : Addr} {p1 p2 q1 q2 q3 q4 q5 q6 q7 q8 q9 q10 q11 q12 q13 q14 q15 q16 : Addr × Obj} {X : Led} (N : News h₀ L h (p1 :: p2 :: q1 :: q2 :: q3 :: q4 :: q5 :: q6 :: q7 :: q8 :: q9 :: q10 :: q11 :: q12 :: q13 :: q14 :: q15 :: q16 :: X)) : News h₀ L h (p2 :: X) := fun p hp => N p (by
  simp only [List.mem_cons] at hp ⊢
  rcases hp with h | h <;> simp [h])
theorem shared_eq {s₁ s₂ : Shared} (h1 : s₂.gens = s₁.gens) (h2 : s₂.drawn = s₁.drawn) (h3 : s₂.os = s₁.os) : s₂ = { s₁ with heap := s₂.heap, toks := s₂.toks } := by
  cases s₁; cases s₂; simp only at h1 h2 h3; subst h1 h2 h3; rfl
theorem TwoJ.turn' {h₀ : Heap} {L I : Addr} {oI : Obj} {src : Addr × Obj} {stored : List Str} {m₀ : Str → Option Value} {f : Obj → Obj → Led} {P : List Value → List Value → Prop} {s₁ s₂ : Shared} {Q : Flow → Shared → Prop} {m' : Str → Option Value} {all : Led} {ss' hs' : List Value} {k k' : Nat} {o o' : Obj}
    (F : Fr h₀ L s₂.heap m') (N : News h₀ L s₂.heap all) (hP : P ss' hs') (sub : ∀ p ∈ (I, oI) :: f (listOf ss'.toArray k) (listOf hs'.toArray k'), p ∈ all) (hI : ∀ p ∈ f o o', p.1 ≠ I) (e : (f (listOf ss'.toArray k) (listOf hs'.toArray k')).map (·.1) = (f o o').map (·.1)) (hm : src ∈ f (listOf ss'.toArray k) (listOf hs'.toArray k'))
    (hst : ∀ z, stored.contains z = false → m' z = m₀ z) (h1 : s₂.gens = s₁.gens) (h2 : s₂.drawn = s₁.drawn) (h3 : s₂.os = s₁.os) : TurnM h₀ L (I, oI) src (TwoJ stored m₀ f P) s₁ Q .next s₂ := by
  rw [shared_eq h1 h2 h3]
  exact TurnM.next _ F N sub (off_same hI e) hm ⟨hst, _, _, _, _, rfl, hP⟩
end Mine
namespace Mine
theorem turnEnd {h₀ : Heap} {L I : Addr} {oI : Obj} {src : Addr × Obj} {stored : List Str} {m₀ : Str → Option Value} {f : Obj → Obj → Led} {s₁ s₂ : Shared} {Q : Flow → Shared → Prop} {m' : Str → Option Value} {all : Led} {ss hs : List Value} {k k' : Nat} {o o' : Obj} {t us : List Nat} {i qa qb qc qd : Nat} {tk1 tk2 : Tok}
    (F : Fr h₀ L s₂.heap m') (N : News h₀ L s₂.heap all) (hP : IntsAre ss ((List.range i).map fun i => sumQ t us (quad i)) ∧ IntsAre hs ((List.range i).map fun i => ((bothQ t us (quad i)).length : Int))) (hq : quad i = (qa, qb, qc, qd))
    (sub : ∀ p ∈ (I, oI) :: f (listOf (ss ++ [Value.int (((T.dist t (qU us qa) (qU us qb) : Nat) : Int) + (((T.dist t (qU us qc) (qU us qd) : Nat) : Int) + 0)) tk1]).toArray k) (listOf (hs ++ [Value.int ((((T.both (T.way t (qU us qa) (qU us qb)) (T.way t (qU us qc) (qU us qd))).map (97 + ·)).length : Nat) : Int) tk2]).toArray k'), p ∈ all)
    (hI : ∀ p ∈ f o o', p.1 ≠ I) (e : ∀ a b, (f a b).map (·.1) = (f o o').map (·.1)) (hm : ∀ a b, src ∈ f a b)
    (hst : ∀ z, stored.contains z = false → m' z = m₀ z) (h1 : s₂.gens = s₁.gens) (h2 : s₂.drawn = s₁.drawn) (h3 : s₂.os = s₁.os) :
    TurnM h₀ L (I, oI) src (TwoJ stored m₀ f (fun ss hs => IntsAre ss ((List.range (i + 1)).map fun i => sumQ t us (quad i)) ∧ IntsAre hs ((List.range (i + 1)).map fun i => ((bothQ t us (quad i)).length : Int)))) s₁ Q .next s₂ :=
  TwoJ.turn' F N ⟨sum_snoc' hP.1 hq, len_snoc' hP.2 hq⟩ sub hI (e _ _) (hm _ _) hst h1 h2 h3
end Mine
namespace Mine
/-- the ledger ahead of the loop, all but the two lists behind one name -/
theorem pack {h₀ h : Heap} {L : Addr} {lIt tA tB tC lSh lSu lR lF lA x1 x2 : Addr} {oIt oSh oSu oR oF oA o1 o2 : Obj} {t1 t2 t3 u c3 c4 : Addr × Obj} {G : Led} {a1 a2 a3 a4 b1 b2 b3 b4 d1 d2 d3 d4 : Tok}
    (N : News h₀ L h ((lIt, oIt) :: (tC, tupOf #[.int 0 d1, .int 3 d2, .int 1 d3, .int 2 d4]) :: (tB, tupOf #[.int 0 b1, .int 2 b2, .int 1 b3, .int 3 b4]) :: (tA, tupOf #[.int 0 a1, .int 1 a2, .int 2 a3, .int 3 a4]) :: (lSh, oSh) :: (lSu, oSu) :: (lR, oR) :: (lF, oF) :: t1 :: t2 :: t3 :: (lA, oA) :: u :: (x1, o1) :: (x2, o2) :: c3 :: c4 :: G))
    (h1 : (@Ne Nat lIt lSu) ∧ (@Ne Nat tC lSu) ∧ (@Ne Nat tB lSu) ∧ (@Ne Nat tA lSu) ∧ (@Ne Nat lR lSu) ∧ (@Ne Nat lF lSu) ∧ (@Ne Nat lA lSu) ∧ (@Ne Nat x1 lSu) ∧ (@Ne Nat x2 lSu)) (g1 : AllLt lSu G)
    (h2 : (@Ne Nat lIt lSh) ∧ (@Ne Nat tC lSh) ∧ (@Ne Nat tB lSh) ∧ (@Ne Nat tA lSh) ∧ (@Ne Nat lR lSh) ∧ (@Ne Nat lF lSh) ∧ (@Ne Nat lA lSh) ∧ (@Ne Nat x1 lSh) ∧ (@Ne Nat x2 lSh)) (g2 : AllLt lSh G) :
    ∃ G', News h₀ L h ((lSh, oSh) :: (lSu, oSu) :: G') ∧ (lIt, oIt) ∈ G' ∧ (lR, oR) ∈ G' ∧ (lF, oF) ∈ G' ∧ (lA, oA) ∈ G' ∧ (x1, o1) ∈ G' ∧ (x2, o2) ∈ G' ∧ (∀ p ∈ G, p ∈ G') ∧ (∀ p ∈ G', p.1 ≠ lSu) ∧ (∀ p ∈ G', p.1 ≠ lSh) ∧
      ∀ (i : Nat) (v : Value), [Value.ref tA, .ref tB, .ref tC][i]? = some v → ∃ (ta : Addr) (a b c d : Nat) (s1 s2 s3 s4 : Tok), v = .ref ta ∧ (ta, tupOf #[.int (a : Int) s1, .int (b : Int) s2, .int (c : Int) s3, .int (d : Int) s4]) ∈ G' ∧ quad i = (a, b, c, d) ∧ a ≤ 3 ∧ b ≤ 3 ∧ c ≤ 3 ∧ d ≤ 3 := by
  obtain ⟨e1, e2, e3, e4, e5, e6, e7, e8, e9⟩ := h1
  obtain ⟨f1, f2, f3, f4, f5, f6, f7, f8, f9⟩ := h2
  refine ⟨(lR, oR) :: (lF, oF) :: (lA, oA) :: (x1, o1) :: (x2, o2) :: (lIt, oIt) :: (tC, tupOf #[.int 0 d1, .int 3 d2, .int 1 d3, .int 2 d4]) :: (tB, tupOf #[.int 0 b1, .int 2 b2, .int 1 b3, .int 3 b4]) :: (tA, tupOf #[.int 0 a1, .int 1 a2, .int 2 a3, .int 3 a4]) :: G, fun p hp => N p ?_, by simp, by simp, by simp, by simp, by simp, by simp, fun p hp => by simp [hp],
    List.forall_mem_cons.mpr ⟨e5, List.forall_mem_cons.mpr ⟨e6, List.forall_mem_cons.mpr ⟨e7, List.forall_mem_cons.mpr ⟨e8, List.forall_mem_cons.mpr ⟨e9, List.forall_mem_cons.mpr ⟨e1, List.forall_mem_cons.mpr ⟨e2, List.forall_mem_cons.mpr ⟨e3, List.forall_mem_cons.mpr ⟨e4, neOf g1⟩⟩⟩⟩⟩⟩⟩⟩⟩,
    List.forall_mem_cons.mpr ⟨f5, List.forall_mem_cons.mpr ⟨f6, List.forall_mem_cons.mpr ⟨f7, List.forall_mem_cons.mpr ⟨f8, List.forall_mem_cons.mpr ⟨f9, List.forall_mem_cons.mpr ⟨f1, List.forall_mem_cons.mpr ⟨f2, List.forall_mem_cons.mpr ⟨f3, List.forall_mem_cons.mpr ⟨f4, neOf g2⟩⟩⟩⟩⟩⟩⟩⟩⟩, fun i v hv => ?_⟩
  · simp only [List.mem_cons] at hp ⊢
    rcases hp with h | h | h | h | h | h | h | h | h | h | h | h <;> simp [h]
  · obtain ⟨ta, a, b, c, d, s1, s2, s3, s4, e, hm, r⟩ := turn_item (a1 := a1) (a2 := a2) (a3 := a3) (a4 := a4) (b1 := b1) (b2 := b2) (b3 := b3) (b4 := b4) (c1 := d1) (c2 := d2) (c3 := d3) (c4 := d4) hv
    refine ⟨ta, a, b, c, d, s1, s2, s3, s4, e, ?_, r⟩
    simp only [List.mem_cons, List.not_mem_nil, or_false] at hm ⊢
    rcases hm with h | h | h <;> simp [h]
end Mine
namespace Mine
theorem lt6 {k : Int} {ns : List Int} (h : k < 0 + (((5 : Int) - 0).toNat : Int)) (hz : ns.length = 6) : k < ns.length := by
  have e : (((5 : Int) - 0).toNat : Int) = 5 := rfl
  rw [hz]; omega
theorem lt6big {k : Int} (h : k < 0 + (((5 : Int) - 0).toNat : Int)) : k < 2 ^ 63 := by
  have e : (((5 : Int) - 0).toNat : Int) = 5 := rfl
  omega
end Mine


namespace Mine
local macro_rules | `(tactic| walk_at "call ref") => `(tactic| ((with_reducible show wpAny _ _ (call (Value.ref 244) _) _ _ _); (refine Mine.Hold.intro ?_)))
local macro_rules | `(tactic| walk_at "call ref") => `(tactic| ((with_reducible show wpAny _ _ (call (Value.ref 251) _) _ _ _); (refine Mine.Hold.intro ?_)))
local macro_rules | `(tactic| walk_at "call ref") => `(tactic| ((with_reducible show wpAny _ _ (call (Value.ref 258) _) _ _ _); (refine Mine.Hold.intro ?_)))
local macro_rules | `(tactic| walk_at "call ref") => `(tactic| ((with_reducible show wpAny _ _ (call (Value.ref 265) _) _ _ _); (refine Mine.Hold.intro ?_)))
local macro_rules | `(tactic| walk_at "call ref") => `(tactic| ((with_reducible show wpAny _ _ (call (Value.ref 237) _) _ _ _); (refine Mine.Hold.intro ?_)))
local macro_rules | `(tactic| walk_at "call ref") => `(tactic| ((with_reducible show wpAny _ _ (call (Value.ref 270) _) _ _ _); (refine Mine.Hold.intro ?_)))
set_option hygiene false
local macro_rules | `(tactic| walk_at "call builtin:str.join") => `(tactic| k_extra "call builtin:str.join")
local macro_rules | `(tactic| walk_at "call type:list") => `(tactic| k_extra "call type:list")
local macro_rules | `(tactic| walk_at "call builtin:len") => `(tactic| k_extra "call builtin:len")
local macro_rules | `(tactic| walk_at "binaryOp Add str str") => `(tactic| k_extra "binaryOp Add str str")
set_option hygiene true
local macro_rules | `(tactic| k_qdec) => `(tactic| decide +kernel)
local macro_rules | `(tactic| walk_at "compareOp NotEq ref ref") => `(tactic| (refine Mine.Hold.intro ?_))
local macro_rules | `(tactic| walk_at "compareOp Eq ref ref") => `(tactic| (refine Mine.Hold.intro ?_))
local macro_rules | `(tactic| walk_at "compareOp NotIn str str") => `(tactic| (refine Mine.Hold.intro ?_))
local macro_rules | `(tactic| walk_at "subscriptTail Name Slice str ref") => `(tactic| (refine Mine.Hold.intro ?_))
local macro_rules | `(tactic| walk_at "SrcTu") => `(tactic| (refine Mine.Hold.intro ?_))
local macro_rules | `(tactic| walk_at "exec Assign cons ListComp") => `(tactic| k_extra "exec Assign cons ListComp")
local macro_rules | `(tactic| walk_at "CompSrc") => `(tactic| k_extra "CompSrc")
local macro_rules | `(tactic| walk_at "exec For Tuple List cons nil") => `(tactic| (refine Mine.Hold.intro ?_))
local macro_rules | `(tactic| walk_at "pyIter ref") => `(tactic| ((with_reducible show wpAny _ _ (pyIter (Value.ref _)) (fun it s₂ => TurnsAt _ _ _ _ _ _ _ _ _ it s₂) _ _); (refine Mine.Hold.intro ?_)))
theorem main_holds : PySem.Challenge.rw_rl0103_01.Holds := Mine.hd (by
  k_with_none
  k_with "getMethod ref" => ((k_here; (with_reducible show wpAny _ _ (getMethod (Value.ref _) (Str.ofString "search") _) _ _ _); k_dflt (refine' Mine.meth_search ?k1 ?k2 ?k3 ?k4 ?k5 ?_; (case k1 => k_asm); (case k2 => k_asm); (case k3 => k_is); (case k4 => rfl); (case k5 => rfl); k_whole)))
  k_with "call builtin:re.Pattern.search" => ((k_here; k_dflt (refine' Mine.call_search ?k1 ?k2 ?k3 ?k4 ?k5 ?_; (case k1 => k_asm); (case k2 => k_asm); (case k3 => k_is); (case k4 => rfl); (case k5 => first | with_reducible exact Mine.srchN _ _ _ (by assumption) | with_reducible exact Mine.srchV _ _ _ (by assumption)); k_whole)))
  k_with "mine use" => (((case k1 => k_asm); (case k2 => k_asm); (case k3 => k_asm); (case k4 => k_asm); (case k5 => k_asm); (case kd => exact Nat.le_of_ble_eq_true rfl); (case ku => exact Nat.le_of_ble_eq_true rfl)))
  k_with "mine lt" => ((walk_at "mine and"; first | omega | assumption | exact allLt_of (by assumption) | exact Mine.ltUp (by omega) (by assumption) | exact Mine.ltUp (by omega) (allLt_of (by assumption))))
  k_with "mine letter" => (first | assumption | exact Mine.Letter.lower (by assumption) | exact Mine.Letter.upper (by assumption) | exact Mine.Letter.lower (Mine.Letter.upper (by assumption)))
  k_with "call builtin:str.lower" => ((k_here; k_dflt (refine Mine.lower_L (by walk_at "mine letter") ?_)))
  k_with "call builtin:str.upper" => ((k_here; k_dflt (refine Mine.upper_L (by walk_at "mine letter") ?_)))
  k_with "eval ListComp" => (k_extra "mine comp")
  k_with "CompRestT" => (k_extra "mine restT")
  k_with "CompRest" => (k_extra "mine rest")
  k_with "exec For Tuple Attribute cons nil" => (k_extra "mine for")
  k_with "exec For Tuple Name cons nil" => (k_extra "mine for")
  k_with "exec While Compare cons nil" => (k_extra "mine while")
  k_with "delItem ref" => ((k_here; k_dflt (refine' Mine.own_delItem ?F ?X ?I ?hQ ?hS ?hF ?_; (case F => k_asm); (case X => k_asm); (case I => k_inst); (case hS => k_is); (case hF => k_is); (case hQ => k_is); k_whole)))
  k_with "call ref" => ((k_here; k_dflt (refine' Mine.Spec.use (Mine.get_spec _ _ _ _ _ _ _ _ _ _ _ _ ?hx _ ?hH ?h1 ?h2 ?h3) ?k1 ?k2 ?k3 ?k4 ?k5 ?kd ?ku ?_; walk_at "mine use"; (case hx => walk_at "mine letter"); (case h2 => k_mem); (case h3 => k_mem); (case h1 => k_mem); (case hH => walk_at "mine hdrs"); k_whole; intro rG nG hG tkG FG NG RG; obtain ⟨eG, VG⟩ := RG; (have eG' := Eq.symm eG); (first | subst eG' | subst eG); (try dsimp only); (try k_sweep); (try k_fold))))
  k_with "mine hdrs" => (first | assumption | exact Mine.Hdrs.mono (by kcj_all) (by assumption))
  k_with "call ref" => ((k_here; k_dflt (refine' Mine.Spec.use (Mine.ent_spec _ _) ?k1 ?k2 ?k3 ?k4 ?k5 ?kd ?ku ?_; walk_at "mine use"; k_whole; intro rE nE hE tkE FE NE RE; obtain ⟨xE, dE, uE, vE, aE, bE, cE, fE, eE, eE', lE, mE, oE, pE⟩ := RE; subst eE eE'; (try (replace lE := Mine.ltOf lE; k_lt lE)); (try dsimp only); (try k_sweep); (try k_fold))))
  k_with "call ref" => ((k_here; k_dflt (refine' Mine.Spec.use (Mine.merge_spec _ _ _ _ _ _ _ _ _ _ _ _ _ _ _ _ _ _ _ _ _ _ _ _ _ _ _ _ _ _ ?h1 ?h2 ?h3 ?h4 ?g1 ?g2 ?g3 ?g4 ?y1 ?y2 ?z1 ?z2 ?z3 ?z4) ?k1 ?k2 ?k3 ?k4 ?k5 ?kd ?ku ?_; walk_at "mine use"; (case h1 => k_mem); (case h2 => k_mem); (case h3 => k_mem); (case h4 => k_mem); (case g1 => k_mem); (case g2 => k_mem); (case g3 => k_mem); (case g4 => k_mem); (case y1 => walk_at "mine strs"); (case y2 => walk_at "mine strs"); (case z1 => walk_at "mine len"); (case z2 => walk_at "mine len"); (case z3 => walk_at "mine len"); (case z4 => walk_at "mine len"); k_whole; intro rM nM hM tkM FM NM RM; obtain ⟨xM, dM, uM, vM, sM, aM, bM, cM, fM, gM, iM, jM, eM, eM', SM, zM, lM, mM, oM, pM⟩ := RM; subst eM eM'; (try (replace lM := Mine.ltOf lM; k_lt lM)); (try dsimp only); (try k_sweep); (try k_fold))))
  k_with "mine strs" => (first | assumption | exact StrsAre.nil | (refine StrsAre.cons _ _ ?_; walk_at "mine strs"))
  k_with "mine len" => (first | assumption | omega | (simp only [List.length_cons, List.length_nil, List.length_append]; omega))
  k_with "mine hdrs" => (first | assumption | (refine Mine.Hdrs.mono ?hs9 (by assumption); kcj_all))
  k_with "subscriptTail Name Constant ref int" => (k_extra "mine item")
  k_with "subscriptTail Attribute Name Constant ref int" => (k_extra "mine item")
  k_with "call builtin:list.index" => ((k_here; k_dflt (refine' Mine.index_L ?k1 ?k2 ?k3 ?k4 ?k5 ?_; (case k1 => k_asm); (case k2 => k_mem); (case k3 => assumption); (case k4 => assumption); (case k5 => first | assumption | omega); k_whole)))
  k_with "mine len" => ((simp only [List.length_cons, List.length_nil, List.length_append, List.length_take, List.length_reverse]; omega))
  k_with "call ref" => ((k_here; k_dflt (refine' Mine.Spec.use (Mine.new_spec _ _) ?k1 ?k2 ?k3 ?k4 ?k5 ?kd ?ku ?_; walk_at "mine use"; k_whole; intro rN nN hN tkN FN NN RN; obtain ⟨tN, dN, lN, aN, bN, eN, eN', uN, vN, wN⟩ := RN; subst eN eN'; (try (replace uN := Mine.ltOf uN; k_lt uN)); (try dsimp only); (try k_sweep); (try k_fold))))
  k_with "mine letter" => ((show _ ∈ Mine.letters; decide +kernel))
  k_with "mine hdrs" => (exact Mine.Hdrs.nil)
  k_with "mine len" => (first | assumption | omega | (simp only [List.length_cons, List.length_nil, List.length_append, List.length_take, List.length_reverse] <;> omega) | (subst_vars; (simp only [List.length_cons, List.length_nil, List.length_append, List.length_take, List.length_reverse] <;> omega)))
  k_with "mine tsub" => (first | exact Mine.TSub.nil | exact Mine.TSub.sub (fun _ h => h) | (refine Mine.TSub.keep (by k_mem) ?_; walk_at "mine tsub") | (refine Mine.TSub.skip (by k_cls) ?_; walk_at "mine tsub") | exact Mine.TSub.sub (by kcj_all))
  k_with "mine drop" => (first | (refine' Mine.DropAt.head ?a; (case a => k_all)) | (refine' Mine.DropAt.tail ?a ?b; (case a => k_ne); (case b => walk_at "mine drop")))
  k_with "UnrEnd" => ((refine' Mine.unrEnd_drop ?k1 ?k2 ?k3 ?_; (case k1 => k_asm); (case k2 => k_asm); (case k3 => walk_at "mine drop")))
  k_with "subscriptTail Name Name ref int" => ((k_here; k_dflt (refine' Mine.item_L ?k0 ?k1 ?k2 ?k3 ?k4 ?_; (case k0 => k_asm); (case k1 => k_mem); (case k2 => first | decide | omega); (case k3 => first | decide | omega); (case k4 => first | assumption | rfl); k_whole)))
  k_with "mine letter" => (exact Mine.lc_letter (by omega) (by omega))
  k_with "subscriptTail Name UnaryOp ref int" => ((k_here; k_dflt (refine' Mine.last_L ?k0 ?k1 ?_; (case k0 => k_asm); (case k1 => k_mem); k_whole)))
  k_with "compareOp In int ref" => ((k_here; k_dflt (refine' Mine.in_L ?k0 ?k1 ?k2 ?k3 ?_; (case k0 => k_asm); (case k1 => k_mem); (case k2 => assumption); (case k3 => ke_room); k_whole)))
  k_with "subscriptTail Name Subscript ref int" => ((k_here; k_dflt (refine' Mine.item_L ?k0 ?k1 ?k2 ?k3 ?k4 ?_; (case k0 => k_asm); (case k1 => k_mem); (case k2 => omega); (case k3 => omega); (case k4 => assumption); k_whole)))
  k_with "mine sub" => (first | exact fun _ h => h | assumption | exact Mine.subNil | (refine' Mine.subCons ?u1 ?u2; (case u1 => k_mem); (case u2 => walk_at "mine sub")) | (refine Mine.subTail ?_; walk_at "mine sub"))
  k_with "mine tsub" => (first | exact Mine.TSub.nil | (refine Mine.TSub.cell (by assumption) ?_; walk_at "mine tsub") | (refine Mine.TSub.keep (by k_mem) ?_; walk_at "mine tsub") | (refine Mine.TSub.skip (by k_cls) ?_; walk_at "mine tsub"))
  k_with "mine use" => (((case k1 => k_asm); (case k2 => k_asm); (case k3 => k_asm); (case k4 => k_asm); (case k5 => k_asm); (case kd => first | exact Nat.le_of_ble_eq_true rfl | decide); (case ku => first | exact Nat.le_of_ble_eq_true rfl | decide)))
  k_with "call builtin:str.join" => ((k_here; k_dflt (refine' Mine.joinPl_L ?k1 ?k2 ?k3 ?k4 ?_; (case k1 => k_asm); (case k2 => k_mem); (case k3 => assumption); (case k4 => omega); k_whole); intro t9 k9; (try dsimp only); (try k_sweep)))
  k_with "call type:list" => ((k_here; (with_reducible show wpAny _ _ (call (Value.type _) [Value.str _ _]) _ _ _); k_dflt (refine' Mine.listStr_L ?k0 ?k1 ?k2 ?k3 ?_; (case k0 => rfl); (case k1 => k_asm); (case k2 => k_asm); (case k3 => assumption); k_whole); intro D9 h9 tk9 ys9 n9 F9 N9 l9 S9; (replace S9 := S9); (try k_lt l9); (try dsimp only); (try k_sweep)))
  k_with "call builtin:len" => ((k_here; (with_reducible show wpAny _ _ (call (Value.builtin _) [Value.str _ _]) _ _ _); k_dflt (refine' Mine.lenTx_L ?k3 ?_; (case k3 => assumption); k_whole); intro t9 k9; (try dsimp only); (try k_sweep)))
  k_with "binaryOp Add str str" => ((k_here; first | ((with_reducible show wpAny _ _ (binaryOp _ (Value.str (Mine.tx _) _) (Value.str (Str.ofString _) _)) _ _ _); k_dflt (refine' Mine.addSp_L ?k3 ?_; (case k3 => assumption); k_whole)) | ((with_reducible show wpAny _ _ (binaryOp _ (Value.str (Mine.tx _) _) (Value.str (Mine.tx _) _)) _ _ _); k_dflt (refine' Mine.addTx_L ?k3 ?_; (case k3 => assumption); k_whole)); intro t9 k9; (try dsimp only); (try k_sweep)))
  k_with "subscriptTail Name Name ref int" => ((k_here; k_dflt (refine' ksa_sub ?k1 ?k2 ?k3 ?k4 ?k5 ?k6 (fun _ => ?_) ?k7; (case k1 => k_asm); (case k2 => k_mem); (case k3 => assumption); (case k4 => assumption); (case k5 => exact Mine.lt6 (by assumption) (by assumption)); (case k6 => exact Mine.lt6big (by assumption)); (case k7 => with_unfolding_all rfl); k_whole)))
  k_with "exec Assign cons ListComp" => (k_extra "mine asg")
  k_with "CompSrc" => (k_extra "mine src")
  w_top off
  k_with "mine comp" => (refine Mine.Hold.intro ?_)
  k_go0
  (all_goals try k_fold)
  k_steps
  unfold Hold
  rename_i hDx hx FL w3 w2 w1 w0 c3 c2 c1 c0 NL XL
  replace FL := frCast FL (bindL_of rfl rfl)
  replace c3 : w3.data = Data.cell none := c3.trans (congrArg Data.cell (bindC_of rfl rfl))
  replace c2 : w2.data = Data.cell none := c2.trans (congrArg Data.cell (bindC_of rfl rfl))
  replace c1 : w1.data = Data.cell none := c1.trans (congrArg Data.cell (bindC_of rfl rfl))
  replace c0 : w0.data = Data.cell none := c0.trans (congrArg Data.cell (bindC_of rfl rfl))
  clear XL
  (try clear hx)
  (try clear hDx)
  refine withOwn (env := envOfC _ _ _ _ _) (by passes_own) ?_
  intro hPO
  clear_value ek
  refine' SpecH.use (numbers_spec _ _ _ _ ?hI ?hb _) ?k1 ?k2 ?k3 ?k4 ?k5 ?kd ?ku ?hH ?_
  walk_at "mine use"
  case hI => assumption
  case hb => omega
  case hH => assumption
  intro rU nU hU tkU FU NU RU
  obtain ⟨lU, vU, cU, numsU, eU, eU', aU, iU, zU⟩ := RU
  subst eU eU'
  replace aU := ltOf aU
  k_lt aU
  (try dsimp only)
  k_steps
  unfold Hold
  refine LCg.ListComp_U (F₀ := by k_asm) (by with_unfolding_all rfl) (by decide) (by rfl) (by decide) (by rfl) ?_
  k_steps
  obtain ⟨b2, b3, b4, b5, b6, t0, t1, t2, t3, t4, t5, t6, eW, g2, g3, g4, g5, g6⟩ := above7 (by assumption)
  subst eW
  unfold Hold
  refine' Spec.use (table_spec _ _ _ _ _ _ _ _ _ _ _ _ _ _ _ _ ?h1 g2 g3 g4 g5 g6) ?k1 ?k2 ?k3 ?k4 ?k5 ?kd ?ku ?_
  walk_at "mine use"
  case h1 => k_mem
  intro rT nT hT tkT FT NT RT
  obtain ⟨tT, dT, lT, hsT, ktT, vsT, n1T, n3T, tups, eT, eT', HT, zT, lT1, lT2, lT3, gT⟩ := RT
  subst eT eT'
  replace NT := newsShift3 NT
  replace lT1 := ltOf lT1
  k_lt lT1
  (try dsimp only)
  simp only [List.cons_append, List.nil_append] at NT
  replace NT := newsDrop NT
  k_steps
  unfold Hold
  refine LCg.ListComp_U (F₀ := by k_asm) (by with_unfolding_all rfl) (by decide) (by rfl) (by decide) (by rfl) ?_
  k_with "mine src" => (refine Mine.Hold.intro ?_)
  k_steps
  unfold Hold
  refine LCg.CompSrc.range rfl (by k_asm) (by k_asm) (by assumption) (by decide) (by rfl) (by decide) ?_
  intro g
  (try dsimp only)
  refine restU_keep (fun i ys => ∃ us : List Nat, IntsAre ys (us.map fun (u : Nat) => (u : Int)) ∧ us.length = i ∧ ∀ u ∈ us, u ≤ 6) 4 ⟨[], .nil, rfl, by simp⟩ ?_ ?_
  · rintro i ys pv Ia oI C oC D m₂ h tk E' hi hI ⟨tp, rfl⟩ hC hx' F' N' off ne
    have h4 : i = 0 ∨ i = 1 ∨ i = 2 ∨ i = 3 := by omega
    rcases h4 with rfl | rfl | rfl | rfl
    · replace hx' : m₂ (Str.ofString "k") = some (Value.int 0 tp) := hx'
      k_steps
      exact endFour (by k_asm) (by k_asm) (by walk_at "mine sub") off hI
    · replace hx' : m₂ (Str.ofString "k") = some (Value.int 1 tp) := hx'
      k_steps
      exact endFour (by k_asm) (by k_asm) (by walk_at "mine sub") off hI
    · replace hx' : m₂ (Str.ofString "k") = some (Value.int 2 tp) := hx'
      k_steps
      exact endFour (by k_asm) (by k_asm) (by walk_at "mine sub") off hI
    · replace hx' : m₂ (Str.ofString "k") = some (Value.int 3 tp) := hx'
      k_steps
      exact endFour (by k_asm) (by k_asm) (by walk_at "mine sub") off hI
  intro ys hI
  obtain ⟨u0, u1, u2, u3, s0, s1, s2, s3, eY, l0, l1', l2, l3⟩ := four_list hI
  subst eY
  clear hI
  k_steps
  unfold Hold
  refine LCg.CompSrc.ledger rfl (by k_asm) (by k_asm) (by k_mem) (by exact Nat.le_of_ble_eq_true rfl) ?_
  intro gg
  rename World => ww
  refine restU_grow (fun G => _ :: _ :: _ :: _ :: _ :: _ :: _ :: _ :: _ :: _ :: G) (RoadsJ ww tups lT (treeOf b2 b3 b4 b5 b6) [u0, u1, u2, u3]) 4 (RoadsJ.zero gT) ?_ ?_
  · intro i ys G pv Ia oI C oC D m₂ h tk E' hi hJ hP hC hx' F' N' off ne
    (try dsimp only at N')
    (try dsimp only at off)
    have hJ1 := hJ.1
    have hJ2 := hJ.2.1
    obtain ⟨u, su, rfl, eu, hu⟩ := item4 hP l0 l1' l2 l3
    k_steps
    unfold Hold
    have elc := lc_one (u := (u : Int)) (by omega) (by omega)
    rw [Int.toNat_natCast] at elc
    refine' Spec.use (road_spec ww tT dT lT hsT ktT n1T n3T vsT (tabOf b2 b3 b4 b5 b6) _ _ ?hx _ ?hH ?h1 ?h2 ?h3 ((T.road (treeOf b2 b3 b4 b5 b6) u).map one) ?hp ?hps) ?k1 ?k2 ?k3 ?k4 ?k5 ?kd ?ku ?_
    walk_at "mine use"
    case hx => show Letter (lc _); rw [elc]; exact one_letter hu
    case hH => exact HT.mono' (TSub.app (TSub.sub (by walk_at "mine sub")) (by walk_at "mine tsub"))
    case h1 => k_mem
    case h2 => k_mem
    case h3 => k_mem
    case hp => show Path _ (lc _) _; rw [elc]; exact path_tab g2 g3 g4 g5 g6 6 u hu hu
    case hps => rw [List.length_map]; exact Nat.le_trans (T.road_len _ _) (by simp [treeOf])
    intro rR nR hR tkR FR NR RR
    obtain ⟨xR, dR, uR, vR, usR, aR, bR, cR, fR, kR, eR, eR', SR, zR, lR1, lR2, lR3, lR4⟩ := RR
    subst eR eR'
    (try dsimp only)
    have l0R : LtA lT dR := lR1.2.2.2.2.1
    exact endRoad FR NR off hJ eu elc SR (by simp [treeOf]) lR1 l0R lR2 lR3 lR4 (.inr ⟨_, by k_mem, rfl, _, rfl⟩)
  · intro ys G hJ
    have hJ2 := hJ.2.1
    obtain ⟨v0, v1, v2, v3, rfl, E0, E1, E2, E3⟩ := hJ.four
    clear hJ
    dsimp only
    k_steps
    unfold Hold
    refine' For_turns ?F ?h ?hs ?hE
    case F => k_asm
    case hs => intro _; rfl
    case hE => exact hPO
    k_steps
    unfold Hold
    rename_i lSu _ aSu _ oSu dSu _ lSh _ aSh _ tA _ aTA tB _ aTB tC _ aTC lIt _ FQ NQ lQ
    have gSu : AllLt lSu G := aSu.2.2.2.2.2.2.2.2.2.2.2
    have gSh : AllLt lSh G := aSh.2.2.2.2.2.2.2.2.2.2.2.2
    obtain ⟨GP, NP, mIt, mR, mF, mA', mS, mQ, hGP, oSu', oSh', hturn⟩ := pack NQ
      ⟨Nat.ne_of_gt lQ.2.2.2.2.1, Nat.ne_of_gt aTC.2.2.2.1, Nat.ne_of_gt aTB.2.2.1, Nat.ne_of_gt aTA.2.1, Nat.ne_of_lt aSu.1, Nat.ne_of_lt aSu.2.1, Nat.ne_of_lt aSu.2.2.2.2.2.1, Nat.ne_of_lt aSu.2.2.2.2.2.2.2.1, Nat.ne_of_lt aSu.2.2.2.2.2.2.2.2.1⟩ gSu
      ⟨Nat.ne_of_gt lQ.2.2.2.1, Nat.ne_of_gt aTC.2.2.1, Nat.ne_of_gt aTB.2.1, Nat.ne_of_gt aTA.1, Nat.ne_of_lt aSh.2.1, Nat.ne_of_lt aSh.2.2.1, Nat.ne_of_lt aSh.2.2.2.2.2.2.1, Nat.ne_of_lt aSh.2.2.2.2.2.2.2.2.1, Nat.ne_of_lt aSh.2.2.2.2.2.2.2.2.2.1⟩ gSh
    have lSS : @LT.lt Nat _ lSu lSh := aSh.1
    have EP0 := E0.mono hGP
    have EP1 := E1.mono hGP
    have EP2 := E2.mono hGP
    have EP3 := E3.mono hGP
    clear E0 E1 E2 E3 NQ lQ aTA aTB aTC aSu aSh gSu gSh
    refine iter_two (ss₀ := []) (hs₀ := []) (n₀ := 0) (n₁ := 0) [Str.ofString "i", Str.ofString "j", Str.ofString "k", Str.ofString "m", Str.ofString "first", Str.ofString "second", Str.ofString "merge", Str.ofString "both", Str.ofString "one", Str.ofString "other", Str.ofString "steps"] (fun oS oH => (lSh, oH) :: (lSu, oS) :: GP)
      (fun i ss hs => IntsAre ss ((List.range i).map fun i => sumQ (treeOf b2 b3 b4 b5 b6) [u0, u1, u2, u3] (quad i)) ∧ IntsAre hs ((List.range i).map fun i => ((bothQ (treeOf b2 b3 b4 b5 b6) [u0, u1, u2, u3] (quad i)).length : Int))) rfl FQ NP (fun _ _ => .tail _ (.tail _ mIt)) ⟨.nil, .nil⟩ ?_ ?_
    · intro i v u ss kS hs kH h tk' I oI hv hP hI F1 N1
      have nI1 : NeA I lSu := fun e => hI (lSu, _) (.tail _ (.head _)) e.symm
      have nI2 : NeA I lSh := fun e => hI (lSh, _) (.head _) e.symm
      have nI3 : ∀ p ∈ GP, p.1 ≠ I := fun p hp => hI p (.tail _ (.tail _ hp))
      obtain ⟨ta, qa, qb, qc, qd, ka, kb, kc, kd, rfl, hmt, hq, la, lb, lc', ld⟩ := hturn i v hv
      obtain ⟨vA, hvA, EA⟩ := roadAt EP0 EP1 EP2 EP3 la
      obtain ⟨vB, hvB, EB⟩ := roadAt EP0 EP1 EP2 EP3 lb
      obtain ⟨vC, hvC, EC⟩ := roadAt EP0 EP1 EP2 EP3 lc'
      obtain ⟨vD, hvD, ED⟩ := roadAt EP0 EP1 EP2 EP3 ld
      obtain ⟨zA, hzA, mA⟩ := fourAt (s0 := s0) (s1 := s1) (s2 := s2) (s3 := s3) l0 l1' l2 l3 la
      obtain ⟨zB, hzB, mB⟩ := fourAt (s0 := s0) (s1 := s1) (s2 := s2) (s3 := s3) l0 l1' l2 l3 lb
      obtain ⟨zC, hzC, mC⟩ := fourAt (s0 := s0) (s1 := s1) (s2 := s2) (s3 := s3) l0 l1' l2 l3 lc'
      obtain ⟨zD, hzD, mD⟩ := fourAt (s0 := s0) (s1 := s1) (s2 := s2) (s3 := s3) l0 l1' l2 l3 ld
      have hok := treeOk g2 g3 g4 g5 g6
      have hl6 : (treeOf b2 b3 b4 b5 b6).length = 6 := rfl
      k_steps
      unfold Hold
      refine' Spec.use (way_ent ww (treeOf b2 b3 b4 b5 b6) (qU [u0, u1, u2, u3] qa) (qU [u0, u1, u2, u3] qb) _ _ _ hok (by rw [hl6]; exact mA) (by rw [hl6]; exact mB) (by rw [hl6]; decide) ?eA ?eB) ?k1 ?k2 ?k3 ?k4 ?k5 ?kd ?ku ?_
      walk_at "mine use"
      case eA => exact EA.mono (by walk_at "mine sub")
      case eB => exact EB.mono (by walk_at "mine sub")
      intro rW nW hW tkW FW NW RW
      obtain ⟨xF, dF, aF, rF, usF, rsF, kF1, kF2, kF3, kF4, jF1, jF2, eW, eW', SF, RF, zF1, zF2, lF1, lF2, lF3, lF4⟩ := RW
      subst eW eW'
      replace lF1 := ltOf lF1
      k_lt lF1
      (try dsimp only)
      k_steps
      unfold Hold
      refine' Spec.use (way_ent ww (treeOf b2 b3 b4 b5 b6) (qU [u0, u1, u2, u3] qc) (qU [u0, u1, u2, u3] qd) _ _ _ hok (by rw [hl6]; exact mC) (by rw [hl6]; exact mD) (by rw [hl6]; decide) ?eA ?eB) ?k1 ?k2 ?k3 ?k4 ?k5 ?kd ?ku ?_
      walk_at "mine use"
      case eA => exact EC.mono (by walk_at "mine sub")
      case eB => exact ED.mono (by walk_at "mine sub")
      intro rW nW hW tkW FW NW RW
      obtain ⟨xG, dG, aG, rG, usG, rsG, kG1, kG2, kG3, kG4, jG1, jG2, eW, eW', SG, RG, zG1, zG2, lG1, lG2, lG3, lG4⟩ := RW
      subst eW eW'
      replace lG1 := ltOf lG1
      k_lt lG1
      (try dsimp only)
      k_steps
      unfold Hold
      refine' Spec.use (merge_ent ww _ _ ((T.way (treeOf b2 b3 b4 b5 b6) (qU [u0, u1, u2, u3] qa) (qU [u0, u1, u2, u3] qb)).map one) ((T.way (treeOf b2 b3 b4 b5 b6) (qU [u0, u1, u2, u3] qc) (qU [u0, u1, u2, u3] qd)).map one) [one (qU [u0, u1, u2, u3] qa), one (qU [u0, u1, u2, u3] qb)] [one (qU [u0, u1, u2, u3] qc), one (qU [u0, u1, u2, u3] qd)] _ ?eA ?eB) ?k1 ?k2 ?k3 ?k4 ?k5 ?kd ?ku ?_
      walk_at "mine use"
      case eA => exact ⟨xF, dF, aF, rF, kF1, kF2, kF3, kF4, _, _, _, usF, rsF, rfl, (by k_mem), (by k_mem), (by k_mem), (by k_mem), SF, RF, zF1, (by omega)⟩
      case eB => exact ⟨xG, dG, aG, rG, kG1, kG2, kG3, kG4, _, _, _, usG, rsG, rfl, (by k_mem), (by k_mem), (by k_mem), (by k_mem), SG, RG, zG1, (by omega)⟩
      intro rW nW hW tkW FW NW RW
      obtain ⟨xM, dM, aM, rM, usM, rsM, kM1, kM2, kM3, kM4, jM1, jM2, jM3, eW, eW', SM, RM, zM1, zM2, lM1, lM2, lM3, lM4⟩ := RW
      subst eW eW'
      replace lM1 := ltOf lM1
      k_lt lM1
      rw [filter_one] at SM
      (try dsimp only)
      have bF : ((T.way (treeOf b2 b3 b4 b5 b6) (qU [u0, u1, u2, u3] qa) (qU [u0, u1, u2, u3] qb)).map (97 + ·)).length ≤ 1000 := by
        have := strsAre_length SF
        rw [List.length_map] at this ⊢; omega
      have bG : ((T.way (treeOf b2 b3 b4 b5 b6) (qU [u0, u1, u2, u3] qc) (qU [u0, u1, u2, u3] qd)).map (97 + ·)).length ≤ 1000 := by
        have := strsAre_length SG
        rw [List.length_map] at this ⊢; omega
      have bM : ((T.both (T.way (treeOf b2 b3 b4 b5 b6) (qU [u0, u1, u2, u3] qa) (qU [u0, u1, u2, u3] qb)) (T.way (treeOf b2 b3 b4 b5 b6) (qU [u0, u1, u2, u3] qc) (qU [u0, u1, u2, u3] qd))).map (97 + ·)).length ≤ 1000 := by
        have := strsAre_length SM
        rw [List.length_map] at this ⊢; omega
      have zSu : ss.length ≤ 1000 := by
        have := IntsAre.length hP.1
        rw [List.length_map, List.length_range] at this
        have h3 : i < 3 := by
          rcases Nat.lt_or_ge i 3 with k | k
          · exact k
          · rw [List.getElem?_eq_none (by simpa using k)] at hv; cases hv
        omega
      have zSh : hs.length ≤ 1000 := by
        have := IntsAre.length hP.2
        have h2 := IntsAre.length hP.1
        rw [List.length_map, List.length_range] at this h2
        omega
      clear hv
      k_steps
      unfold Hold
      refine neStrs_L (by k_asm) (by k_mem) (by k_mem) SM (by assumption) (signs_tx _).symm (ones_ok (both_le hok hl6 mA mB _)) (by ke_room) ?_
      k_steps
      unfold Hold
      refine ListComp_Tu (_F₀ := by k_asm) (by with_unfolding_all rfl) (by decide) (by rfl) (by decide) (by rfl) ?_
      k_steps
      unfold Hold
      refine SrcTu.intro rfl (by k_asm) (by k_asm) (by k_mem) (by exact Nat.le_of_ble_eq_true rfl) ?_
      intro g9
      refine restU_keep (fun i ys => StrsAre ys (([qa, qb, qc, qd].map fun q => one (qU [u0, u1, u2, u3] q)).take i)) 4 .nil ?_ ?_
      · intro i9 ys9 v9 Ia oIa C9 oC9 D9 m9 h9 tk9 E9 hi9 hI9 hP9 hC9 hx9 F9 N9 off9 ne9
        obtain ⟨q9, t9, rfl, hq9, hq3⟩ := tup4 hP9 la lb lc' ld
        obtain ⟨z9, hz9, m96⟩ := fourAt (s0 := s0) (s1 := s1) (s2 := s2) (s3 := s3) l0 l1' l2 l3 hq3
        k_steps
        exact compEnd_keep (R := fun y => StrsAre (ys9 ++ [y]) _) (by k_asm) (by k_asm) (by walk_at "mine sub") off9 (by k_mem) (four_stepI hI9 hq9 m96)
      · intro ys9 hI9
        k_steps
        unfold Hold
        refine neStrs_L (by k_asm) (by k_mem) (by k_mem) RM hI9 rfl (four_ok mA mB mC mD) (by ke_room) ?_
        clear hI9
        k_steps
        unfold Hold
        refine' Spec.use (steps_spec ww _ _ b2 b3 b4 b5 b6 t0 t1 t2 t3 t4 t5 t6 (qU [u0, u1, u2, u3] qa) (qU [u0, u1, u2, u3] qb) _ _ _ ?h1 g2 g3 g4 g5 g6 mA mB) ?k1 ?k2 ?k3 ?k4 ?k5 ?kd ?ku ?_
        walk_at "mine use"
        case h1 => k_mem
        intro rS nS hS tkS FS NS RS
        obtain ⟨eS, tS1, eS'⟩ := RS
        subst eS eS'
        (try dsimp only)
        k_steps
        unfold Hold
        refine' Spec.use (steps_spec ww _ _ b2 b3 b4 b5 b6 t0 t1 t2 t3 t4 t5 t6 (qU [u0, u1, u2, u3] qc) (qU [u0, u1, u2, u3] qd) _ _ _ ?h1 g2 g3 g4 g5 g6 mC mD) ?k1 ?k2 ?k3 ?k4 ?k5 ?kd ?ku ?_
        walk_at "mine use"
        case h1 => k_mem
        intro rS nS hS tkS FS NS RS
        obtain ⟨eS, tS2, eS'⟩ := RS
        subst eS eS'
        (try dsimp only)
        k_steps
        unfold Hold
        refine neInts_L (by k_asm) (by k_mem) (by k_mem) (.cons _ _ (.cons _ _ .nil)) (.cons _ _ (.cons _ _ .nil)) (by rw [way_dist, way_dist]) (by ke_room) ?_
        k_steps
        unfold Hold
        have hfour := T.four (treeOf b2 b3 b4 b5 b6) hok (qU [u0, u1, u2, u3] qa) (qU [u0, u1, u2, u3] qb) (qU [u0, u1, u2, u3] qc) (qU [u0, u1, u2, u3] qd) (by omega) (by omega) (by omega) (by omega)
        refine notIn_L (hfour.one.map _) ?_
        k_steps
        unfold Hold
        (with_reducible rename Fr _ _ _ _ => F8)
        (with_reducible rename News _ _ _ _ => N8)
        refine slice_strK_nn (hsz := ?hsz) (s := ⟨_, _, _, _, _⟩) F8 N8 (by decide) ?_
        case hsz => (rw [tx_len]; exact Nat.le_trans bG (by decide))
        intro hV tV cV FV NV
        rw [tx_rev]
        have bV : ((T.way (treeOf b2 b3 b4 b5 b6) (qU [u0, u1, u2, u3] qc) (qU [u0, u1, u2, u3] qd)).map (97 + ·) ++ [32]).length + ((T.way (treeOf b2 b3 b4 b5 b6) (qU [u0, u1, u2, u3] qc) (qU [u0, u1, u2, u3] qd)).map (97 + ·)).reverse.length ≤ 10000 := by
          rw [List.length_append, List.length_singleton, List.length_reverse]; omega
        k_steps
        unfold Hold
        refine notIn_L (inf_two hfour.two) ?_
        (with_reducible rename News _ _ _ _ => N8)
        replace N8 := newsKeep N8
        k_steps
        refine turnEnd (by k_asm) (by k_asm) hP hq (by walk_at "mine sub") (by exact hI) (by intro _ _; rfl) (by intro _ _; exact .tail _ (.tail _ mIt)) (by walk_at "mine same") rfl rfl rfl
    · intro u ss kS hs kH h tk' hP F1 N1
      obtain ⟨y0, y1, y2, rfl⟩ := ints3 hP.1
      obtain ⟨hb0, hb1, hb2⟩ := buneman (treeOk g2 g3 g4 g5 g6) rfl l0 l1' l2 l3
      have hH := hP.2
      clear hP
      k_steps
      unfold Hold
      refine LCg.ListComp_U (F₀ := by k_asm) (by with_unfolding_all rfl) (by decide) (by rfl) (by decide) (by rfl) ?_
      k_steps
      unfold Hold
      refine LCg.CompSrc.range rfl (by k_asm) (by k_asm) (by assumption) (by decide) (by rfl) (by decide) ?_
      intro g9
      refine restU_keep (fun i ys => IntsAre ys (([((bothQ (treeOf b2 b3 b4 b5 b6) [u0, u1, u2, u3] (quad 0)).length : Int), ((bothQ (treeOf b2 b3 b4 b5 b6) [u0, u1, u2, u3] (quad 1)).length : Int), ((bothQ (treeOf b2 b3 b4 b5 b6) [u0, u1, u2, u3] (quad 2)).length : Int)] : List Int).take i)) 3 .nil ?_ ?_
      · rintro i9 ys9 pv9 Ia oI9 C9 oC9 D9 m9 h9 tk9 E9 hi9 hI9 ⟨tp9, rfl⟩ hC9 hx9 F9 N9 off9 ne9
        have h3 : i9 = 0 ∨ i9 = 1 ∨ i9 = 2 := by omega
        rcases h3 with rfl | rfl | rfl
        · replace hx9 : m9 (Str.ofString "k") = some (Value.int 0 tp9) := hx9
          k_steps
          exact compEnd_keep (R := fun y => IntsAre (ys9 ++ [y]) _) (by k_asm) (by k_asm) (by walk_at "mine sub") off9 trivial (bun_step hI9 rfl hb0 (by assumption) (by assumption))
        · replace hx9 : m9 (Str.ofString "k") = some (Value.int 1 tp9) := hx9
          k_steps
          exact compEnd_keep (R := fun y => IntsAre (ys9 ++ [y]) _) (by k_asm) (by k_asm) (by walk_at "mine sub") off9 trivial (bun_step hI9 rfl hb1 (by assumption) (by assumption))
        · replace hx9 : m9 (Str.ofString "k") = some (Value.int 2 tp9) := hx9
          k_steps
          exact compEnd_keep (R := fun y => IntsAre (ys9 ++ [y]) _) (by k_asm) (by k_asm) (by walk_at "mine sub") off9 trivial (bun_step hI9 rfl hb2 (by assumption) (by assumption))
      · intro ys9 hI9
        k_steps
        unfold Hold
        refine eqInts_L (by k_asm) (by k_mem) (by k_mem) hH hI9 rfl (by ke_room) ?_
        k_steps)
end Mine
theorem PySem.Challenge.cw_rl0103_01_holds : PySem.Challenge.rw_rl0103_01.Holds :=
  Mine.main_holds


