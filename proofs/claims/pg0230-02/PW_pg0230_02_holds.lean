import PyProof.Rows.All
import Wide.All
import OpenK.AllK
import Wide.FinOn
import PySem.Challenge.RW_pg0230_02
open PySem PySem.W PyProof.Rows
set_option Elab.async false
set_option linter.unusedVariables false
set_option linter.unusedSimpArgs false
set_option maxRecDepth 100000
set_option maxHeartbeats 8000000
set_option rowWalk.seconds 0
namespace Mine
section partBase2
open PySem PySem.W PyProof.Rows PySem.Calls
/-- what a heap keeps, but for the addresses in wr -/
noncomputable def Kp (wr : List Addr) (h h' : Heap) : Prop := ∀ b o, b ∉ wr → h.get? b = some o → h'.get? b = some o
theorem Kp.refl (wr : List Addr) (h : Heap) : Kp wr h h := fun _ _ _ e => e
theorem Kp.trans {wr : List Addr} {h h' h'' : Heap} (x : Kp wr h h') (y : Kp wr h' h'') : Kp wr h h'' := fun b o n e => y b o n (x b o n e)
theorem Kp.mono {wr wr' : List Addr} {h h' : Heap} (x : Kp wr h h') (s : ∀ a ∈ wr, a ∈ wr') : Kp wr' h h' := fun b o n e => x b o (fun q => n (s b q)) e
theorem Kp.fr {wr : List Addr} {h g h' : Heap} {L : Addr} {m : Str → Option Value} (x : Kp wr h g) (F : Fr g L h' m) : Kp wr h h' := fun b o n e => F.keep b o (x b o n e)
/-- the top's objects stand, and the top's names -/
noncomputable def Gd (K : Frag) (h : Heap) : Prop := K.In h ∧ ∃ p loose mean mg mb, Top p loose mean mg mb h
theorem Gd.keeps {K : Frag} {h h' : Heap} (x : Gd K h) (k : ∀ b o, h.get? b = some o → h'.get? b = some o) : Gd K h' :=
  ⟨x.1.keeps k, let ⟨p, l, a, b, c, t⟩ := x.2; ⟨p, l, a, b, c, t.keeps k⟩⟩
theorem stays_hide {b h : Heap} {L : Addr} {m : Str → Option Value} {news : List (Addr × Obj)} (F : Fr b L h m) (N : News b L h news) (wr : List Addr) (hw : ∀ a ∈ wr, ∃ o, (a, o) ∈ news) :
    ∀ c o, b.get? c = some o → (hideAll h wr).get? c = some o := fun c o e => hideAll_get _ (F.keep c o e) fun q => by
  obtain ⟨o', hm⟩ := hw c q
  have := (N _ hm).2.2
  rw [this] at e; cases e
noncomputable abbrev lv (n : Nat) : Around := { handled := none, depth := 500 - 10 * n, frames := none, guards := none, units := 5000 - 100 * n }
theorem codeAny_at {M : Model} {A A' : Around} {c : Code} {R : Result → Shared → Prop} {s : Shared} (hh : A.handled = A'.handled) (hd : A.depth ≤ A'.depth) (hu : A.units ≤ A'.units) (hf : A'.frames = none) (hg : A'.guards = none)
    (h : codeAny M A' c R s) : codeAny M A c R s := fun Γ p hc hΓ =>
  h Γ p hc ⟨hΓ.1.trans hh, Nat.le_trans hΓ.2.1 hd, fun l hl => (nomatch (hf.symm.trans hl)), fun l hl => (nomatch (hg.symm.trans hl)), Nat.le_trans hΓ.2.2.2.2 hu⟩
theorem wpAny_at {α : Type} {M : Model} {A A' : Around} {t : Sem α} {Q : α → Shared → Prop} {E : Value → Shared → Prop} {s : Shared} (hh : A.handled = A'.handled) (hd : A.depth ≤ A'.depth) (hu : A.units ≤ A'.units) (hf : A'.frames = none) (hg : A'.guards = none)
    (h : wpAny M A' t Q E s) : wpAny M A t Q E s := fun Γ p hΓ =>
  h Γ p ⟨hΓ.1.trans hh, Nat.le_trans hΓ.2.1 hd, fun l hl => (nomatch (hf.symm.trans hl)), fun l hl => (nomatch (hg.symm.trans hl)), Nat.le_trans hΓ.2.2.2.2 hu⟩
/-- the frame's names that count, written out over the rest -/
noncomputable def over : List (Str × Value) → (Str → Option Value) → Str → Option Value
  | [], m => m
  | p :: r, m => fun y => if y = p.1 then some p.2 else over r m y
noncomputable def AllAt (m : Str → Option Value) : List (Str × Value) → Prop
  | [] => True
  | p :: r => m p.1 = some p.2 ∧ AllAt m r
theorem over_self {m : Str → Option Value} : ∀ {l : List (Str × Value)}, AllAt m l → over l m = m
  | [], _ => rfl
  | p :: r, h => by
    funext y
    show (if y = p.1 then some p.2 else over r m y) = m y
    rw [over_self h.2]
    by_cases e : y = p.1
    · rw [if_pos e, e]; exact h.1.symm
    · rw [if_neg e]
theorem over_here {x : Str} {v : Value} {r : List (Str × Value)} {m : Str → Option Value} : over ((x, v) :: r) m x = some v := if_pos rfl
theorem over_there {x y : Str} {v : Value} {o : Option Value} {r : List (Str × Value)} {m : Str → Option Value} (ne : x ≠ y) (h : over r m x = o) : over ((y, v) :: r) m x = o := (if_neg ne).trans h
theorem lookup_over : ∀ (l : List (Str × Value)), (fun y => l.lookup y) = over l (fun _ => none)
  | [] => rfl
  | p :: r => by
    funext y
    show List.lookup y (p :: r) = if y = p.1 then some p.2 else over r (fun _ => none) y
    rw [← lookup_over r, List.lookup_cons]
    by_cases e : y = p.1
    · rw [if_pos e, e]; simp
    · rw [if_neg e]
      have : (y == p.1) = false := by simpa using e
      rw [this]
/-- a name stored: its place in the list, or a new one at the end -/
inductive PutL (x : Str) (v : Value) : List (Str × Value) → List (Str × Value) → Prop
  | nil : PutL x v [] [(x, v)]
  | here {u r} : PutL x v ((x, u) :: r) ((x, v) :: r)
  | there {y u r r'} : x ≠ y → PutL x v r r' → PutL x v ((y, u) :: r) ((y, u) :: r')
theorem PutL.eq {x : Str} {v : Value} {m : Str → Option Value} {l l' : List (Str × Value)} (p : PutL x v l l') : (fun y => if y = x then some v else over l m y) = over l' m := by
  induction p with
  | nil => rfl
  | here => 
    funext y
    by_cases e : y = x
    · simp [over, e]
    · simp [over, e]
  | there ne _ ih =>
    rename_i y' u r r' p
    funext y
    have := congrFun ih y
    by_cases e : y = x
    · subst e
      simp only [over, if_true] at this ⊢
      rw [if_neg ne, ← this]
    · simp only [over, if_neg e] at this ⊢
      rw [this]
section
variable {M : Model} {A : Around} {E : Value → Shared → Prop} {s : Shared} {h₀ : Heap} {L a : Addr} {m : Str → Option Value} {cn : Str} {cs : Scope} {ccd : Value} {cl : List (Str × Addr)} {x : Str} {pos : Pos} {v : Value} {news : List (Addr × Obj)} {l l' : List (Str × Value)}
theorem m_ld {Q : Value → Shared → Prop} {h : Heap} {gn : Array GenState} {dr : Drawn} {tk : Nat} {os : OsState} (F : Fr h₀ L h (over l m)) (hx : (envX cn cs L a ccd cl).kindOf x = some .local) (hk : cs.kind = .function) (hd : (x == ("__debug__" : Str)) = false) (e : over l m x = some v) (k : Q v ⟨h, gn, dr, tk, os⟩) :
    wpAny M A (eval (.Name x pos) (envX cn cs L a ccd cl)) Q E ⟨h, gn, dr, tk, os⟩ := nameX_L F e k hk hx hd
theorem m_ldn {Q : Value → Shared → Prop} {h : Heap} {gn : Array GenState} {dr : Drawn} {tk : Nat} {os : OsState} (F : Fr h₀ L h (over l m)) (hx : (envX cn cs L a ccd cl).kindOf x = some .local) (hk : cs.kind = .function) (e : over l m x = some v) (k : Q v ⟨h, gn, dr, tk, os⟩) :
    wpAny M A (loadName (envX cn cs L a ccd cl) x) Q E ⟨h, gn, dr, tk, os⟩ := wpAny_loadName_local hk hx F.ns e k
theorem m_st {Q : Unit → Shared → Prop} {h : Heap} {gn : Array GenState} {dr : Drawn} {tk : Nat} {os : OsState} (F : Fr h₀ L h (over l m)) (N : News h₀ L h news) (hx : (envX cn cs L a ccd cl).kindOf x = some .local) (hk : cs.kind = .function) (p : PutL x v l l')
    (k : ∀ h', Fr h₀ L h' (over l' m) → News h₀ L h' news → Q () ⟨h', gn, dr, tk + 1, os⟩) : wpAny M A (storeName (envX cn cs L a ccd cl) x v) Q E ⟨h, gn, dr, tk, os⟩ :=
  storeX_L (s := ⟨h, gn, dr, tk, os⟩) F N (fun h' F' N' => k h' (by rw [← p.eq]; exact F') N') hk hx
end
section
variable {prog : Program} {w : World} {A : Around} {s : Shared} {K : Frag} {R : Result → Shared → Prop}
  {name qual : Str} {params : Arguments} {body : List Stmt} {scope : Scope} {dV kV doc pm cdv ct oc : Value} {an od : Option Addr} {osl : Array (Option Value)} {f : Addr} {args : Args} {binds rb : List (Str × Value)}
theorem enter_plain (mu : List (Addr × Obj)) (G : Gd K (hideAll s.heap (mu.map (·.1)))) (N : ∀ p ∈ mu, s.heap.get? p.1 = some p.2)
    (ho : K.lookup f = some ⟨oc, od, .func (fnOf name qual params body scope dV kV doc pm an cdv ct), osl⟩) (hcd : codeIn K cdv qual = true) (hroom : A.depth < recursionLimit)
    (hbind : BindsTo s (fnOf name qual params body scope dV kV doc pm an cdv ct) args binds) (hloc : ∀ y ∈ binds, scope.names.lookup y.1 = some .local) (hrb : binds.reverse = rb)
    (h : ∀ g L' h₁ p loose mean mg mb, Kp (mu.map (·.1)) s.heap g → Fr g L' h₁ (over rb fun _ => none) → News g L' h₁ mu → K.In g → Top p loose mean mg mb g → (∀ p ∈ mu, p.1 < L') → s.heap.objs.size ≤ L' →
      wpAny (model prog w) (A.deeper (envX qual scope L' f cdv [])) (execs body (envX qual scope L' f cdv []))
        (fun fl s' => R (.ok (.ret (match fl with | .ret v => v | _ => .none))) s') (fun _ _ => False) { s with heap := h₁, toks := s.toks + binds.length })
    (hcell : ∀ x ∈ scope.names, x.2 ≠ .cell) (hco : scope.isCoroutine = false) (hgen : scope.isGenerator = false) (hk : scope.kind = .function) :
    codeAny (model prog w) A (.call (.ref f) args) R s := by
  obtain ⟨X, p, loose, mean, mg, mb, T⟩ := G
  have un : ∀ b o, (hideAll s.heap (mu.map (·.1))).get? b = some o → s.heap.get? b = some o := fun b o e => of_hideAll _ e
  refine codeAny_call_def (fd := fnOf name qual params body scope dV kV doc pm an cdv ct) (body := body) (binds := binds) hroom (un _ _ (X _ _ ho)) rfl (T.nolimit.keeps un) ((codeRec_of X hcd).keeps un) rfl hbind hcell hloc (fun h₁ hns hk₁ => ?_) hco hgen hk
  refine wpAny_mono (h (hideAll s.heap (mu.map (·.1))) s.heap.objs.size h₁ p loose mean mg mb (fun b o n e => hideAll_get _ e n) ⟨by rw [← hrb, ← lookup_over]; exact hns, fun b o e => hk₁ b o (un b o e), Nat.le_of_eq (hideAll_size _ _)⟩
    (fun p hp => ⟨hk₁ _ _ (N p hp), Nat.ne_of_lt (Heap.lt_size (N p hp)), hideAll_none _ (List.mem_map_of_mem hp)⟩) X T (fun p hp => Heap.lt_size (N p hp)) (Nat.le_refl _)) (fun _ _ y => y) fun _ _ y => y.elim
end
theorem after {b : Heap} {s : Shared} {L : Addr} {m : Str → Option Value} {news : List (Addr × Obj)} {h' : Heap} {wr : List Addr} (news' : List (Addr × Obj)) (F : Fr b L s.heap m) (N : News b L s.heap news) (k : Kp wr s.heap h') (hw : ∀ a ∈ wr, ∃ o, (a, o) ∈ news)
    (hn : ∀ p ∈ news', (p ∈ news ∧ p.1 ∉ wr) ∨ (h'.get? p.1 = some p.2 ∧ ((∃ o, (p.1, o) ∈ news) ∨ s.heap.get? p.1 = none))) : Fr b L h' m ∧ News b L h' news' := by
  obtain ⟨⟨oL, es, ep, hL, r⟩, ke, ab⟩ := F
  have nL : L ∉ wr := fun q => by obtain ⟨o, hm⟩ := hw L q; exact (N _ hm).2.1 rfl
  refine ⟨⟨⟨oL, es, ep, k _ _ nL hL, r⟩, fun c o e => k _ _ (fun q => ?_) (ke c o e), ab⟩, fun p hp => ?_⟩
  · obtain ⟨o', hm⟩ := hw c q
    have := (N _ hm).2.2
    rw [this] at e; cases e
  · rcases hn p hp with ⟨h1, h2⟩ | ⟨h1, ⟨o, h2⟩ | h2⟩
    · exact ⟨k _ _ h2 (N p h1).1, (N p h1).2⟩
    · exact ⟨h1, (N _ h2).2⟩
    · refine ⟨h1, (fun e => by rw [e, hL] at h2; cases h2), ?_⟩
      cases q : b.get? p.1 with
      | none => rfl
      | some o => rw [ke _ _ q] at h2; cases h2

noncomputable def InAll (l : List (Addr × Obj)) : List (Addr × Obj) → Prop
  | [] => True
  | p :: r => p ∈ l ∧ InAll l r
theorem InAll.mem {l : List (Addr × Obj)} : ∀ {l' : List (Addr × Obj)}, InAll l l' → ∀ p, p ∈ l' → p ∈ l
  | [], _, _, hm => nomatch hm
  | q :: r, h, p, hm => by
    rcases List.mem_cons.mp hm with e | hm
    · rw [e]; exact h.1
    · exact InAll.mem h.2 p hm
theorem inAll_of {l : List (Addr × Obj)} : ∀ {l' : List (Addr × Obj)}, (∀ p ∈ l', p ∈ l) → InAll l l'
  | [], _ => trivial
  | p :: r, h => ⟨h p (.head _), inAll_of fun q hq => h q (.tail _ hq)⟩
theorem InAll.self {l : List (Addr × Obj)} : InAll l l := inAll_of fun _ h => h
theorem InAll.skip {p : Addr × Obj} {l l' : List (Addr × Obj)} (h : InAll l l') : InAll (p :: l) l' := inAll_of fun q hq => .tail _ (h.mem q hq)
theorem InAll.keep {p : Addr × Obj} {l l' : List (Addr × Obj)} (h : InAll l l') : InAll (p :: l) (p :: l') := ⟨.head _, h.skip⟩
theorem AllAt.skip {p : Str × Value} {r : List (Str × Value)} {m : Str → Option Value} : ∀ {l' : List (Str × Value)} (ks : List Str) (hk : l'.map (·.1) = ks) (hd : (ks.all fun k => k != p.1) = true), AllAt (over r m) l' → AllAt (over (p :: r) m) l'
  | [], _, _, _, _ => trivial
  | q :: l', ks, hk, hd, h => by
    subst hk
    rw [List.map_cons, List.all_cons, Bool.and_eq_true, bne_iff_ne] at hd
    exact ⟨over_there hd.1 h.1, AllAt.skip _ rfl hd.2 h.2⟩
theorem AllAt.keep {x : Str} {v : Value} {r l' : List (Str × Value)} {m : Str → Option Value} (ks : List Str) (hk : l'.map (·.1) = ks) (hd : (ks.all fun k => k != x) = true) (h : AllAt (over r m) l') : AllAt (over ((x, v) :: r) m) ((x, v) :: l') :=
  ⟨over_here, AllAt.skip (p := (x, v)) ks hk hd h⟩
noncomputable def At (g : Heap) (L : Addr) (l : List (Str × Value)) (news : List (Addr × Obj)) (s s' : Shared) : Prop :=
  ∃ h tk m, s' = { s with heap := h, toks := tk } ∧ Fr g L h (over l m) ∧ News g L h news
theorem At.intro {g h : Heap} {L : Addr} {m : Str → Option Value} {l : List (Str × Value)} {news news₀ : List (Addr × Obj)} {s : Shared} {tk : Nat} (F : Fr g L h m) (N : News g L h news₀) (hm : AllAt m l) (hn : InAll news₀ news) :
    At g L l news s { s with heap := h, toks := tk } := ⟨h, tk, m, rfl, by rw [over_self hm]; exact F, fun p hp => N p (hn.mem p hp)⟩
noncomputable abbrev noE : Value → Shared → Prop := fun _ _ => False
theorem wpAny_noE {α : Type} {M : Model} {A : Around} {t : Sem α} {Q : α → Shared → Prop} {E : Value → Shared → Prop} {s : Shared} (h : wpAny M A t Q noE s) : wpAny M A t Q E s := wpAny_mono h (fun _ _ x => x) fun _ _ x => x.elim
/-- a block came to its end, and Mid holds -/
noncomputable def Next (Mid : Shared → Prop) (fl : Flow) (s' : Shared) : Prop := fl = .next ∧ Mid s'
theorem cut {M : Model} {A : Around} {st : Stmt} {rest : List Stmt} {env : Env} {Q : Flow → Shared → Prop} {E : Value → Shared → Prop} {s : Shared} (Mid : Shared → Prop)
    (h1 : wpAny M A (exec st env) (Next Mid) E s) (h2 : ∀ s', Mid s' → wpAny M A (execs rest env) Q E s') : wpAny M A (execs (st :: rest) env) Q E s :=
  wpAny_execs_cons (wpAny_mono h1 (fun fl s' h => by obtain ⟨rfl, h⟩ := h; exact h2 s' h) fun _ _ x => x)
theorem execs_app {M : Model} {Γ : Ctx} {env : Env} {E : Value → Pos → Shared → Prop} {rest : List Stmt} {Q : Flow → Pos → Shared → Prop} : ∀ (pre : List Stmt) (p : Pos) (s : Shared),
    Sem.wp M Γ (execs pre env) (fun fl p' s' => match fl with | .next => Sem.wp M Γ (execs rest env) Q E p' s' | fl => Q fl p' s') E p s → Sem.wp M Γ (execs (pre ++ rest) env) Q E p s
  | [], p, s, h => by rw [execs_nil, Sem.wp_pure'] at h; exact h
  | st :: pre, p, s, h => by
    rw [List.cons_append, execs_cons, Sem.wp_bind']
    rw [execs_cons, Sem.wp_bind'] at h
    refine Sem.wp_mono M Γ _ (fun f p' s' h3 => ?_) (fun _ _ _ h' => h') _ _ h
    cases f with
    | next => exact execs_app pre p' s' h3
    | ret v => exact h3
    | brk => exact h3
    | cont => exact h3
theorem cutN {M : Model} {A : Around} {body : List Stmt} {env : Env} {Q : Flow → Shared → Prop} {E : Value → Shared → Prop} {s : Shared} (n : Nat) (Mid : Shared → Prop)
    (h1 : wpAny M A (execs (body.take n) env) (Next Mid) E s) (h2 : ∀ s', Mid s' → wpAny M A (execs (body.drop n) env) Q E s') : wpAny M A (execs body env) Q E s := by
  rw [← List.take_append_drop n body]
  refine fun Γ p hΓ => execs_app _ p s (Sem.wp_mono M Γ _ (fun fl p' s' h => ?_) (fun _ _ _ x => x) _ _ (h1 Γ p hΓ))
  obtain ⟨rfl, h⟩ := h
  exact h2 s' h Γ p' hΓ
/-- what is left behind a statement -/
noncomputable def Cont (M : Model) (A : Around) (rest : List Stmt) (env : Env) (Q : Flow → Shared → Prop) (E : Value → Shared → Prop) (fl : Flow) (s' : Shared) : Prop :=
  match fl with
  | .next => wpAny M A (execs rest env) Q E s'
  | f => Q f s'
section
variable {M : Model} {A : Around} {rest : List Stmt} {env : Env} {Q : Flow → Shared → Prop} {E : Value → Shared → Prop} {s : Shared} {st : Stmt}
theorem execs_C (h : wpAny M A (exec st env) (Cont M A rest env Q E) E s) : wpAny M A (execs (st :: rest) env) Q E s := wpAny_execs_cons h
theorem cont_next (h : wpAny M A (execs rest env) Q E s) : Cont M A rest env Q E .next s := h
theorem cont_ret {v : Value} (h : Q (.ret v) s) : Cont M A rest env Q E (.ret v) s := h
theorem cont_brk (h : Q .brk s) : Cont M A rest env Q E .brk s := h
theorem cont_cont (h : Q .cont s) : Cont M A rest env Q E .cont s := h
end
/-- the walk rests here -/
noncomputable def Stop (p : Prop) : Prop := p
theorem stop_at {p : Prop} (h : Stop p) : p := h

end partBase2
section partHd2
open PySem PySem.W PyProof.Rows
/-- the i-th statement of the program's text -/
noncomputable def cellAt (i : Nat) : Stmt := match PySem.Challenge.pw_pg0230_02.main.body[i]? with
  | some s => s
  | none => .Pass ⟨0, 0, 0, 0⟩
/-- the j-th statement of the i-th, a class -/
noncomputable def memAt (i j : Nat) : Stmt := match cellAt i with
  | .ClassDef (body := b) .. => match b[j]? with
    | some s => s
    | none => .Pass ⟨0, 0, 0, 0⟩
  | s => s
/-- a function's object -/
noncomputable def fo (st : Stmt) (q : Str) (mod : Value) (code : Nat) : Obj := match st with
  | .FunctionDef (name := n) (args := ps) (body := b) (scope := sc) .. => { cls := .type "function", data := .func { name := n, qualname := q, params := ps, body := .stmts b, scope := sc, globals := 3, closure := [], defaults := .none, kwdefaults := .none, pyModule := mod, code := .ref code } }
  | _ => { cls := .none, data := .fields #[] }
noncomputable def K0 : PySem.Params → PySem.W.Frag := fun P =>
  (nat_lit 2, { cls := Value.none, data := Data.dict #[] }) ::
  (nat_lit 3, { cls := Value.type "dict", data := Data.dict #[{ hash := PyData.keyHash P (Str.ofString "__name__"), key := Value.str (Str.ofString "__name__") 165, val := Value.str (Str.ofString "law_pg0230_02") 386 }, { hash := PyData.keyHash P (Str.ofString "__doc__"), key := Value.str (Str.ofString "__doc__") 166, val := Value.none }, { hash := PyData.keyHash P (Str.ofString "__package__"), key := Value.str (Str.ofString "__package__") 167, val := Value.none }, { hash := PyData.keyHash P (Str.ofString "__loader__"), key := Value.str (Str.ofString "__loader__") 168, val := Value.builtin "__main__.__loader__#opaque" }, { hash := PyData.keyHash P (Str.ofString "__spec__"), key := Value.str (Str.ofString "__spec__") 169, val := Value.none }, { hash := PyData.keyHash P (Str.ofString "__annotations__"), key := Value.str (Str.ofString "__annotations__") 170, val := Value.ref 6 }, { hash := PyData.keyHash P (Str.ofString "__builtins__"), key := Value.str (Str.ofString "__builtins__") 171, val := Value.ref 4 }, { hash := PyData.keyHash P (Str.ofString "__file__"), key := Value.str (Str.ofString "__file__") 173, val := Value.str (Str.ofString "/claim/cut.py") 172 }, { hash := PyData.keyHash P (Str.ofString "__cached__"), key := Value.str (Str.ofString "__cached__") 174, val := Value.none }, { hash := PyData.keyHash P (Str.ofString "_wall"), key := Value.str (Str.ofString "_wall") 193, val := Value.ref 21 }, { hash := PyData.keyHash P (Str.ofString "rgb_to_hsv"), key := Value.str (Str.ofString "rgb_to_hsv") 213, val := Value.ref 28 }, { hash := PyData.keyHash P (Str.ofString "hsv_to_rgb"), key := Value.str (Str.ofString "hsv_to_rgb") 227, val := Value.ref 35 }, { hash := PyData.keyHash P (Str.ofString "_netrclex"), key := Value.str (Str.ofString "_netrclex") 287, val := Value.ref 73 }, { hash := PyData.keyHash P (Str.ofString "Whitespace"), key := Value.str (Str.ofString "Whitespace") 385, val := Value.ref 139 }, { hash := PyData.keyHash P (Str.ofString "_law_file"), key := Value.str (Str.ofString "_law_file") 397, val := Value.ref 150 }, { hash := PyData.keyHash P (Str.ofString "_law_channels"), key := Value.str (Str.ofString "_law_channels") 411, val := Value.ref 157 }, { hash := PyData.keyHash P (Str.ofString "_law_letters"), key := Value.str (Str.ofString "_law_letters") 417, val := Value.ref 162 }, { hash := PyData.keyHash P (Str.ofString "_law_depth"), key := Value.str (Str.ofString "_law_depth") 427, val := Value.ref 169 }, { hash := PyData.keyHash P (Str.ofString "_law_walk"), key := Value.str (Str.ofString "_law_walk") 439, val := Value.ref 176 }, { hash := PyData.keyHash P (Str.ofString "_law_turned"), key := Value.str (Str.ofString "_law_turned") 445, val := Value.ref 181 }, { hash := PyData.keyHash P (Str.ofString "law"), key := Value.str (Str.ofString "law") 451, val := Value.ref 186 }] 21 }) ::
  (nat_lit 15, { cls := Value.type "tuple", data := Data.seq #[] }) ::
  (nat_lit 17, { cls := Value.type "tuple", data := Data.seq #[Value.str (Str.ofString "k") 190] }) ::
  (nat_lit 18, { cls := Value.type "tuple", data := Data.seq #[] }) ::
  (nat_lit 20, { cls := Value.type "code", data := Data.fields #[Value.str (Str.ofString "_wall") 187, Value.str (Str.ofString "_wall") 188, Value.str (Str.ofString "/claim/cut.py") 189, Value.int 1 0, Value.int 1 0, Value.int 0 0, Value.int 0 0, Value.int 3 0, Value.ref 15, Value.bool Bool.true, Value.int 181 0, Value.ref 16, Value.none, Value.ref 17, Value.ref 18, Value.ref 19, Value.int 191 0, Value.int 1 0, Value.str (Str.ofString "/claim/cut.py") 192] }) ::
  (nat_lit 21, fo (cellAt 0) (Str.ofString "_wall") (Value.str (Str.ofString "__main__") 164) 20) ::
  (nat_lit 22, { cls := Value.type "tuple", data := Data.seq #[] }) ::
  (nat_lit 24, { cls := Value.type "tuple", data := Data.seq #[Value.str (Str.ofString "r") 199, Value.str (Str.ofString "g") 200, Value.str (Str.ofString "b") 201, Value.str (Str.ofString "maxc") 202, Value.str (Str.ofString "minc") 203, Value.str (Str.ofString "rangec") 204, Value.str (Str.ofString "v") 205, Value.str (Str.ofString "s") 206, Value.str (Str.ofString "rc") 207, Value.str (Str.ofString "gc") 208, Value.str (Str.ofString "bc") 209, Value.str (Str.ofString "h") 210] }) ::
  (nat_lit 25, { cls := Value.type "tuple", data := Data.seq #[] }) ::
  (nat_lit 27, { cls := Value.type "code", data := Data.fields #[Value.str (Str.ofString "rgb_to_hsv") 196, Value.str (Str.ofString "rgb_to_hsv") 197, Value.str (Str.ofString "/claim/cut.py") 198, Value.int 5 0, Value.int 3 0, Value.int 0 0, Value.int 0 0, Value.int 3 0, Value.ref 22, Value.bool Bool.true, Value.int 181 0, Value.ref 23, Value.none, Value.ref 24, Value.ref 25, Value.ref 26, Value.int 211 0, Value.int 5 0, Value.str (Str.ofString "/claim/cut.py") 212] }) ::
  (nat_lit 28, fo (cellAt 2) (Str.ofString "rgb_to_hsv") (Value.str (Str.ofString "cpy313.colorsys") 194) 27) ::
  (nat_lit 29, { cls := Value.type "tuple", data := Data.seq #[] }) ::
  (nat_lit 31, { cls := Value.type "tuple", data := Data.seq #[Value.str (Str.ofString "h") 217, Value.str (Str.ofString "s") 218, Value.str (Str.ofString "v") 219, Value.str (Str.ofString "i") 220, Value.str (Str.ofString "f") 221, Value.str (Str.ofString "p") 222, Value.str (Str.ofString "q") 223, Value.str (Str.ofString "t") 224] }) ::
  (nat_lit 32, { cls := Value.type "tuple", data := Data.seq #[] }) ::
  (nat_lit 34, { cls := Value.type "code", data := Data.fields #[Value.str (Str.ofString "hsv_to_rgb") 214, Value.str (Str.ofString "hsv_to_rgb") 215, Value.str (Str.ofString "/claim/cut.py") 216, Value.int 24 0, Value.int 3 0, Value.int 0 0, Value.int 0 0, Value.int 3 0, Value.ref 29, Value.bool Bool.true, Value.int 181 0, Value.ref 30, Value.none, Value.ref 31, Value.ref 32, Value.ref 33, Value.int 225 0, Value.int 24 0, Value.str (Str.ofString "/claim/cut.py") 226] }) ::
  (nat_lit 35, fo (cellAt 3) (Str.ofString "hsv_to_rgb") (Value.str (Str.ofString "cpy313.colorsys") 194) 34) ::
  (nat_lit 43, { cls := Value.type "tuple", data := Data.seq #[] }) ::
  (nat_lit 45, { cls := Value.type "tuple", data := Data.seq #[Value.str (Str.ofString "self") 245, Value.str (Str.ofString "fp") 246] }) ::
  (nat_lit 46, { cls := Value.type "tuple", data := Data.seq #[] }) ::
  (nat_lit 48, { cls := Value.type "code", data := Data.fields #[Value.str (Str.ofString "__init__") 242, Value.str (Str.ofString "_netrclex.__init__") 243, Value.str (Str.ofString "/claim/cut.py") 244, Value.int 48 0, Value.int 2 0, Value.int 0 0, Value.int 0 0, Value.int 3 0, Value.ref 43, Value.bool Bool.true, Value.int 181 0, Value.ref 44, Value.none, Value.ref 45, Value.ref 46, Value.ref 47, Value.int 247 0, Value.int 48 0, Value.str (Str.ofString "/claim/cut.py") 248] }) ::
  (nat_lit 49, fo (memAt 5 0) (Str.ofString "_netrclex.__init__") (Value.str (Str.ofString "cpy313.netrc") 228) 48) ::
  (nat_lit 50, { cls := Value.type "tuple", data := Data.seq #[] }) ::
  (nat_lit 52, { cls := Value.type "tuple", data := Data.seq #[Value.str (Str.ofString "self") 253, Value.str (Str.ofString "ch") 254] }) ::
  (nat_lit 53, { cls := Value.type "tuple", data := Data.seq #[] }) ::
  (nat_lit 55, { cls := Value.type "code", data := Data.fields #[Value.str (Str.ofString "_read_char") 250, Value.str (Str.ofString "_netrclex._read_char") 251, Value.str (Str.ofString "/claim/cut.py") 252, Value.int 54 0, Value.int 1 0, Value.int 0 0, Value.int 0 0, Value.int 3 0, Value.ref 50, Value.bool Bool.true, Value.int 181 0, Value.ref 51, Value.none, Value.ref 52, Value.ref 53, Value.ref 54, Value.int 255 0, Value.int 54 0, Value.str (Str.ofString "/claim/cut.py") 256] }) ::
  (nat_lit 56, fo (memAt 5 1) (Str.ofString "_netrclex._read_char") (Value.str (Str.ofString "cpy313.netrc") 228) 55) ::
  (nat_lit 57, { cls := Value.type "tuple", data := Data.seq #[] }) ::
  (nat_lit 59, { cls := Value.type "tuple", data := Data.seq #[Value.str (Str.ofString "self") 261, Value.str (Str.ofString "token") 262, Value.str (Str.ofString "fiter") 263, Value.str (Str.ofString "ch") 264] }) ::
  (nat_lit 60, { cls := Value.type "tuple", data := Data.seq #[] }) ::
  (nat_lit 62, { cls := Value.type "code", data := Data.fields #[Value.str (Str.ofString "get_token") 258, Value.str (Str.ofString "_netrclex.get_token") 259, Value.str (Str.ofString "/claim/cut.py") 260, Value.int 60 0, Value.int 1 0, Value.int 0 0, Value.int 0 0, Value.int 3 0, Value.ref 57, Value.bool Bool.true, Value.int 181 0, Value.ref 58, Value.none, Value.ref 59, Value.ref 60, Value.ref 61, Value.int 265 0, Value.int 60 0, Value.str (Str.ofString "/claim/cut.py") 266] }) ::
  (nat_lit 63, fo (memAt 5 2) (Str.ofString "_netrclex.get_token") (Value.str (Str.ofString "cpy313.netrc") 228) 62) ::
  (nat_lit 64, { cls := Value.type "tuple", data := Data.seq #[] }) ::
  (nat_lit 66, { cls := Value.type "tuple", data := Data.seq #[Value.str (Str.ofString "self") 271, Value.str (Str.ofString "token") 272] }) ::
  (nat_lit 67, { cls := Value.type "tuple", data := Data.seq #[] }) ::
  (nat_lit 69, { cls := Value.type "code", data := Data.fields #[Value.str (Str.ofString "push_token") 268, Value.str (Str.ofString "_netrclex.push_token") 269, Value.str (Str.ofString "/claim/cut.py") 270, Value.int 87 0, Value.int 2 0, Value.int 0 0, Value.int 0 0, Value.int 3 0, Value.ref 64, Value.bool Bool.true, Value.int 181 0, Value.ref 65, Value.none, Value.ref 66, Value.ref 67, Value.ref 68, Value.int 273 0, Value.int 87 0, Value.str (Str.ofString "/claim/cut.py") 274] }) ::
  (nat_lit 70, fo (memAt 5 3) (Str.ofString "_netrclex.push_token") (Value.str (Str.ofString "cpy313.netrc") 228) 69) ::
  (nat_lit 71, { cls := Value.type "tuple", data := Data.seq #[Value.str (Str.ofString "instream") 276, Value.str (Str.ofString "lineno") 277, Value.str (Str.ofString "pushback") 278, Value.str (Str.ofString "whitespace") 279] }) ::
  (nat_lit 72, { cls := Value.type "dict", data := Data.dict #[{ hash := PyData.keyHash P (Str.ofString "__module__"), key := Value.str (Str.ofString "__module__") 237, val := Value.str (Str.ofString "cpy313.netrc") 228 }, { hash := PyData.keyHash P (Str.ofString "__firstlineno__"), key := Value.str (Str.ofString "__firstlineno__") 241, val := Value.int 46 240 }, { hash := PyData.keyHash P (Str.ofString "__init__"), key := Value.str (Str.ofString "__init__") 249, val := Value.ref 49 }, { hash := PyData.keyHash P (Str.ofString "_read_char"), key := Value.str (Str.ofString "_read_char") 257, val := Value.ref 56 }, { hash := PyData.keyHash P (Str.ofString "get_token"), key := Value.str (Str.ofString "get_token") 267, val := Value.ref 63 }, { hash := PyData.keyHash P (Str.ofString "push_token"), key := Value.str (Str.ofString "push_token") 275, val := Value.ref 70 }, { hash := PyData.keyHash P (Str.ofString "__static_attributes__"), key := Value.str (Str.ofString "__static_attributes__") 280, val := Value.ref 71 }, { hash := PyData.keyHash P (Str.ofString "__dict__"), key := Value.str (Str.ofString "__dict__") 282, val := Value.ref 74 }, { hash := PyData.keyHash P (Str.ofString "__weakref__"), key := Value.str (Str.ofString "__weakref__") 284, val := Value.ref 75 }, { hash := PyData.keyHash P (Str.ofString "__doc__"), key := Value.str (Str.ofString "__doc__") 285, val := Value.none }] 4 }) ::
  (nat_lit 73, { cls := Value.type "type", data := Data.cls { name := Str.ofString "_netrclex", bases := [Value.type "object"], mro := [Value.ref 73, Value.type "object"], ns := 72, qualname := Str.ofString "_netrclex" }, slots := #[none, none, Option.some (Value.str (Str.ofString "_netrclex") 230), Option.some (Value.str (Str.ofString "_netrclex") 238), Option.some (Value.builtin "object.__new__"), Option.some (Value.bool Bool.true)] }) ::
  (nat_lit 74, { cls := Value.type "getset_descriptor", data := Data.fields #[Value.str (Str.ofString "__dict__") 281, Value.ref 73, Value.builtin "function.__dict__", Value.builtin "function.__dict__#set"] }) ::
  (nat_lit 75, { cls := Value.type "getset_descriptor", data := Data.fields #[Value.str (Str.ofString "__weakref__") 283, Value.ref 73, Value.builtin "ExceptionGroup.__weakref__", Value.none] }) ::
  (nat_lit 88, { cls := Value.type "tuple", data := Data.seq #[] }) ::
  (nat_lit 90, { cls := Value.type "tuple", data := Data.seq #[Value.str (Str.ofString "self") 310, Value.str (Str.ofString "ws") 311, Value.str (Str.ofString "S") 312, Value.str (Str.ofString "T") 313, Value.str (Str.ofString "count") 314, Value.str (Str.ofString "b") 315, Value.str (Str.ofString "n") 316, Value.str (Str.ofString "nt") 317, Value.str (Str.ofString "ch") 318] }) ::
  (nat_lit 91, { cls := Value.type "tuple", data := Data.seq #[] }) ::
  (nat_lit 93, { cls := Value.type "code", data := Data.fields #[Value.str (Str.ofString "__init__") 307, Value.str (Str.ofString "Whitespace.__init__") 308, Value.str (Str.ofString "/claim/cut.py") 309, Value.int 93 0, Value.int 2 0, Value.int 0 0, Value.int 0 0, Value.int 3 0, Value.ref 88, Value.bool Bool.true, Value.int 181 0, Value.ref 89, Value.none, Value.ref 90, Value.ref 91, Value.ref 92, Value.int 319 0, Value.int 93 0, Value.str (Str.ofString "/claim/cut.py") 320] }) ::
  (nat_lit 94, fo (memAt 7 1) (Str.ofString "Whitespace.__init__") (Value.str (Str.ofString "cpy313.tabnanny") 288) 93) ::
  (nat_lit 95, { cls := Value.type "tuple", data := Data.seq #[] }) ::
  (nat_lit 97, { cls := Value.type "tuple", data := Data.seq #[Value.str (Str.ofString "self") 325] }) ::
  (nat_lit 98, { cls := Value.type "tuple", data := Data.seq #[] }) ::
  (nat_lit 100, { cls := Value.type "code", data := Data.fields #[Value.str (Str.ofString "longest_run_of_spaces") 322, Value.str (Str.ofString "Whitespace.longest_run_of_spaces") 323, Value.str (Str.ofString "/claim/cut.py") 324, Value.int 116 0, Value.int 1 0, Value.int 0 0, Value.int 0 0, Value.int 3 0, Value.ref 95, Value.bool Bool.true, Value.int 181 0, Value.ref 96, Value.none, Value.ref 97, Value.ref 98, Value.ref 99, Value.int 326 0, Value.int 116 0, Value.str (Str.ofString "/claim/cut.py") 327] }) ::
  (nat_lit 101, fo (memAt 7 2) (Str.ofString "Whitespace.longest_run_of_spaces") (Value.str (Str.ofString "cpy313.tabnanny") 288) 100) ::
  (nat_lit 102, { cls := Value.type "tuple", data := Data.seq #[] }) ::
  (nat_lit 104, { cls := Value.type "tuple", data := Data.seq #[Value.str (Str.ofString "self") 332, Value.str (Str.ofString "tabsize") 333, Value.str (Str.ofString "count") 334, Value.str (Str.ofString "trailing") 335, Value.str (Str.ofString "il") 336, Value.str (Str.ofString "i") 337] }) ::
  (nat_lit 105, { cls := Value.type "tuple", data := Data.seq #[] }) ::
  (nat_lit 107, { cls := Value.type "code", data := Data.fields #[Value.str (Str.ofString "indent_level") 329, Value.str (Str.ofString "Whitespace.indent_level") 330, Value.str (Str.ofString "/claim/cut.py") 331, Value.int 119 0, Value.int 2 0, Value.int 0 0, Value.int 0 0, Value.int 3 0, Value.ref 102, Value.bool Bool.true, Value.int 181 0, Value.ref 103, Value.none, Value.ref 104, Value.ref 105, Value.ref 106, Value.int 338 0, Value.int 119 0, Value.str (Str.ofString "/claim/cut.py") 339] }) ::
  (nat_lit 108, fo (memAt 7 3) (Str.ofString "Whitespace.indent_level") (Value.str (Str.ofString "cpy313.tabnanny") 288) 107) ::
  (nat_lit 109, { cls := Value.type "tuple", data := Data.seq #[] }) ::
  (nat_lit 111, { cls := Value.type "tuple", data := Data.seq #[Value.str (Str.ofString "self") 344, Value.str (Str.ofString "other") 345] }) ::
  (nat_lit 112, { cls := Value.type "tuple", data := Data.seq #[] }) ::
  (nat_lit 114, { cls := Value.type "code", data := Data.fields #[Value.str (Str.ofString "equal") 341, Value.str (Str.ofString "Whitespace.equal") 342, Value.str (Str.ofString "/claim/cut.py") 343, Value.int 126 0, Value.int 2 0, Value.int 0 0, Value.int 0 0, Value.int 3 0, Value.ref 109, Value.bool Bool.true, Value.int 181 0, Value.ref 110, Value.none, Value.ref 111, Value.ref 112, Value.ref 113, Value.int 346 0, Value.int 126 0, Value.str (Str.ofString "/claim/cut.py") 347] }) ::
  (nat_lit 115, fo (memAt 7 4) (Str.ofString "Whitespace.equal") (Value.str (Str.ofString "cpy313.tabnanny") 288) 114) ::
  (nat_lit 116, { cls := Value.type "tuple", data := Data.seq #[] }) ::
  (nat_lit 118, { cls := Value.type "tuple", data := Data.seq #[Value.str (Str.ofString "self") 352, Value.str (Str.ofString "other") 353] }) ::
  (nat_lit 119, { cls := Value.type "tuple", data := Data.seq #[] }) ::
  (nat_lit 121, { cls := Value.type "code", data := Data.fields #[Value.str (Str.ofString "not_equal_witness") 349, Value.str (Str.ofString "Whitespace.not_equal_witness") 350, Value.str (Str.ofString "/claim/cut.py") 351, Value.int 129 0, Value.int 2 0, Value.int 0 0, Value.int 0 0, Value.int 3 0, Value.ref 116, Value.bool Bool.true, Value.int 181 0, Value.ref 117, Value.none, Value.ref 118, Value.ref 119, Value.ref 120, Value.int 354 0, Value.int 129 0, Value.str (Str.ofString "/claim/cut.py") 355] }) ::
  (nat_lit 122, fo (memAt 7 5) (Str.ofString "Whitespace.not_equal_witness") (Value.str (Str.ofString "cpy313.tabnanny") 288) 121) ::
  (nat_lit 123, { cls := Value.type "tuple", data := Data.seq #[] }) ::
  (nat_lit 125, { cls := Value.type "tuple", data := Data.seq #[Value.str (Str.ofString "self") 360, Value.str (Str.ofString "other") 361] }) ::
  (nat_lit 126, { cls := Value.type "tuple", data := Data.seq #[] }) ::
  (nat_lit 128, { cls := Value.type "code", data := Data.fields #[Value.str (Str.ofString "less") 357, Value.str (Str.ofString "Whitespace.less") 358, Value.str (Str.ofString "/claim/cut.py") 359, Value.int 132 0, Value.int 2 0, Value.int 0 0, Value.int 0 0, Value.int 3 0, Value.ref 123, Value.bool Bool.true, Value.int 181 0, Value.ref 124, Value.none, Value.ref 125, Value.ref 126, Value.ref 127, Value.int 362 0, Value.int 132 0, Value.str (Str.ofString "/claim/cut.py") 363] }) ::
  (nat_lit 129, fo (memAt 7 6) (Str.ofString "Whitespace.less") (Value.str (Str.ofString "cpy313.tabnanny") 288) 128) ::
  (nat_lit 130, { cls := Value.type "tuple", data := Data.seq #[] }) ::
  (nat_lit 132, { cls := Value.type "tuple", data := Data.seq #[Value.str (Str.ofString "self") 368, Value.str (Str.ofString "other") 369] }) ::
  (nat_lit 133, { cls := Value.type "tuple", data := Data.seq #[] }) ::
  (nat_lit 135, { cls := Value.type "code", data := Data.fields #[Value.str (Str.ofString "not_less_witness") 365, Value.str (Str.ofString "Whitespace.not_less_witness") 366, Value.str (Str.ofString "/claim/cut.py") 367, Value.int 135 0, Value.int 2 0, Value.int 0 0, Value.int 0 0, Value.int 3 0, Value.ref 130, Value.bool Bool.true, Value.int 181 0, Value.ref 131, Value.none, Value.ref 132, Value.ref 133, Value.ref 134, Value.int 370 0, Value.int 135 0, Value.str (Str.ofString "/claim/cut.py") 371] }) ::
  (nat_lit 136, fo (memAt 7 7) (Str.ofString "Whitespace.not_less_witness") (Value.str (Str.ofString "cpy313.tabnanny") 288) 135) ::
  (nat_lit 137, { cls := Value.type "tuple", data := Data.seq #[Value.str (Str.ofString "is_simple") 373, Value.str (Str.ofString "n") 374, Value.str (Str.ofString "norm") 375, Value.str (Str.ofString "nt") 376, Value.str (Str.ofString "raw") 377] }) ::
  (nat_lit 138, { cls := Value.type "dict", data := Data.dict #[{ hash := PyData.keyHash P (Str.ofString "__module__"), key := Value.str (Str.ofString "__module__") 297, val := Value.str (Str.ofString "cpy313.tabnanny") 288 }, { hash := PyData.keyHash P (Str.ofString "__firstlineno__"), key := Value.str (Str.ofString "__firstlineno__") 301, val := Value.int 90 300 }, { hash := PyData.keyHash P (Str.ofString "S"), key := Value.str (Str.ofString "S") 305, val := Value.str (Str.ofString " ") 303 }, { hash := PyData.keyHash P (Str.ofString "T"), key := Value.str (Str.ofString "T") 306, val := Value.str (Str.ofString "\t") 304 }, { hash := PyData.keyHash P (Str.ofString "__init__"), key := Value.str (Str.ofString "__init__") 321, val := Value.ref 94 }, { hash := PyData.keyHash P (Str.ofString "longest_run_of_spaces"), key := Value.str (Str.ofString "longest_run_of_spaces") 328, val := Value.ref 101 }, { hash := PyData.keyHash P (Str.ofString "indent_level"), key := Value.str (Str.ofString "indent_level") 340, val := Value.ref 108 }, { hash := PyData.keyHash P (Str.ofString "equal"), key := Value.str (Str.ofString "equal") 348, val := Value.ref 115 }, { hash := PyData.keyHash P (Str.ofString "not_equal_witness"), key := Value.str (Str.ofString "not_equal_witness") 356, val := Value.ref 122 }, { hash := PyData.keyHash P (Str.ofString "less"), key := Value.str (Str.ofString "less") 364, val := Value.ref 129 }, { hash := PyData.keyHash P (Str.ofString "not_less_witness"), key := Value.str (Str.ofString "not_less_witness") 372, val := Value.ref 136 }, { hash := PyData.keyHash P (Str.ofString "__static_attributes__"), key := Value.str (Str.ofString "__static_attributes__") 378, val := Value.ref 137 }, { hash := PyData.keyHash P (Str.ofString "__dict__"), key := Value.str (Str.ofString "__dict__") 380, val := Value.ref 140 }, { hash := PyData.keyHash P (Str.ofString "__weakref__"), key := Value.str (Str.ofString "__weakref__") 382, val := Value.ref 141 }, { hash := PyData.keyHash P (Str.ofString "__doc__"), key := Value.str (Str.ofString "__doc__") 383, val := Value.none }] 4 }) ::
  (nat_lit 139, { cls := Value.type "type", data := Data.cls { name := Str.ofString "Whitespace", bases := [Value.type "object"], mro := [Value.ref 139, Value.type "object"], ns := 138, qualname := Str.ofString "Whitespace" }, slots := #[none, none, Option.some (Value.str (Str.ofString "Whitespace") 290), Option.some (Value.str (Str.ofString "Whitespace") 298), Option.some (Value.builtin "object.__new__"), Option.some (Value.bool Bool.true)] }) ::
  (nat_lit 140, { cls := Value.type "getset_descriptor", data := Data.fields #[Value.str (Str.ofString "__dict__") 379, Value.ref 139, Value.builtin "function.__dict__", Value.builtin "function.__dict__#set"] }) ::
  (nat_lit 141, { cls := Value.type "getset_descriptor", data := Data.fields #[Value.str (Str.ofString "__weakref__") 381, Value.ref 139, Value.builtin "ExceptionGroup.__weakref__", Value.none] }) ::
  (nat_lit 144, { cls := Value.type "tuple", data := Data.seq #[] }) ::
  (nat_lit 146, { cls := Value.type "tuple", data := Data.seq #[Value.str (Str.ofString "text") 391, Value.str (Str.ofString "_law_take") 392, Value.str (Str.ofString "held") 393] }) ::
  (nat_lit 147, { cls := Value.type "tuple", data := Data.seq #[Value.str (Str.ofString "left") 394] }) ::
  (nat_lit 149, { cls := Value.type "code", data := Data.fields #[Value.str (Str.ofString "_law_file") 388, Value.str (Str.ofString "_law_file") 389, Value.str (Str.ofString "/claim/cut.py") 390, Value.int 138 0, Value.int 1 0, Value.int 0 0, Value.int 0 0, Value.int 3 0, Value.ref 144, Value.bool Bool.true, Value.int 181 0, Value.ref 145, Value.none, Value.ref 146, Value.ref 147, Value.ref 148, Value.int 395 0, Value.int 138 0, Value.str (Str.ofString "/claim/cut.py") 396] }) ::
  (nat_lit 150, fo (cellAt 9) (Str.ofString "_law_file") (Value.str (Str.ofString "law_pg0230_02") 386) 149) ::
  (nat_lit 151, { cls := Value.type "tuple", data := Data.seq #[] }) ::
  (nat_lit 153, { cls := Value.type "tuple", data := Data.seq #[Value.str (Str.ofString "place") 401, Value.str (Str.ofString "kind") 402, Value.str (Str.ofString "halves") 403, Value.str (Str.ofString "value") 404, Value.str (Str.ofString "due") 405, Value.str (Str.ofString "k") 406, Value.str (Str.ofString "ahead") 407, Value.str (Str.ofString "near") 408] }) ::
  (nat_lit 154, { cls := Value.type "tuple", data := Data.seq #[] }) ::
  (nat_lit 156, { cls := Value.type "code", data := Data.fields #[Value.str (Str.ofString "_law_channels") 398, Value.str (Str.ofString "_law_channels") 399, Value.str (Str.ofString "/claim/cut.py") 400, Value.int 150 0, Value.int 2 0, Value.int 0 0, Value.int 0 0, Value.int 3 0, Value.ref 151, Value.bool Bool.true, Value.int 181 0, Value.ref 152, Value.none, Value.ref 153, Value.ref 154, Value.ref 155, Value.int 409 0, Value.int 150 0, Value.str (Str.ofString "/claim/cut.py") 410] }) ::
  (nat_lit 157, fo (cellAt 10) (Str.ofString "_law_channels") (Value.str (Str.ofString "law_pg0230_02") 386) 156) ::
  (nat_lit 158, { cls := Value.type "tuple", data := Data.seq #[] }) ::
  (nat_lit 161, { cls := Value.type "code", data := Data.fields #[Value.str (Str.ofString "_law_letters") 412, Value.str (Str.ofString "_law_letters") 413, Value.str (Str.ofString "/claim/cut.py") 414, Value.int 158 0, Value.int 1 0, Value.int 0 0, Value.int 0 0, Value.int 3 0, Value.ref 158, Value.bool Bool.true, Value.int 181 0, Value.ref 159, Value.none, Value.none, Value.none, Value.ref 160, Value.int 415 0, Value.int 158 0, Value.str (Str.ofString "/claim/cut.py") 416] }) ::
  (nat_lit 162, fo (cellAt 11) (Str.ofString "_law_letters") (Value.str (Str.ofString "law_pg0230_02") 386) 161) ::
  (nat_lit 163, { cls := Value.type "tuple", data := Data.seq #[] }) ::
  (nat_lit 165, { cls := Value.type "tuple", data := Data.seq #[Value.str (Str.ofString "runs") 421, Value.str (Str.ofString "size") 422, Value.str (Str.ofString "column") 423, Value.str (Str.ofString "run") 424] }) ::
  (nat_lit 166, { cls := Value.type "tuple", data := Data.seq #[] }) ::
  (nat_lit 168, { cls := Value.type "code", data := Data.fields #[Value.str (Str.ofString "_law_depth") 418, Value.str (Str.ofString "_law_depth") 419, Value.str (Str.ofString "/claim/cut.py") 420, Value.int 160 0, Value.int 2 0, Value.int 0 0, Value.int 0 0, Value.int 3 0, Value.ref 163, Value.bool Bool.true, Value.int 181 0, Value.ref 164, Value.none, Value.ref 165, Value.ref 166, Value.ref 167, Value.int 425 0, Value.int 160 0, Value.str (Str.ofString "/claim/cut.py") 426] }) ::
  (nat_lit 169, fo (cellAt 12) (Str.ofString "_law_depth") (Value.str (Str.ofString "law_pg0230_02") 386) 168) ::
  (nat_lit 170, { cls := Value.type "tuple", data := Data.seq #[] }) ::
  (nat_lit 172, { cls := Value.type "tuple", data := Data.seq #[Value.str (Str.ofString "runs") 431, Value.str (Str.ofString "place") 432, Value.str (Str.ofString "kind") 433, Value.str (Str.ofString "met") 434, Value.str (Str.ofString "step") 435, Value.str (Str.ofString "channels") 436] }) ::
  (nat_lit 173, { cls := Value.type "tuple", data := Data.seq #[] }) ::
  (nat_lit 175, { cls := Value.type "code", data := Data.fields #[Value.str (Str.ofString "_law_walk") 428, Value.str (Str.ofString "_law_walk") 429, Value.str (Str.ofString "/claim/cut.py") 430, Value.int 166 0, Value.int 3 0, Value.int 0 0, Value.int 0 0, Value.int 3 0, Value.ref 170, Value.bool Bool.true, Value.int 181 0, Value.ref 171, Value.none, Value.ref 172, Value.ref 173, Value.ref 174, Value.int 437 0, Value.int 166 0, Value.str (Str.ofString "/claim/cut.py") 438] }) ::
  (nat_lit 176, fo (cellAt 13) (Str.ofString "_law_walk") (Value.str (Str.ofString "law_pg0230_02") 386) 175) ::
  (nat_lit 177, { cls := Value.type "tuple", data := Data.seq #[] }) ::
  (nat_lit 180, { cls := Value.type "code", data := Data.fields #[Value.str (Str.ofString "_law_turned") 440, Value.str (Str.ofString "_law_turned") 441, Value.str (Str.ofString "/claim/cut.py") 442, Value.int 175 0, Value.int 1 0, Value.int 0 0, Value.int 0 0, Value.int 3 0, Value.ref 177, Value.bool Bool.true, Value.int 181 0, Value.ref 178, Value.none, Value.none, Value.none, Value.ref 179, Value.int 443 0, Value.int 175 0, Value.str (Str.ofString "/claim/cut.py") 444] }) ::
  (nat_lit 181, fo (cellAt 14) (Str.ofString "_law_turned") (Value.str (Str.ofString "law_pg0230_02") 386) 180) ::
  (nat_lit 182, { cls := Value.type "tuple", data := Data.seq #[] }) ::
  (nat_lit 185, { cls := Value.type "code", data := Data.fields #[Value.str (Str.ofString "law") 446, Value.str (Str.ofString "law") 447, Value.str (Str.ofString "/claim/cut.py") 448, Value.int 184 0, Value.int 1 0, Value.int 0 0, Value.int 0 0, Value.int 3 0, Value.ref 182, Value.bool Bool.true, Value.int 181 0, Value.ref 183, Value.none, Value.none, Value.none, Value.ref 184, Value.int 449 0, Value.int 184 0, Value.str (Str.ofString "/claim/cut.py") 450] }) ::
  (nat_lit 186, fo (cellAt 15) (Str.ofString "law") (Value.str (Str.ofString "law_pg0230_02") 386) 185) :: []
/-- the program without its names of files -/
noncomputable def view0 : Program := { PySem.Challenge.pw_pg0230_02 with main := { PySem.Challenge.pw_pg0230_02.main with body := [cellAt 0, cellAt 2, cellAt 3, cellAt 5, cellAt 7, cellAt 9, cellAt 10, cellAt 11, cellAt 12, cellAt 13, cellAt 14, cellAt 15] } }
noncomputable abbrev as0 : List Nat := [2, 3, 15, 17, 18, 20, 21, 22, 24, 25, 27, 28, 29, 31, 32, 34, 35, 43, 45, 46, 48, 49, 50, 52, 53, 55, 56, 57, 59, 60, 62, 63, 64, 66, 67, 69, 70, 71, 72, 73, 74, 75, 88, 90, 91, 93, 94, 95, 97, 98, 100, 101, 102, 104, 105, 107, 108, 109, 111, 112, 114, 115, 116, 118, 119, 121, 122, 123, 125, 126, 128, 129, 130, 132, 133, 135, 136, 137, 138, 139, 140, 141, 144, 146, 147, 149, 150, 151, 153, 154, 156, 157, 158, 161, 162, 163, 165, 166, 168, 169, 170, 172, 173, 175, 176, 177, 180, 181, 182, 185, 186]
theorem as_ok : ∀ P, (K0 P).map (·.1) = as0 := fun _ => by kernel_rfl
noncomputable abbrev hook0 := kmHook K0 as0 as_ok [145]

end partHd2
section partHl2
open PySem PySem.W PyProof.Rows
theorem said0 : OpenLaw.wellSaid PySem.Challenge.rw_pg0230_02 = true := by kernel_rfl
theorem left0 : LeftO PySem.Challenge.pw_pg0230_02 view0 [PySem.Str.ofString "Whitespace"] (fun s => xlAt view0 [] s && recOk (RowW.records PySem.Challenge.rw_pg0230_02.row.toRowW) s) (Hook.obs hook0) (Hook.val hook0) 2454 := by
  refine LeftO.of_split "special-get-raises" ?_
  intro w
  kernel_rfl

end partHl2
section partLoop2
open PySem PySem.W PyProof.Rows PySem.Calls
section
variable {prog : Program} {w : World} {A : Around} {s : Shared} {env : Env} {g : Heap}
theorem kp_fr {h h' : Heap} {L : Addr} {m : Str → Option Value} {wr : List Addr} (F : Fr g L h m) (k : Kp wr h h') (hL : L ∉ wr) (hg : ∀ b ∈ wr, g.get? b = none) : Fr g L h' m := by
  obtain ⟨⟨oL, es, ep, hL', r⟩, ke, ab⟩ := F
  refine ⟨⟨oL, es, ep, k _ _ hL hL', r⟩, fun c o e => k _ _ (fun q => ?_) (ke c o e), ab⟩
  have := hg c q
  rw [this] at e; cases e
theorem kp_news {h h' : Heap} {L : Addr} {news : List (Addr × Obj)} {wr : List Addr} (N : News g L h news) (k : Kp wr h h') (hn : ∀ p ∈ news, p.1 ∉ wr) : News g L h' news :=
  fun p hp => ⟨k _ _ (hn p hp) (N p hp).1, (N p hp).2⟩
noncomputable def AllNe (I : Addr) : List (Addr × Obj) → Prop
  | [] => True
  | p :: r => @Ne Nat p.1 I ∧ AllNe I r
theorem AllNe.of {I : Addr} : ∀ {l : List (Addr × Obj)}, (∀ p ∈ l, p.1 ≠ I) → AllNe I l
  | [], _ => trivial
  | _ :: _, h => ⟨h _ (.head _), AllNe.of fun p hp => h p (.tail _ hp)⟩
theorem AllNe.mem {I : Addr} : ∀ {l : List (Addr × Obj)}, AllNe I l → ∀ p, p ∈ l → p.1 ≠ I
  | [], _, _, hm => nomatch hm
  | q :: r, h, p, hm => by
    rcases List.mem_cons.mp hm with e | hm
    · rw [e]; exact h.1
    · exact AllNe.mem h.2 p hm
/-- how a turn ends: the loop goes on with J at the next number, or leaves -/
noncomputable def Turned (g : Heap) (L I : Addr) (oI : Obj) (J : List (Str × Value) → List (Addr × Obj) → Prop) (s : Shared) (Q : Flow → Shared → Prop) (fl : Flow) (s' : Shared) : Prop :=
  match fl with
  | .ret v => Q (.ret v) s'
  | .brk => Q .next s'
  | _ => ∃ h tk m lo nw, s' = { s with heap := h, toks := tk } ∧ Fr g L h (over lo m) ∧ News g L h ((I, oI) :: nw) ∧ (∀ p ∈ nw, p.1 ≠ I) ∧ J lo nw
theorem for_walk {target : Expr} {body : List Stmt} {I : Addr} {fp : List Addr} {n : Nat} {P : Nat → Value → Prop} {St : Nat → Heap → Prop} {Q : Flow → Shared → Prop} {E : Value → Shared → Prop}
    (J : Nat → List (Str × Value) → List (Addr × Obj) → Prop) (W : Walks prog w A I fp [I] n P St) (live : ∀ i h, St i h → ∃ o, h.get? I = some o)
    (hfp : ∀ b ∈ fp, b = I ∨ (∃ o, g.get? b = some o) ∨ (∃ o, ∀ i lo nw, J i lo nw → (b, o) ∈ nw))
    {lo₀ : List (Str × Value)} {nw₀ : List (Addr × Obj)} {m₀ : Str → Option Value}
    (hst : St 0 s.heap) (F : Fr g env.locals s.heap (over lo₀ m₀)) (N : News g env.locals s.heap nw₀) (hI : ∀ p ∈ nw₀, p.1 ≠ I) (hIL : I ≠ env.locals) (hIg : g.get? I = none) (hj : J 0 lo₀ nw₀)
    (turn : ∀ i v h tk m lo nw oI, i < n → P i v → J i lo nw → Fr g env.locals h (over lo m) → News g env.locals h ((I, oI) :: nw) → (∀ p ∈ nw, p.1 ≠ I) → St (i + 1) h →
      wpAny (model prog w) A (assign target env v) (fun _ s₂ => wpAny (model prog w) A (execs body env) (Turned g env.locals I oI (J (i + 1)) s Q) noE s₂) noE { s with heap := h, toks := tk })
    (done : ∀ h tk m lo nw, J n lo nw → Fr g env.locals h (over lo m) → News g env.locals h nw → Q .next { s with heap := h, toks := tk })
    (ht : ∀ v, letOwnedTupleGo target (.ref I) v = pure () := by intro _; rfl) :
    codeAny (model prog w) A (.forLoop target (.ref I) body [] env) (fun r s' => match r with | .ok f => Q f s' | .error e => E e s') s := by
  refine codeAny_forLoop (fun k s' => ∃ i h tk m lo nw, s' = { s with heap := h, toks := tk } ∧ i ≤ n ∧ k = n + 1 - i ∧ St i h ∧ Fr g env.locals h (over lo m) ∧ News g env.locals h nw ∧ (∀ p ∈ nw, p.1 ≠ I) ∧ J i lo nw) ?_ (n + 1)
    ⟨0, s.heap, s.toks, m₀, lo₀, nw₀, rfl, Nat.zero_le _, rfl, hst, F, N, hI, hj⟩ ht
  rintro k s' ⟨i, h, tk, m, lo, nw, rfl, hin, rfl, hst', F', N', hI', hJ⟩
  have hwL : env.locals ∉ [I] := fun q => hIL (List.mem_singleton.mp q).symm
  have hwg : ∀ b ∈ [I], g.get? b = none := fun b hb => by rw [List.mem_singleton.mp hb]; exact hIg
  have hwn : ∀ p ∈ nw, p.1 ∉ [I] := fun p hp q => hI' p hp (List.mem_singleton.mp q)
  by_cases hlt : i < n
  · refine wpAny_noE (W.item i _ _ _ hlt hst' fun v h₁ tk₁ hP hst₁ hk => ?_)
    have F₁ := kp_fr F' (wr := [I]) hk hwL hwg
    have N₁ := kp_news N' (wr := [I]) hk hwn
    obtain ⟨oI, hoI⟩ := live _ _ hst₁
    have N₂ : News g env.locals h₁ ((I, oI) :: nw) := fun p hp => by
      rcases List.mem_cons.mp hp with e | hp
      · rw [e]; exact ⟨hoI, hIL, hIg⟩
      · exact N₁ p hp
    refine wpAny_noE (wpAny_mono (turn i v h₁ tk₁ m lo nw oI hlt hP hJ F₁ N₂ hI' hst₁) (fun _ s₂ h₂ => wpAny_noE (wpAny_mono h₂ (fun f s₃ h₃ => ?_) fun _ _ x => x)) fun _ _ x => x)
    have goes : (∃ h tk m lo nw, s₃ = { s with heap := h, toks := tk } ∧ Fr g env.locals h (over lo m) ∧ News g env.locals h ((I, oI) :: nw) ∧ (∀ p ∈ nw, p.1 ≠ I) ∧ J (i + 1) lo nw) →
        ∃ m', m' < n + 1 - i ∧ ∃ i h tk m lo nw, s₃ = { s with heap := h, toks := tk } ∧ i ≤ n ∧ m' = n + 1 - i ∧ St i h ∧ Fr g env.locals h (over lo m) ∧ News g env.locals h nw ∧ (∀ p ∈ nw, p.1 ≠ I) ∧ J i lo nw := by
      rintro ⟨h₄, tk₄, m₄, lo₄, nw₄, rfl, F₄, N₄, hI₄, hJ₄⟩
      refine ⟨n + 1 - (i + 1), by omega, i + 1, h₄, tk₄, m₄, lo₄, nw₄, rfl, hlt, rfl, ?_, F₄, fun p hp => N₄ p (.tail _ hp), hI₄, hJ₄⟩
      refine W.frame _ _ _ hst₁ fun b hb o e => ?_
      rcases hfp b hb with rfl | ⟨o', e'⟩ | ⟨o', hm⟩
      · rw [hoI] at e; cases e; exact (N₄ _ (.head _)).1
      · have := F₁.keep _ _ e'
        rw [this] at e; cases e; exact F₄.keep _ _ e'
      · have := (N₁ _ (hm _ _ _ hJ)).1
        rw [this] at e; cases e; exact (N₄ _ (.tail _ (hm _ _ _ hJ₄))).1
    cases f with
    | ret v => exact h₃
    | brk => exact h₃
    | next => exact goes h₃
    | cont => exact goes h₃
  · have hin' : i = n := by omega
    subst hin'
    refine wpAny_noE (W.done _ _ _ hst' fun h₁ tk₁ hk => ?_)
    exact wpAny_execs_nil (done h₁ tk₁ m lo nw hJ (kp_fr F' (wr := [I]) hk hwL hwg) (kp_news N' (wr := [I]) hk hwn))

theorem turned_next {L I : Addr} {oI : Obj} {J : List (Str × Value) → List (Addr × Obj) → Prop} {Q : Flow → Shared → Prop} {fl : Flow} {h : Heap} {tk : Nat} {m : Str → Option Value} {news₀ : List (Addr × Obj)} (lo : List (Str × Value)) (nw : List (Addr × Obj))
    (hfl : fl = .next ∨ fl = .cont) (F : Fr g L h m) (N : News g L h news₀) (hat : AllAt m lo) (hin : InAll news₀ ((I, oI) :: nw)) (hne : AllNe I nw) (hj : J lo nw) : Turned g L I oI J s Q fl { s with heap := h, toks := tk } := by
  have x : ∃ h' tk' m lo nw, ({ s with heap := h, toks := tk } : Shared) = { s with heap := h', toks := tk' } ∧ Fr g L h' (over lo m) ∧ News g L h' ((I, oI) :: nw) ∧ (∀ p ∈ nw, p.1 ≠ I) ∧ J lo nw :=
    ⟨h, tk, m, lo, nw, rfl, by rw [over_self hat]; exact F, fun p hp => N p (hin.mem p hp), hne.mem, hj⟩
  rcases hfl with rfl | rfl <;> exact x
/-- of another class: another address -/
theorem ne_of_cls {L a b : Addr} {oa ob : Obj} {h : Heap} {news : List (Addr × Obj)} (N : News g L h news) (ha : (a, oa) ∈ news) (hb : (b, ob) ∈ news) (ne : oa.cls ≠ ob.cls) : a ≠ b := fun e => by
  have h1 := (N _ ha).1
  have h2 := (N _ hb).1
  rw [e] at h1
  exact ne (congrArg Obj.cls (Option.some.inj (h1.symm.trans h2)))
theorem cls_ne {o : Obj} {a b : String} (h : o.cls = .type a) (ne : (a == b) = false) : o.cls ≠ .type b := fun e => by
  rw [h] at e; injection e with e; rw [e] at ne; simp at ne
theorem for_stmt {target iter body pos} {Q : Flow → Shared → Prop} {E : Value → Shared → Prop}
    (h : wpAny (model prog w) A (eval iter env) (fun x s₁ => wpAny (model prog w) A (pyIter x) (fun it s₂ =>
      codeAny (model prog w) A (.forLoop target it body [] env) (fun r s' => match r with | .ok f => Q f s' | .error e => cameBackBy (model prog w) A env E e s') s₂) noE s₁) noE s)
    (hs : ∀ x, foldedSetIterable iter env x = pure x) :
    wpAny (model prog w) A (exec (.For target iter body [] pos) env) Q E s :=
  wpAny_For (wpAny_noE (wpAny_mono h (fun _ _ h1 => wpAny_noE h1) fun _ _ x => x)) hs
theorem it_range {target : Expr} {body : List Stmt} {r : Addr} {a b : Int} {t u v : Tok} {n : Nat} {Q : Flow → Shared → Prop} {E E' : Value → Shared → Prop} (J : Nat → List (Str × Value) → List (Addr × Obj) → Prop)
    (hh : A.handled = none) {L : Addr} (hL : env.locals = L) (hr : IsRange s.heap r a b 1 t u v) (hsm : Builtin.Range.small a b 1 = true) (hn : Builtin.Range.rangeSize a b 1 = (n : Int))
    (lo₀ : List (Str × Value)) (nw₀ : List (Addr × Obj)) {m₀ : Str → Option Value} {news₀ : List (Addr × Obj)}
    (F : Fr g L s.heap m₀) (N : News g L s.heap news₀) (hat : AllAt m₀ lo₀) (hin : InAll news₀ nw₀) (hj : J 0 lo₀ nw₀)
    (turn : ∀ i t I h tk m lo nw oI, i < n → J i lo nw → Fr g L h (over lo m) → News g L h ((I, oI) :: nw) → AllNe I nw → oI.cls = .type "range_iterator" →
      wpAny (model prog w) A (assign target env (.int (a + (i : Int)) t)) (fun _ s₂ => wpAny (model prog w) A (execs body env) (Turned g L I oI (J (i + 1)) s Q) noE s₂) noE { s with heap := h, toks := tk })
    (done : ∀ h tk m lo nw, J n lo nw → Fr g L h (over lo m) → News g L h nw → Q .next { s with heap := h, toks := tk })
    (ht : ∀ it v, letOwnedTupleGo target it v = pure () := by intro _ _; rfl) :
    wpAny (model prog w) A (pyIter (.ref r)) (fun it s₂ => codeAny (model prog w) A (.forLoop target it body [] env) (fun r s' => match r with | .ok f => Q f s' | .error e => E' e s') s₂) E s := by
  subst hL
  refine wpAny_pyIter_range hr hsm ?_
  have up : ∀ {o' : Obj} b o, s.heap.get? b = some o → (s.heap.push o').get? b = some o := fun b o e => Heap.get?_push_of_some _ e
  refine for_walk (s := { s with heap := _ }) (g := g) J (LCg.range_walks hh a n) (fun i h st => ⟨_, st⟩) (fun b hb => .inl (List.mem_singleton.mp hb)) (lo₀ := lo₀) (nw₀ := nw₀) (m₀ := m₀) (by show IsRangeIter _ _ _ _ _; rw [hn]; simpa using Heap.get?_push_size _ rfl)
    (by rw [over_self hat]; exact F.keeps up) ((kst_newsOf N hin.mem).grown up) (fun p hp => Nat.ne_of_lt (Heap.lt_size (N p (hin.mem p hp)).1)) (Ne.symm (Nat.ne_of_lt F.ns.lt)) (next_is_new F) hj ?_ ?_ (fun v => ht _ v)
  · rintro i v h tk m lo nw oI hi ⟨t, rfl⟩ hJ F₁ N₁ hne st
    refine turn i t _ h tk m lo nw oI hi hJ F₁ N₁ (AllNe.of hne) ?_
    have h1 : h.get? _ = some _ := st
    have h2 := (N₁ _ (.head _)).1
    rw [h1] at h2
    exact congrArg Obj.cls (Option.some.inj h2.symm)
  · exact fun h tk m lo nw hJ F₁ N₁ => done h tk m lo nw hJ F₁ N₁
theorem it_list {target : Expr} {body : List Stmt} {ax : Addr} {its : Array Value} {Q : Flow → Shared → Prop} {E E' : Value → Shared → Prop} (J : Nat → List (Str × Value) → List (Addr × Obj) → Prop)
    (hh : A.handled = none) {L : Addr} (hL : env.locals = L) (o : Obj) (ho : o.cls = .type "list" ∧ ∃ n, o.data = .seq its n)
    (lo₀ : List (Str × Value)) (nw₀ : List (Addr × Obj)) {m₀ : Str → Option Value} {news₀ : List (Addr × Obj)}
    (F : Fr g L s.heap m₀) (N : News g L s.heap news₀) (hsrc : g.get? ax = some o ∨ ∀ i lo nw, J i lo nw → (ax, o) ∈ nw) (hat : AllAt m₀ lo₀) (hin : InAll news₀ nw₀) (hj : J 0 lo₀ nw₀)
    (turn : ∀ i v I h tk m lo nw oI, its[i]? = some v → J i lo nw → Fr g L h (over lo m) → News g L h ((I, oI) :: nw) → AllNe I nw → oI.cls = .type "list_iterator" →
      wpAny (model prog w) A (assign target env v) (fun _ s₂ => wpAny (model prog w) A (execs body env) (Turned g L I oI (J (i + 1)) s Q) noE s₂) noE { s with heap := h, toks := tk })
    (done : ∀ h tk m lo nw, J its.size lo nw → Fr g L h (over lo m) → News g L h nw → Q .next { s with heap := h, toks := tk })
    (ht : ∀ I h v, (∀ i, Heap.IsListIter h I ax i → letOwnedTupleGo target (.ref I) v = pure ()) := by intro _ _ _ _ _; rfl) :
    wpAny (model prog w) A (pyIter (.ref ax)) (fun it s₂ => codeAny (model prog w) A (.forLoop target it body [] env) (fun r s' => match r with | .ok f => Q f s' | .error e => E' e s') s₂) E s := by
  subst hL
  have hax : s.heap.get? ax = some o := by
    rcases hsrc with e | hm
    · exact F.keep _ _ e
    · exact (N _ (hin.mem _ (hm 0 lo₀ nw₀ hj))).1
  obtain ⟨nn, hd⟩ := ho.2
  have hl : s.heap.IsList ax its := ⟨o, hax, ho.1, nn, hd⟩
  have hlt : ax < s.heap.objs.size := Heap.lt_size hax
  refine wpAny_pyIter_list hl ?_
  have up : ∀ {o' : Obj} b o, s.heap.get? b = some o → (s.heap.push o').get? b = some o := fun b o e => Heap.get?_push_of_some _ e
  refine for_walk (s := { s with heap := _ }) (g := g) J (Walks.list hh s.heap.objs.size ax (Nat.ne_of_lt hlt) its) (fun i h st => by obtain ⟨o, e, _⟩ := st.1; exact ⟨o, e⟩) (fun b hb => ?_) (lo₀ := lo₀) (nw₀ := nw₀) (m₀ := m₀) ⟨⟨_, Heap.get?_push_size _ rfl, rfl, rfl⟩, hl.push _⟩
    (by rw [over_self hat]; exact F.keeps up) ((kst_newsOf N hin.mem).grown up) (fun p hp => Nat.ne_of_lt (Heap.lt_size (N p (hin.mem p hp)).1)) (Ne.symm (Nat.ne_of_lt F.ns.lt)) (next_is_new F) hj ?_ ?_ (fun v => ?_)
  · rcases List.mem_cons.mp hb with e | hb
    · exact .inl e
    · rw [List.mem_singleton.mp hb]
      rcases hsrc with e | hm
      · exact .inr (.inl ⟨o, e⟩)
      · exact .inr (.inr ⟨o, hm⟩)
  · rintro i v h tk m lo nw oI hi hP hJ F₁ N₁ hne st
    refine turn i v _ h tk m lo nw oI hP hJ F₁ N₁ (AllNe.of hne) ?_
    obtain ⟨o', h1, hc, _⟩ := st.1
    have h2 := (N₁ _ (.head _)).1
    rw [h1] at h2
    have h3 : o' = oI := Option.some.inj h2
    rw [← h3]; exact hc
  · exact fun h tk m lo nw hJ F₁ N₁ => done h tk m lo nw hJ F₁ N₁
  · exact ht _ _ v 0 ⟨_, Heap.get?_push_size s.heap (o := { cls := .type "list_iterator", data := .fields #[.ref ax, .int 0 0] }) rfl, rfl, rfl⟩
theorem it_str {target : Expr} {body : List Stmt} {x : Str} {t : Tok} {Q : Flow → Shared → Prop} {E E' : Value → Shared → Prop} (J : Nat → List (Str × Value) → List (Addr × Obj) → Prop)
    (hh : A.handled = none) {L : Addr} (hL : env.locals = L)
    (lo₀ : List (Str × Value)) (nw₀ : List (Addr × Obj)) {m₀ : Str → Option Value} {news₀ : List (Addr × Obj)}
    (F : Fr g L s.heap m₀) (N : News g L s.heap news₀) (hat : AllAt m₀ lo₀) (hin : InAll news₀ nw₀) (hj : J 0 lo₀ nw₀)
    (turn : ∀ i c t I h tk m lo nw oI, x.cps[i]? = some c → J i lo nw → Fr g L h (over lo m) → News g L h ((I, oI) :: nw) → AllNe I nw → (oI.cls = .type "str_iterator" ∨ oI.cls = .type "str_ascii_iterator") →
      wpAny (model prog w) A (assign target env (.str ⟨#[c]⟩ t)) (fun _ s₂ => wpAny (model prog w) A (execs body env) (Turned g L I oI (J (i + 1)) s Q) noE s₂) noE { s with heap := h, toks := tk })
    (done : ∀ h tk m lo nw, J x.cps.size lo nw → Fr g L h (over lo m) → News g L h nw → Q .next { s with heap := h, toks := tk })
    (ht : ∀ it v, letOwnedTupleGo target it v = pure () := by intro _ _; rfl) :
    wpAny (model prog w) A (pyIter (.str x t)) (fun it s₂ => codeAny (model prog w) A (.forLoop target it body [] env) (fun r s' => match r with | .ok f => Q f s' | .error e => E' e s') s₂) E s := by
  subst hL
  have up : ∀ {o' : Obj} b o, s.heap.get? b = some o → (s.heap.push o').get? b = some o := fun b o e => Heap.get?_push_of_some _ e
  have go : ∀ (ty : String) (hty : ty = "str_iterator" ∨ ty = "str_ascii_iterator") (W : Walks prog w A s.heap.objs.size [s.heap.objs.size] [s.heap.objs.size] x.cps.size (SignAt x) (fun i h => h.IsStrIter s.heap.objs.size ty x t i)),
      codeAny (model prog w) A (.forLoop target (.ref s.heap.objs.size) body [] env) (fun r s' => match r with | .ok f => Q f s' | .error e => E' e s') { s with heap := s.heap.push { cls := .type ty, data := .fields #[.str x t, .int 0 0] } } := by
    intro ty hty W
    refine for_walk (s := { s with heap := _ }) (g := g) J W (fun i h st => by obtain ⟨o, e, _⟩ := st; exact ⟨o, e⟩) (fun b hb => .inl (List.mem_singleton.mp hb)) (lo₀ := lo₀) (nw₀ := nw₀) (m₀ := m₀) ⟨_, Heap.get?_push_size _ rfl, rfl, rfl⟩
      (by rw [over_self hat]; exact F.keeps up) ((kst_newsOf N hin.mem).grown up) (fun p hp => Nat.ne_of_lt (Heap.lt_size (N p (hin.mem p hp)).1)) (Ne.symm (Nat.ne_of_lt F.ns.lt)) (next_is_new F) hj ?_ ?_ (fun v => ht _ v)
    · rintro i v h tk m lo nw oI hi ⟨c, t', hc, rfl⟩ hJ F₁ N₁ hne st
      refine turn i c t' _ h tk m lo nw oI hc hJ F₁ N₁ (AllNe.of hne) ?_
      obtain ⟨o', h1, hcl, _⟩ := st
      have h2 := (N₁ _ (.head _)).1
      rw [h1] at h2
      have h3 : o' = oI := Option.some.inj h2
      rw [← h3, hcl]
      rcases hty with rfl | rfl
      · exact .inl rfl
      · exact .inr rfl
    · exact fun h tk m lo nw hJ F₁ N₁ => done h tk m lo nw hJ F₁ N₁
  cases ha : x.cps.all (· < 128)
  · exact wpAny_pyIter_wide ha (go _ (.inl rfl) (Walks.strWide hh _ x t))
  · exact wpAny_pyIter_ascii ha (go _ (.inr rfl) (Walks.strAscii hh _ x t))
/-- a comprehension's turns by an invariant -/
theorem comp_inv {h₀ : Heap} {L : Addr} {m : Str → Option Value} {elt : Expr} {x : Str} {scope : Scope} {cl : List (Str × Addr)} {S : List (Addr × Obj) → Prop} {P : Nat → Value → Prop} {Fin : List Value → List (Addr × Obj) → Prop} (n : Nat)
    (J : Nat → List Value → List (Addr × Obj) → Prop)
    (turn : ∀ i ys news v I oI C oC D m₂ h tk, i < n → J i ys news → P i v → LCg.NsObj oC m₂ → m₂ x = some v → Fr h₀ L h m → News h₀ L h ((I, oI) :: (C, oC) :: (D, LCg.lst ys) :: news) → LCg.Off3 I C D news → ((@Ne Nat I C) ∧ (@Ne Nat I D) ∧ (@Ne Nat C D)) →
      wpAny (model prog w) A (eval elt (compEnvC scope cl C env)) (LCg.CompEnd h₀ L m { s with heap := h, toks := tk } I oI C oC D (LCg.lst ys) S (fun y news' => J (i + 1) (ys ++ [y]) news')) noE { s with heap := h, toks := tk })
    (fin : ∀ ys news, J n ys news → Fin ys news) :
    ∀ k i ys news, i + k = n → J i ys news → LCg.CompRest prog w A h₀ L m env elt x scope cl s S P Fin k i ys news
  | 0, i, ys, news, hk, hJ => by
    have : i = n := by omega
    subst this
    exact LCg.CompRest.zero (fin _ _ hJ)
  | k + 1, i, ys, news, hk, hJ => LCg.CompRest.succ fun v I oI C oC D m₂ h tk E' hP hC hx F N off ne => by
    refine wpAny_noE (wpAny_mono (turn i ys news v I oI C oC D m₂ h tk (by omega) hJ hP hC hx F N off ne) (fun y s₂ h₂ => ?_) fun _ _ x => x)
    obtain ⟨h', tk', news', e, F', N', off', hS, hj⟩ := h₂
    exact ⟨h', tk', news', e, F', N', off', hS, comp_inv n J turn fin k (i + 1) (ys ++ [y]) news' (by omega) hj⟩
end

end partLoop2
section partComp2
open PySem PySem.W PyProof.Rows PySem.Calls PyProof.Rows.LCg
section
variable {prog : Program} {w : World} {A : Around} {s s₁ : Shared} {env : Env} {g : Heap} {L : Addr} {m : Str → Option Value} {news : List (Addr × Obj)}
/-- a value that can be gone through, item by item -/
structure ItSrc (prog : Program) (w : World) (A : Around) (g : Heap) (L : Addr) (s₁ : Shared) (news : List (Addr × Obj)) (xv : Value) (n : Nat) (P : Nat → Value → Prop) (S : List (Addr × Obj) → Prop) (o : Obj) (fp : List Addr) (St : Nat → Heap → Prop) : Prop where
  W : Walks prog w A s₁.heap.objs.size fp [s₁.heap.objs.size] n P St
  live : ∀ i h, St i h → ∃ o, h.get? s₁.heap.objs.size = some o
  keeps : ∀ i h h' o nw, St i h → h.get? s₁.heap.objs.size = some o → h'.get? s₁.heap.objs.size = some o → (∀ b o, g.get? b = some o → h'.get? b = some o) → News g L h' nw → S nw → St i h'
  st : St 0 (s₁.heap.push o)
  fps : ∀ b ∈ fp, b < (s₁.heap.push o).objs.size
  s0 : S news
  go : ∀ (Q : Value → Shared → Prop) (E : Value → Shared → Prop), Q (.ref s₁.heap.objs.size) { s₁ with heap := s₁.heap.push o } → wpAny (model prog w) A (pyIter xv) Q E s₁
noncomputable def TupAt (g : Heap) (ax : Addr) (its : Array Value) (news : List (Addr × Obj)) : Prop := g.IsTuple ax its ∨ ∃ o, (ax, o) ∈ news ∧ o.cls = .type "tuple" ∧ ∃ n, o.data = .seq its n
theorem TupAt.tup {h : Heap} {ax : Addr} {its : Array Value} (x : TupAt g ax its news) (k : ∀ b o, g.get? b = some o → h.get? b = some o) (N : News g L h news) : h.IsTuple ax its := by
  rcases x with ⟨o, e, r⟩ | ⟨o, hm, r⟩
  · exact ⟨o, k _ _ e, r⟩
  · exact ⟨o, (N _ hm).1, r⟩
theorem src_list {ax : Addr} {its : Array Value} (hh : A.handled = none) (F : Fr g L s₁.heap m) (N : News g L s₁.heap news) (h : SrcAt g ax its news) :
    ∃ o fp St, ItSrc prog w A g L s₁ news (.ref ax) its.size (fun i v => its[i]? = some v) (SrcAt g ax its) o fp St := by
  have hl := h.list F.keep N
  have hlt : ax < s₁.heap.objs.size := by obtain ⟨_, e, _⟩ := hl; exact Heap.lt_size e
  refine ⟨_, _, _, Walks.list hh s₁.heap.objs.size ax (Nat.ne_of_lt hlt) its, fun i h st => by obtain ⟨o, e, _⟩ := st.1; exact ⟨o, e⟩, list_st, ⟨⟨_, Heap.get?_push_size _ rfl, rfl, rfl⟩, hl.push _⟩, fun b hb => ?_, h, fun Q E q => wpAny_pyIter_list hl q⟩
  rw [Heap.size_push]
  rcases List.mem_cons.mp hb with e | hb
  · rw [e]; exact Nat.lt_succ_self _
  · rw [List.mem_singleton.mp hb]; exact Nat.lt_succ_of_lt hlt
theorem src_tuple {ax : Addr} {its : Array Value} (hh : A.handled = none) (F : Fr g L s₁.heap m) (N : News g L s₁.heap news) (h : TupAt g ax its news) :
    ∃ o fp St, ItSrc prog w A g L s₁ news (.ref ax) its.size (fun i v => its[i]? = some v) (TupAt g ax its) o fp St := by
  have hl := h.tup F.keep N
  have hlt : ax < s₁.heap.objs.size := by obtain ⟨_, e, _⟩ := hl; exact Heap.lt_size e
  refine ⟨_, _, _, Walks.tuple hh s₁.heap.objs.size ax (Nat.ne_of_lt hlt) its, fun i h st => by obtain ⟨o, e, _⟩ := st.1; exact ⟨o, e⟩, ?_, ⟨⟨_, Heap.get?_push_size _ rfl, rfl, rfl⟩, hl.at fun o e => Heap.get?_push_of_some _ e⟩, fun b hb => ?_, h, fun Q E q => wpAny_pyIter_tuple hl q⟩
  · intro i h h' o nw st e e' k N' S'
    exact ⟨by obtain ⟨o', q, r⟩ := st.1; rw [e] at q; cases q; exact ⟨o, e', r⟩, S'.tup k N'⟩
  · rw [Heap.size_push]
    rcases List.mem_cons.mp hb with e | hb
    · rw [e]; exact Nat.lt_succ_self _
    · rw [List.mem_singleton.mp hb]; exact Nat.lt_succ_of_lt hlt
theorem src_str {x : Str} {t : Tok} (hh : A.handled = none) :
    ∃ o fp St, ItSrc prog w A g L s₁ news (.str x t) x.cps.size (SignAt x) (fun _ => True) o fp St := by
  have go : ∀ (ty : String) (W : Walks prog w A s₁.heap.objs.size [s₁.heap.objs.size] [s₁.heap.objs.size] x.cps.size (SignAt x) (fun i h => h.IsStrIter s₁.heap.objs.size ty x t i))
      (q : ∀ (Q : Value → Shared → Prop) (E : Value → Shared → Prop), Q (.ref s₁.heap.objs.size) { s₁ with heap := s₁.heap.push { cls := .type ty, data := .fields #[.str x t, .int 0 0] } } → wpAny (model prog w) A (pyIter (.str x t)) Q E s₁),
      ∃ o fp St, ItSrc prog w A g L s₁ news (.str x t) x.cps.size (SignAt x) (fun _ => True) o fp St := by
    intro ty W q
    refine ⟨_, _, _, W, fun i h st => by obtain ⟨o, e, _⟩ := st; exact ⟨o, e⟩, ?_, ⟨_, Heap.get?_push_size _ rfl, rfl, rfl⟩, fun b hb => ?_, trivial, q⟩
    · intro i h h' o nw st e e' _ _ _
      obtain ⟨o', q, r⟩ := st
      rw [e] at q; cases q
      exact ⟨o, e', r⟩
    · rw [Heap.size_push, List.mem_singleton.mp hb]; exact Nat.lt_succ_self _
  cases ha : x.cps.all (· < 128)
  · exact go _ (Walks.strWide hh _ x t) fun Q E q => wpAny_pyIter_wide ha q
  · exact go _ (Walks.strAscii hh _ x t) fun Q E q => wpAny_pyIter_ascii ha q
theorem src_range {r : Addr} {a b : Int} {t u v : Tok} {n : Nat} (hh : A.handled = none) (hr : IsRange s₁.heap r a b 1 t u v) (hsm : Builtin.Range.small a b 1 = true) (hn : Builtin.Range.rangeSize a b 1 = (n : Int)) :
    ∃ o fp St, ItSrc prog w A g L s₁ news (.ref r) n (fun i v => ∃ t, v = .int (a + (i : Int)) t) (fun _ => True) o fp St := by
  refine ⟨_, _, _, range_walks hh a n, fun i h st => ⟨_, st⟩, range_st, ?_, fun b hb => ?_, trivial, fun Q E q => wpAny_pyIter_range hr hsm q⟩
  · show IsRangeIter _ _ _ _ _; rw [hn]; simpa using Heap.get?_push_size _ rfl
  · rw [Heap.size_push, List.mem_singleton.mp hb]; exact Nat.lt_succ_self _
noncomputable def LcE (prog : Program) (w : World) (A : Around) (env : Env) (elt : Expr) (x : Str) (scope : Scope) (cl : List (Str × Addr)) (Q : Value → Shared → Prop) (xv : Value) (s₁ : Shared) : Prop :=
  ∃ g L m n P S news, Fr g L s₁.heap m ∧ News g L s₁.heap news ∧ n ≤ sizeLine ∧ (∃ o fp St, ItSrc prog w A g L s₁ news xv n P S o fp St) ∧
    ∀ hh, CompRest prog w A g L m env elt x scope cl { s₁ with heap := hh } S P (FinE g L m { s₁ with heap := hh } Q) n 0 [] news
noncomputable def LcA (prog : Program) (w : World) (A : Around) (env : Env) (elt : Expr) (x : Str) (scope : Scope) (cl : List (Str × Addr)) (y : Str) (Q : Flow → Shared → Prop) (xv : Value) (s₁ : Shared) : Prop :=
  ∃ g m n P S news, Fr g env.locals s₁.heap m ∧ News g env.locals s₁.heap news ∧ n ≤ sizeLine ∧ (∃ o fp St, ItSrc prog w A g env.locals s₁ news xv n P S o fp St) ∧
    ∀ hh, CompRest prog w A g env.locals m env elt x scope cl { s₁ with heap := hh } S P (FinA g env.locals m { s₁ with heap := hh } y Q) n 0 [] news
theorem LcE.intro {elt : Expr} {x : Str} {scope : Scope} {cl : List (Str × Addr)} {Q : Value → Shared → Prop} {xv : Value} {n : Nat} {P : Nat → Value → Prop} {S : List (Addr × Obj) → Prop} (F : Fr g L s₁.heap m) (N : News g L s₁.heap news) (hsz : n ≤ sizeLine)
    (Z : ∃ o fp St, ItSrc prog w A g L s₁ news xv n P S o fp St) (R : ∀ hh, CompRest prog w A g L m env elt x scope cl { s₁ with heap := hh } S P (FinE g L m { s₁ with heap := hh } Q) n 0 [] news) :
    LcE prog w A env elt x scope cl Q xv s₁ := ⟨g, L, m, n, P, S, news, F, N, hsz, Z, R⟩
theorem LcA.intro {elt : Expr} {x y : Str} {scope : Scope} {cl : List (Str × Addr)} {Q : Flow → Shared → Prop} {xv : Value} {n : Nat} {P : Nat → Value → Prop} {S : List (Addr × Obj) → Prop} (hL : env.locals = L) (F : Fr g L s₁.heap m) (N : News g L s₁.heap news) (hsz : n ≤ sizeLine)
    (Z : ∃ o fp St, ItSrc prog w A g L s₁ news xv n P S o fp St) (R : ∀ hh, CompRest prog w A g L m env elt x scope cl { s₁ with heap := hh } S P (FinA g L m { s₁ with heap := hh } y Q) n 0 [] news) :
    LcA prog w A env elt x scope cl y Q xv s₁ := by subst hL; exact ⟨g, m, n, P, S, news, F, N, hsz, Z, R⟩
theorem lc_eval {elt iter : Expr} {x : Str} {px : Pos} {scope : Scope} {cl : List (Str × Addr)} {pos : Pos} {Q : Value → Shared → Prop} {E : Value → Shared → Prop}
    (hclos : closureFor scope env = pure cl) (hcell : ∀ y ∈ scope.names, y.2 ≠ .cell) (hkind : scope.kind = .function)
    (hnames : ∀ y ∈ scope.names, y.2 = .local → scope.names.lookup y.1 = some .local) (hx : scope.names.lookup x = some .local)
    (hs : ∀ x, foldedSetIterable iter env x = pure x)
    (h : wpAny (model prog w) A (eval iter env) (LcE prog w A env elt x scope cl Q) E s) :
    wpAny (model prog w) A (eval (.ListComp elt [⟨.Name x px, iter, [], 0⟩] scope pos) env) Q E s := by
  rw [eval_ListComp]
  refine wpAny_comprehension_free (use := none) rfl hs hclos hkind hnames (wpAny_mono h (fun xv s₁ h₁ => ?_) fun _ _ e => e)
  obtain ⟨g, L, m, n, P, S, news, F, N, hsz, ⟨o, fp, St, Z⟩, R⟩ := h₁
  refine Z.go _ _ ?_
  have up : ∀ b o', s₁.heap.get? b = some o' → (s₁.heap.push o).get? b = some o' := fun b o' e => Heap.get?_push_of_some _ e
  refine block_U Z.W hsz Z.live Z.keeps hcell hkind hx Z.st Z.fps (F.keeps up) (N.grown up) (Nat.ne_of_lt F.ns.lt) (next_is_new F) (fun p hp => Nat.ne_of_lt (Heap.lt_size (N p hp).1)) Z.s0 (R _) ?_
  intro D C h' tk m' ys news' F' N' o1 hn hC₀ hD₀ hCL hDL hCD offC fin
  refine ⟨m', hn, fun h'' hs'' => fin D h'' tk (F'.change hs'' hCL hC₀) (fun p hp => ?_) o1⟩
  refine ⟨hs''.extBut _ _ ?_ (N' p hp).1, (N' p hp).2⟩
  rcases List.mem_cons.mp hp with e | hp
  · rw [e]; exact Ne.symm hCD
  · exact offC p hp
theorem lc_assign {elt iter : Expr} {x y : Str} {px py : Pos} {scope : Scope} {cl : List (Str × Addr)} {pos spos : Pos} {Q : Flow → Shared → Prop} {E : Value → Shared → Prop}
    (hsw : swapsWith (.ListComp elt [⟨.Name x px, iter, [], 0⟩] scope pos) (some (.Name y py)) spos.line env = pure true)
    (hclos : closureFor scope env = pure cl) (hcell : ∀ z ∈ scope.names, z.2 ≠ .cell) (hkind : scope.kind = .function)
    (hnames : ∀ z ∈ scope.names, z.2 = .local → scope.names.lookup z.1 = some .local) (hx : scope.names.lookup x = some .local)
    (hy : env.kindOf y = some .local) (hp : (env.scope.kind == .class || (env.scope.kind == .module && env.locals != env.globals)) = false)
    (hs : ∀ x, foldedSetIterable iter env x = pure x)
    (h : wpAny (model prog w) A (eval iter env) (LcA prog w A env elt x scope cl y Q) E s) :
    wpAny (model prog w) A (exec (.Assign [.Name y py] (.ListComp elt [⟨.Name x px, iter, [], 0⟩] scope pos) spos) env) Q E s := by
  rw [exec_Assign_Name_used _ _ _ _ hsw]
  refine wpAny_bind (wpAny_standAt (wpAny_bind ?_))
  show wpAny _ A (do let _ ← comprehension (.ListComp elt [⟨.Name x px, iter, [], 0⟩] scope pos) scope env _ (newList []) false (eval iter env) (some (assign (.Name y py) env))) _ _ s
  refine wpAny_bind (wpAny_mono (wpAny_comprehension_free (use := some (assign (.Name y py) env)) (Q := fun _ s' => Q .next s') rfl hs hclos hkind hnames
    (wpAny_mono h (fun xv s₁ h₁ => ?_) fun _ _ e => e)) (fun _ s' hq => wpAny_pure (wpAny_pure hq)) fun _ _ e => e)
  obtain ⟨g, m, n, P, S, news, F, N, hsz, ⟨o, fp, St, Z⟩, R⟩ := h₁
  refine Z.go _ _ ?_
  have up : ∀ b o', s₁.heap.get? b = some o' → (s₁.heap.push o).get? b = some o' := fun b o' e => Heap.get?_push_of_some _ e
  refine block_U Z.W hsz Z.live Z.keeps hcell hkind hx Z.st Z.fps (F.keeps up) (N.grown up) (Nat.ne_of_lt F.ns.lt) (next_is_new F) (fun p hp => Nat.ne_of_lt (Heap.lt_size (N p hp).1)) Z.s0 (R _) ?_
  intro D C h' tk m' ys news' F' N' o1 hn hC₀ hD₀ hCL hDL hCD offC fin
  show wpAny _ A (assign (.Name y py) env (.ref D)) _ _ _
  refine wpAny_assign_Name (wpAny_storeName_local hy F'.ns (fun h₂ hn₂ hs₂ => ?_) hp)
  have hL₀ : g.get? env.locals = none := Heap.get?_none_of_le F'.above
  have F₂ : Fr g env.locals h₂ (fun z => if z = y then some (.ref D) else m z) := ⟨hn₂, fun b o e => hs₂.extBut b o (fun q => by rw [q, hL₀] at e; cases e) (F'.keep b o e), F'.above⟩
  refine ⟨m', hn.sameBut hs₂ hCL, fun h'' hs'' => fin D h'' _ (F₂.change hs'' hCL hC₀) (fun p hp => ?_) o1⟩
  have z : h₂.get? p.1 = some p.2 := hs₂.extBut _ _ (N' p hp).2.1 (N' p hp).1
  refine ⟨hs''.extBut _ _ ?_ z, (N' p hp).2⟩
  rcases List.mem_cons.mp hp with e | hp
  · rw [e]; exact Ne.symm hCD
  · exact offC p hp
/-- how a quiet element ends -/
noncomputable def QEnd (g : Heap) (L : Addr) (m : Str → Option Value) (s : Shared) (T : Value → Prop) (pre : List (Addr × Obj)) (y : Value) (s₂ : Shared) : Prop :=
  T y ∧ ∃ h' tk', s₂ = { s with heap := h', toks := tk' } ∧ Fr g L h' m ∧ ∃ nn, News g L h' nn ∧ InAll nn pre
theorem QEnd.intro {T : Value → Prop} {pre nn : List (Addr × Obj)} {y : Value} {h' : Heap} {tk' : Nat} (F : Fr g L h' m) (N : News g L h' nn) (hin : InAll nn pre) (hT : T y) : QEnd g L m s T pre y { s with heap := h', toks := tk' } :=
  ⟨hT, h', tk', rfl, F, nn, N, hin⟩
/-- a quiet element: what stands stays, and it is told by T -/
theorem comp_quiet {elt : Expr} {x : Str} {scope : Scope} {cl : List (Str × Addr)} {S : List (Addr × Obj) → Prop} {P : Nat → Value → Prop} {Fin : List Value → List (Addr × Obj) → Prop} (n : Nat) (T : Nat → Value → Prop) (news : List (Addr × Obj)) (hS : S news)
    (turn : ∀ i v I oI C oC D oD m₂ h tk, i < n → P i v → NsObj oC m₂ → m₂ x = some v → Fr g L h m → News g L h ((I, oI) :: (C, oC) :: (D, oD) :: news) → Off3 I C D news → ((@Ne Nat I C) ∧ (@Ne Nat I D) ∧ (@Ne Nat C D)) →
      wpAny (model prog w) A (eval elt (compEnvC scope cl C env)) (QEnd g L m s (T i) ((I, oI) :: (C, oC) :: (D, oD) :: news)) noE { s with heap := h, toks := tk })
    (fin : ∀ ys, ys.length = n → (∀ i y, ys[i]? = some y → T i y) → Fin ys news) :
    CompRest prog w A g L m env elt x scope cl s S P Fin n 0 [] news := by
  refine comp_inv n (fun i ys nw => nw = news ∧ ys.length = i ∧ ∀ j y, ys[j]? = some y → T j y) ?_ ?_ n 0 [] news (by omega) ⟨rfl, rfl, fun j y h => by simp at h⟩
  · rintro i ys nw v I oI C oC D m₂ h tk hi ⟨rfl, hlen, hT⟩ hP hC hx F N off ne
    refine wpAny_mono (turn i v I oI C oC D _ m₂ h tk hi hP hC hx F N off ne) (fun y s₂ h₂ => ?_) fun _ _ x => x
    obtain ⟨hTi, h', tk', rfl, F', nn, N', hin⟩ := h₂
    refine CompEnd.intro F' N' nw hin.mem off hS ⟨rfl, by simp [hlen], fun j z hj => ?_⟩
    rcases Nat.lt_or_ge j ys.length with q | q
    · rw [List.getElem?_append_left q] at hj
      exact hT j z hj
    · rw [List.getElem?_append_right q] at hj
      have : j - ys.length = 0 := by
        cases e : j - ys.length with
        | zero => rfl
        | succ k => rw [e] at hj; simp at hj
      rw [this] at hj
      simp at hj
      have hji : j = i := by omega
      rw [hji, ← hj]; exact hTi
  · rintro ys nw ⟨rfl, hlen, hT⟩
    exact fin ys hlen hT
end

end partComp2
section partText2
open PySem PySem.W PyProof.Rows PySem.Calls PyProof.Rows.LCg
/-- a text by its signs -/
noncomputable def T (l : List Nat) : Str := ⟨l.toArray⟩
theorem T_cps (l : List Nat) : (T l).cps = l.toArray := rfl
theorem T_append (a b : List Nat) : T a ++ T b = T (a ++ b) := by
  apply Str.ext'
  rw [Str.cps_append]; simp [T]
theorem T_len (l : List Nat) : (T l).length = l.length := by simp [T, Str.length]
theorem T_eta (x : Str) : x = T x.cps.toList := by
  obtain ⟨a⟩ := x
  simp [T]
theorem sign_ne {c d : Nat} {s : Str} (h : ¬ c = d) (e : s = ⟨#[d]⟩) : ((⟨#[c]⟩ : Str) == s) = false := by
  rw [e]
  have : (⟨#[c]⟩ : Str) ≠ ⟨#[d]⟩ := fun q => h (by have := congrArg Str.cps q; simpa using this)
  simpa using this
theorem T_inj {a b : List Nat} (h : T a = T b) : a = b := by
  have := congrArg (fun x : Str => x.cps.toList) h
  simpa [T] using this
theorem foldl_glue : ∀ (xs : List (List Nat)) (acc : Array Nat), (xs.map T).foldl (fun (acc : Array Nat) (p : Str) => acc ++ (#[] : Array Nat) ++ p.cps) acc = acc ++ xs.flatten.toArray
  | [], acc => by simp
  | x :: r, acc => by
    rw [List.map_cons, List.foldl_cons, foldl_glue r]
    simp [T]
theorem join_T (xs : List (List Nat)) : Txt.join (PySem.Str.ofString "") (xs.map T) = T xs.flatten := by
  have he : PySem.Str.ofString "" = ⟨#[]⟩ := by decide +kernel
  rw [he]
  cases xs with
  | nil => rfl
  | cons x r =>
    show (⟨(r.map T).foldl (fun (acc : Array Nat) (p : Str) => acc ++ (#[] : Array Nat) ++ p.cps) (T x).cps⟩ : Str) = _
    rw [foldl_glue]
    simp [T]
theorem strs_of : ∀ {ys : List Value} {xs : List Str}, ys.length = xs.length → (∀ (i : Nat) y, ys[i]? = some y → ∃ x t, xs[i]? = some x ∧ y = Value.str x t) → StrsAre ys xs
  | [], [], _, _ => .nil
  | y :: ys, x :: xs, hl, h => by
    obtain ⟨x', t, e1, e2⟩ := h 0 y rfl
    cases e1
    rw [e2]
    exact .cons _ _ (strs_of (by simpa using hl) fun i y hy => by simpa using h (i + 1) y (by simpa using hy))
  | [], _ :: _, hl, _ => by simp at hl
  | _ :: _, [], hl, _ => by simp at hl
theorem sum_len_T (xs : List (List Nat)) : ((xs.map T).map (·.length)).sum = xs.flatten.length := by
  induction xs with
  | nil => rfl
  | cons x r ih => simp only [List.map_cons, List.sum_cons, T_len, ih, List.flatten_cons, List.length_append]
theorem item_int : ∀ {ws : List Value} {ns : List Int}, IntsAre ws ns → ∀ {i : Nat} {v : Value}, ws[i]? = some v → ∃ n t, ns[i]? = some n ∧ v = Value.int n t ∧ n ∈ ns
  | _, _, .cons n t h, 0, v, hv => ⟨n, t, rfl, (Option.some.inj hv).symm, .head _⟩
  | _, _, .cons _ _ h, i + 1, v, hv => by
    obtain ⟨n, t, e1, e2, e3⟩ := item_int h (i := i) (by simpa using hv)
    exact ⟨n, t, by simpa using e1, e2, .tail _ e3⟩
theorem item_str : ∀ {ws : List Value} {ns : List Str}, StrsAre ws ns → ∀ {i : Nat} {v : Value}, ws[i]? = some v → ∃ n t, ns[i]? = some n ∧ v = Value.str n t ∧ n ∈ ns
  | _, _, .cons n t h, 0, v, hv => ⟨n, t, rfl, (Option.some.inj hv).symm, .head _⟩
  | _, _, .cons _ _ h, i + 1, v, hv => by
    obtain ⟨n, t, e1, e2, e3⟩ := item_str h (i := i) (by simpa using hv)
    exact ⟨n, t, by simpa using e1, e2, .tail _ e3⟩
noncomputable def mx3 (a b c : Int) : Int := if b > a then (if c > b then c else b) else (if c > a then c else a)
noncomputable def mn3 (a b c : Int) : Int := if b < a then (if c < b then c else b) else (if c < a then c else a)
section
variable {prog : Program} {w : World} {A : Around} {E : Value → Shared → Prop} {g h : Heap} {L : Addr} {m : Str → Option Value} {news : List (Addr × Obj)} {gn : Array GenState} {dr : Drawn} {tk : Nat} {os : OsState}
theorem m_max3 {a b c : Int} {t u x : Tok} {Q : Value → Shared → Prop} (F : Fr g L h m) (N : News g L h news) (hh : A.handled = none)
    (k : ∀ h' tk t', Fr g L h' m → News g L h' news → Q (.int (mx3 a b c) t') ⟨h', gn, dr, tk, os⟩) : wpAny (model prog w) A (call (.builtin "max") [.int a t, .int b u, .int c x]) Q E ⟨h, gn, dr, tk, os⟩ := by
  refine max_three_ints hh fun h' tk' hk => ?_
  have e : ∃ t', (if b > a then (if c > b then Value.int c x else .int b u) else (if c > a then .int c x else .int a t)) = .int (mx3 a b c) t' := by
    unfold mx3
    by_cases h1 : b > a
    · by_cases h2 : c > b
      · exact ⟨x, by simp [h1, h2]⟩
      · exact ⟨u, by simp [h1, h2]⟩
    · by_cases h2 : c > a
      · exact ⟨x, by simp [h1, h2]⟩
      · exact ⟨t, by simp [h1, h2]⟩
  obtain ⟨t', e⟩ := e
  rw [e]
  exact k h' tk' t' (F.keeps hk) (N.grown hk)
theorem m_min3 {a b c : Int} {t u x : Tok} {Q : Value → Shared → Prop} (F : Fr g L h m) (N : News g L h news) (hh : A.handled = none)
    (k : ∀ h' tk t', Fr g L h' m → News g L h' news → Q (.int (mn3 a b c) t') ⟨h', gn, dr, tk, os⟩) : wpAny (model prog w) A (call (.builtin "min") [.int a t, .int b u, .int c x]) Q E ⟨h, gn, dr, tk, os⟩ := by
  refine min_three_ints hh fun h' tk' hk => ?_
  have e : ∃ t', (if b < a then (if c < b then Value.int c x else .int b u) else (if c < a then .int c x else .int a t)) = .int (mn3 a b c) t' := by
    unfold mn3
    by_cases h1 : b < a
    · by_cases h2 : c < b
      · exact ⟨x, by simp [h1, h2]⟩
      · exact ⟨u, by simp [h1, h2]⟩
    · by_cases h2 : c < a
      · exact ⟨x, by simp [h1, h2]⟩
      · exact ⟨t, by simp [h1, h2]⟩
  obtain ⟨t', e⟩ := e
  rw [e]
  exact k h' tk' t' (F.keeps hk) (N.grown hk)
end
/-- what the call found fresh -/
theorem fresh_of {wr : List Addr} {s : Shared} {g h : Heap} {L l : Addr} {o : Obj} {news : List (Addr × Obj)} (kg : Kp wr s.heap g) (N : News g L h news) (hm : (l, o) ∈ news) (hl : l ∉ wr) : s.heap.get? l = none := by
  cases q : s.heap.get? l with
  | none => rfl
  | some o' => have := kg l o' hl q; rw [News.fresh N hm] at this; cases this
theorem len_succ {α : Type} {n : Nat} : ∀ {ys : List α}, ys.length = n + 1 → ∃ y r, ys = y :: r ∧ r.length = n
  | y :: r, h => ⟨y, r, rfl, by simpa using h⟩
theorem len_zero {α : Type} : ∀ {ys : List α}, ys.length = 0 → ys = []
  | [], _ => rfl
theorem three_of {α : Type} {ys : List α} (h : ys.length = 3) : ∃ a b c, ys = [a, b, c] := by
  obtain ⟨a, r, e1, h1⟩ := len_succ h
  obtain ⟨b, r2, e2, h2⟩ := len_succ h1
  obtain ⟨c, r3, e3, h3⟩ := len_succ h2
  exact ⟨a, b, c, by rw [e1, e2, e3, len_zero h3]⟩
theorem six_of {α : Type} {ys : List α} (h : ys.length = 6) : ∃ a b c d e f, ys = [a, b, c, d, e, f] := by
  obtain ⟨a, r, e1, h1⟩ := len_succ h
  obtain ⟨b, r2, e2, h2⟩ := len_succ h1
  obtain ⟨c, r3, e3, h3⟩ := len_succ h2
  obtain ⟨d, e, f, e4⟩ := three_of h3
  exact ⟨a, b, c, d, e, f, by rw [e1, e2, e3, e4]⟩

end partText2
section partProg2
noncomputable abbrev prog := PySem.Challenge.pw_pg0230_02

end partProg2
section partCell2
open PySem PySem.W PyProof.Rows PySem.Calls
section
variable {prog : Program} {w : World} {A : Around} {s : Shared} {K : Frag} {R : Result → Shared → Prop}
  {name qual : Str} {params : Arguments} {body : List Stmt} {scope : Scope} {dV kV doc pm cdv ct oc : Value} {an od : Option Addr} {osl : Array (Option Value)} {f : Addr} {args : Args} {binds rb : List (Str × Value)} {cl : List (Str × Addr)} {fo : Obj}
/-- a call of a function that owns cells -/
theorem enter_cells (mu : List (Addr × Obj)) (G : Gd K (hideAll s.heap (mu.map (·.1)))) (N : ∀ p ∈ mu, s.heap.get? p.1 = some p.2)
    (ho : K.lookup f = some ⟨oc, od, .func (fnX name qual params body scope [] dV kV doc pm an cdv ct), osl⟩) (hcd : codeIn K cdv qual = true) (hroom : A.depth < recursionLimit)
    (hbind : BindsTo s (fnX name qual params body scope [] dV kV doc pm an cdv ct) args binds)
    (hkind : ∀ n, ∀ x ∈ binds, scope.names.lookup x.1 = some .local ∨ (scope.names.lookup x.1 = some .cell ∧ ((cellsFrom n scope.names []).lookup x.1).isSome = true))
    (hnd : ((cellsFrom 0 scope.names []).map (·.1)).Nodup) (hbl : ∀ L', bindL (envOfC qual scope L' f cdv).kindOf binds (fun _ => none) = over rb fun _ => none)
    (h : ∀ g L' h₁ tk cells p loose mean mg mb, Kp (mu.map (·.1)) s.heap g → Fr g L' h₁ (over rb fun _ => none) → News g L' h₁ (cells ++ mu) → K.In g → Top p loose mean mg mb g → (∀ p ∈ mu, p.1 < L') → s.heap.objs.size ≤ L' →
      CellsAre (bindC (envOfC qual scope L' f cdv).kindOf binds fun _ => none) (cellsFrom (L' + 1) scope.names []) cells →
      wpAny (model prog w) (A.deeper (envOfC qual scope L' f cdv)) (execs body (envOfC qual scope L' f cdv))
        (fun fl s' => R (.ok (.ret (match fl with | .ret v => v | _ => .none))) s') (fun _ _ => False) { s with heap := h₁, toks := tk })
    (hco : scope.isCoroutine = false) (hgen : scope.isGenerator = false) (hk : scope.kind = .function) :
    codeAny (model prog w) A (.call (.ref f) args) R s := by
  obtain ⟨X, p, loose, mean, mg, mb, T⟩ := G
  have un : ∀ b o, (hideAll s.heap (mu.map (·.1))).get? b = some o → s.heap.get? b = some o := fun b o e => of_hideAll _ e
  refine codeAny_call_function hroom (un _ _ (X _ _ ho)) rfl hco hgen rfl ((codeRec_of X hcd).keeps un) (hbind _ _ _ _ ?_)
  refine wpAny_newFunctionEnv_cells hk (hkind _) fun env' he s' x => ?_
  subst he
  refine ⟨(T.nolimit.keeps un).keeps x.toInCall.keep, codeAny_func ?_⟩
  obtain ⟨h₁, tk, rfl, _⟩ := x.done
  have hk₁ := x.toInCall.keep
  obtain ⟨cells, NC, Y⟩ := Cl.news (h₀ := s.heap) (Nat.le_refl _) fun n c hm => ⟨x.cell n c (lookup_of_mem_nodup (cellsFrom_names scope.names 0 (s.heap.objs.size + 1) [] [] rfl ▸ hnd) hm), x.above n c hm⟩
  refine wpAny_mono (h (hideAll s.heap (mu.map (·.1))) s.heap.objs.size h₁ tk cells p loose mean mg mb (fun b o n e => hideAll_get _ e n) ⟨by rw [← hbl s.heap.objs.size]; exact x.toInCall.ns, fun b o e => hk₁ b o (un b o e), Nat.le_of_eq (hideAll_size _ _)⟩
    (fun p hp => ?_) X T (fun p hp => Heap.lt_size (N p hp)) (Nat.le_refl _) Y) (fun _ _ y => y) fun _ _ y => y.elim
  rcases List.mem_append.mp hp with hp | hp
  · refine ⟨(NC p hp).1, (NC p hp).2.1, ?_⟩
    cases q : (hideAll s.heap (mu.map (·.1))).get? p.1 with
    | none => rfl
    | some o => have := of_hideAll _ q; rw [(NC p hp).2.2] at this; cases this
  · exact ⟨hk₁ _ _ (N p hp), Nat.ne_of_lt (Heap.lt_size (N p hp)), hideAll_none _ (List.mem_map_of_mem hp)⟩
/-- a call of a function object that closes over cells -/
theorem enter_clos (mu : List (Addr × Obj)) (G : Gd K (hideAll s.heap (mu.map (·.1)))) (N : ∀ p ∈ mu, s.heap.get? p.1 = some p.2)
    (ho : s.heap.get? f = some fo) (hd : fo.data = .func (fnX name qual params body scope cl dV kV doc pm an cdv ct)) (hcd : s.heap.CodeRec cdv qual) (hroom : A.depth < recursionLimit)
    (hbind : BindsTo s (fnX name qual params body scope cl dV kV doc pm an cdv ct) args binds) (hloc : ∀ y ∈ binds, scope.names.lookup y.1 = some .local) (hrb : binds.reverse = rb)
    (h : ∀ g L' h₁ p loose mean mg mb, Kp (mu.map (·.1)) s.heap g → Fr g L' h₁ (over rb fun _ => none) → News g L' h₁ mu → K.In g → Top p loose mean mg mb g → (∀ p ∈ mu, p.1 < L') → s.heap.objs.size ≤ L' →
      wpAny (model prog w) (A.deeper (envX qual scope L' f cdv cl)) (execs body (envX qual scope L' f cdv cl))
        (fun fl s' => R (.ok (.ret (match fl with | .ret v => v | _ => .none))) s') (fun _ _ => False) { s with heap := h₁, toks := s.toks + binds.length })
    (hcell : ∀ x ∈ scope.names, x.2 ≠ .cell) (hco : scope.isCoroutine = false) (hgen : scope.isGenerator = false) (hk : scope.kind = .function) :
    codeAny (model prog w) A (.call (.ref f) args) R s := by
  obtain ⟨X, p, loose, mean, mg, mb, T⟩ := G
  have un : ∀ b o, (hideAll s.heap (mu.map (·.1))).get? b = some o → s.heap.get? b = some o := fun b o e => of_hideAll _ e
  refine codeAny_call_def (fd := fnX name qual params body scope cl dV kV doc pm an cdv ct) (body := body) (binds := binds) hroom ho hd (T.nolimit.keeps un) hcd rfl hbind hcell hloc (fun h₁ hns hk₁ => ?_) hco hgen hk
  refine wpAny_mono (h (hideAll s.heap (mu.map (·.1))) s.heap.objs.size h₁ p loose mean mg mb (fun b o n e => hideAll_get _ e n) ⟨by rw [← hrb, ← lookup_over]; exact hns, fun b o e => hk₁ b o (un b o e), Nat.le_of_eq (hideAll_size _ _)⟩
    (fun p hp => ⟨hk₁ _ _ (N p hp), Nat.ne_of_lt (Heap.lt_size (N p hp)), hideAll_none _ (List.mem_map_of_mem hp)⟩) X T (fun p hp => Heap.lt_size (N p hp)) (Nat.le_refl _)) (fun _ _ y => y) fun _ _ y => y.elim
end
/-- the top's objects stand for a callee, the ledger's own laid aside -/
theorem gd_of {K : Frag} {g h : Heap} {L : Addr} {m : Str → Option Value} {news : List (Addr × Obj)} {p : Program} {loose : List Str} {mean : ExcName → Option Value} {mg mb : Str → Option Value}
    (X : K.In g) (T : Top p loose mean mg mb g) (F : Fr g L h m) (N : News g L h news) (wr : List Addr) (hw : ∀ a ∈ wr, ∃ o, (a, o) ∈ news) : Gd K (hideAll h wr) :=
  Gd.keeps ⟨X, p, loose, mean, mg, mb, T⟩ (stays_hide F N wr hw)
theorem gd_of0 {K : Frag} {g h : Heap} {L : Addr} {m : Str → Option Value} {p : Program} {loose : List Str} {mean : ExcName → Option Value} {mg mb : Str → Option Value}
    (X : K.In g) (T : Top p loose mean mg mb g) (F : Fr g L h m) : Gd K h := Gd.keeps ⟨X, p, loose, mean, mg, mb, T⟩ F.keep
noncomputable def HasAll (news : List (Addr × Obj)) : List Addr → Prop
  | [] => True
  | a :: r => (∃ o, (a, o) ∈ news) ∧ HasAll news r
theorem HasAll.mem {news : List (Addr × Obj)} : ∀ {wr : List Addr}, HasAll news wr → ∀ a ∈ wr, ∃ o, (a, o) ∈ news
  | [], _, _, hm => nomatch hm
  | b :: r, h, a, hm => by
    rcases List.mem_cons.mp hm with e | hm
    · rw [e]; exact h.1
    · exact HasAll.mem h.2 a hm
/-- what a call of a spec leaves of the ledger -/
noncomputable def Aft (wr : List Addr) (news : List (Addr × Obj)) (h h' : Heap) : List (Addr × Obj) → Prop
  | [] => True
  | p :: r => ((p ∈ news ∧ p.1 ∉ wr) ∨ (h'.get? p.1 = some p.2 ∧ ((∃ o, (p.1, o) ∈ news) ∨ h.get? p.1 = none))) ∧ Aft wr news h h' r
theorem Aft.mem {wr : List Addr} {news : List (Addr × Obj)} {h h' : Heap} : ∀ {l : List (Addr × Obj)}, Aft wr news h h' l → ∀ p ∈ l, (p ∈ news ∧ p.1 ∉ wr) ∨ (h'.get? p.1 = some p.2 ∧ ((∃ o, (p.1, o) ∈ news) ∨ h.get? p.1 = none))
  | [], _, _, hm => nomatch hm
  | q :: r, h, p, hm => by
    rcases List.mem_cons.mp hm with e | hm
    · rw [e]; exact h.1
    · exact Aft.mem h.2 p hm
theorem afterL {b h h' : Heap} {L : Addr} {m : Str → Option Value} {news : List (Addr × Obj)} {wr : List Addr} (news' : List (Addr × Obj)) (F : Fr b L h m) (N : News b L h news) (k : Kp wr h h') (hw : HasAll news wr) (hn : Aft wr news h h' news') : Fr b L h' m ∧ News b L h' news' := by
  obtain ⟨⟨oL, es, ep, hL, r⟩, ke, ab⟩ := F
  have nL : L ∉ wr := fun q => by obtain ⟨o, hm⟩ := hw.mem L q; exact (N _ hm).2.1 rfl
  refine ⟨⟨⟨oL, es, ep, k _ _ nL hL, r⟩, fun c o e => k _ _ (fun q => ?_) (ke c o e), ab⟩, fun p hp => ?_⟩
  · obtain ⟨o', hm⟩ := hw.mem c q
    have := (N _ hm).2.2
    rw [this] at e; cases e
  · rcases hn.mem p hp with ⟨h1, h2⟩ | ⟨h1, ⟨o, h2⟩ | h2⟩
    · exact ⟨k _ _ h2 (N p h1).1, (N p h1).2⟩
    · exact ⟨h1, (N _ h2).2⟩
    · refine ⟨h1, (fun e => by rw [e, hL] at h2; cases h2), ?_⟩
      cases q : b.get? p.1 with
      | none => rfl
      | some o => rw [ke _ _ q] at h2; cases h2
/-- the two newest of the ledger were written, and ex is new -/
theorem after_two {b h h' : Heap} {L x d : Addr} {m : Str → Option Value} {o1 o2 n1 n2 : Obj} {rest : List (Addr × Obj)} (ex : List (Addr × Obj)) (F : Fr b L h m) (N : News b L h ((x, o1) :: (d, o2) :: rest)) (k : Kp [x, d] h h')
    (e1 : h'.get? x = some n1) (e2 : h'.get? d = some n2) (hrest : ∀ p ∈ rest, p.1 < d) (hxd : d < x) (hex : ∀ p ∈ ex, h'.get? p.1 = some p.2 ∧ h.get? p.1 = none) : Fr b L h' m ∧ News b L h' ((x, n1) :: (d, n2) :: (ex ++ rest)) := by
  refine afterL _ F N k ⟨⟨_, .head _⟩, ⟨_, .tail _ (.head _)⟩, trivial⟩ ⟨.inr ⟨e1, .inl ⟨_, .head _⟩⟩, .inr ⟨e2, .inl ⟨_, .tail _ (.head _)⟩⟩, ?_⟩
  have go : ∀ l : List (Addr × Obj), (∀ p ∈ l, p ∈ ex ∨ p ∈ rest) → Aft [x, d] ((x, o1) :: (d, o2) :: rest) h h' l := by
    intro l
    induction l with
    | nil => intro _; trivial
    | cons p r ih =>
      intro hl
      refine ⟨?_, ih fun q hq => hl q (.tail _ hq)⟩
      rcases hl p (.head _) with hp | hp
      · exact .inr ⟨(hex p hp).1, .inr (hex p hp).2⟩
      · refine .inl ⟨.tail _ (.tail _ hp), fun q => ?_⟩
        have hlt := hrest p hp
        rcases List.mem_cons.mp q with e | q
        · rw [e] at hlt; exact absurd (Nat.lt_trans hlt hxd) (Nat.lt_irrefl _)
        · rw [List.mem_singleton.mp q] at hlt; exact absurd hlt (Nat.lt_irrefl _)
  exact go _ fun p hp => List.mem_append.mp hp
noncomputable def NAll (h : Heap) : List (Addr × Obj) → Prop
  | [] => True
  | p :: r => h.get? p.1 = some p.2 ∧ NAll h r
theorem NAll.mem {h : Heap} : ∀ {l : List (Addr × Obj)}, NAll h l → ∀ p ∈ l, h.get? p.1 = some p.2
  | [], _, _, hm => nomatch hm
  | q :: r, x, p, hm => by
    rcases List.mem_cons.mp hm with e | hm
    · rw [e]; exact x.1
    · exact NAll.mem x.2 p hm
theorem after_none {b h h' : Heap} {L : Addr} {m : Str → Option Value} {news : List (Addr × Obj)} (F : Fr b L h m) (N : News b L h news) (k : Kp [] h h') : Fr b L h' m ∧ News b L h' news :=
  ⟨F.keeps fun b o e => k b o (fun q => nomatch q) e, fun p hp => ⟨k _ _ (fun q => nomatch q) (N p hp).1, (N p hp).2⟩⟩
theorem after_one {b h h' : Heap} {L l : Addr} {o : Obj} {m : Str → Option Value} {news : List (Addr × Obj)} (F : Fr b L h m) (N : News b L h news) (k : Kp [] h h') (e : h'.get? l = some o) (e0 : h.get? l = none) : Fr b L h' m ∧ News b L h' ((l, o) :: news) := by
  obtain ⟨F', N'⟩ := after_none F N k
  refine ⟨F', fun p hp => ?_⟩
  rcases List.mem_cons.mp hp with q | hp
  · rw [q]
    refine ⟨e, fun q => ?_, ?_⟩
    · obtain ⟨⟨oL, es, ep, hL, r⟩, ke, ab⟩ := F
      dsimp only at q
      rw [q, hL] at e0; cases e0
    · cases z : b.get? l with
      | none => rfl
      | some o => rw [F.keep _ _ z] at e0; cases e0
  · exact N' p hp
/-- the callee's address is new to the ledger -/
theorem new_ne {b h : Heap} {L l a : Addr} {o : Obj} {news : List (Addr × Obj)} (N : News b L h news) (e0 : h.get? l = none) (hm : (a, o) ∈ news) : l ≠ a := fun q => by
  have := (N _ hm).1
  rw [← q, e0] at this; cases this

end partCell2
section partCall2
open PySem PySem.W PyProof.Rows PySem.Calls
theorem slot_cit_next : Slot "callable_iterator" "__next__" "callable_iterator.__next__" :=
  .of (owner := "callable_iterator") (n := "__next__") (by rw [typeLookup_type, builtinLookup_eq_fast]; kernel_rfl) (by decide +kernel) (by decide +kernel) (by decide +kernel)
    (by first | exact .inl (by decide +kernel) | exact .inr (by decide +kernel)) (by rw [isSubtype_type]; kernel_rfl)
theorem slot_cit_iter : Slot "callable_iterator" "__iter__" "callable_iterator.__iter__" :=
  .of (owner := "callable_iterator") (n := "__iter__") (by rw [typeLookup_type, builtinLookup_eq_fast]; kernel_rfl) (by decide +kernel) (by decide +kernel) (by decide +kernel)
    (by first | exact .inl (by decide +kernel) | exact .inr (by decide +kernel)) (by rw [isSubtype_type]; kernel_rfl)
theorem entry_cit_iter : entryFor table "callable_iterator.__iter__" = some Builtin.«dict_keyiterator.__iter__» :=
  entryFor_alias (id' := "dict_keyiterator.__iter__") (by kernel_rfl) (by first | rfl | decide +kernel | (unfold String.splitOn; simp +decide [String.splitOnAux])) (by decide +kernel) (by kernel_rfl)
theorem entry_cit_next : entryFor table "callable_iterator.__next__" = some Builtin.«callable_iterator.__next__» := entryFor_of_tree (by kernel_rfl)
theorem owner_cit : Manifest.owners.lookup (String.ofList ['r', 'o', 't', 'a', 'r', 'e', 't', 'i', '_', 'e', 'l', 'b', 'a', 'l', 'l', 'a', 'c'].reverse) = some Manifest.sig_callable_iterator := by kernel_rfl
theorem args_cit_next (a : Value) : argsOk "callable_iterator.__next__" ⟨[a], []⟩ := by
  unfold argsOk; rw [signature?_of (id := "callable_iterator.__next__") (n := ['_', '_', 't', 'x', 'e', 'n', '_', '_']) (o := ['r', 'o', 't', 'a', 'r', 'e', 't', 'i', '_', 'e', 'l', 'b', 'a', 'l', 'l', 'a', 'c']) (by kernel_rfl) owner_cit]; kernel_rfl
theorem args_cit_iter (a : Value) : argsOk "callable_iterator.__iter__" ⟨[a], []⟩ := by
  unfold argsOk; rw [signature?_of (id := "callable_iterator.__iter__") (n := ['_', '_', 'r', 'e', 't', 'i', '_', '_']) (o := ['r', 'o', 't', 'a', 'r', 'e', 't', 'i', '_', 'e', 'l', 'b', 'a', 'l', 'l', 'a', 'c']) (by kernel_rfl) owner_cit]; kernel_rfl
noncomputable abbrev citObj (f snt b : Value) : Obj := { cls := .type "callable_iterator", data := .fields #[f, snt, b] }
section
variable {prog : Program} {w : World} {A : Around} {E : Value → Shared → Prop} {s : Shared}
theorem wpAny_callBorrowed {f : Value} {pos : List Value} {Q : Value → Shared → Prop}
    (hc : codeAny M A (.call f ⟨pos, []⟩) (fun r s' => match r with | .ok (.ret v) => Q v s' | .ok _ => False | .error e => E e s') s) : wpAny M A (callBorrowed f pos) Q E s := fun Γ p hΓ => by
  unfold callBorrowed
  rw [Sem.wp_call]
  refine wpCode_mono (fun r s' h => ?_) (hc _ p rfl (hΓ.enter _ none p (by intro x; cases x)))
  cases r with
  | error e => exact h
  | ok f =>
    cases f with
    | ret v => exact h
    | _ => exact h.elim
theorem iter_call {I : Addr} {f snt b : Value} {Q : Value → Shared → Prop} (hI : s.heap.get? I = some (citObj f snt b)) (h : Q (.ref I) s) : wpAny (model prog w) A (pyIter (.ref I)) Q E s := by
  have hT : s.TypeIs (.ref I) "callable_iterator" := ⟨_, hI, rfl⟩
  refine wpAny_pyIter_slot hT slot_cit_iter (wpAny_call_entry slot_cit_iter hT entry_cit_iter ?_ (args_cit_iter _))
  show wpAny _ _ (ret (.ref I)) _ _ s
  exact wpAny_pure ⟨_, rfl, "callable_iterator", _, hT, slot_cit_next.lookup, h⟩
theorem borrows {B f : Addr} {x : Value} {o : Obj} {fd : FuncData} {Q : Bool → Shared → Prop} (hB : s.heap.get? B = some (methodObj (.ref f) x)) (hf : s.heap.get? f = some o) (hd : o.data = .func fd) (h : Q true s) :
    wpAny (model prog w) A (borrowsExactly (.ref B)) Q E s := by
  unfold borrowsExactly
  refine wpAny_bind (wpAny_load hB ?_)
  show wpAny _ _ (load f >>= _) _ _ s
  refine wpAny_bind (wpAny_load hf ?_)
  rw [hd]
  exact wpAny_pure h
theorem next_call {I B f x : Addr} {o : Obj} {fd : FuncData} {snt : Str} {ts : Tok} {Q : Option Value → Shared → Prop}
    (hI : s.heap.get? I = some (citObj (.ref B) (.str snt ts) (.bool false))) (hB : s.heap.get? B = some (methodObj (.ref f) (.ref x))) (hf : s.heap.get? f = some o) (hfd : o.data = .func fd) (hh : A.handled = none)
    (hcall : codeAny (model prog w) A.in1 (.call (.ref f) ⟨[.ref x], []⟩) (fun r s' => ∃ y t, r = .ok (.ret (.str y t)) ∧ s'.heap.get? I = some (citObj (.ref B) (.str snt ts) (.bool false)) ∧ s'.heap.get? B = some (methodObj (.ref f) (.ref x)) ∧ s'.heap.get? f = some o ∧
      if snt = y then (∀ h', h'.get? I = some (citObj .none .none (.bool true)) → Heap.ExtBut I s'.heap h' → Q none { s' with heap := h' }) else Q (some (.str y t)) s') s) :
    wpAny (model prog w) A (pyNext (.ref I)) Q E s := by
  have hT : s.TypeIs (.ref I) "callable_iterator" := ⟨_, hI, rfl⟩
  unfold pyNext
  refine wpAny_bind (wpAny_attempt (wpAny_callSpecial?_slot (name := Str.ofString "__next__") hT slot_cit_next
    (wpAny_call_entry slot_cit_next hT entry_cit_next ?_ (args_cit_next _))))
  show wpAny _ _ (field (.ref I) 2 >>= _) _ _ s
  refine wpAny_bind (wpAny_field hI rfl (x := .bool false) rfl ?_)
  show wpAny _ _ (field (.ref I) 0 >>= _) _ _ s
  refine wpAny_bind (wpAny_field hI rfl (x := .ref B) rfl ?_)
  refine wpAny_bind (wpAny_attempt ?_)
  unfold callOutOfASlot
  refine wpAny_bind (borrows hB hf hfd ?_)
  refine wpAny_callBorrowed ?_
  refine ks_codeAny_call_bound hB ?_
  refine codeAny_mono hcall fun r s1 h1 => ?_
  obtain ⟨y, t, rfl, hI1, hB1, hf1, hQ⟩ := h1
  show wpAny _ _ (field (.ref I) 2 >>= _) _ _ s1
  refine wpAny_bind (wpAny_field hI1 rfl (x := .bool false) rfl ?_)
  show wpAny _ _ (field (.ref I) 1 >>= _) _ _ s1
  refine wpAny_bind (wpAny_field hI1 rfl (x := .str snt ts) rfl ?_)
  refine wpAny_bind (wpAny_holding (eqBool_str ?_))
  by_cases he : snt = y
  · rw [if_pos he] at hQ
    have : (snt == y) = true := by simpa using he
    rw [this]
    refine wpAny_bind (wpAny_rule ?_)
    refine wpAny_bind ?_
    show wpAny _ _ (field (.ref I) 0 >>= _) _ _ s1
    refine wpAny_bind (wpAny_field hI1 rfl (x := .ref B) rfl ?_)
    refine wpAny_bind ?_
    show wpAny _ _ (borrowsExactly (.ref B) >>= _) _ _ s1
    refine wpAny_bind (borrows hB1 hf1 hfd ?_)
    refine wpAny_pure ?_
    refine wpAny_bind (wpAny_setField_rec hI1 (by simp) fun h2 hI2 sb2 => ?_)
    refine wpAny_bind (wpAny_setField_rec (s := { s1 with heap := h2 }) hI2 (by simp) fun h3 hI3 sb3 => ?_)
    refine wpAny_setField_rec (s := { s1 with heap := h3 }) hI3 (by simp) fun h4 hI4 sb4 => ?_
    show wpAny _ _ (newExc (.type "StopIteration") [] >>= _) _ _ _
    refine wpAny_bind ?_
    simp only [newExc, newTuple]
    refine wpAny_bind (wpAny_newObj_type ?_ (by size_fits))
    refine wpAny_bind (m := firstArgMember _ _) (wpAny_of_eq (a := Value.none) (by first | rfl | (simp only [firstArgMember]; rfl)) ?_)
    refine wpAny_newObj_type ?_ (by size_fits)
    simp only [raiseNew]
    refine wpAny_bind (wpAny_handled ?_)
    rw [show A.in1.handled = none from hh]
    refine wpAny_bind (wpAny_pure (wpAny_throw ?_))
    refine wpAny_bind (wpAny_isInstance (T := "StopIteration") (b := true) ⟨_, Heap.get?_push_size _ rfl, rfl⟩ isSubtype_stop ?_)
    exact wpAny_pure (hQ _ (Heap.get?_push_of_some _ (Heap.get?_push_of_some _ hI4)) (((sb2.trans (sb3.trans sb4)).extBut.push _).push _))
  · rw [if_neg he] at hQ
    have : (snt == y) = false := by simpa using he
    rw [this]
    refine wpAny_bind (wpAny_pure (wpAny_pure ⟨_, rfl, wpAny_pure hQ⟩))
theorem next_ended {I : Addr} {Q : Option Value → Shared → Prop} (hI : s.heap.get? I = some (citObj .none .none (.bool true))) (hh : A.handled = none)
    (hQ : ∀ h', (∀ b o, s.heap.get? b = some o → h'.get? b = some o) → Q none { s with heap := h' }) : wpAny (model prog w) A (pyNext (.ref I)) Q E s := by
  have hT : s.TypeIs (.ref I) "callable_iterator" := ⟨_, hI, rfl⟩
  unfold pyNext
  refine wpAny_bind (wpAny_attempt (wpAny_callSpecial?_slot (name := Str.ofString "__next__") hT slot_cit_next
    (wpAny_call_entry slot_cit_next hT entry_cit_next ?_ (args_cit_next _))))
  show wpAny _ _ (field (.ref I) 2 >>= _) _ _ s
  refine wpAny_bind (wpAny_field hI rfl (x := .bool true) rfl ?_)
  refine wpAny_bind (wpAny_rule ?_)
  refine wpAny_bind ?_
  show wpAny _ _ (newExc (.type "StopIteration") [] >>= _) _ _ _
  refine wpAny_bind ?_
  simp only [newExc, newTuple]
  refine wpAny_bind (wpAny_newObj_type ?_ (by size_fits))
  refine wpAny_bind (m := firstArgMember _ _) (wpAny_of_eq (a := Value.none) (by first | rfl | (simp only [firstArgMember]; rfl)) ?_)
  refine wpAny_newObj_type ?_ (by size_fits)
  simp only [raiseNew]
  refine wpAny_bind (wpAny_handled ?_)
  rw [show A.in1.handled = none from hh]
  refine wpAny_bind (wpAny_pure (wpAny_throw ?_))
  refine wpAny_bind (wpAny_isInstance (T := "StopIteration") (b := true) ⟨_, Heap.get?_push_size _ rfl, rfl⟩ isSubtype_stop ?_)
  exact wpAny_pure (hQ _ fun b o e => Heap.get?_push_of_some _ (Heap.get?_push_of_some _ e))
/-- how a turn ends: the loop goes on with J below k, or leaves -/
noncomputable def TurnJ (J : Nat → Shared → Prop) (k : Nat) (Q : Flow → Shared → Prop) (fl : Flow) (s' : Shared) : Prop :=
  match fl with
  | .ret v => Q (.ret v) s'
  | .brk => Q .next s'
  | _ => ∃ m, m < k ∧ J m s'
theorem TurnJ.goes {J : Nat → Shared → Prop} {k m : Nat} {Q : Flow → Shared → Prop} {fl : Flow} {s' : Shared} (hf : fl = .next ∨ fl = .cont) (hm : m < k) (h : J m s') : TurnJ J k Q fl s' := by
  rcases hf with rfl | rfl <;> exact ⟨m, hm, h⟩
theorem for_J {target : Expr} {it : Value} {body : List Stmt} {env : Env} {Q : Flow → Shared → Prop} (J : Nat → Shared → Prop) (n : Nat) (hJ : J n s)
    (turn : ∀ k s', J k s' → wpAny (model prog w) A (pyNext it) (fun r s₁ => match r with | none => Q .next s₁ | some v => wpAny (model prog w) A (assign target env v) (fun _ s₂ => wpAny (model prog w) A (execs body env) (TurnJ J k Q) noE s₂) noE s₁) noE s')
    (ht : ∀ v, letOwnedTupleGo target it v = pure () := by intro _; rfl) :
    codeAny (model prog w) A (.forLoop target it body [] env) (fun r s' => match r with | .ok f => Q f s' | .error e => E e s') s := by
  refine codeAny_forLoop J (fun k s' h => ?_) n hJ ht
  refine wpAny_noE (wpAny_mono (turn k s' h) (fun r s₁ h₁ => ?_) fun _ _ x => x)
  cases r with
  | none => exact wpAny_execs_nil h₁
  | some v =>
    refine wpAny_noE (wpAny_mono h₁ (fun _ s₂ h₂ => wpAny_noE (wpAny_mono h₂ (fun f s₃ h₃ => ?_) fun _ _ x => x)) fun _ _ x => x)
    cases f with
    | ret v => exact h₃
    | brk => exact h₃
    | next => exact h₃
    | cont => exact h₃
theorem look_method_call : typeLookup (.type "method") "__call__" = pure (some (.builtin "method.__call__")) := by rw [typeLookup_type, builtinLookup_eq_fast]; kernel_rfl
theorem iter2 {B : Addr} {f x snt : Value} {Q : Value → Shared → Prop} (hB : s.heap.get? B = some (methodObj f x)) (h : Q (.ref s.heap.objs.size) { s with heap := s.heap.push (citObj (.ref B) snt (.bool false)) }) :
    wpAny (model prog w) A (call (.builtin "iter") [.ref B, snt]) Q E s := by
  refine call_function_entry (by decide +kernel) (by decide +kernel) (entryFor_of_fast (by kernel_rfl)) (b := Builtin.«iter») (by unfold argsOk; kernel_rfl) ?_
  unfold Builtin.«iter»
  refine wpAny_bind (m := someArgs "iter" 1 2 _) (wpAny_of_eq (a := [Value.ref B, snt]) (by first | rfl | kernel_rfl!) ?_)
  refine wpAny_bind (wpAny_specialOf (T := "method") ⟨_, hB, rfl⟩ look_method_call ?_)
  refine wpAny_bind (wpAny_rule ?_)
  exact wpAny_bind (wpAny_newObj_type (wpAny_pure ⟨_, rfl, h⟩))
theorem kl_pop0 {h₀ : Heap} {L D : Addr} {m : Str → Option Value} {news news' : List (Addr × Obj)} {y : Value} {r : List Value} {n : Nat} {u : Tok} {Q : Value → Shared → Prop} (F : Fr h₀ L s.heap m) (N : News h₀ L s.heap news)
    (U : Upd D (listOf (y :: r).toArray n) (listOf r.toArray (n + 1)) news news') (hz : (y :: r).length ≤ sizeLine) (h : ∀ h', Fr h₀ L h' m → News h₀ L h' news' → Q y { s with heap := h' }) :
    wpAny (model prog w) A (call (.builtin "list.pop") [.ref D, .int 0 u]) Q E s := by
  obtain ⟨pre, post, rfl, rfl, a, b⟩ := U.split
  have z := N (D, listOf (y :: r).toArray n) (List.mem_append.mpr (.inr (.head _)))
  have hk : seqIndex? 0 (y :: r).toArray.size = some 0 := by unfold seqIndex?; simp
  refine call_meets PySem.F.slot_list_pop ⟨_, z.1, rfl⟩ PySem.F.entry_list_pop (PySem.F.args_list_pop_2 _ _) (PySem.MeetsSeq.list_pop_at D _ n 0 u 0 y (by decide) hk (by simp) (by rw [List.size_toArray]; exact hz)) ⟨z.1, h _ (F.change (Heap.SameBut.update ..) z.2.1 z.2.2) (kl_turn _ N a b ?_ ?_)⟩
  · show (y :: r).toArray.eraseIdxIfInBounds 0 = r.toArray
    unfold Array.eraseIdxIfInBounds
    simp
  · simp
end

end partCall2
section partSl2
open PySem PySem.W PyProof.Rows PySem.Calls PyProof.Rows.LCg PySem.Spec
theorem slice_T_from {l : List Nat} {i : Int} (h0 : 0 ≤ i) (h1 : i ≤ l.length) : Txt.slice (T l) (some i) none = T (l.drop i.toNat) := by
  rw [slice_from_eq (b := (l.length : Int)) h0 (by rw [T_len]; exact h1) (by rw [T_len])]
  unfold T
  simp only [List.toList_toArray]
  rw [List.take_of_length_le (by rw [List.length_drop]; omega)]
theorem slice_T_neg {l : List Nat} {i : Int} (h0 : i < 0) (h1 : -(l.length : Int) ≤ i) : Txt.slice (T l) (some i) none = T (l.drop (i + l.length).toNat) := by
  have e : Txt.slice (T l) (some i) none = Txt.slice (T l) (some (i + l.length)) none := by
    unfold Txt.slice
    rw [StrLaws.sliceIdx_neg_lo none (T l).length h0 (by rw [T_len]; exact h1), T_len]
  rw [e, slice_T_from (by omega) (by omega)]
theorem slice_T_ss {l : List Nat} {i j : Int} (h0 : 0 ≤ i) (h1 : i ≤ j) (h2 : j ≤ l.length) : Txt.slice (T l) (some i) (some j) = T ((l.drop i.toNat).take (j - i).toNat) := by
  have h := slice_closes (x := T l) (i := i) (j := j) ⟨h0, h1, by simpa [T] using h2⟩
  rw [beq_iff_eq.mp h]
  unfold T
  simp only [List.toList_toArray]
theorem m_lenT {prog : Program} {w : World} {A : Around} {E : Value → Shared → Prop} {s : Shared} {l : List Nat} {t : Tok} {Q : Value → Shared → Prop} (h63 : l.length ≤ 1000000) (h : Q (.int l.length (s.toks + 1)) { s with toks := s.toks + 1 + 1 }) :
    wpAny (model prog w) A (call (.builtin "len") [.str (T l) t]) Q E s :=
  SBL.len (by rw [T_len]; omega) (by rw [T_len]; exact h)
theorem size3 (m : Nat) : Builtin.Range.rangeSize 0 (3 * (m : Int) + 3 - 3) 3 = (m : Int) := by
  unfold Builtin.Range.rangeSize
  rw [if_pos (by decide)]
  split <;> omega
theorem small3 (m : Nat) (h : m ≤ 1000000) : Builtin.Range.small 0 (3 * (m : Int) + 3 - 3) 3 = true := by
  unfold Builtin.Range.small
  rw [size3]
  simp only [Builtin.Range.rangeFitsLong, Bool.and_eq_true, Bool.or_eq_true, decide_eq_true_eq, beq_iff_eq, show (3 : Int) > 0 by decide, if_true]
  omega
theorem src_rangeC {prog : Program} {w : World} {A : Around} {s₁ : Shared} {g : Heap} {L : Addr} {news : List (Addr × Obj)} {r : Addr} {a b c : Int} {t u v : Tok} {n : Nat} (hh : A.handled = none) (hr : IsRange s₁.heap r a b c t u v) (hsm : Builtin.Range.small a b c = true) (hn : Builtin.Range.rangeSize a b c = (n : Int)) :
    ∃ o fp St, ItSrc prog w A g L s₁ news (.ref r) n (fun i v => ∃ t, v = .int (a + (i : Int) * c) t) (fun _ => True) o fp St := by
  have W : Walks prog w A s₁.heap.objs.size [s₁.heap.objs.size] [s₁.heap.objs.size] n (fun i v => ∃ t, v = .int (a + (i : Int) * c) t) (fun i h => IsRangeIter h s₁.heap.objs.size (a + (i : Nat) * c) ((n : Int) - (i : Nat)) c) := Walks.range hh _ a c n
  refine ⟨_, _, _, W, fun i h st => ⟨_, st⟩, ?_, ?_, fun b hb => ?_, trivial, fun Q E q => wpAny_pyIter_range hr hsm q⟩
  · intro i h h' o nw st e e' _ _ _
    have st' : h.get? _ = some _ := st
    show h'.get? _ = some _
    rw [e', ← e]; exact st'
  · show IsRangeIter _ _ _ _ _; rw [hn]; simpa using Heap.get?_push_size _ rfl
  · rw [Heap.size_push, List.mem_singleton.mp hb]; exact Nat.lt_succ_self _
theorem it_rangeC {prog : Program} {w : World} {A : Around} {s : Shared} {env : Env} {g : Heap} {target : Expr} {body : List Stmt} {r : Addr} {a b c : Int} {t u v : Tok} {n : Nat} {Q : Flow → Shared → Prop} {E E' : Value → Shared → Prop} (J : Nat → List (Str × Value) → List (Addr × Obj) → Prop)
    (hh : A.handled = none) {L : Addr} (hL : env.locals = L) (hr : IsRange s.heap r a b c t u v) (hsm : Builtin.Range.small a b c = true) (hn : Builtin.Range.rangeSize a b c = (n : Int))
    (lo₀ : List (Str × Value)) (nw₀ : List (Addr × Obj)) {m₀ : Str → Option Value} {news₀ : List (Addr × Obj)}
    (F : Fr g L s.heap m₀) (N : News g L s.heap news₀) (hat : AllAt m₀ lo₀) (hin : InAll news₀ nw₀) (hj : J 0 lo₀ nw₀)
    (turn : ∀ i t I h tk m lo nw oI, i < n → J i lo nw → Fr g L h (over lo m) → News g L h ((I, oI) :: nw) → AllNe I nw → oI.cls = .type "range_iterator" →
      wpAny (model prog w) A (assign target env (.int (a + (i : Int) * c) t)) (fun _ s₂ => wpAny (model prog w) A (execs body env) (Turned g L I oI (J (i + 1)) s Q) noE s₂) noE { s with heap := h, toks := tk })
    (done : ∀ h tk m lo nw, J n lo nw → Fr g L h (over lo m) → News g L h nw → Q .next { s with heap := h, toks := tk })
    (ht : ∀ it v, letOwnedTupleGo target it v = pure () := by intro _ _; rfl) :
    wpAny (model prog w) A (pyIter (.ref r)) (fun it s₂ => codeAny (model prog w) A (.forLoop target it body [] env) (fun r s' => match r with | .ok f => Q f s' | .error e => E' e s') s₂) E s := by
  subst hL
  refine wpAny_pyIter_range hr hsm ?_
  have up : ∀ {o' : Obj} b o, s.heap.get? b = some o → (s.heap.push o').get? b = some o := fun b o e => Heap.get?_push_of_some _ e
  have W : Walks prog w A s.heap.objs.size [s.heap.objs.size] [s.heap.objs.size] n (fun i v => ∃ t, v = .int (a + (i : Int) * c) t) (fun i h => IsRangeIter h s.heap.objs.size (a + (i : Nat) * c) ((n : Int) - (i : Nat)) c) := Walks.range hh _ a c n
  refine for_walk (s := { s with heap := _ }) (g := g) J W (fun i h st => ⟨_, st⟩) (fun b hb => .inl (List.mem_singleton.mp hb)) (lo₀ := lo₀) (nw₀ := nw₀) (m₀ := m₀) (by show IsRangeIter _ _ _ _ _; rw [hn]; simpa using Heap.get?_push_size _ rfl)
    (by rw [over_self hat]; exact F.keeps up) ((kst_newsOf N hin.mem).grown up) (fun p hp => Nat.ne_of_lt (Heap.lt_size (N p (hin.mem p hp)).1)) (Ne.symm (Nat.ne_of_lt F.ns.lt)) (next_is_new F) hj ?_ ?_ (fun v => ht _ v)
  · rintro i v h tk m lo nw oI hi ⟨t, rfl⟩ hJ F₁ N₁ hne st
    refine turn i t _ h tk m lo nw oI hi hJ F₁ N₁ (AllNe.of hne) ?_
    have h1 : h.get? _ = some _ := st
    have h2 := (N₁ _ (.head _)).1
    rw [h1] at h2
    exact congrArg Obj.cls (Option.some.inj h2.symm)
  · exact fun h tk m lo nw hJ F₁ N₁ => done h tk m lo nw hJ F₁ N₁
theorem mul_sp {r : Int} (h0 : 0 ≤ r) (h1 : r ≤ 9) : Txt.mul (PySem.Str.ofString " ") r = T (List.replicate r.toNat 32) := by
  have h : r = 0 ∨ r = 1 ∨ r = 2 ∨ r = 3 ∨ r = 4 ∨ r = 5 ∨ r = 6 ∨ r = 7 ∨ r = 8 ∨ r = 9 := by omega
  rcases h with rfl | rfl | rfl | rfl | rfl | rfl | rfl | rfl | rfl | rfl <;> decide +kernel
theorem mul_tab {r : Int} (h0 : 0 ≤ r) (h1 : r ≤ 9) : Txt.mul (PySem.Str.ofString " ") r ++ PySem.Str.ofString "\t" = T (List.replicate r.toNat 32 ++ [9]) := by
  rw [mul_sp h0 h1, show PySem.Str.ofString "\t" = T [9] by decide +kernel, T_append]
theorem flat_len : ∀ (met : List (List Nat)), (∀ l ∈ met, l.length = 3) → met.flatten.length = 3 * met.length
  | [], _ => rfl
  | l :: r, h => by
    have h1 := h l (.head _)
    have h2 := flat_len r fun q hq => h q (.tail _ hq)
    simp only [List.flatten_cons, List.length_append, List.length_cons, h1, h2]; omega
theorem flat_at : ∀ (met : List (List Nat)) (rest : List Nat), (∀ l ∈ met, l.length = 3) → ∀ (i : Nat) (l : List Nat), met[i]? = some l → (((met.flatten ++ rest).drop (3 * i)).take 3) = l
  | [], _, _, i, l, e => by simp at e
  | m :: r, rest, h, 0, l, e => by
    simp at e; subst e
    have h1 := h m (.head _)
    simp only [Nat.mul_zero, List.drop_zero, List.flatten_cons, List.append_assoc]
    rw [← h1, List.take_left]
  | m :: r, rest, h, i + 1, l, e => by
    have h1 := h m (.head _)
    have h2 := flat_at r rest (fun q hq => h q (.tail _ hq)) i l (by simpa using e)
    have e3 : 3 * (i + 1) = m.length + 3 * i := by omega
    rw [List.flatten_cons, List.append_assoc, e3, ← List.drop_drop, List.drop_left]
    exact h2
theorem flat_last (met : List (List Nat)) (cur : List Nat) (h : ∀ l ∈ met, l.length = 3) (hc : cur.length = 3) : (met ++ [cur]).flatten.drop ((met ++ [cur]).flatten.length - 3) = cur := by
  have e : (met ++ [cur]).flatten = met.flatten ++ cur := by simp
  rw [e, List.length_append, hc, Nat.add_sub_cancel, List.drop_left]

end partSl2
section partCompT2
open PySem PySem.W PyProof.Rows PySem.Calls PyProof.Rows.LCg
section
variable {prog : Program} {w : World} {A : Around} {s s₁ : Shared} {env : Env} {g : Heap} {L : Addr} {m : Str → Option Value} {news : List (Addr × Obj)}
noncomputable def LcET (prog : Program) (w : World) (A : Around) (env : Env) (ct elt : Expr) (x : Str) (scope : Scope) (cl : List (Str × Addr)) (Q : Value → Shared → Prop) (xv : Value) (s₁ : Shared) : Prop :=
  ∃ g L m n P S news, Fr g L s₁.heap m ∧ News g L s₁.heap news ∧ n ≤ sizeLine ∧ (∃ o fp St, ItSrc prog w A g L s₁ news xv n P S o fp St) ∧
    ∀ hh, LCt.CompRestT prog w A g L m env ct elt x scope cl { s₁ with heap := hh } S P (FinE g L m { s₁ with heap := hh } Q) n 0 [] news
theorem LcET.intro {ct elt : Expr} {x : Str} {scope : Scope} {cl : List (Str × Addr)} {Q : Value → Shared → Prop} {xv : Value} {n : Nat} {P : Nat → Value → Prop} {S : List (Addr × Obj) → Prop} (F : Fr g L s₁.heap m) (N : News g L s₁.heap news) (hsz : n ≤ sizeLine)
    (Z : ∃ o fp St, ItSrc prog w A g L s₁ news xv n P S o fp St) (R : ∀ hh, LCt.CompRestT prog w A g L m env ct elt x scope cl { s₁ with heap := hh } S P (FinE g L m { s₁ with heap := hh } Q) n 0 [] news) :
    LcET prog w A env ct elt x scope cl Q xv s₁ := ⟨g, L, m, n, P, S, news, F, N, hsz, Z, R⟩
theorem lc_evalT {ct elt iter : Expr} {x : Str} {px : Pos} {scope : Scope} {cl : List (Str × Addr)} {pos : Pos} {Q : Value → Shared → Prop} {E : Value → Shared → Prop}
    (hclos : closureFor scope env = pure cl) (hcell : ∀ y ∈ scope.names, y.2 ≠ .cell) (hkind : scope.kind = .function)
    (hnames : ∀ y ∈ scope.names, y.2 = .local → scope.names.lookup y.1 = some .local) (hx : scope.names.lookup x = some .local)
    (hs : ∀ x, foldedSetIterable iter env x = pure x)
    (h : wpAny (model prog w) A (eval iter env) (LcET prog w A env ct elt x scope cl Q) E s) :
    wpAny (model prog w) A (eval (.ListComp elt [⟨.Name x px, iter, [ct], 0⟩] scope pos) env) Q E s := by
  rw [eval_ListComp]
  refine wpAny_comprehension_free (use := none) rfl hs hclos hkind hnames (wpAny_mono h (fun xv s₁ h₁ => ?_) fun _ _ e => e)
  obtain ⟨g, L, m, n, P, S, news, F, N, hsz, ⟨o, fp, St, Z⟩, R⟩ := h₁
  refine Z.go _ _ ?_
  have up : ∀ b o', s₁.heap.get? b = some o' → (s₁.heap.push o).get? b = some o' := fun b o' e => Heap.get?_push_of_some _ e
  refine LCt.block_T Z.W hsz Z.live Z.keeps hcell hkind hx Z.st Z.fps (F.keeps up) (N.grown up) (Nat.ne_of_lt F.ns.lt) (next_is_new F) (fun p hp => Nat.ne_of_lt (Heap.lt_size (N p hp).1)) Z.s0 (R _) ?_
  intro D C h' tk m' ys news' F' N' o1 hn hC₀ hD₀ hCL hDL hCD offC fin
  refine ⟨m', hn, fun h'' hs'' => fin D h'' tk (F'.change hs'' hCL hC₀) (fun p hp => ?_) o1⟩
  refine ⟨hs''.extBut _ _ ?_ (N' p hp).1, (N' p hp).2⟩
  rcases List.mem_cons.mp hp with e | hp
  · rw [e]; exact Ne.symm hCD
  · exact offC p hp
/-- the items that passed the test -/
noncomputable def Sel (q : Nat → Bool) (T : Nat → Value → Prop) : Nat → List Value → Prop
  | 0, ys => ys = []
  | n + 1, ys => if q n then ∃ ys' y, ys = ys' ++ [y] ∧ Sel q T n ys' ∧ T n y else Sel q T n ys
/-- how a test ends -/
noncomputable def TestEnd (q : Bool) (a b : Shared → Prop) (ok : Bool) (s' : Shared) : Prop := ok = q ∧ if ok = true then a s' else b s'
theorem comp_quietT {ct elt : Expr} {x : Str} {scope : Scope} {cl : List (Str × Addr)} {S : List (Addr × Obj) → Prop} {P : Nat → Value → Prop} {Fin : List Value → List (Addr × Obj) → Prop} (n : Nat) (q : Nat → Bool) (T : Nat → Value → Prop) (news : List (Addr × Obj)) (hS : S news)
    (turn : ∀ i v I oI C oC D oD m₂ h tk, i < n → P i v → NsObj oC m₂ → m₂ x = some v → Fr g L h m → News g L h ((I, oI) :: (C, oC) :: (D, oD) :: news) → Off3 I C D news → ((@Ne Nat I C) ∧ (@Ne Nat I D) ∧ (@Ne Nat C D)) →
      wpAny (model prog w) A (isTrue ct (compEnvC scope cl C env) (eval ct (compEnvC scope cl C env))) (TestEnd (q i)
        (fun s' => wpAny (model prog w) A (eval elt (compEnvC scope cl C env)) (QEnd g L m s (T i) ((I, oI) :: (C, oC) :: (D, oD) :: news)) noE s')
        (QEnd g L m s (fun _ => True) ((I, oI) :: (C, oC) :: (D, oD) :: news) Value.none)) noE { s with heap := h, toks := tk })
    (fin : ∀ ys, Sel q T n ys → Fin ys news) :
    LCt.CompRestT prog w A g L m env ct elt x scope cl s S P Fin n 0 [] news := by
  have go : ∀ k i ys, i + k = n → Sel q T i ys → LCt.CompRestT prog w A g L m env ct elt x scope cl s S P Fin k i ys news := by
    intro k
    induction k with
    | zero =>
      intro i ys hk hs
      have : i = n := by omega
      subst this
      exact LCt.CompRestT.zero (fin ys hs)
    | succ k ih =>
      intro i ys hk hs
      refine LCt.CompRestT.succ fun v I oI C oC D m₂ h tk E' hP hC hx F N off ne => ?_
      refine wpAny_noE (wpAny_mono (turn i v I oI C oC D _ m₂ h tk (by omega) hP hC hx F N off ne) (fun ok s₂ h₂ => ?_) fun _ _ x => x)
      obtain ⟨hq, h₂⟩ := h₂
      by_cases hok : ok = true
      · rw [if_pos hok] at h₂ ⊢
        refine wpAny_noE (wpAny_mono h₂ (fun y s₃ h₃ => ?_) fun _ _ x => x)
        obtain ⟨hT, h', tk', rfl, F', nn, N', hin⟩ := h₃
        refine CompEnd.intro F' N' news hin.mem off hS (ih (i + 1) (ys ++ [y]) (by omega) ?_)
        show if q i then _ else _
        rw [← hq, hok]
        exact ⟨ys, y, rfl, hs, hT⟩
      · rw [if_neg hok] at h₂ ⊢
        obtain ⟨_, h', tk', rfl, F', nn, N', hin⟩ := h₂
        refine CompEnd.intro F' N' news hin.mem off hS (ih (i + 1) ys (by omega) ?_)
        show if q i then _ else _
        rw [← hq]
        have : ok = false := by simpa using hok
        rw [this]
        exact hs
  exact go n 0 [] (by omega) rfl
end

end partCompT2
section walks
open PySem.Calls
local macro_rules | `(tactic| walk_at "m_look") => `(tactic| first | exact over_here | (refine over_there (by decide +kernel) ?_; walk_at "m_look"))
local macro_rules | `(tactic| walk_at "m_put") => `(tactic| first | exact PutL.nil | exact PutL.here | (apply PutL.there; (focus decide +kernel); walk_at "m_put"))
local macro_rules | `(tactic| walk_at "eval Name") => `(tactic| (k_dflt (apply m_ld; k_asm; exact rfl; exact rfl; decide +kernel; walk_at "m_look"; k_whole)))
local macro_rules | `(tactic| walk_at "loadName") => `(tactic| (k_dflt (apply m_ldn; k_asm; exact rfl; exact rfl; walk_at "m_look"; k_whole)))
local macro_rules | `(tactic| walk_at "storeName") => `(tactic| (k_dflt (apply m_st; k_asm; k_asm; exact rfl; exact rfl; walk_at "m_put"; k_whole; intro h' F' N'; (try k_sweep))))
local macro_rules | `(tactic| walk_at "execs cons") => `(tactic| with_reducible refine execs_C ?_)
local macro_rules | `(tactic| walk_at "execs cons Assign cons") => `(tactic| with_reducible refine execs_C ?_)
local macro_rules | `(tactic| walk_at "Cont") => `(tactic| first | with_reducible refine cont_next ?_ | with_reducible refine cont_ret ?_ | with_reducible refine cont_brk ?_ | with_reducible refine cont_cont ?_)
local macro_rules | `(tactic| walk_at "execs nil") => `(tactic| with_reducible refine wpAny_execs_nil ?_)
local macro_rules | `(tactic| walk_at "exec For Name Call cons nil") => `(tactic| refine stop_at ?_)
local macro_rules | `(tactic| walk_at "exec For Name Name cons nil") => `(tactic| refine stop_at ?_)
local macro_rules | `(tactic| walk_at "exec For Name Attribute cons nil") => `(tactic| refine stop_at ?_)
local macro_rules | `(tactic| walk_at "exec For Name Subscript cons nil") => `(tactic| refine stop_at ?_)
local macro_rules | `(tactic| walk_at "exec While Compare cons nil") => `(tactic| refine stop_at ?_)
local macro_rules | `(tactic| walk_at "exec While BoolOp cons nil") => `(tactic| refine stop_at ?_)
local macro_rules | `(tactic| walk_at "call builtin:list.append") => `(tactic| (k_dflt (apply append_K; k_asm; k_asm; k_upd; rotate_left; (first | (simp only [sizeLine_eq]; omega) | (simp only [sizeLine_eq, List.size_toArray, List.length_append, List.length_cons, List.length_nil, Array.size_push]; omega) | (simp [sizeLine_eq]; done) | (simp [sizeLine_eq]; omega)); k_whole; intro h' F' N'; (try k_sweep))))
local macro_rules | `(tactic| walk_at "eval ListComp") => `(tactic| refine stop_at ?_)
local macro_rules | `(tactic| walk_at "exec Assign cons ListComp") => `(tactic| refine stop_at ?_)
local macro_rules | `(tactic| walk_at "exec If") => `(tactic| with_reducible refine wpAny_If ?_)
local macro_rules | `(tactic| walk_at "compareOp NotEq ref ref") => `(tactic| refine stop_at ?_)
local macro_rules | `(tactic| walk_at "inplaceOp Add str str") => `(tactic| ((refine SBL.iadd (hsz := ?mzh) ?_); (case mzh => assumption); intro _ _ _))
local macro_rules | `(tactic| walk_at "binaryOp Add str str") => `(tactic| ((refine SBL.add (hsz := ?mzh) ?_); (case mzh => assumption); intro _ _ _))
local macro_rules | `(tactic| walk_at "subscriptTail Name Slice str ref") => `(tactic| refine stop_at ?_)
theorem off_Chan2 : (1 : Nat) = 1 := by
  w_top off
  first | walk1 | rfl
section partChan2
noncomputable def halvesP (kind : Int) : Int := if kind = 0 then 0 else if kind = 1 then 1 else 2
noncomputable def valueP (kind : Int) : Int := if kind = 0 then 8 else if kind = 1 then 16 else if kind = 2 then 8 else 16
noncomputable def aheadP (place k : Int) : Int := Int.fmod (3 * place - 16 * k) 48
noncomputable def nearP (place k : Int) : Int :=
  let a := aheadP place k
  let m := 16 - if 48 - a < a then 48 - a else a
  let c := if m < 8 then m else 8
  if c > 0 then c else 0
noncomputable def chanP (place kind k : Int) : Int := valueP kind - Int.fdiv (valueP kind * halvesP kind * (8 - nearP place k)) 16
noncomputable def chansP (place kind : Int) : List Int := [chanP place kind 0, chanP place kind 1, chanP place kind 2]
theorem halvesP_b (k : Int) : 0 ≤ halvesP k ∧ halvesP k ≤ 2 := by unfold halvesP; repeat' split <;> omega
theorem valueP_b (k : Int) : 8 ≤ valueP k ∧ valueP k ≤ 16 := by unfold valueP; repeat' split <;> omega
theorem chans_take (place kind : Int) : ∀ i : Nat, i < 3 → (chansP place kind)[i]? = some (chanP place kind (i : Int))
  | 0, _ => rfl
  | 1, _ => rfl
  | 2, _ => rfl
  | n + 3, h => by omega
theorem intsAre_snoc {n : Int} {t : Tok} : ∀ {vs : List Value} {ns : List Int}, IntsAre vs ns → IntsAre (vs ++ [.int n t]) (ns ++ [n])
  | _, _, .nil => .cons _ _ .nil
  | _, _, .cons _ _ h => .cons _ _ (intsAre_snoc h)
theorem intsAre_snoc_eq {e n : Int} {t : Tok} {vs : List Value} {ns : List Int} (h : IntsAre vs ns) (he : e = n) : IntsAre (vs ++ [.int e t]) (ns ++ [n]) := he ▸ intsAre_snoc h
local macro_rules | `(tactic| walk_at "subscriptTail List") => `(tactic| refine stop_at ?_)
theorem channels_spec (w : World) (s : Shared) (R : Result → Shared → Prop) (G : Gd (K0 w.params) s.heap) (place kind : Int) (tp tk : Tok) (hk1 : 0 ≤ kind) (hk2 : kind < 4)
  (hret : ∀ (l : Addr) (h' : Heap) (tk' n : Nat) (vs : List Value), Kp [] s.heap h' → s.heap.get? l = none → h'.get? l = some (listOf vs.toArray n) → IntsAre vs (chansP place kind) → R (.ok (.ret (.ref l))) { s with heap := h', toks := tk' }) :
  codeAny (model prog w) (lv 9) (.call (.ref 157) ⟨[.int place tp, .int kind tk], []⟩) R s := by
  have _kf : (PySem.Challenge.rw_pg0230_02, K0) = (PySem.Challenge.rw_pg0230_02, K0) := by k_fill; rfl
  refine' enter_plain (K := K0 w.params) (binds := [((PySem.Str.ofString "place"), .int place tp), ((PySem.Str.ofString "kind"), .int kind tk)]) (rb := [((PySem.Str.ofString "kind"), .int kind tk), ((PySem.Str.ofString "place"), .int place tp)]) [] G (fun _ h => nomatch h) ?ho ?hcd ?hroom ?hbind ?hloc ?hrb ?_ ?c1 ?c2 ?c3 ?c4
  (( (case ho => k_is); (case hcd => k_is); (case hroom => k_room); (case hbind => exact BindsTo.of_eq rfl); (case hloc => exact locs rfl); (case hrb => exact rfl); (case c1 => decide); (case c2 => exact rfl); (case c3 => exact rfl); (case c4 => exact rfl); k_whole))
  intro g L h0 pp loose mean mg mb kg F0 N0 X TT l1 l2
  with_reducible refine cut (fun s' => ∃ th tv, At g L [((PySem.Str.ofString "place"), .int place tp), ((PySem.Str.ofString "halves"), .int (halvesP kind) th), ((PySem.Str.ofString "value"), .int (valueP kind) tv)] [] s s') ?_ ?_
  · k_steps
    unfold Stop
    rename News _ _ _ _ => NL
    have hk : kind = 0 ∨ kind = 1 ∨ kind = 2 ∨ kind = 3 := by omega
    rcases hk with rfl | rfl | rfl | rfl
    all_goals refine kba_turn (value' := PySem.Expr.Name (PySem.Str.ofString "_") ⟨0, 0, 0, 0⟩) (fun _ => rfl) ?_
    all_goals refine kim_list (l := [_, _, _, _]) NL (.head _) rfl rfl (by decide) (by decide) rfl ?_
    all_goals k_steps
    all_goals exact ⟨rfl, _, _, At.intro (by assumption) (by assumption) (by (first | focus ((repeat (first | exact True.intro | (refine AllAt.keep _ rfl ?_ ?_; (focus decide +kernel)) | (refine AllAt.skip _ rfl ?_ ?_; (focus decide +kernel)))); done) | ((repeat (refine And.intro ?_ ?_; (focus (first | walk_at "m_look" | rfl)))); exact True.intro))) (by (first | focus ((repeat (first | exact True.intro | with_reducible exact InAll.self | with_reducible refine InAll.keep ?_ | with_reducible refine InAll.skip ?_)); done) | ((repeat (refine And.intro (by k_mem) ?_)); exact True.intro)))⟩
  rintro s1 hPz1
  refine Classical.byContradiction fun hZq => ?_
  obtain ⟨th, tv, h1, tk1, m1, rfl, F1, N1⟩ := hPz1
  refine hZq ?_
  clear hZq
  obtain ⟨b1, b2⟩ := halvesP_b kind
  obtain ⟨b3, b4⟩ := valueP_b kind
  generalize hhv : halvesP kind = hv at *
  generalize hvv : valueP kind = vv at *
  with_reducible refine cut (fun s' => ∃ l n, At g L [((PySem.Str.ofString "place"), .int place tp), ((PySem.Str.ofString "halves"), .int hv th), ((PySem.Str.ofString "value"), .int vv tv), ((PySem.Str.ofString "due"), .ref l)] [(l, listOf #[] n)] s s') ?_ ?_
  · k_steps
    exact ⟨rfl, _, _, At.intro (by assumption) (by assumption) (by (first | focus ((repeat (first | exact True.intro | (refine AllAt.keep _ rfl ?_ ?_; (focus decide +kernel)) | (refine AllAt.skip _ rfl ?_ ?_; (focus decide +kernel)))); done) | ((repeat (refine And.intro ?_ ?_; (focus (first | walk_at "m_look" | rfl)))); exact True.intro))) (by (first | focus ((repeat (first | exact True.intro | with_reducible exact InAll.self | with_reducible refine InAll.keep ?_ | with_reducible refine InAll.skip ?_)); done) | ((repeat (refine And.intro (by k_mem) ?_)); exact True.intro)))⟩
  rintro s2 hPz1
  refine Classical.byContradiction fun hZq => ?_
  obtain ⟨l, n, h2, tk2, m2, rfl, F2, N2⟩ := hPz1
  refine hZq ?_
  clear hZq
  k_steps
  ((unfold Stop; (with_reducible refine for_stmt ?_ ?mzhs); (case mzhs => intro _; rfl)))
  k_steps
  rename IsRange _ _ _ _ _ _ _ _ => hr
  refine it_range (L := L) (fun i lo nw => ∃ vs n, lo = [((PySem.Str.ofString "place"), .int place tp), ((PySem.Str.ofString "halves"), .int hv th), ((PySem.Str.ofString "value"), .int vv tv), ((PySem.Str.ofString "due"), .ref l)] ∧ nw = [(l, listOf vs.toArray n)] ∧ IntsAre vs ((chansP place kind).take i) ∧ vs.length = i) rfl rfl hr (by decide) rfl [((PySem.Str.ofString "place"), .int place tp), ((PySem.Str.ofString "halves"), .int hv th), ((PySem.Str.ofString "value"), .int vv tv), ((PySem.Str.ofString "due"), .ref l)] [(l, listOf #[] n)] (by assumption) (by assumption) (by (first | focus ((repeat (first | exact True.intro | (refine AllAt.keep _ rfl ?_ ?_; (focus decide +kernel)) | (refine AllAt.skip _ rfl ?_ ?_; (focus decide +kernel)))); done) | ((repeat (refine And.intro ?_ ?_; (focus (first | walk_at "m_look" | rfl)))); exact True.intro))) (by (first | focus ((repeat (first | exact True.intro | with_reducible exact InAll.self | with_reducible refine InAll.keep ?_ | with_reducible refine InAll.skip ?_)); done) | ((repeat (refine And.intro (by k_mem) ?_)); exact True.intro))) ⟨[], n, rfl, rfl, .nil, rfl⟩ ?_ ?_
  · rintro i t I h3 tk3 m3 lo nw oI hi hPz1 F3 N3 hne hc
    refine Classical.byContradiction fun hZq => ?_
    obtain ⟨vs, n', rfl, rfl, hvs, hlen⟩ := hPz1
    refine hZq ?_
    clear hZq
    simp only [AllNe, and_true] at hne
    k_steps
    refine turned_next _ [(l, listOf _ _)] (.inl rfl) (by assumption) (by assumption) (by (first | focus ((repeat (first | exact True.intro | (refine AllAt.keep _ rfl ?_ ?_; (focus decide +kernel)) | (refine AllAt.skip _ rfl ?_ ?_; (focus decide +kernel)))); done) | ((repeat (refine And.intro ?_ ?_; (focus (first | walk_at "m_look" | rfl)))); exact True.intro))) (by (first | focus ((repeat (first | exact True.intro | with_reducible exact InAll.self | with_reducible refine InAll.keep ?_ | with_reducible refine InAll.skip ?_)); done) | ((repeat (refine And.intro (by k_mem) ?_)); exact True.intro))) (by ((repeat (refine And.intro ?_ ?_; (focus (refine neN ?_; (try dsimp only); omega)))); exact True.intro)) ⟨_ ++ [_], _, rfl, by rw [List.push_toArray], ?_, by simp [hlen]⟩
    rw [List.take_add_one, chans_take place kind i hi]
    refine intsAre_snoc_eq hvs ?_
    unfold chanP nearP aheadP
    rw [hhv, hvv, Int.zero_add]
  · rintro h3 tk3 m3 lo nw hPz1 F3 N3
    refine Classical.byContradiction fun hZq => ?_
    obtain ⟨vs, n', rfl, rfl, hvs, hlen⟩ := hPz1
    refine hZq ?_
    clear hZq
    k_steps
    dsimp only
    have nn := News.fresh N3 (.head _)
    refine hret l _ _ n' vs (kg.fr F3) ?_ (News.get N3 (.head _)) hvs
    cases q : s.heap.get? l with
    | none => rfl
    | some o => have := kg l o (fun h => nomatch h) q; rw [nn] at this; cases this

end partChan2
theorem off_Let2 : (1 : Nat) = 1 := by
  w_top off
  first | walk1 | rfl
section partLet2
noncomputable def lettersP (ns : List Int) : List Nat := ns.map fun n => (97 + n).toNat
theorem lettersP_flat (ns : List Int) : (ns.map fun n => [(97 + n).toNat]).flatten = lettersP ns := by
  induction ns with
  | nil => rfl
  | cons n r ih => simp [lettersP] at *; exact ih
theorem letters_spec (w : World) (s : Shared) (R : Result → Shared → Prop) (G : Gd (K0 w.params) s.heap) (ax : Addr) (its : List Value) (ns : List Int) (hl : s.heap.IsList ax its.toArray) (hi : IntsAre its ns) (hb : ∀ n ∈ ns, 0 ≤ n ∧ n ≤ 16) (hsz : ns.length ≤ 1000)
  (hret : ∀ (t : Tok) (h' : Heap) (tk' : Nat), Kp [] s.heap h' → R (.ok (.ret (.str (T (lettersP ns)) t))) { s with heap := h', toks := tk' }) :
  codeAny (model prog w) (lv 9) (.call (.ref 162) ⟨[.ref ax], []⟩) R s := by
  have _kf : (PySem.Challenge.rw_pg0230_02, K0) = (PySem.Challenge.rw_pg0230_02, K0) := by k_fill; rfl
  refine' enter_plain (K := K0 w.params) (binds := [((PySem.Str.ofString "channels"), .ref ax)]) (rb := [((PySem.Str.ofString "channels"), .ref ax)]) [] G (fun _ h => nomatch h) ?ho ?hcd ?hroom ?hbind ?hloc ?hrb ?_ ?c1 ?c2 ?c3 ?c4
  (( (case ho => k_is); (case hcd => k_is); (case hroom => k_room); (case hbind => exact BindsTo.of_eq rfl); (case hloc => exact locs rfl); (case hrb => exact rfl); (case c1 => decide); (case c2 => exact rfl); (case c3 => exact rfl); (case c4 => exact rfl); k_whole))
  intro g L h0 pp loose mean mg mb kg F0 N0 X TT l1 l2
  have hlg : g.IsList ax its.toArray := hl.at fun o e => kg _ o (fun h => nomatch h) e
  have hlen := hi.length
  k_steps
  ((unfold Stop; (with_reducible refine lc_eval (cl := []) ?mzc1 ?mzc2 ?mzc3 ?mzc4 ?mzc5 ?mzc6 ?_); (case mzc1 => rfl); (case mzc2 => decide +kernel); (case mzc3 => rfl); (case mzc4 => decide +kernel); (case mzc5 => decide +kernel); (case mzc6 => intro _; rfl)))
  k_steps
  dsimp only
  refine LcE.intro (by assumption) (by assumption) ?_ (src_list (its := its.toArray) rfl (by assumption) (by assumption) (.inl hlg)) ?_
  · simp only [List.size_toArray, sizeLine_eq]; omega
  intro hh
  refine comp_quiet _ (fun i y => ∃ t n, ns[i]? = some n ∧ y = .str ⟨#[(97 + n).toNat]⟩ t) _ (.inl hlg) ?_ ?_
  · intro i v I oI C oC D oD m₂ h3 tk3 hi3 hP hC hx F3 N3 off ne
    have hi4 : i < ns.length := by simpa [hlen] using hi3
    obtain ⟨t, ht⟩ := hi.get i ns[i] (by simp [hi4])
    have hv : v = .int ns[i] t := by
      have hP' : its[i]? = some v := by simpa using hP
      rw [ht] at hP'; exact (Option.some.inj hP').symm
    subst hv
    obtain ⟨b1, b2⟩ := hb _ (List.getElem_mem hi4)
    have hni : ns[i]? = some ns[i] := by simp [hi4]
    generalize ns[i] = n at *
    k_steps
    all_goals first | exact absurd rfl (by assumption) | exact QEnd.intro (by assumption) (by assumption) (by (first | focus ((repeat (first | exact True.intro | with_reducible exact InAll.self | with_reducible refine InAll.keep ?_ | with_reducible refine InAll.skip ?_)); done) | ((repeat (refine And.intro (by k_mem) ?_)); exact True.intro))) ⟨_, n, hni, rfl⟩
  · intro ys hlen hT
    intro D h3 tk3 F3 N3 off
    k_steps
    refine join_listC (ys := (ns.map fun n => [(97 + n).toNat]).map T) (items := ys.toArray) ⟨_, N3.get (.head _), rfl, _, rfl⟩ ?_ (by decide) ?_ ?_
    · refine strs_of (by simp [hlen, hi.length]) fun i y hy => ?_
      refine Classical.byContradiction fun hZq => ?_
      obtain ⟨t, n, hn, rfl⟩ := hT i y hy
      refine hZq ?_
      clear hZq
      exact ⟨_, t, by simp [hn, T], rfl⟩
    · rw [sum_len_T, lettersP_flat]
      simp [lettersP]
      omega
    · intro t' k
      rw [join_T, lettersP_flat]
      exact hret t' _ _ (kg.fr F3)

end partLet2
theorem off_LetF2 : (1 : Nat) = 1 := by
  w_top off
  first | walk1 | rfl
section partLetF2
/-- a number as an int or as the float of it -/
inductive NumOf : Value → Int → Prop
  | int (n : Int) (t : Tok) : NumOf (.int n t) n
  | float (n : Int) (t : Tok) : NumOf (.float (Float64.ofInt n) t) n
inductive NumsOf : List Value → List Int → Prop
  | nil : NumsOf [] []
  | cons {v : Value} {n : Int} {vs ns} : NumOf v n → NumsOf vs ns → NumsOf (v :: vs) (n :: ns)
theorem NumsOf.length {vs : List Value} {ns : List Int} (h : NumsOf vs ns) : vs.length = ns.length := by induction h <;> simp [*]
theorem NumsOf.get {vs : List Value} {ns : List Int} (h : NumsOf vs ns) : ∀ {i : Nat} {v : Value}, vs[i]? = some v → ∃ n, ns[i]? = some n ∧ NumOf v n := by
  induction h with
  | nil => intro i v hv; simp at hv
  | cons a _ ih =>
    intro i v hv
    cases i with
    | zero => simp at hv; subst hv; exact ⟨_, rfl, a⟩
    | succ i => simpa using ih (by simpa using hv)
theorem ofInt_tab : ∀ k : Fin 17, Float64.isNaN (Float64.ofInt (k.val : Int)) = false ∧ Float64.isInf (Float64.ofInt (k.val : Int)) = false ∧ Flt.toInt Float64.truncOf (Float64.ofInt (k.val : Int)) = (k.val : Int) ∧
    (Float64.cmpInt (Float64.ofInt (k.val : Int)) (Flt.toInt Float64.truncOf (Float64.ofInt (k.val : Int))) == some Ordering.eq) = true := by decide +kernel
theorem ofInt_ok {n : Int} (h0 : 0 ≤ n) (h1 : n ≤ 16) : Float64.isNaN (Float64.ofInt n) = false ∧ Float64.isInf (Float64.ofInt n) = false ∧ Flt.toInt Float64.truncOf (Float64.ofInt n) = n ∧
    (Float64.cmpInt (Float64.ofInt n) (Flt.toInt Float64.truncOf (Float64.ofInt n)) == some Ordering.eq) = true := by
  have h := ofInt_tab ⟨n.toNat, by omega⟩
  have e : ((n.toNat : Nat) : Int) = n := by omega
  dsimp only at h
  rw [e] at h
  exact h
theorem lettersF_spec (w : World) (s : Shared) (R : Result → Shared → Prop) (G : Gd (K0 w.params) s.heap) (ax : Addr) (its : List Value) (ns : List Int) (hl : s.heap.IsTuple ax its.toArray) (hi : NumsOf its ns) (hb : ∀ n ∈ ns, 0 ≤ n ∧ n ≤ 16) (hsz : ns.length ≤ 1000)
  (hret : ∀ (t : Tok) (h' : Heap) (tk' : Nat), Kp [] s.heap h' → R (.ok (.ret (.str (T (lettersP ns)) t))) { s with heap := h', toks := tk' }) :
  codeAny (model prog w) (lv 9) (.call (.ref 162) ⟨[.ref ax], []⟩) R s := by
  have _kf : (PySem.Challenge.rw_pg0230_02, K0) = (PySem.Challenge.rw_pg0230_02, K0) := by k_fill; rfl
  refine' enter_plain (K := K0 w.params) (binds := [((PySem.Str.ofString "channels"), .ref ax)]) (rb := [((PySem.Str.ofString "channels"), .ref ax)]) [] G (fun _ h => nomatch h) ?ho ?hcd ?hroom ?hbind ?hloc ?hrb ?_ ?c1 ?c2 ?c3 ?c4
  (( (case ho => k_is); (case hcd => k_is); (case hroom => k_room); (case hbind => exact BindsTo.of_eq rfl); (case hloc => exact locs rfl); (case hrb => exact rfl); (case c1 => decide); (case c2 => exact rfl); (case c3 => exact rfl); (case c4 => exact rfl); k_whole))
  intro g L h0 pp loose mean mg mb kg F0 N0 X TT l1 l2
  have hlg : g.IsTuple ax its.toArray := hl.at fun o e => kg _ o (fun h => nomatch h) e
  have hlen := hi.length
  k_steps
  ((unfold Stop; (with_reducible refine lc_eval (cl := []) ?mzc1 ?mzc2 ?mzc3 ?mzc4 ?mzc5 ?mzc6 ?_); (case mzc1 => rfl); (case mzc2 => decide +kernel); (case mzc3 => rfl); (case mzc4 => decide +kernel); (case mzc5 => decide +kernel); (case mzc6 => intro _; rfl)))
  k_steps
  dsimp only
  refine LcE.intro (by assumption) (by assumption) ?_ (src_tuple (its := its.toArray) rfl (by assumption) (by assumption) (.inl hlg)) ?_
  · simp only [List.size_toArray, sizeLine_eq]; omega
  intro hh
  refine comp_quiet _ (fun i y => ∃ t n, ns[i]? = some n ∧ y = .str ⟨#[(97 + n).toNat]⟩ t) _ (.inl hlg) ?_ ?_
  · intro i v I oI C oC D oD m₂ h3 tk3 hi3 hP hC hx F3 N3 off ne
    have hi4 : i < ns.length := by simpa [hlen] using hi3
    refine Classical.byContradiction fun hZq => ?_
    obtain ⟨n, hni, hno⟩ := hi.get (i := i) (v := v) (by simpa using hP)
    refine hZq ?_
    clear hZq
    obtain ⟨b1, b2⟩ := hb _ (List.mem_of_getElem? hni)
    cases hno with
    | int n t =>
      k_steps
      all_goals first | exact absurd rfl (by assumption) | exact QEnd.intro (by assumption) (by assumption) (by (first | focus ((repeat (first | exact True.intro | with_reducible exact InAll.self | with_reducible refine InAll.keep ?_ | with_reducible refine InAll.skip ?_)); done) | ((repeat (refine And.intro (by k_mem) ?_)); exact True.intro))) ⟨_, n, hni, rfl⟩
    | float n t =>
      refine Classical.byContradiction fun hZq => ?_
      obtain ⟨f1, f2, f3, f4⟩ := ofInt_ok b1 b2
      refine hZq ?_
      clear hZq
      have f5 : 0 ≤ Flt.toInt Float64.truncOf (Float64.ofInt n) := by rw [f3]; exact b1
      have f6 : Flt.toInt Float64.truncOf (Float64.ofInt n) ≤ 16 := by rw [f3]; exact b2
      generalize hbb : Float64.ofInt n = bb at *
      k_steps
      all_goals first
        | exact absurd (f1.symm.trans (by assumption)) (by decide)
        | exact absurd (f2.symm.trans (by assumption)) (by decide)
        | exact absurd (f4.symm.trans (by assumption)) (by decide)
        | exact QEnd.intro (by assumption) (by assumption) (by (first | focus ((repeat (first | exact True.intro | with_reducible exact InAll.self | with_reducible refine InAll.keep ?_ | with_reducible refine InAll.skip ?_)); done) | ((repeat (refine And.intro (by k_mem) ?_)); exact True.intro))) ⟨_, n, hni, by rw [f3]⟩
  · intro ys hlen hT
    intro D h3 tk3 F3 N3 off
    k_steps
    refine join_listC (ys := (ns.map fun n => [(97 + n).toNat]).map T) (items := ys.toArray) ⟨_, N3.get (.head _), rfl, _, rfl⟩ ?_ (by decide) ?_ ?_
    · refine strs_of (by simp [hlen, hi.length]) fun i y hy => ?_
      refine Classical.byContradiction fun hZq => ?_
      obtain ⟨t, n, hn, rfl⟩ := hT i y hy
      refine hZq ?_
      clear hZq
      exact ⟨_, t, by simp [hn, T], rfl⟩
    · rw [sum_len_T, lettersP_flat]
      simp [lettersP]
      omega
    · intro t' k
      rw [join_T, lettersP_flat]
      exact hret t' _ _ (kg.fr F3)

end partLetF2
theorem off_Dep2 : (1 : Nat) = 1 := by
  w_top off
  first | walk1 | rfl
section partDep2
noncomputable def depthP (size : Int) (c : Int) (runs : List Int) : Int := runs.foldl (fun c r => c + r + size - Int.fmod (c + r) size) c
theorem depth_spec (w : World) (s : Shared) (R : Result → Shared → Prop) (G : Gd (K0 w.params) s.heap) (ax : Addr) (its : List Value) (ns : List Int) (tr : Int) (size : Int) (tz : Tok) (hl : s.heap.IsList ax its.toArray) (hi : IntsAre its (ns ++ [tr])) (hb : ∀ n ∈ ns, 0 ≤ n ∧ n ≤ 9) (hsz : ns.length ≤ 3) (hs1 : 1 ≤ size) (hs2 : size ≤ 17) (htr : 0 ≤ tr ∧ tr ≤ 9)
  (hret : ∀ (t : Tok) (h' : Heap) (tk' : Nat), Kp [] s.heap h' → R (.ok (.ret (.int (depthP size 0 ns + tr) t))) { s with heap := h', toks := tk' }) :
  codeAny (model prog w) (lv 9) (.call (.ref 169) ⟨[.ref ax, .int size tz], []⟩) R s := by
  have _kf : (PySem.Challenge.rw_pg0230_02, K0) = (PySem.Challenge.rw_pg0230_02, K0) := by k_fill; rfl
  refine' enter_plain (K := K0 w.params) (binds := [((PySem.Str.ofString "runs"), .ref ax), ((PySem.Str.ofString "size"), .int size tz)]) (rb := [((PySem.Str.ofString "size"), .int size tz), ((PySem.Str.ofString "runs"), .ref ax)]) [] G (fun _ h => nomatch h) ?ho ?hcd ?hroom ?hbind ?hloc ?hrb ?_ ?c1 ?c2 ?c3 ?c4
  (( (case ho => k_is); (case hcd => k_is); (case hroom => k_room); (case hbind => exact BindsTo.of_eq rfl); (case hloc => exact locs rfl); (case hrb => exact rfl); (case c1 => decide); (case c2 => exact rfl); (case c3 => exact rfl); (case c4 => exact rfl); k_whole))
  intro g L h0 pp loose mean mg mb kg F0 N0 X TT l1 l2
  have hlg : g.IsList ax its.toArray := hl.at fun o e => kg _ o (fun h => nomatch h) e
  have hlen := hi.length
  k_steps
  ((unfold Stop; (with_reducible refine for_stmt ?_ ?mzhs); (case mzhs => intro _; rfl)))
  k_steps
  rename_i D ws hx F1 N1 hI hC hL lT
  have e : List.take ((ns ++ [tr]).length - 1) (ns ++ [tr]) = ns := by simp
  rw [e] at hI
  have hwl := hI.length
  refine it_list (L := L) (its := ws.toArray) (fun i lo nw => ∃ t c, lo = [((PySem.Str.ofString "size"), .int size tz), ((PySem.Str.ofString "runs"), .ref ax), ((PySem.Str.ofString "column"), .int c t)] ∧ c = depthP size 0 (ns.take i) ∧ 0 ≤ c ∧ c ≤ 26 * i ∧ nw = [(D, listOf ws.toArray 0)]) rfl rfl (listOf ws.toArray 0) ⟨rfl, _, rfl⟩ [((PySem.Str.ofString "size"), .int size tz), ((PySem.Str.ofString "runs"), .ref ax), ((PySem.Str.ofString "column"), .int 0 _)] [(D, listOf ws.toArray 0)] (by assumption) (by assumption) (.inr (by rintro i lo nw ⟨_, _, _, _, _, _, rfl⟩; exact .head _)) (by (first | focus ((repeat (first | exact True.intro | (refine AllAt.keep _ rfl ?_ ?_; (focus decide +kernel)) | (refine AllAt.skip _ rfl ?_ ?_; (focus decide +kernel)))); done) | ((repeat (refine And.intro ?_ ?_; (focus (first | walk_at "m_look" | rfl)))); exact True.intro))) (by (first | focus ((repeat (first | exact True.intro | with_reducible exact InAll.self | with_reducible refine InAll.keep ?_ | with_reducible refine InAll.skip ?_)); done) | ((repeat (refine And.intro (by k_mem) ?_)); exact True.intro))) ⟨_, 0, rfl, rfl, by omega, by omega, rfl⟩ ?_ ?_
  · rintro i v I h3 tk3 m3 lo nw oI hv hPz1 F3 N3 hne hcl
    refine Classical.byContradiction fun hZq => ?_
    obtain ⟨tc, c, rfl, hc, hc0, hc1, rfl⟩ := hPz1
    refine hZq ?_
    clear hZq
    simp only [AllNe, and_true] at hne
    refine Classical.byContradiction fun hZq => ?_
    obtain ⟨n, t, hni, rfl, hnm⟩ := item_int hI (i := i) (v := v) (by simpa using hv)
    refine hZq ?_
    clear hZq
    obtain ⟨b1, b2⟩ := hb _ hnm
    have hi4 : i < ns.length := (List.getElem?_eq_some_iff.mp hni).1
    k_steps
    refine turned_next _ _ (.inl rfl) (by assumption) (by assumption) (by (first | focus ((repeat (first | exact True.intro | (refine AllAt.keep _ rfl ?_ ?_; (focus decide +kernel)) | (refine AllAt.skip _ rfl ?_ ?_; (focus decide +kernel)))); done) | ((repeat (refine And.intro ?_ ?_; (focus (first | walk_at "m_look" | rfl)))); exact True.intro))) (by (first | focus ((repeat (first | exact True.intro | with_reducible exact InAll.self | with_reducible refine InAll.keep ?_ | with_reducible refine InAll.skip ?_)); done) | ((repeat (refine And.intro (by k_mem) ?_)); exact True.intro))) (by ((repeat (refine And.intro ?_ ?_; (focus (refine neN ?_; (try dsimp only); omega)))); exact True.intro)) ⟨_, _, rfl, ?_, ?_, ?_, rfl⟩
    · rw [List.take_add_one, hni]
      unfold depthP
      rw [Option.toList_some, List.foldl_append]
      show _ = depthP size 0 (ns.take i) + n + size - Int.fmod (depthP size 0 (ns.take i) + n) size
      rw [← hc]
    · rw [Int.fmod_eq_emod_of_nonneg _ (by omega)]
      have := Int.emod_lt_of_pos (c + n) (show 0 < size by omega)
      omega
    · rw [Int.fmod_eq_emod_of_nonneg _ (by omega)]
      have := Int.emod_nonneg (c + n) (show size ≠ 0 by omega)
      omega
  · rintro h3 tk3 m3 lo nw hPz1 F3 N3
    refine Classical.byContradiction fun hZq => ?_
    obtain ⟨tc, c, rfl, hc, hc0, hc1, rfl⟩ := hPz1
    refine hZq ?_
    clear hZq
    k_steps
    have e2 : ns.take ws.toArray.size = ns := List.take_of_length_le (by simp [hwl])
    rw [e2] at hc
    subst hc
    exact hret _ _ _ (kg.fr F3)

end partDep2
theorem off_Hsv2 : (1 : Nat) = 1 := by
  w_top off
  first | walk1 | rfl
section partHsv2
inductive Num where
  | i (n : Int)
  | f (b : UInt64)
inductive NumsAre : List Value → List Num → Prop
  | nil : NumsAre [] []
  | int (n : Int) (t : Tok) {vs ns} : NumsAre vs ns → NumsAre (.int n t :: vs) (.i n :: ns)
  | float (b : UInt64) (t : Tok) {vs ns} : NumsAre vs ns → NumsAre (.float b t :: vs) (.f b :: ns)
noncomputable def six : UInt64 := 4618441417868443648
noncomputable def one : UInt64 := 4607182418800017408
noncomputable def hI (h : UInt64) : Int := Flt.toInt Float64.truncOf (Float64.mul h six)
noncomputable def hF (h : UInt64) : UInt64 := Float64.sub (Float64.mul h six) (Float64.ofInt (hI h))
noncomputable def hsvP (h sa : UInt64) (v : Int) : List Num :=
  if (Float64.cmp sa 0 == some Ordering.eq) = true then [.i v, .i v, .i v] else
  let i := Int.fmod (hI h) 6
  let p := Float64.mul (Float64.ofInt v) (Float64.sub one sa)
  let q := Float64.mul (Float64.ofInt v) (Float64.sub one (Float64.mul sa (hF h)))
  let t := Float64.mul (Float64.ofInt v) (Float64.sub one (Float64.mul sa (Float64.sub one (hF h))))
  if i = 0 then [.i v, .f t, .f p] else if i = 1 then [.f q, .i v, .f p] else if i = 2 then [.f p, .i v, .f t]
  else if i = 3 then [.f p, .f q, .i v] else if i = 4 then [.f t, .f p, .i v] else [.i v, .f p, .f q]
theorem big_no {n : Nat} (h : n ≤ 1000) (k : 2 ^ 1024 - 2 ^ 970 ≤ n) : False := absurd (Nat.le_trans k h) (by decide +kernel)
theorem hsv_spec (w : World) (s : Shared) (R : Result → Shared → Prop) (G : Gd (K0 w.params) s.heap) (h sa : UInt64) (v : Int) (tr tg tb : Tok)
  (hn : Float64.isNaN (Float64.mul h six) = false) (hi : Float64.isInf (Float64.mul h six) = false) (hb : (hI h).natAbs ≤ 1000) (hv : v.natAbs ≤ 1000)
  (hret : ∀ (l : Addr) (h' : Heap) (tk' n : Nat) (vs : List Value), Kp [] s.heap h' → s.heap.get? l = none → h'.get? l = some { cls := .type "tuple", data := .seq vs.toArray n } → NumsAre vs (hsvP h sa v) → R (.ok (.ret (.ref l))) { s with heap := h', toks := tk' }) :
  codeAny (model prog w) (lv 9) (.call (.ref 35) ⟨[.float h tr, .float sa tg, .int v tb], []⟩) R s := by
  have _kf : (PySem.Challenge.rw_pg0230_02, K0) = (PySem.Challenge.rw_pg0230_02, K0) := by k_fill; rfl
  refine' enter_plain (K := K0 w.params) (binds := [((PySem.Str.ofString "h"), .float h tr), ((PySem.Str.ofString "s"), .float sa tg), ((PySem.Str.ofString "v"), .int v tb)]) (rb := [((PySem.Str.ofString "v"), .int v tb), ((PySem.Str.ofString "s"), .float sa tg), ((PySem.Str.ofString "h"), .float h tr)]) [] G (fun _ h => nomatch h) ?ho ?hcd ?hroom ?hbind ?hloc ?hrb ?_ ?c1 ?c2 ?c3 ?c4
  (( (case ho => k_is); (case hcd => k_is); (case hroom => k_room); (case hbind => exact BindsTo.of_eq rfl); (case hloc => exact locs rfl); (case hrb => exact rfl); (case c1 => decide); (case c2 => exact rfl); (case c3 => exact rfl); (case c4 => exact rfl); k_whole))
  intro g L h0 pp loose mean mg mb kg F0 N0 X TT l1 l2
  unfold hI six at *
  unfold hsvP hF hI six one at hret
  have hm0 : ∀ x : Int, 0 ≤ Int.fmod x 6 ∧ Int.fmod x 6 < 6 := fun x => by
    rw [Int.fmod_eq_emod_of_nonneg _ (by decide)]; omega
  have hm := hm0 (Flt.toInt Float64.truncOf (Float64.mul h 4618441417868443648))
  k_steps
  all_goals dsimp only
  all_goals first
    | exact absurd (hn.symm.trans (by assumption)) (by decide)
    | exact absurd (hi.symm.trans (by assumption)) (by decide)
    | exact big_no hb (by assumption)
    | exact big_no hv (by assumption)
    | (refine hret _ _ _ _ [_, _, _] (kg.fr (by assumption)) (fresh_of kg (by assumption) (.head _) (fun h => nomatch h)) (News.get (by assumption) (.head _)) ?_)
    | (exfalso; generalize Int.fmod (Flt.toInt Float64.truncOf (Float64.mul h 4618441417868443648)) 6 = z at *; clear hb hv hn hi; omega)
    | skip
  all_goals simp only [*, if_true, if_false, Bool.false_eq_true, Int.reduceEq, reduceIte]
  all_goals repeat' (first | exact NumsAre.nil | apply NumsAre.int | apply NumsAre.float)

end partHsv2
theorem off_Rgb2 : (1 : Nat) = 1 := by
  w_top off
  first | walk1 | rfl
section partRgb2
noncomputable def fracP (a d : Int) : UInt64 := Float64.ofFrac (decide (a < 0) != decide (d < 0)) a.natAbs d.natAbs
noncomputable def two : UInt64 := 4611686018427387904
noncomputable def four : UInt64 := 4616189618054758400
noncomputable def rgbH (r g b : Int) : UInt64 :=
  if r = mx3 r g b then Float64.sub (fracP (mx3 r g b - b) (mx3 r g b - mn3 r g b)) (fracP (mx3 r g b - g) (mx3 r g b - mn3 r g b))
  else if g = mx3 r g b then Float64.sub (Float64.add two (fracP (mx3 r g b - r) (mx3 r g b - mn3 r g b))) (fracP (mx3 r g b - b) (mx3 r g b - mn3 r g b))
  else Float64.sub (Float64.add four (fracP (mx3 r g b - g) (mx3 r g b - mn3 r g b))) (fracP (mx3 r g b - r) (mx3 r g b - mn3 r g b))
noncomputable def rgbP (r g b : Int) : List Num :=
  if mn3 r g b = mx3 r g b then [.f 0, .f 0, .i (mx3 r g b)] else
  [.f (Float64.divmod (Float64.div (rgbH r g b) six) one).2, .f (fracP (mx3 r g b - mn3 r g b) (mx3 r g b)), .i (mx3 r g b)]
theorem frac_fin : ∀ a : Fin 17, ∀ d : Fin 17, d.val = 0 ∨ Float64.isInf (Float64.ofFrac false a.val d.val) = false := by decide +kernel
theorem frac_ok {a d : Int} (h1 : 0 ≤ a) (h2 : a ≤ 16) (h3 : 0 < d) (h4 : d ≤ 16) : Float64.isInf (Float64.ofFrac (decide (a < 0) != decide (d < 0)) a.natAbs d.natAbs) = false := by
  have e1 : decide (a < 0) = false := decide_eq_false (by omega)
  have e2 : decide (d < 0) = false := decide_eq_false (by omega)
  rw [e1, e2]
  rcases frac_fin ⟨a.natAbs, by omega⟩ ⟨d.natAbs, by omega⟩ with h | h
  · simp at h; omega
  · exact h
theorem mx_mn (r g b : Int) (hr : 0 ≤ r ∧ r ≤ 16) (hg : 0 ≤ g ∧ g ≤ 16) (hb : 0 ≤ b ∧ b ≤ 16) : 0 ≤ mn3 r g b ∧ mx3 r g b ≤ 16 ∧ mn3 r g b ≤ r ∧ mn3 r g b ≤ g ∧ mn3 r g b ≤ b ∧ r ≤ mx3 r g b ∧ g ≤ mx3 r g b ∧ b ≤ mx3 r g b := by
  unfold mn3 mx3; repeat' split
  all_goals omega
local macro_rules | `(tactic| walk_at "call builtin:max") => `(tactic| refine stop_at ?_)
local macro_rules | `(tactic| walk_at "call builtin:min") => `(tactic| refine stop_at ?_)
theorem rgb_spec (w : World) (s : Shared) (R : Result → Shared → Prop) (G : Gd (K0 w.params) s.heap) (r gr b : Int) (tr tg tb : Tok) (hr : 0 ≤ r ∧ r ≤ 16) (hg : 0 ≤ gr ∧ gr ≤ 16) (hb : 0 ≤ b ∧ b ≤ 16)
  (hret : ∀ (l : Addr) (h' : Heap) (tk' n : Nat) (vs : List Value), Kp [] s.heap h' → s.heap.get? l = none → h'.get? l = some { cls := .type "tuple", data := .seq vs.toArray n } → NumsAre vs (rgbP r gr b) → R (.ok (.ret (.ref l))) { s with heap := h', toks := tk' }) :
  codeAny (model prog w) (lv 9) (.call (.ref 28) ⟨[.int r tr, .int gr tg, .int b tb], []⟩) R s := by
  have _kf : (PySem.Challenge.rw_pg0230_02, K0) = (PySem.Challenge.rw_pg0230_02, K0) := by k_fill; rfl
  refine' enter_plain (K := K0 w.params) (binds := [((PySem.Str.ofString "r"), .int r tr), ((PySem.Str.ofString "g"), .int gr tg), ((PySem.Str.ofString "b"), .int b tb)]) (rb := [((PySem.Str.ofString "b"), .int b tb), ((PySem.Str.ofString "g"), .int gr tg), ((PySem.Str.ofString "r"), .int r tr)]) [] G (fun _ h => nomatch h) ?ho ?hcd ?hroom ?hbind ?hloc ?hrb ?_ ?c1 ?c2 ?c3 ?c4
  (( (case ho => k_is); (case hcd => k_is); (case hroom => k_room); (case hbind => exact BindsTo.of_eq rfl); (case hloc => exact locs rfl); (case hrb => exact rfl); (case c1 => decide); (case c2 => exact rfl); (case c3 => exact rfl); (case c4 => exact rfl); k_whole))
  intro g L h0 pp loose mean mg mb kg F0 N0 X TT l1 l2
  refine Classical.byContradiction fun hZq => ?_
  obtain ⟨m1, m2, m3, m4, m5, m6, m7, m8⟩ := mx_mn r gr b hr hg hb
  refine hZq ?_
  clear hZq
  have hinf : ∀ {a d : Int}, 0 ≤ a → a ≤ 16 → 0 < d → d ≤ 16 → Float64.isInf (Float64.ofFrac (decide (a < 0) != decide (d < 0)) a.natAbs d.natAbs) = true → False := fun h1 h2 h3 h4 h5 => by
    rw [frac_ok h1 h2 h3 h4] at h5; cases h5
  unfold rgbP rgbH fracP six two four one at hret
  k_steps
  unfold Stop
  rename Fr _ _ _ _ => FM
  rename News _ _ _ _ => NM
  refine m_max3 FM NM rfl ?_
  clear FM NM
  intro _ _ _ _ _
  k_steps
  unfold Stop
  rename Fr _ _ _ _ => FM
  rename News _ _ _ _ => NM
  refine m_min3 FM NM rfl ?_
  clear FM NM
  intro _ _ _ _ _
  k_steps
  all_goals (try dsimp only)
  all_goals first
    | (refine hret _ _ _ _ [_, _, _] (kg.fr (by assumption)) (fresh_of kg (by assumption) (.head _) (fun h => nomatch h)) (News.get (by assumption) (.head _)) ?_)
    | (exfalso; clear hinf; omega)
    | (refine hinf ?_ ?_ ?_ ?_ (by assumption) <;> (clear hinf; omega))
    | skip
  all_goals repeat' split
  all_goals first | contradiction | skip
  all_goals repeat' (first | exact NumsAre.nil | apply NumsAre.int | apply NumsAre.float)

end partRgb2
theorem off_Ws2 : (1 : Nat) = 1 := by
  w_top off
  first | walk1 | rfl
section partWs2
structure WsSt where
  cnt : List Int
  b : Int
  n : Int
  nt : Int
noncomputable def up1 (l : List Int) (b : Int) : List Int := l.set b.toNat (l.getD b.toNat 0 + 1)
noncomputable def bump (l : List Int) (b : Int) : List Int := if b ≥ l.length then up1 (l ++ (List.replicate (b - l.length + 1).toNat [0]).flatten) b else up1 l b
theorem bump_len (l : List Int) (b : Int) (i : Nat) (h : l.length ≤ i) (hb0 : 0 ≤ b) (hb : b ≤ i) : (bump l b).length ≤ i + 1 := by
  unfold bump up1
  split
  · simp; omega
  · simp; omega
noncomputable def wsRun : WsSt → List Nat → WsSt
  | st, [] => st
  | st, c :: cs => if c = 32 then wsRun { st with n := st.n + 1, b := st.b + 1 } cs
    else if c = 9 then wsRun { cnt := bump st.cnt st.b, n := st.n + 1, nt := st.nt + 1, b := 0 } cs else st
noncomputable abbrev wsEs (w : World) (x : Str) (t k0 k1 k2 k3 k4 : Tok) (n : Int) (tn : Tok) (nt : Int) (tt : Tok) (D : Addr) (q : Bool) : List DictEntry :=
  [⟨PyData.keyHash w.params ((PySem.Str.ofString "raw")), .str ((PySem.Str.ofString "raw")) k0, .str x t⟩, ⟨PyData.keyHash w.params ((PySem.Str.ofString "n")), .str ((PySem.Str.ofString "n")) k1, .int n tn⟩, ⟨PyData.keyHash w.params ((PySem.Str.ofString "nt")), .str ((PySem.Str.ofString "nt")) k2, .int nt tt⟩,
   ⟨PyData.keyHash w.params ((PySem.Str.ofString "norm")), .str ((PySem.Str.ofString "norm")) k3, .ref D⟩, ⟨PyData.keyHash w.params ((PySem.Str.ofString "is_simple")), .str ((PySem.Str.ofString "is_simple")) k4, .bool q⟩]
/-- what the counts lie between, ahead of sign i -/
noncomputable def Bd (i : Nat) (b n nt : Int) : Prop := 0 ≤ b ∧ b ≤ i ∧ 0 ≤ n ∧ n ≤ i ∧ 0 ≤ nt ∧ nt ≤ i
theorem Bd.zero : Bd 0 0 0 0 := by unfold Bd; decide
theorem Bd.blank {i : Nat} {b n nt : Int} (h : Bd i b n nt) : Bd (i + 1) (b + 1) (n + 1) nt := by
  unfold Bd at h ⊢
  omega
theorem Bd.tab {i : Nat} {b n nt : Int} (h : Bd i b n nt) : Bd (i + 1) 0 (n + 1) (nt + 1) := by
  unfold Bd at h ⊢
  omega
noncomputable abbrev WsJb (w : World) (x dx : Addr) (t : Tok) (cs : List Nat) (i : Nat) (lo : List (Str × Value)) (nw : List (Addr × Obj)) (c : Addr) (its : List Value) (nn kr : Nat) (cnt : List Int) (b n nt : Int) (tb tn tt : Tok) : Prop :=
  lo = [((PySem.Str.ofString "ws"), .str (T cs) t), ((PySem.Str.ofString "self"), .ref x), ((PySem.Str.ofString "T"), .str (PySem.Str.ofString "\t") 304), ((PySem.Str.ofString "S"), .str (PySem.Str.ofString " ") 303), ((PySem.Str.ofString "count"), .ref c), ((PySem.Str.ofString "b"), .int b tb), ((PySem.Str.ofString "n"), .int n tn), ((PySem.Str.ofString "nt"), .int nt tt)] ∧
      nw = [(c, listOf its.toArray nn), (x, instObj 139 dx), (dx, dictOf [⟨PyData.keyHash w.params ((PySem.Str.ofString "raw")), .str ((PySem.Str.ofString "raw")) kr, .str (T cs) t⟩] 1)] ∧ IntsAre its cnt ∧ wsRun ⟨[], 0, 0, 0⟩ cs = wsRun ⟨cnt, b, n, nt⟩ (cs.drop i) ∧ Bd i b n nt ∧ cnt.length ≤ i
/-- the loop upon the signs, ahead of sign i -/
noncomputable def WsJ (w : World) (x dx : Addr) (t : Tok) (cs : List Nat) (i : Nat) (lo : List (Str × Value)) (nw : List (Addr × Obj)) : Prop :=
  ∃ (c : Addr) (its : List Value) (nn kr : Nat) (cnt : List Int) (b n nt : Int) (tb tn tt : Tok), WsJb w x dx t cs i lo nw c its nn kr cnt b n nt tb tn tt
theorem WsJ.intro {w : World} {x dx : Addr} {t : Tok} {cs : List Nat} {i : Nat} {lo : List (Str × Value)} {nw : List (Addr × Obj)} {c : Addr} {its : List Value} {nn kr : Nat} {cnt : List Int} {b n nt : Int} {tb tn tt : Tok} (h : WsJb w x dx t cs i lo nw c its nn kr cnt b n nt tb tn tt) : WsJ w x dx t cs i lo nw :=
  ⟨c, its, nn, kr, cnt, b, n, nt, tb, tn, tt, h⟩
noncomputable abbrev WsMb (w : World) (x dx : Addr) (t : Tok) (cs : List Nat) (g : Heap) (L : Addr) (s s' : Shared) (c : Addr) (its : List Value) (nn kr : Nat) (cnt : List Int) (b n nt : Int) (tb tn tt : Tok) : Prop :=
  At g L [((PySem.Str.ofString "self"), .ref x), ((PySem.Str.ofString "count"), .ref c), ((PySem.Str.ofString "b"), .int b tb), ((PySem.Str.ofString "n"), .int n tn), ((PySem.Str.ofString "nt"), .int nt tt)]
    [(c, listOf its.toArray nn), (x, instObj 139 dx), (dx, dictOf [⟨PyData.keyHash w.params ((PySem.Str.ofString "raw")), .str ((PySem.Str.ofString "raw")) kr, .str (T cs) t⟩] 1)] s s' ∧ IntsAre its cnt ∧ wsRun ⟨[], 0, 0, 0⟩ cs = ⟨cnt, b, n, nt⟩ ∧ cnt.length ≤ 1000
noncomputable def WsM (w : World) (x dx : Addr) (t : Tok) (cs : List Nat) (g : Heap) (L : Addr) (s s' : Shared) : Prop :=
  ∃ (c : Addr) (its : List Value) (nn kr : Nat) (cnt : List Int) (b n nt : Int) (tb tn tt : Tok), WsMb w x dx t cs g L s s' c its nn kr cnt b n nt tb tn tt
theorem WsM.intro {w : World} {x dx : Addr} {t : Tok} {cs : List Nat} {g : Heap} {L : Addr} {s s' : Shared} {c : Addr} {its : List Value} {nn kr : Nat} {cnt : List Int} {b n nt : Int} {tb tn tt : Tok} (h : WsMb w x dx t cs g L s s' c its nn kr cnt b n nt tb tn tt) : WsM w x dx t cs g L s s' :=
  ⟨c, its, nn, kr, cnt, b, n, nt, tb, tn, tt, h⟩
theorem init_spec (w : World) (s : Shared) (R : Result → Shared → Prop) (x dx : Addr) (t : Tok) (cs : List Nat) (hlen : cs.length ≤ 1000) (G : Gd (K0 w.params) (hideAll s.heap [x, dx]))
  (h1 : s.heap.get? x = some (instObj 139 dx)) (h2 : s.heap.get? dx = some (dictOf [] 0)) (hne : x ≠ dx)
  (hret : ∀ (h' : Heap) (tk' : Nat) (D Dc : Addr) (its : List Value) (cnt : List Int) (b n nt : Int) (k0 k1 k2 k3 k4 tb tn tt : Tok) (q : Bool), Kp [x, dx] s.heap h' → wsRun ⟨[], 0, 0, 0⟩ cs = ⟨cnt, b, n, nt⟩ → IntsAre its cnt → cnt.length ≤ 1000 →
    h'.get? x = some (instObj 139 dx) → h'.get? dx = some (dictOf (wsEs w (T cs) t k0 k1 k2 k3 k4 n tn nt tt D q) 5) → h'.get? D = some { cls := .type "tuple", data := .seq #[.ref Dc, .int b tb] } → h'.get? Dc = some { cls := .type "tuple", data := .seq its.toArray } →
    s.heap.get? D = none → s.heap.get? Dc = none → R (.ok (.ret .none)) { s with heap := h', toks := tk' }) :
  codeAny (model prog w) (lv 9) (.call (.ref 94) ⟨[.ref x, .str (T cs) t], []⟩) R s := by
  have _kf : (PySem.Challenge.rw_pg0230_02, K0) = (PySem.Challenge.rw_pg0230_02, K0) := by k_fill; rfl
  refine' enter_plain (K := K0 w.params) (binds := [((PySem.Str.ofString "self"), .ref x), ((PySem.Str.ofString "ws"), .str (T cs) t)]) (rb := [((PySem.Str.ofString "ws"), .str (T cs) t), ((PySem.Str.ofString "self"), .ref x)]) [(x, instObj 139 dx), (dx, dictOf [] 0)] G ?hN ?ho ?hcd ?hroom ?hbind ?hloc ?hrb ?_ ?c1 ?c2 ?c3 ?c4
  (case hN => intro p hp; rcases List.mem_cons.mp hp with rfl | hp; exact h1; rcases List.mem_cons.mp hp with rfl | hp; exact h2; cases hp)
  (( (case ho => k_is); (case hcd => k_is); (case hroom => k_room); (case hbind => exact BindsTo.of_eq rfl); (case hloc => exact locs rfl); (case hrb => exact rfl); (case c1 => decide); (case c2 => exact rfl); (case c3 => exact rfl); (case c4 => exact rfl); k_whole))
  intro g L h0 pp loose mean mg mb kg F0 N0 X TT l1 l2
  replace hne := neN hne
  k_steps
  rename_i l D F1 N1
  dsimp only at F1 N1
  refine wpAny_mono (Q := Next (WsM w x dx t cs g L s)) ?_ ?_ (fun _ _ z => z)
  · refine stop_at ?_
    ((unfold Stop; (with_reducible refine for_stmt ?_ ?mzhs); (case mzhs => intro _; rfl)))
    k_steps
    refine it_str (L := L) (x := T cs) (WsJ w x dx t cs) rfl rfl
      [((PySem.Str.ofString "ws"), .str (T cs) t), ((PySem.Str.ofString "self"), .ref x), ((PySem.Str.ofString "T"), .str (PySem.Str.ofString "\t") 304), ((PySem.Str.ofString "S"), .str (PySem.Str.ofString " ") 303), ((PySem.Str.ofString "count"), .ref _), ((PySem.Str.ofString "b"), .int 0 _), ((PySem.Str.ofString "n"), .int 0 _), ((PySem.Str.ofString "nt"), .int 0 _)] [(_, listOf #[] 0), (x, instObj 139 dx), (dx, dictOf [⟨PyData.keyHash w.params ((PySem.Str.ofString "raw")), .str ((PySem.Str.ofString "raw")) _, .str (T cs) t⟩] 1)] (by assumption) (by assumption) (by (first | focus ((repeat (first | exact True.intro | (refine AllAt.keep _ rfl ?_ ?_; (focus decide +kernel)) | (refine AllAt.skip _ rfl ?_ ?_; (focus decide +kernel)))); done) | ((repeat (refine And.intro ?_ ?_; (focus (first | walk_at "m_look" | rfl)))); exact True.intro))) (by (first | focus ((repeat (first | exact True.intro | with_reducible exact InAll.self | with_reducible refine InAll.keep ?_ | with_reducible refine InAll.skip ?_)); done) | ((repeat (refine And.intro (by k_mem) ?_)); exact True.intro))) (WsJ.intro ⟨rfl, rfl, .nil, rfl, Bd.zero, Nat.le_refl _⟩) ?_ ?_
    · rintro i ch tc I h3 tk3 m3 lo nw oI hi hPz1 F3 N3 hne hcl
      refine Classical.byContradiction fun hZq => ?_
      obtain ⟨c, its, nn, kr, cnt, b, n, nt, tb, tn, tt, rfl, rfl, hits, hrun, hbd, b7⟩ := hPz1
      refine hZq ?_
      clear hZq
      refine Classical.byContradiction fun hZq => ?_
      obtain ⟨b1, b2, b3, b4, b5, b6⟩ := id hbd
      refine hZq ?_
      clear hZq
      simp only [AllNe, and_true] at hne
      have hic : cs[i]? = some ch := by simpa [T] using hi
      have hi4 : i < cs.length := (List.getElem?_eq_some_iff.mp hic).1
      have hil := hits.length
      have hdrop : cs.drop i = ch :: cs.drop (i + 1) := by
        rw [List.drop_eq_getElem_cons hi4]; congr 1; rw [List.getElem?_eq_getElem hi4] at hic; exact Option.some.inj hic
      rw [hdrop] at hrun
      by_cases e1 : ch = 32
      · subst e1
        rw [wsRun, if_pos rfl] at hrun
        dsimp only at hrun
        k_steps
        refine turned_next _ [(c, listOf _ _), (x, instObj 139 dx), (dx, dictOf _ 1)] (.inl rfl) (by assumption) (by assumption) (by (first | focus ((repeat (first | exact True.intro | (refine AllAt.keep _ rfl ?_ ?_; (focus decide +kernel)) | (refine AllAt.skip _ rfl ?_ ?_; (focus decide +kernel)))); done) | ((repeat (refine And.intro ?_ ?_; (focus (first | walk_at "m_look" | rfl)))); exact True.intro))) (by (first | focus ((repeat (first | exact True.intro | with_reducible exact InAll.self | with_reducible refine InAll.keep ?_ | with_reducible refine InAll.skip ?_)); done) | ((repeat (refine And.intro (by k_mem) ?_)); exact True.intro))) (by ((repeat (refine And.intro ?_ ?_; (focus (refine neN ?_; (try dsimp only); omega)))); exact True.intro)) (WsJ.intro ⟨rfl, rfl, hits, hrun, hbd.blank, Nat.le_succ_of_le b7⟩)
      by_cases e2 : ch = 9
      · subst e2
        rw [wsRun, if_neg (by decide), if_pos rfl] at hrun
        dsimp only at hrun
        have hbl := bump_len cnt b i b7 b1 b2
        by_cases e3 : b ≥ cnt.length
        · k_steps
          all_goals first
            | (rw [bump, if_pos e3] at hrun hbl
               refine turned_next _ [(_, listOf _ _), (x, instObj 139 dx), (dx, dictOf _ 1)] (.inl rfl) (by assumption) (by assumption) (by (first | focus ((repeat (first | exact True.intro | (refine AllAt.keep _ rfl ?_ ?_; (focus decide +kernel)) | (refine AllAt.skip _ rfl ?_ ?_; (focus decide +kernel)))); done) | ((repeat (refine And.intro ?_ ?_; (focus (first | walk_at "m_look" | rfl)))); exact True.intro))) (by (first | focus ((repeat (first | exact True.intro | with_reducible exact InAll.self | with_reducible refine InAll.keep ?_ | with_reducible refine InAll.skip ?_)); done) | ((repeat (refine And.intro (by k_mem) ?_)); exact True.intro))) (by ((repeat (refine And.intro ?_ ?_; (focus (refine neN ?_; (try dsimp only); omega)))); exact True.intro)) (WsJ.intro ⟨rfl, rfl, by assumption, hrun, hbd.tab, hbl⟩))
        · have e4 : b < cnt.length := by omega
          have nc1 := neN (ne_of_cls N3 (.tail _ (.head _)) (.tail _ (.tail _ (.head _))) (fun e => nomatch e))
          have nc2 := neN (ne_of_cls N3 (.tail _ (.head _)) (.tail _ (.tail _ (.tail _ (.head _)))) (fun e => by injection e with e; exact absurd e (by decide)))
          have e5 : b.toNat < its.length := by omega
          k_steps
          all_goals first
            | (rw [bump, if_neg e3] at hrun hbl
               refine turned_next _ [(_, listOf _ _), (x, instObj 139 dx), (dx, dictOf _ 1)] (.inl rfl) (by assumption) (by assumption) (by (first | focus ((repeat (first | exact True.intro | (refine AllAt.keep _ rfl ?_ ?_; (focus decide +kernel)) | (refine AllAt.skip _ rfl ?_ ?_; (focus decide +kernel)))); done) | ((repeat (refine And.intro ?_ ?_; (focus (first | walk_at "m_look" | rfl)))); exact True.intro))) (by (first | focus ((repeat (first | exact True.intro | with_reducible exact InAll.self | with_reducible refine InAll.keep ?_ | with_reducible refine InAll.skip ?_)); done) | ((repeat (refine And.intro (by k_mem) ?_)); exact True.intro))) (by ((repeat (refine And.intro ?_ ?_; (focus (refine neN ?_; (try dsimp only); omega)))); exact True.intro)) (WsJ.intro ⟨rfl, rfl, by assumption, hrun, hbd.tab, hbl⟩))
      rw [wsRun, if_neg e1, if_neg e2] at hrun
      have q1 := sign_ne e1 (s := PySem.Str.ofString " ") (by decide +kernel)
      have q2 := sign_ne e2 (s := PySem.Str.ofString "\t") (by decide +kernel)
      k_steps
      all_goals first | exact absurd (q1.symm.trans (by assumption)) (by decide) | exact absurd (q2.symm.trans (by assumption)) (by decide) | skip
      all_goals exact ⟨rfl, WsM.intro ⟨At.intro (by assumption) (by assumption) (by (first | focus ((repeat (first | exact True.intro | (refine AllAt.keep _ rfl ?_ ?_; (focus decide +kernel)) | (refine AllAt.skip _ rfl ?_ ?_; (focus decide +kernel)))); done) | ((repeat (refine And.intro ?_ ?_; (focus (first | walk_at "m_look" | rfl)))); exact True.intro))) (by (first | focus ((repeat (first | exact True.intro | with_reducible exact InAll.self | with_reducible refine InAll.keep ?_ | with_reducible refine InAll.skip ?_)); done) | ((repeat (refine And.intro (by k_mem) ?_)); exact True.intro))), hits, hrun, by omega⟩⟩
    · rintro h3 tk3 m3 lo nw hPz1 F3 N3
      refine Classical.byContradiction fun hZq => ?_
      obtain ⟨c, its, nn, kr, cnt, b, n, nt, tb, tn, tt, rfl, rfl, hits, hrun, hbd, b7⟩ := hPz1
      refine hZq ?_
      clear hZq
      have hsz : (T cs).cps.size = cs.length := by simp [T]
      rw [hsz] at hrun b7
      rw [List.drop_length, wsRun] at hrun
      exact ⟨rfl, WsM.intro ⟨At.intro F3 N3 (by (first | focus ((repeat (first | exact True.intro | (refine AllAt.keep _ rfl ?_ ?_; (focus decide +kernel)) | (refine AllAt.skip _ rfl ?_ ?_; (focus decide +kernel)))); done) | ((repeat (refine And.intro ?_ ?_; (focus (first | walk_at "m_look" | rfl)))); exact True.intro))) (by (first | focus ((repeat (first | exact True.intro | with_reducible exact InAll.self | with_reducible refine InAll.keep ?_ | with_reducible refine InAll.skip ?_)); done) | ((repeat (refine And.intro (by k_mem) ?_)); exact True.intro))), hits, hrun, by omega⟩⟩

  rintro fl s1 hPz1
  refine Classical.byContradiction fun hZq => ?_
  obtain ⟨rfl, c, its, nn, kr, cnt, b, n, nt, tb, tn, tt, ⟨h1', tk1, m1, rfl, F1', N1'⟩, hits, hrun, b7⟩ := hPz1
  refine hZq ?_
  clear hZq
  have hil := hits.length
  have nc1 := neN (ne_of_cls N1' (.head _) (.tail _ (.head _)) (fun e => nomatch e))
  have nc2 := neN (ne_of_cls N1' (.head _) (.tail _ (.tail _ (.head _))) (fun e => by injection e with e; exact absurd e (by decide)))
  k_steps
  rename News _ _ _ _ => N2'
  have nd1 := neN (ne_of_cls N2' (.tail _ (.head _)) (.tail _ (.tail _ (.tail _ (.head _)))) (fun e => nomatch e))
  have nd2 := neN (ne_of_cls N2' (.tail _ (.head _)) (.tail _ (.tail _ (.tail _ (.tail _ (.head _))))) (fun e => by injection e with e; exact absurd e (by decide)))
  k_steps
  rename News _ _ _ _ => N3'
  exact hret _ _ _ _ _ _ _ _ _ _ _ _ _ _ _ _ _ _ (kg.fr (by assumption)) hrun hits b7 (N3' _ (.tail _ (.tail _ (.tail _ (.head _))))).1 (N3' _ (.tail _ (.tail _ (.tail _ (.tail _ (.head _)))))).1 (N3'.get (.head _)) (N3'.get (.tail _ (.head _)))
    (fresh_of kg N3' (.head _) (by
      have m1 := ne_of_cls N3' (.head _) (.tail _ (.tail _ (.tail _ (.head _)))) (fun e => nomatch e)
      have m2 := ne_of_cls N3' (.head _) (.tail _ (.tail _ (.tail _ (.tail _ (.head _))))) (fun e => by injection e with e; exact absurd e (by decide))
      intro q
      rcases List.mem_cons.mp q with q | q
      · exact m1 q
      · exact m2 (List.mem_singleton.mp q)))
    (fresh_of kg N3' (.tail _ (.head _)) (by
      intro q
      rcases List.mem_cons.mp q with q | q
      · exact nd1 q
      · exact nd2 (List.mem_singleton.mp q)))

end partWs2
theorem off_Ind2 : (1 : Nat) = 1 := by
  w_top off
  first | walk1 | rfl
section partInd2
theorem kp_full {wr : List Addr} {h g h' : Heap} {L : Addr} {m : Str → Option Value} {news : List (Addr × Obj)} (k : Kp wr h g) (F : Fr g L h' m) (N : News g L h' news) (e : ∀ a ∈ wr, ∃ o, h.get? a = some o ∧ (a, o) ∈ news) : Kp [] h h' := fun b o _ q => by
  by_cases hb : b ∈ wr
  · refine Classical.byContradiction fun hZq => ?_
    obtain ⟨o', e1, e2⟩ := e b hb
    refine hZq ?_
    clear hZq
    rw [e1] at q; cases q
    exact (N _ e2).1
  · exact F.keep _ _ (k b o hb q)
noncomputable def ilP (cnt : List Int) (size : Int) : Nat → Int
  | 0 => 0
  | k + 1 => ilP cnt size k + Int.fdiv (size + k) size * cnt.getD (size + k).toNat 0
noncomputable def indP (cnt : List Int) (b nt size : Int) : Int := b + size * (ilP cnt size ((cnt.length : Int) - size).toNat + nt)
theorem ilP_b {cnt : List Int} {size : Int} (hs : 1 ≤ size) (hc : ∀ n ∈ cnt, 0 ≤ n ∧ n ≤ 1000) (hl : cnt.length ≤ 1000) : ∀ k : Nat, k ≤ ((cnt.length : Int) - size).toNat → 0 ≤ ilP cnt size k ∧ ilP cnt size k ≤ 1000000 * k
  | 0, _ => ⟨Int.le_refl _, Int.le_refl _⟩
  | k + 1, h => by
    obtain ⟨a, b⟩ := ilP_b hs hc hl k (by omega)
    have hlt : (size + k).toNat < cnt.length := by omega
    obtain ⟨c1, c2⟩ := hc _ (List.getElem_mem hlt)
    have e : cnt.getD (size + k).toNat 0 = cnt[(size + k).toNat] := by simp [List.getD, hlt]
    have d1 : 0 ≤ Int.fdiv (size + k) size ∧ Int.fdiv (size + k) size ≤ 1000 := by
      rw [Int.fdiv_eq_ediv_of_nonneg _ (by omega)]
      refine ⟨Int.ediv_nonneg (by omega) (by omega), ?_⟩
      refine Int.le_trans (Int.ediv_le_self _ (by omega)) (by omega)
    unfold ilP
    rw [e]
    have p1 := Int.mul_nonneg d1.1 c1
    have p2 : Int.fdiv (size + k) size * cnt[(size + k).toNat] ≤ 1000 * 1000 := Int.mul_le_mul d1.2 c2 c1 (by decide)
    constructor
    · omega
    · omega
theorem seqIndex_in {k : Int} {n : Nat} (h0 : 0 ≤ k) (h1 : k < n) : seqIndex? k n = some k.toNat := by
  unfold seqIndex?
  have : ¬ k < 0 := by omega
  simp [this, h0, h1]
theorem indent_spec (w : World) (s : Shared) (R : Result → Shared → Prop) (x dx D Dc : Addr) (str : Str) (its : List Value) (cnt : List Int) (b n nt size : Int) (t k0 k1 k2 k3 k4 tb tn tt tz : Tok) (q : Bool)
  (G : Gd (K0 w.params) (hideAll s.heap [x, dx, D, Dc]))
  (h1 : s.heap.get? x = some (instObj 139 dx)) (h2 : s.heap.get? dx = some (dictOf (wsEs w str t k0 k1 k2 k3 k4 n tn nt tt D q) 5)) (h3' : s.heap.get? D = some { cls := .type "tuple", data := .seq #[.ref Dc, .int b tb] }) (h4 : s.heap.get? Dc = some { cls := .type "tuple", data := .seq its.toArray })
  (hits : IntsAre its cnt) (hlen : cnt.length ≤ 1000) (hcb : ∀ n ∈ cnt, 0 ≤ n ∧ n ≤ 1000) (hb : 0 ≤ b ∧ b ≤ 1000) (hnt : 0 ≤ nt ∧ nt ≤ 1000) (hs1 : 1 ≤ size) (hs2 : size ≤ 17)
  (hret : ∀ (h' : Heap) (tk' : Nat) (t' : Tok), Kp [] s.heap h' → R (.ok (.ret (.int (indP cnt b nt size) t'))) { s with heap := h', toks := tk' }) :
  codeAny (model prog w) (lv 9) (.call (.ref 108) ⟨[.ref x, .int size tz], []⟩) R s := by
  have _kf : (PySem.Challenge.rw_pg0230_02, K0) = (PySem.Challenge.rw_pg0230_02, K0) := by k_fill; rfl
  refine' enter_plain (K := K0 w.params) (binds := [((PySem.Str.ofString "self"), .ref x), ((PySem.Str.ofString "tabsize"), .int size tz)]) (rb := [((PySem.Str.ofString "tabsize"), .int size tz), ((PySem.Str.ofString "self"), .ref x)]) [(x, instObj 139 dx), (dx, dictOf (wsEs w str t k0 k1 k2 k3 k4 n tn nt tt D q) 5), (D, { cls := .type "tuple", data := .seq #[.ref Dc, .int b tb] }), (Dc, { cls := .type "tuple", data := .seq its.toArray })] G ?hN ?ho ?hcd ?hroom ?hbind ?hloc ?hrb ?_ ?c1 ?c2 ?c3 ?c4
  (case hN => intro p hp; rcases List.mem_cons.mp hp with rfl | hp; exact h1; rcases List.mem_cons.mp hp with rfl | hp; exact h2; rcases List.mem_cons.mp hp with rfl | hp; exact h3'; rcases List.mem_cons.mp hp with rfl | hp; exact h4; cases hp)
  (( (case ho => k_is); (case hcd => k_is); (case hroom => k_room); (case hbind => exact BindsTo.of_eq rfl); (case hloc => exact locs rfl); (case hrb => exact rfl); (case c1 => decide); (case c2 => exact rfl); (case c3 => exact rfl); (case c4 => exact rfl); k_whole))
  intro g L h0 pp loose mean mg mb kg F0 N0 X TT l1 l2
  have hil := hits.length
  have nx := ne_of_cls N0 (.tail _ (.tail _ (.tail _ (.head _)))) (.head _) (fun e => nomatch e)
  dsimp only [wsEs] at N0
  k_steps
  ((unfold Stop; (with_reducible refine for_stmt ?_ ?mzhs); (case mzhs => intro _; rfl)))
  k_steps
  rename News _ _ _ _ => NN
  with_reducible refine ktm_lenK (vs := its) (k := (cnt.length : Int)) NN (List.mem_cons_of_mem _ (List.mem_cons_of_mem _ (List.mem_cons_of_mem _ List.mem_cons_self))) (by omega) (by omega) ?_
  k_steps
  rename IsRange _ _ _ _ _ _ _ _ => hr
  refine it_range (L := L) (fun i lo nw => ∃ tl, lo = [((PySem.Str.ofString "tabsize"), .int size tz), ((PySem.Str.ofString "self"), .ref x), ((PySem.Str.ofString "count"), .ref Dc), ((PySem.Str.ofString "trailing"), .int b tb), ((PySem.Str.ofString "il"), .int (ilP cnt size i) tl)] ∧
    nw = [(x, instObj 139 dx), (dx, dictOf (wsEs w str t k0 k1 k2 k3 k4 n tn nt tt D q) 5), (D, { cls := .type "tuple", data := .seq #[.ref Dc, .int b tb] }), (Dc, { cls := .type "tuple", data := .seq its.toArray })])
    rfl rfl hr (small_one (by omega) (by omega) (by omega) (by omega)) (rangeSize_nat _ _) [((PySem.Str.ofString "tabsize"), .int size tz), ((PySem.Str.ofString "self"), .ref x), ((PySem.Str.ofString "count"), .ref Dc), ((PySem.Str.ofString "trailing"), .int b tb), ((PySem.Str.ofString "il"), .int 0 _)] [(x, instObj 139 dx), (dx, dictOf (wsEs w str t k0 k1 k2 k3 k4 n tn nt tt D q) 5), (D, { cls := .type "tuple", data := .seq #[.ref Dc, .int b tb] }), (Dc, { cls := .type "tuple", data := .seq its.toArray })] (by assumption) (by assumption) (by (first | focus ((repeat (first | exact True.intro | (refine AllAt.keep _ rfl ?_ ?_; (focus decide +kernel)) | (refine AllAt.skip _ rfl ?_ ?_; (focus decide +kernel)))); done) | ((repeat (refine And.intro ?_ ?_; (focus (first | walk_at "m_look" | rfl)))); exact True.intro))) (by (first | focus ((repeat (first | exact True.intro | with_reducible exact InAll.self | with_reducible refine InAll.keep ?_ | with_reducible refine InAll.skip ?_)); done) | ((repeat (refine And.intro (by k_mem) ?_)); exact True.intro))) ⟨_, rfl, rfl⟩ ?_ ?_
  · rintro i ti I h3 tk3 m3 lo nw oI hi hPz1 F3 N3 hne hcl
    refine Classical.byContradiction fun hZq => ?_
    obtain ⟨tl, rfl, rfl⟩ := hPz1
    refine hZq ?_
    clear hZq
    simp only [AllNe, and_true] at hne
    obtain ⟨v1, v2⟩ := ilP_b hs1 hcb hlen i (by omega)
    obtain ⟨v3, v4⟩ := ilP_b hs1 hcb hlen (i + 1) (by omega)
    have hlt : (size + i).toNat < cnt.length := by omega
    obtain ⟨tv, hv⟩ := hits.get (size + i).toNat cnt[(size + i).toNat] (by simp [hlt])
    obtain ⟨w1, w2⟩ := hcb _ (List.getElem_mem hlt)
    have hgd : cnt.getD (size + i).toNat 0 = cnt[(size + i).toNat] := by simp [List.getD, hlt]
    have hsx : seqIndex? (size + i) its.length = some (size + i).toNat := seqIndex_in (by omega) (by omega)
    generalize hcv : cnt[(size + i).toNat] = cv at *
    have d1 : 0 ≤ Int.fdiv (size + i) size ∧ Int.fdiv (size + i) size ≤ 1000 := by
      rw [Int.fdiv_eq_ediv_of_nonneg _ (by omega)]
      exact ⟨Int.ediv_nonneg (by omega) (by omega), Int.le_trans (Int.ediv_le_self _ (by omega)) (by omega)⟩
    dsimp only [wsEs] at N3
    k_steps
    refine turned_next _ _ (.inl rfl) (by assumption) (by assumption) (by (first | focus ((repeat (first | exact True.intro | (refine AllAt.keep _ rfl ?_ ?_; (focus decide +kernel)) | (refine AllAt.skip _ rfl ?_ ?_; (focus decide +kernel)))); done) | ((repeat (refine And.intro ?_ ?_; (focus (first | walk_at "m_look" | rfl)))); exact True.intro))) (by (first | focus ((repeat (first | exact True.intro | with_reducible exact InAll.self | with_reducible refine InAll.keep ?_ | with_reducible refine InAll.skip ?_)); done) | ((repeat (refine And.intro (by k_mem) ?_)); exact True.intro))) (by ((repeat (refine And.intro ?_ ?_; (focus (refine neN ?_; (try dsimp only); omega)))); exact True.intro)) ⟨_, rfl, rfl⟩
  · rintro h3 tk3 m3 lo nw hPz1 F3 N3
    refine Classical.byContradiction fun hZq => ?_
    obtain ⟨tl, rfl, rfl⟩ := hPz1
    refine hZq ?_
    clear hZq
    obtain ⟨v1, v2⟩ := ilP_b hs1 hcb hlen ((cnt.length : Int) - size).toNat (Nat.le_refl _)
    dsimp only [wsEs] at N3
    k_steps
    rename News _ _ _ _ => NN
    refine hret _ _ _ (kp_full kg (by assumption) NN ?_)
    intro a ha
    rcases List.mem_cons.mp ha with rfl | ha
    · exact ⟨_, h1, .head _⟩
    rcases List.mem_cons.mp ha with rfl | ha
    · exact ⟨_, h2, .tail _ (.head _)⟩
    rcases List.mem_cons.mp ha with rfl | ha
    · exact ⟨_, h3', .tail _ (.tail _ (.head _))⟩
    rcases List.mem_cons.mp ha with rfl | ha
    · exact ⟨_, h4, .tail _ (.tail _ (.tail _ (.head _)))⟩
    cases ha

end partInd2
theorem off_Lex2 : (1 : Nat) = 1 := by
  w_top off
  first | walk1 | rfl
section partLex2
theorem kp_part {wr wr' : List Addr} {h g h' : Heap} {L : Addr} {m : Str → Option Value} {news : List (Addr × Obj)} (k : Kp wr h g) (F : Fr g L h' m) (N : News g L h' news) (e : ∀ a ∈ wr, a ∈ wr' ∨ ∃ o, h.get? a = some o ∧ (a, o) ∈ news) : Kp wr' h h' := fun b o nb q => by
  by_cases hb : b ∈ wr
  · rcases e b hb with e1 | ⟨o', e1, e2⟩
    · exact absurd e1 nb
    · rw [e1] at q; cases q
      exact (N _ e2).1
  · exact F.keep _ _ (k b o hb q)
/-- a fresh _netrclex: its dict -/
noncomputable abbrev lxEs (w : World) (k0 k1 k2 k3 : Tok) (ln : Int) (tl : Tok) (held : Value) (tw : Tok) (pb : Addr) : List DictEntry :=
  [⟨PyData.keyHash w.params ((PySem.Str.ofString "lineno")), .str ((PySem.Str.ofString "lineno")) k0, .int ln tl⟩, ⟨PyData.keyHash w.params ((PySem.Str.ofString "instream")), .str ((PySem.Str.ofString "instream")) k1, held⟩,
   ⟨PyData.keyHash w.params ((PySem.Str.ofString "whitespace")), .str ((PySem.Str.ofString "whitespace")) k2, .str (PySem.Str.ofString "\n\t\r ") tw⟩, ⟨PyData.keyHash w.params ((PySem.Str.ofString "pushback")), .str ((PySem.Str.ofString "pushback")) k3, .ref pb⟩]
theorem lexinit_spec (w : World) (s : Shared) (R : Result → Shared → Prop) (x dx : Addr) (held : Value) (hheld : held = .none ∨ ∃ a, held = .ref a) (G : Gd (K0 w.params) (hideAll s.heap [x, dx]))
  (h1 : s.heap.get? x = some (instObj 73 dx)) (h2 : s.heap.get? dx = some (dictOf [] 0)) (hne : x ≠ dx)
  (hret : ∀ (h' : Heap) (tk' : Nat) (pb : Addr) (k0 k1 k2 k3 tl tw : Tok), Kp [x, dx] s.heap h' → h'.get? x = some (instObj 73 dx) → h'.get? dx = some (dictOf (lxEs w k0 k1 k2 k3 1 tl held tw pb) 4) → h'.get? pb = some (listOf #[] 0) → s.heap.get? pb = none → R (.ok (.ret .none)) { s with heap := h', toks := tk' }) :
  codeAny (model prog w) (lv 9) (.call (.ref 49) ⟨[.ref x, held], []⟩) R s := by
  have _kf : (PySem.Challenge.rw_pg0230_02, K0) = (PySem.Challenge.rw_pg0230_02, K0) := by k_fill; rfl
  refine' enter_plain (K := K0 w.params) (binds := [((PySem.Str.ofString "self"), .ref x), ((PySem.Str.ofString "fp"), held)]) (rb := [((PySem.Str.ofString "fp"), held), ((PySem.Str.ofString "self"), .ref x)]) [(x, instObj 73 dx), (dx, dictOf [] 0)] G ?hN ?ho ?hcd ?hroom ?hbind ?hloc ?hrb ?_ ?c1 ?c2 ?c3 ?c4
  (case hN => intro p hp; rcases List.mem_cons.mp hp with rfl | hp; exact h1; rcases List.mem_cons.mp hp with rfl | hp; exact h2; cases hp)
  (( (case ho => k_is); (case hcd => k_is); (case hroom => k_room); (case hbind => exact BindsTo.of_eq rfl); (case hloc => exact locs rfl); (case hrb => exact rfl); (case c1 => decide); (case c2 => exact rfl); (case c3 => exact rfl); (case c4 => exact rfl); k_whole))
  intro g L h0 pp loose mean mg mb kg F0 N0 X TT l1 l2
  replace hne := neN hne
  rcases hheld with rfl | ⟨a, rfl⟩
  all_goals k_steps
  all_goals
    rename News _ _ _ _ => NN
    refine hret _ _ _ _ _ _ _ _ _ (kg.fr (by assumption)) (NN _ (.tail _ (.head _))).1 (NN _ (.tail _ (.tail _ (.head _)))).1 (NN.get (.head _)) (fresh_of kg NN (.head _) ?_)
    have m1 := ne_of_cls NN (.head _) (.tail _ (.head _)) (fun e => nomatch e)
    have m2 := ne_of_cls NN (.head _) (.tail _ (.tail _ (.head _))) (fun e => by injection e with e; exact absurd e (by decide))
    intro q
    rcases List.mem_cons.mp q with q | q
    · exact m1 q
    · exact m2 (List.mem_singleton.mp q)
/-- push_token: the token goes to the end of the row that waits -/
theorem push_spec (w : World) (s : Shared) (R : Result → Shared → Prop) (x dx pb : Addr) (k0 k1 k2 k3 tl tw tt : Tok) (ln : Int) (held : Value) (its : List Value) (n : Nat) (tok : Str) (G : Gd (K0 w.params) (hideAll s.heap [x, dx, pb]))
  (h1 : s.heap.get? x = some (instObj 73 dx)) (h2 : s.heap.get? dx = some (dictOf (lxEs w k0 k1 k2 k3 ln tl held tw pb) 4)) (h3' : s.heap.get? pb = some (listOf its.toArray n)) (hlen : its.length ≤ 1000)
  (hret : ∀ (h' : Heap) (tk' n' : Nat), Kp [pb] s.heap h' → h'.get? pb = some (listOf (its ++ [Value.str tok tt]).toArray n') → R (.ok (.ret .none)) { s with heap := h', toks := tk' }) :
  codeAny (model prog w) (lv 9) (.call (.ref 70) ⟨[.ref x, .str tok tt], []⟩) R s := by
  have _kf : (PySem.Challenge.rw_pg0230_02, K0) = (PySem.Challenge.rw_pg0230_02, K0) := by k_fill; rfl
  refine' enter_plain (K := K0 w.params) (binds := [((PySem.Str.ofString "self"), .ref x), ((PySem.Str.ofString "token"), .str tok tt)]) (rb := [((PySem.Str.ofString "token"), .str tok tt), ((PySem.Str.ofString "self"), .ref x)]) [(x, instObj 73 dx), (dx, dictOf (lxEs w k0 k1 k2 k3 ln tl held tw pb) 4), (pb, listOf its.toArray n)] G ?hN ?ho ?hcd ?hroom ?hbind ?hloc ?hrb ?_ ?c1 ?c2 ?c3 ?c4
  (case hN => intro p hp; rcases List.mem_cons.mp hp with rfl | hp; exact h1; rcases List.mem_cons.mp hp with rfl | hp; exact h2; rcases List.mem_cons.mp hp with rfl | hp; exact h3'; cases hp)
  (( (case ho => k_is); (case hcd => k_is); (case hroom => k_room); (case hbind => exact BindsTo.of_eq rfl); (case hloc => exact locs rfl); (case hrb => exact rfl); (case c1 => decide); (case c2 => exact rfl); (case c3 => exact rfl); (case c4 => exact rfl); k_whole))
  intro g L h0 pp loose mean mg mb kg F0 N0 X TT l1 l2
  have m1 := neN (ne_of_cls N0 (.tail _ (.tail _ (.head _))) (.head _) (fun e => nomatch e))
  have m2 := neN (ne_of_cls N0 (.tail _ (.tail _ (.head _))) (.tail _ (.head _)) (fun e => by injection e with e; exact absurd e (by decide)))
  dsimp only [lxEs] at N0
  k_steps
  rename News _ _ _ _ => NN
  refine hret _ _ _ (kp_part kg (by assumption) NN ?_) (by rw [← List.push_toArray]; exact (NN _ (.tail _ (.tail _ (.head _)))).1)
  intro a ha
  rcases List.mem_cons.mp ha with rfl | ha
  · exact .inr ⟨_, h1, .head _⟩
  rcases List.mem_cons.mp ha with rfl | ha
  · exact .inr ⟨_, h2, .tail _ (.head _)⟩
  exact .inl ha

end partLex2
theorem off_Lf2 : (1 : Nat) = 1 := by
  w_top off
  first | walk1 | rfl
section partLf2
theorem kl_last_app (l : List Value) (y : Value) : kl_last (l ++ [y]) = some (l, y) := by
  induction l with
  | nil => rfl
  | cons a r ih =>
    cases r with
    | nil => rfl
    | cons b r =>
      rw [List.cons_append, List.cons_append] at *
      rw [kl_last, ih]
noncomputable def sg (c : Nat) : Str := ⟨#[c]⟩
theorem m_liststr {w : World} {A : Around} {E : Value → Shared → Prop} {g h : Heap} {L : Addr} {m : Str → Option Value} {news : List (Addr × Obj)} {gn : Array GenState} {dr : Drawn} {tk : Nat} {os : OsState} {cs : List Nat} {t : Tok} {Q : Value → Shared → Prop}
    (F : Fr g L h m) (N : News g L h news) (hh : A.handled = none) (hsz : cs.length ≤ sizeLine)
    (k : ∀ D h' tk' (ys : List Value) n, Fr g L h' m → News g L h' ((D, listOf ys.toArray n) :: news) → StrsAre ys (cs.map sg) → (∀ p ∈ news, p.1 < D) → Q (.ref D) ⟨h', gn, dr, tk', os⟩) :
    wpAny (model prog w) A (call (.type "list") [.str (T cs) t]) Q E ⟨h, gn, dr, tk, os⟩ := by
  refine call_list_str hh (T cs) t (hn := by simpa [T] using hsz) fun h' tk' acc' c' hk hS' hacc => ?_
  refine k h.objs.size h' tk' acc'.toList c' (F.keeps hk) (fun p hp => ?_) (strs_of (by simpa [T] using hacc.1) fun i y hy => ?_) (fun p hp => Heap.lt_size (N p hp).1)
  · rcases List.mem_cons.mp hp with e | hp
    · rw [e]
      exact ⟨by simpa using hS', Ne.symm (Nat.ne_of_lt F.ns.lt), next_is_new F⟩
    · exact ⟨hk _ _ (N p hp).1, (N p hp).2⟩
  · refine Classical.byContradiction fun hZq => ?_
    obtain ⟨c, u, hc, rfl⟩ := hacc.2 i y (by simpa using hy)
    refine hZq ?_
    clear hZq
    exact ⟨sg c, u, by rw [List.getElem?_map]; have : cs[i]? = some c := by simpa [T] using hc
                       rw [this]; rfl, rfl⟩
theorem codeHd_at {h h' : Heap} {c P : Addr} (x : CodeHd h c P) (k : ∀ o, h.get? c = some o → h'.get? c = some o) : CodeHd h' c P :=
  let ⟨o, vs, file, tf, flags, tg, inF, text, tt, e, r⟩ := x; ⟨o, vs, file, tf, flags, tg, inF, text, tt, k _ e, r⟩
noncomputable abbrev hxEs (w : World) (k0 k1 k2 k3 k4 : Tok) (ln : Int) (tl : Tok) (held : Value) (tw : Tok) (pb : Addr) (rd : Addr) : List DictEntry :=
  lxEs w k0 k1 k2 k3 ln tl held tw pb ++ [⟨PyData.keyHash w.params ((PySem.Str.ofString "read")), .str ((PySem.Str.ofString "read")) k4, .ref rd⟩]
/-- the reader of the page: a call with one asks for one sign -/
noncomputable def TakeSpec (w : World) (fA cA cc D : Addr) (fo co cco : Obj) : Prop :=
  ∀ (s : Shared) (R : Result → Shared → Prop) (t : Tok) (ys : List Value) (cs : List Nat) (n : Nat), Gd (K0 w.params) (hideAll s.heap [fA, cc, cA, D]) →
    s.heap.get? fA = some fo → s.heap.get? cc = some cco → s.heap.get? cA = some co → s.heap.get? D = some (listOf ys.reverse.toArray n) → StrsAre ys (cs.map sg) → cs.length ≤ 100000 →
    (∀ (h' : Heap) (tk' n' : Nat) (t' : Tok), Kp [D] s.heap h' → h'.get? D = some (listOf (ys.drop 1).reverse.toArray n') → R (.ok (.ret (.str (T (cs.take 1)) t'))) { s with heap := h', toks := tk' }) →
    codeAny (model prog w) (lv 9) (.call (.ref fA) ⟨[.int 1 t], []⟩) R s
theorem file_spec (w : World) (s : Shared) (R : Result → Shared → Prop) (cs : List Nat) (t : Tok) (hlen : cs.length ≤ 100000) (G : Gd (K0 w.params) (hideAll s.heap [145])) (h145 : s.heap.get? 145 = some (tabObj #[])) (hC : CodeHd s.heap 149 145)
  (hret : ∀ (h' : Heap) (tk' : Nat) (x dx fA cA cc D pb : Addr) (fo co cco : Obj) (ys : List Value) (n : Nat) (k0 k1 k2 k3 k4 tl tw : Tok), Kp [145] s.heap h' →
    h'.get? x = some (instObj 73 dx) → h'.get? dx = some (dictOf (hxEs w k0 k1 k2 k3 k4 1 tl .none tw pb fA) 5) → h'.get? pb = some (listOf #[] 0) → h'.get? fA = some fo → h'.get? cc = some cco → h'.get? D = some (listOf ys.reverse.toArray n) → h'.get? cA = some co →
    s.heap.get? x = none → s.heap.get? dx = none → s.heap.get? pb = none → s.heap.get? fA = none → s.heap.get? cc = none → s.heap.get? D = none → s.heap.get? cA = none →
    fo.cls = .type "function" → (∃ fd, fo.data = .func fd) → co.data = .cell (some (.ref D)) → (∃ vs, cco.data = .fields vs) → StrsAre ys (cs.map sg) → TakeSpec w fA cA cc D fo co cco → (∃ ps, h'.get? 145 = some (tabObj ps)) →
    R (.ok (.ret (.ref x))) { s with heap := h', toks := tk' }) :
  codeAny (model prog w) (lv 12) (.call (.ref 150) ⟨[.str (T cs) t], []⟩) R s := by
  have _kf : (PySem.Challenge.rw_pg0230_02, K0) = (PySem.Challenge.rw_pg0230_02, K0) := by k_fill; rfl
  refine' enter_cells (K := K0 w.params) (binds := [((PySem.Str.ofString "text"), .str (T cs) t)]) (rb := [((PySem.Str.ofString "text"), .str (T cs) t)]) [(145, tabObj #[])] G (fun p hp => by rw [List.mem_singleton.mp hp]; exact h145) ?ho ?hcd ?hroom ?hbind ?hkind ?hnd ?hbl ?_ ?c2 ?c3 ?c4
  (( (case ho => k_is); (case hcd => k_is); (case hroom => k_room); (case hbind => exact BindsTo.of_eq rfl); (case hkind => ((intro n x hx; simp only [List.mem_cons, List.not_mem_nil, or_false] at hx; subst hx; first | exact .inl rfl | exact .inr ⟨rfl, rfl⟩))); (case hnd => decide +kernel); (case hbl => exact fun _ => rfl); (case c2 => exact rfl); (case c3 => exact rfl); (case c4 => exact rfl); k_whole))
  intro g L h0 tk cells pp loose mean mg mb kg F0 N0 X TT l1 l2 Y
  have C9 : CodeHd g 149 145 := codeHd_at hC fun o e => kg _ o (by decide) e
  have hL9 : (145 : Nat) < L := Nat.lt_of_lt_of_le (Heap.lt_size h145) l2
  k_cells Y
  simp only [List.cons_append, List.nil_append] at N0
  k_steps
  refine m_liststr (by assumption) (by assumption) rfl (by rw [sizeLine_eq]; omega) fun D h1 tk1 ys n F1 N1 hys l3 => ?_
  k_steps
  have hyl := hys.length
  rw [List.length_map] at hyl
  k_lt l3
  rename News _ _ _ _ => NN
  simp only [List.cons_append, List.nil_append] at NN
  refine kl_reverse (D := D) (its := ys.toArray) (n := n) (l := ys.reverse) (by assumption) NN (by simp) (by k_upd) (by rw [sizeLine_eq, List.toList_toArray]; omega) fun h2 F2 N2 => ?_
  k_steps
  refine' call_cls ?k1 ?k2 ?k3 ?k4 ?k5 ?k6 ?_; (case k1 => k_asm); (case k2 => k_asm); (case k3 => k_asm); (case k4 => k_is); (case k5 => k_is); (case k6 => k_is); k_whole
  intro x' d' h3 F3 N3 l3 l4
  have l3' := l3
  have l4' := l4
  k_lt l3
  k_lt2 l4
  refine' codeAny_at (A' := lv 9) ?a1 ?a2 ?a3 ?a4 ?a5 ?_
  (case a1 => exact rfl); (case a2 => (exact Nat.le_of_ble_eq_true rfl)); (case a3 => (exact Nat.le_of_ble_eq_true rfl)); (case a4 => exact rfl); (case a5 => exact rfl)
  with_reducible refine' lexinit_spec w _ _ x' d' .none ?b1 ?b2 ?b3 ?b4 ?b5 ?_
  (case b1 => exact .inl rfl)
  (case b2 => exact gd_of X TT F3 N3 [x', d'] (HasAll.mem (by ((repeat (refine And.intro ⟨_, by k_mem⟩ ?_)); exact True.intro))))
  (case b3 => exact (N3 _ (.head _)).1)
  (case b4 => exact (N3 _ (.tail _ (.head _))).1)
  (case b5 => exact neN (by omega))
  intro h4 tk4 pb k0 k1 k2 k3 tl tw K4 e1 e2 e3 e4
  refine ⟨rfl, ?_⟩
  have np3 : pb ≠ 145 := fun q => by
    have z : h3.get? 145 = some _ := (N3 _ (.tail _ (.tail _ (.tail _ (.tail _ (.tail _ (.tail _ (.head _)))))))).1
    dsimp only at e4
    rw [q, z] at e4
    cases e4
  obtain ⟨F4, N4⟩ := after_two [(pb, listOf #[] 0)] F3 N3 K4 e1 e2 l3' l4' (fun p hp => by rw [List.mem_singleton.mp hp]; exact ⟨e3, e4⟩)
  simp only [List.cons_append, List.nil_append] at N4
  have np1 := neN (ne_of_cls N4 (.tail _ (.tail _ (.head _))) (.head _) (fun e => nomatch e))
  have np2 := neN (ne_of_cls N4 (.tail _ (.tail _ (.head _))) (.tail _ (.head _)) (fun e => by injection e with e; exact absurd e (by decide)))
  dsimp only [lxEs] at N4
  k_steps
  rename Array Value => vs9
  rename _ = Data.fields _ => dfl
  rename _ = some (Value.str _ _) => dq
  rename _ = Data.cell (some (Value.ref D)) => dcell
  rename News _ _ _ _ => N5
  rename Fr _ _ _ _ => F5
  have fr := fun (a : Addr) (o : Obj) (hp : (a, o) ∈ _) (h9 : a ≠ 145) => fresh_of kg N5 hp (fun q => h9 (List.mem_singleton.mp q))
  refine hret _ _ x' d' _ _ _ D pb _ _ _ ys n k0 k1 k2 k3 _ tl tw (kg.fr F5) (N5 _ (.head _)).1 (N5 _ (.tail _ (.head _))).1 (N5 _ (.tail _ (.tail _ (.head _)))).1 (N5 _ (.tail _ (.tail _ (.tail _ (.head _))))).1 (N5 _ (.tail _ (.tail _ (.tail _ (.tail _ (.head _)))))).1
    (N5 _ (.tail _ (.tail _ (.tail _ (.tail _ (.tail _ (.head _))))))).1 (N5 _ (.tail _ (.tail _ (.tail _ (.tail _ (.tail _ (.tail _ (.head _)))))))).1
    (fr _ _ (.head _) ?_) (fr _ _ (.tail _ (.head _)) ?_) (fr _ _ (.tail _ (.tail _ (.head _))) ?_) (fr _ _ (.tail _ (.tail _ (.tail _ (.head _)))) ?_) (fr _ _ (.tail _ (.tail _ (.tail _ (.tail _ (.head _))))) ?_)
    (fr _ _ (.tail _ (.tail _ (.tail _ (.tail _ (.tail _ (.head _)))))) ?_) (fr _ _ (.tail _ (.tail _ (.tail _ (.tail _ (.tail _ (.tail _ (.head _))))))) ?_) rfl ⟨_, rfl⟩ dcell ⟨_, dfl⟩ hys ?_ ⟨_, (N5 _ (.tail _ (.tail _ (.tail _ (.tail _ (.tail _ (.tail _ (.tail _ (.head _))))))))).1⟩
  rotate_right
  · dsimp only
    intro s9 R9 t9 ys9 cs9 n9 G9 g1 g2 g3 g4 hys9 hlen9 hret9
    refine' enter_clos (K := K0 w.params) (binds := [((PySem.Str.ofString "size"), .int 1 t9)]) (rb := [((PySem.Str.ofString "size"), .int 1 t9)]) [(_, _), (_, _), (_, _), (D, listOf ys9.reverse.toArray n9)] G9 (NAll.mem ⟨g1, g2, g3, g4, trivial⟩) g1 rfl ?hcd ?hroom ?hbind ?hloc ?hrb ?_ ?c1 ?c2 ?c3 ?c4
    (case hcd => exact ⟨_, _, _, _, rfl, g2, dfl, dq⟩)
    (case hroom => k_room); (case hbind => exact BindsTo.of_eq rfl); (case hloc => exact locs rfl); (case hrb => exact rfl); (case c1 => decide); (case c2 => exact rfl); (case c3 => exact rfl); (case c4 => exact rfl)
    clear hret F5 N5 kg X TT G fr
    intro g L9 h0 pp loose mean mg mb kg F0 N0 X TT l1 l2
    cases ys9 with
    | nil =>
      cases cs9 with
      | cons c cs9 => rw [List.map_cons] at hys9; cases hys9
      | nil =>
      k_steps
      unfold Stop
      refine whl_start 3 (whl_turn (fun _ _ h => h.elim) ?_)
      k_steps
      unfold Stop
      rename News _ _ _ _ => N6
      refine EqBoolInt.of_rcne (SeqAt.RcNeAt.lists (e := fun _ => true) ⟨_, (N6 _ (.tail _ (.tail _ (.tail _ (.tail _ (.head _)))))).1, rfl, _, rfl⟩ ⟨_, (N6 _ (.head _)).1, rfl, _, rfl⟩ rfl (by (exact Nat.le_of_ble_eq_true rfl)) (fun j h1 h2 => absurd h2 (Nat.not_lt_zero _))) ?_
      k_steps
      rename News _ _ _ _ => N6
      refine hret9 _ _ n9 _ (kp_part kg (by assumption) N6 ?_) (N6 _ (.tail _ (.tail _ (.tail _ (.tail _ (.head _)))))).1
      intro a ha
      rcases List.mem_cons.mp ha with rfl | ha
      · exact .inr ⟨_, g1, .tail _ (.head _)⟩
      rcases List.mem_cons.mp ha with rfl | ha
      · exact .inr ⟨_, g2, .tail _ (.tail _ (.head _))⟩
      rcases List.mem_cons.mp ha with rfl | ha
      · exact .inr ⟨_, g3, .tail _ (.tail _ (.tail _ (.head _)))⟩
      exact .inl ha
    | cons y ys9 =>
      cases cs9 with
      | nil => cases hys9
      | cons c cs9 =>
      rw [List.map_cons] at hys9
      cases hys9 with
      | cons _ ty hr =>
      have hrl := hr.length
      rw [List.length_map] at hrl
      k_steps
      unfold Stop
      refine whl_start 3 (whl_turn (fun _ _ h => h.elim) ?_)
      k_steps
      unfold Stop
      rename News _ _ _ _ => N6
      refine EqBoolInt.of_rcne (SeqAt.RcNeAt.lists_lengths ⟨_, (N6 _ (.tail _ (.tail _ (.tail _ (.tail _ (.head _)))))).1, rfl, _, rfl⟩ ⟨_, (N6 _ (.head _)).1, rfl, _, rfl⟩ (by simp) (by (exact Nat.le_of_ble_eq_true rfl))) ?_
      k_steps
      rename News _ _ _ _ => N7
      refine kl_pop (D := D) (its := (Value.str (sg c) ty :: ys9).reverse.toArray) (n := n9) (p := ys9.reverse) (y := .str (sg c) ty) (by assumption) N7 (by rw [List.toList_toArray, List.reverse_cons]; exact kl_last_app _ _) (by k_upd) (by rw [sizeLine_eq]; simp; simp at hlen9; omega) fun h8 F8 N8 => ?_
      k_steps
      have hg1 : (PySem.Str.ofString "" ++ sg c) = T [c] := by
        have he : PySem.Str.ofString "" = T [] := by decide +kernel
        rw [he]; exact T_append [] [c]
      have hg2 : (PySem.Str.ofString "" ++ sg c).length = 1 := by rw [hg1, T_len]; rfl
      unfold Stop
      rename News _ _ _ _ => N9
      cases ys9 with
      | nil =>
        refine EqBoolInt.of_rcne (SeqAt.RcNeAt.lists (e := fun _ => true) ⟨_, (N9 _ (.tail _ (.tail _ (.tail _ (.tail _ (.tail _ (.head _))))))).1, rfl, _, rfl⟩ ⟨_, (N9 _ (.head _)).1, rfl, _, rfl⟩ rfl (by (exact Nat.le_of_ble_eq_true rfl)) (fun j h1 h2 => absurd h2 (Nat.not_lt_zero _))) ?_
        k_steps
        rw [hg1]
        rename News _ _ _ _ => N6
        refine hret9 _ _ _ _ (kp_part kg (by assumption) N6 ?_) (N6 _ (.tail _ (.tail _ (.tail _ (.tail _ (.tail _ (.head _))))))).1
        intro a ha
        rcases List.mem_cons.mp ha with rfl | ha
        · exact .inr ⟨_, g1, .tail _ (.tail _ (.head _))⟩
        rcases List.mem_cons.mp ha with rfl | ha
        · exact .inr ⟨_, g2, .tail _ (.tail _ (.tail _ (.head _)))⟩
        rcases List.mem_cons.mp ha with rfl | ha
        · exact .inr ⟨_, g3, .tail _ (.tail _ (.tail _ (.tail _ (.head _))))⟩
        exact .inl ha
      | cons y2 ys9 =>
        refine EqBoolInt.of_rcne (SeqAt.RcNeAt.lists_lengths ⟨_, (N9 _ (.tail _ (.tail _ (.tail _ (.tail _ (.tail _ (.head _))))))).1, rfl, _, rfl⟩ ⟨_, (N9 _ (.head _)).1, rfl, _, rfl⟩ (by simp) (by (exact Nat.le_of_ble_eq_true rfl))) ?_
        k_steps
        rw [hg1]
        rename News _ _ _ _ => N6
        refine hret9 _ _ _ _ (kp_part kg (by assumption) N6 ?_) (N6 _ (.tail _ (.tail _ (.tail _ (.tail _ (.tail _ (.head _))))))).1
        intro a ha
        rcases List.mem_cons.mp ha with rfl | ha
        · exact .inr ⟨_, g1, .tail _ (.tail _ (.head _))⟩
        rcases List.mem_cons.mp ha with rfl | ha
        · exact .inr ⟨_, g2, .tail _ (.tail _ (.tail _ (.head _)))⟩
        rcases List.mem_cons.mp ha with rfl | ha
        · exact .inr ⟨_, g3, .tail _ (.tail _ (.tail _ (.tail _ (.head _))))⟩
        exact .inl ha
  all_goals try (show @Ne Nat _ _; omega)
  all_goals exact np3

end partLf2
theorem off_Rd2 : (1 : Nat) = 1 := by
  w_top off
  first | walk1 | rfl
section partRd2
local macro_rules | `(tactic| walk_at "call ref") => `(tactic| refine stop_at ?_)
local macro_rules | `(tactic| walk_at "callWith ref") => `(tactic| refine stop_at ?_)
/-- where a lexer on a page lies -/
structure LxA where
  x : Addr
  dx : Addr
  pb : Addr
  hx : Addr
  hdx : Addr
  hpb : Addr
  fA : Addr
  cc : Addr
  cA : Addr
  D : Addr
  fo : Obj
  cco : Obj
  co : Obj
  k0 : Tok
  k1 : Tok
  k2 : Tok
  k3 : Tok
  tw : Tok
  j0 : Tok
  j1 : Tok
  j2 : Tok
  j3 : Tok
  j4 : Tok
  jl : Tok
  jw : Tok
noncomputable abbrev LxA.led (a : LxA) (w : World) (ln : Int) (tl : Tok) (ys : List Value) (n : Nat) : List (Addr × Obj) :=
  [(a.x, instObj 73 a.dx), (a.dx, dictOf (lxEs w a.k0 a.k1 a.k2 a.k3 ln tl (.ref a.hx) a.tw a.pb) 4), (a.hx, instObj 73 a.hdx), (a.hdx, dictOf (hxEs w a.j0 a.j1 a.j2 a.j3 a.j4 1 a.jl .none a.jw a.hpb a.fA) 5), (a.fA, a.fo), (a.cc, a.cco), (a.cA, a.co), (a.D, listOf ys.reverse.toArray n)]
structure LxA.Ok (a : LxA) (w : World) : Prop where
  ts : TakeSpec w a.fA a.cA a.cc a.D a.fo a.co a.cco
  n1 : a.dx ≠ a.hdx
  fcls : a.fo.cls = .type "function"
  fdat : ∃ fd, a.fo.data = .func fd
  cdat : a.co.data = .cell (some (.ref a.D))
  ccdat : ∃ vs, a.cco.data = .fields vs
  n2 : a.D ≠ a.pb
noncomputable def KpAll (wr : List Addr) (news : List (Addr × Obj)) : List (Addr × Obj) → Prop
  | [] => True
  | p :: r => (p ∈ news ∨ p.1 ∈ wr) ∧ KpAll wr news r
theorem KpAll.mem {wr : List Addr} {news : List (Addr × Obj)} : ∀ {l : List (Addr × Obj)}, KpAll wr news l → ∀ p ∈ l, p ∈ news ∨ p.1 ∈ wr
  | [], _, _, hm => nomatch hm
  | q :: r, h, p, hm => by
    rcases List.mem_cons.mp hm with e | hm
    · rw [e]; exact h.1
    · exact KpAll.mem h.2 p hm
theorem kp_led {wr : List Addr} {h g h' : Heap} {L : Addr} {m : Str → Option Value} {mu news : List (Addr × Obj)} (k : Kp (mu.map (·.1)) h g) (F : Fr g L h' m) (N : News g L h' news) (hl : NAll h mu) (e : KpAll wr news mu) : Kp wr h h' :=
  kp_part k F N fun a ha => by
    refine Classical.byContradiction fun hZq => ?_
    obtain ⟨p, hp, rfl⟩ := List.mem_map.mp ha
    refine hZq ?_
    clear hZq
    rcases e.mem p hp with e1 | e1
    · exact .inr ⟨p.2, hl.mem p hp, e1⟩
    · exact .inl e1
theorem ne_of_data {g : Heap} {L a b : Addr} {oa ob : Obj} {h : Heap} {news : List (Addr × Obj)} (N : News g L h news) (ha : (a, oa) ∈ news) (hb : (b, ob) ∈ news) (ne : oa.data ≠ ob.data) : a ≠ b := fun e => by
  have h1 := (N _ ha).1
  have h2 := (N _ hb).1
  rw [e] at h1
  exact ne (congrArg Obj.data (Option.some.inj (h1.symm.trans h2)))
theorem read_spec (w : World) (s : Shared) (R : Result → Shared → Prop) (a : LxA) (ok : a.Ok w) (ln : Int) (tl : Tok) (ys : List Value) (cs : List Nat) (n : Nat)
  (G : Gd (K0 w.params) (hideAll s.heap [a.x, a.dx, a.hx, a.hdx, a.fA, a.cc, a.cA, a.D])) (hled : NAll s.heap (a.led w ln tl ys n)) (hys : StrsAre ys (cs.map sg)) (hlen : cs.length ≤ 100000) (hln : 0 ≤ ln ∧ ln ≤ 1000000)
  (hret : ∀ (h' : Heap) (tk' n' : Nat) (t' tl' : Tok), Kp [a.dx, a.D] s.heap h' → h'.get? a.dx = some (dictOf (lxEs w a.k0 a.k1 a.k2 a.k3 (ln + if cs.head? = some 10 then 1 else 0) tl' (.ref a.hx) a.tw a.pb) 4) → h'.get? a.D = some (listOf (ys.drop 1).reverse.toArray n') →
    R (.ok (.ret (.str (T (cs.take 1)) t'))) { s with heap := h', toks := tk' }) :
  codeAny (model prog w) (lv 11) (.call (.ref 56) ⟨[.ref a.x], []⟩) R s := by
  have _kf : (PySem.Challenge.rw_pg0230_02, K0) = (PySem.Challenge.rw_pg0230_02, K0) := by k_fill; rfl
  refine Classical.byContradiction fun hZq => ?_
  obtain ⟨x, dx, pb, hx, hdx, hpb, fA, cc, cA, D, fo, cco, co, k0, k1, k2, k3, tw, j0, j1, j2, j3, j4, jl, jw⟩ := a
  refine hZq ?_
  clear hZq
  refine Classical.byContradiction fun hZq => ?_
  obtain ⟨ts, n1, fcls, ⟨fd, fdat⟩, cdat, ⟨ccv, ccdat⟩, n2⟩ := ok
  refine hZq ?_
  clear hZq
  unfold TakeSpec at ts
  dsimp only at G ts n1 fcls fdat cdat ccdat hret ⊢
  refine' enter_plain (K := K0 w.params) (binds := [((PySem.Str.ofString "self"), .ref x)]) (rb := [((PySem.Str.ofString "self"), .ref x)]) (LxA.led ⟨x, dx, pb, hx, hdx, hpb, fA, cc, cA, D, fo, cco, co, k0, k1, k2, k3, tw, j0, j1, j2, j3, j4, jl, jw⟩ w ln tl ys n) G hled.mem ?ho ?hcd ?hroom ?hbind ?hloc ?hrb ?_ ?c1 ?c2 ?c3 ?c4
  (( (case ho => k_is); (case hcd => k_is); (case hroom => k_room); (case hbind => exact BindsTo.of_eq rfl); (case hloc => exact locs rfl); (case hrb => exact rfl); (case c1 => decide); (case c2 => exact rfl); (case c3 => exact rfl); (case c4 => exact rfl); k_whole))
  intro g L h0 pp loose mean mg mb kg F0 N0 X TT l1 l2
  dsimp only [LxA.led, lxEs, hxEs, List.cons_append, List.nil_append] at N0
  k_steps
  unfold Stop
  dsimp only
  refine callWith_def (fd := fd) (o := fo) fdat ?_
  k_steps
  · exact (N0 _ (.tail _ (.tail _ (.tail _ (.tail _ (.head _)))))).1
  unfold Stop
  refine wpAny_call ?_
  refine' codeAny_at (A' := lv 9) ?a1 ?a2 ?a3 ?a4 ?a5 ?_
  (case a1 => exact rfl); (case a2 => (exact Nat.le_of_ble_eq_true rfl)); (case a3 => (exact Nat.le_of_ble_eq_true rfl)); (case a4 => exact rfl); (case a5 => exact rfl)
  with_reducible refine' ts _ _ _ ys cs n ?b1 ?b2 ?b3 ?b4 ?b5 hys hlen ?_
  (case b1 => exact gd_of X TT F0 N0 [fA, cc, cA, D] (HasAll.mem (by ((repeat (refine And.intro ⟨_, by k_mem⟩ ?_)); exact True.intro))))
  (case b2 => exact (N0 _ (.tail _ (.tail _ (.tail _ (.tail _ (.head _)))))).1)
  (case b3 => exact (N0 _ (.tail _ (.tail _ (.tail _ (.tail _ (.tail _ (.head _))))))).1)
  (case b4 => exact (N0 _ (.tail _ (.tail _ (.tail _ (.tail _ (.tail _ (.tail _ (.head _)))))))).1)
  (case b5 => exact (N0 _ (.tail _ (.tail _ (.tail _ (.tail _ (.tail _ (.tail _ (.tail _ (.head _))))))))).1)
  intro h1 tk1 n1' t1 K1 e1
  have q1 := neN (ne_of_cls N0 (.tail _ (.tail _ (.tail _ (.tail _ (.tail _ (.tail _ (.tail _ (.head _)))))))) (.head _) (fun e => nomatch e))
  have q2 := neN (ne_of_cls N0 (.tail _ (.tail _ (.tail _ (.tail _ (.tail _ (.tail _ (.tail _ (.head _)))))))) (.tail _ (.head _)) (fun e => by injection e with e; exact absurd e (by decide)))
  have q3 := neN (ne_of_cls N0 (.tail _ (.tail _ (.tail _ (.tail _ (.tail _ (.tail _ (.tail _ (.head _)))))))) (.tail _ (.tail _ (.head _))) (fun e => nomatch e))
  have q4 := neN (ne_of_cls N0 (.tail _ (.tail _ (.tail _ (.tail _ (.tail _ (.tail _ (.tail _ (.head _)))))))) (.tail _ (.tail _ (.tail _ (.head _)))) (fun e => by injection e with e; exact absurd e (by decide)))
  have q5 := neN (ne_of_data N0 (.tail _ (.tail _ (.tail _ (.tail _ (.tail _ (.tail _ (.tail _ (.head _)))))))) (.tail _ (.tail _ (.tail _ (.tail _ (.head _))))) (fun e => by rw [fdat] at e; exact nomatch e))
  have q6 := neN (ne_of_data N0 (.tail _ (.tail _ (.tail _ (.tail _ (.tail _ (.tail _ (.tail _ (.head _)))))))) (.tail _ (.tail _ (.tail _ (.tail _ (.tail _ (.head _)))))) (fun e => by rw [ccdat] at e; exact nomatch e))
  have q7 := neN (ne_of_data N0 (.tail _ (.tail _ (.tail _ (.tail _ (.tail _ (.tail _ (.tail _ (.head _)))))))) (.tail _ (.tail _ (.tail _ (.tail _ (.tail _ (.tail _ (.head _))))))) (fun e => by rw [cdat] at e; exact nomatch e))
  obtain ⟨F1, N1⟩ := afterL [_, _, _, _, _, _, _, (D, listOf (ys.drop 1).reverse.toArray n1')] F0 N0 K1 (by ((repeat (refine And.intro ⟨_, by k_mem⟩ ?_)); exact True.intro)) ⟨.inl ⟨.head _, by ((simp only [List.mem_cons, List.not_mem_nil, or_false, not_or, not_false_iff]; repeat' (first | apply And.intro | (refine neN ?_; (try dsimp only); omega))))⟩, .inl ⟨.tail _ (.head _), by ((simp only [List.mem_cons, List.not_mem_nil, or_false, not_or, not_false_iff]; repeat' (first | apply And.intro | (refine neN ?_; (try dsimp only); omega))))⟩, .inl ⟨.tail _ (.tail _ (.head _)), by ((simp only [List.mem_cons, List.not_mem_nil, or_false, not_or, not_false_iff]; repeat' (first | apply And.intro | (refine neN ?_; (try dsimp only); omega))))⟩, .inl ⟨.tail _ (.tail _ (.tail _ (.head _))), by ((simp only [List.mem_cons, List.not_mem_nil, or_false, not_or, not_false_iff]; repeat' (first | apply And.intro | (refine neN ?_; (try dsimp only); omega))))⟩, .inl ⟨.tail _ (.tail _ (.tail _ (.tail _ (.head _)))), by ((simp only [List.mem_cons, List.not_mem_nil, or_false, not_or, not_false_iff]; repeat' (first | apply And.intro | (refine neN ?_; (try dsimp only); omega))))⟩, .inl ⟨.tail _ (.tail _ (.tail _ (.tail _ (.tail _ (.head _))))), by ((simp only [List.mem_cons, List.not_mem_nil, or_false, not_or, not_false_iff]; repeat' (first | apply And.intro | (refine neN ?_; (try dsimp only); omega))))⟩, .inl ⟨.tail _ (.tail _ (.tail _ (.tail _ (.tail _ (.tail _ (.head _)))))), by ((simp only [List.mem_cons, List.not_mem_nil, or_false, not_or, not_false_iff]; repeat' (first | apply And.intro | (refine neN ?_; (try dsimp only); omega))))⟩, .inr ⟨e1, .inl ⟨_, .tail _ (.tail _ (.tail _ (.tail _ (.tail _ (.tail _ (.tail _ (.head _)))))))⟩⟩, trivial⟩
  have d0 := neN n1
  have d1 := neN (ne_of_cls N1 (.tail _ (.head _)) (.head _) (fun e => nomatch e))
  have d2 := neN (ne_of_cls N1 (.tail _ (.head _)) (.tail _ (.tail _ (.head _))) (fun e => nomatch e))
  have d3 := neN (ne_of_data N1 (.tail _ (.head _)) (.tail _ (.tail _ (.tail _ (.tail _ (.head _))))) (fun e => by rw [fdat] at e; exact nomatch e))
  have d4 := neN (ne_of_data N1 (.tail _ (.head _)) (.tail _ (.tail _ (.tail _ (.tail _ (.tail _ (.head _)))))) (fun e => by rw [ccdat] at e; exact nomatch e))
  have d5 := neN (ne_of_data N1 (.tail _ (.head _)) (.tail _ (.tail _ (.tail _ (.tail _ (.tail _ (.tail _ (.head _))))))) (fun e => by rw [cdat] at e; exact nomatch e))
  cases cs with
  | nil =>
    k_steps
    rename News _ _ _ _ => N2
    exact hret _ _ _ _ _ (kp_led kg (by assumption) N2 hled (by ((repeat (refine And.intro ?_ ?_; (focus (first | exact .inl (by k_mem) | exact .inr (by k_mem))))); exact True.intro))) ((Int.add_zero ln).symm ▸ (N2 _ (.tail _ (.head _))).1) (N2 _ (.tail _ (.tail _ (.tail _ (.tail _ (.tail _ (.tail _ (.tail _ (.head _))))))))).1
  | cons c cs =>
    have hc1 : (T (List.take 1 (c :: cs))) = ⟨#[c]⟩ := rfl
    rw [hc1] at hret ⊢
    by_cases hc : c = 10
    · subst hc
      k_steps
      rename News _ _ _ _ => N2
      exact hret _ _ _ _ _ (kp_led kg (by assumption) N2 hled (by ((repeat (refine And.intro ?_ ?_; (focus (first | exact .inl (by k_mem) | exact .inr (by k_mem))))); exact True.intro))) (N2 _ (.tail _ (.head _))).1 (N2 _ (.tail _ (.tail _ (.tail _ (.tail _ (.tail _ (.tail _ (.tail _ (.head _))))))))).1
    have q1 := sign_ne hc (s := PySem.Str.ofString "\n") (by decide +kernel)
    have hcc : (if (c :: cs).head? = some 10 then 1 else 0 : Int) = 0 := if_neg fun e => hc (by simpa using e)
    rw [hcc, Int.add_zero] at hret
    k_steps
    all_goals first | exact absurd (q1.symm.trans (by assumption)) (by decide) | skip
    rename News _ _ _ _ => N2
    exact hret _ _ _ _ _ (kp_led kg (by assumption) N2 hled (by ((repeat (refine And.intro ?_ ?_; (focus (first | exact .inl (by k_mem) | exact .inr (by k_mem))))); exact True.intro))) (N2 _ (.tail _ (.head _))).1 (N2 _ (.tail _ (.tail _ (.tail _ (.tail _ (.tail _ (.tail _ (.tail _ (.head _))))))))).1

end partRd2
theorem off_Gp2 : (1 : Nat) = 1 := by
  w_top off
  first | walk1 | rfl
section partGp2
local macro_rules | `(tactic| walk_at "call ref") => `(tactic| refine stop_at ?_)
theorem gettok_pend (w : World) (s : Shared) (R : Result → Shared → Prop) (x dx pb : Addr) (k0 k1 k2 k3 tl tw tt : Tok) (ln : Int) (held : Value) (its : List Value) (n : Nat) (tok : Str) (G : Gd (K0 w.params) (hideAll s.heap [x, dx, pb]))
  (h1 : s.heap.get? x = some (instObj 73 dx)) (h2 : s.heap.get? dx = some (dictOf (lxEs w k0 k1 k2 k3 ln tl held tw pb) 4)) (h3' : s.heap.get? pb = some (listOf (Value.str tok tt :: its).toArray n)) (hlen : its.length ≤ 1000)
  (hret : ∀ (h' : Heap) (tk' n' : Nat), Kp [pb] s.heap h' → h'.get? pb = some (listOf its.toArray n') → R (.ok (.ret (.str tok tt))) { s with heap := h', toks := tk' }) :
  codeAny (model prog w) (lv 9) (.call (.ref 63) ⟨[.ref x], []⟩) R s := by
  have _kf : (PySem.Challenge.rw_pg0230_02, K0) = (PySem.Challenge.rw_pg0230_02, K0) := by k_fill; rfl
  refine' enter_plain (K := K0 w.params) (binds := [((PySem.Str.ofString "self"), .ref x)]) (rb := [((PySem.Str.ofString "self"), .ref x)]) [(x, instObj 73 dx), (dx, dictOf (lxEs w k0 k1 k2 k3 ln tl held tw pb) 4), (pb, listOf (Value.str tok tt :: its).toArray n)] G ?hN ?ho ?hcd ?hroom ?hbind ?hloc ?hrb ?_ ?c1 ?c2 ?c3 ?c4
  (case hN => intro p hp; rcases List.mem_cons.mp hp with rfl | hp; exact h1; rcases List.mem_cons.mp hp with rfl | hp; exact h2; rcases List.mem_cons.mp hp with rfl | hp; exact h3'; cases hp)
  (( (case ho => k_is); (case hcd => k_is); (case hroom => k_room); (case hbind => exact BindsTo.of_eq rfl); (case hloc => exact locs rfl); (case hrb => exact rfl); (case c1 => decide); (case c2 => exact rfl); (case c3 => exact rfl); (case c4 => exact rfl); k_whole))
  intro g L h0 pp loose mean mg mb kg F0 N0 X TT l1 l2
  have m1 := neN (ne_of_cls N0 (.tail _ (.tail _ (.head _))) (.head _) (fun e => nomatch e))
  have m2 := neN (ne_of_cls N0 (.tail _ (.tail _ (.head _))) (.tail _ (.head _)) (fun e => by injection e with e; exact absurd e (by decide)))
  dsimp only [lxEs] at N0
  k_steps
  refine wpAny_truthy_list (items := (Value.str tok tt :: its).toArray) ⟨_, (N0 _ (.tail _ (.tail _ (.head _)))).1, rfl, _, rfl⟩ (by simp; omega) ?_
  have ht : (!(Value.str tok tt :: its).toArray.isEmpty) = true := by simp
  rw [ht]
  k_steps
  refine kl_pop0 (D := pb) (r := its) F0 N0 (by k_upd) (by rw [sizeLine_eq]; simp; omega) fun h4 F4 N4 => ?_
  refine hret _ _ _ (kp_led kg F4 N4 ⟨h1, h2, h3', trivial⟩ (by ((repeat (refine And.intro ?_ ?_; (focus (first | exact .inl (by k_mem) | exact .inr (by k_mem))))); exact True.intro))) (N4 _ (.tail _ (.tail _ (.head _)))).1

end partGp2
theorem off_Fi2 : (1 : Nat) = 1 := by
  w_top off
  first | walk1 | rfl
section partFi2
/-- the ledger of the lexer but for the two that are written -/
noncomputable abbrev LxA.six (a : LxA) (w : World) : List (Addr × Obj) :=
  [(a.x, instObj 73 a.dx), (a.hx, instObj 73 a.hdx), (a.hdx, dictOf (hxEs w a.j0 a.j1 a.j2 a.j3 a.j4 1 a.jl .none a.jw a.hpb a.fA) 5), (a.fA, a.fo), (a.cc, a.cco), (a.cA, a.co)]
theorem led_six {a : LxA} {w : World} {ln : Int} {tl : Tok} {ys : List Value} {n : Nat} {p : Addr × Obj} (h : p ∈ a.led w ln tl ys n) :
    p = (a.dx, dictOf (lxEs w a.k0 a.k1 a.k2 a.k3 ln tl (.ref a.hx) a.tw a.pb) 4) ∨ p = (a.D, listOf ys.reverse.toArray n) ∨ p ∈ a.six w := by
  rcases List.mem_cons.mp h with e | h
  · exact .inr (.inr (e ▸ .head _))
  rcases List.mem_cons.mp h with e | h
  · exact .inl e
  rcases List.mem_cons.mp h with e | h
  · exact .inr (.inr (e ▸ .tail _ (.head _)))
  rcases List.mem_cons.mp h with e | h
  · exact .inr (.inr (e ▸ .tail _ (.tail _ (.head _))))
  rcases List.mem_cons.mp h with e | h
  · exact .inr (.inr (e ▸ .tail _ (.tail _ (.tail _ (.head _)))))
  rcases List.mem_cons.mp h with e | h
  · exact .inr (.inr (e ▸ .tail _ (.tail _ (.tail _ (.tail _ (.head _))))))
  rcases List.mem_cons.mp h with e | h
  · exact .inr (.inr (e ▸ .tail _ (.tail _ (.tail _ (.tail _ (.tail _ (.head _)))))))
  exact .inr (.inl (List.mem_singleton.mp h))
theorem six_led {a : LxA} {w : World} (ln : Int) (tl : Tok) (ys : List Value) (n : Nat) {p : Addr × Obj} (h : p ∈ a.six w) : p ∈ a.led w ln tl ys n := by
  rcases List.mem_cons.mp h with rfl | h
  · exact .head _
  rcases List.mem_cons.mp h with rfl | h
  · exact .tail _ (.tail _ (.head _))
  rcases List.mem_cons.mp h with rfl | h
  · exact .tail _ (.tail _ (.tail _ (.head _)))
  rcases List.mem_cons.mp h with rfl | h
  · exact .tail _ (.tail _ (.tail _ (.tail _ (.head _))))
  rcases List.mem_cons.mp h with rfl | h
  · exact .tail _ (.tail _ (.tail _ (.tail _ (.tail _ (.head _)))))
  rw [List.mem_singleton.mp h]
  exact .tail _ (.tail _ (.tail _ (.tail _ (.tail _ (.tail _ (.head _))))))
theorem six_off {a : LxA} {w : World} (ok : a.Ok w) {g h : Heap} {L : Addr} {news : List (Addr × Obj)} (N : News g L h news) {ln : Int} {tl : Tok} {ys : List Value} {n : Nat} (hs : ∀ p ∈ a.led w ln tl ys n, p ∈ news) :
    ∀ p ∈ a.six w, p.1 ≠ a.dx ∧ p.1 ≠ a.D := by
  refine Classical.byContradiction fun hZq => ?_
  obtain ⟨ts, n1, fcls, ⟨fd, fdat⟩, cdat, ⟨ccv, ccdat⟩, n2⟩ := ok
  refine hZq ?_
  clear hZq
  have md := hs _ (.tail _ (.head _))
  have mD := hs _ (.tail _ (.tail _ (.tail _ (.tail _ (.tail _ (.tail _ (.tail _ (.head _))))))))
  intro p hp
  have hm := hs p (six_led ln tl ys n hp)
  rcases List.mem_cons.mp hp with rfl | hp
  · exact ⟨ne_of_cls N hm md (fun e => nomatch e), ne_of_cls N hm mD (fun e => nomatch e)⟩
  rcases List.mem_cons.mp hp with rfl | hp
  · exact ⟨ne_of_cls N hm md (fun e => nomatch e), ne_of_cls N hm mD (fun e => nomatch e)⟩
  rcases List.mem_cons.mp hp with rfl | hp
  · exact ⟨Ne.symm n1, ne_of_cls N hm mD (fun e => by injection e with e; exact absurd e (by decide))⟩
  rcases List.mem_cons.mp hp with rfl | hp
  · exact ⟨ne_of_data N hm md (fun e => by rw [fdat] at e; exact nomatch e), ne_of_data N hm mD (fun e => by rw [fdat] at e; exact nomatch e)⟩
  rcases List.mem_cons.mp hp with rfl | hp
  · exact ⟨ne_of_data N hm md (fun e => by rw [ccdat] at e; exact nomatch e), ne_of_data N hm mD (fun e => by rw [ccdat] at e; exact nomatch e)⟩
  rw [List.mem_singleton.mp hp] at hm ⊢
  exact ⟨ne_of_data N hm md (fun e => by rw [cdat] at e; exact nomatch e), ne_of_data N hm mD (fun e => by rw [cdat] at e; exact nomatch e)⟩
theorem nall_of {h : Heap} : ∀ {l : List (Addr × Obj)}, (∀ p ∈ l, h.get? p.1 = some p.2) → NAll h l
  | [], _ => trivial
  | p :: r, hl => ⟨hl p (.head _), nall_of fun q hq => hl q (.tail _ hq)⟩
/-- the lexer's two written: the ledger behind it -/
theorem led_after {w : World} {a : LxA} (ok : a.Ok w) {ln ln' : Int} {tl tl' : Tok} {ys ys' : List Value} {n n' : Nat} {g h' : Heap} {s : Shared} {L : Addr} {m : Str → Option Value} {pre post : List (Addr × Obj)}
    (F : Fr g L s.heap m) (N : News g L s.heap (pre ++ (a.led w ln tl ys n ++ post))) (hoff : ∀ p, (p ∈ pre ∨ p ∈ post) → p.1 ≠ a.dx ∧ p.1 ≠ a.D) (K : Kp [a.dx, a.D] s.heap h')
    (e1 : h'.get? a.dx = some (dictOf (lxEs w a.k0 a.k1 a.k2 a.k3 ln' tl' (.ref a.hx) a.tw a.pb) 4)) (e2 : h'.get? a.D = some (listOf ys'.reverse.toArray n')) :
    Fr g L h' m ∧ News g L h' (pre ++ (a.led w ln' tl' ys' n' ++ post)) := by
  have sub : ∀ p ∈ a.led w ln tl ys n, p ∈ pre ++ (a.led w ln tl ys n ++ post) := fun p hp => List.mem_append.mpr (.inr (List.mem_append.mpr (.inl hp)))
  have o6 := six_off ok N sub
  have off : ∀ q : Addr × Obj, (q.1 ≠ a.dx ∧ q.1 ≠ a.D) → q.1 ∉ [a.dx, a.D] := fun q hq hc => by
    rcases List.mem_cons.mp hc with e | hc
    · exact hq.1 e
    · exact hq.2 (List.mem_singleton.mp hc)
  refine after _ F N K (fun b hb => ?_) (fun p hp => ?_)
  · rcases List.mem_cons.mp hb with rfl | hb
    · exact ⟨_, sub _ (.tail _ (.head _))⟩
    · rw [List.mem_singleton.mp hb]; exact ⟨_, sub _ (.tail _ (.tail _ (.tail _ (.tail _ (.tail _ (.tail _ (.tail _ (.head _))))))))⟩
  · rcases List.mem_append.mp hp with hp | hp
    · exact .inl ⟨List.mem_append.mpr (.inl hp), off p (hoff p (.inl hp))⟩
    rcases List.mem_append.mp hp with hp | hp
    · rcases led_six hp with rfl | rfl | h6
      · exact .inr ⟨e1, .inl ⟨_, sub _ (.tail _ (.head _))⟩⟩
      · exact .inr ⟨e2, .inl ⟨_, sub _ (.tail _ (.tail _ (.tail _ (.tail _ (.tail _ (.tail _ (.tail _ (.head _))))))))⟩⟩
      · exact .inl ⟨sub _ (six_led _ _ _ _ h6), off p (o6 p h6)⟩
    · exact .inl ⟨List.mem_append.mpr (.inr (List.mem_append.mpr (.inr hp))), off p (hoff p (.inr hp))⟩
/-- _read_char called upon a ledger that holds the lexer -/
theorem read_led (w : World) (s : Shared) (R : Result → Shared → Prop) (a : LxA) (ok : a.Ok w) (ln : Int) (tl : Tok) (ys : List Value) (cs : List Nat) (n : Nat) {g : Heap} {L : Addr} {m : Str → Option Value} {pre post : List (Addr × Obj)}
  {pp : Program} {loose : List Str} {mean : ExcName → Option Value} {mg mb : Str → Option Value} (X : (K0 w.params).In g) (TT : Top pp loose mean mg mb g)
  (F : Fr g L s.heap m) (N : News g L s.heap (pre ++ (a.led w ln tl ys n ++ post))) (hoff : ∀ p, (p ∈ pre ∨ p ∈ post) → p.1 ≠ a.dx ∧ p.1 ≠ a.D)
  (hys : StrsAre ys (cs.map sg)) (hlen : cs.length ≤ 100000) (hln : 0 ≤ ln ∧ ln ≤ 1000000)
  (hret : ∀ (h' : Heap) (tk' n' : Nat) (t' tl' : Tok), Fr g L h' m → News g L h' (pre ++ (a.led w (ln + if cs.head? = some 10 then 1 else 0) tl' (ys.drop 1) n' ++ post)) → R (.ok (.ret (.str (T (cs.take 1)) t'))) { s with heap := h', toks := tk' }) :
  codeAny (model prog w) (lv 11) (.call (.ref 56) ⟨[.ref a.x], []⟩) R s := by
  have sub : ∀ p ∈ a.led w ln tl ys n, p ∈ pre ++ (a.led w ln tl ys n ++ post) := fun p hp => List.mem_append.mpr (.inr (List.mem_append.mpr (.inl hp)))
  refine read_spec w s R a ok ln tl ys cs n (gd_of X TT F N _ (HasAll.mem ⟨⟨_, sub _ (.head _)⟩, ⟨_, sub _ (.tail _ (.head _))⟩, ⟨_, sub _ (.tail _ (.tail _ (.head _)))⟩, ⟨_, sub _ (.tail _ (.tail _ (.tail _ (.head _))))⟩, ⟨_, sub _ (.tail _ (.tail _ (.tail _ (.tail _ (.head _)))))⟩, ⟨_, sub _ (.tail _ (.tail _ (.tail _ (.tail _ (.tail _ (.head _))))))⟩, ⟨_, sub _ (.tail _ (.tail _ (.tail _ (.tail _ (.tail _ (.tail _ (.head _)))))))⟩, ⟨_, sub _ (.tail _ (.tail _ (.tail _ (.tail _ (.tail _ (.tail _ (.tail _ (.head _))))))))⟩, trivial⟩)) (nall_of fun p hp => (N p (sub p hp)).1) hys hlen hln ?_
  intro h' tk' n' t' tl' K e1 e2
  obtain ⟨F', N'⟩ := led_after ok F N hoff K e1 e2
  exact hret h' tk' n' t' tl' F' N'
theorem strs_drop {ys : List Value} {cs : List Nat} (h : StrsAre ys (cs.map sg)) : StrsAre (ys.drop 1) ((cs.drop 1).map sg) := by
  cases cs with
  | nil => cases h; exact .nil
  | cons c cs => rw [List.map_cons] at h; cases h with | cons _ _ h => exact h
noncomputable abbrev itB (B : Addr) (tsn : Tok) : Obj := citObj (.ref B) (.str (PySem.Str.ofString "") tsn) (.bool false)
noncomputable abbrev itE : Obj := citObj .none .none (.bool true)
/-- the ledger of get_token: its iterator, the bound method, the lexer -/
noncomputable abbrev LxA.rled (a : LxA) (w : World) (I B : Addr) (oI : Obj) (ln : Int) (tl : Tok) (ys : List Value) (n np : Nat) : List (Addr × Obj) :=
  [(I, oI), (B, methodObj (.ref 56) (.ref a.x))] ++ (a.led w ln tl ys n ++ [(a.pb, listOf #[] np)])
theorem rled_off {a : LxA} {w : World} (ok : a.Ok w) {g h : Heap} {L I B : Addr} {oI : Obj} {ln : Int} {tl : Tok} {ys : List Value} {n np : Nat} (N : News g L h (a.rled w I B oI ln tl ys n np)) (hI : oI.cls = .type "callable_iterator") :
    ∀ p, (p ∈ [(I, oI), (B, methodObj (.ref 56) (.ref a.x))] ∨ p ∈ [(a.pb, listOf #[] np)]) → p.1 ≠ a.dx ∧ p.1 ≠ a.D := by
  have md := (N : News g L h _) 
  have m2 : (a.dx, _) ∈ a.rled w I B oI ln tl ys n np := .tail _ (.tail _ (.tail _ (.head _)))
  have mD : (a.D, _) ∈ a.rled w I B oI ln tl ys n np := .tail _ (.tail _ (.tail _ (.tail _ (.tail _ (.tail _ (.tail _ (.tail _ (.tail _ (.head _)))))))))
  rintro p (hp | hp)
  · rcases List.mem_cons.mp hp with rfl | hp
    · exact ⟨ne_of_cls N (.head _) m2 (fun e => by rw [hI] at e; injection e with e; exact absurd e (by decide)), ne_of_cls N (.head _) mD (fun e => by rw [hI] at e; injection e with e; exact absurd e (by decide))⟩
    · rw [List.mem_singleton.mp hp]
      exact ⟨ne_of_cls N (.tail _ (.head _)) m2 (fun e => by injection e with e; exact absurd e (by decide)), ne_of_cls N (.tail _ (.head _)) mD (fun e => by injection e with e; exact absurd e (by decide))⟩
  · rw [List.mem_singleton.mp hp]
    exact ⟨ne_of_cls N (.tail _ (.tail _ (.tail _ (.tail _ (.tail _ (.tail _ (.tail _ (.tail _ (.tail _ (.tail _ (.head _))))))))))) m2 (fun e => by injection e with e; exact absurd e (by decide)), Ne.symm ok.n2⟩
theorem empty_T : PySem.Str.ofString "" = T [] := by decide +kernel
/-- the iterator's next sign, or its end -/
theorem fiter_next (w : World) {A : Around} {E : Value → Shared → Prop} (a : LxA) (ok : a.Ok w) (ln : Int) (tl : Tok) (ys : List Value) (cs : List Nat) (n np : Nat) {g h : Heap} {L I B : Addr} {tsn : Tok} {m : Str → Option Value} {gn : Array GenState} {dr : Drawn} {tk : Nat} {os : OsState}
  {pp : Program} {loose : List Str} {mean : ExcName → Option Value} {mg mb : Str → Option Value} {Q : Option Value → Shared → Prop} (X : (K0 w.params).In g) (TT : Top pp loose mean mg mb g)
  (hA1 : A.in1.handled = none) (hA2 : A.in1.depth ≤ (lv 11).depth) (hA3 : A.in1.units ≤ (lv 11).units)
  (F : Fr g L h m) (N : News g L h (a.rled w I B (itB B tsn) ln tl ys n np)) (hys : StrsAre ys (cs.map sg)) (hlen : cs.length ≤ 100000) (hln : 0 ≤ ln ∧ ln ≤ 1000000) (hI : I ∉ [B, a.x, a.dx, a.hx, a.hdx, a.fA, a.cc, a.cA, a.D, a.pb])
  (h1 : ∀ c r h' tk' ys' n' tl' t, cs = c :: r → Fr g L h' m → News g L h' (a.rled w I B (itB B tsn) (ln + if c = 10 then 1 else 0) tl' ys' n' np) → StrsAre ys' (r.map sg) → Q (some (.str ⟨#[c]⟩ t)) ⟨h', gn, dr, tk', os⟩)
  (h2 : cs = [] → ∀ h' tk' ys' n' tl', Fr g L h' m → News g L h' (a.rled w I B itE ln tl' ys' n' np) → StrsAre ys' (([] : List Nat).map sg) → Q none ⟨h', gn, dr, tk', os⟩) :
  wpAny (model prog w) A (pyNext (.ref I)) Q E ⟨h, gn, dr, tk, os⟩ := by
  have off := rled_off ok N rfl
  obtain ⟨o, d, fd, hf⟩ : ∃ o d fd, ((K0 w.params).lookup 56 = some ⟨o, d, .func fd, #[]⟩) := by
    have _kf : (PySem.Challenge.rw_pg0230_02, K0) = (PySem.Challenge.rw_pg0230_02, K0) := by k_fill; rfl
    exact ⟨_, _, _, rfl⟩
  have hf0 : ∀ h' : Heap, (∀ b o, g.get? b = some o → h'.get? b = some o) → h'.get? 56 = some ⟨o, d, .func fd, #[]⟩ := fun h' k => k _ _ (X _ _ hf)
  refine next_call (s := ⟨h, gn, dr, tk, os⟩) (N _ (.head _)).1 (N _ (.tail _ (.head _))).1 (hf0 _ F.keep) rfl hA1 ?_
  refine codeAny_at (A' := lv 11) hA1 hA2 hA3 rfl rfl ?_
  refine read_led w _ _ a ok ln tl ys cs n X TT F N off hys hlen hln ?_
  intro h' tk' n' t' tl' F' N'
  refine ⟨_, _, rfl, (N' _ (.head _)).1, (N' _ (.tail _ (.head _))).1, hf0 _ F'.keep, ?_⟩
  cases cs with
  | nil =>
    rw [if_pos (show PySem.Str.ofString "" = T (List.take 1 []) from empty_T)]
    intro h3 e3 x3
    have kI : Kp [I] h' h3 := fun b o nb e => x3 b o (fun q => nb (q ▸ .head _)) e
    have nm : ∀ p ∈ [(B, methodObj (.ref 56) (.ref a.x))] ++ (a.led w (ln + 0) tl' (ys.drop 1) n' ++ [(a.pb, listOf #[] np)]), p.1 ∈ [B, a.x, a.dx, a.hx, a.hdx, a.fA, a.cc, a.cA, a.D, a.pb] := fun p hp => List.mem_map_of_mem (f := (·.1)) hp
    have N3 := kp_news (wr := [I]) (fun p hp => N' p (.tail _ hp) : News g L h' ([(B, methodObj (.ref 56) (.ref a.x))] ++ (a.led w (ln + 0) tl' (ys.drop 1) n' ++ [(a.pb, listOf #[] np)]))) kI (fun p hp q => hI (List.mem_singleton.mp q ▸ nm p hp))
    have hI3 := (N' _ (.head _)).2
    have F3 := kp_fr F' kI (fun q => hI3.1 (List.mem_singleton.mp q).symm) (fun b hb => by rw [List.mem_singleton.mp hb]; exact hI3.2)
    refine h2 rfl h3 tk' (ys.drop 1) n' tl' F3 (fun p hp => ?_) (strs_drop hys)
    rcases List.mem_cons.mp hp with rfl | hp
    · exact ⟨e3, hI3⟩
    · have := N3 p (by rw [Int.add_zero]; exact hp)
      exact this
  | cons c r =>
    have hne : ¬ PySem.Str.ofString "" = T (List.take 1 (c :: r)) := by
      rw [empty_T]
      exact fun e => nomatch T_inj e
    rw [if_neg hne]
    have hcc : (if (c :: r).head? = some 10 then 1 else 0 : Int) = if c = 10 then 1 else 0 := by
      by_cases hc : c = 10 <;> simp [hc]
    rw [hcc] at N'
    exact h1 c r h' tk' _ n' tl' t' rfl F' N' (strs_drop hys)

end partFi2
theorem off_Gr2 : (1 : Nat) = 1 := by
  w_top off
  first | walk1 | rfl
section partGr2
local macro_rules | `(tactic| walk_at "call ref") => `(tactic| refine stop_at ?_)
noncomputable def wsc (c : Nat) : Bool := c == 10 || c == 9 || c == 13 || c == 32
noncomputable def tkQ : List Nat → List Nat → List Nat × List Nat
  | [], acc => (acc, [])
  | [c], acc => if c = 34 then (acc, []) else if c = 92 then (acc, []) else (acc ++ [c], [])
  | c :: d :: r, acc => if c = 34 then (acc, d :: r) else if c = 92 then tkQ r (acc ++ [d]) else tkQ (d :: r) (acc ++ [c])
noncomputable def tkB : List Nat → List Nat → List Nat × List Nat
  | [], acc => (acc, [])
  | [c], acc => if wsc c then (acc, []) else if c = 92 then (acc, []) else (acc ++ [c], [])
  | c :: d :: r, acc => if wsc c then (acc, d :: r) else if c = 92 then tkB r (acc ++ [d]) else tkB (d :: r) (acc ++ [c])
noncomputable def tkS : List Nat → List Nat × List Nat
  | [] => ([], [])
  | c :: r => if wsc c then tkS r else if c = 34 then tkQ r [] else if c = 92 then tkB (r.drop 1) (r.take 1) else tkB r [c]
theorem tkQ_q (r acc : List Nat) : tkQ (34 :: r) acc = (acc, r) := by cases r <;> simp [tkQ]
theorem tkQ_e (r acc : List Nat) : tkQ (92 :: r) acc = tkQ (r.drop 1) (acc ++ r.take 1) := by cases r <;> simp [tkQ]
theorem tkQ_c {c : Nat} (r acc : List Nat) (h1 : ¬ c = 34) (h2 : ¬ c = 92) : tkQ (c :: r) acc = tkQ r (acc ++ [c]) := by cases r <;> simp [tkQ, h1, h2]
theorem tkB_q {c : Nat} (r acc : List Nat) (h : wsc c = true) : tkB (c :: r) acc = (acc, r) := by cases r <;> simp [tkB, h]
theorem tkB_e (r acc : List Nat) : tkB (92 :: r) acc = tkB (r.drop 1) (acc ++ r.take 1) := by
  have h : wsc 92 = false := by decide
  cases r <;> simp [tkB, h]
theorem tkB_c {c : Nat} (r acc : List Nat) (h1 : wsc c = false) (h2 : ¬ c = 92) : tkB (c :: r) acc = tkB r (acc ++ [c]) := by cases r <;> simp [tkB, h1, h2]
noncomputable def nlc (l : List Nat) : Int := (l.count 10 : Int)
theorem occ_ws (c : Nat) : (Builtin.Str.occurrences (PySem.Str.ofString "\n\t\r ") ⟨#[c]⟩ 0 (PySem.Str.ofString "\n\t\r ").length 1).isEmpty = !wsc c := by
  have h := StrLaws.found_one (PySem.Str.ofString "\n\t\r ") c
  have e : (PySem.Str.ofString "\n\t\r ").cps.toList = [10, 9, 13, 32] := by decide +kernel
  rw [e] at h
  have hw : decide (c ∈ [10, 9, 13, 32]) = wsc c := by
    unfold wsc
    simp only [List.mem_cons, List.not_mem_nil, or_false, Bool.decide_or]
    simp only [Bool.or_assoc]
    rfl
  rw [hw] at h
  rw [← h, Bool.not_not]
theorem iter2_K {prog : Program} {w : World} {A : Around} {E : Value → Shared → Prop} {g h : Heap} {L B : Addr} {m : Str → Option Value} {news : List (Addr × Obj)} {gn : Array GenState} {dr : Drawn} {tk : Nat} {os : OsState} {f x snt : Value} {Q : Value → Shared → Prop}
    (F : Fr g L h m) (N : News g L h news) (hm : (B, methodObj f x) ∈ news)
    (k : ∀ I h', Fr g L h' m → News g L h' ((I, citObj (.ref B) snt (.bool false)) :: news) → (∀ p ∈ news, p.1 < I) → Q (.ref I) ⟨h', gn, dr, tk, os⟩) :
    wpAny (model prog w) A (call (.builtin "iter") [.ref B, snt]) Q E ⟨h, gn, dr, tk, os⟩ :=
  iter2 (s := ⟨h, gn, dr, tk, os⟩) (N _ hm).1 (k _ _ (F.push _) (News.push F N _) fun p hp => Heap.lt_size (N p hp).1)
theorem nlc_b (l : List Nat) : 0 ≤ nlc l ∧ nlc l ≤ l.length := ⟨Int.natCast_nonneg _, by have := List.count_le_length (a := 10) (l := l); unfold nlc; omega⟩
theorem nlc_cons (c : Nat) (l : List Nat) : nlc (c :: l) = nlc l + if c = 10 then 1 else 0 := by
  unfold nlc
  by_cases h : c = 10
  · subst h; simp
  · simp [h]
theorem nlc_drop (l : List Nat) : nlc (l.drop 1) = nlc l - if l.head? = some 10 then 1 else 0 := by
  cases l with
  | nil => simp [nlc]
  | cons c r =>
    have := nlc_cons c r
    by_cases h : c = 10
    · simp [h] at this ⊢; omega
    · simp [h] at this ⊢; omega
noncomputable abbrev GtSb (w : World) (a : LxA) (I B : Addr) (tsn : Tok) (np : Nat) (g : Heap) (L : Addr) (s : Shared) (cs0 : List Nat) (ln0 : Int) (e : Bool) (tok : List Nat) (cs : List Nat) (s' : Shared) (h : Heap) (tk : Nat) (m : Str → Option Value) (ln : Int) (tl tt : Tok) (ys : List Value) (n : Nat) : Prop :=
  s' = { s with heap := h, toks := tk } ∧ Fr g L h (over [((PySem.Str.ofString "self"), .ref a.x), ((PySem.Str.ofString "token"), .str (T tok) tt), ((PySem.Str.ofString "fiter"), .ref I)] m) ∧ News g L h (a.rled w I B (if e then itE else itB B tsn) ln tl ys n np) ∧ StrsAre ys (cs.map sg) ∧ tok.length + cs.length ≤ cs0.length ∧ ln = ln0 + nlc cs0 - nlc cs ∧ nlc cs ≤ nlc cs0
/-- where get_token stands between two signs -/
noncomputable def GtS (w : World) (a : LxA) (I B : Addr) (tsn : Tok) (np : Nat) (g : Heap) (L : Addr) (s : Shared) (cs0 : List Nat) (ln0 : Int) (e : Bool) (tok : List Nat) (cs : List Nat) (s' : Shared) : Prop :=
  ∃ h tk m ln tl tt ys n, GtSb w a I B tsn np g L s cs0 ln0 e tok cs s' h tk m ln tl tt ys n
noncomputable abbrev GJ0 (w : World) (a : LxA) (I B : Addr) (tsn : Tok) (np : Nat) (g : Heap) (L : Addr) (s : Shared) (cs : List Nat) (ln : Int) (k : Nat) (s' : Shared) : Prop :=
  ∃ e tok cs', GtS w a I B tsn np g L s cs ln e tok cs' s' ∧ ((e = false ∧ tok = [] ∧ tkS cs = tkS cs' ∧ k = cs'.length + 2) ∨ (e = true ∧ cs' = [] ∧ tkS cs = (tok, []) ∧ k = 1))
noncomputable abbrev GJ1 (f : List Nat → List Nat → List Nat × List Nat) (r : List Nat) (w : World) (a : LxA) (I B : Addr) (tsn : Tok) (np : Nat) (g : Heap) (L : Addr) (s : Shared) (cs : List Nat) (ln : Int) (k : Nat) (s' : Shared) : Prop :=
  ∃ tok cs', GtS w a I B tsn np g L s cs ln false tok cs' s' ∧ tkS cs = f cs' tok ∧ cs'.length ≤ r.length ∧ k = cs'.length
theorem GtS.intro {w : World} {a : LxA} {I B : Addr} {tsn : Tok} {np : Nat} {g : Heap} {L : Addr} {s : Shared} {cs0 : List Nat} {ln0 : Int} {e : Bool} {tok : List Nat} {cs : List Nat} {h : Heap} {tk : Nat} {m : Str → Option Value} {ln : Int} {tl tt : Tok} {ys : List Value} {n : Nat} {oI : Obj}
    (F : Fr g L h m) (hat : AllAt m [((PySem.Str.ofString "self"), .ref a.x), ((PySem.Str.ofString "token"), .str (T tok) tt), ((PySem.Str.ofString "fiter"), .ref I)]) (N : News g L h (a.rled w I B oI ln tl ys n np)) (ho : oI = if e then itE else itB B tsn) (hys : StrsAre ys (cs.map sg)) (h1 : tok.length + cs.length ≤ cs0.length) (h2 : ln = ln0 + nlc cs0 - nlc cs) (h3 : nlc cs ≤ nlc cs0) :
    GtS w a I B tsn np g L s cs0 ln0 e tok cs { s with heap := h, toks := tk } :=
  ⟨h, tk, m, ln, tl, tt, ys, n, rfl, by rw [over_self hat]; exact F, ho ▸ N, hys, h1, h2, h3⟩
theorem cut2 {M : Model} {A : Around} {s1 s2 : Stmt} {rest : List Stmt} {env : Env} {Q : Flow → Shared → Prop} {E : Value → Shared → Prop} {s : Shared} (Mid : Shared → Prop)
    (h1 : wpAny M A (execs [s1, s2] env) (Next Mid) E s) (h2 : ∀ s', Mid s' → wpAny M A (execs rest env) Q E s') : wpAny M A (execs (s1 :: s2 :: rest) env) Q E s := cutN (body := s1 :: s2 :: rest) 2 Mid h1 h2
theorem ln_next {c : Nat} {r cs : List Nat} {ln ln2 : Int} (h : ln2 = ln + nlc cs - nlc (c :: r)) : ln2 + (if c = 10 then 1 else 0) = ln + nlc cs - nlc r := by
  have := nlc_cons c r
  omega
theorem le_next {c : Nat} {r : List Nat} {x : Int} (h : nlc (c :: r) ≤ x) : nlc r ≤ x := by
  have := nlc_cons c r
  have : (0 : Int) ≤ if c = 10 then 1 else 0 := by split <;> decide
  omega
theorem ln_drop (r cs : List Nat) (ln : Int) : ln + nlc cs - nlc r + (if r.head? = some 10 then 1 else 0) = ln + nlc cs - nlc (r.drop 1) := by
  have := nlc_drop r
  omega
theorem le_drop {r : List Nat} {x : Int} (h : nlc r ≤ x) : nlc (r.drop 1) ≤ x := by
  have := nlc_drop r
  have : (0 : Int) ≤ if r.head? = some 10 then 1 else 0 := by split <;> decide
  omega
theorem ln_b {r cs : List Nat} {ln x : Int} (hx : x = ln + nlc cs - nlc r) (hln : 0 ≤ ln ∧ ln ≤ 500000) (hlen : cs.length ≤ 100000) (h : nlc r ≤ nlc cs) : 0 ≤ x ∧ x ≤ 1000000 := by
  obtain ⟨z1, z2⟩ := nlc_b cs
  obtain ⟨z3, z4⟩ := nlc_b r
  omega
theorem len_b {tok r : List Nat} {n : Nat} (h : tok.length + r.length ≤ n) (hn : n ≤ 100000) : r.length ≤ 100000 := by omega
theorem len_bc {tok r : List Nat} {c n : Nat} (h : tok.length + (c :: r).length ≤ n) (hn : n ≤ 100000) : r.length ≤ 100000 := by rw [List.length_cons] at h; omega
theorem len_snoc {tok r : List Nat} {c n : Nat} (h : tok.length + (c :: r).length ≤ n) : (tok ++ [c]).length + r.length ≤ n := by
  rw [List.length_append, List.length_singleton]
  rw [List.length_cons] at h
  omega
theorem len_drop {tok r : List Nat} {c n : Nat} (h : tok.length + (c :: r).length ≤ n) : (tok ++ r.take 1).length + (r.drop 1).length ≤ n := by
  have : (r.take 1).length + (r.drop 1).length = r.length := by rw [← List.length_append, List.take_append_drop]
  rw [List.length_append]
  rw [List.length_cons] at h
  omega
theorem len_next {tok r : List Nat} {c n : Nat} (h : tok.length + (c :: r).length ≤ n) : tok.length + r.length ≤ n := by rw [List.length_cons] at h; omega
theorem drop_lt (c : Nat) (r : List Nat) : (r.drop 1).length < (c :: r).length := by rw [List.length_drop, List.length_cons]; omega
theorem drop_le {r : List Nat} {n : Nat} (h : r.length ≤ n) : (r.drop 1).length ≤ n := by rw [List.length_drop]; omega
theorem T_one {tok r : List Nat} {c n : Nat} (h : tok.length + (c :: r).length ≤ n) (hn : n ≤ 100000) : (T tok).length + (⟨#[c]⟩ : Str).length ≤ sizeLine := by
  show (T tok).length + (T [c]).length ≤ _
  rw [T_len, T_len, sizeLine_eq, List.length_singleton]
  omega
theorem T_two {tok r : List Nat} {c n : Nat} (h : tok.length + (c :: r).length ≤ n) (hn : n ≤ 100000) : (T tok).length + (T (r.take 1)).length ≤ sizeLine := by
  rw [T_len, T_len, sizeLine_eq, List.length_take]
  omega
local macro_rules | `(tactic| walk_at "execs cons If cons") => `(tactic| ((with_reducible show wpAny _ _ (execs (Stmt.If _ _ _ _ :: Stmt.AugAssign _ _ _ _ :: Stmt.For _ _ _ _ _ :: []) _) _ _ _); refine stop_at ?_))
theorem gettok_read (w : World) (s : Shared) (R : Result → Shared → Prop) (a : LxA) (ok : a.Ok w) (ln : Int) (tl : Tok) (ys : List Value) (cs : List Nat) (n np : Nat)
  (G : Gd (K0 w.params) (hideAll s.heap [a.x, a.dx, a.hx, a.hdx, a.fA, a.cc, a.cA, a.D, a.pb])) (hled : NAll s.heap (a.led w ln tl ys n ++ [(a.pb, listOf #[] np)])) (hys : StrsAre ys (cs.map sg)) (hlen : cs.length ≤ 100000) (hln : 0 ≤ ln ∧ ln ≤ 500000)
  (hret : ∀ (h' : Heap) (tk' n' : Nat) (t' tl' : Tok) (ys' : List Value), Kp [a.dx, a.D] s.heap h' → h'.get? a.dx = some (dictOf (lxEs w a.k0 a.k1 a.k2 a.k3 (ln + nlc cs - nlc (tkS cs).2) tl' (.ref a.hx) a.tw a.pb) 4) → h'.get? a.D = some (listOf ys'.reverse.toArray n') → StrsAre ys' ((tkS cs).2.map sg) →
    R (.ok (.ret (.str (T (tkS cs).1) t'))) { s with heap := h', toks := tk' }) :
  codeAny (model prog w) (lv 13) (.call (.ref 63) ⟨[.ref a.x], []⟩) R s := by
  have _kf : (PySem.Challenge.rw_pg0230_02, K0) = (PySem.Challenge.rw_pg0230_02, K0) := by k_fill; rfl
  refine' enter_plain (K := K0 w.params) (binds := [((PySem.Str.ofString "self"), .ref a.x)]) (rb := [((PySem.Str.ofString "self"), .ref a.x)]) (a.led w ln tl ys n ++ [(a.pb, listOf #[] np)]) G hled.mem ?ho ?hcd ?hroom ?hbind ?hloc ?hrb ?_ ?c1 ?c2 ?c3 ?c4
  (( (case ho => k_is); (case hcd => k_is); (case hroom => k_room); (case hbind => exact BindsTo.of_eq rfl); (case hloc => exact locs rfl); (case hrb => exact rfl); (case c1 => decide); (case c2 => exact rfl); (case c3 => exact rfl); (case c4 => exact rfl); k_whole))
  intro g L h0 pp loose mean mg mb kg F0 N0 X TT l1 l2
  refine Classical.byContradiction fun hZq => ?_
  obtain ⟨ts, n1, fcls, ⟨fd, fdat⟩, cdat, ⟨ccv, ccdat⟩, n2⟩ := id ok
  refine hZq ?_
  clear hZq
  dsimp only [LxA.led, lxEs, hxEs, List.cons_append, List.nil_append] at N0
  k_steps
  rename News _ _ _ _ => N1
  rename Addr => B
  refine iter2_K (by assumption) N1 (.head _) fun I h1 F1 N2 lI => ?_
  k_steps
  ((unfold Stop; (with_reducible refine for_stmt ?_ ?mzhs); (case mzhs => intro _; rfl)))
  k_steps
  rename News _ _ _ _ => N3
  rename Fr _ _ _ _ => F3
  refine iter_call (N3 _ (.head _)).1 ?_
  have hI : I ∉ [B, a.x, a.dx, a.hx, a.hdx, a.fA, a.cc, a.cA, a.D, a.pb] := fun q => by
    refine Classical.byContradiction fun hZq => ?_
    obtain ⟨p, hp, e⟩ := List.mem_map.mp (show I ∈ ((B, methodObj (.ref 56) (.ref a.x)) :: (a.led w ln tl ys n ++ [(a.pb, listOf #[] np)])).map (·.1) from q)
    refine hZq ?_
    clear hZq
    exact absurd (lI p hp) (e ▸ Nat.lt_irrefl _)
  obtain ⟨tsn, N4⟩ : ∃ tsn, News g L _ (a.rled w I B (itB B tsn) ln tl ys n np) := ⟨_, N3⟩
  obtain ⟨tt, F4⟩ : ∃ tt, Fr g L _ (over [((PySem.Str.ofString "self"), .ref a.x), ((PySem.Str.ofString "token"), .str (T []) tt), ((PySem.Str.ofString "fiter"), .ref I)] fun _ => none) := ⟨_, empty_T ▸ F3⟩
  clear F3 N3 lI
  have fin : ∀ (tok cs' : List Nat) (h : Heap) (tk : Nat) (m : Str → Option Value) (oI : Obj) (ln' : Int) (tl' t' : Tok) (ys' : List Value) (n' : Nat), tkS cs = (tok, cs') → Fr g L h m → News g L h (a.rled w I B oI ln' tl' ys' n' np) → ln' = ln + nlc cs - nlc cs' → StrsAre ys' (cs'.map sg) →
      R (.ok (.ret (.str (T tok) t'))) { s with heap := h, toks := tk } := by
    intro tok cs' h tk m oI ln' tl' t' ys' n' e F N hl hy
    rw [e] at hret
    dsimp only at hret
    have hk : ∀ p ∈ a.led w ln tl ys n ++ [(a.pb, listOf #[] np)], p.1 ∈ [a.dx, a.D] ∨ p ∈ a.rled w I B oI ln' tl' ys' n' np := fun p hp => by
      rcases List.mem_append.mp hp with hp | hp
      · rcases led_six hp with rfl | rfl | h6
        · exact .inl (.head _)
        · exact .inl (.tail _ (.head _))
        · exact .inr (List.mem_append.mpr (.inr (List.mem_append.mpr (.inl (six_led _ _ _ _ h6)))))
      · exact .inr (List.mem_append.mpr (.inr (List.mem_append.mpr (.inr hp))))
    refine hret h tk n' t' tl' ys' (kp_part kg F N fun b hb => ?_) ?_ ?_ hy
    · refine Classical.byContradiction fun hZq => ?_
      obtain ⟨p, hp, rfl⟩ := List.mem_map.mp hb
      refine hZq ?_
      clear hZq
      rcases hk p hp with e1 | e1
      · exact .inl e1
      · exact .inr ⟨p.2, hled.mem p hp, e1⟩
    · rw [← hl]; exact (N _ (.tail _ (.tail _ (.tail _ (.head _))))).1
    · exact (N _ (.tail _ (.tail _ (.tail _ (.tail _ (.tail _ (.tail _ (.tail _ (.tail _ (.tail _ (.head _))))))))))).1
  refine for_J (GJ0 w a I B tsn np g L s cs ln) _ ⟨false, [], cs, GtS.intro F4 (by (first | focus ((repeat (first | exact True.intro | (refine AllAt.keep _ rfl ?_ ?_; (focus decide +kernel)) | (refine AllAt.skip _ rfl ?_ ?_; (focus decide +kernel)))); done) | ((repeat (refine And.intro ?_ ?_; (focus (first | walk_at "m_look" | rfl)))); exact True.intro))) N4 rfl hys (Nat.le_of_eq (Nat.zero_add _)) (Int.add_sub_cancel _ _).symm (Int.le_refl _), .inl ⟨rfl, rfl, rfl, rfl⟩⟩ ?_
  clear N4 F4
  rintro k s1 hPz1
  refine Classical.byContradiction fun hZq => ?_
  obtain ⟨e, tok, cs1, ⟨h1, tk1, m1, ln1, tl1, tt1, ys1, n1', rfl, F5, N5, hys1, hl1, hln1, hnl1⟩, hc⟩ := hPz1
  refine hZq ?_
  clear hZq
  rcases hc with ⟨rfl, rfl, hc1, rfl⟩ | ⟨rfl, rfl, hc1, rfl⟩
  rotate_left
  · refine next_ended (N5 _ (.head _)).1 rfl fun h6 k6 => ?_
    have F6 := F5.keeps k6
    have N6 := N5.grown k6
    k_steps
    exact fin tok [] _ _ _ _ _ _ _ _ _ hc1 F6 N6 hln1 hys1
  · refine fiter_next w a ok ln1 tl1 ys1 cs1 n1' np X TT rfl (by (exact Nat.le_of_ble_eq_true rfl)) (by (exact Nat.le_of_ble_eq_true rfl)) F5 N5 hys1 (len_b hl1 hlen) (ln_b hln1 hln hlen hnl1) hI ?_ ?_
    rotate_left
    · intro e6 h6 tk6 ys6 n6 tl6 F6 N6 hys6
      subst e6
      k_steps
      exact fin [] [] _ _ _ _ _ _ _ _ _ hc1 F6 N6 hln1 hys6
    · intro c r h6 tk6 ys6 n6 tl6 t6 e6 F6 N6 hys6
      subst e6
      rw [ln_next hln1] at N6
      replace hnl1 := le_next hnl1
      clear N5 F5 hln1
      have hocc := occ_ws c
      by_cases hw : wsc c = true
      · have e7 : tkS (c :: r) = tkS r := by rw [tkS, if_pos hw]
        rw [hw] at hocc
        k_steps
        all_goals first | exact absurd (hocc.symm.trans (by assumption)) (by decide) | skip
        exact ⟨r.length + 2, Nat.lt_succ_self _, false, [], r, GtS.intro (by assumption) (by (first | focus ((repeat (first | exact True.intro | (refine AllAt.keep _ rfl ?_ ?_; (focus decide +kernel)) | (refine AllAt.skip _ rfl ?_ ?_; (focus decide +kernel)))); done) | ((repeat (refine And.intro ?_ ?_; (focus (first | walk_at "m_look" | rfl)))); exact True.intro))) (by assumption) rfl hys6 (len_next hl1) rfl hnl1, .inl ⟨rfl, rfl, hc1.trans e7, rfl⟩⟩
      · have hw' : wsc c = false := by simpa using hw
        rw [hw'] at hocc
        by_cases hq : c = 34
        · subst hq
          have e7 : tkS (34 :: r) = tkQ r [] := by rw [tkS, if_neg hw, if_pos rfl]
          k_steps
          all_goals first | exact absurd (hocc.symm.trans (by assumption)) (by decide) | skip
          ((unfold Stop; (with_reducible refine for_stmt ?_ ?mzhs); (case mzhs => intro _; rfl)))
          k_steps
          rename Fr _ _ _ _ => F7
          rename News _ _ _ _ => N7
          refine iter_call (N7 _ (.head _)).1 ?_
          refine for_J (GJ1 tkQ r w a I B tsn np g L s cs ln) _ ⟨[], r, GtS.intro F7 (by (first | focus ((repeat (first | exact True.intro | (refine AllAt.keep _ rfl ?_ ?_; (focus decide +kernel)) | (refine AllAt.skip _ rfl ?_ ?_; (focus decide +kernel)))); done) | ((repeat (refine And.intro ?_ ?_; (focus (first | walk_at "m_look" | rfl)))); exact True.intro))) N7 rfl hys6 (len_next hl1) rfl hnl1, hc1.trans e7, Nat.le_refl _, rfl⟩ ?_
          clear N7 F7
          rintro k s1 hPz1
          refine Classical.byContradiction fun hZq => ?_
          obtain ⟨tok, cs2, ⟨h2, tk2, m2, ln2, tl2, tt2, ys2, n2', rfl, F8, N8, hys2, hl2, hln2, hnl2⟩, hc2, hl3, rfl⟩ := hPz1
          refine hZq ?_
          clear hZq
          refine fiter_next w a ok ln2 tl2 ys2 cs2 n2' np X TT rfl (by (exact Nat.le_of_ble_eq_true rfl)) (by (exact Nat.le_of_ble_eq_true rfl)) F8 N8 hys2 (len_b hl2 hlen) (ln_b hln2 hln hlen hnl2) hI ?_ ?_
          rotate_left
          · intro e9 h9 tk9 ys9 n9 tl9 F9 N9 hys9
            subst e9
            clear N8 F8
            k_steps
            exact ⟨1, Nat.le_add_left 2 _, true, tok, [], GtS.intro F9 (by (first | focus ((repeat (first | exact True.intro | (refine AllAt.keep _ rfl ?_ ?_; (focus decide +kernel)) | (refine AllAt.skip _ rfl ?_ ?_; (focus decide +kernel)))); done) | ((repeat (refine And.intro ?_ ?_; (focus (first | walk_at "m_look" | rfl)))); exact True.intro))) N9 rfl hys9 hl2 hln2 hnl2, .inr ⟨rfl, rfl, hc2, rfl⟩⟩
          · intro c2 r2 h9 tk9 ys9 n9 tl9 t9 e9 F9 N9 hys9
            subst e9
            rw [ln_next hln2] at N9
            replace hnl2 := le_next hnl2
            replace hl3 := Nat.le_of_succ_le hl3
            clear N8 F8 hln2
            by_cases hq2 : c2 = 34
            · subst hq2
              have e8 : tkS cs = (tok, r2) := hc2.trans (tkQ_q r2 tok)
              k_steps
              exact fin tok r2 _ _ _ _ _ _ _ _ _ e8 (by assumption) (by assumption) rfl hys9
            by_cases he2 : c2 = 92
            · subst he2
              have e8 : tkS cs = tkQ (r2.drop 1) (tok ++ r2.take 1) := hc2.trans (tkQ_e r2 tok)
              k_steps
              unfold Stop
              refine wpAny_call ?_
              refine' codeAny_at (A' := lv 11) ?a1 ?a2 ?a3 ?a4 ?a5 ?_
              (case a1 => exact rfl); (case a2 => (exact Nat.le_of_ble_eq_true rfl)); (case a3 => (exact Nat.le_of_ble_eq_true rfl)); (case a4 => exact rfl); (case a5 => exact rfl)
              rename News _ _ _ _ => N7
              rename Fr _ _ _ _ => F7
              refine read_led w _ _ a ok _ _ _ r2 _ X TT F7 N7 (rled_off ok N7 rfl) hys9 (len_bc hl2 hlen) (ln_b rfl hln hlen hnl2) ?_
              intro h8 tk8 n8 t8 tl8 F8 N8
              rw [ln_drop] at N8
              have hg1 : T tok ++ T (r2.take 1) = T (tok ++ r2.take 1) := T_append tok (r2.take 1)
              have hg2 := T_two hl2 hlen
              clear N7 F7
              k_steps
              rename Fr _ _ _ _ => FB
              rename News _ _ _ _ => NB
              rw [hg1] at FB
              exact ⟨(r2.drop 1).length, drop_lt _ _, tok ++ r2.take 1, r2.drop 1, GtS.intro FB (by (first | focus ((repeat (first | exact True.intro | (refine AllAt.keep _ rfl ?_ ?_; (focus decide +kernel)) | (refine AllAt.skip _ rfl ?_ ?_; (focus decide +kernel)))); done) | ((repeat (refine And.intro ?_ ?_; (focus (first | walk_at "m_look" | rfl)))); exact True.intro))) NB rfl (strs_drop hys9) (len_drop hl2) rfl (le_drop hnl2), e8, drop_le hl3, rfl⟩
            · have q1 := sign_ne hq2 (s := PySem.Str.ofString "\"") (by decide +kernel)
              have e8 : tkS cs = tkQ r2 (tok ++ [c2]) := hc2.trans (tkQ_c r2 tok hq2 he2)
              have q2 := sign_ne he2 (s := PySem.Str.ofString "\\") (by decide +kernel)
              have hg1 : T tok ++ (⟨#[c2]⟩ : Str) = T (tok ++ [c2]) := T_append tok [c2]
              have hg2 := T_one hl2 hlen
              k_steps
              all_goals first | exact absurd (q1.symm.trans (by assumption)) (by decide) | skip
              all_goals first | exact absurd (q2.symm.trans (by assumption)) (by decide) | skip
              rename Fr _ _ _ _ => FB
              rename News _ _ _ _ => NB
              rw [hg1] at FB
              exact ⟨r2.length, Nat.lt_succ_self _, tok ++ [c2], r2, GtS.intro FB (by (first | focus ((repeat (first | exact True.intro | (refine AllAt.keep _ rfl ?_ ?_; (focus decide +kernel)) | (refine AllAt.skip _ rfl ?_ ?_; (focus decide +kernel)))); done) | ((repeat (refine And.intro ?_ ?_; (focus (first | walk_at "m_look" | rfl)))); exact True.intro))) NB rfl hys9 (len_snoc hl2) rfl hnl2, e8, hl3, rfl⟩
        · have q1 := sign_ne hq (s := PySem.Str.ofString "\"") (by decide +kernel)
          k_steps
          all_goals first | exact absurd (hocc.symm.trans (by assumption)) (by decide) | exact absurd (q1.symm.trans (by assumption)) (by decide) | skip
          unfold Stop
          rename News _ _ _ _ => N6
          rename Fr _ _ _ _ => F6
          refine cut2 (fun s' => ∃ tok0 r0, GtS w a I B tsn np g L s cs ln false tok0 r0 s' ∧ tkS cs = tkB r0 tok0 ∧ r0.length ≤ r.length) ?_ ?_
          · by_cases he : c = 92
            · subst he
              have e7 : tkS (92 :: r) = tkB (r.drop 1) (r.take 1) := by rw [tkS, if_neg hw, if_neg (by decide), if_pos rfl]
              k_steps
              unfold Stop
              refine wpAny_call ?_
              refine' codeAny_at (A' := lv 11) ?a1 ?a2 ?a3 ?a4 ?a5 ?_
              (case a1 => exact rfl); (case a2 => (exact Nat.le_of_ble_eq_true rfl)); (case a3 => (exact Nat.le_of_ble_eq_true rfl)); (case a4 => exact rfl); (case a5 => exact rfl)
              rename News _ _ _ _ => N7
              rename Fr _ _ _ _ => F7
              refine read_led w _ _ a ok _ _ _ r _ X TT F7 N7 (rled_off ok N7 rfl) hys6 (len_bc hl1 hlen) (ln_b rfl hln hlen hnl1) ?_
              intro h8 tk8 n8 t8 tl8 F8 N8
              rw [ln_drop] at N8
              have hg1 : T [] ++ T (r.take 1) = T ([] ++ r.take 1) := T_append [] (r.take 1)
              have hg2 := T_two hl1 hlen
              clear N7 F7
              k_steps
              rename Fr _ _ _ _ => FB
              rename News _ _ _ _ => NB
              rw [hg1] at FB
              exact ⟨rfl, [] ++ r.take 1, r.drop 1, GtS.intro FB (by (first | focus ((repeat (first | exact True.intro | (refine AllAt.keep _ rfl ?_ ?_; (focus decide +kernel)) | (refine AllAt.skip _ rfl ?_ ?_; (focus decide +kernel)))); done) | ((repeat (refine And.intro ?_ ?_; (focus (first | walk_at "m_look" | rfl)))); exact True.intro))) NB rfl (strs_drop hys6) (len_drop hl1) rfl (le_drop hnl1), hc1.trans e7, drop_le (Nat.le_refl _)⟩
            · have e7 : tkS (c :: r) = tkB r [c] := by rw [tkS, if_neg hw, if_neg hq, if_neg he]
              have q2 := sign_ne he (s := PySem.Str.ofString "\\") (by decide +kernel)
              have hg1 : T [] ++ (⟨#[c]⟩ : Str) = T ([] ++ [c]) := T_append [] [c]
              have hg2 := T_one hl1 hlen
              k_steps
              all_goals first | exact absurd (q2.symm.trans (by assumption)) (by decide) | skip
              rename Fr _ _ _ _ => FB
              rename News _ _ _ _ => NB
              rw [hg1] at FB
              exact ⟨rfl, [] ++ [c], r, GtS.intro FB (by (first | focus ((repeat (first | exact True.intro | (refine AllAt.keep _ rfl ?_ ?_; (focus decide +kernel)) | (refine AllAt.skip _ rfl ?_ ?_; (focus decide +kernel)))); done) | ((repeat (refine And.intro ?_ ?_; (focus (first | walk_at "m_look" | rfl)))); exact True.intro))) NB rfl hys6 (len_snoc hl1) rfl hnl1, hc1.trans e7, Nat.le_refl _⟩
          · clear N6 F6 hys6
            rintro s6 hPz1
            refine Classical.byContradiction fun hZq => ?_
            obtain ⟨tok0, r0, ⟨h7, tk7, m7, ln7, tl7, tt7, ys7, n7, rfl, F6, N6, hys6, hl6, hln6, hnl6⟩, hc6, hl0⟩ := hPz1
            refine hZq ?_
            clear hZq
            k_steps
            ((unfold Stop; (with_reducible refine for_stmt ?_ ?mzhs); (case mzhs => intro _; rfl)))
            k_steps
            rename Fr _ _ _ _ => F7
            rename News _ _ _ _ => N7
            refine iter_call (N7 _ (.head _)).1 ?_
            refine for_J (GJ1 tkB r w a I B tsn np g L s cs ln) _ ⟨tok0, r0, GtS.intro F7 (by (first | focus ((repeat (first | exact True.intro | (refine AllAt.keep _ rfl ?_ ?_; (focus decide +kernel)) | (refine AllAt.skip _ rfl ?_ ?_; (focus decide +kernel)))); done) | ((repeat (refine And.intro ?_ ?_; (focus (first | walk_at "m_look" | rfl)))); exact True.intro))) N7 rfl hys6 hl6 hln6 hnl6, hc6, hl0, rfl⟩ ?_
            clear N7 F7
            rintro k s1 hPz1
            refine Classical.byContradiction fun hZq => ?_
            obtain ⟨tok, cs2, ⟨h2, tk2, m2, ln2, tl2, tt2, ys2, n2', rfl, F8, N8, hys2, hl2, hln2, hnl2⟩, hc2, hl3, rfl⟩ := hPz1
            refine hZq ?_
            clear hZq
            refine fiter_next w a ok ln2 tl2 ys2 cs2 n2' np X TT rfl (by (exact Nat.le_of_ble_eq_true rfl)) (by (exact Nat.le_of_ble_eq_true rfl)) F8 N8 hys2 (len_b hl2 hlen) (ln_b hln2 hln hlen hnl2) hI ?_ ?_
            rotate_left
            · intro e9 h9 tk9 ys9 n9 tl9 F9 N9 hys9
              subst e9
              clear N8 F8
              k_steps
              exact ⟨1, Nat.le_add_left 2 _, true, tok, [], GtS.intro F9 (by (first | focus ((repeat (first | exact True.intro | (refine AllAt.keep _ rfl ?_ ?_; (focus decide +kernel)) | (refine AllAt.skip _ rfl ?_ ?_; (focus decide +kernel)))); done) | ((repeat (refine And.intro ?_ ?_; (focus (first | walk_at "m_look" | rfl)))); exact True.intro))) N9 rfl hys9 hl2 hln2 hnl2, .inr ⟨rfl, rfl, hc2, rfl⟩⟩
            · intro c2 r2 h9 tk9 ys9 n9 tl9 t9 e9 F9 N9 hys9
              subst e9
              rw [ln_next hln2] at N9
              replace hnl2 := le_next hnl2
              replace hl3 := Nat.le_of_succ_le hl3
              clear N8 F8 hln2
              have hocc2 := occ_ws c2
              by_cases hw2 : wsc c2 = true
              · have e8 : tkS cs = (tok, r2) := hc2.trans (tkB_q r2 tok hw2)
                rw [hw2] at hocc2
                k_steps
                all_goals first | exact absurd (hocc2.symm.trans (by assumption)) (by decide) | skip
                exact fin tok r2 _ _ _ _ _ _ _ _ _ e8 (by assumption) (by assumption) rfl hys9
              have hw3 : wsc c2 = false := by simpa using hw2
              rw [hw3] at hocc2
              by_cases he2 : c2 = 92
              · subst he2
                have e8 : tkS cs = tkB (r2.drop 1) (tok ++ r2.take 1) := hc2.trans (tkB_e r2 tok)
                k_steps
                all_goals first | exact absurd (hocc2.symm.trans (by assumption)) (by decide) | skip
                unfold Stop
                refine wpAny_call ?_
                refine' codeAny_at (A' := lv 11) ?a1 ?a2 ?a3 ?a4 ?a5 ?_
                (case a1 => exact rfl); (case a2 => (exact Nat.le_of_ble_eq_true rfl)); (case a3 => (exact Nat.le_of_ble_eq_true rfl)); (case a4 => exact rfl); (case a5 => exact rfl)
                rename News _ _ _ _ => N7
                rename Fr _ _ _ _ => F7
                refine read_led w _ _ a ok _ _ _ r2 _ X TT F7 N7 (rled_off ok N7 rfl) hys9 (len_bc hl2 hlen) (ln_b rfl hln hlen hnl2) ?_
                intro h8 tk8 n8 t8 tl8 F8 N8
                rw [ln_drop] at N8
                have hg1 : T tok ++ T (r2.take 1) = T (tok ++ r2.take 1) := T_append tok (r2.take 1)
                have hg2 := T_two hl2 hlen
                clear N7 F7
                k_steps
                rename Fr _ _ _ _ => FB
                rename News _ _ _ _ => NB
                rw [hg1] at FB
                exact ⟨(r2.drop 1).length, drop_lt _ _, tok ++ r2.take 1, r2.drop 1, GtS.intro FB (by (first | focus ((repeat (first | exact True.intro | (refine AllAt.keep _ rfl ?_ ?_; (focus decide +kernel)) | (refine AllAt.skip _ rfl ?_ ?_; (focus decide +kernel)))); done) | ((repeat (refine And.intro ?_ ?_; (focus (first | walk_at "m_look" | rfl)))); exact True.intro))) NB rfl (strs_drop hys9) (len_drop hl2) rfl (le_drop hnl2), e8, drop_le hl3, rfl⟩
              · have e8 : tkS cs = tkB r2 (tok ++ [c2]) := hc2.trans (tkB_c r2 tok hw3 he2)
                have q2 := sign_ne he2 (s := PySem.Str.ofString "\\") (by decide +kernel)
                have hg1 : T tok ++ (⟨#[c2]⟩ : Str) = T (tok ++ [c2]) := T_append tok [c2]
                have hg2 := T_one hl2 hlen
                k_steps
                all_goals first | exact absurd (hocc2.symm.trans (by assumption)) (by decide) | skip
                all_goals first | exact absurd (q2.symm.trans (by assumption)) (by decide) | skip
                rename Fr _ _ _ _ => FB
                rename News _ _ _ _ => NB
                rw [hg1] at FB
                exact ⟨r2.length, Nat.lt_succ_self _, tok ++ [c2], r2, GtS.intro FB (by (first | focus ((repeat (first | exact True.intro | (refine AllAt.keep _ rfl ?_ ?_; (focus decide +kernel)) | (refine AllAt.skip _ rfl ?_ ?_; (focus decide +kernel)))); done) | ((repeat (refine And.intro ?_ ?_; (focus (first | walk_at "m_look" | rfl)))); exact True.intro))) NB rfl hys9 (len_snoc hl2) rfl hnl2, e8, hl3, rfl⟩

end partGr2
theorem off_Walk2 : (1 : Nat) = 1 := by
  w_top off
  first | walk1 | rfl
section partWalk2
local macro_rules | `(tactic| walk_at "call ref") => `(tactic| refine stop_at ?_)
noncomputable def stepP (ns : List Int) (tr kind place : Int) : Int := Int.fmod (place + (depthP (1 + chanP place kind 0) 0 ns + tr)) 16
noncomputable def walkP (ns : List Int) (tr kind : Int) : Nat → Int → List (List Nat) → List (List Nat)
  | 0, _, met => met
  | k + 1, place, met => if lettersP (chansP place kind) ∈ met then met ++ [lettersP (chansP place kind)] else walkP ns tr kind k (stepP ns tr kind place) (met ++ [lettersP (chansP place kind)])
theorem near_b (place k : Int) : 0 ≤ nearP place k ∧ nearP place k ≤ 8 := by
  unfold nearP
  dsimp only
  repeat' split
  all_goals omega
theorem chan_b (place kind k : Int) (h1 : 0 ≤ kind) (h2 : kind < 4) : 0 ≤ chanP place kind k ∧ chanP place kind k ≤ 16 := by
  obtain ⟨n1, n2⟩ := near_b place k
  unfold chanP
  generalize nearP place k = n at *
  have hk : kind = 0 ∨ kind = 1 ∨ kind = 2 ∨ kind = 3 := by omega
  rcases hk with rfl | rfl | rfl | rfl
  all_goals simp only [valueP, halvesP, Int.reduceEq, if_true, if_false, reduceIte]
  all_goals rw [Int.fdiv_eq_ediv_of_nonneg _ (by decide)]
  all_goals omega
theorem chans_b (place kind : Int) (h1 : 0 ≤ kind) (h2 : kind < 4) : ∀ n ∈ chansP place kind, 0 ≤ n ∧ n ≤ 16 := by
  intro n hn
  simp only [chansP, List.mem_cons, List.not_mem_nil, or_false] at hn
  rcases hn with rfl | rfl | rfl <;> exact chan_b _ _ _ h1 h2
theorem strsAre_snoc {x : Str} {t : Tok} : ∀ {vs : List Value} {ns : List Str}, StrsAre vs ns → StrsAre (vs ++ [.str x t]) (ns ++ [x])
  | _, _, .nil => .cons _ _ .nil
  | _, _, .cons _ _ h => .cons _ _ (strsAre_snoc h)
theorem last_get (ys : List Value) (y : Value) : (ys ++ [y])[(-1 + ((ys ++ [y]).length : Int)).toNat]? = some y := by
  have : (-1 + ((ys ++ [y]).length : Int)).toNat = ys.length := by simp; omega
  rw [this]; simp
noncomputable def isStr (x : Str) : Value → Bool
  | .str a _ => a == x
  | _ => false
theorem any_isStr {ys : List Value} {met : List (List Nat)} (h : StrsAre ys (met.map T)) (l : List Nat) : ys.toArray.any (isStr (T l)) = decide (l ∈ met) := by
  rw [List.any_toArray]
  induction met generalizing ys with
  | nil => cases h; rfl
  | cons m r ih =>
    rw [List.map_cons] at h
    cases h with
    | cons _ t h =>
      rw [List.any_cons, ih h]
      unfold isStr
      by_cases e : m = l
      · subst e; simp
      · have : T m ≠ T l := fun q => e (T_inj q)
        have e2 : ¬ l = m := fun q => e q.symm
        simp [this, e2]
theorem walk_spec (w : World) (s : Shared) (R : Result → Shared → Prop) (G : Gd (K0 w.params) s.heap) (ax : Addr) (its : List Value) (ns : List Int) (tr : Int) (place kind : Int) (tp tk : Tok) (hl : s.heap.IsList ax its.toArray) (hi : IntsAre its (ns ++ [tr])) (hb : ∀ n ∈ ns, 0 ≤ n ∧ n ≤ 9) (hsz : ns.length ≤ 3)
  (htr : 0 ≤ tr ∧ tr ≤ 9) (hk1 : 0 ≤ kind) (hk2 : kind < 4) (hp1 : 0 ≤ place) (hp2 : place < 16)
  (hret : ∀ (l : Addr) (h' : Heap) (tk' n : Nat) (ys : List Value), Kp [] s.heap h' → s.heap.get? l = none → h'.get? l = some (listOf ys.toArray n) → StrsAre ys ((walkP ns tr kind 17 place []).map T) → R (.ok (.ret (.ref l))) { s with heap := h', toks := tk' }) :
  codeAny (model prog w) (lv 12) (.call (.ref 176) ⟨[.ref ax, .int place tp, .int kind tk], []⟩) R s := by
  have _kf : (PySem.Challenge.rw_pg0230_02, K0) = (PySem.Challenge.rw_pg0230_02, K0) := by k_fill; rfl
  refine' enter_plain (K := K0 w.params) (binds := [((PySem.Str.ofString "runs"), .ref ax), ((PySem.Str.ofString "place"), .int place tp), ((PySem.Str.ofString "kind"), .int kind tk)]) (rb := [((PySem.Str.ofString "kind"), .int kind tk), ((PySem.Str.ofString "place"), .int place tp), ((PySem.Str.ofString "runs"), .ref ax)]) [] G (fun _ h => nomatch h) ?ho ?hcd ?hroom ?hbind ?hloc ?hrb ?_ ?c1 ?c2 ?c3 ?c4
  (( (case ho => k_is); (case hcd => k_is); (case hroom => k_room); (case hbind => exact BindsTo.of_eq rfl); (case hloc => exact locs rfl); (case hrb => exact rfl); (case c1 => decide); (case c2 => exact rfl); (case c3 => exact rfl); (case c4 => exact rfl); k_whole))
  intro g L h0 pp loose mean mg mb kg F0 N0 X TT l1 l2
  have hlg : g.IsList ax its.toArray := hl.at fun o e => kg _ o (fun h => nomatch h) e
  k_steps
  ((unfold Stop; (with_reducible refine for_stmt ?_ ?mzhs); (case mzhs => intro _; rfl)))
  k_steps
  rename IsRange _ _ _ _ _ _ _ _ => hr
  rename News _ _ _ _ => N1
  refine it_range (L := L) (n := 17) (fun i lo nw => ∃ (l : Addr) (ys : List Value) (n : Nat) (met : List (List Nat)) (pl : Int) (tpl : Tok), lo = [((PySem.Str.ofString "kind"), .int kind tk), ((PySem.Str.ofString "place"), .int pl tpl), ((PySem.Str.ofString "runs"), .ref ax), ((PySem.Str.ofString "met"), .ref l)] ∧ nw = [(l, listOf ys.toArray n)] ∧ StrsAre ys (met.map T) ∧
    walkP ns tr kind 17 place [] = walkP ns tr kind (17 - i) pl met ∧ met.length = i ∧ 0 ≤ pl ∧ pl < 16)
    rfl rfl hr (by decide) rfl [((PySem.Str.ofString "kind"), .int kind tk), ((PySem.Str.ofString "place"), .int place tp), ((PySem.Str.ofString "runs"), .ref ax), ((PySem.Str.ofString "met"), .ref _)] [(_, listOf #[] 0)] (by assumption) (by assumption) (by (first | focus ((repeat (first | exact True.intro | (refine AllAt.keep _ rfl ?_ ?_; (focus decide +kernel)) | (refine AllAt.skip _ rfl ?_ ?_; (focus decide +kernel)))); done) | ((repeat (refine And.intro ?_ ?_; (focus (first | walk_at "m_look" | rfl)))); exact True.intro))) (by (first | focus ((repeat (first | exact True.intro | with_reducible exact InAll.self | with_reducible refine InAll.keep ?_ | with_reducible refine InAll.skip ?_)); done) | ((repeat (refine And.intro (by k_mem) ?_)); exact True.intro))) ⟨_, [], 0, [], place, tp, rfl, rfl, .nil, rfl, rfl, hp1, hp2⟩ ?_ ?_
  · rintro i ti I h3 tk3 m3 lo nw oI hi2 hPz1 F3 N3 hne hcl
    refine Classical.byContradiction fun hZq => ?_
    obtain ⟨l, ys, n, met, pl, tpl, rfl, rfl, hys, hwk, hlen, b1, b2⟩ := hPz1
    refine hZq ?_
    clear hZq
    simp only [AllNe, and_true] at hne
    k_steps
    unfold Stop
    refine wpAny_call ?_
    refine' codeAny_at (A' := lv 9) ?a1 ?a2 ?a3 ?a4 ?a5 ?_
    (case a1 => exact rfl); (case a2 => (exact Nat.le_of_ble_eq_true rfl)); (case a3 => (exact Nat.le_of_ble_eq_true rfl)); (case a4 => exact rfl); (case a5 => exact rfl)
    rename News _ _ _ _ => N4
    rename Fr _ _ _ _ => F4
    with_reducible refine' channels_spec w _ _ (gd_of0 X TT F4) pl kind _ _ hk1 hk2 ?_
    intro lc h5 tk5 nc vs K5 e1 e2 e3
    have nl1 := neN (new_ne N4 e1 (.head _))
    have nl2 := neN (new_ne N4 e1 (.tail _ (.head _)))
    obtain ⟨F5, N5⟩ := after_one F4 N4 K5 e2 e1
    k_steps
    unfold Stop
    refine wpAny_call ?_
    refine' codeAny_at (A' := lv 9) ?a1 ?a2 ?a3 ?a4 ?a5 ?_
    (case a1 => exact rfl); (case a2 => (exact Nat.le_of_ble_eq_true rfl)); (case a3 => (exact Nat.le_of_ble_eq_true rfl)); (case a4 => exact rfl); (case a5 => exact rfl)
    rename News _ _ _ _ => N6
    rename Fr _ _ _ _ => F6
    with_reducible refine' letters_spec w _ _ (gd_of0 X TT F6) lc vs (chansP pl kind) ?e0 e3 ?e1 ?e2 ?_
    (case e0 => exact ⟨_, (N6 _ (.head _)).1, rfl, _, rfl⟩)
    (case e1 => exact chans_b _ _ hk1 hk2)
    (case e2 => exact Nat.le_of_ble_eq_true rfl)
    intro t7 h7 tk7 K7
    obtain ⟨F7, N7⟩ := after_none F6 N6 K7
    have hyl := hys.length
    rw [List.length_map] at hyl
    k_steps
    rename News _ _ _ _ => N8
    refine kim_back (l := ys ++ [Value.str (T (lettersP (chansP pl kind))) t7]) N8 (.tail _ (.tail _ (.head _))) rfl rfl (by decide) (by simp; omega) (by decide) (x := Value.str (T (lettersP (chansP pl kind))) t7) (last_get _ _) ?_
    k_steps
    rename News _ _ _ _ => N9
    dsimp only at N9
    have hsl : slicePick (ys ++ [Value.str (T (lettersP (chansP pl kind))) t7]).toArray none (some (-1)) none = ys.toArray := by
      have := slicePick_butLast (ys ++ [Value.str (T (lettersP (chansP pl kind))) t7]).toArray 1 (Nat.le_refl _)
      simpa using this
    rw [hsl] at N9
    refine SeqAt.in_listAt (isStr (T (lettersP (chansP pl kind)))) (items := ys.toArray) ⟨_, (N9 _ (.head _)).1, rfl, _, rfl⟩ ?_ ?_
    · intro y hy
      obtain ⟨j, hj⟩ := List.getElem?_of_mem (List.mem_toArray.mp hy)
      refine Classical.byContradiction fun hZq => ?_
      obtain ⟨x, tx, _, rfl, _⟩ := item_str hys hj
      refine hZq ?_
      clear hZq
      exact SeqAt.EqAt.str_str _ _ _ _
    rw [any_isStr hys]
    by_cases hm : lettersP (chansP pl kind) ∈ met
    · rw [decide_eq_true hm]
      k_steps
      rename News _ _ _ _ => NA
      rename Fr _ _ _ _ => FA
      have e17 : 17 - i = (17 - (i + 1)) + 1 := by omega
      have hw2 : walkP ns tr kind (17 - i) pl met = met ++ [lettersP (chansP pl kind)] := by rw [e17]; exact if_pos hm
      rw [hw2] at hwk
      refine hret l _ _ _ _ (kg.fr FA) (fresh_of kg NA (.tail _ (.tail _ (.tail _ (.head _)))) (fun h => nomatch h)) (NA.get (.tail _ (.tail _ (.tail _ (.head _))))) ?_
      rw [hwk, List.map_append]
      exact strsAre_snoc hys
    rw [decide_eq_false hm]
    obtain ⟨t0, ht0⟩ := e3.get 0 (chanP pl kind 0) rfl
    obtain ⟨c1, c2⟩ := chan_b pl kind 0 hk1 hk2
    k_steps
    rename News _ _ _ _ => NA
    refine kim_list (l := vs) NA (.tail _ (.head _)) rfl rfl (by decide) (by decide) ht0 ?_
    have e17 : 17 - i = (17 - (i + 1)) + 1 := by omega
    have hw2 : walkP ns tr kind (17 - i) pl met = walkP ns tr kind (17 - (i + 1)) (Int.fmod (pl + (depthP (1 + chanP pl kind 0) 0 ns + tr)) 16) (met ++ [lettersP (chansP pl kind)]) := by rw [e17]; exact if_neg hm
    rw [hw2] at hwk
    generalize hch : chanP pl kind 0 = ch at *
    k_steps
    unfold Stop
    refine wpAny_call ?_
    refine' codeAny_at (A' := lv 9) ?a1 ?a2 ?a3 ?a4 ?a5 ?_
    (case a1 => exact rfl); (case a2 => (exact Nat.le_of_ble_eq_true rfl)); (case a3 => (exact Nat.le_of_ble_eq_true rfl)); (case a4 => exact rfl); (case a5 => exact rfl)
    rename News _ _ _ _ => NB
    rename Fr _ _ _ _ => FB
    with_reducible refine' depth_spec w _ _ (gd_of0 X TT FB) ax its ns tr (1 + ch) _ ?e0 hi hb hsz ?e1 ?e2 htr ?_
    (case e0 => exact hlg.at fun o e => FB.keep _ _ e)
    (case e1 => omega)
    (case e2 => omega)
    intro td hd tkd Kd
    obtain ⟨FC, NC⟩ := after_none FB NB Kd
    generalize hdd : depthP (1 + ch) 0 ns + tr = dd at *
    k_steps
    have hmod : 0 ≤ Int.fmod (pl + dd) 16 ∧ Int.fmod (pl + dd) 16 < 16 := by
      rw [Int.fmod_eq_emod_of_nonneg _ (by decide)]; omega
    refine turned_next _ [(l, listOf _ _)] (.inl rfl) (by assumption) (by assumption) (by (first | focus ((repeat (first | exact True.intro | (refine AllAt.keep _ rfl ?_ ?_; (focus decide +kernel)) | (refine AllAt.skip _ rfl ?_ ?_; (focus decide +kernel)))); done) | ((repeat (refine And.intro ?_ ?_; (focus (first | walk_at "m_look" | rfl)))); exact True.intro))) (by (first | focus ((repeat (first | exact True.intro | with_reducible exact InAll.self | with_reducible refine InAll.keep ?_ | with_reducible refine InAll.skip ?_)); done) | ((repeat (refine And.intro (by k_mem) ?_)); exact True.intro))) (by ((repeat (refine And.intro ?_ ?_; (focus (refine neN ?_; (try dsimp only); omega)))); exact True.intro)) ⟨_, _, _, met ++ [lettersP (chansP pl kind)], _, _, rfl, rfl, ?_, hwk, by simp [hlen], hmod.1, hmod.2⟩
    rw [List.map_append]
    exact strsAre_snoc hys
  · rintro h3 tk3 m3 lo nw hPz1 F3 N3
    refine Classical.byContradiction fun hZq => ?_
    obtain ⟨l, ys, n, met, pl, tpl, rfl, rfl, hys, hwk, hlen, b1, b2⟩ := hPz1
    refine hZq ?_
    clear hZq
    k_steps
    rename News _ _ _ _ => NA
    rename Fr _ _ _ _ => FA
    refine hret l _ _ n ys (kg.fr FA) (fresh_of kg NA (.head _) (fun h => nomatch h)) (NA.get (.head _)) ?_
    rw [hwk]
    exact hys

end partWalk2
theorem off_Tu2 : (1 : Nat) = 1 := by
  w_top off
  first | walk1 | rfl
section partTu2
local macro_rules | `(tactic| walk_at "call ref") => `(tactic| refine stop_at ?_)
local macro_rules | `(tactic| walk_at "call builtin:len") => `(tactic| ((with_reducible show wpAny _ _ (call (Value.builtin "len") [Value.str (T _) _]) _ _ _); refine m_lenT (by omega) ?_))
theorem any_T (met : List (List Nat)) (l : List Nat) : ((met.map T).any fun x => x == T l) = decide (l ∈ met) := by
  induction met with
  | nil => rfl
  | cons m r ih =>
    rw [List.map_cons, List.any_cons, ih]
    by_cases e : m = l
    · subst e; simp
    · have : T m ≠ T l := fun q => e (T_inj q)
      have e2 : ¬ l = m := fun q => e q.symm
      simp [this, e2]
/-- what the colour's reckoning needs -/
structure TuH (cnt : List Int) (b nt r gr bl : Int) (hu sa : UInt64) (v dep : Int) (ns2 : List Int) : Prop where
  hrgb : rgbP r gr bl = [.f hu, .f sa, .i v]
  hcb : ∀ n ∈ cnt, 0 ≤ n ∧ n ≤ 1000
  hcl0 : cnt.length ≤ 1000
  hbb : 0 ≤ b ∧ b ≤ 1000
  hntb : 0 ≤ nt ∧ nt ≤ 1000
  hdep : indP cnt b nt (1 + r) = dep
  hdb : 0 ≤ dep ∧ dep ≤ 100
  hfi : Float64.isInf (fracP dep 16) = false
  hn1 : Float64.isNaN (Float64.mul (Float64.add hu (fracP dep 16)) six) = false
  hn2 : Float64.isInf (Float64.mul (Float64.add hu (fracP dep 16)) six) = false
  hn3 : (hI (Float64.add hu (fracP dep 16))).natAbs ≤ 1000
  hn4 : v.natAbs ≤ 1000
  hns : ∀ vs, NumsAre vs (hsvP (Float64.add hu (fracP dep 16)) sa v) → NumsOf vs ns2
  hns2 : ∀ n ∈ ns2, 0 ≤ n ∧ n ≤ 16
  hns3 : ns2.length = 3
theorem letter_at {r gr bl : Int} (h1 : 0 ≤ r) (h2 : 0 ≤ gr) (h3 : 0 ≤ bl) {i : Nat} {c : Nat} (hc2 : (lettersP [r, gr, bl])[i]? = some c) : ∃ n9, [r, gr, bl][i]? = some n9 ∧ (c : Int) - 97 = n9 ∧ 0 ≤ n9 := by
  unfold lettersP at hc2
  rw [List.getElem?_map] at hc2
  match i, hc2 with
  | 0, e => cases e; exact ⟨r, rfl, (by show ((97 + r).toNat : Int) - 97 = r; omega), h1⟩
  | 1, e => cases e; exact ⟨gr, rfl, (by show ((97 + gr).toNat : Int) - 97 = gr; omega), h2⟩
  | 2, e => cases e; exact ⟨bl, rfl, (by show ((97 + bl).toNat : Int) - 97 = bl; omega), h3⟩
  | i + 3, e => simp at e
theorem turned_spec (w : World) (s : Shared) (R : Result → Shared → Prop) (G : Gd (K0 w.params) s.heap) (word : List Nat) (tw : Tok) (cnt : List Int) (b n nt : Int) (hlen : word.length ≤ 1000) (hrun : wsRun ⟨[], 0, 0, 0⟩ word = ⟨cnt, b, n, nt⟩) (hn0 : 0 ≤ n) (hnl : n ≤ word.length)
  (met : List (List Nat)) (r gr bl : Int) (hr1 : 0 ≤ r ∧ r ≤ 16) (hg1 : 0 ≤ gr ∧ gr ≤ 16) (hb1 : 0 ≤ bl ∧ bl ≤ 16) (hbody : word.drop n.toNat = (met ++ [lettersP [r, gr, bl]]).flatten) (hmet : ∀ l ∈ met, l.length = 3)
  (hu sa : UInt64) (v dep : Int) (ns2 : List Int) (H : TuH cnt b nt r gr bl hu sa v dep ns2)
  (hret : ∀ (t : Tok) (h' : Heap) (tk' : Nat), Kp [] s.heap h' → R (.ok (.ret (.str (T (if lettersP [r, gr, bl] ∈ met then [] else word ++ lettersP ns2)) t))) { s with heap := h', toks := tk' }) :
  codeAny (model prog w) (lv 13) (.call (.ref 181) ⟨[.str (T word) tw], []⟩) R s := by
  have _kf : (PySem.Challenge.rw_pg0230_02, K0) = (PySem.Challenge.rw_pg0230_02, K0) := by k_fill; rfl
  refine' enter_cells (K := K0 w.params) (binds := [((PySem.Str.ofString "word"), .str (T word) tw)]) (rb := [((PySem.Str.ofString "word"), .str (T word) tw)]) [] G (fun p hp => nomatch hp) ?ho ?hcd ?hroom ?hbind ?hkind ?hnd ?hbl ?_ ?c2 ?c3 ?c4
  (( (case ho => k_is); (case hcd => k_is); (case hroom => k_room); (case hbind => exact BindsTo.of_eq rfl); (case hkind => ((intro n x hx; simp only [List.mem_cons, List.not_mem_nil, or_false] at hx; subst hx; first | exact .inl rfl | exact .inr ⟨rfl, rfl⟩))); (case hnd => decide +kernel); (case hbl => exact fun _ => rfl); (case c2 => exact rfl); (case c3 => exact rfl); (case c4 => exact rfl); k_whole))
  intro g L h0 tk cells pp loose mean mg mb kg F0 N0 X TT l1 l2 Y
  k_cells Y
  simp only [List.cons_append, List.nil_append] at N0
  k_steps
  unfold Stop
  refine' call_cls ?k1 ?k2 ?k3 ?k4 ?k5 ?k6 ?_; (case k1 => k_asm); (case k2 => k_asm); (case k3 => k_asm); (case k4 => k_is); (case k5 => k_is); (case k6 => k_is); k_whole
  intro x dx h3 F3 N3 l3 l4
  have l3' := l3
  have l4' := l4
  k_lt l3
  k_lt2 l4
  refine' codeAny_at (A' := lv 9) ?a1 ?a2 ?a3 ?a4 ?a5 ?_
  (case a1 => exact rfl); (case a2 => (exact Nat.le_of_ble_eq_true rfl)); (case a3 => (exact Nat.le_of_ble_eq_true rfl)); (case a4 => exact rfl); (case a5 => exact rfl)
  with_reducible refine' init_spec w _ _ x dx tw word hlen ?b2 ?b3 ?b4 ?b5 ?_
  (case b2 => exact gd_of X TT F3 N3 [x, dx] (HasAll.mem (by ((repeat (refine And.intro ⟨_, by k_mem⟩ ?_)); exact True.intro))))
  (case b3 => exact (N3 _ (.head _)).1)
  (case b4 => exact (N3 _ (.tail _ (.head _))).1)
  (case b5 => exact neN (by omega))
  intro h4 tk4 D Dc its cnt' b' n' nt' k0 k1 k2 k3 k4 tb tn tt q K4 hrun' hits hcl e1 e2 e3 e4 e5 e6
  rw [hrun] at hrun'
  injection hrun' with r1 r2 r3 r4
  subst r1 r2 r3 r4
  refine ⟨rfl, ?_⟩
  obtain ⟨F4, N4⟩ := after_two [(D, { cls := .type "tuple", data := .seq #[.ref Dc, .int b tb] }), (Dc, { cls := .type "tuple", data := .seq its.toArray })] F3 N3 K4 e1 e2 l3' l4' (fun p hp => by
    rcases List.mem_cons.mp hp with rfl | hp
    · exact ⟨e3, e5⟩
    · rw [List.mem_singleton.mp hp]; exact ⟨e4, e6⟩)
  simp only [List.cons_append, List.nil_append] at N4
  have nd1 := neN (new_ne N3 e5 (.tail _ (.tail _ (.head _))))
  have nd2 := neN (new_ne N3 e6 (.tail _ (.tail _ (.head _))))
  obtain ⟨cur, hce⟩ : ∃ cur, cur = lettersP [r, gr, bl] := ⟨_, rfl⟩
  have hcur : cur.length = 3 := by rw [hce]; rfl
  rw [← hce] at hbody hret
  have hwl : (T word).length ≤ sizeLine := by rw [T_len, sizeLine_eq]; omega
  have hbl : (word.drop n.toNat).length = 3 * met.length + 3 := by
    rw [hbody]
    have e : (met ++ [cur]).flatten = met.flatten ++ cur := by simp
    rw [e, List.length_append, hcur, flat_len met hmet]
  have hbl2 : 3 * met.length + 3 ≤ 1000 := by rw [← hbl, List.length_drop]; omega
  have hlast : (word.drop n.toNat).drop ((word.drop n.toNat).length - 3) = cur := by rw [hbody]; exact flat_last met cur hmet hcur
  have hat : ∀ (i : Nat) (l : List Nat), met[i]? = some l → (((word.drop n.toNat).drop (3 * i)).take 3) = l := fun i l e => by
    rw [hbody, show (met ++ [cur]).flatten = met.flatten ++ cur by simp]; exact flat_at met cur hmet i l e
  k_steps
  unfold Stop
  rename Fr _ _ _ _ => F5
  rename News _ _ _ _ => N5
  refine slice_strN_sn (hsz := hwl) (s := ⟨_, _, _, _, _⟩) F5 N5 ?_
  intro h6 t6 tk6 F6 N6
  rw [slice_T_from hn0 hnl]
  generalize hbd : word.drop n.toNat = body at *
  clear N5 F5
  k_steps
  unfold Stop
  rename Fr _ _ _ _ => F5
  rename News _ _ _ _ => N5
  have hbz : (T body).length ≤ sizeLine := by rw [T_len, sizeLine_eq]; omega
  refine slice_strN_sn (hsz := hbz) (s := ⟨_, _, _, _, _⟩) F5 N5 ?_
  intro h6 t6 tk6 F6 N6
  rw [slice_T_neg (by decide) (by omega), show (-3 + (body.length : Int)).toNat = body.length - 3 by omega, hlast]
  clear N5 F5
  k_steps
  unfold Stop
  (with_reducible refine lc_eval (cl := [((PySem.Str.ofString "body"), L + 1)]) ?mzc1 ?mzc2 ?mzc3 ?mzc4 ?mzc5 ?mzc6 ?_)
  (case mzc1 => rfl)
  (case mzc2 => decide +kernel)
  (case mzc3 => rfl)
  (case mzc4 => decide +kernel)
  (case mzc5 => decide +kernel)
  (case mzc6 => intro _; rfl)
  k_steps
  dsimp only
  rename IsRange _ _ _ _ _ _ _ _ => hr
  have hbi : (body.length : Int) = 3 * met.length + 3 := by omega
  refine LcE.intro (by assumption) (by assumption) ?_ (src_rangeC (n := met.length) rfl hr ?_ ?_) ?_
  · rw [sizeLine_eq]; omega
  · rw [hbi]; exact small3 met.length (by omega)
  · rw [hbi]; exact size3 met.length
  intro hh
  refine comp_quiet _ (fun i y => ∃ t l, met[i]? = some l ∧ y = .str (T l) t) _ trivial ?_ ?_
  · intro i v I oI C oC D9 oD m₂ h3 tk3 hi3 hP hC hx F3 N3 off ne
    obtain ⟨tv, rfl⟩ := hP
    have hmi : met[i]? = some met[i] := List.getElem?_eq_getElem hi3
    have hai := hat i _ hmi
    have hi4 : 3 * i + 3 ≤ body.length := by omega
    have hsl : Txt.slice (T body) (some (0 + (i : Int) * 3)) (some (0 + (i : Int) * 3 + 3)) = T met[i] := by
      rw [slice_T_ss (by omega) (by omega) (by omega), show (0 + (i : Int) * 3).toNat = 3 * i by omega, show (0 + (i : Int) * 3 + 3 - (0 + (i : Int) * 3)).toNat = 3 by omega, hai]
    k_steps
    unfold Stop
    refine slice_strN_ss (hsz := hbz) (s := ⟨_, _, _, _, _⟩) F3 N3 ?_
    intro h7 t7 tk7 F7 N7
    rw [hsl]
    exact QEnd.intro F7 N7 (by (first | focus ((repeat (first | exact True.intro | with_reducible exact InAll.self | with_reducible refine InAll.keep ?_ | with_reducible refine InAll.skip ?_)); done) | ((repeat (refine And.intro (by k_mem) ?_)); exact True.intro))) ⟨t7, _, hmi, rfl⟩
  intro ys hys hT D9 h9 tk9 F9 N9 off9
  have hys9 : StrsAre ys (met.map T) := strs_of (by simp [hys]) fun i y hy => by
    refine Classical.byContradiction fun hZq => ?_
    obtain ⟨t, l, e, rfl⟩ := hT i y hy
    refine hZq ?_
    clear hZq
    exact ⟨_, t, by simp [e], rfl⟩
  have hany : ((met.map T).any fun x => x == T cur) = decide (cur ∈ met) := any_T met cur
  by_cases hm : cur ∈ met
  · rw [decide_eq_true hm] at hany
    rw [if_pos hm] at hret
    k_steps
    rw [show PySem.Str.ofString "" = T [] by decide +kernel]
    exact hret _ _ _ (kg.fr (by assumption))
  rw [decide_eq_false hm] at hany
  rw [if_neg hm] at hret
  k_steps
  unfold Stop
  with_reducible refine Assign_Tuple ?_ ?hs ?hw
  (case hs => with_unfolding_all rfl)
  (case hw => with_unfolding_all rfl)
  refine stop_at ?_
  ((unfold Stop; (with_reducible refine lc_eval (cl := []) ?mzc1 ?mzc2 ?mzc3 ?mzc4 ?mzc5 ?mzc6 ?_); (case mzc1 => rfl); (case mzc2 => decide +kernel); (case mzc3 => rfl); (case mzc4 => decide +kernel); (case mzc5 => decide +kernel); (case mzc6 => intro _; rfl)))
  clear hT hys9 hys hany
  k_steps
  unfold Stop
  rename Fr _ _ _ _ => F10
  rename News _ _ _ _ => N10
  refine slice_strN_sn (hsz := hbz) (s := ⟨_, _, _, _, _⟩) F10 N10 ?_
  intro h11 t11 tk11 F11 N11
  rw [slice_T_neg (by decide) (by omega), show (-3 + (body.length : Int)).toNat = body.length - 3 by omega, hlast]
  clear N10 F10
  k_steps
  dsimp only
  refine LcE.intro F11 N11 ?_ (src_str (x := T cur) rfl) ?_
  · rw [sizeLine_eq, T_cps, List.size_toArray]; omega
  intro hh2
  refine comp_quiet _ (fun i y => ∃ t n, [r, gr, bl][i]? = some n ∧ y = .int n t) _ trivial ?_ ?_
  · intro i v I oI C oC D9 oD m₂ h3 tk3 hi3 hP hC hx F3 N3 off ne
    refine Classical.byContradiction fun hZq => ?_
    obtain ⟨c, tc, hc, rfl⟩ := hP
    refine hZq ?_
    clear hZq
    rw [T_cps, hce] at hc
    refine Classical.byContradiction fun hZq => ?_
    obtain ⟨n9, hn9, hc9, hb9⟩ := letter_at hr1.1 hg1.1 hb1.1 (show (lettersP [r, gr, bl])[i]? = some c by simpa using hc)
    refine hZq ?_
    clear hZq
    k_steps
    rw [hc9]
    exact QEnd.intro (by assumption) (by assumption) (by (first | focus ((repeat (first | exact True.intro | with_reducible exact InAll.self | with_reducible refine InAll.keep ?_ | with_reducible refine InAll.skip ?_)); done) | ((repeat (refine And.intro (by k_mem) ?_)); exact True.intro))) ⟨_, n9, hn9, rfl⟩
  intro ys2 hys2 hT2 D10 h12 tk12 F12 N12 off12
  obtain ⟨ta, tb', tc, rfl⟩ : ∃ ta tb tc, ys2 = [.int r ta, .int gr tb, .int bl tc] := by
    have h3 : ys2.length = 3 := by rw [hys2, T_cps, List.size_toArray, hcur]
    refine Classical.byContradiction fun hZq => ?_
    obtain ⟨a, b, c, rfl⟩ := three_of h3
    refine hZq ?_
    clear hZq
    · refine Classical.byContradiction fun hZq => ?_
      obtain ⟨t1, n1, e1, rfl⟩ := hT2 0 a rfl
      refine hZq ?_
      clear hZq
      refine Classical.byContradiction fun hZq => ?_
      obtain ⟨t2, n2, e2, rfl⟩ := hT2 1 b rfl
      refine hZq ?_
      clear hZq
      refine Classical.byContradiction fun hZq => ?_
      obtain ⟨t3, n3, e3, rfl⟩ := hT2 2 c rfl
      refine hZq ?_
      clear hZq
      cases e1; cases e2; cases e3
      exact ⟨_, _, _, rfl⟩
  clear hT2 hys2
  k_steps
  unfold Stop
  refine wpAny_call ?_
  refine' codeAny_at (A' := lv 9) ?a1 ?a2 ?a3 ?a4 ?a5 ?_
  (case a1 => exact rfl); (case a2 => (exact Nat.le_of_ble_eq_true rfl)); (case a3 => (exact Nat.le_of_ble_eq_true rfl)); (case a4 => exact rfl); (case a5 => exact rfl)
  rename News _ _ _ _ => NA
  rename Fr _ _ _ _ => FA
  with_reducible refine' rgb_spec w _ _ (gd_of0 X TT FA) r gr bl _ _ _ hr1 hg1 hb1 ?_
  intro l13 h13 tk13 n13 vs13 K13 e13 e14 hv13
  rw [H.hrgb] at hv13
  cases hv13 with
  | float _ t1 hv13 =>
  cases hv13 with
  | float _ t2 hv13 =>
  cases hv13 with
  | int _ t3 hv13 =>
  cases hv13
  obtain ⟨F13, N13⟩ := after_one FA NA K13 e14 e13
  clear FA NA
  k_steps
  unfold Stop
  refine wpAny_call ?_
  refine' codeAny_at (A' := lv 9) ?a1 ?a2 ?a3 ?a4 ?a5 ?_
  (case a1 => exact rfl); (case a2 => (exact Nat.le_of_ble_eq_true rfl)); (case a3 => (exact Nat.le_of_ble_eq_true rfl)); (case a4 => exact rfl); (case a5 => exact rfl)
  rename News _ _ _ _ => NA
  rename Fr _ _ _ _ => FA
  with_reducible refine' indent_spec w _ _ x dx D Dc (T word) its cnt b n nt (1 + r) tw k0 k1 k2 k3 k4 tb tn tt _ q ?c1 ?c2 ?c3 ?c4 ?c5 hits hcl H.hcb H.hbb H.hntb ?c6 ?c7 ?_
  (case c1 => exact gd_of X TT FA NA [x, dx, D, Dc] (HasAll.mem (by ((repeat (refine And.intro ⟨_, by k_mem⟩ ?_)); exact True.intro))))
  (case c2 => exact NA.get (by k_mem))
  (case c3 => exact NA.get (by k_mem))
  (case c4 => exact NA.get (by k_mem))
  (case c5 => exact NA.get (by k_mem))
  (case c6 => omega)
  (case c7 => omega)
  intro h14 tk14 t14 K14
  rw [H.hdep]
  obtain ⟨F14, N14⟩ := after_none FA NA K14
  clear FA NA
  have hfi := H.hfi
  unfold fracP at hfi
  k_steps
  unfold Stop
  refine wpAny_call ?_
  refine' codeAny_at (A' := lv 9) ?a1 ?a2 ?a3 ?a4 ?a5 ?_
  (case a1 => exact rfl); (case a2 => (exact Nat.le_of_ble_eq_true rfl)); (case a3 => (exact Nat.le_of_ble_eq_true rfl)); (case a4 => exact rfl); (case a5 => exact rfl)
  rename News _ _ _ _ => NA
  rename Fr _ _ _ _ => FA
  have hn1 := H.hn1
  have hn2 := H.hn2
  have hn3 := H.hn3
  have hns := H.hns
  unfold fracP at hn1 hn2 hn3 hns
  with_reducible refine' hsv_spec w _ _ (gd_of0 X TT FA) _ sa v _ _ _ hn1 hn2 hn3 H.hn4 ?_
  intro l15 h15 tk15 n15 vs15 K15 e15 e16 hv15
  have hno := hns _ hv15
  clear hn1 hn2 hn3 hns hv15
  obtain ⟨F15, N15⟩ := after_one FA NA K15 e16 e15
  clear FA NA
  k_steps
  unfold Stop
  refine wpAny_call ?_
  refine' codeAny_at (A' := lv 9) ?a1 ?a2 ?a3 ?a4 ?a5 ?_
  (case a1 => exact rfl); (case a2 => (exact Nat.le_of_ble_eq_true rfl)); (case a3 => (exact Nat.le_of_ble_eq_true rfl)); (case a4 => exact rfl); (case a5 => exact rfl)
  rename News _ _ _ _ => NA
  rename Fr _ _ _ _ => FA
  with_reducible refine' lettersF_spec w _ _ (gd_of0 X TT FA) l15 vs15 ns2 ?d1 hno H.hns2 ?d2 ?_
  (case d1 => exact ⟨_, NA.get (.head _), rfl, _, rfl⟩)
  (case d2 => rw [H.hns3]; omega)
  intro t17 h17 tk17 K17
  obtain ⟨F17, N17⟩ := after_none FA NA K17
  clear FA NA
  have hll : (lettersP ns2).length = 3 := by rw [lettersP, List.length_map]; exact H.hns3
  have hwz : (T word).length + (T (lettersP ns2)).length ≤ sizeLine := by rw [T_len, T_len, hll, sizeLine_eq]; omega
  k_steps
  rw [T_append]
  exact hret _ _ _ (kg.fr (by assumption))

end partTu2
theorem off_Pu2 : (1 : Nat) = 1 := by
  w_top off
  first | walk1 | rfl
section partPu2
/-! plain facts -/
noncomputable def leadL (ns : List Int) (tr : Int) : List Nat := (ns.map fun r => List.replicate r.toNat 32 ++ [9]).flatten ++ List.replicate tr.toNat 32
theorem wsRun_sp : ∀ (k : Nat) (st : WsSt) (rest : List Nat), wsRun st (List.replicate k 32 ++ rest) = wsRun { st with n := st.n + k, b := st.b + k } rest
  | 0, st, rest => by simp
  | k + 1, st, rest => by
    rw [List.replicate_succ, List.cons_append, wsRun, if_pos rfl, wsRun_sp k]
    congr 1
    simp only [WsSt.mk.injEq, true_and]
    refine ⟨?_, ?_, trivial⟩ <;> omega
noncomputable def runsLen : List Int → Int
  | [] => 0
  | r :: ns => r + 1 + runsLen ns
theorem wsRun_lead : ∀ (ns : List Int) (cnt : List Int) (n nt tr : Int) (c : Nat) (rest : List Nat), (∀ r ∈ ns, 0 ≤ r) → 0 ≤ tr → ¬ c = 32 → ¬ c = 9 →
    wsRun ⟨cnt, 0, n, nt⟩ (leadL ns tr ++ c :: rest) = ⟨ns.foldl bump cnt, tr, n + runsLen ns + tr, nt + ns.length⟩
  | [], cnt, n, nt, tr, c, rest, _, ht, h1, h2 => by
    show wsRun _ (List.replicate tr.toNat 32 ++ c :: rest) = _
    rw [wsRun_sp, wsRun, if_neg h1, if_neg h2]
    simp only [WsSt.mk.injEq, List.foldl_nil, runsLen, List.length_nil, true_and]
    refine ⟨?_, ?_, ?_⟩ <;> omega
  | r :: ns, cnt, n, nt, tr, c, rest, hn, ht, h1, h2 => by
    have hr := hn r (.head _)
    have e : leadL (r :: ns) tr ++ c :: rest = List.replicate r.toNat 32 ++ (9 :: (leadL ns tr ++ c :: rest)) := by
      unfold leadL; simp
    rw [e, wsRun_sp, wsRun, if_neg (by decide), if_pos rfl]
    dsimp only
    have hb : (0 : Int) + (r.toNat : Int) = r := by omega
    rw [hb, wsRun_lead ns _ _ _ tr c rest (fun q hq => hn q (.tail _ hq)) ht h1 h2]
    simp only [WsSt.mk.injEq, List.foldl_cons, runsLen, List.length_cons, true_and]
    refine ⟨?_, ?_⟩ <;> omega
theorem lead_len : ∀ (ns : List Int) (tr : Int), (∀ r ∈ ns, 0 ≤ r) → 0 ≤ tr → ((leadL ns tr).length : Int) = runsLen ns + tr
  | [], tr, _, ht => by show ((List.replicate tr.toNat 32).length : Int) = _; rw [List.length_replicate, runsLen]; omega
  | r :: ns, tr, hn, ht => by
    have ih := lead_len ns tr (fun q hq => hn q (.tail _ hq)) ht
    have e : leadL (r :: ns) tr = List.replicate r.toNat 32 ++ (9 :: leadL ns tr) := by unfold leadL; simp
    have hr := hn r (.head _)
    rw [e, List.length_append, List.length_replicate, List.length_cons, runsLen]
    omega
/-- sums -/
noncomputable def psum (g : Nat → Int) : Nat → Int
  | 0 => 0
  | n + 1 => psum g n + g n
theorem psum_zero {g : Nat → Int} : ∀ {n : Nat}, (∀ i, i < n → g i = 0) → psum g n = 0
  | 0, _ => rfl
  | n + 1, h => by rw [psum, psum_zero fun i hi => h i (by omega), h n (by omega)]; rfl
theorem psum_more {g : Nat → Int} {n : Nat} : ∀ {k : Nat}, (∀ i, n ≤ i → g i = 0) → psum g (n + k) = psum g n
  | 0, _ => rfl
  | k + 1, h => by rw [← Nat.add_assoc, psum, psum_more h, h (n + k) (by omega)]; omega
theorem psum_delta {g g' : Nat → Int} {b : Nat} {d : Int} : ∀ {n : Nat}, (∀ i, g' i = g i + if i = b then d else 0) → psum g' n = psum g n + if b < n then d else 0
  | 0, _ => by simp [psum]
  | n + 1, h => by
    rw [psum, psum, psum_delta h, h n]
    by_cases e : n = b
    · subst e; simp; omega
    · by_cases l : b < n
      · have : b < n + 1 := by omega
        simp [e, l, this]; omega
      · have : ¬ b < n + 1 := by omega
        simp [e, l, this]
theorem bump_getD (l : List Int) (b : Int) (h0 : 0 ≤ b) (i : Nat) : (bump l b).getD i 0 = l.getD i 0 + if i = b.toNat then 1 else 0 := by
  unfold bump up1
  have hset : ∀ (q : List Int) (j : Nat), j < q.length → (q.set j (q.getD j 0 + 1)).getD i 0 = q.getD i 0 + if i = j then 1 else 0 := by
    intro q j hj
    simp only [List.getD_eq_getElem?_getD, List.getElem?_set]
    by_cases e : j = i
    · subst e; simp [hj]
    · have e2 : ¬ i = j := fun z => e z.symm
      simp [e, e2]
  split
  · rename_i hge
    have hl : (List.replicate (b - l.length + 1).toNat [(0 : Int)]).flatten = List.replicate (b - l.length + 1).toNat 0 := by
      generalize (b - (l.length : Int) + 1).toNat = k
      induction k with
      | zero => rfl
      | succ k ih => rw [List.replicate_succ, List.flatten_cons, ih]; rfl
    rw [hset _ _ (by rw [hl]; simp; omega), hl]
    congr 1
    simp only [List.getD_eq_getElem?_getD, List.getElem?_append]
    by_cases hi : i < l.length
    · simp [hi]
    · simp [hi, List.getElem?_replicate]
      split <;> rfl
  · exact hset _ _ (by omega)
theorem bump_length (l : List Int) (b : Int) (h0 : 0 ≤ b) : (bump l b).length ≤ max l.length (b.toNat + 1) := by
  have := bump_len l b (max l.length b.toNat) (by omega) h0 (by omega)
  unfold bump up1 at *
  split
  · rw [if_pos (by assumption)] at this; simp at this ⊢; omega
  · simp; omega
theorem ilP_psum (cnt : List Int) (size : Int) (hs : 1 ≤ size) : ∀ k : Nat, ilP cnt size k = psum (fun i => Int.fdiv i size * cnt.getD i 0) (size.toNat + k)
  | 0 => by
    rw [Nat.add_zero, psum_zero fun i hi => ?_]
    · rfl
    · show Int.fdiv (i : Int) size * _ = 0
      rw [Int.fdiv_eq_ediv_of_nonneg _ (by omega), Int.ediv_eq_zero_of_lt (by omega) (by omega), Int.zero_mul]
  | k + 1 => by
    rw [ilP, ilP_psum cnt size hs k, ← Nat.add_assoc, psum]
    have e : ((size.toNat + k : Nat) : Int) = size + k := by omega
    have e2 : (size + (k : Int)).toNat = size.toNat + k := by omega
    rw [e2]
    show _ = _ + Int.fdiv ((size.toNat + k : Nat) : Int) size * _
    rw [e]
theorem ilP_all (cnt : List Int) (size : Int) (hs : 1 ≤ size) (N : Nat) (h : cnt.length ≤ N) (h2 : size.toNat ≤ N) : ilP cnt size ((cnt.length : Int) - size).toNat = psum (fun i => Int.fdiv i size * cnt.getD i 0) N := by
  rw [ilP_psum cnt size hs]
  have hz : ∀ i, size.toNat + ((cnt.length : Int) - size).toNat ≤ i → (fun i : Nat => Int.fdiv i size * cnt.getD i 0) i = 0 := fun i hi => by
    show Int.fdiv (i : Int) size * cnt.getD i 0 = 0
    have : cnt.length ≤ i := by omega
    rw [show cnt.getD i 0 = 0 by simp [List.getD_eq_getElem?_getD, List.getElem?_eq_none this], Int.mul_zero]
  have hN : N = size.toNat + ((cnt.length : Int) - size).toNat + (N - (size.toNat + ((cnt.length : Int) - size).toNat)) := by omega
  rw [hN, psum_more hz]
noncomputable def fsum (size : Int) : List Int → Int
  | [] => 0
  | r :: ns => Int.fdiv r size + fsum size ns
theorem psum_bumps (size : Int) (N : Nat) : ∀ (ns cnt : List Int), (∀ r ∈ ns, 0 ≤ r ∧ r.toNat < N) → psum (fun i => Int.fdiv i size * (ns.foldl bump cnt).getD i 0) N = psum (fun i => Int.fdiv i size * cnt.getD i 0) N + fsum size ns
  | [], cnt, _ => by simp [fsum]
  | r :: ns, cnt, h => by
    obtain ⟨h1, h2⟩ := h r (.head _)
    rw [List.foldl_cons, psum_bumps size N ns (bump cnt r) (fun q hq => h q (.tail _ hq)), fsum]
    rw [psum_delta (g := fun i => Int.fdiv i size * cnt.getD i 0) (b := r.toNat) (d := Int.fdiv r size) (fun i => ?_), if_pos h2]
    · omega
    · show Int.fdiv (i : Int) size * (bump cnt r).getD i 0 = _
      rw [bump_getD cnt r h1 i, Int.mul_add]
      by_cases e : i = r.toNat
      · have : (i : Int) = r := by omega
        simp [e]; rw [show max r 0 = r by omega]
      · simp [e]
theorem depth_mul (size : Int) (hs : 1 ≤ size) : ∀ (ns : List Int) (m : Int), (∀ r ∈ ns, 0 ≤ r) → depthP size (size * m) ns = size * (m + fsum size ns + ns.length)
  | [], m, _ => by simp [depthP, fsum]
  | r :: ns, m, h => by
    have h1 := h r (.head _)
    have e : size * m + r + size - Int.fmod (size * m + r) size = size * (m + Int.fdiv r size + 1) := by
      rw [Int.fmod_eq_emod_of_nonneg _ (by omega), Int.fdiv_eq_ediv_of_nonneg _ (by omega), Int.add_comm (size * m) r, Int.add_mul_emod_self_left]
      have := Int.mul_ediv_add_emod r size
      rw [Int.mul_add, Int.mul_add, Int.mul_one]
      omega
    have ih := depth_mul size hs ns (m + Int.fdiv r size + 1) (fun q hq => h q (.tail _ hq))
    unfold depthP at ih ⊢
    rw [List.foldl_cons, e, ih, fsum]
    congr 1
    simp only [List.length_cons]
    omega
theorem bumps_length : ∀ (ns cnt : List Int) (N : Nat), (∀ r ∈ ns, 0 ≤ r ∧ r.toNat < N) → cnt.length ≤ N → (ns.foldl bump cnt).length ≤ N
  | [], cnt, N, _, h => h
  | r :: ns, cnt, N, hn, h => by
    obtain ⟨h1, h2⟩ := hn r (.head _)
    have := bump_length cnt r h1
    exact bumps_length ns _ N (fun q hq => hn q (.tail _ hq)) (by omega)
theorem bumps_b : ∀ (ns cnt : List Int) (K : Int), (∀ r ∈ ns, 0 ≤ r) → (∀ i : Nat, 0 ≤ cnt.getD i 0 ∧ cnt.getD i 0 ≤ K) → ∀ i : Nat, 0 ≤ (ns.foldl bump cnt).getD i 0 ∧ (ns.foldl bump cnt).getD i 0 ≤ K + ns.length
  | [], cnt, K, _, h => fun i => by have := h i; simp only [List.foldl_nil, List.length_nil]; omega
  | r :: ns, cnt, K, hn, h => fun i => by
    have h1 := hn r (.head _)
    have := bumps_b ns (bump cnt r) (K + 1) (fun q hq => hn q (.tail _ hq)) (fun i => by
      rw [bump_getD cnt r h1 i]
      have := h i
      split <;> omega) i
    simp only [List.foldl_cons, List.length_cons]
    omega
theorem ind_depth (ns : List Int) (tr size : Int) (hs : 1 ≤ size) (hn : ∀ r ∈ ns, 0 ≤ r) (hs2 : size ≤ 17) (hn9 : ∀ r ∈ ns, r ≤ 9) : indP (ns.foldl bump []) tr ns.length size = depthP size 0 ns + tr := by
  have hb : ∀ r ∈ ns, 0 ≤ r ∧ r.toNat < 17 := fun r hr => ⟨hn r hr, by have := hn9 r hr; have := hn r hr; omega⟩
  have hl := bumps_length ns [] 17 hb (by simp)
  unfold indP
  rw [ilP_all _ size hs 17 hl (by omega), psum_bumps size 17 ns [] hb, psum_zero (fun i _ => by simp), Int.zero_add]
  have := depth_mul size hs ns 0 hn
  rw [Int.mul_zero] at this
  rw [this]
  have e : (0 : Int) + fsum size ns + ns.length = fsum size ns + ns.length := by omega
  rw [e]
  omega
theorem fsum_b (size : Int) (hs : 1 ≤ size) : ∀ (ns : List Int), (∀ r ∈ ns, 0 ≤ r ∧ r ≤ 9) → 0 ≤ fsum size ns ∧ size * fsum size ns ≤ 9 * ns.length
  | [], _ => by simp [fsum]
  | r :: ns, h => by
    obtain ⟨h1, h2⟩ := h r (.head _)
    obtain ⟨i1, i2⟩ := fsum_b size hs ns (fun q hq => h q (.tail _ hq))
    have e : Int.fdiv r size = r / size := Int.fdiv_eq_ediv_of_nonneg _ (by omega)
    have d1 : 0 ≤ r / size := Int.ediv_nonneg h1 (by omega)
    have d2 : size * (r / size) ≤ r := Int.mul_ediv_self_le (by omega)
    rw [fsum, e, Int.mul_add, List.length_cons]
    refine ⟨by omega, ?_⟩
    have : ((ns.length + 1 : Nat) : Int) = ns.length + 1 := by omega
    rw [this]
    omega
theorem depth_b (size : Int) (hs : 1 ≤ size) (hs2 : size ≤ 17) (ns : List Int) (h : ∀ r ∈ ns, 0 ≤ r ∧ r ≤ 9) (hl : ns.length ≤ 3) : 0 ≤ depthP size 0 ns ∧ depthP size 0 ns ≤ 78 := by
  have hd := depth_mul size hs ns 0 (fun q hq => (h q hq).1)
  rw [Int.mul_zero] at hd
  obtain ⟨f1, f2⟩ := fsum_b size hs ns h
  rw [hd, show (0 : Int) + fsum size ns + ns.length = fsum size ns + ns.length by omega, Int.mul_add]
  have l0 : (0 : Int) ≤ ns.length := by omega
  have p1 : 0 ≤ size * fsum size ns := Int.mul_nonneg (by omega) f1
  have p2 : 0 ≤ size * (ns.length : Int) := Int.mul_nonneg (by omega) l0
  have p3 : size * (ns.length : Int) ≤ 17 * 3 := Int.mul_le_mul hs2 (by omega) l0 (by omega)
  omega

end partPu2
theorem off_Fl2 : (1 : Nat) = 1 := by
  w_top off
  first | walk1 | rfl
section partFl2
/-- a hue in sixteenths -/
noncomputable def hueF (n : Nat) : UInt64 := Float64.ofFrac false n 16
noncomputable def satF (k : Nat) : UInt64 := if k = 0 then 0 else fracP (halvesP k) 2
noncomputable def hueP (k p : Nat) : Nat := if k = 0 then 0 else p
noncomputable def numOk : Num → Int → Bool
  | .i m, n => m == n
  | .f b, n => b == Float64.ofInt n
noncomputable def numsOk : List Num → List Int → Bool
  | [], [] => true
  | a :: r, n :: ns => numOk a n && numsOk r ns
  | _, _ => false
noncomputable def rgbOk : List Num → UInt64 → UInt64 → Int → Bool
  | [.f a, .f b, .i c], h, s, v => a == h && (b == s && c == v)
  | _, _, _, _ => false
theorem rgbOk_eq {l : List Num} {h s : UInt64} {v : Int} (x : rgbOk l h s v = true) : l = [.f h, .f s, .i v] := by
  unfold rgbOk at x
  split at x
  · simp only [Bool.and_eq_true, beq_iff_eq] at x
    obtain ⟨rfl, rfl, rfl⟩ := x; rfl
  · cases x
theorem numsOk_of {l : List Num} {vs : List Value} (x : NumsAre vs l) : ∀ {ns : List Int}, numsOk l ns = true → NumsOf vs ns := by
  induction x with
  | nil =>
    intro ns h
    cases ns with
    | nil => exact .nil
    | cons _ _ => cases h
  | int m t _ ih =>
    intro ns h
    cases ns with
    | nil => cases h
    | cons n ns =>
      simp only [numsOk, numOk, Bool.and_eq_true, beq_iff_eq] at h
      obtain ⟨rfl, h⟩ := h
      exact .cons (.int _ _) (ih h)
  | float b t _ ih =>
    intro ns h
    cases ns with
    | nil => cases h
    | cons n ns =>
      simp only [numsOk, numOk, Bool.and_eq_true, beq_iff_eq] at h
      obtain ⟨rfl, h⟩ := h
      exact .cons (.float _ _) (ih h)
theorem rgb_table : ∀ k : Fin 4, ∀ p : Fin 16, rgbOk (rgbP (chanP p.val k.val 0) (chanP p.val k.val 1) (chanP p.val k.val 2)) (hueF (hueP k.val p.val)) (satF k.val) (valueP k.val) = true := by decide +kernel
theorem add_table : ∀ p : Fin 16, ∀ d : Fin 88, Float64.add (hueF p.val) (hueF d.val) = hueF (p.val + d.val) := by decide +kernel
theorem hue_table : ∀ n : Fin 104, Float64.isNaN (Float64.mul (hueF n.val) six) = false ∧ Float64.isInf (Float64.mul (hueF n.val) six) = false ∧ (hI (hueF n.val)).natAbs ≤ 1000 ∧ Float64.isInf (hueF n.val) = false := by decide +kernel
theorem hsv_table : ∀ k : Fin 4, ∀ n : Fin 104, numsOk (hsvP (hueF n.val) (satF k.val) (valueP k.val)) (chansP ((n.val % 16 : Nat) : Int) k.val) = true := by decide +kernel
theorem frac_hue {d : Int} (h : 0 ≤ d) : fracP d 16 = hueF d.toNat := by
  unfold fracP hueF
  rw [decide_eq_false (by omega : ¬ d < 0), decide_eq_false (by decide : ¬ (16 : Int) < 0)]
  have : d.natAbs = d.toNat := by omega
  rw [this]
  rfl
/-- what the colour's reckoning needs, for a hue of the ring -/
theorem turned_H (ns : List Int) (tr place kind : Int) (hn : ∀ r ∈ ns, 0 ≤ r ∧ r ≤ 9) (hl : ns.length ≤ 3) (htr : 0 ≤ tr ∧ tr ≤ 9) (hk1 : 0 ≤ kind) (hk2 : kind < 4) (hp1 : 0 ≤ place) (hp2 : place < 16) :
    TuH (ns.foldl bump []) tr ns.length (chanP place kind 0) (chanP place kind 1) (chanP place kind 2) (hueF (hueP kind.toNat place.toNat)) (satF kind.toNat) (valueP kind) (depthP (1 + chanP place kind 0) 0 ns + tr) (chansP (stepP ns tr kind place) kind) := by
  obtain ⟨c1, c2⟩ := chan_b place kind 0 hk1 hk2
  have hn0 : ∀ r ∈ ns, 0 ≤ r := fun r hr => (hn r hr).1
  have hb : ∀ r ∈ ns, 0 ≤ r ∧ r.toNat < 17 := fun r hr => ⟨hn0 r hr, by have := hn r hr; omega⟩
  have hcl := bumps_length ns [] 17 hb (by simp)
  obtain ⟨d1, d2⟩ := depth_b (1 + chanP place kind 0) (by omega) (by omega) ns hn hl
  have hek : ((kind.toNat : Nat) : Int) = kind := by omega
  have hep : ((place.toNat : Nat) : Int) = place := by omega
  have hst : stepP ns tr kind place = Int.fmod (place + (depthP (1 + chanP place kind 0) 0 ns + tr)) 16 := rfl
  generalize hdep : depthP (1 + chanP place kind 0) 0 ns + tr = dep at *
  have hd0 : 0 ≤ dep := by omega
  have hd1 : dep ≤ 87 := by omega
  have hrgb := rgb_table ⟨kind.toNat, by omega⟩ ⟨place.toNat, by omega⟩
  dsimp only at hrgb
  rw [hek, hep] at hrgb
  have hpp : hueP kind.toNat place.toNat < 16 := by unfold hueP; split <;> omega
  have hadd : Float64.add (hueF (hueP kind.toNat place.toNat)) (fracP dep 16) = hueF (hueP kind.toNat place.toNat + dep.toNat) := by
    rw [frac_hue hd0]
    exact add_table ⟨_, hpp⟩ ⟨dep.toNat, by omega⟩
  have ht := hue_table ⟨hueP kind.toNat place.toNat + dep.toNat, by omega⟩
  have hh := hsv_table ⟨kind.toNat, by omega⟩ ⟨hueP kind.toNat place.toNat + dep.toNat, by omega⟩
  dsimp only at ht hh
  rw [hek] at hh
  have hch : chansP (((hueP kind.toNat place.toNat + dep.toNat) % 16 : Nat) : Int) kind = chansP (stepP ns tr kind place) kind := by
    by_cases h0 : kind = 0
    · subst h0
      have : ∀ p : Int, chansP p 0 = [8, 8, 8] := fun p => by
        simp [chansP, chanP, valueP, halvesP]
      rw [this, this]
    · congr 1
      rw [hst, Int.fmod_eq_emod_of_nonneg _ (by decide)]
      have : hueP kind.toNat place.toNat = place.toNat := by unfold hueP; rw [if_neg (by omega)]
      rw [this]
      omega
  rw [hch] at hh
  exact {
    hrgb := rgbOk_eq hrgb
    hcb := fun n hm => by
      obtain ⟨i, hi⟩ := List.getElem?_of_mem hm
      have := bumps_b ns [] 0 hn0 (fun i => by simp) i
      rw [List.getD_eq_getElem?_getD, hi] at this
      simp only [Option.getD_some] at this
      omega
    hcl0 := by omega
    hbb := by omega
    hntb := by omega
    hdep := by rw [ind_depth ns tr _ (by omega) hn0 (by omega) (fun r hr => (hn r hr).2)]; exact hdep
    hdb := by omega
    hfi := by rw [frac_hue hd0]; exact (hue_table ⟨dep.toNat, by omega⟩).2.2.2
    hn1 := by rw [hadd]; exact ht.1
    hn2 := by rw [hadd]; exact ht.2.1
    hn3 := by rw [hadd]; exact ht.2.2.1
    hn4 := by have := valueP_b kind; omega
    hns := fun vs h => by rw [hadd] at h; exact numsOk_of h hh
    hns2 := chans_b _ _ hk1 hk2
    hns3 := rfl }

end partFl2
theorem off_Ls2 : (1 : Nat) = 1 := by
  w_top off
  first | walk1 | rfl
section partLs2
/-- two addresses that differ, kept from omega's eyes -/
noncomputable def Nq (a b : Nat) : Prop := a ≠ b
theorem Nq.l {a b : Nat} (h : Nq a b) : a ≠ b := h
theorem Nq.r {a b : Nat} (h : Nq b a) : a ≠ b := Ne.symm h
theorem nq_of {a b : Addr} (h : a ≠ b) : Nq a b := h
noncomputable def AllNq (I : Nat) : List (Addr × Obj) → Prop
  | [] => True
  | p :: r => Nq p.1 I ∧ AllNq I r
theorem AllNq.of {I : Addr} : ∀ {l : List (Addr × Obj)}, AllNe I l → AllNq I l
  | [], _ => trivial
  | _ :: _, h => ⟨h.1, AllNq.of h.2⟩
theorem AllNq.off {D : Addr} : ∀ {l : List (Addr × Obj)}, LCg.Off1 D l → AllNq D l
  | [], _ => trivial
  | _ :: _, h => ⟨h.1, AllNq.off h.2⟩
theorem AllNq.lt {D : Addr} : ∀ {l : List (Addr × Obj)}, (∀ p ∈ l, p.1 < D) → AllNq D l
  | [], _ => trivial
  | _ :: _, h => ⟨Nat.ne_of_lt (h _ (.head _)), AllNq.lt fun p hp => h p (.tail _ hp)⟩
theorem AllNq.new {b h : Heap} {L l : Addr} {news : List (Addr × Obj)} (N : News b L h news) (e0 : h.get? l = none) : AllNq l news := by
  have : ∀ k : List (Addr × Obj), (∀ p ∈ k, p ∈ news) → AllNq l k := by
    intro k
    induction k with
    | nil => intro _; trivial
    | cons p r ih => exact fun hk => ⟨Ne.symm (new_ne N e0 (hk p (.head _))), ih fun q hq => hk q (.tail _ hq)⟩
  exact this _ fun p hp => hp
noncomputable def NqL (a : Nat) : List Nat → Prop
  | [] => True
  | b :: r => Nq a b ∧ NqL a r
/-- law's body and its scope -/
noncomputable def lawBS : List Stmt × Scope := match (PySem.Challenge.pw_pg0230_02).main.body.getLast? with
  | some (.FunctionDef _ _ body _ _ _ scope _ _ _) => (body, scope)
  | _ => ([], default)
noncomputable abbrev lawEnv (L fa : Addr) (cd : Value) : Env := envOfC ((PySem.Str.ofString "law")) lawBS.2 L fa cd
noncomputable abbrev lawA (L fa : Addr) (cd : Value) : Around := callerA.deeper (lawEnv L fa cd)
/-- the body of the loop that writes the page -/
noncomputable def bodyC : List Stmt := match (lawBS.1.drop 2).head? with
  | some (.For _ _ b _ _) => b
  | _ => []
noncomputable def runsP (a : Int) : List Int := [Int.fmod (Int.fdiv a 4) 10, Int.fmod (Int.fdiv a 40) 10, Int.fmod (Int.fdiv a 400) 10].take (Int.fmod a 4).toNat
noncomputable def trP (a : Int) : Int := Int.fmod (Int.fdiv a 4000) 10
noncomputable def wayP (a : Int) : Int := Int.fmod (Int.fdiv a 40000) 4
noncomputable def placeP (b : Int) : Int := Int.fmod b 16
noncomputable def kindP (b : Int) : Int := Int.fmod (Int.fdiv b 16) 4
noncomputable def colsP (a b : Int) : List (List Nat) := walkP (runsP a) (trP a) (kindP b) 17 (placeP b) []
noncomputable def headP (a : Int) : List Nat := leadL (runsP a) (trP a)
noncomputable def escL (w : List Nat) : List Nat := (w.map fun c => [92, c]).flatten
noncomputable def gapP (way : Int) : List Nat := if way = 0 then [] else if way = 1 then [10] else if way = 2 then [10, 9, 10] else [32]
noncomputable def wordP (a b : Int) : List Nat := headP a ++ lettersP (chansP (placeP b) (kindP b))
noncomputable def quoteP (way : Int) (w : List Nat) : List Nat := if way < 2 then 34 :: ((if way > 0 then escL w else w) ++ [34]) else if way > 0 then escL w else w
noncomputable def pieceP (a b : Int) : List Nat := quoteP (wayP a) (wordP a b) ++ gapP (wayP a)
noncomputable def pageP (na nb : Nat → Int) (i : Nat) : List Nat := ((List.range i).map fun j => pieceP (na j) (nb j)).flatten
noncomputable def SlotOk (ws : List Value) (j : Nat) (cols : List (List Nat)) (slots : List (Addr × Obj)) : Prop := ∃ b ys n, ws[j]? = some (.ref b) ∧ slots[j]? = some (b, listOf (List.toArray ys) n) ∧ StrsAre ys (cols.map T)
theorem runs_b (a : Int) (ha : 0 ≤ a) : (∀ r ∈ runsP a, 0 ≤ r ∧ r ≤ 9) ∧ (runsP a).length ≤ 3 := by
  have hm : ∀ x : Int, 0 ≤ Int.fmod x 10 ∧ Int.fmod x 10 ≤ 9 := fun x => by rw [Int.fmod_eq_emod_of_nonneg _ (by decide)]; omega
  unfold runsP
  refine ⟨fun r hr => ?_, by rw [List.length_take]; simp only [List.length_cons, List.length_nil]; omega⟩
  have hr2 := List.mem_of_mem_take hr
  simp only [List.mem_cons, List.not_mem_nil, or_false] at hr2
  rcases hr2 with rfl | rfl | rfl <;> exact hm _
theorem flatruns_len : ∀ q : List Int, (∀ r ∈ q, 0 ≤ r ∧ r ≤ 9) → ((q.map fun r => List.replicate r.toNat 32 ++ [9]).flatten).length ≤ 10 * q.length
  | [], _ => by simp
  | r :: q, h => by
    have ih := flatruns_len q fun z hz => h z (.tail _ hz)
    have hr := h r (.head _)
    rw [List.map_cons, List.flatten_cons, List.length_append, List.length_append, List.length_replicate, List.length_cons, List.length_cons, List.length_nil]
    omega
theorem tr_b (a : Int) : 0 ≤ trP a ∧ trP a ≤ 9 := by unfold trP; rw [Int.fmod_eq_emod_of_nonneg _ (by decide)]; omega
theorem way_b (a : Int) : 0 ≤ wayP a ∧ wayP a < 4 := by unfold wayP; rw [Int.fmod_eq_emod_of_nonneg _ (by decide)]; omega
theorem place_b (b : Int) : 0 ≤ placeP b ∧ placeP b < 16 := by unfold placeP; rw [Int.fmod_eq_emod_of_nonneg _ (by decide)]; omega
theorem kind_b (b : Int) : 0 ≤ kindP b ∧ kindP b < 4 := by unfold kindP; rw [Int.fmod_eq_emod_of_nonneg _ (by decide)]; omega
theorem walkP_pre (ns : List Int) (tr kind : Int) : ∀ (k : Nat) (place : Int) (met : List (List Nat)), ∃ r, walkP ns tr kind k place met = met ++ r
  | 0, _, met => ⟨[], by simp [walkP]⟩
  | k + 1, place, met => by
    rw [walkP]
    split
    · exact ⟨_, rfl⟩
    · obtain ⟨r, hr⟩ := walkP_pre ns tr kind k (stepP ns tr kind place) (met ++ [lettersP (chansP place kind)])
      exact ⟨_, by rw [hr, List.append_assoc]⟩
theorem cols_head (a b : Int) : (colsP a b)[0]? = some (lettersP (chansP (placeP b) (kindP b))) := by
  unfold colsP
  rw [walkP, if_neg (by simp)]
  obtain ⟨r, hr⟩ := walkP_pre (runsP a) (trP a) (kindP b) 16 (stepP (runsP a) (trP a) (kindP b) (placeP b)) ([] ++ [lettersP (chansP (placeP b) (kindP b))])
  rw [hr]
  rfl
theorem strs_get {ys : List Value} {cs : List (List Nat)} (h : StrsAre ys (cs.map T)) {i : Nat} {c : List Nat} (e : cs[i]? = some c) : ∃ t, ys[i]? = some (Value.str (T c) t) := by
  have hl := h.length
  rw [List.length_map] at hl
  have hi : i < ys.length := by have := (List.getElem?_eq_some_iff.mp e).1; omega
  refine Classical.byContradiction fun hZq => ?_
  obtain ⟨n, t, e1, e2, _⟩ := item_str h (i := i) (v := ys[i]) (by simp [hi])
  refine hZq ?_
  clear hZq
  rw [List.getElem?_map, e] at e1
  cases e1
  exact ⟨t, by rw [← e2]; simp [hi]⟩
theorem head_len (a : Int) (ha : 0 ≤ a) : (headP a).length ≤ 39 := by
  obtain ⟨h1, h2⟩ := runs_b a ha
  obtain ⟨t1, t2⟩ := tr_b a
  unfold headP leadL
  rw [List.length_append, List.length_replicate]
  have := flatruns_len (runsP a) h1
  omega
theorem escL_len (l : List Nat) : (escL l).length = 2 * l.length := by
  unfold escL
  induction l with
  | nil => rfl
  | cons c r ih => rw [List.map_cons, List.flatten_cons, List.length_append, ih]; simp; omega
theorem word_len (a b : Int) (ha : 0 ≤ a) : (wordP a b).length ≤ 42 := by
  have := head_len a ha
  unfold wordP
  rw [List.length_append, show (lettersP (chansP (placeP b) (kindP b))).length = 3 from rfl]
  omega
theorem piece_len (a b : Int) (ha : 0 ≤ a) : (pieceP a b).length ≤ 100 := by
  have h := word_len a b ha
  have he := escL_len (wordP a b)
  have hg : (gapP (wayP a)).length ≤ 3 := by
    unfold gapP
    repeat' split
    all_goals simp
  unfold pieceP quoteP
  rw [List.length_append]
  repeat' split
  all_goals (try simp only [List.length_cons, List.length_append, List.length_nil])
  all_goals omega
theorem page_succ (na nb : Nat → Int) (i : Nat) : pageP na nb (i + 1) = pageP na nb i ++ pieceP (na i) (nb i) := by
  unfold pageP
  rw [List.range_succ, List.map_append, List.flatten_append]
  simp
theorem page_len (na nb : Nat → Int) : ∀ i : Nat, (∀ j, j < i → 0 ≤ na j) → (pageP na nb i).length ≤ 100 * i
  | 0, _ => by simp [pageP]
  | i + 1, h => by
    have ih := page_len na nb i fun j hj => h j (by omega)
    have := piece_len (na i) (nb i) (h i (by omega))
    rw [page_succ, List.length_append]
    omega
/-- the four cells: heads, walks, step, lexer -/
noncomputable def Cells (o1 o2 o3 o4 : Obj) (v1 v2 v3 v4 : Option Value) : Prop := o1.data = .cell v1 ∧ o2.data = .cell v2 ∧ o3.data = .cell v3 ∧ o4.data = .cell v4
noncomputable abbrev cellsL (L : Addr) (o1 o2 o3 o4 : Obj) : List (Addr × Obj) := [(L + 1 + 1 + 1 + 1, o4), (L + 1 + 1 + 1, o3), (L + 1 + 1, o2), (L + 1, o1), (145, tabObj #[])]
noncomputable abbrev JCn (L l hl wl b0 b1 b2 : Nat) : Prop := (Nq hl wl ∧ Nq hl l ∧ Nq wl l ∧ Nq hl 145 ∧ Nq wl 145 ∧ Nq hl b0 ∧ Nq hl b1 ∧ Nq hl b2 ∧ Nq wl b0 ∧ Nq wl b1 ∧ Nq wl b2 ∧ Nq hl (L + 1) ∧ Nq hl (L + 1 + 1) ∧ Nq hl (L + 1 + 1 + 1) ∧ Nq hl (L + 1 + 1 + 1 + 1) ∧ Nq wl (L + 1) ∧ Nq wl (L + 1 + 1) ∧ Nq wl (L + 1 + 1 + 1) ∧ Nq wl (L + 1 + 1 + 1 + 1))
noncomputable abbrev JCm (L l b0 b1 b2 : Nat) : Prop := (Nq b0 (L + 1 + 1 + 1) ∧ Nq b1 (L + 1 + 1 + 1) ∧ Nq b2 (L + 1 + 1 + 1) ∧ Nq l (L + 1 + 1 + 1) ∧ Nq b0 (L + 1 + 1 + 1 + 1) ∧ Nq b1 (L + 1 + 1 + 1 + 1) ∧ Nq b2 (L + 1 + 1 + 1 + 1) ∧ Nq l (L + 1 + 1 + 1 + 1))
/-- the loop that writes the page, ahead of turn i -/
noncomputable abbrev JCb (L l : Addr) (od : Obj) (na nb : Nat → Int) (i : Nat) (lo : List (Str × Value)) (nw : List (Addr × Obj)) (hl wl : Addr) (tp : Tok) (hs ws : List Value) (nh nn : Nat) (b0 b1 b2 : Addr) (p0 p1 p2 o1 o2 o3 o4 : Obj) : Prop :=
  lo = [((PySem.Str.ofString "drawn"), .ref l), ((PySem.Str.ofString "page"), .str (T (pageP na nb i)) tp)] ∧
    nw = (hl, listOf hs.toArray nh) :: (wl, listOf ws.toArray nn) :: (b0, p0) :: (b1, p1) :: (b2, p2) :: (l, od) :: cellsL L o1 o2 o3 o4 ∧ Cells o1 o2 o3 o4 (some (.ref hl)) (some (.ref wl)) none none ∧
    JCn L l hl wl b0 b1 b2 ∧ JCm L l b0 b1 b2 ∧
    StrsAre hs ((List.range i).map fun j => T (headP (na j))) ∧ ws.length = i ∧ ∀ j, j < i → SlotOk ws j (colsP (na j) (nb j)) [(b0, p0), (b1, p1), (b2, p2)]
noncomputable def JC (L l : Addr) (od : Obj) (na nb : Nat → Int) (i : Nat) (lo : List (Str × Value)) (nw : List (Addr × Obj)) : Prop :=
  ∃ (hl wl : Addr) (tp : Tok) (hs ws : List Value) (nh nn : Nat) (b0 b1 b2 : Addr) (p0 p1 p2 o1 o2 o3 o4 : Obj), JCb L l od na nb i lo nw hl wl tp hs ws nh nn b0 b1 b2 p0 p1 p2 o1 o2 o3 o4
/-- a word as it is told: the head and the first colours -/
noncomputable def wrdP (H : List Nat) (W : List (List Nat)) (st : Nat) : List Nat := H ++ (W.take (st + 1)).flatten
/-- the first two walks' row, round by round -/
noncomputable def dueD (H : Nat → List Nat) (W : Nat → List (List Nat)) : Nat → List (List Nat)
  | 0 => []
  | i + 1 => dueD H W i ++ ((if i < (W 0).length then [wrdP (H 0) (W 0) i] else []) ++ (if i < (W 1).length then [wrdP (H 1) (W 1) i] else []))
noncomputable abbrev JDb (L hl wl : Addr) (A : Nat → Addr) (Y : Nat → List Value) (nY : Nat → Nat) (H : Nat → List Nat) (W : Nat → List (List Nat)) (pg : List Nat) (hs ws : List Value) (nh nn : Nat) (i : Nat) (lo : List (Str × Value)) (nw : List (Addr × Obj)) (dl : Addr) (tp : Tok) (dv : List Value) (nd : Nat) (o1 o2 o3 o4 : Obj) (v3 : Option Value) : Prop :=
  lo = [((PySem.Str.ofString "page"), .str (T pg) tp), ((PySem.Str.ofString "due"), .ref dl)] ∧
    nw = (dl, listOf dv.toArray nd) :: (hl, listOf hs.toArray nh) :: (wl, listOf ws.toArray nn) :: (A 0, listOf (Y 0).toArray (nY 0)) :: (A 1, listOf (Y 1).toArray (nY 1)) :: (A 2, listOf (Y 2).toArray (nY 2)) :: cellsL L o1 o2 o3 o4 ∧
    Cells o1 o2 o3 o4 (some (.ref hl)) (some (.ref wl)) v3 none ∧ Nq dl (L + 1 + 1 + 1) ∧ Nq dl (L + 1 + 1 + 1 + 1) ∧ StrsAre dv ((dueD H W i).map T)
noncomputable def JD (L hl wl : Addr) (A : Nat → Addr) (Y : Nat → List Value) (nY : Nat → Nat) (H : Nat → List Nat) (W : Nat → List (List Nat)) (pg : List Nat) (hs ws : List Value) (nh nn : Nat) (i : Nat) (lo : List (Str × Value)) (nw : List (Addr × Obj)) : Prop :=
  ∃ (dl : Addr) (tp : Tok) (dv : List Value) (nd : Nat) (o1 o2 o3 o4 : Obj) (v3 : Option Value), JDb L hl wl A Y nY H W pg hs ws nh nn i lo nw dl tp dv nd o1 o2 o3 o4 v3
theorem m_lenL {prog : Program} {w : World} {A : Around} {E : Value → Shared → Prop} {s : Shared} {t : Addr} {vs : List Value} {n : Nat} {Q : Value → Shared → Prop} (hg : s.heap.get? t = some (listOf vs.toArray n)) (hz : vs.length ≤ 1000) (h : Q (.int (vs.length : Int) (s.toks + 1)) { s with toks := s.toks + 1 + 1 }) :
    wpAny (model prog w) A (call (.builtin "len") [.ref t]) Q E s := by
  have z : vs.toArray.size = vs.length := List.size_toArray
  refine Calls.call_len_list (items := vs.toArray) ⟨_, hg, rfl, _, rfl⟩ (by rw [z]; omega) ?_
  rw [z]
  exact h
theorem strsAre_app : ∀ {vs ws : List Value} {ns ms : List Str}, StrsAre vs ns → StrsAre ws ms → StrsAre (vs ++ ws) (ns ++ ms)
  | _, _, _, _, .nil, h => h
  | _, _, _, _, .cons _ _ h1, h => .cons _ _ (strsAre_app h1 h)
theorem dueD_len (H : Nat → List Nat) (W : Nat → List (List Nat)) : ∀ i, (dueD H W i).length ≤ 2 * i
  | 0 => by simp [dueD]
  | i + 1 => by
    have := dueD_len H W i
    rw [dueD, List.length_append, List.length_append]
    have h1 : (if i < (W 0).length then [wrdP (H 0) (W 0) i] else []).length ≤ 1 := by split <;> simp
    have h2 : (if i < (W 1).length then [wrdP (H 1) (W 1) i] else []).length ≤ 1 := by split <;> simp
    omega
noncomputable def dueE (H : Nat → List Nat) (W : Nat → List (List Nat)) : List (List Nat) := dueD H W 17 ++ (List.range (W 2).length).map (wrdP (H 2) (W 2)) ++ [[]]
/-- behind due -/
noncomputable abbrev MidEb (g : Heap) (L : Addr) (H : Nat → List Nat) (W : Nat → List (List Nat)) (pg : List Nat) (s s' : Shared) (el : Addr) (tp : Tok) (ev : List Value) (ne : Nat) (o1 o2 o3 o4 : Obj) (v1 v2 v3 : Option Value) : Prop :=
  Cells o1 o2 o3 o4 v1 v2 v3 none ∧ Nq el (L + 1 + 1 + 1 + 1) ∧ Nq el 145 ∧ StrsAre ev ((dueE H W).map T) ∧
    At g L [((PySem.Str.ofString "page"), .str (T pg) tp), ((PySem.Str.ofString "due"), .ref el)] ((el, listOf ev.toArray ne) :: cellsL L o1 o2 o3 o4) s s'
noncomputable def MidE (g : Heap) (L : Addr) (H : Nat → List Nat) (W : Nat → List (List Nat)) (pg : List Nat) (s s' : Shared) : Prop :=
  ∃ (el : Addr) (tp : Tok) (ev : List Value) (ne : Nat) (o1 o2 o3 o4 : Obj) (v1 v2 v3 : Option Value), MidEb g L H W pg s s' el tp ev ne o1 o2 o3 o4 v1 v2 v3
/-- behind lexer -/
noncomputable abbrev MidFb (w : World) (g : Heap) (L : Addr) (H : Nat → List Nat) (W : Nat → List (List Nat)) (pg : List Nat) (s s' : Shared) (a : LxA) (el : Addr) (tp tl : Tok) (ev ys : List Value) (ne n : Nat) (o4 : Obj) : Prop :=
  a.Ok w ∧ o4.data = .cell (some (.ref a.x)) ∧ Nq el a.D ∧ Nq el a.pb ∧ StrsAre ev ((dueE H W).map T) ∧ StrsAre ys (pg.map sg) ∧
    (∃ ps, s'.heap.get? 145 = some (tabObj ps)) ∧ NqL 145 [el, L + 1 + 1 + 1 + 1, a.x, a.dx, a.hx, a.hdx, a.fA, a.cc, a.cA, a.D, a.pb] ∧
    At g L [((PySem.Str.ofString "page"), .str (T pg) tp), ((PySem.Str.ofString "due"), .ref el)] ((el, listOf ev.toArray ne) :: (L + 1 + 1 + 1 + 1, o4) :: (a.led w 1 tl ys n ++ [(a.pb, listOf #[] 0)])) s s'
noncomputable def MidF (w : World) (g : Heap) (L : Addr) (H : Nat → List Nat) (W : Nat → List (List Nat)) (pg : List Nat) (s s' : Shared) : Prop :=
  ∃ (a : LxA) (el : Addr) (tp tl : Tok) (ev ys : List Value) (ne n : Nat) (o4 : Obj), MidFb w g L H W pg s s' a el tp tl ev ys ne n o4
/-- behind drawn -/
noncomputable abbrev MidAb (g : Heap) (L : Addr) (s s' : Shared) (a0 b0 a1 b1 a2 b2 : Int) (t0 t1 t2 t3 t4 t5 : Tok) (l : Addr) (n : Nat) (o1 o2 o3 o4 : Obj) : Prop :=
  (0 ≤ a0 ∧ a0 < 1000000) ∧ (0 ≤ b0 ∧ b0 < 1000000) ∧ (0 ≤ a1 ∧ a1 < 1000000) ∧ (0 ≤ b1 ∧ b1 < 1000000) ∧ (0 ≤ a2 ∧ a2 < 1000000) ∧ (0 ≤ b2 ∧ b2 < 1000000) ∧
    Cells o1 o2 o3 o4 none none none none ∧ At g L [((PySem.Str.ofString "drawn"), .ref l)] ((l, listOf #[.int a0 t0, .int b0 t1, .int a1 t2, .int b1 t3, .int a2 t4, .int b2 t5] n) :: cellsL L o1 o2 o3 o4) s s'
noncomputable def MidA (g : Heap) (L : Addr) (s s' : Shared) : Prop :=
  ∃ (a0 b0 a1 b1 a2 b2 : Int) (t0 t1 t2 t3 t4 t5 : Tok) (l : Addr) (n : Nat) (o1 o2 o3 o4 : Obj), MidAb g L s s' a0 b0 a1 b1 a2 b2 t0 t1 t2 t3 t4 t5 l n o1 o2 o3 o4
/-- behind heads, walks, page -/
noncomputable abbrev MidBb (g : Heap) (L l : Addr) (od : Obj) (s s' : Shared) (hl wl : Addr) (tp : Tok) (o1 o2 o3 o4 : Obj) : Prop :=
  Cells o1 o2 o3 o4 (some (.ref hl)) (some (.ref wl)) none none ∧ (@Ne Nat hl wl) ∧ (@Ne Nat hl l) ∧ (@Ne Nat wl l) ∧ (@LT.lt Nat _ (L + 1 + 1 + 1 + 1) hl) ∧ (@LT.lt Nat _ (L + 1 + 1 + 1 + 1) wl) ∧ (@Ne Nat hl 145) ∧ (@Ne Nat wl 145) ∧
    At g L [((PySem.Str.ofString "drawn"), .ref l), ((PySem.Str.ofString "page"), .str (T []) tp)] ((hl, listOf #[] 0) :: (wl, listOf #[] 0) :: (l, od) :: cellsL L o1 o2 o3 o4) s s'
noncomputable def MidB (g : Heap) (L l : Addr) (od : Obj) (s s' : Shared) : Prop :=
  ∃ (hl wl : Addr) (tp : Tok) (o1 o2 o3 o4 : Obj), MidBb g L l od s s' hl wl tp o1 o2 o3 o4

end partLs2
theorem off_Eq2 : (1 : Nat) = 1 := by
  w_top off
  first | walk1 | rfl
section partEq2
open PySem.SeqAt
theorem T_beq (a b : List Nat) : (T a == T b) = decide (a = b) := by
  by_cases e : a = b
  · subst e; simp
  · have : T a ≠ T b := fun q => e (T_inj q)
    simp [this, e]
theorem strs_at {vs : List Value} {ms : List (List Nat)} (h : StrsAre vs (ms.map T)) {j : Nat} (hj : j < vs.toArray.size) : ∃ c t, ms[j]? = some c ∧ vs.toArray[j] = Value.str (T c) t := by
  have hj' : j < vs.length := by simpa using hj
  refine Classical.byContradiction fun hZq => ?_
  obtain ⟨n, t, e1, e2, _⟩ := item_str h (i := j) (v := vs[j]) (by simp [hj'])
  refine hZq ?_
  clear hZq
  rw [List.getElem?_map] at e1
  cases hm : ms[j]? with
  | none => rw [hm] at e1; cases e1
  | some c =>
    rw [hm] at e1
    injection e1 with e1
    exact ⟨c, t, rfl, by rw [List.getElem_toArray, e2, ← e1]⟩
theorem texts_all {xs ys : List Value} {ms ns : List (List Nat)} (h1 : StrsAre xs (ms.map T)) (h2 : StrsAre ys (ns.map T)) (hsz : xs.length = ys.length) : (List.range xs.toArray.size).all (fun j => decide (ms[j]? = ns[j]?)) = decide (ms = ns) := by
  have l1 := h1.length
  have l2 := h2.length
  rw [List.length_map] at l1 l2
  rw [Bool.eq_iff_iff, List.all_eq_true, decide_eq_true_iff]
  constructor
  · intro h
    refine List.ext_getElem? fun j => ?_
    by_cases hj : j < xs.length
    · exact of_decide_eq_true (h j (List.mem_range.mpr (by simpa using hj)))
    · rw [List.getElem?_eq_none (by omega), List.getElem?_eq_none (by omega)]
  · rintro rfl j _
    exact decide_eq_true rfl
theorem texts_at {A : Around} {s : Shared} {xs ys : List Value} {ms ns : List (List Nat)} (h1 : StrsAre xs (ms.map T)) (h2 : StrsAre ys (ns.map T)) (j : Nat) (q1 : j < xs.toArray.size) (q2 : j < ys.toArray.size) :
    EqAt A s xs.toArray[j] ys.toArray[j] (decide (ms[j]? = ns[j]?)) := by
  refine Classical.byContradiction fun hZq => ?_
  obtain ⟨c, t, e1, e2⟩ := strs_at h1 q1
  refine hZq ?_
  clear hZq
  refine Classical.byContradiction fun hZq => ?_
  obtain ⟨d, u, e3, e4⟩ := strs_at h2 q2
  refine hZq ?_
  clear hZq
  rw [e1, e2, e3, e4, show decide (some c = some d) = (T c == T d) by rw [T_beq]; simp]
  exact EqAt.str_str _ _ _ _
theorem ne_texts {A : Around} {s : Shared} {l b : Addr} {xs ys : List Value} {ms ns : List (List Nat)} (hl : s.heap.IsList l xs.toArray) (hb : s.heap.IsList b ys.toArray) (h1 : StrsAre xs (ms.map T)) (h2 : StrsAre ys (ns.map T)) (hu : A.units < cLine) :
    RcNeAt A s (.ref l) (.ref b) (!decide (ms = ns)) := by
  by_cases hsz : xs.length = ys.length
  · rw [← texts_all h1 h2 hsz]
    exact RcNeAt.lists hl hb (by simpa using hsz) hu (fun j q1 q2 => texts_at h1 h2 j q1 q2)
  · have : ¬ ms = ns := fun e => by
      have l1 := h1.length
      have l2 := h2.length
      rw [List.length_map] at l1 l2
      rw [e] at l1
      omega
    rw [decide_eq_false this]
    exact RcNeAt.lists_lengths hl hb (by simpa using hsz) hu
theorem eq_texts {A : Around} {s : Shared} {l b : Addr} {xs ys : List Value} {ms ns : List (List Nat)} (hl : s.heap.IsList l xs.toArray) (hb : s.heap.IsList b ys.toArray) (h1 : StrsAre xs (ms.map T)) (h2 : StrsAre ys (ns.map T)) (hu : A.units < cLine) :
    RcAt A s (.ref l) (.ref b) (decide (ms = ns)) := by
  by_cases hsz : xs.length = ys.length
  · rw [← texts_all h1 h2 hsz]
    exact RcAt.lists hl hb (by simpa using hsz) hu (fun j q1 q2 => texts_at h1 h2 j q1 q2)
  · have : ¬ ms = ns := fun e => by
      have l1 := h1.length
      have l2 := h2.length
      rw [List.length_map] at l1 l2
      rw [e] at l1
      omega
    rw [decide_eq_false this]
    exact RcAt.lists_lengths hl hb (by simpa using hsz) hu

end partEq2
section walksB
local macro_rules | `(tactic| k_ne) => `(tactic| (refine neN ?_; (try dsimp only); first | exact Nq.l (by with_reducible assumption) | exact Nq.r (by with_reducible assumption) | omega))
local macro_rules | `(tactic| walk_at "call ref") => `(tactic| refine stop_at ?_)
local macro_rules | `(tactic| walk_at "binaryOp Add ref ref") => `(tactic| refine stop_at ?_)
local macro_rules | `(tactic| walk_at "subscriptTail BinOp") => `(tactic| refine stop_at ?_)
local macro_rules | `(tactic| walk_at "subscriptTail List") => `(tactic| refine stop_at ?_)
theorem off_BlA : (1 : Nat) = 1 := by
  w_top off
  first | walk1 | rfl
section partBlA
local macro_rules | `(tactic| walk_at "call ref") => `(tactic| refine stop_at ?_)
local macro_rules | `(tactic| walk_at "binaryOp Add ref ref") => `(tactic| refine stop_at ?_)
local macro_rules | `(tactic| walk_at "subscriptTail BinOp") => `(tactic| refine stop_at ?_)
theorem blkA (w : World) (L fa : Addr) (cd : Value) (g h0 : Heap) (gn : Array GenState) (dr : Drawn) (tk : Nat) (os : OsState) (ax : Addr) (its : List Value) (script : List Int) (o1 o2 o3 o4 : Obj) {pp : Program} {loose : List Str} {mean : ExcName → Option Value} {mg mb : Str → Option Value}
  (X : (K0 w.params).In g) (TT : Top pp loose mean mg mb g) (hL0 : g.IsList ax its.toArray) (hI0 : IntsAre its script) (hsl : script.length ≤ 63) (HC : Cells o1 o2 o3 o4 none none none none) (l145 : (145 : Nat) < L)
  (F0 : Fr g L h0 (over [((PySem.Str.ofString "script"), .ref ax)] fun _ => none)) (N0 : News g L h0 (cellsL L o1 o2 o3 o4)) :
  wpAny (model prog w) (lawA L fa cd) (execs ((lawBS.1.drop 0).take 1) (lawEnv L fa cd)) (Next (MidA g L ⟨h0, gn, dr, tk, os⟩)) noE ⟨h0, gn, dr, tk, os⟩ := by
  have _kf : (PySem.Challenge.rw_pg0230_02, K0) = (PySem.Challenge.rw_pg0230_02, K0) := by k_fill; rfl
  have e1 : (lawBS.1.drop 0).take 1 = [_] := rfl
  have e2 : lawBS.2 = ⟨_, _, _, _, _⟩ := rfl
  unfold lawA lawEnv
  rw [e1, e2]
  clear e1 e2
  have hil := hI0.length
  k_steps
  ((unfold Stop; (with_reducible refine lc_assign (cl := []) ?mzc0 ?mzc1 ?mzc2 ?mzc3 ?mzc4 ?mzc5 ?mzc7 ?mzc8 ?mzc6 ?_); (case mzc0 => exact rfl); (case mzc1 => rfl); (case mzc2 => decide +kernel); (case mzc3 => rfl); (case mzc4 => decide +kernel); (case mzc5 => decide +kernel); (case mzc6 => intro _; rfl); (case mzc7 => exact rfl); (case mzc8 => exact rfl)))
  k_steps
  unfold Stop
  rename News _ _ _ _ => N1
  rename Fr _ _ _ _ => F1
  rename IntsAre _ (List.take 6 script) => hI1
  have hl1 := hI1.length
  have hl2 : (List.take 6 script).length ≤ 6 := by rw [List.length_take]; omega
  refine kmk_add_ints F1 N1 ⟨_, N1.get (.tail _ (.head _)), rfl, _, rfl⟩ ⟨_, N1.get (.head _), rfl, _, rfl⟩ hI1 (ms := [53, 102, 4183, 167, 93170, 187]) ?hj ?_ ?hz
  (case hj => repeat' (first | exact IntsAre.nil | apply IntsAre.cons))
  (case hz => rw [sizeLine_eq]; simp only [List.length_cons, List.length_nil]; omega)
  intro D1 us1 h1 F2 N2 lD hI2
  generalize hns : List.take 6 script ++ [53, 102, 4183, 167, 93170, 187] = ns at *
  have hnl : 6 ≤ ns.length := by rw [← hns]; simp
  have hnl2 : ns.length ≤ 12 := by rw [← hns]; simp; omega
  clear F1 N1
  k_steps
  unfold Stop
  rename Fr _ _ _ _ => F3
  rename News _ _ _ _ => N3
  have hus := hI2.length
  refine kba_turn (value' := PySem.Expr.Name (PySem.Str.ofString "_") ⟨0, 0, 0, 0⟩) (fun _ => rfl) ?_
  refine kmk_slice (s := ⟨_, _, _, _, _⟩) (its := us1.toArray) F3 N3 ⟨_, N3.get (.head _), rfl, _, rfl⟩ .none (.int 6 _) ?_ (by with_unfolding_all rfl) (by intro _; with_unfolding_all rfl) (by rw [sizeLine_eq, List.size_toArray]; omega)
  intro D2 h4 F4 N4 lD2
  rw [show ((6 : Int)) = ((6 : Nat) : Int) from rfl, slicePick_upto'] at N4
  have hI4 : IntsAre (us1.take 6) (ns.take 6) := hI2.take 6
  simp only at N4
  generalize hus6 : us1.take 6 = us at *
  generalize hns6 : ns.take 6 = ms at *
  have hml : ms.length = 6 := by rw [← hns6, List.length_take]; omega
  have hul := hI4.length
  clear F3 N3 hI2 hI1
  dsimp only
  refine LcA.intro rfl F4 N4 ?_ (src_list (its := us.toArray) rfl F4 N4 (.inr ⟨_, .head _, rfl, _, rfl⟩)) ?_
  · simp only [List.size_toArray, sizeLine_eq]; omega
  intro hh
  refine comp_quiet _ (fun i y => ∃ t n, ms[i]? = some n ∧ y = .int (Int.fmod n 1000000) t) _ (.inr ⟨_, .head _, rfl, _, rfl⟩) ?_ ?_
  · intro i v I oI C oC D oD m₂ h5 tk5 hi5 hP hC hx F5 N5 off ne
    refine Classical.byContradiction fun hZq => ?_
    obtain ⟨n, t, hn, rfl, _⟩ := item_int hI4 (i := i) (v := v) (by simpa using hP)
    refine hZq ?_
    clear hZq
    k_steps
    exact QEnd.intro (by assumption) (by assumption) (by (first | focus ((repeat (first | exact True.intro | with_reducible exact InAll.self | with_reducible refine InAll.keep ?_ | with_reducible refine InAll.skip ?_)); done) | ((repeat (refine And.intro (by k_mem) ?_)); exact True.intro))) ⟨_, n, hn, rfl⟩
  intro ys hys hT D6 h6 tk6 F6 N6 off6
  have h6l : ys.length = 6 := by rw [hys, List.size_toArray]; omega
  have hmod : ∀ n : Int, 0 ≤ Int.fmod n 1000000 ∧ Int.fmod n 1000000 < 1000000 := fun n => by rw [Int.fmod_eq_emod_of_nonneg _ (by decide)]; omega
  dsimp only
  refine wpAny_execs_nil ?_
  refine ⟨rfl, ?_⟩
  refine Classical.byContradiction fun hZq => ?_
  obtain ⟨y0, y1, y2, y3, y4, y5, rfl⟩ := six_of h6l
  refine hZq ?_
  clear hZq
  refine Classical.byContradiction fun hZq => ?_
  obtain ⟨t0, n0, _, rfl⟩ := hT 0 _ rfl
  refine hZq ?_
  clear hZq
  refine Classical.byContradiction fun hZq => ?_
  obtain ⟨t1, n1, _, rfl⟩ := hT 1 _ rfl
  refine hZq ?_
  clear hZq
  refine Classical.byContradiction fun hZq => ?_
  obtain ⟨t2, n2, _, rfl⟩ := hT 2 _ rfl
  refine hZq ?_
  clear hZq
  refine Classical.byContradiction fun hZq => ?_
  obtain ⟨t3, n3, _, rfl⟩ := hT 3 _ rfl
  refine hZq ?_
  clear hZq
  refine Classical.byContradiction fun hZq => ?_
  obtain ⟨t4, n4, _, rfl⟩ := hT 4 _ rfl
  refine hZq ?_
  clear hZq
  refine Classical.byContradiction fun hZq => ?_
  obtain ⟨t5, n5, _, rfl⟩ := hT 5 _ rfl
  refine hZq ?_
  clear hZq
  refine ⟨_, _, _, _, _, _, t0, t1, t2, t3, t4, t5, D6, _, o1, o2, o3, o4, hmod _, hmod _, hmod _, hmod _, hmod _, hmod _, HC, At.intro F6 N6 ⟨if_pos rfl, trivial⟩ (by (first | focus ((repeat (first | exact True.intro | with_reducible exact InAll.self | with_reducible refine InAll.keep ?_ | with_reducible refine InAll.skip ?_)); done) | ((repeat (refine And.intro (by k_mem) ?_)); exact True.intro)))⟩

end partBlA
theorem off_BlB : (1 : Nat) = 1 := by
  w_top off
  first | walk1 | rfl
section partBlB
theorem blkB (w : World) (L fa : Addr) (cd : Value) (g h0 : Heap) (m0 : Str → Option Value) (gn : Array GenState) (dr : Drawn) (tk : Nat) (os : OsState) (l : Addr) (vs : List Value) (n : Nat) (o1 o2 o3 o4 : Obj) {pp : Program} {loose : List Str} {mean : ExcName → Option Value} {mg mb : Str → Option Value}
  (X : (K0 w.params).In g) (TT : Top pp loose mean mg mb g) (HC : Cells o1 o2 o3 o4 none none none none) (l145 : (145 : Nat) < L)
  (F0 : Fr g L h0 (over [((PySem.Str.ofString "drawn"), .ref l)] m0)) (N0 : News g L h0 ((l, listOf vs.toArray n) :: cellsL L o1 o2 o3 o4)) :
  wpAny (model prog w) (lawA L fa cd) (execs ((lawBS.1.drop 1).take 1) (lawEnv L fa cd)) (Next (MidB g L l (listOf vs.toArray n) ⟨h0, gn, dr, tk, os⟩)) noE ⟨h0, gn, dr, tk, os⟩ := by
  have _kf : (PySem.Challenge.rw_pg0230_02, K0) = (PySem.Challenge.rw_pg0230_02, K0) := by k_fill; rfl
  have e1 : (lawBS.1.drop 1).take 1 = [_] := rfl
  have e2 : lawBS.2 = ⟨_, _, _, _, _⟩ := rfl
  unfold lawA lawEnv
  rw [e1, e2]
  clear e1 e2
  refine Classical.byContradiction fun hZq => ?_
  obtain ⟨c1, c2, c3, c4⟩ := HC
  refine hZq ?_
  clear hZq
  have n1 := neN (ne_of_data N0 (.head _) (.tail _ (.tail _ (.tail _ (.tail _ (.head _))))) (fun e => by rw [c1] at e; exact nomatch e))
  have n2 := neN (ne_of_data N0 (.head _) (.tail _ (.tail _ (.tail _ (.head _)))) (fun e => by rw [c2] at e; exact nomatch e))
  dsimp only [cellsL] at N0
  k_steps
  rename Fr _ _ _ _ => F1
  rename News _ _ _ _ => N1
  rw [show PySem.Str.ofString "" = T [] by decide +kernel] at F1
  refine ⟨rfl, _, _, _, _, _, _, _, ⟨?q1, ?q2, c3, c4⟩, ?n1, ?n2, ?n3, ?n6, ?n7, ?n4, ?n5, At.intro F1 N1 (by (first | focus ((repeat (first | exact True.intro | (refine AllAt.keep _ rfl ?_ ?_; (focus decide +kernel)) | (refine AllAt.skip _ rfl ?_ ?_; (focus decide +kernel)))); done) | ((repeat (refine And.intro ?_ ?_; (focus (first | walk_at "m_look" | rfl)))); exact True.intro))) ⟨.tail _ (.tail _ (.head _)), .tail _ (.head _), .tail _ (.tail _ (.tail _ (.head _))), .tail _ (.tail _ (.tail _ (.tail _ (.head _)))), .tail _ (.tail _ (.tail _ (.tail _ (.tail _ (.head _))))), .tail _ (.tail _ (.tail _ (.tail _ (.tail _ (.tail _ (.head _)))))), .tail _ (.tail _ (.tail _ (.tail _ (.tail _ (.tail _ (.tail _ (.head _))))))), .tail _ (.tail _ (.tail _ (.tail _ (.tail _ (.tail _ (.tail _ (.tail _ (.head _)))))))), trivial⟩⟩
  (case q1 => assumption)
  (case q2 => assumption)
  (case n6 => omega)
  (case n7 => omega)
  all_goals exact neN (by omega)

end partBlB
theorem off_BlC1 : (1 : Nat) = 1 := by
  w_top off
  first | walk1 | rfl
section partBlC1
local macro_rules | `(tactic| walk_at "call builtin:list.append") => `(tactic| refine stop_at ?_)
/-- number, runs, heads.append -/
theorem turnC1 (w : World) (L fa : Addr) (cd : Value) (g h3 : Heap) (m3 : Str → Option Value) (gn : Array GenState) (dr : Drawn) (tk3 : Nat) (os : OsState) (l : Addr) (vs : List Value) (n : Nat) (i : Nat) (na' : Int) {pp : Program} {loose : List Str} {mean : ExcName → Option Value} {mg mb : Str → Option Value}
  (X : (K0 w.params).In g) (TT : Top pp loose mean mg mb g) (l145 : (145 : Nat) < L) (ta ti tp : Tok) (hva : vs[2 * i]? = some (.int na' ta)) (a1 : 0 ≤ na') (a2 : na' < 1000000) (hi : i < 3)
  (I hl wl b0 b1 b2 : Addr) (oI p0 p1 p2 o1 o2 o3 o4 : Obj) (hs ws : List Value) (nh nn : Nat) (pg : List Nat) (hhl : hs.length ≤ 3)
  (c1 : o1.data = Data.cell (some (.ref hl))) (hq : NqL hl [I, wl, b0, b1, b2, l, L + 1 + 1 + 1 + 1, L + 1 + 1 + 1, L + 1 + 1, L + 1, 145])
  (F3 : Fr g L h3 (over [((PySem.Str.ofString "drawn"), .ref l), ((PySem.Str.ofString "page"), .str (T pg) tp), ((PySem.Str.ofString "k"), .int (0 + (i : Int) * 2) ti)] m3))
  (N3 : News g L h3 ((I, oI) :: (hl, listOf hs.toArray nh) :: (wl, listOf ws.toArray nn) :: (b0, p0) :: (b1, p1) :: (b2, p2) :: (l, listOf vs.toArray n) :: cellsL L o1 o2 o3 o4)) :
  wpAny (model prog w) (lawA L fa cd) (execs (bodyC.take 3) (lawEnv L fa cd)) (Next (fun s' => ∃ (D6 : Addr) (rv : List Value) (th : Tok), IntsAre rv (runsP na') ∧ AllNq D6 [(I, oI), (hl, oI), (wl, oI), (b0, p0), (b1, p1), (b2, p2), (l, oI), (L + 1 + 1 + 1 + 1, o4), (L + 1 + 1 + 1, o3), (L + 1 + 1, o2), (L + 1, o1), (145, oI)] ∧
    At g L [((PySem.Str.ofString "drawn"), .ref l), ((PySem.Str.ofString "page"), .str (T pg) tp), ((PySem.Str.ofString "k"), .int (0 + (i : Int) * 2) ti), ((PySem.Str.ofString "number"), .int na' ta), ((PySem.Str.ofString "runs"), .ref D6)] ((D6, listOf rv.toArray 0) :: (I, oI) :: (hl, listOf (hs ++ [Value.str (T (headP na')) th]).toArray (nh + 1)) :: (wl, listOf ws.toArray nn) :: (b0, p0) :: (b1, p1) :: (b2, p2) :: (l, listOf vs.toArray n) :: cellsL L o1 o2 o3 o4) ⟨h3, gn, dr, tk3, os⟩ s')) noE ⟨h3, gn, dr, tk3, os⟩ := by
  have _kf : (PySem.Challenge.rw_pg0230_02, K0) = (PySem.Challenge.rw_pg0230_02, K0) := by k_fill; rfl
  have e1 : bodyC.take 3 = [_, _, _] := rfl
  have e2 : lawBS.2 = ⟨_, _, _, _, _⟩ := rfl
  unfold lawA lawEnv
  rw [e1, e2]
  clear e1 e2
  dsimp only [cellsL] at N3
  refine Classical.byContradiction fun hZq => ?_
  obtain ⟨u1, u2, u3, u4, u5, u6, u7, u8, u9, u10, u11, _⟩ := hq
  refine hZq ?_
  clear hZq
  k_steps
  rename News _ _ _ _ => N4
  refine kim_list (l := vs) N4 (by k_mem) rfl rfl (by omega) (by omega) (by rw [show (0 + (i : Int) * 2).toNat = 2 * i by omega]; exact hva) ?_
  k_steps
  unfold Stop
  rename Fr _ _ _ _ => F5
  rename News _ _ _ _ => N5
  have hm4 : 0 ≤ Int.fmod na' 4 ∧ Int.fmod na' 4 < 4 := by rw [Int.fmod_eq_emod_of_nonneg _ (by decide)]; omega
  refine kba_turn (value' := PySem.Expr.Name (PySem.Str.ofString "_") ⟨0, 0, 0, 0⟩) (fun _ => rfl) ?_
  refine kmk_slice (s := ⟨_, _, _, _, _⟩) (its := List.toArray [_, _, _]) F5 N5 ⟨_, N5.get (.head _), rfl, _, rfl⟩ .none (.int (Int.fmod na' 4) _) ?_ (by with_unfolding_all rfl) (by intro _; with_unfolding_all rfl) (by rw [sizeLine_eq]; simp)
  intro D6 h6 F6 N6 lD6
  have lq6 := AllNq.lt lD6
  refine Classical.byContradiction fun hZq => ?_
  obtain ⟨s1, s2, s3, s4, s5, s6, s7, s8, s9, s10, s11, s12, s13, _⟩ := lq6
  refine hZq ?_
  clear hZq
  clear lD6
  rw [show (some (Int.fmod na' 4)) = some (((Int.fmod na' 4).toNat : Nat) : Int) by congr 1; omega, slicePick_upto'] at N6
  generalize hrvd : List.take (Int.fmod na' 4).toNat _ = rv at N6
  have hrv : IntsAre rv (runsP na') := by
    rw [← hrvd]
    unfold runsP
    exact IntsAre.take (.cons _ _ (.cons _ _ (.cons _ _ .nil))) _
  have hrl := hrv.length
  have hrl3 : (runsP na').length ≤ 3 := by unfold runsP; rw [List.length_take]; simp only [List.length_cons, List.length_nil]; omega
  clear F5 N5 hrvd
  k_steps
  ((unfold Stop; (with_reducible refine lc_eval (cl := []) ?mzc1 ?mzc2 ?mzc3 ?mzc4 ?mzc5 ?mzc6 ?_); (case mzc1 => rfl); (case mzc2 => decide +kernel); (case mzc3 => rfl); (case mzc4 => decide +kernel); (case mzc5 => decide +kernel); (case mzc6 => intro _; rfl)))
  obtain ⟨rb1, rb2⟩ := runs_b na' a1
  k_steps
  dsimp only
  rename Fr _ _ _ _ => F7
  rename News _ _ _ _ => N7
  refine LcE.intro F7 N7 ?_ (src_list (its := rv.toArray) rfl F7 N7 (.inr ⟨_, .head _, rfl, _, rfl⟩)) ?_
  · simp only [List.size_toArray, sizeLine_eq]; omega
  intro hh
  refine comp_quiet _ (fun i y => ∃ t r, (runsP na')[i]? = some r ∧ y = .str (T (List.replicate r.toNat 32 ++ [9])) t) _ (.inr ⟨_, .head _, rfl, _, rfl⟩) ?_ ?_
  · intro i9 v I9 oI9 C oC D oD m₂ h8 tk8 hi8 hP hC hx F8 N8 off ne
    refine Classical.byContradiction fun hZq => ?_
    obtain ⟨r, t, hn, rfl, hrm⟩ := item_int hrv (i := i9) (v := v) (by simpa using hP)
    refine hZq ?_
    clear hZq
    obtain ⟨r1, r2⟩ := rb1 r hrm
    k_steps
    rw [mul_tab r1 r2]
    exact QEnd.intro (by assumption) (by assumption) (by (first | focus ((repeat (first | exact True.intro | with_reducible exact InAll.self | with_reducible refine InAll.keep ?_ | with_reducible refine InAll.skip ?_)); done) | ((repeat (refine And.intro (by k_mem) ?_)); exact True.intro))) ⟨_, r, hn, rfl⟩
  intro ys hys hT D8 h8 tk8 F8 N8 off8
  k_steps
  obtain ⟨tr1, tr2⟩ := tr_b na'
  have hsp : Txt.mul (PySem.Str.ofString " ") (Int.fmod (Int.fdiv na' 4000) 10) = T (List.replicate (trP na').toNat 32) := mul_sp tr1 tr2
  have hjl := flatruns_len (runsP na') rb1
  refine join_listC (ys := ((runsP na').map fun r => List.replicate r.toNat 32 ++ [9]).map T) (items := ys.toArray) ⟨_, N8.get (.head _), rfl, _, rfl⟩ ?_ (by decide) ?_ ?_
  · refine strs_of (by simp [hys, hrl]) fun i y hy => ?_
    refine Classical.byContradiction fun hZq => ?_
    obtain ⟨t, n, hn, rfl⟩ := hT i y hy
    refine hZq ?_
    clear hZq
    exact ⟨_, t, by simp [hn], rfl⟩
  · rw [sum_len_T]
    simp only [List.length_map]
    omega
  intro t9 k9
  rw [join_T]
  generalize hhp : ((runsP na').map fun r => List.replicate r.toNat 32 ++ [9]).flatten = hp at *
  have hsz9 : (T hp).length + (Txt.mul (PySem.Str.ofString " ") (Int.fmod (Int.fdiv na' 4000) 10)).length ≤ sizeLine := by
    rw [hsp, T_len, T_len, List.length_replicate, sizeLine_eq]; omega
  refine Classical.byContradiction fun hZq => ?_
  obtain ⟨q1, q2, q3, q4, q5, q6, q7, q8, q9, q10, q11, q12, q13, q14, _⟩ := AllNq.off off8
  refine hZq ?_
  clear hZq
  clear off8
  k_steps
  unfold Stop
  have hhd : T hp ++ Txt.mul (PySem.Str.ofString " ") (Int.fmod (Int.fdiv na' 4000) 10) = T (headP na') := by
    rw [hsp, T_append, ← hhp]; rfl
  rw [hhd]
  refine' append_K ?mzF ?mzN ?mzU ?_ ?mzz
  (case mzF => k_asm)
  (case mzN => k_asm)
  (case mzU => k_upd)
  (case mzz => rw [sizeLine_eq]; simp; omega)
  intro h9 F9 N9
  refine wpAny_execs_nil ?_
  rw [List.push_toArray] at N9
  exact ⟨rfl, D6, rv, _, hrv, ⟨s2, s3, s4, s5, s6, s7, s8, s9, s10, s11, s12, s13, trivial⟩, At.intro F9 N9 (by (first | focus ((repeat (first | exact True.intro | (refine AllAt.keep _ rfl ?_ ?_; (focus decide +kernel)) | (refine AllAt.skip _ rfl ?_ ?_; (focus decide +kernel)))); done) | ((repeat (refine And.intro ?_ ?_; (focus (first | walk_at "m_look" | rfl)))); exact True.intro))) (by (first | focus ((repeat (first | exact True.intro | with_reducible exact InAll.self | with_reducible refine InAll.keep ?_ | with_reducible refine InAll.skip ?_)); done) | ((repeat (refine And.intro (by k_mem) ?_)); exact True.intro)))⟩

end partBlC1
theorem off_BlC2 : (1 : Nat) = 1 := by
  w_top off
  first | walk1 | rfl
section partBlC2
local macro_rules | `(tactic| walk_at "call builtin:list.append") => `(tactic| refine stop_at ?_)
local macro_rules | `(tactic| walk_at "subscriptTail Name BinOp ref int") => `(tactic| refine stop_at ?_)
/-- walks.append -/
theorem turnC2 (w : World) (L fa : Addr) (cd : Value) (g h3 : Heap) (m3 : Str → Option Value) (gn : Array GenState) (dr : Drawn) (tk3 : Nat) (os : OsState) (l : Addr) (vs : List Value) (n : Nat) (i : Nat) (na' nb' : Int) {pp : Program} {loose : List Str} {mean : ExcName → Option Value} {mg mb : Str → Option Value}
  (X : (K0 w.params).In g) (TT : Top pp loose mean mg mb g) (l145 : (145 : Nat) < L) (ta tb ti tp : Tok) (hvb : vs[2 * i + 1]? = some (.int nb' tb)) (a1 : 0 ≤ na') (a2 : na' < 1000000) (b1' : 0 ≤ nb') (b2' : nb' < 1000000) (hi : i < 3)
  (D6 I hl wl b0 b1 b2 : Addr) (oI oh p0 p1 p2 o1 o2 o3 o4 : Obj) (rv ws : List Value) (nn : Nat) (pg : List Nat) (hwl : ws.length ≤ 3) (hrv : IntsAre rv (runsP na'))
  (c2 : o2.data = Data.cell (some (.ref wl))) (hq : NqL wl [D6, I, hl, b0, b1, b2, l, L + 1 + 1 + 1 + 1, L + 1 + 1 + 1, L + 1 + 1, L + 1, 145])
  (F3 : Fr g L h3 (over [((PySem.Str.ofString "drawn"), .ref l), ((PySem.Str.ofString "page"), .str (T pg) tp), ((PySem.Str.ofString "k"), .int (0 + (i : Int) * 2) ti), ((PySem.Str.ofString "number"), .int na' ta), ((PySem.Str.ofString "runs"), .ref D6)] m3))
  (N3 : News g L h3 ((D6, listOf rv.toArray 0) :: (I, oI) :: (hl, oh) :: (wl, listOf ws.toArray nn) :: (b0, p0) :: (b1, p1) :: (b2, p2) :: (l, listOf vs.toArray n) :: cellsL L o1 o2 o3 o4)) :
  wpAny (model prog w) (lawA L fa cd) (execs ((bodyC.drop 3).take 1) (lawEnv L fa cd)) (Next (fun s' => ∃ (lw : Addr) (ys : List Value) (n9 : Nat), StrsAre ys ((colsP na' nb').map T) ∧ AllNq lw [(I, oI), (hl, oI), (wl, oI), (b0, p0), (b1, p1), (b2, p2), (l, oI), (L + 1 + 1 + 1 + 1, o4), (L + 1 + 1 + 1, o3), (L + 1 + 1, o2), (L + 1, o1), (145, oI)] ∧
    At g L [((PySem.Str.ofString "drawn"), .ref l), ((PySem.Str.ofString "page"), .str (T pg) tp), ((PySem.Str.ofString "k"), .int (0 + (i : Int) * 2) ti), ((PySem.Str.ofString "number"), .int na' ta)] ((lw, listOf ys.toArray n9) :: (I, oI) :: (hl, oh) :: (wl, listOf (ws ++ [Value.ref lw]).toArray (nn + 1)) :: (b0, p0) :: (b1, p1) :: (b2, p2) :: (l, listOf vs.toArray n) :: cellsL L o1 o2 o3 o4) ⟨h3, gn, dr, tk3, os⟩ s')) noE ⟨h3, gn, dr, tk3, os⟩ := by
  have _kf : (PySem.Challenge.rw_pg0230_02, K0) = (PySem.Challenge.rw_pg0230_02, K0) := by k_fill; rfl
  have e1 : (bodyC.drop 3).take 1 = [_] := rfl
  have e2 : lawBS.2 = ⟨_, _, _, _, _⟩ := rfl
  unfold lawA lawEnv
  rw [e1, e2]
  clear e1 e2
  dsimp only [cellsL] at N3
  refine Classical.byContradiction fun hZq => ?_
  obtain ⟨u1, u2, u3, u4, u5, u6, u7, u8, u9, u10, u11, u12, _⟩ := hq
  refine hZq ?_
  clear hZq
  obtain ⟨rb1, rb2⟩ := runs_b na' a1
  obtain ⟨tr1, tr2⟩ := tr_b na'
  have hrl := hrv.length
  k_steps
  unfold Stop
  rename Fr _ _ _ _ => F5
  rename News _ _ _ _ => N5
  refine kmk_add_ints F5 N5 (vs := rv) (ws := [.int (Int.fmod (Int.fdiv na' 4000) 10) _]) ⟨_, N5.get (by k_mem : (D6, listOf rv.toArray 0) ∈ _), rfl, _, rfl⟩ ⟨_, N5.get (.head _), rfl, _, rfl⟩ hrv (ms := [trP na']) (.cons _ _ .nil) ?_ ?hz
  (case hz => rw [sizeLine_eq]; simp only [List.length_cons, List.length_nil]; omega)
  intro D7 us h6 F6 N6 lD7 hus
  have lq7 := AllNq.lt lD7
  refine Classical.byContradiction fun hZq => ?_
  obtain ⟨s1, s2, s3, s4, s5, s6, s7, s8, s9, s10, s11, s12, s13, s14, _⟩ := lq7
  refine hZq ?_
  clear hZq
  clear lD7 F5 N5
  k_steps
  unfold Stop
  refine kim_list (l := vs) N6 (by k_mem) rfl rfl (by omega) (by omega) (by rw [show (0 + (i : Int) * 2 + 1).toNat = 2 * i + 1 by omega]; exact hvb) ?_
  k_steps
  unfold Stop
  refine kim_list (l := vs) N6 (by k_mem) rfl rfl (by omega) (by omega) (by rw [show (0 + (i : Int) * 2 + 1).toNat = 2 * i + 1 by omega]; exact hvb) ?_
  k_steps
  unfold Stop
  refine wpAny_call ?_
  refine' codeAny_at (A' := lv 12) ?a1 ?a2 ?a3 ?a4 ?a5 ?_
  (case a1 => exact rfl); (case a2 => (exact Nat.le_of_ble_eq_true rfl)); (case a3 => (exact Nat.le_of_ble_eq_true rfl)); (case a4 => exact rfl); (case a5 => exact rfl)
  obtain ⟨pb1, pb2⟩ := place_b nb'
  obtain ⟨kb1, kb2⟩ := kind_b nb'
  rename News _ _ _ _ => N8
  rename Fr _ _ _ _ => F8
  with_reducible refine' walk_spec w _ _ (gd_of0 X TT F8) D7 us (runsP na') (trP na') (Int.fmod nb' 16) (Int.fmod (Int.fdiv nb' 16) 4) _ _ ?e0 hus rb1 rb2 ⟨tr1, tr2⟩ ?e1 ?e2 ?e3 ?e4 ?_
  (case e1 => exact kb1)
  (case e2 => exact kb2)
  (case e3 => exact pb1)
  (case e4 => exact pb2)
  (case e0 => exact ⟨_, N8.get (.head _), rfl, _, rfl⟩)
  intro lw h9 tk9 n9 ys K9 f1 f2 hys
  have lq9 := AllNq.new N8 f1
  refine Classical.byContradiction fun hZq => ?_
  obtain ⟨z1, z2, z3, z4, z5, z6, z7, z8, z9, z10, z11, z12, z13, z14, z15, _⟩ := lq9
  refine hZq ?_
  clear hZq
  obtain ⟨F9, N9⟩ := after_one F8 N8 K9 f2 f1
  clear N8 F8
  k_steps
  unfold Stop
  refine' append_K ?mzF ?mzN ?mzU ?_ ?mzz
  (case mzF => k_asm)
  (case mzN => k_asm)
  (case mzU => k_upd)
  (case mzz => rw [sizeLine_eq]; simp; omega)
  intro h10 F10 N10
  rw [List.push_toArray] at N10
  refine wpAny_execs_nil ?_
  exact ⟨rfl, lw, ys, n9, hys, ⟨z4, z5, z6, z7, z8, z9, z10, z11, z12, z13, z14, z15, trivial⟩, At.intro F10 N10 (by (first | focus ((repeat (first | exact True.intro | (refine AllAt.keep _ rfl ?_ ?_; (focus decide +kernel)) | (refine AllAt.skip _ rfl ?_ ?_; (focus decide +kernel)))); done) | ((repeat (refine And.intro ?_ ?_; (focus (first | walk_at "m_look" | rfl)))); exact True.intro))) (by (first | focus ((repeat (first | exact True.intro | with_reducible exact InAll.self | with_reducible refine InAll.keep ?_ | with_reducible refine InAll.skip ?_)); done) | ((repeat (refine And.intro (by k_mem) ?_)); exact True.intro)))⟩

end partBlC2
theorem off_BlC3 : (1 : Nat) = 1 := by
  w_top off
  first | walk1 | rfl
section partBlC3
local macro_rules | `(tactic| walk_at "subscriptTail Name UnaryOp ref int") => `(tactic| refine stop_at ?_)
local macro_rules | `(tactic| walk_at "subscriptTail Subscript") => `(tactic| refine stop_at ?_)
/-- word, way -/
theorem turnC3 (w : World) (L fa : Addr) (cd : Value) (g h3 : Heap) (m3 : Str → Option Value) (gn : Array GenState) (dr : Drawn) (tk3 : Nat) (os : OsState) (l : Addr) (od : Obj) (i : Nat) (na' nb' : Int) {pp : Program} {loose : List Str} {mean : ExcName → Option Value} {mg mb : Str → Option Value}
  (X : (K0 w.params).In g) (TT : Top pp loose mean mg mb g) (l145 : (145 : Nat) < L) (ta ti tp th : Tok) (a1 : 0 ≤ na') (a2 : na' < 1000000) (b1' : 0 ≤ nb') (b2' : nb' < 1000000) (hi : i < 3)
  (lw I hl wl b0 b1 b2 : Addr) (oI p0 p1 p2 o1 o2 o3 o4 : Obj) (hs ws ys : List Value) (nh nn n9 : Nat) (pg : List Nat) (hwl : ws.length ≤ 3) (hhl : hs.length ≤ 3) (hys : StrsAre ys ((colsP na' nb').map T))
  (c1 : o1.data = Data.cell (some (.ref hl))) (c2 : o2.data = Data.cell (some (.ref wl)))
  (F3 : Fr g L h3 (over [((PySem.Str.ofString "drawn"), .ref l), ((PySem.Str.ofString "page"), .str (T pg) tp), ((PySem.Str.ofString "k"), .int (0 + (i : Int) * 2) ti), ((PySem.Str.ofString "number"), .int na' ta)] m3))
  (N3 : News g L h3 ((lw, listOf ys.toArray n9) :: (I, oI) :: (hl, listOf (hs ++ [Value.str (T (headP na')) th]).toArray nh) :: (wl, listOf (ws ++ [Value.ref lw]).toArray nn) :: (b0, p0) :: (b1, p1) :: (b2, p2) :: (l, od) :: cellsL L o1 o2 o3 o4)) :
  wpAny (model prog w) (lawA L fa cd) (execs ((bodyC.drop 4).take 2) (lawEnv L fa cd)) (Next (fun s' => ∃ tw ty,
    At g L [((PySem.Str.ofString "drawn"), .ref l), ((PySem.Str.ofString "page"), .str (T pg) tp), ((PySem.Str.ofString "word"), .str (T (wordP na' nb')) tw), ((PySem.Str.ofString "way"), .int (wayP na') ty)] ((lw, listOf ys.toArray n9) :: (I, oI) :: (hl, listOf (hs ++ [Value.str (T (headP na')) th]).toArray nh) :: (wl, listOf (ws ++ [Value.ref lw]).toArray nn) :: (b0, p0) :: (b1, p1) :: (b2, p2) :: (l, od) :: cellsL L o1 o2 o3 o4) ⟨h3, gn, dr, tk3, os⟩ s')) noE ⟨h3, gn, dr, tk3, os⟩ := by
  have _kf : (PySem.Challenge.rw_pg0230_02, K0) = (PySem.Challenge.rw_pg0230_02, K0) := by k_fill; rfl
  have e1 : (bodyC.drop 4).take 2 = [_, _] := rfl
  have e2 : lawBS.2 = ⟨_, _, _, _, _⟩ := rfl
  unfold lawA lawEnv
  rw [e1, e2]
  clear e1 e2
  dsimp only [cellsL] at N3
  k_steps
  unfold Stop
  refine kim_back (l := hs ++ [Value.str (T (headP na')) th]) N3 (by k_mem) rfl rfl (by decide) (by simp; omega) (by decide) (x := Value.str (T (headP na')) th) (last_get _ _) ?_
  k_steps
  unfold Stop
  refine kim_back (l := ws ++ [Value.ref lw]) N3 (by k_mem) rfl rfl (by decide) (by simp; omega) (by decide) (x := Value.ref lw) (last_get _ _) ?_
  k_steps
  unfold Stop
  obtain ⟨t0, ht0⟩ := strs_get hys (cols_head na' nb')
  refine kba_turn (value' := PySem.Expr.Name (PySem.Str.ofString "_") ⟨0, 0, 0, 0⟩) (fun _ => rfl) ?_
  refine kim_list (l := ys) N3 (by k_mem) rfl rfl (by decide) (by decide) ht0 ?_
  have hhl9 := head_len na' a1
  have hg2 : (T (headP na')).length + (T (lettersP (chansP (placeP nb') (kindP nb')))).length ≤ sizeLine := by
    rw [T_len, T_len, show (lettersP (chansP (placeP nb') (kindP nb'))).length = 3 from rfl, sizeLine_eq]; omega
  have hg1 : T (headP na') ++ T (lettersP (chansP (placeP nb') (kindP nb'))) = T (wordP na' nb') := T_append _ _
  k_steps
  rename Fr _ _ _ _ => F9
  rename News _ _ _ _ => N9
  rw [hg1] at F9
  exact ⟨rfl, _, _, At.intro F9 N9 (by (first | focus ((repeat (first | exact True.intro | (refine AllAt.keep _ rfl ?_ ?_; (focus decide +kernel)) | (refine AllAt.skip _ rfl ?_ ?_; (focus decide +kernel)))); done) | ((repeat (refine And.intro ?_ ?_; (focus (first | walk_at "m_look" | rfl)))); exact True.intro))) (by (first | focus ((repeat (first | exact True.intro | with_reducible exact InAll.self | with_reducible refine InAll.keep ?_ | with_reducible refine InAll.skip ?_)); done) | ((repeat (refine And.intro (by k_mem) ?_)); exact True.intro)))⟩

end partBlC3
theorem off_BlC4 : (1 : Nat) = 1 := by
  w_top off
  first | walk1 | rfl
section partBlC4
/-- the way's backslashes -/
theorem turnC4 (w : World) (L fa : Addr) (cd : Value) (g h3 : Heap) (m3 : Str → Option Value) (gn : Array GenState) (dr : Drawn) (tk3 : Nat) (os : OsState) (l : Addr) (od : Obj) {pp : Program} {loose : List Str} {mean : ExcName → Option Value} {mg mb : Str → Option Value}
  (X : (K0 w.params).In g) (TT : Top pp loose mean mg mb g) (l145 : (145 : Nat) < L) (tp tw ty : Tok) (wy : Int) (hw1 : 0 ≤ wy) (hw2 : wy < 4)
  (lw I hl wl b0 b1 b2 : Addr) (olw oI ohl owl p0 p1 p2 o1 o2 o3 o4 : Obj) (pg wd : List Nat) (hwd : wd.length ≤ 100)
  (F3 : Fr g L h3 (over [((PySem.Str.ofString "drawn"), .ref l), ((PySem.Str.ofString "page"), .str (T pg) tp), ((PySem.Str.ofString "word"), .str (T wd) tw), ((PySem.Str.ofString "way"), .int wy ty)] m3))
  (N3 : News g L h3 ((lw, olw) :: (I, oI) :: (hl, ohl) :: (wl, owl) :: (b0, p0) :: (b1, p1) :: (b2, p2) :: (l, od) :: cellsL L o1 o2 o3 o4)) :
  wpAny (model prog w) (lawA L fa cd) (execs ((bodyC.drop 6).take 1) (lawEnv L fa cd)) (Next (fun s' => ∃ tw',
    At g L [((PySem.Str.ofString "drawn"), .ref l), ((PySem.Str.ofString "page"), .str (T pg) tp), ((PySem.Str.ofString "word"), .str (T (if wy > 0 then escL wd else wd)) tw'), ((PySem.Str.ofString "way"), .int wy ty)] ((lw, olw) :: (I, oI) :: (hl, ohl) :: (wl, owl) :: (b0, p0) :: (b1, p1) :: (b2, p2) :: (l, od) :: cellsL L o1 o2 o3 o4) ⟨h3, gn, dr, tk3, os⟩ s')) noE ⟨h3, gn, dr, tk3, os⟩ := by
  have _kf : (PySem.Challenge.rw_pg0230_02, K0) = (PySem.Challenge.rw_pg0230_02, K0) := by k_fill; rfl
  have e1 : (bodyC.drop 6).take 1 = [_] := rfl
  have e2 : lawBS.2 = ⟨_, _, _, _, _⟩ := rfl
  unfold lawA lawEnv
  rw [e1, e2]
  clear e1 e2
  dsimp only [cellsL] at N3
  by_cases hw : wy > 0
  · rw [if_pos hw]
    k_steps
    ((unfold Stop; (with_reducible refine lc_eval (cl := []) ?mzc1 ?mzc2 ?mzc3 ?mzc4 ?mzc5 ?mzc6 ?_); (case mzc1 => rfl); (case mzc2 => decide +kernel); (case mzc3 => rfl); (case mzc4 => decide +kernel); (case mzc5 => decide +kernel); (case mzc6 => intro _; rfl)))
    k_steps
    dsimp only
    refine LcE.intro F3 N3 ?_ (src_str (x := T wd) rfl) ?_
    · rw [sizeLine_eq, T_cps, List.size_toArray]; omega
    intro hh
    refine comp_quiet _ (fun i y => ∃ t c, wd[i]? = some c ∧ y = .str (T [92, c]) t) _ trivial ?_ ?_
    · intro i v I9 oI9 C oC D oD m₂ h8 tk8 hi8 hP hC hx F8 N8 off ne
      refine Classical.byContradiction fun hZq => ?_
      obtain ⟨c, tc, hc, rfl⟩ := hP
      refine hZq ?_
      clear hZq
      have hc' : wd[i]? = some c := by simpa [T] using hc
      have hg2 : (PySem.Str.ofString "\\").length + (⟨#[c]⟩ : Str).length ≤ sizeLine := by
        rw [show PySem.Str.ofString "\\" = T [92] by decide +kernel]; show (T [92]).length + (T [c]).length ≤ _; rw [T_len, T_len, sizeLine_eq]; simp
      have hg1 : PySem.Str.ofString "\\" ++ (⟨#[c]⟩ : Str) = T [92, c] := by
        rw [show PySem.Str.ofString "\\" = T [92] by decide +kernel]; exact T_append [92] [c]
      k_steps
      rw [hg1]
      exact QEnd.intro (by assumption) (by assumption) (by (first | focus ((repeat (first | exact True.intro | with_reducible exact InAll.self | with_reducible refine InAll.keep ?_ | with_reducible refine InAll.skip ?_)); done) | ((repeat (refine And.intro (by k_mem) ?_)); exact True.intro))) ⟨_, c, hc', rfl⟩
    intro ys hys hT D8 h8 tk8 F8 N8 off8
    k_steps
    have hel : (escL wd).length = 2 * wd.length := by
      unfold escL
      clear hT hys N8 F8 N3 F3 off8 hwd
      induction wd with
      | nil => rfl
      | cons c r ih => rw [List.map_cons, List.flatten_cons, List.length_append, ih]; simp; omega
    refine join_listC (ys := (wd.map fun c => [92, c]).map T) (items := ys.toArray) ⟨_, N8.get (.head _), rfl, _, rfl⟩ ?_ (by decide) ?_ ?_
    · refine strs_of (by simp [hys, T]) fun i y hy => ?_
      refine Classical.byContradiction fun hZq => ?_
      obtain ⟨t, n, hn, rfl⟩ := hT i y hy
      refine hZq ?_
      clear hZq
      exact ⟨_, t, by simp [hn], rfl⟩
    · rw [sum_len_T]
      have : ((wd.map fun c => [92, c]).flatten).length = 2 * wd.length := hel
      rw [this]
      simp only [List.length_map]
      omega
    intro t9 k9
    rw [join_T]
    k_steps
    exact ⟨rfl, _, At.intro (by assumption) (by assumption) (by (first | focus ((repeat (first | exact True.intro | (refine AllAt.keep _ rfl ?_ ?_; (focus decide +kernel)) | (refine AllAt.skip _ rfl ?_ ?_; (focus decide +kernel)))); done) | ((repeat (refine And.intro ?_ ?_; (focus (first | walk_at "m_look" | rfl)))); exact True.intro))) (by (first | focus ((repeat (first | exact True.intro | with_reducible exact InAll.self | with_reducible refine InAll.keep ?_ | with_reducible refine InAll.skip ?_)); done) | ((repeat (refine And.intro (by k_mem) ?_)); exact True.intro)))⟩
  · rw [if_neg hw]
    k_steps
    exact ⟨rfl, _, At.intro (by assumption) (by assumption) (by (first | focus ((repeat (first | exact True.intro | (refine AllAt.keep _ rfl ?_ ?_; (focus decide +kernel)) | (refine AllAt.skip _ rfl ?_ ?_; (focus decide +kernel)))); done) | ((repeat (refine And.intro ?_ ?_; (focus (first | walk_at "m_look" | rfl)))); exact True.intro))) (by (first | focus ((repeat (first | exact True.intro | with_reducible exact InAll.self | with_reducible refine InAll.keep ?_ | with_reducible refine InAll.skip ?_)); done) | ((repeat (refine And.intro (by k_mem) ?_)); exact True.intro)))⟩

end partBlC4
theorem off_BlC5 : (1 : Nat) = 1 := by
  w_top off
  first | walk1 | rfl
section partBlC5
theorem gap_len (wy : Int) : (gapP wy).length ≤ 3 := by
  unfold gapP
  repeat' split
  all_goals simp
theorem quoted_len (wy : Int) (wd : List Nat) : (if wy < 2 then 34 :: (wd ++ [34]) else wd).length ≤ wd.length + 2 := by
  split
  · simp
  · omega
/-- the way's quotes, the page -/
theorem turnC5 (w : World) (L fa : Addr) (cd : Value) (g h3 : Heap) (m3 : Str → Option Value) (gn : Array GenState) (dr : Drawn) (tk3 : Nat) (os : OsState) (l : Addr) (od : Obj) {pp : Program} {loose : List Str} {mean : ExcName → Option Value} {mg mb : Str → Option Value}
  (X : (K0 w.params).In g) (TT : Top pp loose mean mg mb g) (l145 : (145 : Nat) < L) (tp tw ty : Tok) (wy : Int) (hw1 : 0 ≤ wy) (hw2 : wy < 4)
  (lw I hl wl b0 b1 b2 : Addr) (olw oI ohl owl p0 p1 p2 o1 o2 o3 o4 : Obj) (pg wd : List Nat) (hwd : wd.length ≤ 300) (hpg : pg.length ≤ 2000)
  (F3 : Fr g L h3 (over [((PySem.Str.ofString "drawn"), .ref l), ((PySem.Str.ofString "page"), .str (T pg) tp), ((PySem.Str.ofString "word"), .str (T wd) tw), ((PySem.Str.ofString "way"), .int wy ty)] m3))
  (N3 : News g L h3 ((lw, olw) :: (I, oI) :: (hl, ohl) :: (wl, owl) :: (b0, p0) :: (b1, p1) :: (b2, p2) :: (l, od) :: cellsL L o1 o2 o3 o4)) :
  wpAny (model prog w) (lawA L fa cd) (execs (bodyC.drop 7) (lawEnv L fa cd)) (Next (fun s' => ∃ tp',
    At g L [((PySem.Str.ofString "drawn"), .ref l), ((PySem.Str.ofString "page"), .str (T (pg ++ ((if wy < 2 then 34 :: (wd ++ [34]) else wd) ++ gapP wy))) tp')] ((lw, olw) :: (I, oI) :: (hl, ohl) :: (wl, owl) :: (b0, p0) :: (b1, p1) :: (b2, p2) :: (l, od) :: cellsL L o1 o2 o3 o4) ⟨h3, gn, dr, tk3, os⟩ s')) noE ⟨h3, gn, dr, tk3, os⟩ := by
  have _kf : (PySem.Challenge.rw_pg0230_02, K0) = (PySem.Challenge.rw_pg0230_02, K0) := by k_fill; rfl
  have e1 : bodyC.drop 7 = [_, _] := rfl
  have e2 : lawBS.2 = ⟨_, _, _, _, _⟩ := rfl
  unfold lawA lawEnv
  rw [e1, e2]
  clear e1 e2
  dsimp only [cellsL] at N3
  have hq : PySem.Str.ofString "\"" = T [34] := by decide +kernel
  have hg0 : PySem.Str.ofString "" = T [] := by decide +kernel
  have hg1 : PySem.Str.ofString "\n" = T [10] := by decide +kernel
  have hg2 : PySem.Str.ofString "\n\t\n" = T [10, 9, 10] := by decide +kernel
  have hg3 : PySem.Str.ofString " " = T [32] := by decide +kernel
  have sA : (PySem.Str.ofString "\"").length + (T wd).length ≤ sizeLine := by rw [hq, T_len, T_len, sizeLine_eq]; simp; omega
  have sB : (PySem.Str.ofString "\"" ++ T wd).length + (PySem.Str.ofString "\"").length ≤ sizeLine := by rw [hq, T_append, T_len, T_len, sizeLine_eq]; simp; omega
  (with_reducible refine cutN 1 (fun s' => ∃ tw', At g L [((PySem.Str.ofString "drawn"), .ref l), ((PySem.Str.ofString "page"), .str (T pg) tp), ((PySem.Str.ofString "word"), .str (T (if wy < 2 then 34 :: (wd ++ [34]) else wd)) tw'), ((PySem.Str.ofString "way"), .int wy ty)] ((lw, olw) :: (I, oI) :: (hl, ohl) :: (wl, owl) :: (b0, p0) :: (b1, p1) :: (b2, p2) :: (l, od) :: cellsL L o1 o2 o3 o4) ⟨h3, gn, dr, tk3, os⟩ s') ?_ ?_)
  · show wpAny _ _ (execs [_] _) _ _ _
    by_cases hlt : wy < 2
    · rw [if_pos hlt]
      k_steps
      all_goals first | omega | skip
      rename Fr _ _ _ _ => F5
      rename News _ _ _ _ => N5
      rw [hq, T_append, T_append] at F5
      exact ⟨rfl, _, At.intro F5 N5 (by (first | focus ((repeat (first | exact True.intro | (refine AllAt.keep _ rfl ?_ ?_; (focus decide +kernel)) | (refine AllAt.skip _ rfl ?_ ?_; (focus decide +kernel)))); done) | ((repeat (refine And.intro ?_ ?_; (focus (first | walk_at "m_look" | rfl)))); exact True.intro))) (by (first | focus ((repeat (first | exact True.intro | with_reducible exact InAll.self | with_reducible refine InAll.keep ?_ | with_reducible refine InAll.skip ?_)); done) | ((repeat (refine And.intro (by k_mem) ?_)); exact True.intro)))⟩
    · rw [if_neg hlt]
      k_steps
      all_goals first | omega | skip
      rename Fr _ _ _ _ => F5
      rename News _ _ _ _ => N5
      exact ⟨rfl, _, At.intro F5 N5 (by (first | focus ((repeat (first | exact True.intro | (refine AllAt.keep _ rfl ?_ ?_; (focus decide +kernel)) | (refine AllAt.skip _ rfl ?_ ?_; (focus decide +kernel)))); done) | ((repeat (refine And.intro ?_ ?_; (focus (first | walk_at "m_look" | rfl)))); exact True.intro))) (by (first | focus ((repeat (first | exact True.intro | with_reducible exact InAll.self | with_reducible refine InAll.keep ?_ | with_reducible refine InAll.skip ?_)); done) | ((repeat (refine And.intro (by k_mem) ?_)); exact True.intro)))⟩
  rintro s4 hPz1
  refine Classical.byContradiction fun hZq => ?_
  obtain ⟨tw', h4, tk4, m4, rfl, F4, N4⟩ := hPz1
  refine hZq ?_
  clear hZq
  show wpAny _ _ (execs [_] _) _ _ _
  have hwx := quoted_len wy wd
  generalize (if wy < 2 then 34 :: (wd ++ [34]) else wd) = wx at *
  have sC : (T pg).length + (T wx).length ≤ sizeLine := by rw [T_len, T_len, sizeLine_eq]; omega
  have hgl := gap_len wy
  have hgv : ∀ t1 t2 t3 t4 : Tok, ∃ tx, [Value.str (PySem.Str.ofString "") t1, .str (PySem.Str.ofString "\n") t2, .str (PySem.Str.ofString "\n\t\n") t3, .str (PySem.Str.ofString " ") t4][wy.toNat]? = some (.str (T (gapP wy)) tx) := by
    intro t1 t2 t3 t4
    rw [hg0, hg1, hg2, hg3]
    have hc : wy = 0 ∨ wy = 1 ∨ wy = 2 ∨ wy = 3 := by omega
    rcases hc with rfl | rfl | rfl | rfl <;> exact ⟨_, rfl⟩
  k_steps
  unfold Stop
  rename News _ _ _ _ => N6
  refine kba_turn (value' := PySem.Expr.Name (PySem.Str.ofString "_") ⟨0, 0, 0, 0⟩) (fun _ => rfl) ?_
  refine kim_list (l := [_, _, _, _]) N6 (.head _) rfl rfl (by omega) (by omega) (hgv _ _ _ _).choose_spec ?_
  have sD : (T pg ++ T wx).length + (T (gapP wy)).length ≤ sizeLine := by rw [T_append, T_len, T_len, List.length_append, sizeLine_eq]; omega
  k_steps
  rename Fr _ _ _ _ => F7
  rename News _ _ _ _ => N7
  rw [T_append, T_append, List.append_assoc] at F7
  exact ⟨rfl, _, At.intro F7 N7 (by (first | focus ((repeat (first | exact True.intro | (refine AllAt.keep _ rfl ?_ ?_; (focus decide +kernel)) | (refine AllAt.skip _ rfl ?_ ?_; (focus decide +kernel)))); done) | ((repeat (refine And.intro ?_ ?_; (focus (first | walk_at "m_look" | rfl)))); exact True.intro))) (by (first | focus ((repeat (first | exact True.intro | with_reducible exact InAll.self | with_reducible refine InAll.keep ?_ | with_reducible refine InAll.skip ?_)); done) | ((repeat (refine And.intro (by k_mem) ?_)); exact True.intro)))⟩

end partBlC5
theorem off_BlC : (1 : Nat) = 1 := by
  w_top off
  first | walk1 | rfl
section partBlC
local macro_rules | `(tactic| walk_at "call builtin:list.append") => `(tactic| refine stop_at ?_)
theorem blkC (w : World) (L fa : Addr) (cd : Value) (g h0 : Heap) (m0 : Str → Option Value) (gn : Array GenState) (dr : Drawn) (tk : Nat) (os : OsState) (l : Addr) (vs : List Value) (n : Nat) (na nb : Nat → Int) (lo0 : List (Str × Value)) (nw0 : List (Addr × Obj)) {pp : Program} {loose : List Str} {mean : ExcName → Option Value} {mg mb : Str → Option Value}
  (X : (K0 w.params).In g) (TT : Top pp loose mean mg mb g) (l145 : (145 : Nat) < L) (hvl : vs.length = 6) (hva : ∀ i, i < 3 → ∃ t, vs[2 * i]? = some (.int (na i) t)) (hvb : ∀ i, i < 3 → ∃ t, vs[2 * i + 1]? = some (.int (nb i) t))
  (hna : ∀ i, i < 3 → 0 ≤ na i ∧ na i < 1000000) (hnb : ∀ i, i < 3 → 0 ≤ nb i ∧ nb i < 1000000) (hJ0 : JC L l (listOf vs.toArray n) na nb 0 lo0 nw0)
  (F0 : Fr g L h0 (over lo0 m0)) (N0 : News g L h0 nw0) :
  wpAny (model prog w) (lawA L fa cd) (execs ((lawBS.1.drop 2).take 1) (lawEnv L fa cd)) (Next (fun s' => ∃ lo nw, JC L l (listOf vs.toArray n) na nb 3 lo nw ∧ At g L lo nw ⟨h0, gn, dr, tk, os⟩ s')) noE ⟨h0, gn, dr, tk, os⟩ := by
  have _kf : (PySem.Challenge.rw_pg0230_02, K0) = (PySem.Challenge.rw_pg0230_02, K0) := by k_fill; rfl
  have e1 : (lawBS.1.drop 2).take 1 = [.For _ _ bodyC [] _] := rfl
  have e2 : lawBS.2 = ⟨_, _, _, _, _⟩ := rfl
  unfold lawA lawEnv
  rw [e1, e2]
  clear e1 e2
  have hJ0' := hJ0
  refine Classical.byContradiction fun hZq => ?_
  obtain ⟨hl0, wl0, tp0, hs0, ws0, nh0, nn0, b00, b10, b20, p00, p10, p20, o10, o20, o30, o40, rfl, rfl, HC, NE, NG, hst, hwl, hsl⟩ := hJ0'
  refine hZq ?_
  clear hZq
  clear HC NE NG hst hwl hsl
  dsimp only [cellsL] at N0
  refine wpAny_execs_cons ?_
  with_reducible refine for_stmt ?_ ?mzhs
  (case mzhs => intro _; rfl)
  k_steps
  rename IsRange _ _ _ _ _ _ _ _ => hr
  rename Fr _ _ _ _ => F1
  rename News _ _ _ _ => N1
  refine it_rangeC (n := 3) (JC L l (listOf vs.toArray n) na nb) rfl (L := L) rfl hr (by decide) rfl _ _ F1 N1 (by (first | focus ((repeat (first | exact True.intro | (refine AllAt.keep _ rfl ?_ ?_; (focus decide +kernel)) | (refine AllAt.skip _ rfl ?_ ?_; (focus decide +kernel)))); done) | ((repeat (refine And.intro ?_ ?_; (focus (first | walk_at "m_look" | rfl)))); exact True.intro))) (by (first | focus ((repeat (first | exact True.intro | with_reducible exact InAll.self | with_reducible refine InAll.keep ?_ | with_reducible refine InAll.skip ?_)); done) | ((repeat (refine And.intro (by k_mem) ?_)); exact True.intro))) hJ0 ?_ ?_
  · clear F1 N1 hJ0
    rintro i ti I h3 tk3 m3 lo nw oI hi hPz1 F3 N3 hne hcl
    refine Classical.byContradiction fun hZq => ?_
    obtain ⟨hl, wl, tp, hs, ws, nh, nn, b0, b1, b2, p0, p1, p2, o1, o2, o3, o4, rfl, rfl, ⟨c1, c2, c3, c4⟩, ⟨d1, d2, d3, d4, d5, d6, d7, d8, d9, d10, d11, d12, d13, d14, d15, d16, d17, d18, d19⟩, ⟨g1, g2, g3, g4, g5, g6, g7, g8⟩, hst, hwl, hsl⟩ := hPz1
    refine hZq ?_
    clear hZq
    refine Classical.byContradiction fun hZq => ?_
    obtain ⟨e1, e2, e3, e4, e5, e6, e7, e8, e9, e10, e11, _⟩ := AllNq.of hne
    refine hZq ?_
    clear hZq
    dsimp only [cellsL] at N3
    obtain ⟨ta, hva⟩ := hva i hi
    obtain ⟨tb, hvb⟩ := hvb i hi
    obtain ⟨a1, a2⟩ := hna i hi
    obtain ⟨b1', b2'⟩ := hnb i hi
    have hsl9 := hst.length
    rw [List.length_map, List.length_range] at hsl9
    have hpl := page_len na nb i fun j hj => (hna j (by omega)).1
    have hwl9 := word_len (na i) (nb i) a1
    have hel9 := escL_len (wordP (na i) (nb i))
    obtain ⟨w1, w2⟩ := way_b (na i)
    refine assign_Name ?_
    refine m_st F3 N3 rfl rfl (by walk_at "m_put") fun h4 F4 N4 => ?_
    clear F3 N3
    refine cutN 3 _ (turnC1 w L fa cd g h4 m3 gn dr _ os l vs n i (na i) X TT l145 ta ti tp hva a1 a2 hi I hl wl b0 b1 b2 oI p0 p1 p2 o1 o2 o3 o4 hs ws nh nn (pageP na nb i) (by omega) c1 ⟨e1, d1, d6, d7, d8, d2, d15, d14, d13, d12, d4, trivial⟩ F4 N4) ?_
    rintro s5 hPz1
    refine Classical.byContradiction fun hZq => ?_
    obtain ⟨D6, rv, th, hrv, q6, h5, tk5, m5, rfl, F5, N5⟩ := hPz1
    refine hZq ?_
    clear hZq
    refine Classical.byContradiction fun hZq => ?_
    obtain ⟨r1, r2, r3, r4, r5, r6, r7, r8, r9, r10, r11, r12, _⟩ := q6
    refine hZq ?_
    clear hZq
    refine cutN 1 _ (turnC2 w L fa cd g h5 m5 gn dr tk5 os l vs n i (na i) (nb i) X TT l145 ta tb ti tp hvb a1 a2 b1' b2' hi D6 I hl wl b0 b1 b2 oI _ p0 p1 p2 o1 o2 o3 o4 rv ws nn (pageP na nb i) (by omega) hrv c2 ⟨r3, e2, d1.r, d9, d10, d11, d3, d19, d18, d17, d16, d5, trivial⟩ F5 N5) ?_
    rintro s6 hPz1
    refine Classical.byContradiction fun hZq => ?_
    obtain ⟨lw, ys, n9, hys, q9, h6, tk6, m6, rfl, F6, N6⟩ := hPz1
    refine hZq ?_
    clear hZq
    refine Classical.byContradiction fun hZq => ?_
    obtain ⟨z1, z2, z3, z4, z5, z6, z7, z8, z9, z10, z11, z12, _⟩ := q9
    refine hZq ?_
    clear hZq
    refine cutN 2 _ (turnC3 w L fa cd g h6 m6 gn dr tk6 os l _ i (na i) (nb i) X TT l145 ta ti tp th a1 a2 b1' b2' hi lw I hl wl b0 b1 b2 oI p0 p1 p2 o1 o2 o3 o4 hs ws ys _ _ n9 (pageP na nb i) (by omega) (by omega) hys c1 c2 F6 N6) ?_
    rintro s7 hPz1
    refine Classical.byContradiction fun hZq => ?_
    obtain ⟨tw, ty, h7, tk7, m7, rfl, F7, N7⟩ := hPz1
    refine hZq ?_
    clear hZq
    refine cutN 1 _ (turnC4 w L fa cd g h7 m7 gn dr tk7 os l _ X TT l145 tp tw ty (wayP (na i)) w1 w2 lw I hl wl b0 b1 b2 _ oI _ _ p0 p1 p2 o1 o2 o3 o4 (pageP na nb i) (wordP (na i) (nb i)) (by omega) F7 N7) ?_
    rintro s8 hPz1
    refine Classical.byContradiction fun hZq => ?_
    obtain ⟨tw', h8, tk8, m8, rfl, F8, N8⟩ := hPz1
    refine hZq ?_
    clear hZq
    refine wpAny_mono (turnC5 w L fa cd g h8 m8 gn dr tk8 os l _ X TT l145 tp tw' ty (wayP (na i)) w1 w2 lw I hl wl b0 b1 b2 _ oI _ _ p0 p1 p2 o1 o2 o3 o4 (pageP na nb i) _ (by split <;> omega) (by omega) F8 N8) ?_ fun _ _ x => x
    rintro fl s9 hPz1
    refine Classical.byContradiction fun hZq => ?_
    obtain ⟨rfl, tp', h9, tk9, m9, rfl, F9, N9⟩ := hPz1
    refine hZq ?_
    clear hZq
    have F10 : Fr g L h9 (over [((PySem.Str.ofString "drawn"), .ref l), ((PySem.Str.ofString "page"), .str (T (pageP na nb (i + 1))) tp')] m9) := by rw [page_succ]; exact F9
    have hst2 : StrsAre (hs ++ [Value.str (T (headP (na i))) th]) ((List.range (i + 1)).map fun j => T (headP (na j))) := by
      rw [List.range_succ, List.map_append]
      exact strsAre_snoc hst
    have hws : ∀ j, j < i → (ws ++ [Value.ref lw])[j]? = ws[j]? := fun j hj => List.getElem?_append_left (by omega)
    have hwi : (ws ++ [Value.ref lw])[i]? = some (Value.ref lw) := by rw [List.getElem?_append_right (by omega), hwl]; simp
    have hwl2 : (ws ++ [Value.ref lw]).length = i + 1 := by rw [List.length_append, hwl]; rfl
    have hc : i = 0 ∨ i = 1 ∨ i = 2 := by omega
    clear F9
    rcases hc with rfl | rfl | rfl
    · refine turned_next [((PySem.Str.ofString "drawn"), .ref l), ((PySem.Str.ofString "page"), .str (T (pageP na nb (0 + 1))) tp')] ((hl, listOf (hs ++ [Value.str (T (headP (na 0))) th]).toArray (nh + 1)) :: (wl, listOf (ws ++ [Value.ref lw]).toArray (nn + 1)) :: (lw, listOf ys.toArray n9) :: (b1, p1) :: (b2, p2) :: (l, listOf vs.toArray n) :: cellsL L o1 o2 o3 o4) (.inl rfl) F10 N9 (by (first | focus ((repeat (first | exact True.intro | (refine AllAt.keep _ rfl ?_ ?_; (focus decide +kernel)) | (refine AllAt.skip _ rfl ?_ ?_; (focus decide +kernel)))); done) | ((repeat (refine And.intro ?_ ?_; (focus (first | walk_at "m_look" | rfl)))); exact True.intro))) (by (first | focus ((repeat (first | exact True.intro | with_reducible exact InAll.self | with_reducible refine InAll.keep ?_ | with_reducible refine InAll.skip ?_)); done) | ((repeat (refine And.intro (by k_mem) ?_)); exact True.intro))) ⟨e1, e2, z1.r, e4, e5, e6, e7, e8, e9, e10, e11, trivial⟩
        ⟨hl, wl, tp', _, _, _, _, _, _, _, _, _, _, o1, o2, o3, o4, rfl, rfl, ⟨c1, c2, c3, c4⟩, ⟨d1, d2, d3, d4, d5, z2, d7, d8, z3, d10, d11, d12, d13, d14, d15, d16, d17, d18, d19⟩, ⟨z9.r, g2, g3, g4, z8.r, g6, g7, g8⟩, hst2, hwl2, fun j hj => ?_⟩
      have : j = 0 := by omega
      subst this
      exact ⟨lw, ys, n9, hwi, rfl, hys⟩
    · refine turned_next [((PySem.Str.ofString "drawn"), .ref l), ((PySem.Str.ofString "page"), .str (T (pageP na nb (1 + 1))) tp')] ((hl, listOf (hs ++ [Value.str (T (headP (na 1))) th]).toArray (nh + 1)) :: (wl, listOf (ws ++ [Value.ref lw]).toArray (nn + 1)) :: (b0, p0) :: (lw, listOf ys.toArray n9) :: (b2, p2) :: (l, listOf vs.toArray n) :: cellsL L o1 o2 o3 o4) (.inl rfl) F10 N9 (by (first | focus ((repeat (first | exact True.intro | (refine AllAt.keep _ rfl ?_ ?_; (focus decide +kernel)) | (refine AllAt.skip _ rfl ?_ ?_; (focus decide +kernel)))); done) | ((repeat (refine And.intro ?_ ?_; (focus (first | walk_at "m_look" | rfl)))); exact True.intro))) (by (first | focus ((repeat (first | exact True.intro | with_reducible exact InAll.self | with_reducible refine InAll.keep ?_ | with_reducible refine InAll.skip ?_)); done) | ((repeat (refine And.intro (by k_mem) ?_)); exact True.intro))) ⟨e1, e2, e3, z1.r, e5, e6, e7, e8, e9, e10, e11, trivial⟩
        ⟨hl, wl, tp', _, _, _, _, _, _, _, _, _, _, o1, o2, o3, o4, rfl, rfl, ⟨c1, c2, c3, c4⟩, ⟨d1, d2, d3, d4, d5, d6, z2, d8, d9, z3, d11, d12, d13, d14, d15, d16, d17, d18, d19⟩, ⟨g1, z9.r, g3, g4, g5, z8.r, g7, g8⟩, hst2, hwl2, fun j hj => ?_⟩
      have : j = 0 ∨ j = 1 := by omega
      rcases this with rfl | rfl
      · refine Classical.byContradiction fun hZq => ?_
        obtain ⟨b, ys', n', q1, q2, q3⟩ := hsl 0 (by omega)
        refine hZq ?_
        clear hZq
        exact ⟨b, ys', n', (hws 0 (by omega)).trans q1, q2, q3⟩
      · exact ⟨lw, ys, n9, hwi, rfl, hys⟩
    · refine turned_next [((PySem.Str.ofString "drawn"), .ref l), ((PySem.Str.ofString "page"), .str (T (pageP na nb (2 + 1))) tp')] ((hl, listOf (hs ++ [Value.str (T (headP (na 2))) th]).toArray (nh + 1)) :: (wl, listOf (ws ++ [Value.ref lw]).toArray (nn + 1)) :: (b0, p0) :: (b1, p1) :: (lw, listOf ys.toArray n9) :: (l, listOf vs.toArray n) :: cellsL L o1 o2 o3 o4) (.inl rfl) F10 N9 (by (first | focus ((repeat (first | exact True.intro | (refine AllAt.keep _ rfl ?_ ?_; (focus decide +kernel)) | (refine AllAt.skip _ rfl ?_ ?_; (focus decide +kernel)))); done) | ((repeat (refine And.intro ?_ ?_; (focus (first | walk_at "m_look" | rfl)))); exact True.intro))) (by (first | focus ((repeat (first | exact True.intro | with_reducible exact InAll.self | with_reducible refine InAll.keep ?_ | with_reducible refine InAll.skip ?_)); done) | ((repeat (refine And.intro (by k_mem) ?_)); exact True.intro))) ⟨e1, e2, e3, e4, z1.r, e6, e7, e8, e9, e10, e11, trivial⟩
        ⟨hl, wl, tp', _, _, _, _, _, _, _, _, _, _, o1, o2, o3, o4, rfl, rfl, ⟨c1, c2, c3, c4⟩, ⟨d1, d2, d3, d4, d5, d6, d7, z2, d9, d10, z3, d12, d13, d14, d15, d16, d17, d18, d19⟩, ⟨g1, g2, z9.r, g4, g5, g6, z8.r, g8⟩, hst2, hwl2, fun j hj => ?_⟩
      have : j = 0 ∨ j = 1 ∨ j = 2 := by omega
      rcases this with rfl | rfl | rfl
      · refine Classical.byContradiction fun hZq => ?_
        obtain ⟨b, ys', n', q1, q2, q3⟩ := hsl 0 (by omega)
        refine hZq ?_
        clear hZq
        exact ⟨b, ys', n', (hws 0 (by omega)).trans q1, q2, q3⟩
      · refine Classical.byContradiction fun hZq => ?_
        obtain ⟨b, ys', n', q1, q2, q3⟩ := hsl 1 (by omega)
        refine hZq ?_
        clear hZq
        exact ⟨b, ys', n', (hws 1 (by omega)).trans q1, q2, q3⟩
      · exact ⟨lw, ys, n9, hwi, rfl, hys⟩
  · rintro h3 tk3 m3 lo nw hJ F3 N3
    refine wpAny_execs_nil ?_
    exact ⟨rfl, lo, nw, hJ, h3, tk3, m3, rfl, F3, N3⟩

end partBlC
theorem off_BlD : (1 : Nat) = 1 := by
  w_top off
  first | walk1 | rfl
section partBlD
local macro_rules | `(tactic| walk_at "subscriptTail Name Name ref int") => `(tactic| refine stop_at ?_)
local macro_rules | `(tactic| walk_at "subscriptTail Subscript") => `(tactic| refine stop_at ?_)
local macro_rules | `(tactic| walk_at "call builtin:len") => `(tactic| refine stop_at ?_)
theorem blkD (w : World) (L fa : Addr) (cd : Value) (g h0 : Heap) (m0 : Str → Option Value) (gn : Array GenState) (dr : Drawn) (tk : Nat) (os : OsState) (hl wl : Addr) (A : Nat → Addr) (Y : Nat → List Value) (nY : Nat → Nat) (H : Nat → List Nat) (W : Nat → List (List Nat)) (pg : List Nat) (hs ws : List Value) (nh nn : Nat) (tp : Tok) (o1 o2 o3 o4 : Obj) (v3 : Option Value) {pp : Program} {loose : List Str} {mean : ExcName → Option Value} {mg mb : Str → Option Value}
  (X : (K0 w.params).In g) (TT : Top pp loose mean mg mb g) (l145 : (145 : Nat) < L) (hhs : StrsAre hs ([H 0, H 1, H 2].map T)) (hws : ∀ j, j < 3 → ws[j]? = some (.ref (A j))) (hY : ∀ j, j < 3 → StrsAre (Y j) ((W j).map T)) (hW : ∀ j, j < 3 → (W j).length ≤ 17 ∧ ∀ l ∈ W j, l.length = 3) (hH : ∀ j, j < 3 → (H j).length ≤ 100)
  (HC : Cells o1 o2 o3 o4 (some (.ref hl)) (some (.ref wl)) v3 none) (hq3 : NqL (L + 1 + 1 + 1) [hl, wl, A 0, A 1, A 2])
  (F0 : Fr g L h0 (over [((PySem.Str.ofString "page"), .str (T pg) tp)] m0)) (N0 : News g L h0 ((hl, listOf hs.toArray nh) :: (wl, listOf ws.toArray nn) :: (A 0, listOf (Y 0).toArray (nY 0)) :: (A 1, listOf (Y 1).toArray (nY 1)) :: (A 2, listOf (Y 2).toArray (nY 2)) :: cellsL L o1 o2 o3 o4)) :
  wpAny (model prog w) (lawA L fa cd) (execs ((lawBS.1.drop 3).take 2) (lawEnv L fa cd)) (Next (fun s' => ∃ lo nw, JD L hl wl A Y nY H W pg hs ws nh nn 17 lo nw ∧ At g L lo nw ⟨h0, gn, dr, tk, os⟩ s')) noE ⟨h0, gn, dr, tk, os⟩ := by
  have _kf : (PySem.Challenge.rw_pg0230_02, K0) = (PySem.Challenge.rw_pg0230_02, K0) := by k_fill; rfl
  have e1 : (lawBS.1.drop 3).take 2 = [_, _] := rfl
  have e2 : lawBS.2 = ⟨_, _, _, _, _⟩ := rfl
  unfold lawA lawEnv
  rw [e1, e2]
  clear e1 e2
  refine Classical.byContradiction fun hZq => ?_
  obtain ⟨c1, c2, c3, c4⟩ := HC
  refine hZq ?_
  clear hZq
  refine Classical.byContradiction fun hZq => ?_
  obtain ⟨u1, u2, u3, u4, u5, _⟩ := hq3
  refine hZq ?_
  clear hZq
  dsimp only [cellsL] at N0
  k_steps
  ((unfold Stop; (with_reducible refine for_stmt ?_ ?mzhs); (case mzhs => intro _; rfl)))
  k_steps
  rename IsRange _ _ _ _ _ _ _ _ => hr
  rename Fr _ _ _ _ => F1
  rename News _ _ _ _ => N1
  refine it_range (L := L) (n := 17) (JD L hl wl A Y nY H W pg hs ws nh nn) rfl rfl hr (by decide) rfl [((PySem.Str.ofString "page"), .str (T pg) tp), ((PySem.Str.ofString "due"), .ref _)] _ F1 N1 (by (first | focus ((repeat (first | exact True.intro | (refine AllAt.keep _ rfl ?_ ?_; (focus decide +kernel)) | (refine AllAt.skip _ rfl ?_ ?_; (focus decide +kernel)))); done) | ((repeat (refine And.intro ?_ ?_; (focus (first | walk_at "m_look" | rfl)))); exact True.intro))) (by (first | focus ((repeat (first | exact True.intro | with_reducible exact InAll.self | with_reducible refine InAll.keep ?_ | with_reducible refine InAll.skip ?_)); done) | ((repeat (refine And.intro (by k_mem) ?_)); exact True.intro))) ⟨_, tp, [], _, o1, o2, o3, o4, v3, rfl, rfl, ⟨c1, c2, c3, c4⟩, ?_, ?_, .nil⟩ ?_ ?_
  · show @Ne Nat _ _; omega
  · show @Ne Nat _ _; omega
  · clear F1 N1 c1 c2 c3 c4
    rintro i ti I h3 tk3 m3 lo nw oI hi hPz1 F3 N3 hne hcl
    refine Classical.byContradiction fun hZq => ?_
    obtain ⟨dl, tp, dv, nd, o1, o2, o3, o4, v3, rfl, rfl, ⟨c1, c2, c3, c4⟩, nq1, nq2, hdv⟩ := hPz1
    refine hZq ?_
    clear hZq
    refine Classical.byContradiction fun hZq => ?_
    obtain ⟨e1, e2, e3, e4, e5, e6, e7, e8, e9, e10, e11, _⟩ := AllNq.of hne
    refine hZq ?_
    clear hZq
    dsimp only [cellsL] at N3
    k_steps
    unfold Stop
    rename Fr _ _ _ _ => F4
    rename News _ _ _ _ => N4
    (with_reducible refine' lc_evalT ?mzc1 ?mzc2 ?mzc3 ?mzc4 ?mzc5 ?mzc6 ?_)
    (case mzc1 => rfl)
    (case mzc2 => decide +kernel)
    (case mzc3 => rfl)
    (case mzc4 => decide +kernel)
    (case mzc5 => decide +kernel)
    (case mzc6 => intro _; rfl)
    k_steps
    dsimp only
    rename IsRange _ _ _ _ _ _ _ _ => hr2
    rename Fr _ _ _ _ => F5
    rename News _ _ _ _ => N5
    refine LcET.intro F5 N5 ?_ (src_range (n := 2) rfl hr2 (by decide) rfl) ?_
    · rw [sizeLine_eq]; decide
    intro hh
    refine comp_quietT _ (fun j => decide (i < (W j).length)) (fun j y => ∃ t, y = .str (T (wrdP (H j) (W j) i)) t) _ trivial ?_ ?_
    · intro i9 v I9 oI9 C oC D oD m₂ h8 tk8 hi8 hP hC hx F8 N8 off ne
      obtain ⟨tk9, rfl⟩ := hP
      have hi9 : i9 < 3 := by omega
      have hk9 : (0 + (i9 : Int)).toNat = i9 := by omega
      obtain ⟨hw1, hw2⟩ := hW i9 hi9
      have hYl := (hY i9 hi9).length
      rw [List.length_map] at hYl
      have hget : h8.get? (A i9) = some (listOf (Y i9).toArray (nY i9)) := by
        have : i9 = 0 ∨ i9 = 1 := by omega
        rcases this with rfl | rfl
        · exact N8.get (by k_mem)
        · exact N8.get (by k_mem)
      k_steps
      unfold Stop
      refine kim_list (l := ws) N8 (by k_mem) rfl rfl (by omega) (by omega) (by rw [hk9]; exact hws i9 hi9) ?_
      k_steps
      unfold Stop
      refine m_lenL (vs := Y i9) hget (by omega) ?_
      rw [hYl]
      k_steps
      refine ⟨decide_eq_decide.mpr (by omega), ?_⟩
      split
      rotate_left
      · exact QEnd.intro (by assumption) (by assumption) (by (first | focus ((repeat (first | exact True.intro | with_reducible exact InAll.self | with_reducible refine InAll.keep ?_ | with_reducible refine InAll.skip ?_)); done) | ((repeat (refine And.intro (by k_mem) ?_)); exact True.intro))) trivial
      rename decide _ = true => hdt
      have hlt : i < (W i9).length := by have := of_decide_eq_true hdt; omega
      clear hdt
      obtain ⟨th, hth⟩ := strs_get (cs := [H 0, H 1, H 2]) hhs (i := i9) (c := H i9) (by
        have : i9 = 0 ∨ i9 = 1 := by omega
        rcases this with rfl | rfl <;> rfl)
      k_steps
      unfold Stop
      refine kim_list (l := hs) N8 (by k_mem) rfl rfl (by omega) (by omega) (by rw [hk9]; exact hth) ?_
      k_steps
      unfold Stop
      refine kim_list (l := ws) N8 (by k_mem) rfl rfl (by omega) (by omega) (by rw [hk9]; exact hws i9 hi9) ?_
      k_steps
      unfold Stop
      refine kba_turn (value' := PySem.Expr.Name (PySem.Str.ofString "_") ⟨0, 0, 0, 0⟩) (fun _ => rfl) ?_
      refine kmk_slice (s := ⟨_, _, _, _, _⟩) (its := (Y i9).toArray) F8 N8 ⟨_, hget, rfl, _, rfl⟩ .none (.int (0 + (i : Int) + 1) _) ?_ (by with_unfolding_all rfl) (by intro _; with_unfolding_all rfl) (by rw [sizeLine_eq, List.size_toArray]; omega)
      intro D10 h10 F10 N10 lD10
      rw [show (0 + (i : Int) + 1) = ((i + 1 : Nat) : Int) by omega, slicePick_upto'] at N10
      have hst10 : StrsAre ((Y i9).take (i + 1)) (((W i9).take (i + 1)).map T) := by
        rw [List.map_take]; exact (hY i9 hi9).take' (i + 1)
      k_steps
      have hfl := flat_len ((W i9).take (i + 1)) fun l hl => hw2 l (List.mem_of_mem_take hl)
      have htl : ((W i9).take (i + 1)).length ≤ 17 := by rw [List.length_take]; omega
      refine join_listC (ys := ((W i9).take (i + 1)).map T) (items := ((Y i9).take (i + 1)).toArray) ⟨_, N10.get (.head _), rfl, _, rfl⟩ hst10 (by decide) ?_ ?_
      · rw [sum_len_T, hfl]
        simp only [List.length_map]
        omega
      intro t9 k9
      rw [join_T]
      have hhl := hH i9 hi9
      have hg2 : (T (H i9)).length + (T ((W i9).take (i + 1)).flatten).length ≤ sizeLine := by rw [T_len, T_len, hfl, sizeLine_eq]; omega
      have hg1 : T (H i9) ++ T ((W i9).take (i + 1)).flatten = T (wrdP (H i9) (W i9) i) := T_append _ _
      k_steps
      rw [hg1]
      exact QEnd.intro (by assumption) (by assumption) (by (first | focus ((repeat (first | exact True.intro | with_reducible exact InAll.self | with_reducible refine InAll.keep ?_ | with_reducible refine InAll.skip ?_)); done) | ((repeat (refine And.intro (by k_mem) ?_)); exact True.intro))) ⟨_, rfl⟩
    intro ys hys D8 h8 tk8 F8 N8 off8
    have hys9 : StrsAre ys (((if i < (W 0).length then [wrdP (H 0) (W 0) i] else []) ++ (if i < (W 1).length then [wrdP (H 1) (W 1) i] else [])).map T) := by
      simp only [Sel, decide_eq_true_eq] at hys
      by_cases h1 : i < (W 1).length
      · rw [if_pos h1] at hys ⊢
        refine Classical.byContradiction fun hZq => ?_
        obtain ⟨ys1, y1, rfl, hys1, t1, rfl⟩ := hys
        refine hZq ?_
        clear hZq
        rw [List.map_append]
        refine strsAre_snoc ?_
        by_cases h0 : i < (W 0).length
        · rw [if_pos h0] at hys1 ⊢
          refine Classical.byContradiction fun hZq => ?_
          obtain ⟨ys2, y2, rfl, rfl, t2, rfl⟩ := hys1
          refine hZq ?_
          clear hZq
          exact .cons _ _ .nil
        · rw [if_neg h0] at hys1 ⊢
          subst hys1
          exact .nil
      · rw [if_neg h1] at hys ⊢
        rw [List.append_nil]
        by_cases h0 : i < (W 0).length
        · rw [if_pos h0] at hys ⊢
          refine Classical.byContradiction fun hZq => ?_
          obtain ⟨ys2, y2, rfl, rfl, t2, rfl⟩ := hys
          refine hZq ?_
          clear hZq
          exact .cons _ _ .nil
        · rw [if_neg h0] at hys ⊢
          subst hys
          exact .nil
    have hyl9 := hys9.length
    have hyl8 : ys.length ≤ 2 := by
      rw [hyl9, List.length_map, List.length_append]
      split <;> split <;> simp
    k_steps
    unfold Stop
    have hdl : dv.length ≤ 2 * i := by
      have h1 := hdv.length
      rw [List.length_map] at h1
      have := dueD_len H W i
      omega
    refine kmk_add_lit F8 N8 (its := dv.toArray) (its2 := ys.toArray) (zs := dv ++ ys) ⟨_, N8.get (by k_mem), rfl, _, rfl⟩ ⟨_, N8.get (.head _), rfl, _, rfl⟩ rfl ?_ (by rw [sizeLine_eq]; simp only [List.toList_toArray]; omega)
    intro D11 h11 F11 N11 lD11
    have lq := AllNq.lt lD11
    k_steps
    refine Classical.byContradiction fun hZq => ?_
    obtain ⟨t1, t2, t3, t4, t5, t6, t7, t8, t9, t10, t11, t12, t13, _⟩ := lq
    refine hZq ?_
    clear hZq
    rename Fr _ _ _ _ => F12
    rename News _ _ _ _ => N12
    rename _ = Data.cell (some (Value.int _ _)) => c3n
    refine turned_next [((PySem.Str.ofString "page"), .str (T pg) tp), ((PySem.Str.ofString "due"), .ref D11)] ((D11, listOf (dv ++ ys).toArray 0) :: (hl, listOf hs.toArray nh) :: (wl, listOf ws.toArray nn) :: (A 0, listOf (Y 0).toArray (nY 0)) :: (A 1, listOf (Y 1).toArray (nY 1)) :: (A 2, listOf (Y 2).toArray (nY 2)) :: cellsL L o1 o2 _ o4) (.inl rfl) F12 N12 (by (first | focus ((repeat (first | exact True.intro | (refine AllAt.keep _ rfl ?_ ?_; (focus decide +kernel)) | (refine AllAt.skip _ rfl ?_ ?_; (focus decide +kernel)))); done) | ((repeat (refine And.intro ?_ ?_; (focus (first | walk_at "m_look" | rfl)))); exact True.intro)))
      ⟨.tail _ (.tail _ (.head _)), .head _, .tail _ (.tail _ (.tail _ (.tail _ (.head _)))), .tail _ (.tail _ (.tail _ (.tail _ (.tail _ (.head _))))), .tail _ (.tail _ (.tail _ (.tail _ (.tail _ (.tail _ (.head _)))))), .tail _ (.tail _ (.tail _ (.tail _ (.tail _ (.tail _ (.tail _ (.head _))))))), .tail _ (.tail _ (.tail _ (.tail _ (.tail _ (.tail _ (.tail _ (.tail _ (.head _)))))))), .tail _ (.tail _ (.tail _ (.tail _ (.tail _ (.tail _ (.tail _ (.tail _ (.tail _ (.head _))))))))), .tail _ (.tail _ (.tail _ (.tail _ (.tail _ (.tail _ (.tail _ (.tail _ (.tail _ (.tail _ (.head _)))))))))), .tail _ (.tail _ (.tail _ (.tail _ (.tail _ (.tail _ (.tail _ (.tail _ (.tail _ (.tail _ (.tail _ (.head _))))))))))), .tail _ (.tail _ (.tail _ (.tail _ (.tail _ (.tail _ (.tail _ (.tail _ (.tail _ (.tail _ (.tail _ (.tail _ (.head _)))))))))))), .tail _ (.tail _ (.tail _ (.tail _ (.tail _ (.tail _ (.tail _ (.tail _ (.tail _ (.tail _ (.tail _ (.tail _ (.tail _ (.head _))))))))))))), trivial⟩
      ⟨t2.r, e2, e3, e4, e5, e6, e7, e8, e9, e10, e11, trivial⟩ ⟨D11, tp, dv ++ ys, 0, o1, o2, _, o4, _, rfl, rfl, ⟨c1, c2, c3n, c4⟩, t10.r, t9.r, ?_⟩
    · rw [dueD, List.map_append]
      exact strsAre_app hdv hys9
  · rintro h3 tk3 m3 lo nw hJ F3 N3
    refine wpAny_execs_nil ?_
    exact ⟨rfl, lo, nw, hJ, h3, tk3, m3, rfl, F3, N3⟩

end partBlD
theorem off_BlE : (1 : Nat) = 1 := by
  w_top off
  first | walk1 | rfl
section partBlE
local macro_rules | `(tactic| walk_at "subscriptTail Name Constant ref int") => `(tactic| refine stop_at ?_)
local macro_rules | `(tactic| walk_at "subscriptTail Subscript") => `(tactic| refine stop_at ?_)
local macro_rules | `(tactic| walk_at "call builtin:len") => `(tactic| refine stop_at ?_)
theorem blkE (w : World) (L fa : Addr) (cd : Value) (g h0 : Heap) (m0 : Str → Option Value) (gn : Array GenState) (dr : Drawn) (tk : Nat) (os : OsState) (hl wl : Addr) (A : Nat → Addr) (Y : Nat → List Value) (nY : Nat → Nat) (H : Nat → List Nat) (W : Nat → List (List Nat)) (pg : List Nat) (hs ws : List Value) (nh nn : Nat) (lo0 : List (Str × Value)) (nw0 : List (Addr × Obj)) {pp : Program} {loose : List Str} {mean : ExcName → Option Value} {mg mb : Str → Option Value}
  (X : (K0 w.params).In g) (TT : Top pp loose mean mg mb g) (l145 : (145 : Nat) < L) (hhs : StrsAre hs ([H 0, H 1, H 2].map T)) (hws : ∀ j, j < 3 → ws[j]? = some (.ref (A j))) (hY : ∀ j, j < 3 → StrsAre (Y j) ((W j).map T)) (hW : ∀ j, j < 3 → (W j).length ≤ 17 ∧ ∀ l ∈ W j, l.length = 3) (hH : ∀ j, j < 3 → (H j).length ≤ 100)
  (hJ : JD L hl wl A Y nY H W pg hs ws nh nn 17 lo0 nw0) (F0 : Fr g L h0 (over lo0 m0)) (N0 : News g L h0 nw0) :
  wpAny (model prog w) (lawA L fa cd) (execs ((lawBS.1.drop 5).take 1) (lawEnv L fa cd)) (Next (MidE g L H W pg ⟨h0, gn, dr, tk, os⟩)) noE ⟨h0, gn, dr, tk, os⟩ := by
  have _kf : (PySem.Challenge.rw_pg0230_02, K0) = (PySem.Challenge.rw_pg0230_02, K0) := by k_fill; rfl
  have e1 : (lawBS.1.drop 5).take 1 = [_] := rfl
  have e2 : lawBS.2 = ⟨_, _, _, _, _⟩ := rfl
  unfold lawA lawEnv
  rw [e1, e2]
  clear e1 e2
  refine Classical.byContradiction fun hZq => ?_
  obtain ⟨dl, tp, dv, nd, o1, o2, o3, o4, v3, rfl, rfl, ⟨c1, c2, c3, c4⟩, nq1, nq2, hdv⟩ := hJ
  refine hZq ?_
  clear hZq
  dsimp only [cellsL] at N0
  obtain ⟨hw1, hw2⟩ := hW 2 (by decide)
  have hY2 := hY 2 (by decide)
  have hYl := hY2.length
  rw [List.length_map] at hYl
  have hhl := hH 2 (by decide)
  have hdl : dv.length ≤ 34 := by
    have h1 := hdv.length
    rw [List.length_map] at h1
    have := dueD_len H W 17
    omega
  obtain ⟨th, hth⟩ := strs_get (cs := [H 0, H 1, H 2]) hhs (i := 2) (c := H 2) rfl
  k_steps
  unfold Stop
  (with_reducible refine' lc_eval ?mzc1 ?mzc2 ?mzc3 ?mzc4 ?mzc5 ?mzc6 ?_)
  (case mzc1 => rfl)
  (case mzc2 => decide +kernel)
  (case mzc3 => rfl)
  (case mzc4 => decide +kernel)
  (case mzc5 => decide +kernel)
  (case mzc6 => intro _; rfl)
  k_steps
  unfold Stop
  refine kim_list (l := ws) N0 (by k_mem) rfl rfl (by decide) (by decide) (hws 2 (by decide)) ?_
  k_steps
  unfold Stop
  refine m_lenL (vs := Y 2) (n := nY 2) (N0.get (by k_mem)) (by omega) ?_
  rw [hYl]
  k_steps
  dsimp only
  rename IsRange _ _ _ _ _ _ _ _ => hr2
  rename Fr _ _ _ _ => F5
  rename News _ _ _ _ => N5
  refine LcE.intro F5 N5 ?_ (src_range (n := (W 2).length) rfl hr2 (small_one (by omega) (by omega) (by omega) (by omega)) (by rw [rangeSize_nat]; omega)) ?_
  · rw [sizeLine_eq]; omega
  intro hh
  refine comp_quiet _ (fun i y => ∃ t, y = .str (T (wrdP (H 2) (W 2) i)) t) _ trivial ?_ ?_
  · intro i v I9 oI9 C oC D oD m₂ h8 tk8 hi8 hP hC hx F8 N8 off ne
    obtain ⟨tk9, rfl⟩ := hP
    k_steps
    unfold Stop
    refine kim_list (l := hs) N8 (by k_mem) rfl rfl (by decide) (by decide) hth ?_
    k_steps
    unfold Stop
    refine kim_list (l := ws) N8 (by k_mem) rfl rfl (by decide) (by decide) (hws 2 (by decide)) ?_
    k_steps
    unfold Stop
    refine kba_turn (value' := PySem.Expr.Name (PySem.Str.ofString "_") ⟨0, 0, 0, 0⟩) (fun _ => rfl) ?_
    refine kmk_slice (s := ⟨_, _, _, _, _⟩) (its := (Y 2).toArray) F8 N8 ⟨_, N8.get (by k_mem), rfl, _, rfl⟩ .none (.int (0 + (i : Int) + 1) _) ?_ (by with_unfolding_all rfl) (by intro _; with_unfolding_all rfl) (by rw [sizeLine_eq, List.size_toArray]; omega)
    intro D10 h10 F10 N10 lD10
    rw [show (0 + (i : Int) + 1) = ((i + 1 : Nat) : Int) by omega, slicePick_upto'] at N10
    have hst10 : StrsAre ((Y 2).take (i + 1)) (((W 2).take (i + 1)).map T) := by
      rw [List.map_take]; exact hY2.take' (i + 1)
    k_steps
    have hfl := flat_len ((W 2).take (i + 1)) fun l hl => hw2 l (List.mem_of_mem_take hl)
    have htl : ((W 2).take (i + 1)).length ≤ 17 := by rw [List.length_take]; omega
    refine join_listC (ys := ((W 2).take (i + 1)).map T) (items := ((Y 2).take (i + 1)).toArray) ⟨_, N10.get (.head _), rfl, _, rfl⟩ hst10 (by decide) ?_ ?_
    · rw [sum_len_T, hfl]
      simp only [List.length_map]
      omega
    intro t9 k9
    rw [join_T]
    have hg2 : (T (H 2)).length + (T ((W 2).take (i + 1)).flatten).length ≤ sizeLine := by rw [T_len, T_len, hfl, sizeLine_eq]; omega
    have hg1 : T (H 2) ++ T ((W 2).take (i + 1)).flatten = T (wrdP (H 2) (W 2) i) := T_append _ _
    k_steps
    rw [hg1]
    exact QEnd.intro (by assumption) (by assumption) (by (first | focus ((repeat (first | exact True.intro | with_reducible exact InAll.self | with_reducible refine InAll.keep ?_ | with_reducible refine InAll.skip ?_)); done) | ((repeat (refine And.intro (by k_mem) ?_)); exact True.intro))) ⟨_, rfl⟩
  intro ys hys hT D8 h8 tk8 F8 N8 off8
  have hys9 : StrsAre ys (((List.range (W 2).length).map (wrdP (H 2) (W 2))).map T) := strs_of (by simp [hys]) fun i y hy => by
    obtain ⟨t, rfl⟩ := hT i y hy
    have hi : i < (W 2).length := by rw [← hys]; exact (List.getElem?_eq_some_iff.mp hy).1
    exact ⟨_, t, by simp [hi], rfl⟩
  k_steps
  unfold Stop
  refine kmk_add_lit F8 N8 (its := dv.toArray) (its2 := ys.toArray) (zs := dv ++ ys) ⟨_, N8.get (by k_mem), rfl, _, rfl⟩ ⟨_, N8.get (.head _), rfl, _, rfl⟩ rfl ?_ (by rw [sizeLine_eq]; show dv.length + ys.length ≤ _; omega)
  intro D11 h11 F11 N11 lD11
  k_steps
  unfold Stop
  rename Fr _ _ _ _ => F12
  rename News _ _ _ _ => N12
  refine kmk_add_lit F12 N12 (its := (dv ++ ys).toArray) (its2 := List.toArray [_]) ⟨_, N12.get (by k_mem : (D11, listOf (dv ++ ys).toArray 0) ∈ _), rfl, _, rfl⟩ ⟨_, N12.get (.head _), rfl, _, rfl⟩ rfl ?_ (by rw [sizeLine_eq]; show (dv ++ ys).length + 1 ≤ _; rw [List.length_append]; omega)
  intro D13 h13 F13 N13 lD13
  have lq := AllNq.lt lD13
  refine Classical.byContradiction fun hZq => ?_
  obtain ⟨t1, t2, t3, t4, t5, t6, t7, t8, t9, t10, t11, t12, t13, t14, t15, _⟩ := lq
  refine hZq ?_
  clear hZq
  k_steps
  rename Fr _ _ _ _ => F14
  rename News _ _ _ _ => N14
  have hfin : StrsAre ((dv ++ ys).toArray.toList ++ (List.toArray [Value.str (PySem.Str.ofString "") tk8]).toList) ((dueE H W).map T) := by
    unfold dueE
    rw [List.map_append, List.map_append, show PySem.Str.ofString "" = T [] by decide +kernel]
    exact strsAre_app (strsAre_app hdv hys9) (.cons _ _ .nil)
  exact ⟨rfl, D13, tp, _, 0, o1, o2, o3, o4, _, _, _, ⟨c1, c2, c3, c4⟩, t10.r, t14.r, hfin, At.intro F14 N14 (by (first | focus ((repeat (first | exact True.intro | (refine AllAt.keep _ rfl ?_ ?_; (focus decide +kernel)) | (refine AllAt.skip _ rfl ?_ ?_; (focus decide +kernel)))); done) | ((repeat (refine And.intro ?_ ?_; (focus (first | walk_at "m_look" | rfl)))); exact True.intro))) (by (first | focus ((repeat (first | exact True.intro | with_reducible exact InAll.self | with_reducible refine InAll.keep ?_ | with_reducible refine InAll.skip ?_)); done) | ((repeat (refine And.intro (by k_mem) ?_)); exact True.intro)))⟩

end partBlE
theorem off_BlF : (1 : Nat) = 1 := by
  w_top off
  first | walk1 | rfl
section partBlF
theorem blkF (w : World) (L fa : Addr) (cd : Value) (g h0 : Heap) (m0 : Str → Option Value) (gn : Array GenState) (dr : Drawn) (tk : Nat) (os : OsState) (H : Nat → List Nat) (W : Nat → List (List Nat)) (pg : List Nat) (hpg : pg.length ≤ 1000) (el : Addr) (tp : Tok) (ev : List Value) (ne : Nat) (o1 o2 o3 o4 : Obj) (v1 v2 v3 : Option Value) {pp : Program} {loose : List Str} {mean : ExcName → Option Value} {mg mb : Str → Option Value}
  (X : (K0 w.params).In g) (TT : Top pp loose mean mg mb g) (l145 : (145 : Nat) < L) (C0 : CodeHd g 149 145) (HC : Cells o1 o2 o3 o4 v1 v2 v3 none) (nq1 : Nq el (L + 1 + 1 + 1 + 1)) (nq2 : Nq el 145) (hev : StrsAre ev ((dueE H W).map T))
  (F0 : Fr g L h0 (over [((PySem.Str.ofString "page"), .str (T pg) tp), ((PySem.Str.ofString "due"), .ref el)] m0)) (N0 : News g L h0 ((el, listOf ev.toArray ne) :: cellsL L o1 o2 o3 o4)) :
  wpAny (model prog w) (lawA L fa cd) (execs ((lawBS.1.drop 6).take 1) (lawEnv L fa cd)) (Next (MidF w g L H W pg ⟨h0, gn, dr, tk, os⟩)) noE ⟨h0, gn, dr, tk, os⟩ := by
  have _kf : (PySem.Challenge.rw_pg0230_02, K0) = (PySem.Challenge.rw_pg0230_02, K0) := by k_fill; rfl
  have e1 : (lawBS.1.drop 6).take 1 = [_] := rfl
  have e2 : lawBS.2 = ⟨_, _, _, _, _⟩ := rfl
  unfold lawA lawEnv
  rw [e1, e2]
  clear e1 e2
  refine Classical.byContradiction fun hZq => ?_
  obtain ⟨c1, c2, c3, c4⟩ := HC
  refine hZq ?_
  clear hZq
  dsimp only [cellsL] at N0
  k_steps
  unfold Stop
  refine wpAny_call ?_
  refine' codeAny_at (A' := lv 12) ?a1 ?a2 ?a3 ?a4 ?a5 ?_
  (case a1 => exact rfl); (case a2 => (exact Nat.le_of_ble_eq_true rfl)); (case a3 => (exact Nat.le_of_ble_eq_true rfl)); (case a4 => exact rfl); (case a5 => exact rfl)
  rename News _ _ _ _ => NA
  rename Fr _ _ _ _ => FA
  with_reducible refine' file_spec w _ _ pg _ ?e0 ?e1 ?e2 ?e3 ?_
  (case e0 => omega)
  (case e1 => exact gd_of X TT FA NA [145] (HasAll.mem (by ((repeat (refine And.intro ⟨_, by k_mem⟩ ?_)); exact True.intro))))
  (case e2 => exact NA.get (by k_mem))
  (case e3 => exact codeHd_at C0 fun o e => FA.keep _ _ e)
  intro h5 tk5 hx hdx fA cA cc D hpb fo co cco ys n j0 j1 j2 j3 j4 jl jw K5 q1 q2 q3 q4 q5 q6 q7 n1 n2 n3 n4 n5 n6 n7 fcls fdat cdat ccdat hys ts ⟨ps, e145⟩
  obtain ⟨F5, N5⟩ := afterL [(hx, _), (hdx, _), (hpb, _), (fA, _), (cc, _), (D, _), (cA, _), (el, listOf ev.toArray ne), (L + 1 + 1 + 1 + 1, o4), (145, tabObj ps)] FA NA K5 (by ((repeat (refine And.intro ⟨_, by k_mem⟩ ?_)); exact True.intro)) ⟨.inr ⟨q1, .inr n1⟩, .inr ⟨q2, .inr n2⟩, .inr ⟨q3, .inr n3⟩, .inr ⟨q4, .inr n4⟩, .inr ⟨q5, .inr n5⟩, .inr ⟨q6, .inr n6⟩, .inr ⟨q7, .inr n7⟩, .inl ⟨by k_mem, by ((simp only [List.mem_cons, List.not_mem_nil, or_false, not_or, not_false_iff]; repeat' (first | apply And.intro | k_ne)))⟩, .inl ⟨by k_mem, by ((simp only [List.mem_cons, List.not_mem_nil, or_false, not_or, not_false_iff]; repeat' (first | apply And.intro | k_ne)))⟩, .inr ⟨e145, .inl ⟨_, by k_mem⟩⟩, trivial⟩
  have hqD := (AllNq.new NA n6).1
  have m1 := (AllNq.new NA n1).2.1
  have m2 := (AllNq.new NA n2).2.1
  have m3 := (AllNq.new NA n3).2.1
  have m4 := (AllNq.new NA n4).2.1
  have m5 := (AllNq.new NA n5).2.1
  have m6 := (AllNq.new NA n6).2.1
  have m7 := (AllNq.new NA n7).2.1
  have z1 := (AllNq.new NA n1).2.2.2.2.2.1
  have z2 := (AllNq.new NA n2).2.2.2.2.2.1
  have z4 := (AllNq.new NA n4).2.2.2.2.2.1
  have z5 := (AllNq.new NA n5).2.2.2.2.2.1
  have z6 := (AllNq.new NA n6).2.2.2.2.2.1
  have z7 := (AllNq.new NA n7).2.2.2.2.2.1
  clear NA FA
  k_steps
  unfold Stop
  refine' call_cls ?k1 ?k2 ?k3 ?k4 ?k5 ?k6 ?_; (case k1 => k_asm); (case k2 => k_asm); (case k3 => k_asm); (case k4 => k_is); (case k5 => k_is); (case k6 => k_is); k_whole
  intro x dx h6 F6 N6 l3 l4
  have l3' := l3
  have l4' := l4
  k_lt l3
  k_lt2 l4
  refine' codeAny_at (A' := lv 9) ?a1 ?a2 ?a3 ?a4 ?a5 ?_
  (case a1 => exact rfl); (case a2 => (exact Nat.le_of_ble_eq_true rfl)); (case a3 => (exact Nat.le_of_ble_eq_true rfl)); (case a4 => exact rfl); (case a5 => exact rfl)
  with_reducible refine' lexinit_spec w _ _ x dx (.ref hx) ?b1 ?b2 ?b3 ?b4 ?b5 ?_
  (case b1 => exact .inr ⟨hx, rfl⟩)
  (case b2 => exact gd_of X TT F6 N6 [x, dx] (HasAll.mem (by ((repeat (refine And.intro ⟨_, by k_mem⟩ ?_)); exact True.intro))))
  (case b3 => exact (N6 _ (.head _)).1)
  (case b4 => exact (N6 _ (.tail _ (.head _))).1)
  (case b5 => exact neN (by omega))
  intro h7 tk7 pb k0 k1 k2 k3 tl tw K7 f1 f2 f3 f4
  refine ⟨rfl, ?_⟩
  have lp := AllNq.new N6 f4
  refine Classical.byContradiction fun hZq => ?_
  obtain ⟨p1, p2, p3, p4, p5, p6, p7, p8, p9, p10, p11, p12, _⟩ := lp
  refine hZq ?_
  clear hZq
  have zx : Nq 145 x := Nat.ne_of_lt (Nat.lt_trans (l3' (145, tabObj ps) (by k_mem)) l4')
  have zd : Nq 145 dx := Nat.ne_of_lt (l3' (145, tabObj ps) (by k_mem))
  obtain ⟨F7, N7⟩ := after_two [(pb, listOf #[] 0)] F6 N6 K7 f1 f2 l3' l4' (fun p hp => by rw [List.mem_singleton.mp hp]; exact ⟨f3, f4⟩)
  simp only [List.cons_append, List.nil_append] at N7
  clear F6 N6
  dsimp only [hxEs, lxEs, List.cons_append, List.nil_append] at N7
  k_steps
  rename Fr _ _ _ _ => F8
  rename News _ _ _ _ => N8
  rename _ = Data.cell (some (Value.ref x)) => c4n
  rename Obj => o4n
  have hdd : dx ≠ hdx := neN (by omega)
  have hDp : D ≠ pb := by
    have h9 : Nq D pb := by first | exact p1 | exact p2 | exact p3 | exact p4 | exact p5 | exact p6 | exact p7 | exact p8 | exact p9 | exact p10
    exact h9
  exact ⟨rfl, ⟨x, dx, pb, hx, hdx, hpb, fA, cc, cA, D, fo, cco, co, k0, k1, k2, k3, tw, j0, j1, j2, j3, j4, jl, jw⟩, el, tp, tl, ev, ys, ne, n, _, ⟨ts, hdd, fcls, fdat, cdat, ccdat, hDp⟩, c4n, hqD, (by first | exact p10 | exact p9 | exact p8 | exact p11), hev, hys, ⟨ps, (N8 (145, tabObj ps) (by k_mem)).1⟩, ⟨nq2.r, (show @Ne Nat _ _ by omega), zx, zd, z1, z2, z4, z5, z7, z6, p12, trivial⟩, At.intro F8 N8 (by (first | focus ((repeat (first | exact True.intro | (refine AllAt.keep _ rfl ?_ ?_; (focus decide +kernel)) | (refine AllAt.skip _ rfl ?_ ?_; (focus decide +kernel)))); done) | ((repeat (refine And.intro ?_ ?_; (focus (first | walk_at "m_look" | rfl)))); exact True.intro))) (show InAll _ [(el, listOf ev.toArray ne), (L + 1 + 1 + 1 + 1, o4n), (x, instObj 73 dx), (dx, dictOf (lxEs w k0 k1 k2 k3 1 tl (.ref hx) tw pb) 4), (hx, instObj 73 hdx), (hdx, dictOf (hxEs w j0 j1 j2 j3 j4 1 jl .none jw hpb fA) 5), (fA, fo), (cc, cco), (cA, co), (D, listOf ys.reverse.toArray n), (pb, listOf #[] 0)] from ⟨by k_mem, by k_mem, by k_mem, by k_mem, by k_mem, by k_mem, by k_mem, by k_mem, by k_mem, by k_mem, by k_mem, trivial⟩)⟩

end partBlF
theorem off_BlG : (1 : Nat) = 1 := by
  w_top off
  first | walk1 | rfl
section partBlG
/-- the page behind i words -/
noncomputable def rsP (pg : List Nat) : Nat → List Nat
  | 0 => pg
  | i + 1 => (tkS (rsP pg i)).2
noncomputable def toksP (pg : List Nat) (i : Nat) : List (List Nat) := (List.range i).map fun j => (tkS (rsP pg j)).1
noncomputable def NlOk (pg : List Nat) (i : Nat) : Prop := ∀ j, j ≤ i → (rsP pg j).length ≤ pg.length ∧ nlc (rsP pg j) ≤ nlc pg
noncomputable abbrev lexL (w : World) (a : LxA) (L el : Addr) (oe o4 : Obj) (ln : Int) (tl : Tok) (ys : List Value) (n : Nat) (opb : Obj) : List (Addr × Obj) :=
  (el, oe) :: (L + 1 + 1 + 1 + 1, o4) :: (a.led w ln tl ys n ++ [(a.pb, opb)])
theorem lexL_off {w : World} {a : LxA} (ok : a.Ok w) {L el : Addr} {ev : List Value} {ne : Nat} {o4 : Obj} {ln : Int} {tl : Tok} {ys : List Value} {n : Nat} {its : List Value} {np : Nat} {g h : Heap} {news : List (Addr × Obj)} {L' : Addr}
    (N : News g L' h news) (hs : ∀ p ∈ lexL w a L el (listOf ev.toArray ne) o4 ln tl ys n (listOf its.toArray np), p ∈ news) (c4 : o4.data = .cell (some (.ref a.x))) (nq1 : Nq el a.D) :
    ∀ p, (p ∈ [(el, listOf ev.toArray ne), (L + 1 + 1 + 1 + 1, o4)] ∨ p ∈ [(a.pb, listOf its.toArray np)]) → p.1 ≠ a.dx ∧ p.1 ≠ a.D := by
  have m2 := hs _ (.tail _ (.tail _ (.tail _ (.head _))))
  have mD := hs _ (.tail _ (.tail _ (.tail _ (.tail _ (.tail _ (.tail _ (.tail _ (.tail _ (.tail _ (.head _))))))))))
  rintro p (hp | hp)
  · rcases List.mem_cons.mp hp with rfl | hp
    · exact ⟨ne_of_cls N (hs _ (.head _)) m2 (fun e => by injection e with e; exact absurd e (by decide)), nq1⟩
    · rw [List.mem_singleton.mp hp]
      exact ⟨ne_of_data N (hs _ (.tail _ (.head _))) m2 (fun e => by rw [c4] at e; exact nomatch e), ne_of_data N (hs _ (.tail _ (.head _))) mD (fun e => by rw [c4] at e; exact nomatch e)⟩
  · rw [List.mem_singleton.mp hp]
    exact ⟨ne_of_cls N (hs _ (.tail _ (.tail _ (.tail _ (.tail _ (.tail _ (.tail _ (.tail _ (.tail _ (.tail _ (.tail _ (.head _)))))))))))) m2 (fun e => by injection e with e; exact absurd e (by decide)), Ne.symm ok.n2⟩
/-- get_token from the file, upon a ledger that holds the lexer -/
theorem gt_led (w : World) (s : Shared) (R : Result → Shared → Prop) (a : LxA) (ok : a.Ok w) (ln : Int) (tl : Tok) (ys : List Value) (cs : List Nat) (n np : Nat) {g : Heap} {L : Addr} {m : Str → Option Value} {pre : List (Addr × Obj)}
  {pp : Program} {loose : List Str} {mean : ExcName → Option Value} {mg mb : Str → Option Value} (X : (K0 w.params).In g) (TT : Top pp loose mean mg mb g)
  (F : Fr g L s.heap m) (N : News g L s.heap (pre ++ (a.led w ln tl ys n ++ [(a.pb, listOf #[] np)]))) (hoff : ∀ p, (p ∈ pre ∨ p ∈ [(a.pb, listOf #[] np)]) → p.1 ≠ a.dx ∧ p.1 ≠ a.D)
  (hys : StrsAre ys (cs.map sg)) (hlen : cs.length ≤ 100000) (hln : 0 ≤ ln ∧ ln ≤ 500000)
  (hret : ∀ (h' : Heap) (tk' n' : Nat) (t' tl' : Tok) (ys' : List Value), Fr g L h' m → News g L h' (pre ++ (a.led w (ln + nlc cs - nlc (tkS cs).2) tl' ys' n' ++ [(a.pb, listOf #[] np)])) → StrsAre ys' ((tkS cs).2.map sg) →
    R (.ok (.ret (.str (T (tkS cs).1) t'))) { s with heap := h', toks := tk' }) :
  codeAny (model prog w) (lv 13) (.call (.ref 63) ⟨[.ref a.x], []⟩) R s := by
  have sub : ∀ p ∈ a.led w ln tl ys n ++ [(a.pb, listOf #[] np)], p ∈ pre ++ (a.led w ln tl ys n ++ [(a.pb, listOf #[] np)]) := fun p hp => List.mem_append.mpr (.inr hp)
  have sub1 : ∀ p ∈ a.led w ln tl ys n, p ∈ pre ++ (a.led w ln tl ys n ++ [(a.pb, listOf #[] np)]) := fun p hp => sub p (List.mem_append.mpr (.inl hp))
  refine gettok_read w s R a ok ln tl ys cs n np (gd_of X TT F N _ (HasAll.mem ⟨⟨_, sub1 _ (.head _)⟩, ⟨_, sub1 _ (.tail _ (.head _))⟩, ⟨_, sub1 _ (.tail _ (.tail _ (.head _)))⟩, ⟨_, sub1 _ (.tail _ (.tail _ (.tail _ (.head _))))⟩, ⟨_, sub1 _ (.tail _ (.tail _ (.tail _ (.tail _ (.head _)))))⟩, ⟨_, sub1 _ (.tail _ (.tail _ (.tail _ (.tail _ (.tail _ (.head _))))))⟩, ⟨_, sub1 _ (.tail _ (.tail _ (.tail _ (.tail _ (.tail _ (.tail _ (.head _)))))))⟩, ⟨_, sub1 _ (.tail _ (.tail _ (.tail _ (.tail _ (.tail _ (.tail _ (.tail _ (.head _))))))))⟩, ⟨_, sub _ (List.mem_append.mpr (.inr (.head _)))⟩, trivial⟩)) (nall_of fun p hp => (N p (sub p hp)).1) hys hlen hln ?_
  intro h' tk' n' t' tl' ys' K e1 e2 hys'
  obtain ⟨F', N'⟩ := led_after ok F N hoff K e1 e2
  exact hret h' tk' n' t' tl' ys' F' N' hys'
theorem off3_map {I C D : Addr} {l l' : List (Addr × Obj)} (h : LCg.Off3 I C D l) (e : l'.map (·.1) = l.map (·.1)) : LCg.Off3 I C D l' :=
  LCg.Off3.of fun p hp => by
    have h1 : p.1 ∈ l.map (·.1) := e ▸ List.mem_map_of_mem (f := (·.1)) hp
    refine Classical.byContradiction fun hZq => ?_
    obtain ⟨q, hq, e2⟩ := List.mem_map.mp h1
    refine hZq ?_
    clear hZq
    have h2 := h.mem q hq
    rw [← e2]; exact h2
theorem toks_succ (pg : List Nat) (i : Nat) : toksP pg (i + 1) = toksP pg i ++ [(tkS (rsP pg i)).1] := by
  unfold toksP; rw [List.range_succ, List.map_append]; rfl
theorem blkG (w : World) (L fa : Addr) (cd : Value) (g h0 : Heap) (m0 : Str → Option Value) (gn : Array GenState) (dr : Drawn) (tk : Nat) (os : OsState) (pg : List Nat) (hpg : pg.length ≤ 1000) (el : Addr) (tp tl0 : Tok) (a : LxA) (ok : a.Ok w) (ev ys0 : List Value) (ne n0 : Nat) (o4 : Obj) {pp : Program} {loose : List Str} {mean : ExcName → Option Value} {mg mb : Str → Option Value}
  (X : (K0 w.params).In g) (TT : Top pp loose mean mg mb g) (c4 : o4.data = .cell (some (.ref a.x))) (nq1 : Nq el a.D) (hys0 : StrsAre ys0 (pg.map sg)) (hnl : NlOk pg 2)
  (F0 : Fr g L h0 (over [((PySem.Str.ofString "page"), .str (T pg) tp), ((PySem.Str.ofString "due"), .ref el)] m0)) (N0 : News g L h0 (lexL w a L el (listOf ev.toArray ne) o4 1 tl0 ys0 n0 (listOf #[] 0))) :
  wpAny (model prog w) (lawA L fa cd) (execs ((lawBS.1.drop 7).take 1) (lawEnv L fa cd)) (Next (fun s' => ∃ (wt : Addr) (wv ys : List Value) (nw n : Nat) (tl : Tok), StrsAre wv ((toksP pg 2).map T) ∧ StrsAre ys ((rsP pg 2).map sg) ∧ AllNq wt [(el, o4), (a.pb, o4), (a.D, o4), (a.dx, o4)] ∧
    At g L [((PySem.Str.ofString "page"), .str (T pg) tp), ((PySem.Str.ofString "due"), .ref el), ((PySem.Str.ofString "waiting"), .ref wt)] ((wt, listOf wv.toArray nw) :: lexL w a L el (listOf ev.toArray ne) o4 (1 + nlc pg - nlc (rsP pg 2)) tl ys n (listOf #[] 0)) ⟨h0, gn, dr, tk, os⟩ s')) noE ⟨h0, gn, dr, tk, os⟩ := by
  have _kf : (PySem.Challenge.rw_pg0230_02, K0) = (PySem.Challenge.rw_pg0230_02, K0) := by k_fill; rfl
  have e1 : (lawBS.1.drop 7).take 1 = [_] := rfl
  have e2 : lawBS.2 = ⟨_, _, _, _, _⟩ := rfl
  unfold lawA lawEnv
  rw [e1, e2]
  clear e1 e2
  refine wpAny_execs_cons ?_
  (with_reducible refine' lc_assign ?mzc0 ?mzc1 ?mzc2 ?mzc3 ?mzc4 ?mzc5 ?mzc7 ?mzc8 ?mzc6 ?_)
  (case mzc0 => exact rfl)
  (case mzc1 => rfl)
  (case mzc2 => decide +kernel)
  (case mzc3 => rfl)
  (case mzc4 => decide +kernel)
  (case mzc5 => decide +kernel)
  (case mzc6 => intro _; rfl)
  (case mzc7 => exact rfl)
  (case mzc8 => exact rfl)
  k_steps
  dsimp only
  rename IsRange _ _ _ _ _ _ _ _ => hr2
  rename Fr _ _ _ _ => F5
  rename News _ _ _ _ => N5
  refine LcA.intro rfl F5 N5 ?_ (src_range (n := 2) rfl hr2 (by decide) rfl) ?_
  · rw [sizeLine_eq]; decide
  intro hh
  refine comp_inv 2 (fun i ys news => ∃ tl ysr n, news = lexL w a L el (listOf ev.toArray ne) o4 (1 + nlc pg - nlc (rsP pg i)) tl ysr n (listOf #[] 0) ∧ StrsAre ysr ((rsP pg i).map sg) ∧ StrsAre ys ((toksP pg i).map T)) ?_ ?_ 2 0 [] _ rfl ⟨tl0, ys0, n0, by rw [show (1 : Int) + nlc pg - nlc (rsP pg 0) = 1 by show 1 + nlc pg - nlc pg = 1; omega], hys0, .nil⟩
  · rintro i ys news v I oI C oC D m₂ h8 tk8 hi8 hPz1 hP hC hx F8 N8 off ne3
    refine Classical.byContradiction fun hZq => ?_
    obtain ⟨tl, ysr, n, rfl, hysr, hys⟩ := hPz1
    refine hZq ?_
    clear hZq
    obtain ⟨hn1, hn2⟩ := hnl i (by omega)
    obtain ⟨z1, z2⟩ := nlc_b pg
    obtain ⟨z3, z4⟩ := nlc_b (rsP pg i)
    k_steps
    unfold Stop
    refine wpAny_call ?_
    refine' codeAny_at (A' := lv 13) ?a1 ?a2 ?a3 ?a4 ?a5 ?_
    (case a1 => exact rfl); (case a2 => (exact Nat.le_of_ble_eq_true rfl)); (case a3 => (exact Nat.le_of_ble_eq_true rfl)); (case a4 => exact rfl); (case a5 => exact rfl)
    have hoff := lexL_off ok N8 (fun p hp => .tail _ (.tail _ (.tail _ hp))) c4 nq1 (its := [])
    have o3 := off.mem
    refine gt_led w _ _ a ok _ tl ysr (rsP pg i) n 0 (pre := [(I, oI), (C, oC), (D, LCg.lst ys), (el, listOf ev.toArray ne), (L + 1 + 1 + 1 + 1, o4)]) X TT F8 N8 ?_ hysr (by omega) (by omega) ?_
    · rintro p (hp | hp)
      · have d1 := o3 _ (.tail _ (.tail _ (.tail _ (.head _))))
        have d2 := o3 _ (.tail _ (.tail _ (.tail _ (.tail _ (.tail _ (.tail _ (.tail _ (.tail _ (.tail _ (.head _))))))))))
        rcases List.mem_cons.mp hp with rfl | hp
        · exact ⟨Ne.symm d1.1, Ne.symm d2.1⟩
        rcases List.mem_cons.mp hp with rfl | hp
        · exact ⟨Ne.symm d1.2.1, Ne.symm d2.2.1⟩
        rcases List.mem_cons.mp hp with rfl | hp
        · exact ⟨Ne.symm d1.2.2, Ne.symm d2.2.2⟩
        exact hoff p (.inl hp)
      · exact hoff p (.inr hp)
    · intro h9 tk9 n9 t9 tl9 ys9 F9 N9 hys9
      refine LCg.CompEnd.intro F9 N9 (lexL w a L el (listOf ev.toArray ne) o4 (1 + nlc pg - nlc (rsP pg (i + 1))) tl9 ys9 n9 (listOf #[] 0)) ?_ (off3_map off rfl) trivial ⟨tl9, ys9, n9, rfl, hys9, ?_⟩
      · intro p hp
        rw [show 1 + nlc pg - nlc (rsP pg i) + nlc (rsP pg i) - nlc (tkS (rsP pg i)).2 = 1 + nlc pg - nlc (rsP pg (i + 1)) by show _ = 1 + nlc pg - nlc (tkS (rsP pg i)).2; omega]
        exact hp
      · rw [toks_succ, List.map_append]
        exact strsAre_snoc hys
  · rintro ys news hPz1
    refine Classical.byContradiction fun hZq => ?_
    obtain ⟨tl, ysr, n, rfl, hysr, hys⟩ := hPz1
    refine hZq ?_
    clear hZq
    intro D8 h8 tk8 F8 N8 off8
    dsimp only
    refine wpAny_execs_nil ?_
    have lq := AllNq.off off8
    refine Classical.byContradiction fun hZq => ?_
    obtain ⟨q1, q2, q3, q4, q5, q6, q7, q8, q9, q10, q11, _⟩ := lq
    refine hZq ?_
    clear hZq
    have hat : AllAt (fun z => if z = (PySem.Str.ofString "waiting") then some (Value.ref D8) else over [((PySem.Str.ofString "page"), .str (T pg) tp), ((PySem.Str.ofString "due"), .ref el)] m0 z) [((PySem.Str.ofString "page"), .str (T pg) tp), ((PySem.Str.ofString "due"), .ref el), ((PySem.Str.ofString "waiting"), .ref D8)] :=
      ⟨(if_neg (show ¬ (PySem.Str.ofString "page") = (PySem.Str.ofString "waiting") by decide +kernel)).trans over_here, (if_neg (show ¬ (PySem.Str.ofString "due") = (PySem.Str.ofString "waiting") by decide +kernel)).trans (over_there (show (PySem.Str.ofString "due") ≠ (PySem.Str.ofString "page") by decide +kernel) over_here), if_pos rfl, trivial⟩
    exact ⟨rfl, D8, ys, ysr, _, n, tl, hys, hysr, ⟨q1, q11, q10, q4, trivial⟩, h8, tk8, _, rfl, by rw [over_self hat]; exact F8, N8⟩

end partBlG
theorem off_BlH : (1 : Nat) = 1 := by
  w_top off
  first | walk1 | rfl
section partBlH
/-- the row that waits was written: the ledger behind it -/
theorem pb_after {w : World} {a : LxA} (ok : a.Ok w) {ln : Int} {tl : Tok} {ys : List Value} {n : Nat} {its its' : List Value} {np np' : Nat} {g h' : Heap} {s : Shared} {L : Addr} {m : Str → Option Value} {pre : List (Addr × Obj)}
    (F : Fr g L s.heap m) (N : News g L s.heap (pre ++ (a.led w ln tl ys n ++ [(a.pb, listOf its.toArray np)]))) (hoff : ∀ p, p ∈ pre → p.1 ≠ a.pb) (K : Kp [a.pb] s.heap h') (e1 : h'.get? a.pb = some (listOf its'.toArray np')) :
    Fr g L h' m ∧ News g L h' (pre ++ (a.led w ln tl ys n ++ [(a.pb, listOf its'.toArray np')])) := by
  have sub : ∀ p ∈ a.led w ln tl ys n, p ∈ pre ++ (a.led w ln tl ys n ++ [(a.pb, listOf its.toArray np)]) := fun p hp => List.mem_append.mpr (.inr (List.mem_append.mpr (.inl hp)))
  have mP : (a.pb, listOf its.toArray np) ∈ pre ++ (a.led w ln tl ys n ++ [(a.pb, listOf its.toArray np)]) := List.mem_append.mpr (.inr (List.mem_append.mpr (.inr (.head _))))
  have ok' := ok
  refine Classical.byContradiction fun hZq => ?_
  obtain ⟨ts, n1, fcls, ⟨fd, fdat⟩, cdat, ⟨ccv, ccdat⟩, n2⟩ := ok
  refine hZq ?_
  clear hZq
  have lo : ∀ p ∈ a.led w ln tl ys n, p.1 ≠ a.pb := by
    intro p hp
    have hm := sub p hp
    rcases List.mem_cons.mp hp with rfl | hp
    · exact ne_of_cls N hm mP (fun e => nomatch e)
    rcases List.mem_cons.mp hp with rfl | hp
    · exact ne_of_cls N hm mP (fun e => by injection e with e; exact absurd e (by decide))
    rcases List.mem_cons.mp hp with rfl | hp
    · exact ne_of_cls N hm mP (fun e => nomatch e)
    rcases List.mem_cons.mp hp with rfl | hp
    · exact ne_of_cls N hm mP (fun e => by injection e with e; exact absurd e (by decide))
    rcases List.mem_cons.mp hp with rfl | hp
    · exact ne_of_data N hm mP (fun e => by rw [fdat] at e; exact nomatch e)
    rcases List.mem_cons.mp hp with rfl | hp
    · exact ne_of_data N hm mP (fun e => by rw [ccdat] at e; exact nomatch e)
    rcases List.mem_cons.mp hp with rfl | hp
    · exact ne_of_data N hm mP (fun e => by rw [cdat] at e; exact nomatch e)
    rw [List.mem_singleton.mp hp]
    exact n2
  refine after _ F N K (fun b hb => by rw [List.mem_singleton.mp hb]; exact ⟨_, mP⟩) (fun p hp => ?_)
  rcases List.mem_append.mp hp with hp | hp
  · exact .inl ⟨List.mem_append.mpr (.inl hp), fun q => hoff p hp (List.mem_singleton.mp q)⟩
  rcases List.mem_append.mp hp with hp | hp
  · exact .inl ⟨sub p hp, fun q => lo p hp (List.mem_singleton.mp q)⟩
  · rw [List.mem_singleton.mp hp]
    exact .inr ⟨e1, .inl ⟨_, mP⟩⟩
theorem allNe_map {I : Addr} {l l' : List (Addr × Obj)} (h : AllNe I l) (e : l'.map (·.1) = l.map (·.1)) : AllNe I l' :=
  AllNe.of fun p hp => by
    have h1 : p.1 ∈ l.map (·.1) := e ▸ List.mem_map_of_mem (f := (·.1)) hp
    refine Classical.byContradiction fun hZq => ?_
    obtain ⟨q, hq, e2⟩ := List.mem_map.mp h1
    refine hZq ?_
    clear hZq
    rw [← e2]; exact h.mem q hq
theorem blkH (w : World) (L fa : Addr) (cd : Value) (g h0 : Heap) (m0 : Str → Option Value) (gn : Array GenState) (dr : Drawn) (tk : Nat) (os : OsState) (pg : List Nat) (el wt : Addr) (tp tl : Tok) (a : LxA) (ok : a.Ok w) (ln : Int) (ev ys wv : List Value) (toks : List (List Nat)) (ne n nw : Nat) (o4 : Obj) {pp : Program} {loose : List Str} {mean : ExcName → Option Value} {mg mb : Str → Option Value}
  (X : (K0 w.params).In g) (TT : Top pp loose mean mg mb g) (c4 : o4.data = .cell (some (.ref a.x))) (nq2 : Nq el a.pb) (hwq : Nq a.pb wt) (hwv : StrsAre wv (toks.map T)) (htl : toks.length ≤ 100)
  (F0 : Fr g L h0 (over [((PySem.Str.ofString "page"), .str (T pg) tp), ((PySem.Str.ofString "due"), .ref el), ((PySem.Str.ofString "waiting"), .ref wt)] m0)) (N0 : News g L h0 ((wt, listOf wv.toArray nw) :: lexL w a L el (listOf ev.toArray ne) o4 ln tl ys n (listOf #[] 0))) :
  wpAny (model prog w) (lawA L fa cd) (execs ((lawBS.1.drop 8).take 1) (lawEnv L fa cd)) (Next (fun s' => ∃ np,
    At g L [((PySem.Str.ofString "page"), .str (T pg) tp), ((PySem.Str.ofString "due"), .ref el)] (lexL w a L el (listOf ev.toArray ne) o4 ln tl ys n (listOf wv.toArray np)) ⟨h0, gn, dr, tk, os⟩ s')) noE ⟨h0, gn, dr, tk, os⟩ := by
  have _kf : (PySem.Challenge.rw_pg0230_02, K0) = (PySem.Challenge.rw_pg0230_02, K0) := by k_fill; rfl
  have e1 : (lawBS.1.drop 8).take 1 = [_] := rfl
  have e2 : lawBS.2 = ⟨_, _, _, _, _⟩ := rfl
  unfold lawA lawEnv
  rw [e1, e2]
  clear e1 e2
  have hwl := hwv.length
  rw [List.length_map] at hwl
  refine wpAny_execs_cons ?_
  with_reducible refine for_stmt ?_ ?mzhs
  (case mzhs => intro _; rfl)
  k_steps
  rename Fr _ _ _ _ => F1
  rename News _ _ _ _ => N1
  refine it_list (L := L) (its := wv.toArray) (fun i lo nw' => ∃ np, lo = [((PySem.Str.ofString "page"), .str (T pg) tp), ((PySem.Str.ofString "due"), .ref el), ((PySem.Str.ofString "waiting"), .ref wt)] ∧ nw' = (wt, listOf wv.toArray nw) :: lexL w a L el (listOf ev.toArray ne) o4 ln tl ys n (listOf (wv.take i).toArray np)) rfl rfl (listOf wv.toArray nw) ⟨rfl, _, rfl⟩ _ _ F1 N1 (.inr (by rintro i lo nw' ⟨np, rfl, rfl⟩; exact .head _)) (by (first | focus ((repeat (first | exact True.intro | (refine AllAt.keep _ rfl ?_ ?_; (focus decide +kernel)) | (refine AllAt.skip _ rfl ?_ ?_; (focus decide +kernel)))); done) | ((repeat (refine And.intro ?_ ?_; (focus (first | walk_at "m_look" | rfl)))); exact True.intro))) ?_ ⟨0, rfl, rfl⟩ ?_ ?_
  · exact inAll_of fun p hp => hp
  · rintro i v I h3 tk3 m3 lo nw' oI hv hPz1 F3 N3 hne hcl
    refine Classical.byContradiction fun hZq => ?_
    obtain ⟨np, rfl, rfl⟩ := hPz1
    refine hZq ?_
    clear hZq
    refine Classical.byContradiction fun hZq => ?_
    obtain ⟨tok, tt, htk, rfl, _⟩ := item_str hwv (i := i) (v := v) (by simpa using hv)
    refine hZq ?_
    clear hZq
    k_steps
    unfold Stop
    refine wpAny_call ?_
    refine' codeAny_at (A' := lv 9) ?a1 ?a2 ?a3 ?a4 ?a5 ?_
    (case a1 => exact rfl); (case a2 => (exact Nat.le_of_ble_eq_true rfl)); (case a3 => (exact Nat.le_of_ble_eq_true rfl)); (case a4 => exact rfl); (case a5 => exact rfl)
    rename Fr _ _ _ _ => F5
    rename News _ _ _ _ => N5
    have hi9 : i < wv.length := (List.getElem?_eq_some_iff.mp (by simpa using hv)).1
    have mP : (a.pb, listOf (wv.take i).toArray np) ∈ (I, oI) :: (wt, listOf wv.toArray nw) :: lexL w a L el (listOf ev.toArray ne) o4 ln tl ys n (listOf (wv.take i).toArray np) := .tail _ (.tail _ (.tail _ (.tail _ (List.mem_append.mpr (.inr (.head _))))))
    have m4 : (L + 1 + 1 + 1 + 1, o4) ∈ (I, oI) :: (wt, listOf wv.toArray nw) :: lexL w a L el (listOf ev.toArray ne) o4 ln tl ys n (listOf (wv.take i).toArray np) := .tail _ (.tail _ (.tail _ (.head _)))
    have mP' : (a.pb, listOf (wv.take i).toArray np) ∈ (wt, listOf wv.toArray nw) :: lexL w a L el (listOf ev.toArray ne) o4 ln tl ys n (listOf (wv.take i).toArray np) := .tail _ (.tail _ (.tail _ (List.mem_append.mpr (.inr (.head _)))))
    have hIp : I ≠ a.pb := Ne.symm (hne.mem _ mP')
    refine push_spec w _ _ a.x a.dx a.pb a.k0 a.k1 a.k2 a.k3 tl a.tw _ ln (.ref a.hx) (wv.take i) np tok (gd_of X TT F5 N5 _ (HasAll.mem ⟨⟨_, .tail _ (.tail _ (.tail _ (.tail _ (.head _))))⟩, ⟨_, .tail _ (.tail _ (.tail _ (.tail _ (.tail _ (.head _)))))⟩, ⟨_, mP⟩, trivial⟩)) (N5 _ (.tail _ (.tail _ (.tail _ (.tail _ (.head _)))))).1 (N5 _ (.tail _ (.tail _ (.tail _ (.tail _ (.tail _ (.head _))))))).1 (N5 _ mP).1 (by rw [List.length_take]; omega) ?_
    intro h7 tk7 n7 K7 f7
    obtain ⟨F7, N7⟩ := pb_after ok (pre := [(I, oI), (wt, listOf wv.toArray nw), (el, listOf ev.toArray ne), (L + 1 + 1 + 1 + 1, o4)]) F5 N5 (fun p hp => by
      rcases List.mem_cons.mp hp with rfl | hp
      · exact hIp
      rcases List.mem_cons.mp hp with rfl | hp
      · exact hwq.r
      rcases List.mem_cons.mp hp with rfl | hp
      · exact nq2
      rw [List.mem_singleton.mp hp]
      exact ne_of_data N5 m4 mP (fun e => by rw [c4] at e; exact nomatch e)) K7 f7
    have htk9 : wv.take i ++ [Value.str tok tt] = wv.take (i + 1) := by
      rw [List.take_add_one, show wv[i]? = some (Value.str tok tt) by simpa using hv]; rfl
    rw [htk9] at N7
    clear N5 F5
    k_steps
    exact turned_next [((PySem.Str.ofString "page"), .str (T pg) tp), ((PySem.Str.ofString "due"), .ref el), ((PySem.Str.ofString "waiting"), .ref wt)] ((wt, listOf wv.toArray nw) :: lexL w a L el (listOf ev.toArray ne) o4 ln tl ys n (listOf (wv.take (i + 1)).toArray n7)) (.inl rfl) F7 N7 (by (first | focus ((repeat (first | exact True.intro | (refine AllAt.keep _ rfl ?_ ?_; (focus decide +kernel)) | (refine AllAt.skip _ rfl ?_ ?_; (focus decide +kernel)))); done) | ((repeat (refine And.intro ?_ ?_; (focus (first | walk_at "m_look" | rfl)))); exact True.intro))) (inAll_of fun p hp => hp) (allNe_map hne rfl) ⟨n7, rfl, rfl⟩
  · rintro h3 tk3 m3 lo nw' hPz1 F3 N3
    refine Classical.byContradiction fun hZq => ?_
    obtain ⟨np, rfl, rfl⟩ := hPz1
    refine hZq ?_
    clear hZq
    refine wpAny_execs_nil ?_
    have hsz : wv.toArray.size = wv.length := by simp
    rw [hsz, List.take_length] at N3
    exact ⟨rfl, np, At.intro F3 N3 (by (first | focus ((repeat (first | exact True.intro | (refine AllAt.keep _ rfl ?_ ?_; (focus decide +kernel)) | (refine AllAt.skip _ rfl ?_ ?_; (focus decide +kernel)))); done) | ((repeat (refine And.intro ?_ ?_; (focus (first | walk_at "m_look" | rfl)))); exact True.intro))) (inAll_of fun p hp => .tail _ hp)⟩

end partBlH
theorem off_BlI : (1 : Nat) = 1 := by
  w_top off
  first | walk1 | rfl
section partBlI
/-- how a while's test ends -/
noncomputable def WTest (prog : Program) (w : World) (A : Around) (env : Env) (body : List Stmt) (J : Nat → Shared → Prop) (k : Nat) (Q : Flow → Shared → Prop) (b : Bool) (s₂ : Shared) : Prop :=
  if b = true then wpAny (model prog w) A (execs body env) (TurnJ J k Q) noE s₂ else Q .next s₂
theorem while_J {prog : Program} {w : World} {A : Around} {env : Env} {test : Expr} {body : List Stmt} {pos : Pos} {Q : Flow → Shared → Prop} (J : Nat → Shared → Prop)
    (turn : ∀ k s, J k s → wpAny (model prog w) A (isTrue test env (eval test env)) (WTest prog w A env body J k Q) noE s) : ∀ k s, J k s → wpAny (model prog w) A (exec (.While test body [] pos) env) Q noE s := by
  have go : ∀ k s, J k s → WhlRest prog w A noE env test body [] Q 1 s := by
    intro k
    induction k using Nat.strongRecOn with
    | ind k ih =>
      intro s hj
      refine whl_turn (k := 0) (fun _ _ h => h.elim) (wpAny_mono (turn k s hj) (fun b s₂ h => ?_) fun _ _ x => x)
      unfold WTest at h
      cases b with
      | false => exact WhlIf.no rfl (wpAny_execs_nil (by simpa using h))
      | true =>
        refine WhlIf.yes rfl (wpAny_mono (by simpa using h) (fun fl s₃ h3 => ?_) fun _ _ x => x)
        cases fl with
        | next => obtain ⟨m, hm, hj'⟩ := h3; exact ih m hm s₃ hj'
        | cont => obtain ⟨m, hm, hj'⟩ := h3; exact ih m hm s₃ hj'
        | brk => exact h3
        | ret v => exact h3
  exact fun k s hj => whl_start 1 (go k s hj)
/-- what _law_turned makes of a word -/
noncomputable def Good (p q : List Nat) : Prop := (p = [] ∧ q = []) ∨ (p ≠ [] ∧ ∃ (cnt : List Int) (b n nt : Int) (met : List (List Nat)) (r gr bl : Int) (hu sa : UInt64) (v dep : Int) (ns2 : List Int),
  p.length ≤ 500 ∧ wsRun ⟨[], 0, 0, 0⟩ p = ⟨cnt, b, n, nt⟩ ∧ 0 ≤ n ∧ n ≤ p.length ∧ (0 ≤ r ∧ r ≤ 16) ∧ (0 ≤ gr ∧ gr ≤ 16) ∧ (0 ≤ bl ∧ bl ≤ 16) ∧ p.drop n.toNat = (met ++ [lettersP [r, gr, bl]]).flatten ∧ (∀ l ∈ met, l.length = 3) ∧ TuH cnt b nt r gr bl hu sa v dep ns2 ∧
  q = if lettersP [r, gr, bl] ∈ met then [] else p ++ lettersP ns2)
/-- the row of words: pd waits, cs is the file's rest, p is told, q is pushed -/
structure RowOk (M : Nat) (pd : Nat → List (List Nat)) (cs p q : Nat → List Nat) : Prop where
  good : ∀ j, j < M → Good (p j) (q j)
  last : ∀ j, j < M → (p j = [] ↔ j + 1 = M)
  wait : ∀ j, j < M → ∀ x r, pd j = x :: r → p j = x ∧ cs (j + 1) = cs j ∧ pd (j + 1) = r ++ (if q j = [] then [] else [q j])
  file : ∀ j, j < M → pd j = [] → p j = (tkS (cs j)).1 ∧ cs (j + 1) = (tkS (cs j)).2 ∧ pd (j + 1) = if q j = [] then [] else [q j]
  few : ∀ j, j ≤ M → (pd j).length ≤ 2
  len : ∀ j, j ≤ M → (cs j).length ≤ 1000

end partBlI
theorem off_BlI1 : (1 : Nat) = 1 := by
  w_top off
  first | walk1 | rfl
section partBlI1
local macro_rules | `(tactic| walk_at "call builtin:list.append") => `(tactic| refine stop_at ?_)
/-- the body of the while -/
noncomputable def bodyI : List Stmt := match (lawBS.1.drop 10).head? with
  | some (.While _ b _ _) => b
  | _ => []
/-- told.append(lexer.get_token()), a word waits -/
theorem turnI1 (w : World) (L fa : Addr) (cd : Value) (g h0 : Heap) (m0 : Str → Option Value) (gn : Array GenState) (dr : Drawn) (tk : Nat) (os : OsState) (pg x0 : List Nat) (el td : Addr) (tp tl t0 : Tok) (a : LxA) (ok : a.Ok w) (ln : Int) (ev ys tv wv : List Value) (ne n np nt : Nat) (o4 : Obj) {pp : Program} {loose : List Str} {mean : ExcName → Option Value} {mg mb : Str → Option Value}
  (X : (K0 w.params).In g) (TT : Top pp loose mean mg mb g) (c4 : o4.data = .cell (some (.ref a.x))) (nq2 : Nq el a.pb) (hwv : wv.length ≤ 10) (htv : tv.length ≤ 100) (hq : NqL td [el, L + 1 + 1 + 1 + 1, a.x, a.dx, a.hx, a.hdx, a.fA, a.cc, a.cA, a.D, a.pb])
  (F0 : Fr g L h0 (over [((PySem.Str.ofString "page"), .str (T pg) tp), ((PySem.Str.ofString "due"), .ref el), ((PySem.Str.ofString "told"), .ref td)] m0)) (N0 : News g L h0 ((td, listOf tv.toArray nt) :: lexL w a L el (listOf ev.toArray ne) o4 ln tl ys n (listOf (Value.str (T x0) t0 :: wv).toArray np))) :
  wpAny (model prog w) (lawA L fa cd) (execs (bodyI.take 1) (lawEnv L fa cd)) (Next (fun s' => ∃ np',
    At g L [((PySem.Str.ofString "page"), .str (T pg) tp), ((PySem.Str.ofString "due"), .ref el), ((PySem.Str.ofString "told"), .ref td)] ((td, listOf (tv ++ [Value.str (T x0) t0]).toArray (nt + 1)) :: lexL w a L el (listOf ev.toArray ne) o4 ln tl ys n (listOf wv.toArray np')) ⟨h0, gn, dr, tk, os⟩ s')) noE ⟨h0, gn, dr, tk, os⟩ := by
  have _kf : (PySem.Challenge.rw_pg0230_02, K0) = (PySem.Challenge.rw_pg0230_02, K0) := by k_fill; rfl
  have e1 : bodyI.take 1 = [_] := rfl
  have e2 : lawBS.2 = ⟨_, _, _, _, _⟩ := rfl
  unfold lawA lawEnv
  rw [e1, e2]
  clear e1 e2
  refine Classical.byContradiction fun hZq => ?_
  obtain ⟨u1, u2, u3, u4, u5, u6, u7, u8, u9, u10, u11, _⟩ := hq
  refine hZq ?_
  clear hZq
  k_steps
  unfold Stop
  refine wpAny_call ?_
  refine' codeAny_at (A' := lv 9) ?a1 ?a2 ?a3 ?a4 ?a5 ?_
  (case a1 => exact rfl); (case a2 => (exact Nat.le_of_ble_eq_true rfl)); (case a3 => (exact Nat.le_of_ble_eq_true rfl)); (case a4 => exact rfl); (case a5 => exact rfl)
  rename Fr _ _ _ _ => F5
  rename News _ _ _ _ => N5
  have mP : (a.pb, listOf (Value.str (T x0) t0 :: wv).toArray np) ∈ (td, listOf tv.toArray nt) :: lexL w a L el (listOf ev.toArray ne) o4 ln tl ys n (listOf (Value.str (T x0) t0 :: wv).toArray np) := .tail _ (.tail _ (.tail _ (List.mem_append.mpr (.inr (.head _)))))
  have m4 : (L + 1 + 1 + 1 + 1, o4) ∈ (td, listOf tv.toArray nt) :: lexL w a L el (listOf ev.toArray ne) o4 ln tl ys n (listOf (Value.str (T x0) t0 :: wv).toArray np) := .tail _ (.tail _ (.head _))
  refine gettok_pend w _ _ a.x a.dx a.pb a.k0 a.k1 a.k2 a.k3 tl a.tw t0 ln (.ref a.hx) wv np (T x0) (gd_of X TT F5 N5 _ (HasAll.mem ⟨⟨_, .tail _ (.tail _ (.tail _ (.head _)))⟩, ⟨_, .tail _ (.tail _ (.tail _ (.tail _ (.head _))))⟩, ⟨_, mP⟩, trivial⟩)) (N5 _ (.tail _ (.tail _ (.tail _ (.head _))))).1 (N5 _ (.tail _ (.tail _ (.tail _ (.tail _ (.head _)))))).1 (N5 _ mP).1 (by omega) ?_
  intro h7 tk7 n7 K7 f7
  obtain ⟨F7, N7⟩ := pb_after ok (pre := [(td, listOf tv.toArray nt), (el, listOf ev.toArray ne), (L + 1 + 1 + 1 + 1, o4)]) F5 N5 (fun p hp => by
    rcases List.mem_cons.mp hp with rfl | hp
    · exact u11
    rcases List.mem_cons.mp hp with rfl | hp
    · exact nq2
    rw [List.mem_singleton.mp hp]
    exact ne_of_data N5 m4 mP (fun e => by rw [c4] at e; exact nomatch e)) K7 f7
  dsimp only [LxA.led, List.cons_append, List.nil_append] at N7
  k_steps
  unfold Stop
  refine' append_K ?mzF ?mzN ?mzU ?_ ?mzz
  (case mzF => k_asm)
  (case mzN => k_asm)
  (case mzU => k_upd)
  (case mzz => rw [sizeLine_eq]; simp; omega)
  intro h10 F10 N10
  rw [List.push_toArray] at N10
  refine wpAny_execs_nil ?_
  exact ⟨rfl, n7, At.intro F10 N10 (by (first | focus ((repeat (first | exact True.intro | (refine AllAt.keep _ rfl ?_ ?_; (focus decide +kernel)) | (refine AllAt.skip _ rfl ?_ ?_; (focus decide +kernel)))); done) | ((repeat (refine And.intro ?_ ?_; (focus (first | walk_at "m_look" | rfl)))); exact True.intro))) (inAll_of fun p hp => hp)⟩

end partBlI1
theorem off_BlI2 : (1 : Nat) = 1 := by
  w_top off
  first | walk1 | rfl
section partBlI2
local macro_rules | `(tactic| walk_at "call builtin:list.append") => `(tactic| refine stop_at ?_)
/-- told.append(lexer.get_token()), nothing waits -/
theorem turnI2 (w : World) (L fa : Addr) (cd : Value) (g h0 : Heap) (m0 : Str → Option Value) (gn : Array GenState) (dr : Drawn) (tk : Nat) (os : OsState) (pg cs : List Nat) (el td : Addr) (tp tl : Tok) (a : LxA) (ok : a.Ok w) (ln : Int) (ev ys tv : List Value) (ne n np nt : Nat) (o4 : Obj) {pp : Program} {loose : List Str} {mean : ExcName → Option Value} {mg mb : Str → Option Value}
  (X : (K0 w.params).In g) (TT : Top pp loose mean mg mb g) (c4 : o4.data = .cell (some (.ref a.x))) (nq1 : Nq el a.D) (hys : StrsAre ys (cs.map sg)) (hcs : cs.length ≤ 1000) (hln : 0 ≤ ln ∧ ln ≤ 10000) (htv : tv.length ≤ 100) (hq : NqL td [el, L + 1 + 1 + 1 + 1, a.x, a.dx, a.hx, a.hdx, a.fA, a.cc, a.cA, a.D, a.pb])
  (F0 : Fr g L h0 (over [((PySem.Str.ofString "page"), .str (T pg) tp), ((PySem.Str.ofString "due"), .ref el), ((PySem.Str.ofString "told"), .ref td)] m0)) (N0 : News g L h0 ((td, listOf tv.toArray nt) :: lexL w a L el (listOf ev.toArray ne) o4 ln tl ys n (listOf #[] np))) :
  wpAny (model prog w) (lawA L fa cd) (execs (bodyI.take 1) (lawEnv L fa cd)) (Next (fun s' => ∃ t0 ys' n' tl', StrsAre ys' ((tkS cs).2.map sg) ∧
    At g L [((PySem.Str.ofString "page"), .str (T pg) tp), ((PySem.Str.ofString "due"), .ref el), ((PySem.Str.ofString "told"), .ref td)] ((td, listOf (tv ++ [Value.str (T (tkS cs).1) t0]).toArray (nt + 1)) :: lexL w a L el (listOf ev.toArray ne) o4 (ln + nlc cs - nlc (tkS cs).2) tl' ys' n' (listOf #[] np)) ⟨h0, gn, dr, tk, os⟩ s')) noE ⟨h0, gn, dr, tk, os⟩ := by
  have _kf : (PySem.Challenge.rw_pg0230_02, K0) = (PySem.Challenge.rw_pg0230_02, K0) := by k_fill; rfl
  have e1 : bodyI.take 1 = [_] := rfl
  have e2 : lawBS.2 = ⟨_, _, _, _, _⟩ := rfl
  unfold lawA lawEnv
  rw [e1, e2]
  clear e1 e2
  refine Classical.byContradiction fun hZq => ?_
  obtain ⟨u1, u2, u3, u4, u5, u6, u7, u8, u9, u10, u11, _⟩ := hq
  refine hZq ?_
  clear hZq
  k_steps
  unfold Stop
  refine wpAny_call ?_
  refine' codeAny_at (A' := lv 13) ?a1 ?a2 ?a3 ?a4 ?a5 ?_
  (case a1 => exact rfl); (case a2 => (exact Nat.le_of_ble_eq_true rfl)); (case a3 => (exact Nat.le_of_ble_eq_true rfl)); (case a4 => exact rfl); (case a5 => exact rfl)
  rename Fr _ _ _ _ => F5
  rename News _ _ _ _ => N5
  have hoff := lexL_off ok N5 (fun p hp => .tail _ hp) c4 nq1 (its := [])
  refine gt_led w _ _ a ok ln tl ys cs n np (pre := [(td, listOf tv.toArray nt), (el, listOf ev.toArray ne), (L + 1 + 1 + 1 + 1, o4)]) X TT F5 N5 ?_ hys (by omega) (by omega) ?_
  · rintro p (hp | hp)
    · rcases List.mem_cons.mp hp with rfl | hp
      · exact ⟨u4, u10⟩
      exact hoff p (.inl hp)
    · exact hoff p (.inr hp)
  intro h7 tk7 n7 t7 tl7 ys7 F7 N7 hys7
  dsimp only [LxA.led, List.cons_append, List.nil_append] at N7
  k_steps
  unfold Stop
  refine' append_K ?mzF ?mzN ?mzU ?_ ?mzz
  (case mzF => k_asm)
  (case mzN => k_asm)
  (case mzU => k_upd)
  (case mzz => rw [sizeLine_eq]; simp; omega)
  intro h10 F10 N10
  rw [List.push_toArray] at N10
  refine wpAny_execs_nil ?_
  exact ⟨rfl, _, ys7, n7, tl7, hys7, At.intro F10 N10 (by (first | focus ((repeat (first | exact True.intro | (refine AllAt.keep _ rfl ?_ ?_; (focus decide +kernel)) | (refine AllAt.skip _ rfl ?_ ?_; (focus decide +kernel)))); done) | ((repeat (refine And.intro ?_ ?_; (focus (first | walk_at "m_look" | rfl)))); exact True.intro))) (inAll_of fun p hp => hp)⟩

end partBlI2
theorem off_BlI3 : (1 : Nat) = 1 := by
  w_top off
  first | walk1 | rfl
section partBlI3
local macro_rules | `(tactic| walk_at "subscriptTail Name UnaryOp ref int") => `(tactic| refine stop_at ?_)
/-- later, and _law_turned -/
theorem turnI3 (w : World) (L fa : Addr) (cd : Value) (g h0 : Heap) (m0 : Str → Option Value) (gn : Array GenState) (dr : Drawn) (tk : Nat) (os : OsState) (pg p q : List Nat) (hgood : Good p q) (el td : Addr) (tp tl t0 : Tok) (a : LxA) (ln : Int) (ev ys tv : List Value) (ne n nt : Nat) (o4 opb : Obj) {pp : Program} {loose : List Str} {mean : ExcName → Option Value} {mg mb : Str → Option Value}
  (X : (K0 w.params).In g) (TT : Top pp loose mean mg mb g) (htv : tv.length ≤ 100)
  (F0 : Fr g L h0 (over [((PySem.Str.ofString "page"), .str (T pg) tp), ((PySem.Str.ofString "due"), .ref el), ((PySem.Str.ofString "told"), .ref td)] m0)) (N0 : News g L h0 ((td, listOf (tv ++ [Value.str (T p) t0]).toArray nt) :: lexL w a L el (listOf ev.toArray ne) o4 ln tl ys n opb)) :
  wpAny (model prog w) (lawA L fa cd) (execs ((bodyI.drop 1).take 2) (lawEnv L fa cd)) (Next (fun s' => ∃ t9,
    At g L [((PySem.Str.ofString "page"), .str (T pg) tp), ((PySem.Str.ofString "due"), .ref el), ((PySem.Str.ofString "told"), .ref td), ((PySem.Str.ofString "later"), .str (T q) t9)] ((td, listOf (tv ++ [Value.str (T p) t0]).toArray nt) :: lexL w a L el (listOf ev.toArray ne) o4 ln tl ys n opb) ⟨h0, gn, dr, tk, os⟩ s')) noE ⟨h0, gn, dr, tk, os⟩ := by
  have _kf : (PySem.Challenge.rw_pg0230_02, K0) = (PySem.Challenge.rw_pg0230_02, K0) := by k_fill; rfl
  have e1 : (bodyI.drop 1).take 2 = [_, _] := rfl
  have e2 : lawBS.2 = ⟨_, _, _, _, _⟩ := rfl
  unfold lawA lawEnv
  rw [e1, e2]
  clear e1 e2
  have hE : PySem.Str.ofString "" = T [] := by decide +kernel
  k_steps
  unfold Stop
  rename News _ _ _ _ => N1
  refine kim_back (l := tv ++ [Value.str (T p) t0]) N1 (.head _) rfl rfl (by decide) (by simp; omega) (by decide) (x := Value.str (T p) t0) (last_get _ _) ?_
  rcases hgood with ⟨rfl, rfl⟩ | ⟨hp, cnt, b, n9, nt9, met, r, gr, bl, hu, sa, v, dep, ns2, z1, z2, z3, z4, z5, z6, z7, z8, z9, HH, rfl⟩
  · k_steps
    rename Fr _ _ _ _ => F9
    rename News _ _ _ _ => N9
    rw [hE] at F9
    exact ⟨rfl, _, At.intro F9 N9 (by (first | focus ((repeat (first | exact True.intro | (refine AllAt.keep _ rfl ?_ ?_; (focus decide +kernel)) | (refine AllAt.skip _ rfl ?_ ?_; (focus decide +kernel)))); done) | ((repeat (refine And.intro ?_ ?_; (focus (first | walk_at "m_look" | rfl)))); exact True.intro))) (inAll_of fun p hp => hp)⟩
  · have hpe : (T p == PySem.Str.ofString "") = false := by
      rw [hE]
      have : T p ≠ T [] := fun e => hp (T_inj e)
      simpa using this
    have hpn : (T p != PySem.Str.ofString "") = true := by simp only [bne, hpe, Bool.not_false]
    k_steps
    all_goals first | exact absurd (hpn.symm.trans (by assumption)) (by decide) | exact absurd (hpe.symm.trans (by assumption)) (by decide) | skip
    unfold Stop
    rename News _ _ _ _ => N2
    refine kim_back (l := tv ++ [Value.str (T p) t0]) N2 (.head _) rfl rfl (by decide) (by simp; omega) (by decide) (x := Value.str (T p) t0) (last_get _ _) ?_
    k_steps
    unfold Stop
    refine wpAny_call ?_
    refine' codeAny_at (A' := lv 13) ?a1 ?a2 ?a3 ?a4 ?a5 ?_
    (case a1 => exact rfl); (case a2 => (exact Nat.le_of_ble_eq_true rfl)); (case a3 => (exact Nat.le_of_ble_eq_true rfl)); (case a4 => exact rfl); (case a5 => exact rfl)
    rename News _ _ _ _ => N3
    rename Fr _ _ _ _ => F3
    refine turned_spec w _ _ (gd_of0 X TT F3) p t0 cnt b n9 nt9 (by omega) z2 z3 z4 met r gr bl z5 z6 z7 z8 z9 hu sa v dep ns2 HH ?_
    intro t7 h7 tk7 K7
    obtain ⟨F7, N7⟩ := after_none F3 N3 K7
    clear F3 N3
    k_steps
    rename Fr _ _ _ _ => F9
    rename News _ _ _ _ => N9
    exact ⟨rfl, _, At.intro F9 N9 (by (first | focus ((repeat (first | exact True.intro | (refine AllAt.keep _ rfl ?_ ?_; (focus decide +kernel)) | (refine AllAt.skip _ rfl ?_ ?_; (focus decide +kernel)))); done) | ((repeat (refine And.intro ?_ ?_; (focus (first | walk_at "m_look" | rfl)))); exact True.intro))) (inAll_of fun p hp => hp)⟩

end partBlI3
theorem off_BlI4 : (1 : Nat) = 1 := by
  w_top off
  first | walk1 | rfl
section partBlI4
/-- the word goes back to the row that waits -/
theorem turnI4 (w : World) (L fa : Addr) (cd : Value) (g h0 : Heap) (m0 : Str → Option Value) (gn : Array GenState) (dr : Drawn) (tk : Nat) (os : OsState) (pg q : List Nat) (el td : Addr) (tp tl tq : Tok) (a : LxA) (ok : a.Ok w) (ln : Int) (ev ys tv wv : List Value) (ne n nt np : Nat) (o4 : Obj) {pp : Program} {loose : List Str} {mean : ExcName → Option Value} {mg mb : Str → Option Value}
  (X : (K0 w.params).In g) (TT : Top pp loose mean mg mb g) (c4 : o4.data = .cell (some (.ref a.x))) (nq2 : Nq el a.pb) (hwv : wv.length ≤ 10) (htp : Nq td a.pb)
  (F0 : Fr g L h0 (over [((PySem.Str.ofString "page"), .str (T pg) tp), ((PySem.Str.ofString "due"), .ref el), ((PySem.Str.ofString "told"), .ref td), ((PySem.Str.ofString "later"), .str (T q) tq)] m0)) (N0 : News g L h0 ((td, listOf tv.toArray nt) :: lexL w a L el (listOf ev.toArray ne) o4 ln tl ys n (listOf wv.toArray np))) :
  wpAny (model prog w) (lawA L fa cd) (execs (bodyI.drop 3) (lawEnv L fa cd)) (Next (fun s' => ∃ np',
    At g L [((PySem.Str.ofString "page"), .str (T pg) tp), ((PySem.Str.ofString "due"), .ref el), ((PySem.Str.ofString "told"), .ref td)] ((td, listOf tv.toArray nt) :: lexL w a L el (listOf ev.toArray ne) o4 ln tl ys n (listOf (if q = [] then wv else wv ++ [Value.str (T q) tq]).toArray np')) ⟨h0, gn, dr, tk, os⟩ s')) noE ⟨h0, gn, dr, tk, os⟩ := by
  have _kf : (PySem.Challenge.rw_pg0230_02, K0) = (PySem.Challenge.rw_pg0230_02, K0) := by k_fill; rfl
  have e1 : bodyI.drop 3 = [_] := rfl
  have e2 : lawBS.2 = ⟨_, _, _, _, _⟩ := rfl
  unfold lawA lawEnv
  rw [e1, e2]
  clear e1 e2
  have hE : PySem.Str.ofString "" = T [] := by decide +kernel
  by_cases hq : q = []
  · subst hq
    rw [if_pos rfl]
    have hpn : (T [] != PySem.Str.ofString "") = false := by rw [hE]; simp
    k_steps
    all_goals first | exact absurd (hpn.symm.trans (by assumption)) (by decide) | skip
    exact ⟨rfl, np, At.intro (by assumption) (by assumption) (by (first | focus ((repeat (first | exact True.intro | (refine AllAt.keep _ rfl ?_ ?_; (focus decide +kernel)) | (refine AllAt.skip _ rfl ?_ ?_; (focus decide +kernel)))); done) | ((repeat (refine And.intro ?_ ?_; (focus (first | walk_at "m_look" | rfl)))); exact True.intro))) (inAll_of fun p hp => hp)⟩
  · rw [if_neg hq]
    have hpn : (T q != PySem.Str.ofString "") = true := by
      rw [hE]
      have : T q ≠ T [] := fun e => hq (T_inj e)
      simpa using this
    k_steps
    all_goals first | exact absurd (hpn.symm.trans (by assumption)) (by decide) | skip
    unfold Stop
    refine wpAny_call ?_
    refine' codeAny_at (A' := lv 9) ?a1 ?a2 ?a3 ?a4 ?a5 ?_
    (case a1 => exact rfl); (case a2 => (exact Nat.le_of_ble_eq_true rfl)); (case a3 => (exact Nat.le_of_ble_eq_true rfl)); (case a4 => exact rfl); (case a5 => exact rfl)
    rename Fr _ _ _ _ => F5
    rename News _ _ _ _ => N5
    have mP : (a.pb, listOf wv.toArray np) ∈ (td, listOf tv.toArray nt) :: lexL w a L el (listOf ev.toArray ne) o4 ln tl ys n (listOf wv.toArray np) := .tail _ (.tail _ (.tail _ (List.mem_append.mpr (.inr (.head _)))))
    have m4 : (L + 1 + 1 + 1 + 1, o4) ∈ (td, listOf tv.toArray nt) :: lexL w a L el (listOf ev.toArray ne) o4 ln tl ys n (listOf wv.toArray np) := .tail _ (.tail _ (.head _))
    refine push_spec w _ _ a.x a.dx a.pb a.k0 a.k1 a.k2 a.k3 tl a.tw _ ln (.ref a.hx) wv np (T q) (gd_of X TT F5 N5 _ (HasAll.mem ⟨⟨_, .tail _ (.tail _ (.tail _ (.head _)))⟩, ⟨_, .tail _ (.tail _ (.tail _ (.tail _ (.head _))))⟩, ⟨_, mP⟩, trivial⟩)) (N5 _ (.tail _ (.tail _ (.tail _ (.head _))))).1 (N5 _ (.tail _ (.tail _ (.tail _ (.tail _ (.head _)))))).1 (N5 _ mP).1 (by omega) ?_
    intro h7 tk7 n7 K7 f7
    obtain ⟨F7, N7⟩ := pb_after ok (pre := [(td, listOf tv.toArray nt), (el, listOf ev.toArray ne), (L + 1 + 1 + 1 + 1, o4)]) F5 N5 (fun p hp => by
      rcases List.mem_cons.mp hp with rfl | hp
      · exact htp
      rcases List.mem_cons.mp hp with rfl | hp
      · exact nq2
      rw [List.mem_singleton.mp hp]
      exact ne_of_data N5 m4 mP (fun e => by rw [c4] at e; exact nomatch e)) K7 f7
    clear F5 N5
    k_steps
    exact ⟨rfl, n7, At.intro (by assumption) (by assumption) (by (first | focus ((repeat (first | exact True.intro | (refine AllAt.keep _ rfl ?_ ?_; (focus decide +kernel)) | (refine AllAt.skip _ rfl ?_ ?_; (focus decide +kernel)))); done) | ((repeat (refine And.intro ?_ ?_; (focus (first | walk_at "m_look" | rfl)))); exact True.intro))) (inAll_of fun p hp => hp)⟩

end partBlI4
theorem off_BlI5 : (1 : Nat) = 1 := by
  w_top off
  first | walk1 | rfl
section partBlI5
theorem strsAre_dropN : ∀ (k : Nat) {vs : List Value} {ns : List Str}, StrsAre vs ns → StrsAre (vs.drop k) (ns.drop k)
  | 0, _, _, h => h
  | k + 1, _, _, .nil => .nil
  | k + 1, _, _, .cons _ _ h => strsAre_dropN k h
theorem drop_last (tw : List (List Nat)) : (tw.drop (tw.length - 1) = [[]]) ↔ tw.getLast? = some [] := by
  rcases List.eq_nil_or_concat tw with rfl | ⟨r, x, rfl⟩
  · simp
  · simp
local macro_rules | `(tactic| walk_at "subscriptTail Name Slice ref ref") => `(tactic| refine stop_at ?_)
local macro_rules | `(tactic| walk_at "call builtin:len") => `(tactic| refine stop_at ?_)
/-- the while's test -/
noncomputable def testIE : Expr := match (lawBS.1.drop 10).head? with
  | some (.While t _ _ _) => t
  | _ => .Name (PySem.Str.ofString "page") ⟨0, 0, 0, 0⟩
/-- told[-1:] != [''] and len(told) < len(due) -/
theorem testI (w : World) (L fa : Addr) (cd : Value) (g h0 : Heap) (m0 : Str → Option Value) (gn : Array GenState) (dr : Drawn) (tk : Nat) (os : OsState) (Q : Bool → Shared → Prop) (pg : List Nat) (el td : Addr) (tp tl : Tok) (a : LxA) (ln : Int) (ev ys tv : List Value) (tw ew : List (List Nat)) (ne n nt : Nat) (o4 opb : Obj) {pp : Program} {loose : List Str} {mean : ExcName → Option Value} {mg mb : Str → Option Value}
  (X : (K0 w.params).In g) (TT : Top pp loose mean mg mb g) (htv : StrsAre tv (tw.map T)) (hev : StrsAre ev (ew.map T)) (htl : tw.length ≤ 100) (hel : ew.length ≤ 100)
  (F0 : Fr g L h0 (over [((PySem.Str.ofString "page"), .str (T pg) tp), ((PySem.Str.ofString "due"), .ref el), ((PySem.Str.ofString "told"), .ref td)] m0)) (N0 : News g L h0 ((td, listOf tv.toArray nt) :: lexL w a L el (listOf ev.toArray ne) o4 ln tl ys n opb))
  (hQ : ∀ h' tk', Fr g L h' (over [((PySem.Str.ofString "page"), .str (T pg) tp), ((PySem.Str.ofString "due"), .ref el), ((PySem.Str.ofString "told"), .ref td)] m0) → News g L h' ((td, listOf tv.toArray nt) :: lexL w a L el (listOf ev.toArray ne) o4 ln tl ys n opb) →
    Q (decide (tw.getLast? ≠ some [] ∧ tw.length < ew.length)) ⟨h', gn, dr, tk', os⟩) :
  wpAny (model prog w) (lawA L fa cd) (isTrue testIE (lawEnv L fa cd) (eval testIE (lawEnv L fa cd))) Q noE ⟨h0, gn, dr, tk, os⟩ := by
  have _kf : (PySem.Challenge.rw_pg0230_02, K0) = (PySem.Challenge.rw_pg0230_02, K0) := by k_fill; rfl
  have e1 : testIE = .BoolOp _ _ _ := rfl
  have e2 : lawBS.2 = ⟨_, _, _, _, _⟩ := rfl
  unfold lawA lawEnv
  rw [e1, e2]
  clear e1 e2
  have hE : PySem.Str.ofString "" = T [] := by decide +kernel
  have htl9 := htv.length
  have hel9 := hev.length
  rw [List.length_map] at htl9 hel9
  k_steps
  unfold Stop
  rename Fr _ _ _ _ => F5
  rename News _ _ _ _ => N5
  refine kmk_slice (s := ⟨_, _, _, _, _⟩) (its := tv.toArray) F5 N5 ⟨_, N5.get (.head _), rfl, _, rfl⟩ (.int (-1) _) .none ?_ (by with_unfolding_all rfl) (by intro _; with_unfolding_all rfl) (by rw [sizeLine_eq, List.size_toArray]; omega)
  intro D6 h6 F6 N6 lD6
  rw [show ((-1 : Int)) = (-((1 : Nat) : Int)) from rfl, slicePick_last _ 1 (Nat.le_refl _)] at N6
  have hdr : StrsAre (tv.toArray.toList.drop (tv.toArray.size - 1)) ((tw.drop (tw.length - 1)).map T) := by
    rw [List.size_toArray, htl9, List.map_drop]
    exact strsAre_dropN _ htv
  k_steps
  unfold Stop
  rename News _ _ _ _ => N7
  refine EqBoolInt.of_rcne (ne_texts ⟨_, N7.get (.tail _ (.head _)), rfl, _, rfl⟩ ⟨_, N7.get (.head _), rfl, _, rfl⟩ hdr (ns := [[]]) (by rw [hE]; exact .cons _ _ .nil) (by (exact Nat.le_of_ble_eq_true rfl))) ?_
  by_cases hz : tw.drop (tw.length - 1) = [[]]
  · have hq : ¬ (tw.getLast? ≠ some [] ∧ tw.length < ew.length) := fun h => h.1 ((drop_last tw).mp hz)
    rw [decide_eq_false hq] at hQ
    rw [decide_eq_true hz]
    k_steps
    rename Fr _ _ _ _ => F8
    exact hQ _ _ F8 (fun p hp => N7 p (.tail _ (.tail _ hp)))
  · have hq : (tw.getLast? ≠ some [] ∧ tw.length < ew.length) ↔ tw.length < ew.length := ⟨fun h => h.2, fun h => ⟨fun e => hz ((drop_last tw).mpr e), h⟩⟩
    have hq9 : decide (tw.getLast? ≠ some [] ∧ tw.length < ew.length) = decide (tw.length < ew.length) := decide_eq_decide.mpr hq
    rw [hq9] at hQ
    rw [decide_eq_false hz]
    k_steps
    unfold Stop
    refine m_lenL (vs := tv) (N7.get (.tail _ (.tail _ (.head _)))) (by omega) ?_
    k_steps
    unfold Stop
    refine m_lenL (vs := ev) (N7.get (.tail _ (.tail _ (.tail _ (.head _))))) (by omega) ?_
    rw [htl9, hel9]
    k_steps
    · rename Fr _ _ _ _ => F8
      rw [decide_eq_true (show tw.length < ew.length by omega)] at hQ
      exact hQ _ _ F8 (fun p hp => N7 p (.tail _ (.tail _ hp)))
    · rename Fr _ _ _ _ => F8
      rw [decide_eq_false (show ¬ tw.length < ew.length by omega)] at hQ
      exact hQ _ _ F8 (fun p hp => N7 p (.tail _ (.tail _ hp)))

end partBlI5
theorem off_Qu2 : (1 : Nat) = 1 := by
  w_top off
  first | walk1 | rfl
section partQu2
/-! the walk's places, the row of words: plain facts -/
theorem pigeon : ∀ (n : Nat) (l : List Nat), l.Nodup → (∀ x ∈ l, x < n) → l.length ≤ n
  | 0, l, _, h => by
    cases l with
    | nil => exact Nat.le_refl _
    | cons x r => exact absurd (h x (.head _)) (by omega)
  | n + 1, l, hd, h => by
    by_cases hm : n ∈ l
    · have h1 := pigeon n (l.erase n) (hd.erase n) fun x hx => by
        have h2 := (List.Nodup.mem_erase_iff hd).mp hx
        have := h x h2.2
        have := h2.1
        omega
      rw [List.length_erase_of_mem hm] at h1
      omega
    · have := pigeon n l hd fun x hx => by
        have := h x hx
        have : x ≠ n := fun e => hm (e ▸ hx)
        omega
      omega
theorem pigeon_f (n : Nat) (f : Nat → Nat) (h : ∀ i, i ≤ n → f i < n) (hd : ∀ i, i ≤ n → ∀ j, j < i → f j ≠ f i) : False := by
  have hn : ((List.range (n + 1)).map f).Nodup := by
    unfold List.Nodup
    rw [List.pairwise_map]
    refine List.Pairwise.imp_of_mem ?_ List.pairwise_lt_range
    intro a b ha hb hab
    exact hd b (by have := List.mem_range.mp hb; omega) a hab
  have := pigeon n _ hn fun x hx => by
    refine Classical.byContradiction fun hZq => ?_
    obtain ⟨i, hi, rfl⟩ := List.mem_map.mp hx
    refine hZq ?_
    clear hZq
    exact h i (by have := List.mem_range.mp hi; omega)
  rw [List.length_map, List.length_range] at this
  omega
theorem walkP_go (ns : List Int) (tr kind : Int) (P : Nat → Int) (hP : ∀ i, P (i + 1) = stepP ns tr kind (P i)) (c : Nat → List Nat) (hc : ∀ i, c i = lettersP (chansP (P i) kind)) : ∀ (k j : Nat), (∀ i, i < j → c i ∉ (List.range i).map c) →
    ∃ m, j ≤ m ∧ m ≤ j + k ∧ walkP ns tr kind k (P j) ((List.range j).map c) = (List.range m).map c ∧ (∀ i, i + 1 < m → c i ∉ (List.range i).map c) ∧ ((0 < m ∧ c (m - 1) ∈ (List.range (m - 1)).map c) ∨ (m = j + k ∧ ∀ i, i < m → c i ∉ (List.range i).map c))
  | 0, j, h => ⟨j, Nat.le_refl _, Nat.le_refl _, rfl, fun i hi => h i (by omega), .inr ⟨rfl, h⟩⟩
  | k + 1, j, h => by
    rw [walkP, ← hc j]
    have hs : (List.range j).map c ++ [c j] = (List.range (j + 1)).map c := by rw [List.range_succ, List.map_append]; rfl
    by_cases hm : c j ∈ (List.range j).map c
    · rw [if_pos hm, hs]
      exact ⟨j + 1, by omega, by omega, rfl, fun i hi => h i (by omega), .inl ⟨by omega, hm⟩⟩
    · rw [if_neg hm, hs, ← hP]
      obtain ⟨m, h1, h2, h3, h4, h5⟩ := walkP_go ns tr kind P hP c hc k (j + 1) fun i hi => by
        by_cases e : i = j
        · rw [e]; exact hm
        · exact h i (by omega)
      refine ⟨m, by omega, by omega, h3, h4, ?_⟩
      rcases h5 with h5 | ⟨h5, h6⟩
      · exact .inl h5
      · exact .inr ⟨by omega, h6⟩
/-- the place ahead of step i -/
noncomputable def plP (a b : Int) : Nat → Int
  | 0 => placeP b
  | i + 1 => stepP (runsP a) (trP a) (kindP b) (plP a b i)
noncomputable def colP (a b : Int) (i : Nat) : List Nat := lettersP (chansP (plP a b i) (kindP b))
theorem plP_b (a b : Int) : ∀ i, 0 ≤ plP a b i ∧ plP a b i < 16
  | 0 => place_b b
  | i + 1 => by
    show 0 ≤ stepP _ _ _ _ ∧ stepP _ _ _ _ < 16
    unfold stepP
    rw [Int.fmod_eq_emod_of_nonneg _ (by decide)]
    omega
theorem cols_spec (a b : Int) : ∃ m, 2 ≤ m ∧ m ≤ 17 ∧ colsP a b = (List.range m).map (colP a b) ∧ (∀ i, i + 1 < m → colP a b i ∉ (List.range i).map (colP a b)) ∧ colP a b (m - 1) ∈ (List.range (m - 1)).map (colP a b) := by
  refine Classical.byContradiction fun hZq => ?_
  obtain ⟨m, h1, h2, h3, h4, h5⟩ := walkP_go (runsP a) (trP a) (kindP b) (plP a b) (fun _ => rfl) (colP a b) (fun _ => rfl) 17 0 fun i hi => absurd hi (by omega)
  refine hZq ?_
  clear hZq
  rcases h5 with ⟨h5, h6⟩ | ⟨h5, h6⟩
  · refine ⟨m, ?_, by omega, h3, h4, h6⟩
    refine Classical.byContradiction fun hZq => ?_
    obtain ⟨i, hi, _⟩ := List.mem_map.mp h6
    refine hZq ?_
    clear hZq
    have := List.mem_range.mp hi
    omega
  · exfalso
    refine pigeon_f 16 (fun i => (plP a b i).toNat) (fun i _ => ?_) fun i hi j hj e => ?_
    · have := plP_b a b i
      show (plP a b i).toNat < 16
      omega
    · have h7 := plP_b a b i
      have h8 := plP_b a b j
      have e2 : plP a b j = plP a b i := by
        have e : (plP a b j).toNat = (plP a b i).toNat := e
        omega
      refine h6 i (by omega) (List.mem_map.mpr ⟨j, List.mem_range.mpr hj, ?_⟩)
      unfold colP
      rw [e2]
theorem colP_len (a b : Int) (i : Nat) : (colP a b i).length = 3 := rfl
theorem take_range (c : Nat → List Nat) {m k : Nat} (h : k ≤ m) : ((List.range m).map c).take k = (List.range k).map c := by
  rw [← List.map_take, List.take_range, Nat.min_eq_left h]
theorem word_eq (a b : Int) {st : Nat} (h : st < (colsP a b).length) : wrdP (headP a) (colsP a b) st = headP a ++ ((List.range (st + 1)).map (colP a b)).flatten := by
  refine Classical.byContradiction fun hZq => ?_
  obtain ⟨m, h1, h2, h3, _⟩ := cols_spec a b
  refine hZq ?_
  clear hZq
  unfold wrdP
  rw [h3] at h ⊢
  rw [List.length_map, List.length_range] at h
  rw [take_range _ (by omega)]
theorem cols_len (a b : Int) : 2 ≤ (colsP a b).length ∧ (colsP a b).length ≤ 17 := by
  refine Classical.byContradiction fun hZq => ?_
  obtain ⟨m, h1, h2, h3, _⟩ := cols_spec a b
  refine hZq ?_
  clear hZq
  rw [h3, List.length_map, List.length_range]
  exact ⟨h1, h2⟩
theorem cols_three (a b : Int) : ∀ l ∈ colsP a b, l.length = 3 := by
  refine Classical.byContradiction fun hZq => ?_
  obtain ⟨m, h1, h2, h3, _⟩ := cols_spec a b
  refine hZq ?_
  clear hZq
  rw [h3]
  intro l hl
  refine Classical.byContradiction fun hZq => ?_
  obtain ⟨i, _, rfl⟩ := List.mem_map.mp hl
  refine hZq ?_
  clear hZq
  rfl
theorem chan_letter (a b : Int) (i k : Nat) : 97 ≤ (97 + chanP (plP a b i) (kindP b) k).toNat := by
  obtain ⟨k1, k2⟩ := kind_b b
  obtain ⟨c1, c2⟩ := chan_b (plP a b i) (kindP b) k k1 k2
  omega
/-- a word as the walk tells it is turned into the next, or let go -/
theorem good_word (a b : Int) (ha : 0 ≤ a) {st : Nat} (h : st < (colsP a b).length) :
    Good (wrdP (headP a) (colsP a b) st) (if st + 1 < (colsP a b).length then wrdP (headP a) (colsP a b) (st + 1) else []) := by
  have hw := word_eq a b h
  refine Classical.byContradiction fun hZq => ?_
  obtain ⟨m, h1, h2, h3, h4, h5⟩ := cols_spec a b
  refine hZq ?_
  clear hZq
  have hm : (colsP a b).length = m := by rw [h3, List.length_map, List.length_range]
  rw [hm] at h
  obtain ⟨r1, r2⟩ := runs_b a ha
  obtain ⟨t1, t2⟩ := tr_b a
  obtain ⟨k1, k2⟩ := kind_b b
  obtain ⟨p1, p2⟩ := plP_b a b st
  have hr0 : ∀ r ∈ runsP a, 0 ≤ r := fun r hr => (r1 r hr).1
  have hfl : ((List.range (st + 1)).map (colP a b)).flatten.length = 3 * (st + 1) := by
    rw [flat_len _ fun l hl => by obtain ⟨i, _, rfl⟩ := List.mem_map.mp hl; rfl, List.length_map, List.length_range]
  have hhl := head_len a ha
  have hll := lead_len (runsP a) (trP a) hr0 t1
  have hhd : ((headP a).length : Int) = runsLen (runsP a) + trP a := hll
  have hc0 : ∃ c rest, ((List.range (st + 1)).map (colP a b)).flatten = c :: rest ∧ 97 ≤ c := by
    rw [List.range_succ_eq_map, List.map_cons, List.flatten_cons]
    exact ⟨_, _, rfl, chan_letter a b 0 0⟩
  refine Classical.byContradiction fun hZq => ?_
  obtain ⟨c, rest, hcr, hc97⟩ := hc0
  refine hZq ?_
  clear hZq
  right
  refine ⟨?_, (runsP a).foldl bump [], trP a, runsLen (runsP a) + trP a, (runsP a).length, (List.range st).map (colP a b), chanP (plP a b st) (kindP b) 0, chanP (plP a b st) (kindP b) 1, chanP (plP a b st) (kindP b) 2,
    hueF (hueP (kindP b).toNat (plP a b st).toNat), satF (kindP b).toNat, valueP (kindP b), depthP (1 + chanP (plP a b st) (kindP b) 0) 0 (runsP a) + trP a, chansP (stepP (runsP a) (trP a) (kindP b) (plP a b st)) (kindP b), ?_, ?_, ?_, ?_, chan_b _ _ _ k1 k2, chan_b _ _ _ k1 k2, chan_b _ _ _ k1 k2, ?_, ?_, turned_H _ _ _ _ r1 r2 ⟨t1, t2⟩ k1 k2 p1 p2, ?_⟩
  · rw [hw, hcr]; simp
  · rw [hw, List.length_append, hfl]; omega
  · rw [hw, hcr]
    have := wsRun_lead (runsP a) [] 0 0 (trP a) c rest hr0 t1 (by omega) (by omega)
    rw [Int.zero_add, Int.zero_add] at this
    exact this
  · omega
  · rw [hw, List.length_append, ← hhd]; omega
  · rw [hw, ← hhd, show (((headP a).length : Int)).toNat = (headP a).length from rfl, List.drop_left]
    rw [List.range_succ, List.map_append]
    rfl
  · intro l hl
    refine Classical.byContradiction fun hZq => ?_
    obtain ⟨i, _, rfl⟩ := List.mem_map.mp hl
    refine hZq ?_
    clear hZq
    rfl
  · rw [hm]
    have hcs : lettersP [chanP (plP a b st) (kindP b) 0, chanP (plP a b st) (kindP b) 1, chanP (plP a b st) (kindP b) 2] = colP a b st := rfl
    rw [hcs]
    by_cases hl : st + 1 < m
    · rw [if_pos hl, if_neg (h4 st hl), word_eq a b (by omega), hw, List.range_succ (n := st + 1), List.map_append, List.flatten_append, List.append_assoc]
      congr 1
    · have e : st = m - 1 := by omega
      rw [if_neg hl, if_pos (by rw [e]; exact h5)]

end partQu2
theorem off_Qv2 : (1 : Nat) = 1 := by
  w_top off
  first | walk1 | rfl
section partQv2
/-! the row of words as a plain machine: (what waits, how many words are read) -/
noncomputable abbrev RowSt := List (Nat × Nat) × Nat
noncomputable def nxS (m : Nat → Nat) : RowSt → RowSt
  | ((k, st) :: r, f) => (r ++ (if st + 1 < m k then [(k, st + 1)] else []), f)
  | ([], f) => (if f = 2 then (if 1 < m 2 then [(2, 1)] else []) else [], f + 1)
noncomputable def tlO : RowSt → Option (Nat × Nat)
  | ((k, st) :: _, _) => some (k, st)
  | ([], f) => if f = 2 then some (2, 0) else none
noncomputable def itS (m : Nat → Nat) : Nat → RowSt → RowSt
  | 0, s => s
  | n + 1, s => itS m n (nxS m s)
noncomputable def tlS (m : Nat → Nat) : Nat → RowSt → List (Option (Nat × Nat))
  | 0, _ => []
  | n + 1, s => tlO s :: tlS m n (nxS m s)
theorem itS_add (m : Nat → Nat) (k : Nat) : ∀ (n : Nat) (s : RowSt), itS m (n + k) s = itS m k (itS m n s)
  | 0, s => by rw [Nat.zero_add]; rfl
  | n + 1, s => by rw [show n + 1 + k = (n + k) + 1 by omega]; exact itS_add m k n (nxS m s)
theorem tlS_add (m : Nat → Nat) (k : Nat) : ∀ (n : Nat) (s : RowSt), tlS m (n + k) s = tlS m n s ++ tlS m k (itS m n s)
  | 0, s => by rw [Nat.zero_add]; rfl
  | n + 1, s => by
    rw [show n + 1 + k = (n + k) + 1 by omega]
    show tlO s :: tlS m (n + k) (nxS m s) = tlO s :: (tlS m n (nxS m s) ++ _)
    rw [tlS_add m k n]
    rfl
theorem itS_succ (m : Nat → Nat) (n : Nat) (s : RowSt) : itS m (n + 1) s = nxS m (itS m n s) := itS_add m 1 n s
theorem tlS_get (m : Nat → Nat) : ∀ (n j : Nat) (s : RowSt), j < n → (tlS m n s)[j]? = some (tlO (itS m j s))
  | 0, _, _, h => absurd h (by omega)
  | n + 1, 0, s, _ => rfl
  | n + 1, j + 1, s, h => tlS_get m n j (nxS m s) (by omega)
theorem tlS_len (m : Nat → Nat) : ∀ (n : Nat) (s : RowSt), (tlS m n s).length = n
  | 0, _ => rfl
  | n + 1, s => congrArg (· + 1) (tlS_len m n (nxS m s))
noncomputable def rowR (m : Nat → Nat) (i : Nat) : RowSt := ((if i < m 0 then [(0, i)] else []) ++ (if i < m 1 then [(1, i)] else []), 2)
noncomputable def dueO (m : Nat → Nat) : Nat → List (Option (Nat × Nat))
  | 0 => []
  | i + 1 => dueO m i ++ ((if i < m 0 then [some (0, i)] else []) ++ (if i < m 1 then [some (1, i)] else []))
theorem round1 (m : Nat → Nat) (i : Nat) : ∃ n, itS m n (rowR m i) = rowR m (i + 1) ∧ tlS m n (rowR m i) = (if i < m 0 then [some (0, i)] else []) ++ (if i < m 1 then [some (1, i)] else []) := by
  unfold rowR
  by_cases h0 : i < m 0
  · by_cases h1 : i < m 1
    · refine ⟨2, ?_, ?_⟩
      · simp [h0, h1, itS, nxS]
      · simp [h0, h1, tlS, nxS, tlO]
    · have h2 : ¬ i + 1 < m 1 := by omega
      refine ⟨1, ?_, ?_⟩
      · simp [h0, h1, h2, itS, nxS]
      · simp [h0, h1, tlS, nxS, tlO]
  · have h3 : ¬ i + 1 < m 0 := by omega
    by_cases h1 : i < m 1
    · refine ⟨1, ?_, ?_⟩
      · simp [h0, h1, h3, itS, nxS]
      · simp [h0, h1, tlS, nxS, tlO]
    · have h2 : ¬ i + 1 < m 1 := by omega
      refine ⟨0, ?_, ?_⟩
      · simp [h0, h1, h2, h3, itS]
      · simp [h0, h1, tlS]
theorem rounds (m : Nat → Nat) : ∀ i, ∃ n, itS m n (rowR m 0) = rowR m i ∧ tlS m n (rowR m 0) = dueO m i
  | 0 => ⟨0, rfl, rfl⟩
  | i + 1 => by
    refine Classical.byContradiction fun hZq => ?_
    obtain ⟨n, h1, h2⟩ := rounds m i
    refine hZq ?_
    clear hZq
    refine Classical.byContradiction fun hZq => ?_
    obtain ⟨k, h3, h4⟩ := round1 m i
    refine hZq ?_
    clear hZq
    exact ⟨n + k, by rw [itS_add, h1, h3], by rw [tlS_add, h1, h2, h4]; rfl⟩
noncomputable def rowT (m : Nat → Nat) (i : Nat) : RowSt := (if i < m 2 then [(2, i)] else [], 3)
theorem third (m : Nat → Nat) (hm : 1 ≤ m 2) : ∀ i, i + 1 ≤ m 2 → ∃ n, itS m n ([], 2) = rowT m (i + 1) ∧ tlS m n ([], 2) = (List.range (i + 1)).map fun j => some (2, j)
  | 0, _ => ⟨1, rfl, rfl⟩
  | i + 1, h => by
    refine Classical.byContradiction fun hZq => ?_
    obtain ⟨n, h1, h2⟩ := third m hm i (by omega)
    refine hZq ?_
    clear hZq
    refine ⟨n + 1, ?_, ?_⟩
    · rw [itS_add, h1]
      have h3 : i + 1 < m 2 := by omega
      simp [rowT, h3, itS, nxS]
    · rw [tlS_add, h1, h2]
      have h3 : i + 1 < m 2 := by omega
      rw [List.range_succ (n := i + 1), List.map_append]
      simp [rowT, h3, tlS, tlO]
theorem row_all (m : Nat → Nat) (h0 : m 0 ≤ 17) (h1 : m 1 ≤ 17) (h2 : 1 ≤ m 2) : ∃ N, itS m N (rowR m 0) = ([], 4) ∧ tlS m N (rowR m 0) = dueO m 17 ++ (List.range (m 2)).map (fun j => some (2, j)) ++ [none] := by
  refine Classical.byContradiction fun hZq => ?_
  obtain ⟨n, e1, e2⟩ := rounds m 17
  refine hZq ?_
  clear hZq
  have e3 : rowR m 17 = ([], 2) := by
    unfold rowR
    rw [if_neg (by omega), if_neg (by omega)]
    rfl
  rw [e3] at e1
  refine Classical.byContradiction fun hZq => ?_
  obtain ⟨k, e4, e5⟩ := third m h2 (m 2 - 1) (by omega)
  refine hZq ?_
  clear hZq
  rw [show m 2 - 1 + 1 = m 2 by omega] at e4 e5
  have e6 : rowT m (m 2) = ([], 3) := by unfold rowT; rw [if_neg (by omega)]
  rw [e6] at e4
  refine ⟨n + k + 1, ?_, ?_⟩
  · rw [itS_add, itS_add, e1, e4]; rfl
  · rw [tlS_add, tlS_add, itS_add, e1, e4, e2, e5]; rfl
/-- what holds of every state -/
noncomputable def RowInv (m : Nat → Nat) (s : RowSt) : Prop := s.1.length ≤ 2 ∧ 2 ≤ s.2 ∧ ∀ x ∈ s.1, x.1 < 3 ∧ x.2 < m x.1
theorem row_inv0 (m : Nat → Nat) : RowInv m (rowR m 0) := by
  unfold RowInv rowR
  refine ⟨?_, Nat.le_refl _, ?_⟩
  · rw [List.length_append]; split <;> split <;> simp
  · intro x hx
    rcases List.mem_append.mp hx with hx | hx
    · split at hx
      · rw [List.mem_singleton.mp hx]; exact ⟨by decide, by assumption⟩
      · cases hx
    · split at hx
      · rw [List.mem_singleton.mp hx]; exact ⟨by decide, by assumption⟩
      · cases hx
theorem row_inv1 (m : Nat → Nat) (s : RowSt) (h : RowInv m s) : RowInv m (nxS m s) := by
  obtain ⟨r, f⟩ := s
  refine Classical.byContradiction fun hZq => ?_
  obtain ⟨h1, h2, h3⟩ := h
  refine hZq ?_
  clear hZq
  cases r with
  | nil =>
    refine ⟨?_, by show 2 ≤ f + 1; omega, ?_⟩
    · show (if f = 2 then _ else _ : List (Nat × Nat)).length ≤ 2
      split
      · split <;> simp
      · simp
    · intro x hx
      have hx : x ∈ (if f = 2 then (if 1 < m 2 then [(2, 1)] else []) else [] : List (Nat × Nat)) := hx
      split at hx
      · split at hx
        · rw [List.mem_singleton.mp hx]; exact ⟨by decide, by assumption⟩
        · cases hx
      · cases hx
  | cons y r =>
    obtain ⟨k, st⟩ := y
    refine ⟨?_, h2, ?_⟩
    · show (r ++ _).length ≤ 2
      rw [List.length_append]
      simp only [List.length_cons] at h1
      split <;> simp <;> omega
    · intro x hx
      have hx : x ∈ r ++ (if st + 1 < m k then [(k, st + 1)] else []) := hx
      rcases List.mem_append.mp hx with hx | hx
      · exact h3 x (.tail _ hx)
      · have hk := h3 (k, st) (.head _)
        split at hx
        · rw [List.mem_singleton.mp hx]; exact ⟨hk.1, by assumption⟩
        · cases hx
theorem row_inv (m : Nat → Nat) : ∀ (n : Nat) (s : RowSt), RowInv m s → RowInv m (itS m n s)
  | 0, _, h => h
  | n + 1, s, h => row_inv m n _ (row_inv1 m s h)
noncomputable def wO (H : Nat → List Nat) (W : Nat → List (List Nat)) : Option (Nat × Nat) → List Nat
  | none => []
  | some x => wrdP (H x.1) (W x.1) x.2
noncomputable def qO (H : Nat → List Nat) (W : Nat → List (List Nat)) : Option (Nat × Nat) → List Nat
  | none => []
  | some x => if x.2 + 1 < (W x.1).length then wrdP (H x.1) (W x.1) (x.2 + 1) else []
theorem due_w (H : Nat → List Nat) (W : Nat → List (List Nat)) : ∀ i, (dueO (fun k => (W k).length) i).map (wO H W) = dueD H W i
  | 0 => rfl
  | i + 1 => by
    rw [dueO, List.map_append, due_w H W i, List.map_append, dueD]
    congr 1
    congr 1
    · split <;> rfl
    · split <;> rfl
theorem due_all (H : Nat → List Nat) (W : Nat → List (List Nat)) (h0 : (W 0).length ≤ 17) (h1 : (W 1).length ≤ 17) (h2 : 1 ≤ (W 2).length) : ∃ N, itS (fun k => (W k).length) N (rowR (fun k => (W k).length) 0) = ([], 4) ∧
    (tlS (fun k => (W k).length) N (rowR (fun k => (W k).length) 0)).map (wO H W) = dueE H W ∧ ∀ j, j < N → (tlO (itS (fun k => (W k).length) j (rowR (fun k => (W k).length) 0)) = none ↔ j + 1 = N) := by
  refine Classical.byContradiction fun hZq => ?_
  obtain ⟨N, e1, e2⟩ := row_all (fun k => (W k).length) h0 h1 h2
  refine hZq ?_
  clear hZq
  refine ⟨N, e1, ?_, ?_⟩
  · rw [e2, List.map_append, List.map_append, due_w, List.map_map]
    rfl
  · intro j hj
    have hg := tlS_get (fun k => (W k).length) N j (rowR (fun k => (W k).length) 0) hj
    have hl := tlS_len (fun k => (W k).length) N (rowR (fun k => (W k).length) 0)
    rw [e2] at hg hl
    rw [List.length_append, List.length_singleton] at hl
    generalize hA : dueO (fun k => (W k).length) 17 ++ (List.range (W 2).length).map (fun j => some (2, j)) = A at hg hl
    have hAs : ∀ x ∈ A, x ≠ none := by
      rw [← hA]
      intro x hx
      rcases List.mem_append.mp hx with hx | hx
      · have : ∀ i, ∀ x ∈ dueO (fun k => (W k).length) i, x ≠ none := by
          intro i
          induction i with
          | zero => intro x hx; cases hx
          | succ i ih =>
            intro x hx
            rw [dueO] at hx
            rcases List.mem_append.mp hx with hx | hx
            · exact ih x hx
            · rcases List.mem_append.mp hx with hx | hx
              · split at hx
                · rw [List.mem_singleton.mp hx]; exact fun e => nomatch e
                · cases hx
              · split at hx
                · rw [List.mem_singleton.mp hx]; exact fun e => nomatch e
                · cases hx
        exact this 17 x hx
      · refine Classical.byContradiction fun hZq => ?_
        obtain ⟨i, _, rfl⟩ := List.mem_map.mp hx
        refine hZq ?_
        clear hZq
        exact fun e => nomatch e
    by_cases h : j < A.length
    · rw [List.getElem?_append_left h] at hg
      have := hAs _ (List.mem_of_getElem? hg)
      exact ⟨fun e => absurd e this, fun e => absurd e (by omega)⟩
    · have : j = A.length := by omega
      rw [List.getElem?_append_right (by omega), this, Nat.sub_self] at hg
      exact ⟨fun _ => by omega, fun _ => by rw [this]; exact (Option.some.inj hg).symm⟩
theorem wrd_ne (H : List Nat) (W : List (List Nat)) (hW : ∀ l ∈ W, l.length = 3) {st : Nat} (h : st < W.length) : wrdP H W st ≠ [] := by
  intro e
  have := congrArg List.length e
  unfold wrdP at this
  rw [List.length_append, flat_len _ fun l hl => hW l (List.mem_of_mem_take hl), List.length_take, List.length_nil] at this
  omega
/-- the row of the law's words -/
theorem row_ok (H : Nat → List Nat) (W : Nat → List (List Nat)) (cs : Nat → List Nat) (hl : ∀ k, k < 3 → 1 ≤ (W k).length ∧ (W k).length ≤ 17) (h3 : ∀ k, k < 3 → ∀ l ∈ W k, l.length = 3)
    (hg : ∀ k, k < 3 → ∀ st, st < (W k).length → Good (wrdP (H k) (W k) st) (if st + 1 < (W k).length then wrdP (H k) (W k) (st + 1) else []))
    (hc : ∀ f, 2 ≤ f → cs (f + 1) = (tkS (cs f)).2) (h2 : (tkS (cs 2)).1 = wrdP (H 2) (W 2) 0) (h4 : ∀ f, 3 ≤ f → (tkS (cs f)).1 = []) (hlen : ∀ f, 2 ≤ f → (cs f).length ≤ 1000) :
    ∃ (N : Nat) (pd : Nat → List (List Nat)) (cq p q : Nat → List Nat), RowOk N pd cq p q ∧ (List.range N).map p = dueE H W ∧ pd 0 = [wrdP (H 0) (W 0) 0, wrdP (H 1) (W 1) 0] ∧ cq 0 = cs 2 ∧ cq N = cs 4 ∧ ∀ j, ∃ f, cq j = cs f := by
  refine Classical.byContradiction fun hZq => ?_
  obtain ⟨N, e1, e2, e3⟩ := due_all H W (hl 0 (by decide)).2 (hl 1 (by decide)).2 (hl 2 (by decide)).1
  refine hZq ?_
  clear hZq
  have hinv : ∀ j, RowInv (fun k => (W k).length) (itS (fun k => (W k).length) j (rowR (fun k => (W k).length) 0)) := fun j => row_inv _ j _ (row_inv0 _)
  have hnx : ∀ j, itS (fun k => (W k).length) (j + 1) (rowR (fun k => (W k).length) 0) = nxS (fun k => (W k).length) (itS (fun k => (W k).length) j (rowR (fun k => (W k).length) 0)) := fun j => itS_succ _ j _
  have hget : (List.range N).map (fun j => wO H W (tlO (itS (fun k => (W k).length) j (rowR (fun k => (W k).length) 0)))) = dueE H W := by
    rw [← e2]
    refine List.ext_getElem? fun j => ?_
    by_cases hj : j < N
    · rw [List.getElem?_map, List.getElem?_map, tlS_get _ _ _ _ hj, List.getElem?_range hj]
      rfl
    · rw [List.getElem?_eq_none (by rw [List.length_map, List.length_range]; omega), List.getElem?_eq_none (by rw [List.length_map, tlS_len]; omega)]
  have hs0 : itS (fun k => (W k).length) 0 (rowR (fun k => (W k).length) 0) = ([(0, 0), (1, 0)], 2) := by
    show rowR _ 0 = _
    unfold rowR
    have h0 := (hl 0 (by decide)).1
    have h1 := (hl 1 (by decide)).1
    rw [if_pos (show 0 < (W 0).length by omega), if_pos (show 0 < (W 1).length by omega)]
    rfl
  generalize hsdef : (fun j => itS (fun k => (W k).length) j (rowR (fun k => (W k).length) 0)) = S at *
  have hS : ∀ j, itS (fun k => (W k).length) j (rowR (fun k => (W k).length) 0) = S j := fun j => congrFun hsdef j
  simp only [hS] at e1 e3 hinv hnx hget hs0
  have hne : ∀ x : Nat × Nat, x.1 < 3 → x.2 < (W x.1).length → wrdP (H x.1) (W x.1) x.2 ≠ [] := fun x h1 h2 => wrd_ne _ _ (h3 _ h1) h2
  have htl : ∀ j x, tlO (S j) = some x → x.1 < 3 ∧ x.2 < (W x.1).length := by
    intro j x hx
    refine Classical.byContradiction fun hZq => ?_
    obtain ⟨i1, i2, i3⟩ := hinv j
    refine hZq ?_
    clear hZq
    generalize S j = s at *
    obtain ⟨r, f⟩ := s
    cases r with
    | nil =>
      have hx : (if f = 2 then some (2, 0) else none) = some x := hx
      split at hx
      · injection hx with hx
        rw [← hx]
        exact ⟨by decide, (hl 2 (by decide)).1⟩
      · cases hx
    | cons y r =>
      have hx : some y = some x := hx
      injection hx with hx
      rw [← hx]
      exact i3 _ (.head _)
  refine ⟨N, fun j => (S j).1.map fun x => wrdP (H x.1) (W x.1) x.2, fun j => cs (S j).2, fun j => wO H W (tlO (S j)), fun j => qO H W (tlO (S j)), ?_, hget, ?_, ?_, ?_, fun j => ⟨_, rfl⟩⟩
  · constructor
    · intro j hj
      show Good (wO H W (tlO (S j))) (qO H W (tlO (S j)))
      cases hx : tlO (S j) with
      | none => exact .inl ⟨rfl, rfl⟩
      | some x =>
        obtain ⟨h5, h6⟩ := htl j x hx
        exact hg _ h5 _ h6
    · intro j hj
      show wO H W (tlO (S j)) = [] ↔ _
      rw [← e3 j hj]
      cases hx : tlO (S j) with
      | none => exact ⟨fun _ => rfl, fun _ => rfl⟩
      | some x =>
        obtain ⟨h5, h6⟩ := htl j x hx
        exact ⟨fun e => absurd e (hne x h5 h6), fun e => nomatch e⟩
    · intro j hj x r hpd
      refine Classical.byContradiction fun hZq => ?_
      obtain ⟨i1, i2, i3⟩ := hinv j
      refine hZq ?_
      clear hZq
      have hn := hnx j
      rw [hn]
      generalize S j = s at *
      obtain ⟨row, f⟩ := s
      cases row with
      | nil => cases hpd
      | cons y r' =>
        obtain ⟨k, st⟩ := y
        obtain ⟨i4, i5⟩ := i3 _ (.head _)
        have hpd : wrdP (H k) (W k) st :: r'.map (fun x => wrdP (H x.1) (W x.1) x.2) = x :: r := hpd
        injection hpd with hx hr
        subst hx hr
        refine ⟨rfl, rfl, ?_⟩
        show (r' ++ (if st + 1 < (W k).length then [(k, st + 1)] else [])).map (fun x => wrdP (H x.1) (W x.1) x.2) = _ ++ (if (if st + 1 < (W k).length then wrdP (H k) (W k) (st + 1) else []) = [] then [] else [if st + 1 < (W k).length then wrdP (H k) (W k) (st + 1) else []])
        rw [List.map_append]
        congr 1
        by_cases h5 : st + 1 < (W k).length
        · have := hne (k, st + 1) i4 h5
          simp only [if_pos h5]
          rw [if_neg this]
          rfl
        · simp only [if_neg h5]
          rfl
    · intro j hj hpd
      refine Classical.byContradiction fun hZq => ?_
      obtain ⟨i1, i2, i3⟩ := hinv j
      refine hZq ?_
      clear hZq
      have hn := hnx j
      rw [hn]
      generalize S j = s at *
      obtain ⟨row, f⟩ := s
      cases row with
      | cons y r' => cases hpd
      | nil =>
        have i2 : 2 ≤ f := i2
        show wO H W (if f = 2 then some (2, 0) else none) = (tkS (cs f)).1 ∧ cs (f + 1) = (tkS (cs f)).2 ∧ (if f = 2 then (if 1 < (W 2).length then [(2, 1)] else []) else []).map (fun x => wrdP (H x.1) (W x.1) x.2) = if qO H W (if f = 2 then some (2, 0) else none) = [] then [] else [qO H W (if f = 2 then some (2, 0) else none)]
        by_cases h5 : f = 2
        · subst h5
          refine ⟨h2.symm, hc 2 (Nat.le_refl _), ?_⟩
          rw [if_pos rfl, if_pos rfl]
          show _ = if (if 0 + 1 < (W 2).length then wrdP (H 2) (W 2) (0 + 1) else []) = [] then [] else [if 0 + 1 < (W 2).length then wrdP (H 2) (W 2) (0 + 1) else []]
          by_cases h6 : 1 < (W 2).length
          · have := hne (2, 1) (by decide) h6
            simp only [if_pos h6]
            rw [if_neg this]
            rfl
          · rw [if_neg h6, if_neg h6]
            rfl
        · rw [if_neg h5]
          refine ⟨(h4 f (by omega)).symm, hc f i2, ?_⟩
          rw [if_neg h5]
          rfl
    · intro j hj
      show (List.map _ (S j).1).length ≤ 2
      rw [List.length_map]
      exact (hinv j).1
    · intro j hj
      exact hlen _ (hinv j).2.1
  · show List.map _ (S 0).1 = _
    rw [hs0]
    rfl
  · show cs (S 0).2 = _
    rw [hs0]
  · show cs (S N).2 = _
    rw [e1]

end partQv2
theorem off_Qw2 : (1 : Nat) = 1 := by
  w_top off
  first | walk1 | rfl
section partQw2
/-! the words of the page, as the lexer reads them -/
theorem tkQ_suf : ∀ (r acc : List Nat), (tkQ r acc).2 <:+ r
  | [], acc => List.suffix_refl _
  | [c], acc => by
    simp only [tkQ]
    split
    · exact List.nil_suffix
    · split
      · exact List.nil_suffix
      · exact List.nil_suffix
  | c :: d :: r, acc => by
    simp only [tkQ]
    split
    · exact List.suffix_cons _ _
    · split
      · exact (tkQ_suf r _).trans ((List.suffix_cons _ _).trans (List.suffix_cons _ _))
      · exact (tkQ_suf (d :: r) _).trans (List.suffix_cons _ _)
theorem tkB_suf : ∀ (r acc : List Nat), (tkB r acc).2 <:+ r
  | [], acc => List.suffix_refl _
  | [c], acc => by
    simp only [tkB]
    split
    · exact List.nil_suffix
    · split
      · exact List.nil_suffix
      · exact List.nil_suffix
  | c :: d :: r, acc => by
    simp only [tkB]
    split
    · exact List.suffix_cons _ _
    · split
      · exact (tkB_suf r _).trans ((List.suffix_cons _ _).trans (List.suffix_cons _ _))
      · exact (tkB_suf (d :: r) _).trans (List.suffix_cons _ _)
theorem tkS_suf : ∀ (r : List Nat), (tkS r).2 <:+ r
  | [] => List.suffix_refl _
  | c :: r => by
    rw [tkS]
    split
    · exact (tkS_suf r).trans (List.suffix_cons _ _)
    · split
      · exact (tkQ_suf r _).trans (List.suffix_cons _ _)
      · split
        · exact ((tkB_suf _ _).trans (List.drop_suffix _ _)).trans (List.suffix_cons _ _)
        · exact (tkB_suf r _).trans (List.suffix_cons _ _)
theorem rsP_suf (pg : List Nat) : ∀ i, rsP pg i <:+ pg
  | 0 => List.suffix_refl _
  | i + 1 => (tkS_suf _).trans (rsP_suf pg i)
theorem nl_ok (pg : List Nat) (n : Nat) : NlOk pg n := fun j _ => by
  have h := rsP_suf pg j
  refine ⟨h.length_le, ?_⟩
  have := h.sublist.count_le (a := 10)
  unfold nlc
  omega
theorem tkS_ws : ∀ (ws r : List Nat), (∀ c ∈ ws, wsc c = true) → tkS (ws ++ r) = tkS r
  | [], r, _ => rfl
  | c :: ws, r, h => by
    rw [List.cons_append, tkS, if_pos (h c (.head _)), tkS_ws ws r fun d hd => h d (.tail _ hd)]
theorem tkQ_esc : ∀ (w acc rest : List Nat), tkQ (escL w ++ rest) acc = tkQ rest (acc ++ w)
  | [], acc, rest => by simp [escL]
  | c :: w, acc, rest => by
    have e : escL (c :: w) ++ rest = 92 :: c :: (escL w ++ rest) := by simp [escL]
    rw [e, tkQ_e]
    show tkQ (escL w ++ rest) (acc ++ [c]) = _
    rw [tkQ_esc w, List.append_assoc]
    rfl
theorem tkB_esc : ∀ (w acc rest : List Nat), tkB (escL w ++ rest) acc = tkB rest (acc ++ w)
  | [], acc, rest => by simp [escL]
  | c :: w, acc, rest => by
    have e : escL (c :: w) ++ rest = 92 :: c :: (escL w ++ rest) := by simp [escL]
    rw [e, tkB_e]
    show tkB (escL w ++ rest) (acc ++ [c]) = _
    rw [tkB_esc w, List.append_assoc]
    rfl
theorem tkQ_plain : ∀ (w acc rest : List Nat), (∀ c ∈ w, ¬ c = 34 ∧ ¬ c = 92) → tkQ (w ++ rest) acc = tkQ rest (acc ++ w)
  | [], acc, rest, _ => by simp
  | c :: w, acc, rest, h => by
    have hc := h c (.head _)
    rw [List.cons_append, tkQ_c _ _ hc.1 hc.2, tkQ_plain w _ _ fun d hd => h d (.tail _ hd), List.append_assoc]
    rfl
noncomputable def residP (way : Int) : List Nat := if way = 1 then [10] else if way = 2 then [9, 10] else []
theorem resid_ws (way : Int) : ∀ c ∈ residP way, wsc c = true := by
  unfold residP
  split
  · decide
  · split
    · decide
    · decide
theorem tk_piece (ws w rest : List Nat) (way : Int) (h0 : 0 ≤ way) (h1 : way < 4) (hws : ∀ c ∈ ws, wsc c = true) (hw : ∀ c ∈ w, ¬ c = 34 ∧ ¬ c = 92) (hn : w ≠ []) :
    tkS (ws ++ ((quoteP way w ++ gapP way) ++ rest)) = (w, residP way ++ rest) := by
  rw [tkS_ws _ _ hws]
  have hc : way = 0 ∨ way = 1 ∨ way = 2 ∨ way = 3 := by omega
  have q34 : wsc 34 = false := by decide
  have q92 : wsc 92 = false := by decide
  rcases hc with rfl | rfl | rfl | rfl
  · have e : (quoteP 0 w ++ gapP 0) ++ rest = 34 :: (w ++ 34 :: rest) := by simp [quoteP, gapP]
    rw [e, tkS, if_neg (by rw [q34]; decide), if_pos rfl, tkQ_plain w _ _ hw, tkQ_q]
    rfl
  · have e : (quoteP 1 w ++ gapP 1) ++ rest = 34 :: (escL w ++ 34 :: 10 :: rest) := by simp [quoteP, gapP]
    rw [e, tkS, if_neg (by rw [q34]; decide), if_pos rfl, tkQ_esc w, tkQ_q]
    rfl
  · cases w with
    | nil => exact absurd rfl hn
    | cons c w =>
      have e : (quoteP 2 (c :: w) ++ gapP 2) ++ rest = 92 :: c :: (escL w ++ 10 :: 9 :: 10 :: rest) := by simp [quoteP, gapP, escL]
      rw [e, tkS, if_neg (by rw [q92]; decide), if_neg (by decide), if_pos rfl]
      show tkB (escL w ++ 10 :: 9 :: 10 :: rest) [c] = _
      rw [tkB_esc w, tkB_q _ _ (by decide)]
      rfl
  · cases w with
    | nil => exact absurd rfl hn
    | cons c w =>
      have e : (quoteP 3 (c :: w) ++ gapP 3) ++ rest = 92 :: c :: (escL w ++ 32 :: rest) := by simp [quoteP, gapP, escL]
      rw [e, tkS, if_neg (by rw [q92]; decide), if_neg (by decide), if_pos rfl]
      show tkB (escL w ++ 32 :: rest) [c] = _
      rw [tkB_esc w, tkB_q _ _ (by decide)]
      rfl
theorem word_signs (a b : Int) : ∀ c ∈ wordP a b, ¬ c = 34 ∧ ¬ c = 92 := by
  intro c hc
  unfold wordP at hc
  rcases List.mem_append.mp hc with hc | hc
  · have : c = 32 ∨ c = 9 := by
      unfold headP leadL at hc
      rcases List.mem_append.mp hc with hc | hc
      · refine Classical.byContradiction fun hZq => ?_
        obtain ⟨l, hl, hcl⟩ := List.mem_flatten.mp hc
        refine hZq ?_
        clear hZq
        refine Classical.byContradiction fun hZq => ?_
        obtain ⟨r, _, rfl⟩ := List.mem_map.mp hl
        refine hZq ?_
        clear hZq
        rcases List.mem_append.mp hcl with hcl | hcl
        · exact .inl (List.eq_of_mem_replicate hcl)
        · exact .inr (List.mem_singleton.mp hcl)
      · exact .inl (List.eq_of_mem_replicate hc)
    omega
  · obtain ⟨k1, k2⟩ := kind_b b
    unfold lettersP at hc
    refine Classical.byContradiction fun hZq => ?_
    obtain ⟨n, hn, rfl⟩ := List.mem_map.mp hc
    refine hZq ?_
    clear hZq
    have := chans_b _ _ k1 k2 n hn
    omega
theorem word_ne (a b : Int) : wordP a b ≠ [] := by
  intro e
  have := congrArg List.length e
  unfold wordP at this
  rw [List.length_append, show (lettersP (chansP (placeP b) (kindP b))).length = 3 from rfl, List.length_nil] at this
  omega
theorem word0_eq (a b : Int) : wrdP (headP a) (colsP a b) 0 = wordP a b := by
  rw [word_eq a b (by have := cols_len a b; omega)]
  show headP a ++ [colP a b 0].flatten = _
  rw [List.flatten_cons, List.flatten_nil, List.append_nil]
  rfl
theorem tk_word (ws rest : List Nat) (a b : Int) (hws : ∀ c ∈ ws, wsc c = true) : tkS (ws ++ (pieceP a b ++ rest)) = (wordP a b, residP (wayP a) ++ rest) := by
  obtain ⟨h0, h1⟩ := way_b a
  exact tk_piece ws (wordP a b) rest (wayP a) h0 h1 hws (word_signs a b) (word_ne a b)
theorem page_three (na nb : Nat → Int) : pageP na nb 3 = pieceP (na 0) (nb 0) ++ (pieceP (na 1) (nb 1) ++ (pieceP (na 2) (nb 2) ++ [])) := by
  rw [page_succ, page_succ, page_succ]
  show [] ++ _ ++ _ ++ _ = _
  simp
theorem rs_one (na nb : Nat → Int) : tkS (rsP (pageP na nb 3) 0) = (wordP (na 0) (nb 0), residP (wayP (na 0)) ++ (pieceP (na 1) (nb 1) ++ (pieceP (na 2) (nb 2) ++ []))) := by
  show tkS (pageP na nb 3) = _
  rw [page_three]
  exact tk_word [] _ _ _ (fun _ h => nomatch h)
theorem rs_two (na nb : Nat → Int) : tkS (rsP (pageP na nb 3) 1) = (wordP (na 1) (nb 1), residP (wayP (na 1)) ++ (pieceP (na 2) (nb 2) ++ [])) := by
  show tkS (tkS (rsP _ 0)).2 = _
  rw [rs_one]
  exact tk_word _ _ _ _ (resid_ws _)
theorem rs_three (na nb : Nat → Int) : tkS (rsP (pageP na nb 3) 2) = (wordP (na 2) (nb 2), residP (wayP (na 2)) ++ []) := by
  show tkS (tkS (rsP _ 1)).2 = _
  rw [rs_two]
  exact tk_word _ _ _ _ (resid_ws _)
theorem rs_four (na nb : Nat → Int) : tkS (rsP (pageP na nb 3) 3) = ([], []) := by
  show tkS (tkS (rsP _ 2)).2 = _
  rw [rs_three]
  exact tkS_ws _ [] (resid_ws _)
theorem rs_end (na nb : Nat → Int) : ∀ k, rsP (pageP na nb 3) (4 + k) = []
  | 0 => by show (tkS (rsP _ 3)).2 = []; rw [rs_four]
  | k + 1 => by show (tkS (rsP _ (4 + k))).2 = []; rw [rs_end na nb k]; rfl
theorem toks_two (na nb : Nat → Int) : toksP (pageP na nb 3) 2 = [wordP (na 0) (nb 0), wordP (na 1) (nb 1)] := by
  show [(tkS (rsP _ 0)).1, (tkS (rsP _ 1)).1] = _
  rw [rs_one, rs_two]
/-- the row of the law's words, out of the script's numbers -/
theorem row_page (na nb : Nat → Int) (hn : ∀ i, i < 3 → 0 ≤ na i) :
    ∃ (N : Nat) (pd : Nat → List (List Nat)) (cq p q : Nat → List Nat), RowOk N pd cq p q ∧ (List.range N).map p = dueE (fun j => headP (na j)) (fun j => colsP (na j) (nb j)) ∧
      pd 0 = toksP (pageP na nb 3) 2 ∧ cq 0 = rsP (pageP na nb 3) 2 ∧ cq N = [] ∧ ∀ j, 0 ≤ nlc (cq j) ∧ nlc (cq j) ≤ nlc (pageP na nb 3) := by
  have z1 : ∀ f, 3 ≤ f → (tkS (rsP (pageP na nb 3) f)).1 = [] := fun f hf => by
    by_cases e : f = 3
    · rw [e, rs_four]
    · obtain ⟨k, rfl⟩ : ∃ k, f = 4 + k := ⟨f - 4, by omega⟩
      rw [rs_end]
      rfl
  have z2 : ∀ f, 2 ≤ f → (rsP (pageP na nb 3) f).length ≤ 1000 := fun f _ => by
    have := (rsP_suf (pageP na nb 3) f).length_le
    have := page_len na nb 3 fun j hj => hn j hj
    omega
  obtain ⟨N, pd, cq, p, q, h1, h2, h3, h4, h5, h6⟩ := row_ok (fun j => headP (na j)) (fun j => colsP (na j) (nb j)) (rsP (pageP na nb 3)) (fun k _ => by have := cols_len (na k) (nb k); exact ⟨by omega, by omega⟩) (fun k _ => cols_three _ _)
    (fun k hk st hst => good_word _ _ (hn k hk) hst) (fun f _ => rfl) (by rw [rs_three]; exact (word0_eq _ _).symm) z1 z2
  refine ⟨N, pd, cq, p, q, h1, h2, by rw [h3, toks_two, word0_eq, word0_eq], h4, by rw [h5]; exact rs_end na nb 0, fun j => ?_⟩
  obtain ⟨f, hf⟩ := h6 j
  rw [hf]
  exact ⟨(nlc_b _).1, (nl_ok (pageP na nb 3) f f (Nat.le_refl _)).2⟩

end partQw2
theorem off_BlI6 : (1 : Nat) = 1 := by
  w_top off
  first | walk1 | rfl
section partBlI6
local macro_rules | `(tactic| walk_at "last exec While") => `(tactic| refine stop_at ?_)
noncomputable abbrev JIb (w : World) (g : Heap) (L el : Addr) (a : LxA) (pg : List Nat) (tp : Tok) (ev : List Value) (ne : Nat) (o4 : Obj) (M : Nat) (pd : Nat → List (List Nat)) (cq p : Nat → List Nat) (s : Shared) (k : Nat) (s' : Shared) (j np nt n : Nat) (td : Addr) (tv wv ys : List Value) (tl : Tok) : Prop :=
  j + k = M ∧ StrsAre tv (((List.range j).map p).map T) ∧ StrsAre wv ((pd j).map T) ∧ StrsAre ys ((cq j).map sg) ∧
    NqL td [el, L + 1 + 1 + 1 + 1, a.x, a.dx, a.hx, a.hdx, a.fA, a.cc, a.cA, a.D, a.pb] ∧
    At g L [((PySem.Str.ofString "page"), .str (T pg) tp), ((PySem.Str.ofString "due"), .ref el), ((PySem.Str.ofString "told"), .ref td)] ((td, listOf tv.toArray nt) :: lexL w a L el (listOf ev.toArray ne) o4 (1 + nlc pg - nlc (cq j)) tl ys n (listOf wv.toArray np)) s s'
/-- the while's state: j words are told -/
noncomputable def JI (w : World) (g : Heap) (L el : Addr) (a : LxA) (pg : List Nat) (tp : Tok) (ev : List Value) (ne : Nat) (o4 : Obj) (M : Nat) (pd : Nat → List (List Nat)) (cq p : Nat → List Nat) (s : Shared) (k : Nat) (s' : Shared) : Prop :=
  ∃ (j np nt n : Nat) (td : Addr) (tv wv ys : List Value) (tl : Tok), JIb w g L el a pg tp ev ne o4 M pd cq p s k s' j np nt n td tv wv ys tl
theorem range_last (p : Nat → List Nat) (j : Nat) : ((List.range (j + 1)).map p).getLast? = some (p j) := by
  rw [List.range_succ, List.map_append]; simp
theorem blkI (w : World) (L fa : Addr) (cd : Value) (g h0 : Heap) (m0 : Str → Option Value) (gn : Array GenState) (dr : Drawn) (tk : Nat) (os : OsState) (pg : List Nat) (el : Addr) (tp tl : Tok) (a : LxA) (ok : a.Ok w) (ev ys wv : List Value) (ne n np : Nat) (o4 : Obj) (ew : List (List Nat)) (M : Nat) (pd : Nat → List (List Nat)) (cq p q : Nat → List Nat) {pp : Program} {loose : List Str} {mean : ExcName → Option Value} {mg mb : Str → Option Value}
  (X : (K0 w.params).In g) (TT : Top pp loose mean mg mb g) (c4 : o4.data = .cell (some (.ref a.x))) (nq1 : Nq el a.D) (nq2 : Nq el a.pb) (R : RowOk M pd cq p q) (hew : (List.range M).map p = ew) (hM : 1 ≤ M) (hM2 : M ≤ 90) (hev : StrsAre ev (ew.map T)) (hnl : ∀ j, j ≤ M → 0 ≤ 1 + nlc pg - nlc (cq j) ∧ 1 + nlc pg - nlc (cq j) ≤ 10000)
  (hwv : StrsAre wv ((pd 0).map T)) (hys : StrsAre ys ((cq 0).map sg))
  (F0 : Fr g L h0 (over [((PySem.Str.ofString "page"), .str (T pg) tp), ((PySem.Str.ofString "due"), .ref el)] m0)) (N0 : News g L h0 (lexL w a L el (listOf ev.toArray ne) o4 (1 + nlc pg - nlc (cq 0)) tl ys n (listOf wv.toArray np))) :
  wpAny (model prog w) (lawA L fa cd) (execs ((lawBS.1.drop 9).take 2) (lawEnv L fa cd)) (Next (JI w g L el a pg tp ev ne o4 M pd cq p ⟨h0, gn, dr, tk, os⟩ 0)) noE ⟨h0, gn, dr, tk, os⟩ := by
  have _kf : (PySem.Challenge.rw_pg0230_02, K0) = (PySem.Challenge.rw_pg0230_02, K0) := by k_fill; rfl
  have e1 : (lawBS.1.drop 9).take 2 = [_, .While testIE bodyI [] _] := rfl
  have e2 : lawBS.2 = ⟨_, _, _, _, _⟩ := rfl
  unfold lawA lawEnv
  rw [e1, e2]
  clear e1
  dsimp only [lexL, LxA.led, List.cons_append, List.nil_append] at N0
  k_steps
  unfold Stop
  rename News _ _ _ _ => N1
  rename Fr _ _ _ _ => F1
  rename _ ∧ _ => l1
  refine Classical.byContradiction fun hZq => ?_
  obtain ⟨q1, q2, q3, q4, q5, q6, q7, q8, q9, q10, q11⟩ := l1
  refine hZq ?_
  clear hZq
  rw [← e2]
  refine while_J (JI w g L el a pg tp ev ne o4 M pd cq p ⟨h0, gn, dr, tk, os⟩) ?_ M _ ?_
  · clear F1 N1 q1 q2 q3 q4 q5 q6 q7 q8 q9 q10 q11 hwv hys
    clear wv ys tl n np
    rintro k s' hPz1
    refine Classical.byContradiction fun hZq => ?_
    obtain ⟨j, np, nt, n, td, tv, wv, ys, tl, hj, htv, hwv, hys, hq, h1, tk1, m1, rfl, F1, N1⟩ := hPz1
    refine hZq ?_
    clear hZq
    have htl := htv.length
    rw [List.length_map, List.length_map, List.length_range] at htl
    have hwl := hwv.length
    rw [List.length_map] at hwl
    have hfew := R.few j (by omega)
    refine testI w L fa cd g h1 m1 gn dr tk1 os _ pg el td tp tl a _ ev ys tv _ ew ne n nt o4 _ X TT htv hev (by rw [List.length_map, List.length_range]; omega) (by rw [← hew, List.length_map, List.length_range]; omega) F1 N1 ?_
    intro h2 tk2 F2 N2
    rw [List.length_map, List.length_range, ← hew, List.length_map, List.length_range]
    cases k with
    | zero =>
      have hjM : j = M := by omega
      subst hjM
      have hlast : ((List.range j).map p).getLast? = some [] := by
        obtain ⟨i, rfl⟩ : ∃ i, j = i + 1 := ⟨j - 1, by omega⟩
        rw [range_last]
        exact congrArg some ((R.last i (by omega)).mpr rfl)
      rw [decide_eq_false (fun h => h.1 hlast)]
      refine wpAny_execs_nil ?_
      exact ⟨rfl, j, np, nt, n, td, tv, wv, ys, tl, rfl, htv, hwv, hys, hq, h2, tk2, m1, rfl, F2, N2⟩
    | succ k =>
      have hjM : j < M := by omega
      have hlast : ((List.range j).map p).getLast? ≠ some [] := by
        cases j with
        | zero => exact fun e => nomatch e
        | succ i =>
          rw [range_last]
          intro e
          have := (R.last i (by omega)).mp (Option.some.inj e)
          omega
      rw [decide_eq_true ⟨hlast, hjM⟩]
      show wpAny _ _ (execs bodyI _) _ _ _
      obtain ⟨l1, l2⟩ := hnl j (by omega)
      have hstep : pd (j + 1) = (pd j).tail ++ (if q j = [] then [] else [q j]) := by
        cases hpd : pd j with
        | nil => exact (R.file j hjM hpd).2.2
        | cons x r => exact (R.wait j hjM x r hpd).2.2
      refine cutN 1 (fun s' => ∃ t0 wv' ys' n' np' tl', StrsAre wv' ((pd j).tail.map T) ∧ StrsAre ys' ((cq (j + 1)).map sg) ∧
        At g L [((PySem.Str.ofString "page"), .str (T pg) tp), ((PySem.Str.ofString "due"), .ref el), ((PySem.Str.ofString "told"), .ref td)] ((td, listOf (tv ++ [Value.str (T (p j)) t0]).toArray (nt + 1)) :: lexL w a L el (listOf ev.toArray ne) o4 (1 + nlc pg - nlc (cq (j + 1))) tl' ys' n' (listOf wv'.toArray np')) ⟨h2, gn, dr, tk2, os⟩ s') ?_ ?_
      · cases hpd : pd j with
        | nil =>
          refine Classical.byContradiction fun hZq => ?_
          obtain ⟨r1, r2, r3⟩ := R.file j hjM hpd
          refine hZq ?_
          clear hZq
          rw [hpd] at hwv
          cases hwv
          refine wpAny_mono (turnI2 w L fa cd g h2 m1 gn dr tk2 os pg (cq j) el td tp tl a ok _ ev ys tv ne n np nt o4 X TT c4 nq1 hys (R.len j (by omega)) ⟨l1, l2⟩ (by omega) hq F2 N2) ?_ fun _ _ x => x
          rintro fl s3 hPz1
          refine Classical.byContradiction fun hZq => ?_
          obtain ⟨rfl, t0, ys', n', tl', hys', hat⟩ := hPz1
          refine hZq ?_
          clear hZq
          refine ⟨rfl, t0, [], ys', n', np, tl', .nil, by rw [r2]; exact hys', ?_⟩
          rw [r1, r2]
          rw [show 1 + nlc pg - nlc (cq j) + nlc (cq j) - nlc (tkS (cq j)).2 = 1 + nlc pg - nlc (tkS (cq j)).2 by omega] at hat
          exact hat
        | cons x r =>
          refine Classical.byContradiction fun hZq => ?_
          obtain ⟨r1, r2, r3⟩ := R.wait j hjM x r hpd
          refine hZq ?_
          clear hZq
          rw [hpd, List.map_cons] at hwv
          rw [hpd] at hwl hfew
          cases hwv with
          | cons _ tt hwv =>
            rename_i wv
            simp only [List.length_cons] at hwl hfew
            refine wpAny_mono (turnI1 w L fa cd g h2 m1 gn dr tk2 os pg x el td tp tl tt a ok _ ev ys tv wv ne n np nt o4 X TT c4 nq2 (by omega) (by omega) hq F2 N2) ?_ fun _ _ x => x
            rintro fl s3 hPz1
            refine Classical.byContradiction fun hZq => ?_
            obtain ⟨rfl, np', hat⟩ := hPz1
            refine hZq ?_
            clear hZq
            refine ⟨rfl, tt, wv, ys, n, np', tl, hwv, by rw [r2]; exact hys, ?_⟩
            rw [r1, r2]
            exact hat
      rintro s3 hPz1
      refine Classical.byContradiction fun hZq => ?_
      obtain ⟨t0, wv', ys', n', np', tl', hwv', hys', h3, tk3, m3, rfl, F3, N3⟩ := hPz1
      refine hZq ?_
      clear hZq
      refine cutN 2 _ (turnI3 w L fa cd g h3 m3 gn dr tk3 os pg (p j) (q j) (R.good j hjM) el td tp tl' t0 a _ ev ys' tv ne n' (nt + 1) o4 _ X TT (by omega) F3 N3) ?_
      rintro s4 hPz1
      refine Classical.byContradiction fun hZq => ?_
      obtain ⟨t9, h4, tk4, m4, rfl, F4, N4⟩ := hPz1
      refine hZq ?_
      clear hZq
      have hwl' := hwv'.length
      rw [List.length_map, List.length_tail] at hwl'
      refine wpAny_mono (turnI4 w L fa cd g h4 m4 gn dr tk4 os pg (q j) el td tp tl' t9 a ok _ ev ys' _ wv' ne n' (nt + 1) np' o4 X TT c4 nq2 (by omega) hq.2.2.2.2.2.2.2.2.2.2.1 F4 N4) ?_ fun _ _ x => x
      rintro fl s5 hPz1
      refine Classical.byContradiction fun hZq => ?_
      obtain ⟨rfl, np5, h5, tk5, m5, rfl, F5, N5⟩ := hPz1
      refine hZq ?_
      clear hZq
      refine ⟨k, Nat.lt_succ_self k, j + 1, np5, nt + 1, n', td, _, _, ys', tl', by omega, ?_, ?_, hys', hq, h5, tk5, m5, rfl, F5, N5⟩
      · rw [List.range_succ, List.map_append, List.map_append]; exact strsAre_snoc htv
      · rw [hstep, List.map_append]
        split
        · rw [List.map_nil, List.append_nil]; exact hwv'
        · exact strsAre_app hwv' (.cons _ _ .nil)
  · exact ⟨0, np, 0, n, _, [], wv, ys, tl, by omega, .nil, hwv, hys, ⟨Nat.ne_of_gt q1, Nat.ne_of_gt q2, Nat.ne_of_gt q3, Nat.ne_of_gt q4, Nat.ne_of_gt q5, Nat.ne_of_gt q6, Nat.ne_of_gt q7, Nat.ne_of_gt q8, Nat.ne_of_gt q9, Nat.ne_of_gt q10, Nat.ne_of_gt q11, trivial⟩, At.intro F1 N1 (by (first | focus ((repeat (first | exact True.intro | (refine AllAt.keep _ rfl ?_ ?_; (focus decide +kernel)) | (refine AllAt.skip _ rfl ?_ ?_; (focus decide +kernel)))); done) | ((repeat (refine And.intro ?_ ?_; (focus (first | walk_at "m_look" | rfl)))); exact True.intro))) (inAll_of fun p hp => hp)⟩

end partBlI6
theorem off_BlJ : (1 : Nat) = 1 := by
  w_top off
  first | walk1 | rfl
section partBlJ
local macro_rules | `(tactic| walk_at "compareOp Eq ref ref") => `(tactic| refine stop_at ?_)
theorem cnt_nlc : ∀ l : List Nat, PyProof.Rows.cnt 10 l = nlc l
  | [] => rfl
  | c :: r => by
    rw [nlc_cons, PyProof.Rows.cnt_cons, cnt_nlc r]
    split <;> omega
theorem count_nl (l : List Nat) : Txt.count (T l) (PySem.Str.ofString "\n") = nlc l := by
  have e : PySem.Str.ofString "\n" = ⟨#[10]⟩ := by decide +kernel
  rw [e, count_cnt, T_cps, List.toList_toArray, cnt_nlc]
/-- law came back with True -/
noncomputable def EndJ (g : Heap) (L : Addr) (gn : Array GenState) (dr : Drawn) (os : OsState) (fl : Flow) (s' : Shared) : Prop := fl = .ret (.bool true) ∧ ∃ h tk' m, s' = ⟨h, gn, dr, tk', os⟩ ∧ Fr g L h m
/-- told == due and lexer.lineno == 1 + page.count('\n') -/
theorem blkJ (w : World) (L fa : Addr) (cd : Value) (g h0 : Heap) (m0 : Str → Option Value) (gn : Array GenState) (dr : Drawn) (tk : Nat) (os : OsState) (pg : List Nat) (hpg : pg.length ≤ 1000) (el td : Addr) (tp tl : Tok) (a : LxA) (ev tv ys : List Value) (ne n np nt : Nat) (o4 : Obj) (opb : Obj) (ew : List (List Nat)) {pp : Program} {loose : List Str} {mean : ExcName → Option Value} {mg mb : Str → Option Value}
  (X : (K0 w.params).In g) (TT : Top pp loose mean mg mb g) (c4 : o4.data = .cell (some (.ref a.x))) (hev : StrsAre ev (ew.map T)) (htv : StrsAre tv (ew.map T))
  (F0 : Fr g L h0 (over [((PySem.Str.ofString "page"), .str (T pg) tp), ((PySem.Str.ofString "due"), .ref el), ((PySem.Str.ofString "told"), .ref td)] m0)) (N0 : News g L h0 ((td, listOf tv.toArray nt) :: lexL w a L el (listOf ev.toArray ne) o4 (1 + nlc pg) tl ys n opb)) :
  wpAny (model prog w) (lawA L fa cd) (execs (lawBS.1.drop 11) (lawEnv L fa cd)) (EndJ g L gn dr os) noE ⟨h0, gn, dr, tk, os⟩ := by
  have _kf : (PySem.Challenge.rw_pg0230_02, K0) = (PySem.Challenge.rw_pg0230_02, K0) := by k_fill; rfl
  have e1 : lawBS.1.drop 11 = [_] := rfl
  have e2 : lawBS.2 = ⟨_, _, _, _, _⟩ := rfl
  unfold lawA lawEnv
  rw [e1, e2]
  clear e1 e2
  dsimp only [lexL, LxA.led, List.cons_append, List.nil_append] at N0
  k_steps
  unfold Stop
  rename News _ _ _ _ => N7
  refine EqBoolInt.of_rc (eq_texts ⟨_, N7.get (.head _), rfl, _, rfl⟩ ⟨_, N7.get (.tail _ (.head _)), rfl, _, rfl⟩ htv hev (by (exact Nat.le_of_ble_eq_true rfl))) ?_
  rw [decide_eq_true rfl]
  k_steps
  rename Fr _ _ _ _ => F9
  rw [count_nl, beq_self_eq_true]
  exact ⟨rfl, _, _, _, rfl, F9⟩

end partBlJ
theorem off_Rb2 : (1 : Nat) = 1 := by
  w_top off
  first | walk1 | rfl
section partRb2
/-! the base taken anew, with the code table's object in it -/
noncomputable abbrev reb (g : Heap) (ps : Array Value) : Heap := g.update 145 fun _ => tabObj ps
theorem reb_self {g : Heap} {ps : Array Value} (h : (145 : Nat) < g.objs.size) : (reb g ps).get? 145 = some (tabObj ps) := by
  obtain ⟨objs, l⟩ := g
  have h : (145 : Nat) < objs.size := h
  have e : (objs.modify (145 : Nat) fun _ => tabObj ps)[(145 : Nat)]? = some (tabObj ps) := by
    rw [Array.getElem?_modify, if_pos rfl, Array.getElem?_eq_getElem h]
    rfl
  show (match (objs.modify (145 : Nat) fun _ => tabObj ps)[(145 : Nat)]? with | some ⟨_, _, .freed, _⟩ => none | o => o) = _
  rw [e]
theorem reb_ne {g : Heap} {ps : Array Value} {b : Addr} (h : b ≠ 145) : (reb g ps).get? b = g.get? b := Heap.get?_update_other g _ (Ne.symm h)
theorem reb_size (g : Heap) (ps : Array Value) : (reb g ps).objs.size = g.objs.size := by
  obtain ⟨objs, l⟩ := g
  exact Array.size_modify
theorem reb_keep {g : Heap} {ps : Array Value} (h0 : g.get? 145 = none) : ∀ b o, g.get? b = some o → (reb g ps).get? b = some o := fun b o e => by
  rw [reb_ne fun q => by rw [q, h0] at e; cases e]
  exact e
theorem reb_fr {g h : Heap} {L : Addr} {m : Str → Option Value} {ps : Array Value} (hs : (145 : Nat) < g.objs.size) (F : Fr g L h m) (e : h.get? 145 = some (tabObj ps)) : Fr (reb g ps) L h m :=
  ⟨F.ns, fun b o q => by
    by_cases hb : b = 145
    · rw [hb, reb_self hs] at q
      rw [hb, e, q]
    · rw [reb_ne hb] at q
      exact F.keep b o q, by rw [reb_size]; exact F.above⟩
theorem reb_back {g h : Heap} {L : Addr} {m : Str → Option Value} {ps : Array Value} (h0 : g.get? 145 = none) (F : Fr (reb g ps) L h m) : Fr g L h m :=
  ⟨F.ns, fun b o q => F.keep b o (reb_keep h0 b o q), by rw [← reb_size g ps]; exact F.above⟩
theorem reb_news {g h : Heap} {L : Addr} {news : List (Addr × Obj)} {ps : Array Value} (N : News g L h news) (hn : ∀ p ∈ news, p.1 ≠ 145) : News (reb g ps) L h news := fun p hp =>
  ⟨(N p hp).1, (N p hp).2.1, by rw [reb_ne (hn p hp)]; exact (N p hp).2.2⟩

end partRb2
theorem off_La2 : (1 : Nat) = 1 := by
  w_top off
  first | walk1 | rfl
section partLa2
theorem cutB {M : Model} {A : Around} {body : List Stmt} {env : Env} {Q : Flow → Shared → Prop} {E : Value → Shared → Prop} {s : Shared} (k n m : Nat) (hm : k + n = m) (Mid : Shared → Prop)
    (h1 : wpAny M A (execs ((body.drop k).take n) env) (Next Mid) E s) (h2 : ∀ s', Mid s' → wpAny M A (execs (body.drop m) env) Q E s') : wpAny M A (execs (body.drop k) env) Q E s :=
  cutN n Mid h1 fun s' h => by rw [List.drop_drop, hm]; exact h2 s' h
/-- one of three -/
noncomputable def pick3 {α : Type} (a b c : α) (i : Nat) : α := if i = 0 then a else if i = 1 then b else c
theorem dueE_len (H : Nat → List Nat) (W : Nat → List (List Nat)) (h : (W 2).length ≤ 17) : 1 ≤ (dueE H W).length ∧ (dueE H W).length ≤ 52 := by
  have := dueD_len H W 17
  unfold dueE
  rw [List.length_append, List.length_append, List.length_map, List.length_range, List.length_singleton]
  omega
theorem law_body (w : World) (L fa : Addr) (cd : Value) (g h0 : Heap) (gn : Array GenState) (dr : Drawn) (tk : Nat) (os : OsState) (ax : Addr) (its : List Value) (script : List Int) (o1 o2 o3 o4 : Obj) {pp : Program} {loose : List Str} {mean : ExcName → Option Value} {mg mb : Str → Option Value}
  (X : (K0 w.params).In g) (TT : Top pp loose mean mg mb g) (hL0 : g.IsList ax its.toArray) (hI0 : IntsAre its script) (hsl : script.length ≤ 63) (HC : Cells o1 o2 o3 o4 none none none none) (l145 : (145 : Nat) < L) (h145 : (145 : Nat) < g.objs.size) (C0 : CodeHd g 149 145)
  (F0 : Fr g L h0 (over [((PySem.Str.ofString "script"), .ref ax)] fun _ => none)) (N0 : News g L h0 (cellsL L o1 o2 o3 o4)) :
  wpAny (model prog w) (lawA L fa cd) (execs (lawBS.1.drop 0) (lawEnv L fa cd)) (fun fl s' => fl = .ret (.bool true) ∧ (∃ h tk' m, s' = ⟨h, gn, dr, tk', os⟩ ∧ Fr g L h m) ∧ ∃ ps, s'.heap.get? 145 = some (tabObj ps)) noE ⟨h0, gn, dr, tk, os⟩ := by
  have n145 : g.get? 145 = none := (N0 _ (.tail _ (.tail _ (.tail _ (.tail _ (.head _)))))).2.2
  -- drawn
  refine cutB 0 1 1 rfl _ (blkA w L fa cd g h0 gn dr tk os ax its script o1 o2 o3 o4 X TT hL0 hI0 hsl HC l145 F0 N0) ?_
  clear F0 N0 HC
  clear o1 o2 o3 o4
  rintro s1 hPz1
  refine Classical.byContradiction fun hZq => ?_
  obtain ⟨a0, b0, a1, b1, a2, b2, t0, t1, t2, t3, t4, t5, l, n, o1, o2, o3, o4, ha0, hb0, ha1, hb1, ha2, hb2, HC, h1, tk1, m1, rfl, F1, N1⟩ := hPz1
  refine hZq ?_
  clear hZq
  -- heads, walks, page
  refine cutB 1 1 2 rfl _ (blkB w L fa cd g h1 m1 gn dr tk1 os l _ n o1 o2 o3 o4 X TT HC l145 F1 N1) ?_
  have nl3 := nq_of (ne_of_data N1 (.head _) (.tail _ (.tail _ (.head _))) (fun e => by rw [HC.2.2.1] at e; exact nomatch e))
  have nl4 := nq_of (ne_of_data N1 (.head _) (.tail _ (.head _)) (fun e => by rw [HC.2.2.2] at e; exact nomatch e))
  clear F1 N1 HC
  clear o1 o2 o3 o4
  rintro s2 hPz1
  refine Classical.byContradiction fun hZq => ?_
  obtain ⟨hl, wl, tp, o1, o2, o3, o4, HC, d1, d2, d3, d4, d5, d6, d7, h2, tk2, m2, rfl, F2, N2⟩ := hPz1
  refine hZq ?_
  clear hZq
  -- the page
  have hna : ∀ i, i < 3 → 0 ≤ pick3 a0 a1 a2 i ∧ pick3 a0 a1 a2 i < 1000000 := by
    intro i hi
    have : i = 0 ∨ i = 1 ∨ i = 2 := by omega
    rcases this with rfl | rfl | rfl
    · exact ha0
    · exact ha1
    · exact ha2
  have hnb : ∀ i, i < 3 → 0 ≤ pick3 b0 b1 b2 i ∧ pick3 b0 b1 b2 i < 1000000 := by
    intro i hi
    have : i = 0 ∨ i = 1 ∨ i = 2 := by omega
    rcases this with rfl | rfl | rfl
    · exact hb0
    · exact hb1
    · exact hb2
  have hva : ∀ i, i < 3 → ∃ t, [Value.int a0 t0, .int b0 t1, .int a1 t2, .int b1 t3, .int a2 t4, .int b2 t5][2 * i]? = some (.int (pick3 a0 a1 a2 i) t) := by
    intro i hi
    have : i = 0 ∨ i = 1 ∨ i = 2 := by omega
    rcases this with rfl | rfl | rfl
    · exact ⟨_, rfl⟩
    · exact ⟨_, rfl⟩
    · exact ⟨_, rfl⟩
  have hvb : ∀ i, i < 3 → ∃ t, [Value.int a0 t0, .int b0 t1, .int a1 t2, .int b1 t3, .int a2 t4, .int b2 t5][2 * i + 1]? = some (.int (pick3 b0 b1 b2 i) t) := by
    intro i hi
    have : i = 0 ∨ i = 1 ∨ i = 2 := by omega
    rcases this with rfl | rfl | rfl
    · exact ⟨_, rfl⟩
    · exact ⟨_, rfl⟩
    · exact ⟨_, rfl⟩
  generalize pick3 a0 a1 a2 = na at *
  generalize pick3 b0 b1 b2 = nb at *
  generalize hvs : [Value.int a0 t0, .int b0 t1, .int a1 t2, .int b1 t3, .int a2 t4, .int b2 t5] = vs at *
  have hvl : vs.length = 6 := by rw [← hvs]; rfl
  clear hvs ha0 ha1 ha2 hb0 hb1 hb2
  have q : ∀ k : Nat, k ≤ 4 → Nq hl (L + k) ∧ Nq wl (L + k) := fun k hk => ⟨by show @Ne Nat _ _; omega, by show @Ne Nat _ _; omega⟩
  have hJ0 : JC L l (listOf vs.toArray n) na nb 0 [((PySem.Str.ofString "drawn"), .ref l), ((PySem.Str.ofString "page"), .str (T (pageP na nb 0)) tp)] ((hl, listOf [].toArray 0) :: (wl, listOf [].toArray 0) :: (L + 1, o1) :: (L + 1, o1) :: (L + 1, o1) :: (l, listOf vs.toArray n) :: cellsL L o1 o2 o3 o4) :=
    ⟨hl, wl, tp, [], [], 0, 0, L + 1, L + 1, L + 1, o1, o1, o1, o1, o2, o3, o4, rfl, rfl, HC,
      ⟨d1, d2, d3, d6, d7, (q 1 (by decide)).1, (q 1 (by decide)).1, (q 1 (by decide)).1, (q 1 (by decide)).2, (q 1 (by decide)).2, (q 1 (by decide)).2, (q 1 (by decide)).1, (q 2 (by decide)).1, (q 3 (by decide)).1, (q 4 (by decide)).1, (q 1 (by decide)).2, (q 2 (by decide)).2, (q 3 (by decide)).2, (q 4 (by decide)).2⟩,
      ⟨by show @Ne Nat _ _; omega, by show @Ne Nat _ _; omega, by show @Ne Nat _ _; omega, nl3, by show @Ne Nat _ _; omega, by show @Ne Nat _ _; omega, by show @Ne Nat _ _; omega, nl4⟩, .nil, rfl, fun j hj => absurd hj (by omega)⟩
  refine cutB 2 1 3 rfl _ (blkC w L fa cd g h2 m2 gn dr tk2 os l vs n na nb _ _ X TT l145 hvl hva hvb hna hnb hJ0 F2 (fun p hp => N2 p (by
    rcases List.mem_cons.mp hp with rfl | hp
    · exact .head _
    rcases List.mem_cons.mp hp with rfl | hp
    · exact .tail _ (.head _)
    rcases List.mem_cons.mp hp with rfl | hp
    · exact .tail _ (.tail _ (.tail _ (.tail _ (.tail _ (.tail _ (.head _))))))
    rcases List.mem_cons.mp hp with rfl | hp
    · exact .tail _ (.tail _ (.tail _ (.tail _ (.tail _ (.tail _ (.head _))))))
    rcases List.mem_cons.mp hp with rfl | hp
    · exact .tail _ (.tail _ (.tail _ (.tail _ (.tail _ (.tail _ (.head _))))))
    exact .tail _ (.tail _ hp)))) ?_
  clear hJ0 q F2 N2 HC d1 d2 d3 d4 d5 d6 d7
  clear o1 o2 o3 o4 hl wl tp
  rintro s3 hPz1
  refine Classical.byContradiction fun hZq => ?_
  obtain ⟨lo, nw, ⟨hl, wl, tp, hs, ws, nh, nn, e0, e1, e2, p0, p1, p2, o1, o2, o3, o4, rfl, rfl, HC, ⟨d1, d2, d3, d4, d5, d6, d7, d8, d9, d10, d11, d12, d13, d14, d15, d16, d17, d18, d19⟩, ⟨g1, g2, g3, g4, g5, g6, g7, g8⟩, hst, hwl, hsl⟩, h3, tk3, m3, rfl, F3, N3⟩ := hPz1
  refine hZq ?_
  clear hZq
  refine Classical.byContradiction fun hZq => ?_
  obtain ⟨_, y0, n0, w0, z0, x0⟩ := hsl 0 (by decide)
  refine hZq ?_
  clear hZq
  refine Classical.byContradiction fun hZq => ?_
  obtain ⟨_, y1, n1, w1, z1, x1⟩ := hsl 1 (by decide)
  refine hZq ?_
  clear hZq
  refine Classical.byContradiction fun hZq => ?_
  obtain ⟨_, y2, n2, w2, z2, x2⟩ := hsl 2 (by decide)
  refine hZq ?_
  clear hZq
  cases z0
  cases z1
  cases z2
  have hpgl : (pageP na nb 3).length ≤ 300 := page_len na nb 3 fun j hj => (hna j hj).1
  refine Classical.byContradiction fun hZq => ?_
  obtain ⟨M, pd, cq, p, q, R, hrow, hpd0, hcq0, hcqM, hcqb⟩ := row_page na nb fun i hi => (hna i hi).1
  refine hZq ?_
  clear hZq
  generalize hH : (fun j => headP (na j)) = H at *
  generalize hW : (fun j => colsP (na j) (nb j)) = W at *
  have eH : ∀ j, headP (na j) = H j := fun j => congrFun hH j
  have eW : ∀ j, colsP (na j) (nb j) = W j := fun j => congrFun hW j
  have hst3 : StrsAre hs ([H 0, H 1, H 2].map T) := by
    rw [← eH 0, ← eH 1, ← eH 2]; exact hst
  have hwsA : ∀ j, j < 3 → ws[j]? = some (.ref (pick3 e0 e1 e2 j)) := by
    intro j hj
    have : j = 0 ∨ j = 1 ∨ j = 2 := by omega
    rcases this with rfl | rfl | rfl
    · exact w0
    · exact w1
    · exact w2
  have hYs : ∀ j, j < 3 → StrsAre (pick3 y0 y1 y2 j) ((W j).map T) := by
    intro j hj
    rw [← eW j]
    have : j = 0 ∨ j = 1 ∨ j = 2 := by omega
    rcases this with rfl | rfl | rfl
    · exact x0
    · exact x1
    · exact x2
  have hWb : ∀ j, j < 3 → (W j).length ≤ 17 ∧ ∀ l ∈ W j, l.length = 3 := by
    intro j hj
    rw [← eW j]
    exact ⟨(cols_len _ _).2, cols_three _ _⟩
  have hHb : ∀ j, j < 3 → (H j).length ≤ 100 := by
    intro j hj
    rw [← eH j]
    have := head_len (na j) (hna j hj).1
    omega
  have F3' : Fr g L h3 (over [((PySem.Str.ofString "page"), .str (T (pageP na nb 3)) tp)] (over [((PySem.Str.ofString "drawn"), .ref l), ((PySem.Str.ofString "page"), .str (T (pageP na nb 3)) tp)] m3)) := by
    rw [over_self (by (first | focus ((repeat (first | exact True.intro | (refine AllAt.keep _ rfl ?_ ?_; (focus decide +kernel)) | (refine AllAt.skip _ rfl ?_ ?_; (focus decide +kernel)))); done) | ((repeat (refine And.intro ?_ ?_; (focus (first | walk_at "m_look" | rfl)))); exact True.intro)))]; exact F3
  -- due
  refine cutB 3 2 5 rfl _ (blkD w L fa cd g h3 _ gn dr tk3 os hl wl (pick3 e0 e1 e2) (pick3 y0 y1 y2) (pick3 n0 n1 n2) H W (pageP na nb 3) hs ws nh nn tp o1 o2 o3 o4 _ X TT l145 hst3 hwsA hYs hWb hHb HC ⟨d14.r, d18.r, g1.r, g2.r, g3.r, trivial⟩ F3' (fun p hp => N3 p (by
    rcases List.mem_cons.mp hp with rfl | hp
    · exact .head _
    rcases List.mem_cons.mp hp with rfl | hp
    · exact .tail _ (.head _)
    rcases List.mem_cons.mp hp with rfl | hp
    · exact .tail _ (.tail _ (.head _))
    rcases List.mem_cons.mp hp with rfl | hp
    · exact .tail _ (.tail _ (.tail _ (.head _)))
    rcases List.mem_cons.mp hp with rfl | hp
    · exact .tail _ (.tail _ (.tail _ (.tail _ (.head _))))
    exact .tail _ (.tail _ (.tail _ (.tail _ (.tail _ (.tail _ hp)))))))) ?_
  clear F3 F3' N3
  rintro s4 hPz1
  refine Classical.byContradiction fun hZq => ?_
  obtain ⟨lo4, nw4, hJD, h4, tk4, m4, rfl, F4, N4⟩ := hPz1
  refine hZq ?_
  clear hZq
  refine cutB 5 1 6 rfl _ (blkE w L fa cd g h4 m4 gn dr tk4 os hl wl (pick3 e0 e1 e2) (pick3 y0 y1 y2) (pick3 n0 n1 n2) H W (pageP na nb 3) hs ws nh nn lo4 nw4 X TT l145 hst3 hwsA hYs hWb hHb hJD F4 N4) ?_
  clear F4 N4 hJD HC hst3 hwsA hYs hHb
  clear d1 d2 d3 d4 d5 d6 d7 d8 d9 d10 d11 d12 d13 d14 d15 d16 d17 d18 d19 g1 g2 g3 g4 g5 g6 g7 g8
  rintro s5 hPz1
  refine Classical.byContradiction fun hZq => ?_
  obtain ⟨el, tp5, ev, ne, o1, o2, o3, o4, v1, v2, v3, HC5, nq1, nq2, hev, h5, tk5, m5, rfl, F5, N5⟩ := hPz1
  refine hZq ?_
  clear hZq
  -- lexer
  refine cutB 6 1 7 rfl _ (blkF w L fa cd g h5 m5 gn dr tk5 os H W (pageP na nb 3) (by omega) el tp5 ev ne o1 o2 o3 o4 v1 v2 v3 X TT l145 C0 HC5 nq1 nq2 hev F5 N5) ?_
  clear F5 N5 HC5 nq1 nq2 hev
  rintro s6 hPz1
  refine Classical.byContradiction fun hZq => ?_
  obtain ⟨a, el, tp6, tl6, ev, ys, ne, n6, o4, ok, c4, nq1, nq2, hev, hys, ⟨ps, e145⟩, hne, h6, tk6, m6, rfl, F6, N6⟩ := hPz1
  refine hZq ?_
  clear hZq
  have e145 : h6.get? 145 = some (tabObj ps) := e145
  have F6' := reb_fr (ps := ps) h145 F6 e145
  have N6' : News (reb g ps) L h6 (lexL w a L el (listOf ev.toArray ne) o4 1 tl6 ys n6 (listOf #[] 0)) := reb_news N6 (by
    refine Classical.byContradiction fun hZq => ?_
    obtain ⟨c1, c2, c3, c4, c5, c6, c7, c8, c9, c10, c11, _⟩ := hne
    refine hZq ?_
    clear hZq
    intro p hp
    rcases List.mem_cons.mp hp with rfl | hp
    · exact c1.r
    rcases List.mem_cons.mp hp with rfl | hp
    · exact c2.r
    rcases List.mem_cons.mp hp with rfl | hp
    · exact c3.r
    rcases List.mem_cons.mp hp with rfl | hp
    · exact c4.r
    rcases List.mem_cons.mp hp with rfl | hp
    · exact c5.r
    rcases List.mem_cons.mp hp with rfl | hp
    · exact c6.r
    rcases List.mem_cons.mp hp with rfl | hp
    · exact c7.r
    rcases List.mem_cons.mp hp with rfl | hp
    · exact c8.r
    rcases List.mem_cons.mp hp with rfl | hp
    · exact c9.r
    rcases List.mem_cons.mp hp with rfl | hp
    · exact c10.r
    rw [List.mem_singleton.mp hp]
    exact c11.r)
  have X2 : (K0 w.params).In (reb g ps) := X.keeps (reb_keep n145)
  have TT2 : Top pp loose mean mg mb (reb g ps) := TT.keeps (reb_keep n145)
  clear F6 N6
  -- waiting
  refine cutB 7 1 8 rfl _ (blkG w L fa cd (reb g ps) h6 m6 gn dr tk6 os (pageP na nb 3) (by omega) el tp6 tl6 a ok ev ys ne n6 o4 X2 TT2 c4 nq1 hys (nl_ok _ _) F6' N6') ?_
  clear F6' N6' hys
  rintro s7 hPz1
  refine Classical.byContradiction fun hZq => ?_
  obtain ⟨wt, wv, ys, nw, n7, tl7, hwv, hys, hwt, h7, tk7, m7, rfl, F7, N7⟩ := hPz1
  refine hZq ?_
  clear hZq
  refine cutB 8 1 9 rfl _ (blkH w L fa cd (reb g ps) h7 m7 gn dr tk7 os (pageP na nb 3) el wt tp6 tl7 a ok _ ev ys wv (toksP (pageP na nb 3) 2) ne n7 nw o4 X2 TT2 c4 nq2 hwt.2.1 hwv (by unfold toksP; rw [List.length_map, List.length_range]; decide) F7 N7) ?_
  clear F7 N7
  rintro s8 hPz1
  refine Classical.byContradiction fun hZq => ?_
  obtain ⟨np, h8, tk8, m8, rfl, F8, N8⟩ := hPz1
  refine hZq ?_
  clear hZq
  -- told
  have hml : M = (dueE H W).length := by rw [← hrow, List.length_map, List.length_range]
  obtain ⟨hM1, hM2⟩ := dueE_len H W (hWb 2 (by decide)).1
  have hnb9 := nlc_b (pageP na nb 3)
  rw [← hcq0] at N8 hys
  rw [← hpd0] at hwv
  refine cutB 9 2 11 rfl _ (blkI w L fa cd (reb g ps) h8 m8 gn dr tk8 os (pageP na nb 3) el tp6 tl7 a ok ev ys wv ne n7 np o4 (dueE H W) M pd cq p q X2 TT2 c4 nq1 nq2 R hrow (by omega) (by omega) hev (fun j _ => by have := hcqb j; omega) hwv hys F8 N8) ?_
  clear F8 N8 hys hwv
  rintro s9 hPz1
  refine Classical.byContradiction fun hZq => ?_
  obtain ⟨j, np, nt, n9, td, tv, wv, ys, tl, hj, htv, hwv, hys, hq, h9, tk9, m9, rfl, F9, N9⟩ := hPz1
  refine hZq ?_
  clear hZq
  have hjM : j = M := by omega
  subst hjM
  rw [hcqM, show nlc [] = 0 from rfl, Int.sub_zero] at N9
  rw [hrow] at htv
  refine wpAny_mono (blkJ w L fa cd (reb g ps) h9 m9 gn dr tk9 os (pageP na nb 3) (by omega) el td tp6 tl a ev tv ys ne n9 np nt o4 _ (dueE H W) X2 TT2 c4 hev htv F9 N9) ?_ fun _ _ x => x
  rintro fl s10 hPz1
  refine Classical.byContradiction fun hZq => ?_
  obtain ⟨rfl, h10, tk10, m10, rfl, F10⟩ := hPz1
  refine hZq ?_
  clear hZq
  exact ⟨rfl, ⟨h10, tk10, m10, rfl, reb_back n145 F10⟩, ps, F10.keep _ _ (reb_self h145)⟩
local macro_rules | `(tactic| walk_at "execs cons Assign cons") => `(tactic| refine stop_at ?_)
theorem law_holds : PySem.Challenge.rw_pg0230_02.Holds := by
  w_on
  refine holds_law said0 fun said => ?_
  refine holds_open (q := view0) (loose := [PySem.Str.ofString "Whitespace"]) (Xt := fun s => xlAt view0 [] s && recOk (RowW.records PySem.Challenge.rw_pg0230_02.row.toRowW) s) (XP := XL view0 []) (Yf := Hook.obs (kmHook K0 as0 as_ok [145])) (Ya := Hook.val (kmHook K0 as0 as_ok [145])) (YP := Hook.says (kmHook K0 as0 as_ok [145])) (N := 2454) left0 (Hook.of _) (Hook.keeps _) (fun s e => xl_of s (Bool.and_eq_true_iff.mp e).1) XL.keeps (by rfl) (by rfl) (by rfl) (fun s e => recFacts_of (Bool.and_eq_true_iff.mp e).2) (by rfl) (by first | assumption | decide +kernel) (by decide +kernel) ⟨rfl, rfl, rfl, rfl, rfl, by decide +kernel⟩ ?hw ?hc
  (case hw => w_witness2)
  k_go0
  all_goals try k_fold
  k_steps
  unfold Stop
  rename Fr _ _ _ _ => F0
  rename News _ _ _ _ => N0
  rename IntsAre _ _ => hI0
  rename Heap.IsList _ _ _ => hL0
  rename CodeHd _ _ _ => C0
  rename Frag.In _ _ => X
  rename Top _ _ _ _ _ _ => TT
  rename World => w
  rename List Int => script
  rename (145 : Nat) < _ => l145
  rename ¬ (_ : Int) < _ => hlen
  rename _ = #[] => hg
  refine wpAny_mono (law_body w _ _ _ _ _ _ _ _ _ _ _ script _ _ _ _ X TT hL0 hI0 ?_ ⟨?_, ?_, ?_, ?_⟩ l145 ?_ C0 F0 N0) ?_ ?_
  · omega
  · assumption
  · assumption
  · assumption
  · assumption
  · rw [show (ghostOf _ [(149, 145)]).objs.size = _ from hideAll_size _ _]
    exact l145
  · rintro fl s' hPz1
    refine Classical.byContradiction fun hZq => ?_
    obtain ⟨rfl, ⟨h, tk', m, rfl, F⟩, hps⟩ := hPz1
    refine hZq ?_
    clear hZq
    refine ⟨?_, hps, trivial⟩
    clear F0 N0
    dsimp only
    k_steps
  · exact fun _ _ x => x.elim

end partLa2
end walksB
end walks
end Mine
theorem PySem.Challenge.cw_pg0230_02_holds : PySem.Challenge.rw_pg0230_02.Holds := by
  exact Mine.law_holds
