import PyProof.Rows.All
import Wide.All
import OpenK.AllK
import Wide.FinOn
import PySem.Challenge.RW_pg0230_01
open PySem PySem.W PyProof.Rows
set_option Elab.async false
set_option linter.unusedVariables false
set_option linter.unusedSimpArgs false
set_option maxRecDepth 100000
set_option maxHeartbeats 8000000
set_option rowWalk.seconds 0
set_option compiler.extract_closed false
namespace Mine
section partBase2
open PySem PySem.W PyProof.Rows PySem.Calls
/-- what a heap keeps, but for the addresses in wr -/
noncomputable def Kp (wr : List Addr) (h h' : Heap) : Prop := ∀ b o, b ∉ wr → h.get? b = some o → h'.get? b = some o
theorem Kp.trans {wr : List Addr} {h h' h'' : Heap} (x : Kp wr h h') (y : Kp wr h' h'') : Kp wr h h'' := fun b o n e => y b o n (x b o n e)
theorem Kp.mono {wr wr' : List Addr} {h h' : Heap} (x : Kp wr h h') (s : ∀ a ∈ wr, a ∈ wr') : Kp wr' h h' := fun b o n e => x b o (fun q => n (s b q)) e
theorem Kp.fr {wr : List Addr} {h g h' : Heap} {L : Addr} {m : Str → Option Value} (x : Kp wr h g) (F : Fr g L h' m) : Kp wr h h' := fun b o n e => F.keep b o (x b o n e)
/-- the top's objects stand, and the top's names -/
noncomputable def Gd (K : Frag) (h : Heap) : Prop := K.In h ∧ ∃ p loose mean mg mb, Top p loose mean mg mb h
theorem Gd.keeps {K : Frag} {h h' : Heap} (x : Gd K h) (k : ∀ b o, h.get? b = some o → h'.get? b = some o) : Gd K h' :=
  ⟨x.1.keeps k, let ⟨p, l, a, b, c, t⟩ := x.2; ⟨p, l, a, b, c, t.keeps k⟩⟩
theorem stays_hide {b h : Heap} {L : Addr} {m : Str → Option Value} {news : List (Addr × Obj)} (F : Fr b L h m) (N : News b L h news) (wr : List Addr) (hw : ∀ a ∈ wr, ∃ o, (a, o) ∈ news) :
    ∀ c o, b.get? c = some o → (hideAll h wr).get? c = some o := fun c o e => hideAll_get _ (F.keep c o e) fun q => by
  obtain ⟨o', hm⟩ := hw c q
  have := (N _ hm).2.2
  rw [this] at e; cases e
noncomputable abbrev lv (n : Nat) : Around := { handled := none, depth := 500 - 10 * n, frames := none, guards := none, units := 5000 - 100 * n }
theorem codeAny_at {M : Model} {A A' : Around} {c : Code} {R : Result → Shared → Prop} {s : Shared} (hh : A.handled = A'.handled) (hd : A.depth ≤ A'.depth) (hu : A.units ≤ A'.units) (hf : A'.frames = none) (hg : A'.guards = none)
    (h : codeAny M A' c R s) : codeAny M A c R s := fun Γ p hc hΓ =>
  h Γ p hc ⟨hΓ.1.trans hh, Nat.le_trans hΓ.2.1 hd, fun l hl => (nomatch (hf.symm.trans hl)), fun l hl => (nomatch (hg.symm.trans hl)), Nat.le_trans hΓ.2.2.2.2 hu⟩
/-- the frame's names that count, written out over the rest -/
noncomputable def over : List (Str × Value) → (Str → Option Value) → Str → Option Value
  | [], m => m
  | p :: r, m => fun y => if y = p.1 then some p.2 else over r m y
noncomputable def AllAt (m : Str → Option Value) : List (Str × Value) → Prop
  | [] => True
  | p :: r => m p.1 = some p.2 ∧ AllAt m r
theorem over_self {m : Str → Option Value} : ∀ {l : List (Str × Value)}, AllAt m l → over l m = m
  | [], _ => rfl
  | p :: r, h => by
    funext y
    show (if y = p.1 then some p.2 else over r m y) = m y
    rw [over_self h.2]
    by_cases e : y = p.1
    · rw [if_pos e, e]; exact h.1.symm
    · rw [if_neg e]
theorem over_here {x : Str} {v : Value} {r : List (Str × Value)} {m : Str → Option Value} : over ((x, v) :: r) m x = some v := if_pos rfl
theorem over_there {x y : Str} {v : Value} {o : Option Value} {r : List (Str × Value)} {m : Str → Option Value} (ne : x ≠ y) (h : over r m x = o) : over ((y, v) :: r) m x = o := (if_neg ne).trans h
theorem lookup_over : ∀ (l : List (Str × Value)), (fun y => l.lookup y) = over l (fun _ => none)
  | [] => rfl
  | p :: r => by
    funext y
    show List.lookup y (p :: r) = if y = p.1 then some p.2 else over r (fun _ => none) y
    rw [← lookup_over r, List.lookup_cons]
    by_cases e : y = p.1
    · rw [if_pos e, e]; simp
    · rw [if_neg e]
      have : (y == p.1) = false := by simpa using e
      rw [this]
/-- a name stored: its place in the list, or a new one at the end -/
inductive PutL (x : Str) (v : Value) : List (Str × Value) → List (Str × Value) → Prop
  | nil : PutL x v [] [(x, v)]
  | here {u r} : PutL x v ((x, u) :: r) ((x, v) :: r)
  | there {y u r r'} : x ≠ y → PutL x v r r' → PutL x v ((y, u) :: r) ((y, u) :: r')
theorem PutL.eq {x : Str} {v : Value} {m : Str → Option Value} {l l' : List (Str × Value)} (p : PutL x v l l') : (fun y => if y = x then some v else over l m y) = over l' m := by
  induction p with
  | nil => rfl
  | here => 
    funext y
    by_cases e : y = x
    · simp [over, e]
    · simp [over, e]
  | there ne _ ih =>
    rename_i y' u r r' p
    funext y
    have := congrFun ih y
    by_cases e : y = x
    · subst e
      simp only [over, if_true] at this ⊢
      rw [if_neg ne, ← this]
    · simp only [over, if_neg e] at this ⊢
      rw [this]
section
variable {M : Model} {A : Around} {E : Value → Shared → Prop} {s : Shared} {h₀ : Heap} {L a : Addr} {m : Str → Option Value} {cn : Str} {cs : Scope} {ccd : Value} {cl : List (Str × Addr)} {x : Str} {pos : Pos} {v : Value} {news : List (Addr × Obj)} {l l' : List (Str × Value)}
theorem m_ld {Q : Value → Shared → Prop} {h : Heap} {gn : Array GenState} {dr : Drawn} {tk : Nat} {os : OsState} (F : Fr h₀ L h (over l m)) (hx : (envX cn cs L a ccd cl).kindOf x = some .local) (hk : cs.kind = .function) (hd : (x == ("__debug__" : Str)) = false) (e : over l m x = some v) (k : Q v ⟨h, gn, dr, tk, os⟩) :
    wpAny M A (eval (.Name x pos) (envX cn cs L a ccd cl)) Q E ⟨h, gn, dr, tk, os⟩ := nameX_L F e k hk hx hd
theorem m_ldn {Q : Value → Shared → Prop} {h : Heap} {gn : Array GenState} {dr : Drawn} {tk : Nat} {os : OsState} (F : Fr h₀ L h (over l m)) (hx : (envX cn cs L a ccd cl).kindOf x = some .local) (hk : cs.kind = .function) (e : over l m x = some v) (k : Q v ⟨h, gn, dr, tk, os⟩) :
    wpAny M A (loadName (envX cn cs L a ccd cl) x) Q E ⟨h, gn, dr, tk, os⟩ := wpAny_loadName_local hk hx F.ns e k
theorem m_st {Q : Unit → Shared → Prop} {h : Heap} {gn : Array GenState} {dr : Drawn} {tk : Nat} {os : OsState} (F : Fr h₀ L h (over l m)) (N : News h₀ L h news) (hx : (envX cn cs L a ccd cl).kindOf x = some .local) (hk : cs.kind = .function) (p : PutL x v l l')
    (k : ∀ h', Fr h₀ L h' (over l' m) → News h₀ L h' news → Q () ⟨h', gn, dr, tk + 1, os⟩) : wpAny M A (storeName (envX cn cs L a ccd cl) x v) Q E ⟨h, gn, dr, tk, os⟩ :=
  storeX_L (s := ⟨h, gn, dr, tk, os⟩) F N (fun h' F' N' => k h' (by rw [← p.eq]; exact F') N') hk hx
end
section
variable {prog : Program} {w : World} {A : Around} {s : Shared} {K : Frag} {R : Result → Shared → Prop}
  {name qual : Str} {params : Arguments} {body : List Stmt} {scope : Scope} {dV kV doc pm cdv ct oc : Value} {an od : Option Addr} {osl : Array (Option Value)} {f : Addr} {args : Args} {binds rb : List (Str × Value)}
theorem enter_plain (mu : List (Addr × Obj)) (G : Gd K (hideAll s.heap (mu.map (·.1)))) (N : ∀ p ∈ mu, s.heap.get? p.1 = some p.2)
    (ho : K.lookup f = some ⟨oc, od, .func (fnOf name qual params body scope dV kV doc pm an cdv ct), osl⟩) (hcd : codeIn K cdv qual = true) (hroom : A.depth < recursionLimit)
    (hbind : BindsTo s (fnOf name qual params body scope dV kV doc pm an cdv ct) args binds) (hloc : ∀ y ∈ binds, scope.names.lookup y.1 = some .local) (hrb : binds.reverse = rb)
    (h : ∀ g L' h₁ p loose mean mg mb, Kp (mu.map (·.1)) s.heap g → Fr g L' h₁ (over rb fun _ => none) → News g L' h₁ mu → K.In g → Top p loose mean mg mb g → (∀ p ∈ mu, p.1 < L') → s.heap.objs.size ≤ L' →
      wpAny (model prog w) (A.deeper (envX qual scope L' f cdv [])) (execs body (envX qual scope L' f cdv []))
        (fun fl s' => R (.ok (.ret (match fl with | .ret v => v | _ => .none))) s') (fun _ _ => False) { s with heap := h₁, toks := s.toks + binds.length })
    (hcell : ∀ x ∈ scope.names, x.2 ≠ .cell) (hco : scope.isCoroutine = false) (hgen : scope.isGenerator = false) (hk : scope.kind = .function) :
    codeAny (model prog w) A (.call (.ref f) args) R s := by
  obtain ⟨X, p, loose, mean, mg, mb, T⟩ := G
  have un : ∀ b o, (hideAll s.heap (mu.map (·.1))).get? b = some o → s.heap.get? b = some o := fun b o e => of_hideAll _ e
  refine codeAny_call_def (fd := fnOf name qual params body scope dV kV doc pm an cdv ct) (body := body) (binds := binds) hroom (un _ _ (X _ _ ho)) rfl (T.nolimit.keeps un) ((codeRec_of X hcd).keeps un) rfl hbind hcell hloc (fun h₁ hns hk₁ => ?_) hco hgen hk
  refine wpAny_mono (h (hideAll s.heap (mu.map (·.1))) s.heap.objs.size h₁ p loose mean mg mb (fun b o n e => hideAll_get _ e n) ⟨by rw [← hrb, ← lookup_over]; exact hns, fun b o e => hk₁ b o (un b o e), Nat.le_of_eq (hideAll_size _ _)⟩
    (fun p hp => ⟨hk₁ _ _ (N p hp), Nat.ne_of_lt (Heap.lt_size (N p hp)), hideAll_none _ (List.mem_map_of_mem hp)⟩) X T (fun p hp => Heap.lt_size (N p hp)) (Nat.le_refl _)) (fun _ _ y => y) fun _ _ y => y.elim
end
theorem after {b : Heap} {s : Shared} {L : Addr} {m : Str → Option Value} {news : List (Addr × Obj)} {h' : Heap} {wr : List Addr} (news' : List (Addr × Obj)) (F : Fr b L s.heap m) (N : News b L s.heap news) (k : Kp wr s.heap h') (hw : ∀ a ∈ wr, ∃ o, (a, o) ∈ news)
    (hn : ∀ p ∈ news', (p ∈ news ∧ p.1 ∉ wr) ∨ (h'.get? p.1 = some p.2 ∧ ((∃ o, (p.1, o) ∈ news) ∨ s.heap.get? p.1 = none))) : Fr b L h' m ∧ News b L h' news' := by
  obtain ⟨⟨oL, es, ep, hL, r⟩, ke, ab⟩ := F
  have nL : L ∉ wr := fun q => by obtain ⟨o, hm⟩ := hw L q; exact (N _ hm).2.1 rfl
  refine ⟨⟨⟨oL, es, ep, k _ _ nL hL, r⟩, fun c o e => k _ _ (fun q => ?_) (ke c o e), ab⟩, fun p hp => ?_⟩
  · obtain ⟨o', hm⟩ := hw c q
    have := (N _ hm).2.2
    rw [this] at e; cases e
  · rcases hn p hp with ⟨h1, h2⟩ | ⟨h1, ⟨o, h2⟩ | h2⟩
    · exact ⟨k _ _ h2 (N p h1).1, (N p h1).2⟩
    · exact ⟨h1, (N _ h2).2⟩
    · refine ⟨h1, (fun e => by rw [e, hL] at h2; cases h2), ?_⟩
      cases q : b.get? p.1 with
      | none => rfl
      | some o => rw [ke _ _ q] at h2; cases h2

noncomputable def InAll (l : List (Addr × Obj)) : List (Addr × Obj) → Prop
  | [] => True
  | p :: r => p ∈ l ∧ InAll l r
theorem InAll.mem {l : List (Addr × Obj)} : ∀ {l' : List (Addr × Obj)}, InAll l l' → ∀ p, p ∈ l' → p ∈ l
  | [], _, _, hm => nomatch hm
  | q :: r, h, p, hm => by
    rcases List.mem_cons.mp hm with e | hm
    · rw [e]; exact h.1
    · exact InAll.mem h.2 p hm
theorem inAll_of {l : List (Addr × Obj)} : ∀ {l' : List (Addr × Obj)}, (∀ p ∈ l', p ∈ l) → InAll l l'
  | [], _ => trivial
  | p :: r, h => ⟨h p (.head _), inAll_of fun q hq => h q (.tail _ hq)⟩
theorem InAll.self {l : List (Addr × Obj)} : InAll l l := inAll_of fun _ h => h
theorem InAll.skip {p : Addr × Obj} {l l' : List (Addr × Obj)} (h : InAll l l') : InAll (p :: l) l' := inAll_of fun q hq => .tail _ (h.mem q hq)
theorem InAll.keep {p : Addr × Obj} {l l' : List (Addr × Obj)} (h : InAll l l') : InAll (p :: l) (p :: l') := ⟨.head _, h.skip⟩
theorem AllAt.skip {p : Str × Value} {r : List (Str × Value)} {m : Str → Option Value} : ∀ {l' : List (Str × Value)} (ks : List Str) (hk : l'.map (·.1) = ks) (hd : (ks.all fun k => k != p.1) = true), AllAt (over r m) l' → AllAt (over (p :: r) m) l'
  | [], _, _, _, _ => trivial
  | q :: l', ks, hk, hd, h => by
    subst hk
    rw [List.map_cons, List.all_cons, Bool.and_eq_true, bne_iff_ne] at hd
    exact ⟨over_there hd.1 h.1, AllAt.skip _ rfl hd.2 h.2⟩
theorem AllAt.keep {x : Str} {v : Value} {r l' : List (Str × Value)} {m : Str → Option Value} (ks : List Str) (hk : l'.map (·.1) = ks) (hd : (ks.all fun k => k != x) = true) (h : AllAt (over r m) l') : AllAt (over ((x, v) :: r) m) ((x, v) :: l') :=
  ⟨over_here, AllAt.skip (p := (x, v)) ks hk hd h⟩
noncomputable def At (g : Heap) (L : Addr) (l : List (Str × Value)) (news : List (Addr × Obj)) (s s' : Shared) : Prop :=
  ∃ h tk m, s' = { s with heap := h, toks := tk } ∧ Fr g L h (over l m) ∧ News g L h news
theorem At.intro {g h : Heap} {L : Addr} {m : Str → Option Value} {l : List (Str × Value)} {news news₀ : List (Addr × Obj)} {s : Shared} {tk : Nat} (F : Fr g L h m) (N : News g L h news₀) (hm : AllAt m l) (hn : InAll news₀ news) :
    At g L l news s { s with heap := h, toks := tk } := ⟨h, tk, m, rfl, by rw [over_self hm]; exact F, fun p hp => N p (hn.mem p hp)⟩
noncomputable abbrev noE : Value → Shared → Prop := fun _ _ => False
theorem wpAny_noE {α : Type} {M : Model} {A : Around} {t : Sem α} {Q : α → Shared → Prop} {E : Value → Shared → Prop} {s : Shared} (h : wpAny M A t Q noE s) : wpAny M A t Q E s := wpAny_mono h (fun _ _ x => x) fun _ _ x => x.elim
/-- a block came to its end, and Mid holds -/
noncomputable def Next (Mid : Shared → Prop) (fl : Flow) (s' : Shared) : Prop := fl = .next ∧ Mid s'
theorem cut {M : Model} {A : Around} {st : Stmt} {rest : List Stmt} {env : Env} {Q : Flow → Shared → Prop} {E : Value → Shared → Prop} {s : Shared} (Mid : Shared → Prop)
    (h1 : wpAny M A (exec st env) (Next Mid) E s) (h2 : ∀ s', Mid s' → wpAny M A (execs rest env) Q E s') : wpAny M A (execs (st :: rest) env) Q E s :=
  wpAny_execs_cons (wpAny_mono h1 (fun fl s' h => by obtain ⟨rfl, h⟩ := h; exact h2 s' h) fun _ _ x => x)
theorem execs_app {M : Model} {Γ : Ctx} {env : Env} {E : Value → Pos → Shared → Prop} {rest : List Stmt} {Q : Flow → Pos → Shared → Prop} : ∀ (pre : List Stmt) (p : Pos) (s : Shared),
    Sem.wp M Γ (execs pre env) (fun fl p' s' => match fl with | .next => Sem.wp M Γ (execs rest env) Q E p' s' | fl => Q fl p' s') E p s → Sem.wp M Γ (execs (pre ++ rest) env) Q E p s
  | [], p, s, h => by rw [execs_nil, Sem.wp_pure'] at h; exact h
  | st :: pre, p, s, h => by
    rw [List.cons_append, execs_cons, Sem.wp_bind']
    rw [execs_cons, Sem.wp_bind'] at h
    refine Sem.wp_mono M Γ _ (fun f p' s' h3 => ?_) (fun _ _ _ h' => h') _ _ h
    cases f with
    | next => exact execs_app pre p' s' h3
    | ret v => exact h3
    | brk => exact h3
    | cont => exact h3
theorem cutN {M : Model} {A : Around} {body : List Stmt} {env : Env} {Q : Flow → Shared → Prop} {E : Value → Shared → Prop} {s : Shared} (n : Nat) (Mid : Shared → Prop)
    (h1 : wpAny M A (execs (body.take n) env) (Next Mid) E s) (h2 : ∀ s', Mid s' → wpAny M A (execs (body.drop n) env) Q E s') : wpAny M A (execs body env) Q E s := by
  rw [← List.take_append_drop n body]
  refine fun Γ p hΓ => execs_app _ p s (Sem.wp_mono M Γ _ (fun fl p' s' h => ?_) (fun _ _ _ x => x) _ _ (h1 Γ p hΓ))
  obtain ⟨rfl, h⟩ := h
  exact h2 s' h Γ p' hΓ
/-- what is left behind a statement -/
noncomputable def Cont (M : Model) (A : Around) (rest : List Stmt) (env : Env) (Q : Flow → Shared → Prop) (E : Value → Shared → Prop) (fl : Flow) (s' : Shared) : Prop :=
  match fl with
  | .next => wpAny M A (execs rest env) Q E s'
  | f => Q f s'
section
variable {M : Model} {A : Around} {rest : List Stmt} {env : Env} {Q : Flow → Shared → Prop} {E : Value → Shared → Prop} {s : Shared} {st : Stmt}
theorem execs_C (h : wpAny M A (exec st env) (Cont M A rest env Q E) E s) : wpAny M A (execs (st :: rest) env) Q E s := wpAny_execs_cons h
theorem cont_next (h : wpAny M A (execs rest env) Q E s) : Cont M A rest env Q E .next s := h
theorem cont_ret {v : Value} (h : Q (.ret v) s) : Cont M A rest env Q E (.ret v) s := h
theorem cont_brk (h : Q .brk s) : Cont M A rest env Q E .brk s := h
theorem cont_cont (h : Q .cont s) : Cont M A rest env Q E .cont s := h
end
/-- the walk rests here -/
noncomputable def Stop (p : Prop) : Prop := p
theorem stop_at {p : Prop} (h : Stop p) : p := h

end partBase2
section partHd1
open PySem PySem.W PyProof.Rows
/-- the i-th statement of the program's text -/
noncomputable def cellAt (i : Nat) : Stmt := match PySem.Challenge.pw_pg0230_01.main.body[i]? with
  | some s => s
  | none => .Pass ⟨0, 0, 0, 0⟩
/-- the j-th statement of the i-th, a class -/
noncomputable def memAt (i j : Nat) : Stmt := match cellAt i with
  | .ClassDef (body := b) .. => match b[j]? with
    | some s => s
    | none => .Pass ⟨0, 0, 0, 0⟩
  | s => s
/-- a function's object -/
noncomputable def fo (st : Stmt) (q : Str) (mod : Value) (code : Nat) : Obj := match st with
  | .FunctionDef (name := n) (args := ps) (body := b) (scope := sc) .. => { cls := .type "function", data := .func { name := n, qualname := q, params := ps, body := .stmts b, scope := sc, globals := 3, closure := [], defaults := .none, kwdefaults := .none, pyModule := mod, code := .ref code } }
  | _ => { cls := .none, data := .fields #[] }
noncomputable def K0 : PySem.Params → PySem.W.Frag := fun P =>
  (nat_lit 2, { cls := Value.none, data := Data.dict #[] }) ::
  (nat_lit 3, { cls := Value.type "dict", data := Data.dict #[{ hash := PyData.keyHash P (Str.ofString "__name__"), key := Value.str (Str.ofString "__name__") 165, val := Value.str (Str.ofString "law_pg0230_01") 396 }, { hash := PyData.keyHash P (Str.ofString "__doc__"), key := Value.str (Str.ofString "__doc__") 166, val := Value.none }, { hash := PyData.keyHash P (Str.ofString "__package__"), key := Value.str (Str.ofString "__package__") 167, val := Value.none }, { hash := PyData.keyHash P (Str.ofString "__loader__"), key := Value.str (Str.ofString "__loader__") 168, val := Value.builtin "__main__.__loader__#opaque" }, { hash := PyData.keyHash P (Str.ofString "__spec__"), key := Value.str (Str.ofString "__spec__") 169, val := Value.none }, { hash := PyData.keyHash P (Str.ofString "__annotations__"), key := Value.str (Str.ofString "__annotations__") 170, val := Value.ref 6 }, { hash := PyData.keyHash P (Str.ofString "__builtins__"), key := Value.str (Str.ofString "__builtins__") 171, val := Value.ref 4 }, { hash := PyData.keyHash P (Str.ofString "__file__"), key := Value.str (Str.ofString "__file__") 173, val := Value.str (Str.ofString "/claim/cut.py") 172 }, { hash := PyData.keyHash P (Str.ofString "__cached__"), key := Value.str (Str.ofString "__cached__") 174, val := Value.none }, { hash := PyData.keyHash P (Str.ofString "_wall"), key := Value.str (Str.ofString "_wall") 193, val := Value.ref 21 }, { hash := PyData.keyHash P (Str.ofString "Whitespace"), key := Value.str (Str.ofString "Whitespace") 301, val := Value.ref 83 }, { hash := PyData.keyHash P (Str.ofString "rgb_to_hsv"), key := Value.str (Str.ofString "rgb_to_hsv") 321, val := Value.ref 94 }, { hash := PyData.keyHash P (Str.ofString "hsv_to_rgb"), key := Value.str (Str.ofString "hsv_to_rgb") 335, val := Value.ref 101 }, { hash := PyData.keyHash P (Str.ofString "_netrclex"), key := Value.str (Str.ofString "_netrclex") 395, val := Value.ref 139 }, { hash := PyData.keyHash P (Str.ofString "_law_file"), key := Value.str (Str.ofString "_law_file") 407, val := Value.ref 150 }, { hash := PyData.keyHash P (Str.ofString "_law_kind"), key := Value.str (Str.ofString "_law_kind") 414, val := Value.ref 157 }, { hash := PyData.keyHash P (Str.ofString "_law_channels"), key := Value.str (Str.ofString "_law_channels") 427, val := Value.ref 164 }, { hash := PyData.keyHash P (Str.ofString "_law_point"), key := Value.str (Str.ofString "_law_point") 436, val := Value.ref 171 }, { hash := PyData.keyHash P (Str.ofString "_law_columns"), key := Value.str (Str.ofString "_law_columns") 447, val := Value.ref 178 }, { hash := PyData.keyHash P (Str.ofString "_law_written"), key := Value.str (Str.ofString "_law_written") 453, val := Value.ref 183 }, { hash := PyData.keyHash P (Str.ofString "law"), key := Value.str (Str.ofString "law") 459, val := Value.ref 188 }] 21 }) ::
  (nat_lit 15, { cls := Value.type "tuple", data := Data.seq #[] }) ::
  (nat_lit 17, { cls := Value.type "tuple", data := Data.seq #[Value.str (Str.ofString "k") 190] }) ::
  (nat_lit 18, { cls := Value.type "tuple", data := Data.seq #[] }) ::
  (nat_lit 20, { cls := Value.type "code", data := Data.fields #[Value.str (Str.ofString "_wall") 187, Value.str (Str.ofString "_wall") 188, Value.str (Str.ofString "/claim/cut.py") 189, Value.int 1 0, Value.int 1 0, Value.int 0 0, Value.int 0 0, Value.int 3 0, Value.ref 15, Value.bool Bool.true, Value.int 181 0, Value.ref 16, Value.none, Value.ref 17, Value.ref 18, Value.ref 19, Value.int 191 0, Value.int 1 0, Value.str (Str.ofString "/claim/cut.py") 192] }) ::
  (nat_lit 21, fo (cellAt 0) (Str.ofString "_wall") (Value.str (Str.ofString "__main__") 164) 20) ::
  (nat_lit 32, { cls := Value.type "tuple", data := Data.seq #[] }) ::
  (nat_lit 34, { cls := Value.type "tuple", data := Data.seq #[Value.str (Str.ofString "self") 216, Value.str (Str.ofString "ws") 217, Value.str (Str.ofString "S") 218, Value.str (Str.ofString "T") 219, Value.str (Str.ofString "count") 220, Value.str (Str.ofString "b") 221, Value.str (Str.ofString "n") 222, Value.str (Str.ofString "nt") 223, Value.str (Str.ofString "ch") 224] }) ::
  (nat_lit 35, { cls := Value.type "tuple", data := Data.seq #[] }) ::
  (nat_lit 37, { cls := Value.type "code", data := Data.fields #[Value.str (Str.ofString "__init__") 213, Value.str (Str.ofString "Whitespace.__init__") 214, Value.str (Str.ofString "/claim/cut.py") 215, Value.int 8 0, Value.int 2 0, Value.int 0 0, Value.int 0 0, Value.int 3 0, Value.ref 32, Value.bool Bool.true, Value.int 181 0, Value.ref 33, Value.none, Value.ref 34, Value.ref 35, Value.ref 36, Value.int 225 0, Value.int 8 0, Value.str (Str.ofString "/claim/cut.py") 226] }) ::
  (nat_lit 38, fo (memAt 2 1) (Str.ofString "Whitespace.__init__") (Value.str (Str.ofString "cpy313.tabnanny") 194) 37) ::
  (nat_lit 39, { cls := Value.type "tuple", data := Data.seq #[] }) ::
  (nat_lit 41, { cls := Value.type "tuple", data := Data.seq #[Value.str (Str.ofString "self") 231, Value.str (Str.ofString "count") 232, Value.str (Str.ofString "trailing") 233] }) ::
  (nat_lit 42, { cls := Value.type "tuple", data := Data.seq #[] }) ::
  (nat_lit 44, { cls := Value.type "code", data := Data.fields #[Value.str (Str.ofString "longest_run_of_spaces") 228, Value.str (Str.ofString "Whitespace.longest_run_of_spaces") 229, Value.str (Str.ofString "/claim/cut.py") 230, Value.int 31 0, Value.int 1 0, Value.int 0 0, Value.int 0 0, Value.int 3 0, Value.ref 39, Value.bool Bool.true, Value.int 181 0, Value.ref 40, Value.none, Value.ref 41, Value.ref 42, Value.ref 43, Value.int 234 0, Value.int 31 0, Value.str (Str.ofString "/claim/cut.py") 235] }) ::
  (nat_lit 45, fo (memAt 2 2) (Str.ofString "Whitespace.longest_run_of_spaces") (Value.str (Str.ofString "cpy313.tabnanny") 194) 44) ::
  (nat_lit 46, { cls := Value.type "tuple", data := Data.seq #[] }) ::
  (nat_lit 48, { cls := Value.type "tuple", data := Data.seq #[Value.str (Str.ofString "self") 240, Value.str (Str.ofString "tabsize") 241, Value.str (Str.ofString "count") 242, Value.str (Str.ofString "trailing") 243, Value.str (Str.ofString "il") 244, Value.str (Str.ofString "i") 245] }) ::
  (nat_lit 49, { cls := Value.type "tuple", data := Data.seq #[] }) ::
  (nat_lit 51, { cls := Value.type "code", data := Data.fields #[Value.str (Str.ofString "indent_level") 237, Value.str (Str.ofString "Whitespace.indent_level") 238, Value.str (Str.ofString "/claim/cut.py") 239, Value.int 35 0, Value.int 2 0, Value.int 0 0, Value.int 0 0, Value.int 3 0, Value.ref 46, Value.bool Bool.true, Value.int 181 0, Value.ref 47, Value.none, Value.ref 48, Value.ref 49, Value.ref 50, Value.int 246 0, Value.int 35 0, Value.str (Str.ofString "/claim/cut.py") 247] }) ::
  (nat_lit 52, fo (memAt 2 3) (Str.ofString "Whitespace.indent_level") (Value.str (Str.ofString "cpy313.tabnanny") 194) 51) ::
  (nat_lit 53, { cls := Value.type "tuple", data := Data.seq #[] }) ::
  (nat_lit 55, { cls := Value.type "tuple", data := Data.seq #[Value.str (Str.ofString "self") 252, Value.str (Str.ofString "other") 253] }) ::
  (nat_lit 56, { cls := Value.type "tuple", data := Data.seq #[] }) ::
  (nat_lit 58, { cls := Value.type "code", data := Data.fields #[Value.str (Str.ofString "equal") 249, Value.str (Str.ofString "Whitespace.equal") 250, Value.str (Str.ofString "/claim/cut.py") 251, Value.int 42 0, Value.int 2 0, Value.int 0 0, Value.int 0 0, Value.int 3 0, Value.ref 53, Value.bool Bool.true, Value.int 181 0, Value.ref 54, Value.none, Value.ref 55, Value.ref 56, Value.ref 57, Value.int 254 0, Value.int 42 0, Value.str (Str.ofString "/claim/cut.py") 255] }) ::
  (nat_lit 59, fo (memAt 2 4) (Str.ofString "Whitespace.equal") (Value.str (Str.ofString "cpy313.tabnanny") 194) 58) ::
  (nat_lit 60, { cls := Value.type "tuple", data := Data.seq #[] }) ::
  (nat_lit 62, { cls := Value.type "tuple", data := Data.seq #[Value.str (Str.ofString "self") 260, Value.str (Str.ofString "other") 261, Value.str (Str.ofString "n") 262, Value.str (Str.ofString "a") 263, Value.str (Str.ofString "ts") 264] }) ::
  (nat_lit 63, { cls := Value.type "tuple", data := Data.seq #[] }) ::
  (nat_lit 65, { cls := Value.type "code", data := Data.fields #[Value.str (Str.ofString "not_equal_witness") 257, Value.str (Str.ofString "Whitespace.not_equal_witness") 258, Value.str (Str.ofString "/claim/cut.py") 259, Value.int 45 0, Value.int 2 0, Value.int 0 0, Value.int 0 0, Value.int 3 0, Value.ref 60, Value.bool Bool.true, Value.int 181 0, Value.ref 61, Value.none, Value.ref 62, Value.ref 63, Value.ref 64, Value.int 265 0, Value.int 45 0, Value.str (Str.ofString "/claim/cut.py") 266] }) ::
  (nat_lit 66, fo (memAt 2 5) (Str.ofString "Whitespace.not_equal_witness") (Value.str (Str.ofString "cpy313.tabnanny") 194) 65) ::
  (nat_lit 67, { cls := Value.type "tuple", data := Data.seq #[] }) ::
  (nat_lit 69, { cls := Value.type "tuple", data := Data.seq #[Value.str (Str.ofString "self") 271, Value.str (Str.ofString "other") 272, Value.str (Str.ofString "n") 273, Value.str (Str.ofString "ts") 274] }) ::
  (nat_lit 70, { cls := Value.type "tuple", data := Data.seq #[] }) ::
  (nat_lit 72, { cls := Value.type "code", data := Data.fields #[Value.str (Str.ofString "less") 268, Value.str (Str.ofString "Whitespace.less") 269, Value.str (Str.ofString "/claim/cut.py") 270, Value.int 53 0, Value.int 2 0, Value.int 0 0, Value.int 0 0, Value.int 3 0, Value.ref 67, Value.bool Bool.true, Value.int 181 0, Value.ref 68, Value.none, Value.ref 69, Value.ref 70, Value.ref 71, Value.int 275 0, Value.int 53 0, Value.str (Str.ofString "/claim/cut.py") 276] }) ::
  (nat_lit 73, fo (memAt 2 6) (Str.ofString "Whitespace.less") (Value.str (Str.ofString "cpy313.tabnanny") 194) 72) ::
  (nat_lit 74, { cls := Value.type "tuple", data := Data.seq #[] }) ::
  (nat_lit 76, { cls := Value.type "tuple", data := Data.seq #[Value.str (Str.ofString "self") 281, Value.str (Str.ofString "other") 282, Value.str (Str.ofString "n") 283, Value.str (Str.ofString "a") 284, Value.str (Str.ofString "ts") 285] }) ::
  (nat_lit 77, { cls := Value.type "tuple", data := Data.seq #[] }) ::
  (nat_lit 79, { cls := Value.type "code", data := Data.fields #[Value.str (Str.ofString "not_less_witness") 278, Value.str (Str.ofString "Whitespace.not_less_witness") 279, Value.str (Str.ofString "/claim/cut.py") 280, Value.int 64 0, Value.int 2 0, Value.int 0 0, Value.int 0 0, Value.int 3 0, Value.ref 74, Value.bool Bool.true, Value.int 181 0, Value.ref 75, Value.none, Value.ref 76, Value.ref 77, Value.ref 78, Value.int 286 0, Value.int 64 0, Value.str (Str.ofString "/claim/cut.py") 287] }) ::
  (nat_lit 80, fo (memAt 2 7) (Str.ofString "Whitespace.not_less_witness") (Value.str (Str.ofString "cpy313.tabnanny") 194) 79) ::
  (nat_lit 81, { cls := Value.type "tuple", data := Data.seq #[Value.str (Str.ofString "is_simple") 289, Value.str (Str.ofString "n") 290, Value.str (Str.ofString "norm") 291, Value.str (Str.ofString "nt") 292, Value.str (Str.ofString "raw") 293] }) ::
  (nat_lit 82, { cls := Value.type "dict", data := Data.dict #[{ hash := PyData.keyHash P (Str.ofString "__module__"), key := Value.str (Str.ofString "__module__") 203, val := Value.str (Str.ofString "cpy313.tabnanny") 194 }, { hash := PyData.keyHash P (Str.ofString "__firstlineno__"), key := Value.str (Str.ofString "__firstlineno__") 207, val := Value.int 5 206 }, { hash := PyData.keyHash P (Str.ofString "S"), key := Value.str (Str.ofString "S") 211, val := Value.str (Str.ofString " ") 209 }, { hash := PyData.keyHash P (Str.ofString "T"), key := Value.str (Str.ofString "T") 212, val := Value.str (Str.ofString "\t") 210 }, { hash := PyData.keyHash P (Str.ofString "__init__"), key := Value.str (Str.ofString "__init__") 227, val := Value.ref 38 }, { hash := PyData.keyHash P (Str.ofString "longest_run_of_spaces"), key := Value.str (Str.ofString "longest_run_of_spaces") 236, val := Value.ref 45 }, { hash := PyData.keyHash P (Str.ofString "indent_level"), key := Value.str (Str.ofString "indent_level") 248, val := Value.ref 52 }, { hash := PyData.keyHash P (Str.ofString "equal"), key := Value.str (Str.ofString "equal") 256, val := Value.ref 59 }, { hash := PyData.keyHash P (Str.ofString "not_equal_witness"), key := Value.str (Str.ofString "not_equal_witness") 267, val := Value.ref 66 }, { hash := PyData.keyHash P (Str.ofString "less"), key := Value.str (Str.ofString "less") 277, val := Value.ref 73 }, { hash := PyData.keyHash P (Str.ofString "not_less_witness"), key := Value.str (Str.ofString "not_less_witness") 288, val := Value.ref 80 }, { hash := PyData.keyHash P (Str.ofString "__static_attributes__"), key := Value.str (Str.ofString "__static_attributes__") 294, val := Value.ref 81 }, { hash := PyData.keyHash P (Str.ofString "__dict__"), key := Value.str (Str.ofString "__dict__") 296, val := Value.ref 84 }, { hash := PyData.keyHash P (Str.ofString "__weakref__"), key := Value.str (Str.ofString "__weakref__") 298, val := Value.ref 85 }, { hash := PyData.keyHash P (Str.ofString "__doc__"), key := Value.str (Str.ofString "__doc__") 299, val := Value.none }] 4 }) ::
  (nat_lit 83, { cls := Value.type "type", data := Data.cls { name := Str.ofString "Whitespace", bases := [Value.type "object"], mro := [Value.ref 83, Value.type "object"], ns := 82, qualname := Str.ofString "Whitespace" }, slots := #[none, none, Option.some (Value.str (Str.ofString "Whitespace") 196), Option.some (Value.str (Str.ofString "Whitespace") 204), Option.some (Value.builtin "object.__new__"), Option.some (Value.bool Bool.true)] }) ::
  (nat_lit 84, { cls := Value.type "getset_descriptor", data := Data.fields #[Value.str (Str.ofString "__dict__") 295, Value.ref 83, Value.builtin "function.__dict__", Value.builtin "function.__dict__#set"] }) ::
  (nat_lit 85, { cls := Value.type "getset_descriptor", data := Data.fields #[Value.str (Str.ofString "__weakref__") 297, Value.ref 83, Value.builtin "ExceptionGroup.__weakref__", Value.none] }) ::
  (nat_lit 88, { cls := Value.type "tuple", data := Data.seq #[] }) ::
  (nat_lit 90, { cls := Value.type "tuple", data := Data.seq #[Value.str (Str.ofString "r") 307, Value.str (Str.ofString "g") 308, Value.str (Str.ofString "b") 309, Value.str (Str.ofString "maxc") 310, Value.str (Str.ofString "minc") 311, Value.str (Str.ofString "rangec") 312, Value.str (Str.ofString "v") 313, Value.str (Str.ofString "s") 314, Value.str (Str.ofString "rc") 315, Value.str (Str.ofString "gc") 316, Value.str (Str.ofString "bc") 317, Value.str (Str.ofString "h") 318] }) ::
  (nat_lit 91, { cls := Value.type "tuple", data := Data.seq #[] }) ::
  (nat_lit 93, { cls := Value.type "code", data := Data.fields #[Value.str (Str.ofString "rgb_to_hsv") 304, Value.str (Str.ofString "rgb_to_hsv") 305, Value.str (Str.ofString "/claim/cut.py") 306, Value.int 72 0, Value.int 3 0, Value.int 0 0, Value.int 0 0, Value.int 3 0, Value.ref 88, Value.bool Bool.true, Value.int 181 0, Value.ref 89, Value.none, Value.ref 90, Value.ref 91, Value.ref 92, Value.int 319 0, Value.int 72 0, Value.str (Str.ofString "/claim/cut.py") 320] }) ::
  (nat_lit 94, fo (cellAt 4) (Str.ofString "rgb_to_hsv") (Value.str (Str.ofString "cpy313.colorsys") 302) 93) ::
  (nat_lit 95, { cls := Value.type "tuple", data := Data.seq #[] }) ::
  (nat_lit 97, { cls := Value.type "tuple", data := Data.seq #[Value.str (Str.ofString "h") 325, Value.str (Str.ofString "s") 326, Value.str (Str.ofString "v") 327, Value.str (Str.ofString "i") 328, Value.str (Str.ofString "f") 329, Value.str (Str.ofString "p") 330, Value.str (Str.ofString "q") 331, Value.str (Str.ofString "t") 332] }) ::
  (nat_lit 98, { cls := Value.type "tuple", data := Data.seq #[] }) ::
  (nat_lit 100, { cls := Value.type "code", data := Data.fields #[Value.str (Str.ofString "hsv_to_rgb") 322, Value.str (Str.ofString "hsv_to_rgb") 323, Value.str (Str.ofString "/claim/cut.py") 324, Value.int 91 0, Value.int 3 0, Value.int 0 0, Value.int 0 0, Value.int 3 0, Value.ref 95, Value.bool Bool.true, Value.int 181 0, Value.ref 96, Value.none, Value.ref 97, Value.ref 98, Value.ref 99, Value.int 333 0, Value.int 91 0, Value.str (Str.ofString "/claim/cut.py") 334] }) ::
  (nat_lit 101, fo (cellAt 5) (Str.ofString "hsv_to_rgb") (Value.str (Str.ofString "cpy313.colorsys") 302) 100) ::
  (nat_lit 109, { cls := Value.type "tuple", data := Data.seq #[] }) ::
  (nat_lit 111, { cls := Value.type "tuple", data := Data.seq #[Value.str (Str.ofString "self") 353, Value.str (Str.ofString "fp") 354] }) ::
  (nat_lit 112, { cls := Value.type "tuple", data := Data.seq #[] }) ::
  (nat_lit 114, { cls := Value.type "code", data := Data.fields #[Value.str (Str.ofString "__init__") 350, Value.str (Str.ofString "_netrclex.__init__") 351, Value.str (Str.ofString "/claim/cut.py") 352, Value.int 115 0, Value.int 2 0, Value.int 0 0, Value.int 0 0, Value.int 3 0, Value.ref 109, Value.bool Bool.true, Value.int 181 0, Value.ref 110, Value.none, Value.ref 111, Value.ref 112, Value.ref 113, Value.int 355 0, Value.int 115 0, Value.str (Str.ofString "/claim/cut.py") 356] }) ::
  (nat_lit 115, fo (memAt 7 0) (Str.ofString "_netrclex.__init__") (Value.str (Str.ofString "cpy313.netrc") 336) 114) ::
  (nat_lit 116, { cls := Value.type "tuple", data := Data.seq #[] }) ::
  (nat_lit 118, { cls := Value.type "tuple", data := Data.seq #[Value.str (Str.ofString "self") 361, Value.str (Str.ofString "ch") 362] }) ::
  (nat_lit 119, { cls := Value.type "tuple", data := Data.seq #[] }) ::
  (nat_lit 121, { cls := Value.type "code", data := Data.fields #[Value.str (Str.ofString "_read_char") 358, Value.str (Str.ofString "_netrclex._read_char") 359, Value.str (Str.ofString "/claim/cut.py") 360, Value.int 121 0, Value.int 1 0, Value.int 0 0, Value.int 0 0, Value.int 3 0, Value.ref 116, Value.bool Bool.true, Value.int 181 0, Value.ref 117, Value.none, Value.ref 118, Value.ref 119, Value.ref 120, Value.int 363 0, Value.int 121 0, Value.str (Str.ofString "/claim/cut.py") 364] }) ::
  (nat_lit 122, fo (memAt 7 1) (Str.ofString "_netrclex._read_char") (Value.str (Str.ofString "cpy313.netrc") 336) 121) ::
  (nat_lit 123, { cls := Value.type "tuple", data := Data.seq #[] }) ::
  (nat_lit 125, { cls := Value.type "tuple", data := Data.seq #[Value.str (Str.ofString "self") 369, Value.str (Str.ofString "token") 370, Value.str (Str.ofString "fiter") 371, Value.str (Str.ofString "ch") 372] }) ::
  (nat_lit 126, { cls := Value.type "tuple", data := Data.seq #[] }) ::
  (nat_lit 128, { cls := Value.type "code", data := Data.fields #[Value.str (Str.ofString "get_token") 366, Value.str (Str.ofString "_netrclex.get_token") 367, Value.str (Str.ofString "/claim/cut.py") 368, Value.int 127 0, Value.int 1 0, Value.int 0 0, Value.int 0 0, Value.int 3 0, Value.ref 123, Value.bool Bool.true, Value.int 181 0, Value.ref 124, Value.none, Value.ref 125, Value.ref 126, Value.ref 127, Value.int 373 0, Value.int 127 0, Value.str (Str.ofString "/claim/cut.py") 374] }) ::
  (nat_lit 129, fo (memAt 7 2) (Str.ofString "_netrclex.get_token") (Value.str (Str.ofString "cpy313.netrc") 336) 128) ::
  (nat_lit 130, { cls := Value.type "tuple", data := Data.seq #[] }) ::
  (nat_lit 132, { cls := Value.type "tuple", data := Data.seq #[Value.str (Str.ofString "self") 379, Value.str (Str.ofString "token") 380] }) ::
  (nat_lit 133, { cls := Value.type "tuple", data := Data.seq #[] }) ::
  (nat_lit 135, { cls := Value.type "code", data := Data.fields #[Value.str (Str.ofString "push_token") 376, Value.str (Str.ofString "_netrclex.push_token") 377, Value.str (Str.ofString "/claim/cut.py") 378, Value.int 154 0, Value.int 2 0, Value.int 0 0, Value.int 0 0, Value.int 3 0, Value.ref 130, Value.bool Bool.true, Value.int 181 0, Value.ref 131, Value.none, Value.ref 132, Value.ref 133, Value.ref 134, Value.int 381 0, Value.int 154 0, Value.str (Str.ofString "/claim/cut.py") 382] }) ::
  (nat_lit 136, fo (memAt 7 3) (Str.ofString "_netrclex.push_token") (Value.str (Str.ofString "cpy313.netrc") 336) 135) ::
  (nat_lit 137, { cls := Value.type "tuple", data := Data.seq #[Value.str (Str.ofString "instream") 384, Value.str (Str.ofString "lineno") 385, Value.str (Str.ofString "pushback") 386, Value.str (Str.ofString "whitespace") 387] }) ::
  (nat_lit 138, { cls := Value.type "dict", data := Data.dict #[{ hash := PyData.keyHash P (Str.ofString "__module__"), key := Value.str (Str.ofString "__module__") 345, val := Value.str (Str.ofString "cpy313.netrc") 336 }, { hash := PyData.keyHash P (Str.ofString "__firstlineno__"), key := Value.str (Str.ofString "__firstlineno__") 349, val := Value.int 113 348 }, { hash := PyData.keyHash P (Str.ofString "__init__"), key := Value.str (Str.ofString "__init__") 357, val := Value.ref 115 }, { hash := PyData.keyHash P (Str.ofString "_read_char"), key := Value.str (Str.ofString "_read_char") 365, val := Value.ref 122 }, { hash := PyData.keyHash P (Str.ofString "get_token"), key := Value.str (Str.ofString "get_token") 375, val := Value.ref 129 }, { hash := PyData.keyHash P (Str.ofString "push_token"), key := Value.str (Str.ofString "push_token") 383, val := Value.ref 136 }, { hash := PyData.keyHash P (Str.ofString "__static_attributes__"), key := Value.str (Str.ofString "__static_attributes__") 388, val := Value.ref 137 }, { hash := PyData.keyHash P (Str.ofString "__dict__"), key := Value.str (Str.ofString "__dict__") 390, val := Value.ref 140 }, { hash := PyData.keyHash P (Str.ofString "__weakref__"), key := Value.str (Str.ofString "__weakref__") 392, val := Value.ref 141 }, { hash := PyData.keyHash P (Str.ofString "__doc__"), key := Value.str (Str.ofString "__doc__") 393, val := Value.none }] 4 }) ::
  (nat_lit 139, { cls := Value.type "type", data := Data.cls { name := Str.ofString "_netrclex", bases := [Value.type "object"], mro := [Value.ref 139, Value.type "object"], ns := 138, qualname := Str.ofString "_netrclex" }, slots := #[none, none, Option.some (Value.str (Str.ofString "_netrclex") 338), Option.some (Value.str (Str.ofString "_netrclex") 346), Option.some (Value.builtin "object.__new__"), Option.some (Value.bool Bool.true)] }) ::
  (nat_lit 140, { cls := Value.type "getset_descriptor", data := Data.fields #[Value.str (Str.ofString "__dict__") 389, Value.ref 139, Value.builtin "function.__dict__", Value.builtin "function.__dict__#set"] }) ::
  (nat_lit 141, { cls := Value.type "getset_descriptor", data := Data.fields #[Value.str (Str.ofString "__weakref__") 391, Value.ref 139, Value.builtin "ExceptionGroup.__weakref__", Value.none] }) ::
  (nat_lit 144, { cls := Value.type "tuple", data := Data.seq #[] }) ::
  (nat_lit 146, { cls := Value.type "tuple", data := Data.seq #[Value.str (Str.ofString "text") 401, Value.str (Str.ofString "_law_take") 402, Value.str (Str.ofString "held") 403] }) ::
  (nat_lit 147, { cls := Value.type "tuple", data := Data.seq #[Value.str (Str.ofString "left") 404] }) ::
  (nat_lit 149, { cls := Value.type "code", data := Data.fields #[Value.str (Str.ofString "_law_file") 398, Value.str (Str.ofString "_law_file") 399, Value.str (Str.ofString "/claim/cut.py") 400, Value.int 157 0, Value.int 1 0, Value.int 0 0, Value.int 0 0, Value.int 3 0, Value.ref 144, Value.bool Bool.true, Value.int 181 0, Value.ref 145, Value.none, Value.ref 146, Value.ref 147, Value.ref 148, Value.int 405 0, Value.int 157 0, Value.str (Str.ofString "/claim/cut.py") 406] }) ::
  (nat_lit 150, fo (cellAt 9) (Str.ofString "_law_file") (Value.str (Str.ofString "law_pg0230_01") 396) 149) ::
  (nat_lit 151, { cls := Value.type "tuple", data := Data.seq #[] }) ::
  (nat_lit 153, { cls := Value.type "tuple", data := Data.seq #[Value.str (Str.ofString "x") 411] }) ::
  (nat_lit 154, { cls := Value.type "tuple", data := Data.seq #[] }) ::
  (nat_lit 156, { cls := Value.type "code", data := Data.fields #[Value.str (Str.ofString "_law_kind") 408, Value.str (Str.ofString "_law_kind") 409, Value.str (Str.ofString "/claim/cut.py") 410, Value.int 169 0, Value.int 1 0, Value.int 0 0, Value.int 0 0, Value.int 3 0, Value.ref 151, Value.bool Bool.true, Value.int 181 0, Value.ref 152, Value.none, Value.ref 153, Value.ref 154, Value.ref 155, Value.int 412 0, Value.int 169 0, Value.str (Str.ofString "/claim/cut.py") 413] }) ::
  (nat_lit 157, fo (cellAt 10) (Str.ofString "_law_kind") (Value.str (Str.ofString "law_pg0230_01") 396) 156) ::
  (nat_lit 158, { cls := Value.type "tuple", data := Data.seq #[] }) ::
  (nat_lit 160, { cls := Value.type "tuple", data := Data.seq #[Value.str (Str.ofString "x") 418, Value.str (Str.ofString "halves") 419, Value.str (Str.ofString "value") 420, Value.str (Str.ofString "due") 421, Value.str (Str.ofString "k") 422, Value.str (Str.ofString "ahead") 423, Value.str (Str.ofString "near") 424] }) ::
  (nat_lit 161, { cls := Value.type "tuple", data := Data.seq #[] }) ::
  (nat_lit 163, { cls := Value.type "code", data := Data.fields #[Value.str (Str.ofString "_law_channels") 415, Value.str (Str.ofString "_law_channels") 416, Value.str (Str.ofString "/claim/cut.py") 417, Value.int 171 0, Value.int 1 0, Value.int 0 0, Value.int 0 0, Value.int 3 0, Value.ref 158, Value.bool Bool.true, Value.int 181 0, Value.ref 159, Value.none, Value.ref 160, Value.ref 161, Value.ref 162, Value.int 425 0, Value.int 171 0, Value.str (Str.ofString "/claim/cut.py") 426] }) ::
  (nat_lit 164, fo (cellAt 11) (Str.ofString "_law_channels") (Value.str (Str.ofString "law_pg0230_01") 396) 163) ::
  (nat_lit 165, { cls := Value.type "tuple", data := Data.seq #[] }) ::
  (nat_lit 167, { cls := Value.type "tuple", data := Data.seq #[Value.str (Str.ofString "x") 431, Value.str (Str.ofString "halves") 432, Value.str (Str.ofString "value") 433] }) ::
  (nat_lit 168, { cls := Value.type "tuple", data := Data.seq #[] }) ::
  (nat_lit 170, { cls := Value.type "code", data := Data.fields #[Value.str (Str.ofString "_law_point") 428, Value.str (Str.ofString "_law_point") 429, Value.str (Str.ofString "/claim/cut.py") 430, Value.int 179 0, Value.int 1 0, Value.int 0 0, Value.int 0 0, Value.int 3 0, Value.ref 165, Value.bool Bool.true, Value.int 181 0, Value.ref 166, Value.none, Value.ref 167, Value.ref 168, Value.ref 169, Value.int 434 0, Value.int 179 0, Value.str (Str.ofString "/claim/cut.py") 435] }) ::
  (nat_lit 171, fo (cellAt 12) (Str.ofString "_law_point") (Value.str (Str.ofString "law_pg0230_01") 396) 170) ::
  (nat_lit 172, { cls := Value.type "tuple", data := Data.seq #[] }) ::
  (nat_lit 174, { cls := Value.type "tuple", data := Data.seq #[Value.str (Str.ofString "runs") 440, Value.str (Str.ofString "ends") 441, Value.str (Str.ofString "size") 442, Value.str (Str.ofString "column") 443, Value.str (Str.ofString "run") 444] }) ::
  (nat_lit 175, { cls := Value.type "tuple", data := Data.seq #[] }) ::
  (nat_lit 177, { cls := Value.type "code", data := Data.fields #[Value.str (Str.ofString "_law_columns") 437, Value.str (Str.ofString "_law_columns") 438, Value.str (Str.ofString "/claim/cut.py") 439, Value.int 186 0, Value.int 1 0, Value.int 0 0, Value.int 0 0, Value.int 3 0, Value.ref 172, Value.bool Bool.true, Value.int 181 0, Value.ref 173, Value.none, Value.ref 174, Value.ref 175, Value.ref 176, Value.int 445 0, Value.int 186 0, Value.str (Str.ofString "/claim/cut.py") 446] }) ::
  (nat_lit 178, fo (cellAt 13) (Str.ofString "_law_columns") (Value.str (Str.ofString "law_pg0230_01") 396) 177) ::
  (nat_lit 179, { cls := Value.type "tuple", data := Data.seq #[] }) ::
  (nat_lit 182, { cls := Value.type "code", data := Data.fields #[Value.str (Str.ofString "_law_written") 448, Value.str (Str.ofString "_law_written") 449, Value.str (Str.ofString "/claim/cut.py") 450, Value.int 195 0, Value.int 2 0, Value.int 0 0, Value.int 0 0, Value.int 3 0, Value.ref 179, Value.bool Bool.true, Value.int 181 0, Value.ref 180, Value.none, Value.none, Value.none, Value.ref 181, Value.int 451 0, Value.int 195 0, Value.str (Str.ofString "/claim/cut.py") 452] }) ::
  (nat_lit 183, fo (cellAt 14) (Str.ofString "_law_written") (Value.str (Str.ofString "law_pg0230_01") 396) 182) ::
  (nat_lit 184, { cls := Value.type "tuple", data := Data.seq #[] }) ::
  (nat_lit 187, { cls := Value.type "code", data := Data.fields #[Value.str (Str.ofString "law") 454, Value.str (Str.ofString "law") 455, Value.str (Str.ofString "/claim/cut.py") 456, Value.int 201 0, Value.int 1 0, Value.int 0 0, Value.int 0 0, Value.int 3 0, Value.ref 184, Value.bool Bool.true, Value.int 181 0, Value.ref 185, Value.none, Value.none, Value.none, Value.ref 186, Value.int 457 0, Value.int 201 0, Value.str (Str.ofString "/claim/cut.py") 458] }) ::
  (nat_lit 188, fo (cellAt 15) (Str.ofString "law") (Value.str (Str.ofString "law_pg0230_01") 396) 187) :: []
/-- the program without its names of files -/
noncomputable def view0 : Program := { PySem.Challenge.pw_pg0230_01 with main := { PySem.Challenge.pw_pg0230_01.main with body := [cellAt 0, cellAt 2, cellAt 4, cellAt 5, cellAt 7, cellAt 9, cellAt 10, cellAt 11, cellAt 12, cellAt 13, cellAt 14, cellAt 15] } }
noncomputable abbrev as0 : List Nat := [2, 3, 15, 17, 18, 20, 21, 32, 34, 35, 37, 38, 39, 41, 42, 44, 45, 46, 48, 49, 51, 52, 53, 55, 56, 58, 59, 60, 62, 63, 65, 66, 67, 69, 70, 72, 73, 74, 76, 77, 79, 80, 81, 82, 83, 84, 85, 88, 90, 91, 93, 94, 95, 97, 98, 100, 101, 109, 111, 112, 114, 115, 116, 118, 119, 121, 122, 123, 125, 126, 128, 129, 130, 132, 133, 135, 136, 137, 138, 139, 140, 141, 144, 146, 147, 149, 150, 151, 153, 154, 156, 157, 158, 160, 161, 163, 164, 165, 167, 168, 170, 171, 172, 174, 175, 177, 178, 179, 182, 183, 184, 187, 188]
theorem as_ok : ∀ P, (K0 P).map (·.1) = as0 := fun _ => by kernel_rfl
noncomputable abbrev hook0 := kmHook K0 as0 as_ok [145]

end partHd1
section partHl1
open PySem PySem.W PyProof.Rows
theorem said0 : OpenLaw.wellSaid PySem.Challenge.rw_pg0230_01 = true := by kernel_rfl
theorem left0 : LeftO PySem.Challenge.pw_pg0230_01 view0 [PySem.Str.ofString "Whitespace"] (fun s => xlAt view0 [] s && recOk (RowW.records PySem.Challenge.rw_pg0230_01.row.toRowW) s) (Hook.obs hook0) (Hook.val hook0) 2454 := by
  refine LeftO.of_split "special-get-raises" ?_
  intro w
  kernel_rfl

end partHl1
section partLoop2
open PySem PySem.W PyProof.Rows PySem.Calls
section
variable {prog : Program} {w : World} {A : Around} {s : Shared} {env : Env} {g : Heap}
theorem kp_fr {h h' : Heap} {L : Addr} {m : Str → Option Value} {wr : List Addr} (F : Fr g L h m) (k : Kp wr h h') (hL : L ∉ wr) (hg : ∀ b ∈ wr, g.get? b = none) : Fr g L h' m := by
  obtain ⟨⟨oL, es, ep, hL', r⟩, ke, ab⟩ := F
  refine ⟨⟨oL, es, ep, k _ _ hL hL', r⟩, fun c o e => k _ _ (fun q => ?_) (ke c o e), ab⟩
  have := hg c q
  rw [this] at e; cases e
theorem kp_news {h h' : Heap} {L : Addr} {news : List (Addr × Obj)} {wr : List Addr} (N : News g L h news) (k : Kp wr h h') (hn : ∀ p ∈ news, p.1 ∉ wr) : News g L h' news :=
  fun p hp => ⟨k _ _ (hn p hp) (N p hp).1, (N p hp).2⟩
noncomputable def AllNe (I : Addr) : List (Addr × Obj) → Prop
  | [] => True
  | p :: r => @Ne Nat p.1 I ∧ AllNe I r
theorem AllNe.of {I : Addr} : ∀ {l : List (Addr × Obj)}, (∀ p ∈ l, p.1 ≠ I) → AllNe I l
  | [], _ => trivial
  | _ :: _, h => ⟨h _ (.head _), AllNe.of fun p hp => h p (.tail _ hp)⟩
theorem AllNe.mem {I : Addr} : ∀ {l : List (Addr × Obj)}, AllNe I l → ∀ p, p ∈ l → p.1 ≠ I
  | [], _, _, hm => nomatch hm
  | q :: r, h, p, hm => by
    rcases List.mem_cons.mp hm with e | hm
    · rw [e]; exact h.1
    · exact AllNe.mem h.2 p hm
/-- how a turn ends: the loop goes on with J at the next number, or leaves -/
noncomputable def Turned (g : Heap) (L I : Addr) (oI : Obj) (J : List (Str × Value) → List (Addr × Obj) → Prop) (s : Shared) (Q : Flow → Shared → Prop) (fl : Flow) (s' : Shared) : Prop :=
  match fl with
  | .ret v => Q (.ret v) s'
  | .brk => Q .next s'
  | _ => ∃ h tk m lo nw, s' = { s with heap := h, toks := tk } ∧ Fr g L h (over lo m) ∧ News g L h ((I, oI) :: nw) ∧ (∀ p ∈ nw, p.1 ≠ I) ∧ J lo nw
theorem for_walk {target : Expr} {body : List Stmt} {I : Addr} {fp : List Addr} {n : Nat} {P : Nat → Value → Prop} {St : Nat → Heap → Prop} {Q : Flow → Shared → Prop} {E : Value → Shared → Prop}
    (J : Nat → List (Str × Value) → List (Addr × Obj) → Prop) (W : Walks prog w A I fp [I] n P St) (live : ∀ i h, St i h → ∃ o, h.get? I = some o)
    (hfp : ∀ b ∈ fp, b = I ∨ (∃ o, g.get? b = some o) ∨ (∃ o, ∀ i lo nw, J i lo nw → (b, o) ∈ nw))
    {lo₀ : List (Str × Value)} {nw₀ : List (Addr × Obj)} {m₀ : Str → Option Value}
    (hst : St 0 s.heap) (F : Fr g env.locals s.heap (over lo₀ m₀)) (N : News g env.locals s.heap nw₀) (hI : ∀ p ∈ nw₀, p.1 ≠ I) (hIL : I ≠ env.locals) (hIg : g.get? I = none) (hj : J 0 lo₀ nw₀)
    (turn : ∀ i v h tk m lo nw oI, i < n → P i v → J i lo nw → Fr g env.locals h (over lo m) → News g env.locals h ((I, oI) :: nw) → (∀ p ∈ nw, p.1 ≠ I) → St (i + 1) h →
      wpAny (model prog w) A (assign target env v) (fun _ s₂ => wpAny (model prog w) A (execs body env) (Turned g env.locals I oI (J (i + 1)) s Q) noE s₂) noE { s with heap := h, toks := tk })
    (done : ∀ h tk m lo nw, J n lo nw → Fr g env.locals h (over lo m) → News g env.locals h nw → Q .next { s with heap := h, toks := tk })
    (ht : ∀ v, letOwnedTupleGo target (.ref I) v = pure () := by intro _; rfl) :
    codeAny (model prog w) A (.forLoop target (.ref I) body [] env) (fun r s' => match r with | .ok f => Q f s' | .error e => E e s') s := by
  refine codeAny_forLoop (fun k s' => ∃ i h tk m lo nw, s' = { s with heap := h, toks := tk } ∧ i ≤ n ∧ k = n + 1 - i ∧ St i h ∧ Fr g env.locals h (over lo m) ∧ News g env.locals h nw ∧ (∀ p ∈ nw, p.1 ≠ I) ∧ J i lo nw) ?_ (n + 1)
    ⟨0, s.heap, s.toks, m₀, lo₀, nw₀, rfl, Nat.zero_le _, rfl, hst, F, N, hI, hj⟩ ht
  rintro k s' ⟨i, h, tk, m, lo, nw, rfl, hin, rfl, hst', F', N', hI', hJ⟩
  have hwL : env.locals ∉ [I] := fun q => hIL (List.mem_singleton.mp q).symm
  have hwg : ∀ b ∈ [I], g.get? b = none := fun b hb => by rw [List.mem_singleton.mp hb]; exact hIg
  have hwn : ∀ p ∈ nw, p.1 ∉ [I] := fun p hp q => hI' p hp (List.mem_singleton.mp q)
  by_cases hlt : i < n
  · refine wpAny_noE (W.item i _ _ _ hlt hst' fun v h₁ tk₁ hP hst₁ hk => ?_)
    have F₁ := kp_fr F' (wr := [I]) hk hwL hwg
    have N₁ := kp_news N' (wr := [I]) hk hwn
    obtain ⟨oI, hoI⟩ := live _ _ hst₁
    have N₂ : News g env.locals h₁ ((I, oI) :: nw) := fun p hp => by
      rcases List.mem_cons.mp hp with e | hp
      · rw [e]; exact ⟨hoI, hIL, hIg⟩
      · exact N₁ p hp
    refine wpAny_noE (wpAny_mono (turn i v h₁ tk₁ m lo nw oI hlt hP hJ F₁ N₂ hI' hst₁) (fun _ s₂ h₂ => wpAny_noE (wpAny_mono h₂ (fun f s₃ h₃ => ?_) fun _ _ x => x)) fun _ _ x => x)
    have goes : (∃ h tk m lo nw, s₃ = { s with heap := h, toks := tk } ∧ Fr g env.locals h (over lo m) ∧ News g env.locals h ((I, oI) :: nw) ∧ (∀ p ∈ nw, p.1 ≠ I) ∧ J (i + 1) lo nw) →
        ∃ m', m' < n + 1 - i ∧ ∃ i h tk m lo nw, s₃ = { s with heap := h, toks := tk } ∧ i ≤ n ∧ m' = n + 1 - i ∧ St i h ∧ Fr g env.locals h (over lo m) ∧ News g env.locals h nw ∧ (∀ p ∈ nw, p.1 ≠ I) ∧ J i lo nw := by
      rintro ⟨h₄, tk₄, m₄, lo₄, nw₄, rfl, F₄, N₄, hI₄, hJ₄⟩
      refine ⟨n + 1 - (i + 1), by omega, i + 1, h₄, tk₄, m₄, lo₄, nw₄, rfl, hlt, rfl, ?_, F₄, fun p hp => N₄ p (.tail _ hp), hI₄, hJ₄⟩
      refine W.frame _ _ _ hst₁ fun b hb o e => ?_
      rcases hfp b hb with rfl | ⟨o', e'⟩ | ⟨o', hm⟩
      · rw [hoI] at e; cases e; exact (N₄ _ (.head _)).1
      · have := F₁.keep _ _ e'
        rw [this] at e; cases e; exact F₄.keep _ _ e'
      · have := (N₁ _ (hm _ _ _ hJ)).1
        rw [this] at e; cases e; exact (N₄ _ (.tail _ (hm _ _ _ hJ₄))).1
    cases f with
    | ret v => exact h₃
    | brk => exact h₃
    | next => exact goes h₃
    | cont => exact goes h₃
  · have hin' : i = n := by omega
    subst hin'
    refine wpAny_noE (W.done _ _ _ hst' fun h₁ tk₁ hk => ?_)
    exact wpAny_execs_nil (done h₁ tk₁ m lo nw hJ (kp_fr F' (wr := [I]) hk hwL hwg) (kp_news N' (wr := [I]) hk hwn))

theorem turned_next {L I : Addr} {oI : Obj} {J : List (Str × Value) → List (Addr × Obj) → Prop} {Q : Flow → Shared → Prop} {fl : Flow} {h : Heap} {tk : Nat} {m : Str → Option Value} {news₀ : List (Addr × Obj)} (lo : List (Str × Value)) (nw : List (Addr × Obj))
    (hfl : fl = .next ∨ fl = .cont) (F : Fr g L h m) (N : News g L h news₀) (hat : AllAt m lo) (hin : InAll news₀ ((I, oI) :: nw)) (hne : AllNe I nw) (hj : J lo nw) : Turned g L I oI J s Q fl { s with heap := h, toks := tk } := by
  have x : ∃ h' tk' m lo nw, ({ s with heap := h, toks := tk } : Shared) = { s with heap := h', toks := tk' } ∧ Fr g L h' (over lo m) ∧ News g L h' ((I, oI) :: nw) ∧ (∀ p ∈ nw, p.1 ≠ I) ∧ J lo nw :=
    ⟨h, tk, m, lo, nw, rfl, by rw [over_self hat]; exact F, fun p hp => N p (hin.mem p hp), hne.mem, hj⟩
  rcases hfl with rfl | rfl <;> exact x
/-- of another class: another address -/
theorem ne_of_cls {L a b : Addr} {oa ob : Obj} {h : Heap} {news : List (Addr × Obj)} (N : News g L h news) (ha : (a, oa) ∈ news) (hb : (b, ob) ∈ news) (ne : oa.cls ≠ ob.cls) : a ≠ b := fun e => by
  have h1 := (N _ ha).1
  have h2 := (N _ hb).1
  rw [e] at h1
  exact ne (congrArg Obj.cls (Option.some.inj (h1.symm.trans h2)))
theorem for_stmt {target iter body pos} {Q : Flow → Shared → Prop} {E : Value → Shared → Prop}
    (h : wpAny (model prog w) A (eval iter env) (fun x s₁ => wpAny (model prog w) A (pyIter x) (fun it s₂ =>
      codeAny (model prog w) A (.forLoop target it body [] env) (fun r s' => match r with | .ok f => Q f s' | .error e => cameBackBy (model prog w) A env E e s') s₂) noE s₁) noE s)
    (hs : ∀ x, foldedSetIterable iter env x = pure x) :
    wpAny (model prog w) A (exec (.For target iter body [] pos) env) Q E s :=
  wpAny_For (wpAny_noE (wpAny_mono h (fun _ _ h1 => wpAny_noE h1) fun _ _ x => x)) hs
theorem it_range {target : Expr} {body : List Stmt} {r : Addr} {a b : Int} {t u v : Tok} {n : Nat} {Q : Flow → Shared → Prop} {E E' : Value → Shared → Prop} (J : Nat → List (Str × Value) → List (Addr × Obj) → Prop)
    (hh : A.handled = none) {L : Addr} (hL : env.locals = L) (hr : IsRange s.heap r a b 1 t u v) (hsm : Builtin.Range.small a b 1 = true) (hn : Builtin.Range.rangeSize a b 1 = (n : Int))
    (lo₀ : List (Str × Value)) (nw₀ : List (Addr × Obj)) {m₀ : Str → Option Value} {news₀ : List (Addr × Obj)}
    (F : Fr g L s.heap m₀) (N : News g L s.heap news₀) (hat : AllAt m₀ lo₀) (hin : InAll news₀ nw₀) (hj : J 0 lo₀ nw₀)
    (turn : ∀ i t I h tk m lo nw oI, i < n → J i lo nw → Fr g L h (over lo m) → News g L h ((I, oI) :: nw) → AllNe I nw → oI.cls = .type "range_iterator" →
      wpAny (model prog w) A (assign target env (.int (a + (i : Int)) t)) (fun _ s₂ => wpAny (model prog w) A (execs body env) (Turned g L I oI (J (i + 1)) s Q) noE s₂) noE { s with heap := h, toks := tk })
    (done : ∀ h tk m lo nw, J n lo nw → Fr g L h (over lo m) → News g L h nw → Q .next { s with heap := h, toks := tk })
    (ht : ∀ it v, letOwnedTupleGo target it v = pure () := by intro _ _; rfl) :
    wpAny (model prog w) A (pyIter (.ref r)) (fun it s₂ => codeAny (model prog w) A (.forLoop target it body [] env) (fun r s' => match r with | .ok f => Q f s' | .error e => E' e s') s₂) E s := by
  subst hL
  refine wpAny_pyIter_range hr hsm ?_
  have up : ∀ {o' : Obj} b o, s.heap.get? b = some o → (s.heap.push o').get? b = some o := fun b o e => Heap.get?_push_of_some _ e
  refine for_walk (s := { s with heap := _ }) (g := g) J (LCg.range_walks hh a n) (fun i h st => ⟨_, st⟩) (fun b hb => .inl (List.mem_singleton.mp hb)) (lo₀ := lo₀) (nw₀ := nw₀) (m₀ := m₀) (by show IsRangeIter _ _ _ _ _; rw [hn]; simpa using Heap.get?_push_size _ rfl)
    (by rw [over_self hat]; exact F.keeps up) ((kst_newsOf N hin.mem).grown up) (fun p hp => Nat.ne_of_lt (Heap.lt_size (N p (hin.mem p hp)).1)) (Ne.symm (Nat.ne_of_lt F.ns.lt)) (next_is_new F) hj ?_ ?_ (fun v => ht _ v)
  · rintro i v h tk m lo nw oI hi ⟨t, rfl⟩ hJ F₁ N₁ hne st
    refine turn i t _ h tk m lo nw oI hi hJ F₁ N₁ (AllNe.of hne) ?_
    have h1 : h.get? _ = some _ := st
    have h2 := (N₁ _ (.head _)).1
    rw [h1] at h2
    exact congrArg Obj.cls (Option.some.inj h2.symm)
  · exact fun h tk m lo nw hJ F₁ N₁ => done h tk m lo nw hJ F₁ N₁
theorem it_list {target : Expr} {body : List Stmt} {ax : Addr} {its : Array Value} {Q : Flow → Shared → Prop} {E E' : Value → Shared → Prop} (J : Nat → List (Str × Value) → List (Addr × Obj) → Prop)
    (hh : A.handled = none) {L : Addr} (hL : env.locals = L) (o : Obj) (ho : o.cls = .type "list" ∧ ∃ n, o.data = .seq its n)
    (lo₀ : List (Str × Value)) (nw₀ : List (Addr × Obj)) {m₀ : Str → Option Value} {news₀ : List (Addr × Obj)}
    (F : Fr g L s.heap m₀) (N : News g L s.heap news₀) (hsrc : g.get? ax = some o ∨ ∀ i lo nw, J i lo nw → (ax, o) ∈ nw) (hat : AllAt m₀ lo₀) (hin : InAll news₀ nw₀) (hj : J 0 lo₀ nw₀)
    (turn : ∀ i v I h tk m lo nw oI, its[i]? = some v → J i lo nw → Fr g L h (over lo m) → News g L h ((I, oI) :: nw) → AllNe I nw → oI.cls = .type "list_iterator" →
      wpAny (model prog w) A (assign target env v) (fun _ s₂ => wpAny (model prog w) A (execs body env) (Turned g L I oI (J (i + 1)) s Q) noE s₂) noE { s with heap := h, toks := tk })
    (done : ∀ h tk m lo nw, J its.size lo nw → Fr g L h (over lo m) → News g L h nw → Q .next { s with heap := h, toks := tk })
    (ht : ∀ I h v, (∀ i, Heap.IsListIter h I ax i → letOwnedTupleGo target (.ref I) v = pure ()) := by intro _ _ _ _ _; rfl) :
    wpAny (model prog w) A (pyIter (.ref ax)) (fun it s₂ => codeAny (model prog w) A (.forLoop target it body [] env) (fun r s' => match r with | .ok f => Q f s' | .error e => E' e s') s₂) E s := by
  subst hL
  have hax : s.heap.get? ax = some o := by
    rcases hsrc with e | hm
    · exact F.keep _ _ e
    · exact (N _ (hin.mem _ (hm 0 lo₀ nw₀ hj))).1
  obtain ⟨nn, hd⟩ := ho.2
  have hl : s.heap.IsList ax its := ⟨o, hax, ho.1, nn, hd⟩
  have hlt : ax < s.heap.objs.size := Heap.lt_size hax
  refine wpAny_pyIter_list hl ?_
  have up : ∀ {o' : Obj} b o, s.heap.get? b = some o → (s.heap.push o').get? b = some o := fun b o e => Heap.get?_push_of_some _ e
  refine for_walk (s := { s with heap := _ }) (g := g) J (Walks.list hh s.heap.objs.size ax (Nat.ne_of_lt hlt) its) (fun i h st => by obtain ⟨o, e, _⟩ := st.1; exact ⟨o, e⟩) (fun b hb => ?_) (lo₀ := lo₀) (nw₀ := nw₀) (m₀ := m₀) ⟨⟨_, Heap.get?_push_size _ rfl, rfl, rfl⟩, hl.push _⟩
    (by rw [over_self hat]; exact F.keeps up) ((kst_newsOf N hin.mem).grown up) (fun p hp => Nat.ne_of_lt (Heap.lt_size (N p (hin.mem p hp)).1)) (Ne.symm (Nat.ne_of_lt F.ns.lt)) (next_is_new F) hj ?_ ?_ (fun v => ?_)
  · rcases List.mem_cons.mp hb with e | hb
    · exact .inl e
    · rw [List.mem_singleton.mp hb]
      rcases hsrc with e | hm
      · exact .inr (.inl ⟨o, e⟩)
      · exact .inr (.inr ⟨o, hm⟩)
  · rintro i v h tk m lo nw oI hi hP hJ F₁ N₁ hne st
    refine turn i v _ h tk m lo nw oI hP hJ F₁ N₁ (AllNe.of hne) ?_
    obtain ⟨o', h1, hc, _⟩ := st.1
    have h2 := (N₁ _ (.head _)).1
    rw [h1] at h2
    have h3 : o' = oI := Option.some.inj h2
    rw [← h3]; exact hc
  · exact fun h tk m lo nw hJ F₁ N₁ => done h tk m lo nw hJ F₁ N₁
  · exact ht _ _ v 0 ⟨_, Heap.get?_push_size s.heap (o := { cls := .type "list_iterator", data := .fields #[.ref ax, .int 0 0] }) rfl, rfl, rfl⟩
theorem it_str {target : Expr} {body : List Stmt} {x : Str} {t : Tok} {Q : Flow → Shared → Prop} {E E' : Value → Shared → Prop} (J : Nat → List (Str × Value) → List (Addr × Obj) → Prop)
    (hh : A.handled = none) {L : Addr} (hL : env.locals = L)
    (lo₀ : List (Str × Value)) (nw₀ : List (Addr × Obj)) {m₀ : Str → Option Value} {news₀ : List (Addr × Obj)}
    (F : Fr g L s.heap m₀) (N : News g L s.heap news₀) (hat : AllAt m₀ lo₀) (hin : InAll news₀ nw₀) (hj : J 0 lo₀ nw₀)
    (turn : ∀ i c t I h tk m lo nw oI, x.cps[i]? = some c → J i lo nw → Fr g L h (over lo m) → News g L h ((I, oI) :: nw) → AllNe I nw → (oI.cls = .type "str_iterator" ∨ oI.cls = .type "str_ascii_iterator") →
      wpAny (model prog w) A (assign target env (.str ⟨#[c]⟩ t)) (fun _ s₂ => wpAny (model prog w) A (execs body env) (Turned g L I oI (J (i + 1)) s Q) noE s₂) noE { s with heap := h, toks := tk })
    (done : ∀ h tk m lo nw, J x.cps.size lo nw → Fr g L h (over lo m) → News g L h nw → Q .next { s with heap := h, toks := tk })
    (ht : ∀ it v, letOwnedTupleGo target it v = pure () := by intro _ _; rfl) :
    wpAny (model prog w) A (pyIter (.str x t)) (fun it s₂ => codeAny (model prog w) A (.forLoop target it body [] env) (fun r s' => match r with | .ok f => Q f s' | .error e => E' e s') s₂) E s := by
  subst hL
  have up : ∀ {o' : Obj} b o, s.heap.get? b = some o → (s.heap.push o').get? b = some o := fun b o e => Heap.get?_push_of_some _ e
  have go : ∀ (ty : String) (hty : ty = "str_iterator" ∨ ty = "str_ascii_iterator") (W : Walks prog w A s.heap.objs.size [s.heap.objs.size] [s.heap.objs.size] x.cps.size (SignAt x) (fun i h => h.IsStrIter s.heap.objs.size ty x t i)),
      codeAny (model prog w) A (.forLoop target (.ref s.heap.objs.size) body [] env) (fun r s' => match r with | .ok f => Q f s' | .error e => E' e s') { s with heap := s.heap.push { cls := .type ty, data := .fields #[.str x t, .int 0 0] } } := by
    intro ty hty W
    refine for_walk (s := { s with heap := _ }) (g := g) J W (fun i h st => by obtain ⟨o, e, _⟩ := st; exact ⟨o, e⟩) (fun b hb => .inl (List.mem_singleton.mp hb)) (lo₀ := lo₀) (nw₀ := nw₀) (m₀ := m₀) ⟨_, Heap.get?_push_size _ rfl, rfl, rfl⟩
      (by rw [over_self hat]; exact F.keeps up) ((kst_newsOf N hin.mem).grown up) (fun p hp => Nat.ne_of_lt (Heap.lt_size (N p (hin.mem p hp)).1)) (Ne.symm (Nat.ne_of_lt F.ns.lt)) (next_is_new F) hj ?_ ?_ (fun v => ht _ v)
    · rintro i v h tk m lo nw oI hi ⟨c, t', hc, rfl⟩ hJ F₁ N₁ hne st
      refine turn i c t' _ h tk m lo nw oI hc hJ F₁ N₁ (AllNe.of hne) ?_
      obtain ⟨o', h1, hcl, _⟩ := st
      have h2 := (N₁ _ (.head _)).1
      rw [h1] at h2
      have h3 : o' = oI := Option.some.inj h2
      rw [← h3, hcl]
      rcases hty with rfl | rfl
      · exact .inl rfl
      · exact .inr rfl
    · exact fun h tk m lo nw hJ F₁ N₁ => done h tk m lo nw hJ F₁ N₁
  cases ha : x.cps.all (· < 128)
  · exact wpAny_pyIter_wide ha (go _ (.inl rfl) (Walks.strWide hh _ x t))
  · exact wpAny_pyIter_ascii ha (go _ (.inr rfl) (Walks.strAscii hh _ x t))
/-- a comprehension's turns by an invariant -/
theorem comp_inv {h₀ : Heap} {L : Addr} {m : Str → Option Value} {elt : Expr} {x : Str} {scope : Scope} {cl : List (Str × Addr)} {S : List (Addr × Obj) → Prop} {P : Nat → Value → Prop} {Fin : List Value → List (Addr × Obj) → Prop} (n : Nat)
    (J : Nat → List Value → List (Addr × Obj) → Prop)
    (turn : ∀ i ys news v I oI C oC D m₂ h tk, i < n → J i ys news → P i v → LCg.NsObj oC m₂ → m₂ x = some v → Fr h₀ L h m → News h₀ L h ((I, oI) :: (C, oC) :: (D, LCg.lst ys) :: news) → LCg.Off3 I C D news → ((@Ne Nat I C) ∧ (@Ne Nat I D) ∧ (@Ne Nat C D)) →
      wpAny (model prog w) A (eval elt (compEnvC scope cl C env)) (LCg.CompEnd h₀ L m { s with heap := h, toks := tk } I oI C oC D (LCg.lst ys) S (fun y news' => J (i + 1) (ys ++ [y]) news')) noE { s with heap := h, toks := tk })
    (fin : ∀ ys news, J n ys news → Fin ys news) :
    ∀ k i ys news, i + k = n → J i ys news → LCg.CompRest prog w A h₀ L m env elt x scope cl s S P Fin k i ys news
  | 0, i, ys, news, hk, hJ => by
    have : i = n := by omega
    subst this
    exact LCg.CompRest.zero (fin _ _ hJ)
  | k + 1, i, ys, news, hk, hJ => LCg.CompRest.succ fun v I oI C oC D m₂ h tk E' hP hC hx F N off ne => by
    refine wpAny_noE (wpAny_mono (turn i ys news v I oI C oC D m₂ h tk (by omega) hJ hP hC hx F N off ne) (fun y s₂ h₂ => ?_) fun _ _ x => x)
    obtain ⟨h', tk', news', e, F', N', off', hS, hj⟩ := h₂
    exact ⟨h', tk', news', e, F', N', off', hS, comp_inv n J turn fin k (i + 1) (ys ++ [y]) news' (by omega) hj⟩
end

end partLoop2
section partLoopT1
open PySem PySem.W PyProof.Rows PySem.Calls
section
variable {prog : Program} {w : World} {A : Around} {s : Shared} {env : Env} {g : Heap}
theorem for_walkT {target : Expr} {body : List Stmt} {I : Addr} {fp : List Addr} {n : Nat} {P : Nat → Value → Prop} {St : Nat → Heap → Prop} {Q : Flow → Shared → Prop} {E : Value → Shared → Prop}
    (J : Nat → List (Str × Value) → List (Addr × Obj) → Prop) (W : Walks prog w A I fp [I] n P St) (live : ∀ i h, St i h → ∃ o, h.get? I = some o)
    (hfp : ∀ b ∈ fp, b = I ∨ (∃ o, g.get? b = some o) ∨ (∃ o, ∀ i lo nw, J i lo nw → (b, o) ∈ nw))
    {lo₀ : List (Str × Value)} {nw₀ : List (Addr × Obj)} {m₀ : Str → Option Value}
    (hst : St 0 s.heap) (F : Fr g env.locals s.heap (over lo₀ m₀)) (N : News g env.locals s.heap nw₀) (hI : ∀ p ∈ nw₀, p.1 ≠ I) (hIL : I ≠ env.locals) (hIg : g.get? I = none) (hj : J 0 lo₀ nw₀)
    (turn : ∀ i v h tk m lo nw oI, i < n → P i v → J i lo nw → Fr g env.locals h (over lo m) → News g env.locals h ((I, oI) :: nw) → (∀ p ∈ nw, p.1 ≠ I) → St (i + 1) h →
      wpAny (model prog w) A (assign target env v) (fun _ s₂ => wpAny (model prog w) A (execs body env) (Turned g env.locals I oI (J (i + 1)) s Q) noE s₂) noE { s with heap := h, toks := tk })
    (done : ∀ h tk m lo nw, J n lo nw → Fr g env.locals h (over lo m) → News g env.locals h nw → Q .next { s with heap := h, toks := tk })
    (hgo : ∀ i v (s : Shared) (Q : Unit → Shared → Prop) (E : Value → Shared → Prop), P i v → St (i + 1) s.heap → Q () s → wpAny (model prog w) A (letOwnedTupleGo target (.ref I) v) Q E s) :
    codeAny (model prog w) A (.forLoop target (.ref I) body [] env) (fun r s' => match r with | .ok f => Q f s' | .error e => E e s') s := by
  refine codeAny_forLoop_any (fun k s' => ∃ i h tk m lo nw, s' = { s with heap := h, toks := tk } ∧ i ≤ n ∧ k = n + 1 - i ∧ St i h ∧ Fr g env.locals h (over lo m) ∧ News g env.locals h nw ∧ (∀ p ∈ nw, p.1 ≠ I) ∧ J i lo nw) ?_ (n + 1)
    ⟨0, s.heap, s.toks, m₀, lo₀, nw₀, rfl, Nat.zero_le _, rfl, hst, F, N, hI, hj⟩
  rintro k s' ⟨i, h, tk, m, lo, nw, rfl, hin, rfl, hst', F', N', hI', hJ⟩
  have hwL : env.locals ∉ [I] := fun q => hIL (List.mem_singleton.mp q).symm
  have hwg : ∀ b ∈ [I], g.get? b = none := fun b hb => by rw [List.mem_singleton.mp hb]; exact hIg
  have hwn : ∀ p ∈ nw, p.1 ∉ [I] := fun p hp q => hI' p hp (List.mem_singleton.mp q)
  by_cases hlt : i < n
  · refine wpAny_noE (W.item i _ _ _ hlt hst' fun v h₁ tk₁ hP hst₁ hk => ?_)
    have F₁ := kp_fr F' (wr := [I]) hk hwL hwg
    have N₁ := kp_news N' (wr := [I]) hk hwn
    obtain ⟨oI, hoI⟩ := live _ _ hst₁
    have N₂ : News g env.locals h₁ ((I, oI) :: nw) := fun p hp => by
      rcases List.mem_cons.mp hp with e | hp
      · rw [e]; exact ⟨hoI, hIL, hIg⟩
      · exact N₁ p hp
    refine hgo i v _ _ _ hP hst₁ ?_
    refine wpAny_noE (wpAny_mono (turn i v h₁ tk₁ m lo nw oI hlt hP hJ F₁ N₂ hI' hst₁) (fun _ s₂ h₂ => wpAny_noE (wpAny_mono h₂ (fun f s₃ h₃ => ?_) fun _ _ x => x)) fun _ _ x => x)
    have goes : (∃ h tk m lo nw, s₃ = { s with heap := h, toks := tk } ∧ Fr g env.locals h (over lo m) ∧ News g env.locals h ((I, oI) :: nw) ∧ (∀ p ∈ nw, p.1 ≠ I) ∧ J (i + 1) lo nw) →
        ∃ m', m' < n + 1 - i ∧ ∃ i h tk m lo nw, s₃ = { s with heap := h, toks := tk } ∧ i ≤ n ∧ m' = n + 1 - i ∧ St i h ∧ Fr g env.locals h (over lo m) ∧ News g env.locals h nw ∧ (∀ p ∈ nw, p.1 ≠ I) ∧ J i lo nw := by
      rintro ⟨h₄, tk₄, m₄, lo₄, nw₄, rfl, F₄, N₄, hI₄, hJ₄⟩
      refine ⟨n + 1 - (i + 1), by omega, i + 1, h₄, tk₄, m₄, lo₄, nw₄, rfl, hlt, rfl, ?_, F₄, fun p hp => N₄ p (.tail _ hp), hI₄, hJ₄⟩
      refine W.frame _ _ _ hst₁ fun b hb o e => ?_
      rcases hfp b hb with rfl | ⟨o', e'⟩ | ⟨o', hm⟩
      · rw [hoI] at e; cases e; exact (N₄ _ (.head _)).1
      · have := F₁.keep _ _ e'
        rw [this] at e; cases e; exact F₄.keep _ _ e'
      · have := (N₁ _ (hm _ _ _ hJ)).1
        rw [this] at e; cases e; exact (N₄ _ (.tail _ (hm _ _ _ hJ₄))).1
    cases f with
    | ret v => exact h₃
    | brk => exact h₃
    | next => exact goes h₃
    | cont => exact goes h₃
  · have hin' : i = n := by omega
    subst hin'
    refine wpAny_noE (W.done _ _ _ hst' fun h₁ tk₁ hk => ?_)
    exact wpAny_execs_nil (done h₁ tk₁ m lo nw hJ (kp_fr F' (wr := [I]) hk hwL hwg) (kp_news N' (wr := [I]) hk hwn))
/-- a loop over a list of tuples, its target a tuple -/
theorem it_listT {elts : List Expr} {x1} {pos : Pos} {body : List Stmt} {ax : Addr} {its : Array Value} {Q : Flow → Shared → Prop} {E E' : Value → Shared → Prop} (J : Nat → List (Str × Value) → List (Addr × Obj) → Prop)
    (hh : A.handled = none) {L : Addr} (hL : env.locals = L) (o : Obj) (ho : o.cls = .type "list" ∧ ∃ n, o.data = .seq its n) (hrefs : ∀ (i : Nat) (v : Value), its[i]? = some v → ∃ T : Addr, v = Value.ref T)
    (lo₀ : List (Str × Value)) (nw₀ : List (Addr × Obj)) {m₀ : Str → Option Value} {news₀ : List (Addr × Obj)}
    (F : Fr g L s.heap m₀) (N : News g L s.heap news₀) (hsrc : ∀ i lo nw, J i lo nw → (ax, o) ∈ nw) (hat : AllAt m₀ lo₀) (hin : InAll news₀ nw₀) (hj : J 0 lo₀ nw₀)
    (turn : ∀ i v I h tk m lo nw oI, its[i]? = some v → J i lo nw → Fr g L h (over lo m) → News g L h ((I, oI) :: nw) → AllNe I nw →
      wpAny (model prog w) A (assign (.Tuple elts x1 pos) env v) (fun _ s₂ => wpAny (model prog w) A (execs body env) (Turned g L I oI (J (i + 1)) s Q) noE s₂) noE { s with heap := h, toks := tk })
    (done : ∀ h tk m lo nw, J its.size lo nw → Fr g L h (over lo m) → News g L h nw → Q .next { s with heap := h, toks := tk }) :
    wpAny (model prog w) A (pyIter (.ref ax)) (fun it s₂ => codeAny (model prog w) A (.forLoop (.Tuple elts x1 pos) it body [] env) (fun r s' => match r with | .ok f => Q f s' | .error e => E' e s') s₂) E s := by
  subst hL
  have hax : s.heap.get? ax = some o := (N _ (hin.mem _ (hsrc 0 lo₀ nw₀ hj))).1
  obtain ⟨nn, hd⟩ := ho.2
  have hl : s.heap.IsList ax its := ⟨o, hax, ho.1, nn, hd⟩
  have hlt : ax < s.heap.objs.size := Heap.lt_size hax
  refine wpAny_pyIter_list hl ?_
  have up : ∀ {o' : Obj} b o, s.heap.get? b = some o → (s.heap.push o').get? b = some o := fun b o e => Heap.get?_push_of_some _ e
  refine for_walkT (s := { s with heap := _ }) (g := g) J (Walks.list hh s.heap.objs.size ax (Nat.ne_of_lt hlt) its) (fun i h st => by obtain ⟨o, e, _⟩ := st.1; exact ⟨o, e⟩) (fun b hb => ?_) (lo₀ := lo₀) (nw₀ := nw₀) (m₀ := m₀) ⟨⟨_, Heap.get?_push_size _ rfl, rfl, rfl⟩, hl.push _⟩
    (by rw [over_self hat]; exact F.keeps up) ((kst_newsOf N hin.mem).grown up) (fun p hp => Nat.ne_of_lt (Heap.lt_size (N p (hin.mem p hp)).1)) (Ne.symm (Nat.ne_of_lt F.ns.lt)) (next_is_new F) hj ?_ ?_ ?_
  · rcases List.mem_cons.mp hb with e | hb
    · exact .inl e
    · rw [List.mem_singleton.mp hb]
      exact .inr (.inr ⟨o, hsrc⟩)
  · rintro i v h tk m lo nw oI hi hP hJ F₁ N₁ hne st
    exact turn i v _ h tk m lo nw oI hP hJ F₁ N₁ (AllNe.of hne)
  · exact fun h tk m lo nw hJ F₁ N₁ => done h tk m lo nw hJ F₁ N₁
  · rintro i v s Q E hP st hQ
    obtain ⟨T, rfl⟩ := hrefs i v hP
    exact wpAny_letOwnedTupleGo_listiter st.1 hQ
end

end partLoopT1
section partComp2
open PySem PySem.W PyProof.Rows PySem.Calls PyProof.Rows.LCg
section
variable {prog : Program} {w : World} {A : Around} {s s₁ : Shared} {env : Env} {g : Heap} {L : Addr} {m : Str → Option Value} {news : List (Addr × Obj)}
/-- a value that can be gone through, item by item -/
structure ItSrc (prog : Program) (w : World) (A : Around) (g : Heap) (L : Addr) (s₁ : Shared) (news : List (Addr × Obj)) (xv : Value) (n : Nat) (P : Nat → Value → Prop) (S : List (Addr × Obj) → Prop) (o : Obj) (fp : List Addr) (St : Nat → Heap → Prop) : Prop where
  W : Walks prog w A s₁.heap.objs.size fp [s₁.heap.objs.size] n P St
  live : ∀ i h, St i h → ∃ o, h.get? s₁.heap.objs.size = some o
  keeps : ∀ i h h' o nw, St i h → h.get? s₁.heap.objs.size = some o → h'.get? s₁.heap.objs.size = some o → (∀ b o, g.get? b = some o → h'.get? b = some o) → News g L h' nw → S nw → St i h'
  st : St 0 (s₁.heap.push o)
  fps : ∀ b ∈ fp, b < (s₁.heap.push o).objs.size
  s0 : S news
  go : ∀ (Q : Value → Shared → Prop) (E : Value → Shared → Prop), Q (.ref s₁.heap.objs.size) { s₁ with heap := s₁.heap.push o } → wpAny (model prog w) A (pyIter xv) Q E s₁
theorem src_list {ax : Addr} {its : Array Value} (hh : A.handled = none) (F : Fr g L s₁.heap m) (N : News g L s₁.heap news) (h : SrcAt g ax its news) :
    ∃ o fp St, ItSrc prog w A g L s₁ news (.ref ax) its.size (fun i v => its[i]? = some v) (SrcAt g ax its) o fp St := by
  have hl := h.list F.keep N
  have hlt : ax < s₁.heap.objs.size := by obtain ⟨_, e, _⟩ := hl; exact Heap.lt_size e
  refine ⟨_, _, _, Walks.list hh s₁.heap.objs.size ax (Nat.ne_of_lt hlt) its, fun i h st => by obtain ⟨o, e, _⟩ := st.1; exact ⟨o, e⟩, list_st, ⟨⟨_, Heap.get?_push_size _ rfl, rfl, rfl⟩, hl.push _⟩, fun b hb => ?_, h, fun Q E q => wpAny_pyIter_list hl q⟩
  rw [Heap.size_push]
  rcases List.mem_cons.mp hb with e | hb
  · rw [e]; exact Nat.lt_succ_self _
  · rw [List.mem_singleton.mp hb]; exact Nat.lt_succ_of_lt hlt
theorem src_str {x : Str} {t : Tok} (hh : A.handled = none) :
    ∃ o fp St, ItSrc prog w A g L s₁ news (.str x t) x.cps.size (SignAt x) (fun _ => True) o fp St := by
  have go : ∀ (ty : String) (W : Walks prog w A s₁.heap.objs.size [s₁.heap.objs.size] [s₁.heap.objs.size] x.cps.size (SignAt x) (fun i h => h.IsStrIter s₁.heap.objs.size ty x t i))
      (q : ∀ (Q : Value → Shared → Prop) (E : Value → Shared → Prop), Q (.ref s₁.heap.objs.size) { s₁ with heap := s₁.heap.push { cls := .type ty, data := .fields #[.str x t, .int 0 0] } } → wpAny (model prog w) A (pyIter (.str x t)) Q E s₁),
      ∃ o fp St, ItSrc prog w A g L s₁ news (.str x t) x.cps.size (SignAt x) (fun _ => True) o fp St := by
    intro ty W q
    refine ⟨_, _, _, W, fun i h st => by obtain ⟨o, e, _⟩ := st; exact ⟨o, e⟩, ?_, ⟨_, Heap.get?_push_size _ rfl, rfl, rfl⟩, fun b hb => ?_, trivial, q⟩
    · intro i h h' o nw st e e' _ _ _
      obtain ⟨o', q, r⟩ := st
      rw [e] at q; cases q
      exact ⟨o, e', r⟩
    · rw [Heap.size_push, List.mem_singleton.mp hb]; exact Nat.lt_succ_self _
  cases ha : x.cps.all (· < 128)
  · exact go _ (Walks.strWide hh _ x t) fun Q E q => wpAny_pyIter_wide ha q
  · exact go _ (Walks.strAscii hh _ x t) fun Q E q => wpAny_pyIter_ascii ha q
theorem src_range {r : Addr} {a b : Int} {t u v : Tok} {n : Nat} (hh : A.handled = none) (hr : IsRange s₁.heap r a b 1 t u v) (hsm : Builtin.Range.small a b 1 = true) (hn : Builtin.Range.rangeSize a b 1 = (n : Int)) :
    ∃ o fp St, ItSrc prog w A g L s₁ news (.ref r) n (fun i v => ∃ t, v = .int (a + (i : Int)) t) (fun _ => True) o fp St := by
  refine ⟨_, _, _, range_walks hh a n, fun i h st => ⟨_, st⟩, range_st, ?_, fun b hb => ?_, trivial, fun Q E q => wpAny_pyIter_range hr hsm q⟩
  · show IsRangeIter _ _ _ _ _; rw [hn]; simpa using Heap.get?_push_size _ rfl
  · rw [Heap.size_push, List.mem_singleton.mp hb]; exact Nat.lt_succ_self _
noncomputable def LcE (prog : Program) (w : World) (A : Around) (env : Env) (elt : Expr) (x : Str) (scope : Scope) (cl : List (Str × Addr)) (Q : Value → Shared → Prop) (xv : Value) (s₁ : Shared) : Prop :=
  ∃ g L m n P S news, Fr g L s₁.heap m ∧ News g L s₁.heap news ∧ n ≤ sizeLine ∧ (∃ o fp St, ItSrc prog w A g L s₁ news xv n P S o fp St) ∧
    ∀ hh, CompRest prog w A g L m env elt x scope cl { s₁ with heap := hh } S P (FinE g L m { s₁ with heap := hh } Q) n 0 [] news
noncomputable def LcA (prog : Program) (w : World) (A : Around) (env : Env) (elt : Expr) (x : Str) (scope : Scope) (cl : List (Str × Addr)) (y : Str) (Q : Flow → Shared → Prop) (xv : Value) (s₁ : Shared) : Prop :=
  ∃ g m n P S news, Fr g env.locals s₁.heap m ∧ News g env.locals s₁.heap news ∧ n ≤ sizeLine ∧ (∃ o fp St, ItSrc prog w A g env.locals s₁ news xv n P S o fp St) ∧
    ∀ hh, CompRest prog w A g env.locals m env elt x scope cl { s₁ with heap := hh } S P (FinA g env.locals m { s₁ with heap := hh } y Q) n 0 [] news
theorem LcE.intro {elt : Expr} {x : Str} {scope : Scope} {cl : List (Str × Addr)} {Q : Value → Shared → Prop} {xv : Value} {n : Nat} {P : Nat → Value → Prop} {S : List (Addr × Obj) → Prop} (F : Fr g L s₁.heap m) (N : News g L s₁.heap news) (hsz : n ≤ sizeLine)
    (Z : ∃ o fp St, ItSrc prog w A g L s₁ news xv n P S o fp St) (R : ∀ hh, CompRest prog w A g L m env elt x scope cl { s₁ with heap := hh } S P (FinE g L m { s₁ with heap := hh } Q) n 0 [] news) :
    LcE prog w A env elt x scope cl Q xv s₁ := ⟨g, L, m, n, P, S, news, F, N, hsz, Z, R⟩
theorem LcA.intro {elt : Expr} {x y : Str} {scope : Scope} {cl : List (Str × Addr)} {Q : Flow → Shared → Prop} {xv : Value} {n : Nat} {P : Nat → Value → Prop} {S : List (Addr × Obj) → Prop} (hL : env.locals = L) (F : Fr g L s₁.heap m) (N : News g L s₁.heap news) (hsz : n ≤ sizeLine)
    (Z : ∃ o fp St, ItSrc prog w A g L s₁ news xv n P S o fp St) (R : ∀ hh, CompRest prog w A g L m env elt x scope cl { s₁ with heap := hh } S P (FinA g L m { s₁ with heap := hh } y Q) n 0 [] news) :
    LcA prog w A env elt x scope cl y Q xv s₁ := by subst hL; exact ⟨g, m, n, P, S, news, F, N, hsz, Z, R⟩
theorem lc_eval {elt iter : Expr} {x : Str} {px : Pos} {scope : Scope} {cl : List (Str × Addr)} {pos : Pos} {Q : Value → Shared → Prop} {E : Value → Shared → Prop}
    (hclos : closureFor scope env = pure cl) (hcell : ∀ y ∈ scope.names, y.2 ≠ .cell) (hkind : scope.kind = .function)
    (hnames : ∀ y ∈ scope.names, y.2 = .local → scope.names.lookup y.1 = some .local) (hx : scope.names.lookup x = some .local)
    (hs : ∀ x, foldedSetIterable iter env x = pure x)
    (h : wpAny (model prog w) A (eval iter env) (LcE prog w A env elt x scope cl Q) E s) :
    wpAny (model prog w) A (eval (.ListComp elt [⟨.Name x px, iter, [], 0⟩] scope pos) env) Q E s := by
  rw [eval_ListComp]
  refine wpAny_comprehension_free (use := none) rfl hs hclos hkind hnames (wpAny_mono h (fun xv s₁ h₁ => ?_) fun _ _ e => e)
  obtain ⟨g, L, m, n, P, S, news, F, N, hsz, ⟨o, fp, St, Z⟩, R⟩ := h₁
  refine Z.go _ _ ?_
  have up : ∀ b o', s₁.heap.get? b = some o' → (s₁.heap.push o).get? b = some o' := fun b o' e => Heap.get?_push_of_some _ e
  refine block_U Z.W hsz Z.live Z.keeps hcell hkind hx Z.st Z.fps (F.keeps up) (N.grown up) (Nat.ne_of_lt F.ns.lt) (next_is_new F) (fun p hp => Nat.ne_of_lt (Heap.lt_size (N p hp).1)) Z.s0 (R _) ?_
  intro D C h' tk m' ys news' F' N' o1 hn hC₀ hD₀ hCL hDL hCD offC fin
  refine ⟨m', hn, fun h'' hs'' => fin D h'' tk (F'.change hs'' hCL hC₀) (fun p hp => ?_) o1⟩
  refine ⟨hs''.extBut _ _ ?_ (N' p hp).1, (N' p hp).2⟩
  rcases List.mem_cons.mp hp with e | hp
  · rw [e]; exact Ne.symm hCD
  · exact offC p hp
theorem lc_assign {elt iter : Expr} {x y : Str} {px py : Pos} {scope : Scope} {cl : List (Str × Addr)} {pos spos : Pos} {Q : Flow → Shared → Prop} {E : Value → Shared → Prop}
    (hsw : swapsWith (.ListComp elt [⟨.Name x px, iter, [], 0⟩] scope pos) (some (.Name y py)) spos.line env = pure true)
    (hclos : closureFor scope env = pure cl) (hcell : ∀ z ∈ scope.names, z.2 ≠ .cell) (hkind : scope.kind = .function)
    (hnames : ∀ z ∈ scope.names, z.2 = .local → scope.names.lookup z.1 = some .local) (hx : scope.names.lookup x = some .local)
    (hy : env.kindOf y = some .local) (hp : (env.scope.kind == .class || (env.scope.kind == .module && env.locals != env.globals)) = false)
    (hs : ∀ x, foldedSetIterable iter env x = pure x)
    (h : wpAny (model prog w) A (eval iter env) (LcA prog w A env elt x scope cl y Q) E s) :
    wpAny (model prog w) A (exec (.Assign [.Name y py] (.ListComp elt [⟨.Name x px, iter, [], 0⟩] scope pos) spos) env) Q E s := by
  rw [exec_Assign_Name_used _ _ _ _ hsw]
  refine wpAny_bind (wpAny_standAt (wpAny_bind ?_))
  show wpAny _ A (do let _ ← comprehension (.ListComp elt [⟨.Name x px, iter, [], 0⟩] scope pos) scope env _ (newList []) false (eval iter env) (some (assign (.Name y py) env))) _ _ s
  refine wpAny_bind (wpAny_mono (wpAny_comprehension_free (use := some (assign (.Name y py) env)) (Q := fun _ s' => Q .next s') rfl hs hclos hkind hnames
    (wpAny_mono h (fun xv s₁ h₁ => ?_) fun _ _ e => e)) (fun _ s' hq => wpAny_pure (wpAny_pure hq)) fun _ _ e => e)
  obtain ⟨g, m, n, P, S, news, F, N, hsz, ⟨o, fp, St, Z⟩, R⟩ := h₁
  refine Z.go _ _ ?_
  have up : ∀ b o', s₁.heap.get? b = some o' → (s₁.heap.push o).get? b = some o' := fun b o' e => Heap.get?_push_of_some _ e
  refine block_U Z.W hsz Z.live Z.keeps hcell hkind hx Z.st Z.fps (F.keeps up) (N.grown up) (Nat.ne_of_lt F.ns.lt) (next_is_new F) (fun p hp => Nat.ne_of_lt (Heap.lt_size (N p hp).1)) Z.s0 (R _) ?_
  intro D C h' tk m' ys news' F' N' o1 hn hC₀ hD₀ hCL hDL hCD offC fin
  show wpAny _ A (assign (.Name y py) env (.ref D)) _ _ _
  refine wpAny_assign_Name (wpAny_storeName_local hy F'.ns (fun h₂ hn₂ hs₂ => ?_) hp)
  have hL₀ : g.get? env.locals = none := Heap.get?_none_of_le F'.above
  have F₂ : Fr g env.locals h₂ (fun z => if z = y then some (.ref D) else m z) := ⟨hn₂, fun b o e => hs₂.extBut b o (fun q => by rw [q, hL₀] at e; cases e) (F'.keep b o e), F'.above⟩
  refine ⟨m', hn.sameBut hs₂ hCL, fun h'' hs'' => fin D h'' _ (F₂.change hs'' hCL hC₀) (fun p hp => ?_) o1⟩
  have z : h₂.get? p.1 = some p.2 := hs₂.extBut _ _ (N' p hp).2.1 (N' p hp).1
  refine ⟨hs''.extBut _ _ ?_ z, (N' p hp).2⟩
  rcases List.mem_cons.mp hp with e | hp
  · rw [e]; exact Ne.symm hCD
  · exact offC p hp
/-- how a quiet element ends -/
noncomputable def QEnd (g : Heap) (L : Addr) (m : Str → Option Value) (s : Shared) (T : Value → Prop) (pre : List (Addr × Obj)) (y : Value) (s₂ : Shared) : Prop :=
  T y ∧ ∃ h' tk', s₂ = { s with heap := h', toks := tk' } ∧ Fr g L h' m ∧ ∃ nn, News g L h' nn ∧ InAll nn pre
theorem QEnd.intro {T : Value → Prop} {pre nn : List (Addr × Obj)} {y : Value} {h' : Heap} {tk' : Nat} (F : Fr g L h' m) (N : News g L h' nn) (hin : InAll nn pre) (hT : T y) : QEnd g L m s T pre y { s with heap := h', toks := tk' } :=
  ⟨hT, h', tk', rfl, F, nn, N, hin⟩
/-- a quiet element: what stands stays, and it is told by T -/
theorem comp_quiet {elt : Expr} {x : Str} {scope : Scope} {cl : List (Str × Addr)} {S : List (Addr × Obj) → Prop} {P : Nat → Value → Prop} {Fin : List Value → List (Addr × Obj) → Prop} (n : Nat) (T : Nat → Value → Prop) (news : List (Addr × Obj)) (hS : S news)
    (turn : ∀ i v I oI C oC D oD m₂ h tk, i < n → P i v → NsObj oC m₂ → m₂ x = some v → Fr g L h m → News g L h ((I, oI) :: (C, oC) :: (D, oD) :: news) → Off3 I C D news → ((@Ne Nat I C) ∧ (@Ne Nat I D) ∧ (@Ne Nat C D)) →
      wpAny (model prog w) A (eval elt (compEnvC scope cl C env)) (QEnd g L m s (T i) ((I, oI) :: (C, oC) :: (D, oD) :: news)) noE { s with heap := h, toks := tk })
    (fin : ∀ ys, ys.length = n → (∀ i y, ys[i]? = some y → T i y) → Fin ys news) :
    CompRest prog w A g L m env elt x scope cl s S P Fin n 0 [] news := by
  refine comp_inv n (fun i ys nw => nw = news ∧ ys.length = i ∧ ∀ j y, ys[j]? = some y → T j y) ?_ ?_ n 0 [] news (by omega) ⟨rfl, rfl, fun j y h => by simp at h⟩
  · rintro i ys nw v I oI C oC D m₂ h tk hi ⟨rfl, hlen, hT⟩ hP hC hx F N off ne
    refine wpAny_mono (turn i v I oI C oC D _ m₂ h tk hi hP hC hx F N off ne) (fun y s₂ h₂ => ?_) fun _ _ x => x
    obtain ⟨hTi, h', tk', rfl, F', nn, N', hin⟩ := h₂
    refine CompEnd.intro F' N' nw hin.mem off hS ⟨rfl, by simp [hlen], fun j z hj => ?_⟩
    rcases Nat.lt_or_ge j ys.length with q | q
    · rw [List.getElem?_append_left q] at hj
      exact hT j z hj
    · rw [List.getElem?_append_right q] at hj
      have : j - ys.length = 0 := by
        cases e : j - ys.length with
        | zero => rfl
        | succ k => rw [e] at hj; simp at hj
      rw [this] at hj
      simp at hj
      have hji : j = i := by omega
      rw [hji, ← hj]; exact hTi
  · rintro ys nw ⟨rfl, hlen, hT⟩
    exact fin ys hlen hT
end

end partComp2
section partText2
open PySem PySem.W PyProof.Rows PySem.Calls PyProof.Rows.LCg
/-- a text by its signs -/
noncomputable def T (l : List Nat) : Str := ⟨l.toArray⟩
theorem T_cps (l : List Nat) : (T l).cps = l.toArray := rfl
theorem T_append (a b : List Nat) : T a ++ T b = T (a ++ b) := by
  apply Str.ext'
  rw [Str.cps_append]; simp [T]
theorem T_len (l : List Nat) : (T l).length = l.length := by simp [T, Str.length]
theorem sign_ne {c d : Nat} {s : Str} (h : ¬ c = d) (e : s = ⟨#[d]⟩) : ((⟨#[c]⟩ : Str) == s) = false := by
  rw [e]
  have : (⟨#[c]⟩ : Str) ≠ ⟨#[d]⟩ := fun q => h (by have := congrArg Str.cps q; simpa using this)
  simpa using this
theorem T_inj {a b : List Nat} (h : T a = T b) : a = b := by
  have := congrArg (fun x : Str => x.cps.toList) h
  simpa [T] using this
theorem foldl_glue : ∀ (xs : List (List Nat)) (acc : Array Nat), (xs.map T).foldl (fun (acc : Array Nat) (p : Str) => acc ++ (#[] : Array Nat) ++ p.cps) acc = acc ++ xs.flatten.toArray
  | [], acc => by simp
  | x :: r, acc => by
    rw [List.map_cons, List.foldl_cons, foldl_glue r]
    simp [T]
theorem join_T (xs : List (List Nat)) : Txt.join (PySem.Str.ofString "") (xs.map T) = T xs.flatten := by
  have he : PySem.Str.ofString "" = ⟨#[]⟩ := by decide +kernel
  rw [he]
  cases xs with
  | nil => rfl
  | cons x r =>
    show (⟨(r.map T).foldl (fun (acc : Array Nat) (p : Str) => acc ++ (#[] : Array Nat) ++ p.cps) (T x).cps⟩ : Str) = _
    rw [foldl_glue]
    simp [T]
theorem strs_of : ∀ {ys : List Value} {xs : List Str}, ys.length = xs.length → (∀ (i : Nat) y, ys[i]? = some y → ∃ x t, xs[i]? = some x ∧ y = Value.str x t) → StrsAre ys xs
  | [], [], _, _ => .nil
  | y :: ys, x :: xs, hl, h => by
    obtain ⟨x', t, e1, e2⟩ := h 0 y rfl
    cases e1
    rw [e2]
    exact .cons _ _ (strs_of (by simpa using hl) fun i y hy => by simpa using h (i + 1) y (by simpa using hy))
  | [], _ :: _, hl, _ => by simp at hl
  | _ :: _, [], hl, _ => by simp at hl
theorem sum_len_T (xs : List (List Nat)) : ((xs.map T).map (·.length)).sum = xs.flatten.length := by
  induction xs with
  | nil => rfl
  | cons x r ih => simp only [List.map_cons, List.sum_cons, T_len, ih, List.flatten_cons, List.length_append]
theorem item_int : ∀ {ws : List Value} {ns : List Int}, IntsAre ws ns → ∀ {i : Nat} {v : Value}, ws[i]? = some v → ∃ n t, ns[i]? = some n ∧ v = Value.int n t ∧ n ∈ ns := by
  intro ws ns h
  induction h with
  | nil => intro i v hv; exact nomatch hv
  | cons n t _ ih =>
    intro i v hv
    cases i with
    | zero => exact ⟨n, t, rfl, (Option.some.inj hv).symm, .head _⟩
    | succ i =>
      obtain ⟨n, t, e1, e2, e3⟩ := ih hv
      exact ⟨n, t, e1, e2, .tail _ e3⟩
theorem item_str : ∀ {ws : List Value} {ns : List Str}, StrsAre ws ns → ∀ {i : Nat} {v : Value}, ws[i]? = some v → ∃ n t, ns[i]? = some n ∧ v = Value.str n t ∧ n ∈ ns := by
  intro ws ns h
  induction h with
  | nil => intro i v hv; exact nomatch hv
  | cons n t _ ih =>
    intro i v hv
    cases i with
    | zero => exact ⟨n, t, rfl, (Option.some.inj hv).symm, .head _⟩
    | succ i =>
      obtain ⟨n, t, e1, e2, e3⟩ := ih hv
      exact ⟨n, t, e1, e2, .tail _ e3⟩
noncomputable def mx3 (a b c : Int) : Int := if b > a then (if c > b then c else b) else (if c > a then c else a)
noncomputable def mn3 (a b c : Int) : Int := if b < a then (if c < b then c else b) else (if c < a then c else a)
section
variable {prog : Program} {w : World} {A : Around} {E : Value → Shared → Prop} {g h : Heap} {L : Addr} {m : Str → Option Value} {news : List (Addr × Obj)} {gn : Array GenState} {dr : Drawn} {tk : Nat} {os : OsState}
theorem m_max3 {a b c : Int} {t u x : Tok} {Q : Value → Shared → Prop} (F : Fr g L h m) (N : News g L h news) (hh : A.handled = none)
    (k : ∀ h' tk t', Fr g L h' m → News g L h' news → Q (.int (mx3 a b c) t') ⟨h', gn, dr, tk, os⟩) : wpAny (model prog w) A (call (.builtin "max") [.int a t, .int b u, .int c x]) Q E ⟨h, gn, dr, tk, os⟩ := by
  refine max_three_ints hh fun h' tk' hk => ?_
  have e : ∃ t', (if b > a then (if c > b then Value.int c x else .int b u) else (if c > a then .int c x else .int a t)) = .int (mx3 a b c) t' := by
    unfold mx3
    by_cases h1 : b > a
    · by_cases h2 : c > b
      · exact ⟨x, by simp [h1, h2]⟩
      · exact ⟨u, by simp [h1, h2]⟩
    · by_cases h2 : c > a
      · exact ⟨x, by simp [h1, h2]⟩
      · exact ⟨t, by simp [h1, h2]⟩
  obtain ⟨t', e⟩ := e
  rw [e]
  exact k h' tk' t' (F.keeps hk) (N.grown hk)
theorem m_min3 {a b c : Int} {t u x : Tok} {Q : Value → Shared → Prop} (F : Fr g L h m) (N : News g L h news) (hh : A.handled = none)
    (k : ∀ h' tk t', Fr g L h' m → News g L h' news → Q (.int (mn3 a b c) t') ⟨h', gn, dr, tk, os⟩) : wpAny (model prog w) A (call (.builtin "min") [.int a t, .int b u, .int c x]) Q E ⟨h, gn, dr, tk, os⟩ := by
  refine min_three_ints hh fun h' tk' hk => ?_
  have e : ∃ t', (if b < a then (if c < b then Value.int c x else .int b u) else (if c < a then .int c x else .int a t)) = .int (mn3 a b c) t' := by
    unfold mn3
    by_cases h1 : b < a
    · by_cases h2 : c < b
      · exact ⟨x, by simp [h1, h2]⟩
      · exact ⟨u, by simp [h1, h2]⟩
    · by_cases h2 : c < a
      · exact ⟨x, by simp [h1, h2]⟩
      · exact ⟨t, by simp [h1, h2]⟩
  obtain ⟨t', e⟩ := e
  rw [e]
  exact k h' tk' t' (F.keeps hk) (N.grown hk)
end
/-- what the call found fresh -/
theorem fresh_of {wr : List Addr} {s : Shared} {g h : Heap} {L l : Addr} {o : Obj} {news : List (Addr × Obj)} (kg : Kp wr s.heap g) (N : News g L h news) (hm : (l, o) ∈ news) (hl : l ∉ wr) : s.heap.get? l = none := by
  cases q : s.heap.get? l with
  | none => rfl
  | some o' => have := kg l o' hl q; rw [News.fresh N hm] at this; cases this
end partText2
section partProg1
noncomputable abbrev prog := PySem.Challenge.pw_pg0230_01
/-! small facts, proved once (omega's proofs are long) -/
theorem six_fin : ∀ n : Fin 6, (n.val : Int) = 0 ∨ (n.val : Int) = 1 ∨ (n.val : Int) = 2 ∨ (n.val : Int) = 3 ∨ (n.val : Int) = 4 ∨ (n.val : Int) = 5 := by decide
theorem nat_of {k : Int} {n : Nat} (h0 : 0 ≤ k) (h : k < n) : ∃ m : Fin n, (m.val : Int) = k := ⟨⟨k.toNat, (Int.toNat_lt h0).mpr h⟩, Int.toNat_of_nonneg h0⟩
theorem six_int {k : Int} (h0 : 0 ≤ k) (h6 : k < 6) : k = 0 ∨ k = 1 ∨ k = 2 ∨ k = 3 ∨ k = 4 ∨ k = 5 := by
  obtain ⟨m, rfl⟩ := nat_of (n := 6) h0 h6
  exact six_fin m
theorem four_fin : ∀ n : Fin 4, (n.val : Int) = 0 ∨ (n.val : Int) = 1 ∨ (n.val : Int) = 2 ∨ (n.val : Int) = 3 := by decide
theorem four_int {k : Int} (h0 : 0 ≤ k) (h4 : k < 4) : k = 0 ∨ k = 1 ∨ k = 2 ∨ k = 3 := by
  obtain ⟨m, rfl⟩ := nat_of (n := 4) h0 h4
  exact four_fin m
theorem three_nat : ∀ {i : Nat}, i < 3 → i = 0 ∨ i = 1 ∨ i = 2
  | 0, _ => .inl rfl
  | 1, _ => .inr (.inl rfl)
  | 2, _ => .inr (.inr rfl)
theorem back_one (n : Nat) : ((-1 : Int) + ((n + 1 : Nat) : Int)).toNat = n := by
  rw [Int.natCast_succ, Int.add_comm, Int.add_neg_cancel_right]
  rfl
theorem thrice (i : Nat) : ((0 : Int) + (i : Int) * 3).toNat = 3 * i := by
  rw [Int.zero_add, Int.mul_comm]
  rfl
theorem thrice_one (i : Nat) : ((0 : Int) + (i : Int) * 3 + 1).toNat = 3 * i + 1 := by
  rw [Int.zero_add, Int.mul_comm]
  rfl
theorem trice (i j : Nat) : ((3 : Int) * (0 + (i : Int)) + (j : Int)).toNat = 3 * i + j := by
  rw [Int.zero_add]
  rfl

end partProg1
section partCell2
open PySem PySem.W PyProof.Rows PySem.Calls
section
variable {prog : Program} {w : World} {A : Around} {s : Shared} {K : Frag} {R : Result → Shared → Prop}
  {name qual : Str} {params : Arguments} {body : List Stmt} {scope : Scope} {dV kV doc pm cdv ct oc : Value} {an od : Option Addr} {osl : Array (Option Value)} {f : Addr} {args : Args} {binds rb : List (Str × Value)} {cl : List (Str × Addr)} {fo : Obj}
/-- a call of a function that owns cells -/
theorem enter_cells (mu : List (Addr × Obj)) (G : Gd K (hideAll s.heap (mu.map (·.1)))) (N : ∀ p ∈ mu, s.heap.get? p.1 = some p.2)
    (ho : K.lookup f = some ⟨oc, od, .func (fnX name qual params body scope [] dV kV doc pm an cdv ct), osl⟩) (hcd : codeIn K cdv qual = true) (hroom : A.depth < recursionLimit)
    (hbind : BindsTo s (fnX name qual params body scope [] dV kV doc pm an cdv ct) args binds)
    (hkind : ∀ n, ∀ x ∈ binds, scope.names.lookup x.1 = some .local ∨ (scope.names.lookup x.1 = some .cell ∧ ((cellsFrom n scope.names []).lookup x.1).isSome = true))
    (hnd : ((cellsFrom 0 scope.names []).map (·.1)).Nodup) (hbl : ∀ L', bindL (envOfC qual scope L' f cdv).kindOf binds (fun _ => none) = over rb fun _ => none)
    (h : ∀ g L' h₁ tk cells p loose mean mg mb, Kp (mu.map (·.1)) s.heap g → Fr g L' h₁ (over rb fun _ => none) → News g L' h₁ (cells ++ mu) → K.In g → Top p loose mean mg mb g → (∀ p ∈ mu, p.1 < L') → s.heap.objs.size ≤ L' →
      CellsAre (bindC (envOfC qual scope L' f cdv).kindOf binds fun _ => none) (cellsFrom (L' + 1) scope.names []) cells →
      wpAny (model prog w) (A.deeper (envOfC qual scope L' f cdv)) (execs body (envOfC qual scope L' f cdv))
        (fun fl s' => R (.ok (.ret (match fl with | .ret v => v | _ => .none))) s') (fun _ _ => False) { s with heap := h₁, toks := tk })
    (hco : scope.isCoroutine = false) (hgen : scope.isGenerator = false) (hk : scope.kind = .function) :
    codeAny (model prog w) A (.call (.ref f) args) R s := by
  obtain ⟨X, p, loose, mean, mg, mb, T⟩ := G
  have un : ∀ b o, (hideAll s.heap (mu.map (·.1))).get? b = some o → s.heap.get? b = some o := fun b o e => of_hideAll _ e
  refine codeAny_call_function hroom (un _ _ (X _ _ ho)) rfl hco hgen rfl ((codeRec_of X hcd).keeps un) (hbind _ _ _ _ ?_)
  refine wpAny_newFunctionEnv_cells hk (hkind _) fun env' he s' x => ?_
  subst he
  refine ⟨(T.nolimit.keeps un).keeps x.toInCall.keep, codeAny_func ?_⟩
  obtain ⟨h₁, tk, rfl, _⟩ := x.done
  have hk₁ := x.toInCall.keep
  obtain ⟨cells, NC, Y⟩ := Cl.news (h₀ := s.heap) (Nat.le_refl _) fun n c hm => ⟨x.cell n c (lookup_of_mem_nodup (cellsFrom_names scope.names 0 (s.heap.objs.size + 1) [] [] rfl ▸ hnd) hm), x.above n c hm⟩
  refine wpAny_mono (h (hideAll s.heap (mu.map (·.1))) s.heap.objs.size h₁ tk cells p loose mean mg mb (fun b o n e => hideAll_get _ e n) ⟨by rw [← hbl s.heap.objs.size]; exact x.toInCall.ns, fun b o e => hk₁ b o (un b o e), Nat.le_of_eq (hideAll_size _ _)⟩
    (fun p hp => ?_) X T (fun p hp => Heap.lt_size (N p hp)) (Nat.le_refl _) Y) (fun _ _ y => y) fun _ _ y => y.elim
  rcases List.mem_append.mp hp with hp | hp
  · refine ⟨(NC p hp).1, (NC p hp).2.1, ?_⟩
    cases q : (hideAll s.heap (mu.map (·.1))).get? p.1 with
    | none => rfl
    | some o => have := of_hideAll _ q; rw [(NC p hp).2.2] at this; cases this
  · exact ⟨hk₁ _ _ (N p hp), Nat.ne_of_lt (Heap.lt_size (N p hp)), hideAll_none _ (List.mem_map_of_mem hp)⟩
/-- a call of a function object that closes over cells -/
theorem enter_clos (mu : List (Addr × Obj)) (G : Gd K (hideAll s.heap (mu.map (·.1)))) (N : ∀ p ∈ mu, s.heap.get? p.1 = some p.2)
    (ho : s.heap.get? f = some fo) (hd : fo.data = .func (fnX name qual params body scope cl dV kV doc pm an cdv ct)) (hcd : s.heap.CodeRec cdv qual) (hroom : A.depth < recursionLimit)
    (hbind : BindsTo s (fnX name qual params body scope cl dV kV doc pm an cdv ct) args binds) (hloc : ∀ y ∈ binds, scope.names.lookup y.1 = some .local) (hrb : binds.reverse = rb)
    (h : ∀ g L' h₁ p loose mean mg mb, Kp (mu.map (·.1)) s.heap g → Fr g L' h₁ (over rb fun _ => none) → News g L' h₁ mu → K.In g → Top p loose mean mg mb g → (∀ p ∈ mu, p.1 < L') → s.heap.objs.size ≤ L' →
      wpAny (model prog w) (A.deeper (envX qual scope L' f cdv cl)) (execs body (envX qual scope L' f cdv cl))
        (fun fl s' => R (.ok (.ret (match fl with | .ret v => v | _ => .none))) s') (fun _ _ => False) { s with heap := h₁, toks := s.toks + binds.length })
    (hcell : ∀ x ∈ scope.names, x.2 ≠ .cell) (hco : scope.isCoroutine = false) (hgen : scope.isGenerator = false) (hk : scope.kind = .function) :
    codeAny (model prog w) A (.call (.ref f) args) R s := by
  obtain ⟨X, p, loose, mean, mg, mb, T⟩ := G
  have un : ∀ b o, (hideAll s.heap (mu.map (·.1))).get? b = some o → s.heap.get? b = some o := fun b o e => of_hideAll _ e
  refine codeAny_call_def (fd := fnX name qual params body scope cl dV kV doc pm an cdv ct) (body := body) (binds := binds) hroom ho hd (T.nolimit.keeps un) hcd rfl hbind hcell hloc (fun h₁ hns hk₁ => ?_) hco hgen hk
  refine wpAny_mono (h (hideAll s.heap (mu.map (·.1))) s.heap.objs.size h₁ p loose mean mg mb (fun b o n e => hideAll_get _ e n) ⟨by rw [← hrb, ← lookup_over]; exact hns, fun b o e => hk₁ b o (un b o e), Nat.le_of_eq (hideAll_size _ _)⟩
    (fun p hp => ⟨hk₁ _ _ (N p hp), Nat.ne_of_lt (Heap.lt_size (N p hp)), hideAll_none _ (List.mem_map_of_mem hp)⟩) X T (fun p hp => Heap.lt_size (N p hp)) (Nat.le_refl _)) (fun _ _ y => y) fun _ _ y => y.elim
end
/-- the top's objects stand for a callee, the ledger's own laid aside -/
theorem gd_of {K : Frag} {g h : Heap} {L : Addr} {m : Str → Option Value} {news : List (Addr × Obj)} {p : Program} {loose : List Str} {mean : ExcName → Option Value} {mg mb : Str → Option Value}
    (X : K.In g) (T : Top p loose mean mg mb g) (F : Fr g L h m) (N : News g L h news) (wr : List Addr) (hw : ∀ a ∈ wr, ∃ o, (a, o) ∈ news) : Gd K (hideAll h wr) :=
  Gd.keeps ⟨X, p, loose, mean, mg, mb, T⟩ (stays_hide F N wr hw)
theorem gd_of0 {K : Frag} {g h : Heap} {L : Addr} {m : Str → Option Value} {p : Program} {loose : List Str} {mean : ExcName → Option Value} {mg mb : Str → Option Value}
    (X : K.In g) (T : Top p loose mean mg mb g) (F : Fr g L h m) : Gd K h := Gd.keeps ⟨X, p, loose, mean, mg, mb, T⟩ F.keep
noncomputable def HasAll (news : List (Addr × Obj)) : List Addr → Prop
  | [] => True
  | a :: r => (∃ o, (a, o) ∈ news) ∧ HasAll news r
theorem HasAll.mem {news : List (Addr × Obj)} : ∀ {wr : List Addr}, HasAll news wr → ∀ a ∈ wr, ∃ o, (a, o) ∈ news
  | [], _, _, hm => nomatch hm
  | b :: r, h, a, hm => by
    rcases List.mem_cons.mp hm with e | hm
    · rw [e]; exact h.1
    · exact HasAll.mem h.2 a hm
/-- what a call of a spec leaves of the ledger -/
noncomputable def Aft (wr : List Addr) (news : List (Addr × Obj)) (h h' : Heap) : List (Addr × Obj) → Prop
  | [] => True
  | p :: r => ((p ∈ news ∧ p.1 ∉ wr) ∨ (h'.get? p.1 = some p.2 ∧ ((∃ o, (p.1, o) ∈ news) ∨ h.get? p.1 = none))) ∧ Aft wr news h h' r
theorem Aft.mem {wr : List Addr} {news : List (Addr × Obj)} {h h' : Heap} : ∀ {l : List (Addr × Obj)}, Aft wr news h h' l → ∀ p ∈ l, (p ∈ news ∧ p.1 ∉ wr) ∨ (h'.get? p.1 = some p.2 ∧ ((∃ o, (p.1, o) ∈ news) ∨ h.get? p.1 = none))
  | [], _, _, hm => nomatch hm
  | q :: r, h, p, hm => by
    rcases List.mem_cons.mp hm with e | hm
    · rw [e]; exact h.1
    · exact Aft.mem h.2 p hm
theorem afterL {b h h' : Heap} {L : Addr} {m : Str → Option Value} {news : List (Addr × Obj)} {wr : List Addr} (news' : List (Addr × Obj)) (F : Fr b L h m) (N : News b L h news) (k : Kp wr h h') (hw : HasAll news wr) (hn : Aft wr news h h' news') : Fr b L h' m ∧ News b L h' news' := by
  obtain ⟨⟨oL, es, ep, hL, r⟩, ke, ab⟩ := F
  have nL : L ∉ wr := fun q => by obtain ⟨o, hm⟩ := hw.mem L q; exact (N _ hm).2.1 rfl
  refine ⟨⟨⟨oL, es, ep, k _ _ nL hL, r⟩, fun c o e => k _ _ (fun q => ?_) (ke c o e), ab⟩, fun p hp => ?_⟩
  · obtain ⟨o', hm⟩ := hw.mem c q
    have := (N _ hm).2.2
    rw [this] at e; cases e
  · rcases hn.mem p hp with ⟨h1, h2⟩ | ⟨h1, ⟨o, h2⟩ | h2⟩
    · exact ⟨k _ _ h2 (N p h1).1, (N p h1).2⟩
    · exact ⟨h1, (N _ h2).2⟩
    · refine ⟨h1, (fun e => by rw [e, hL] at h2; cases h2), ?_⟩
      cases q : b.get? p.1 with
      | none => rfl
      | some o => rw [ke _ _ q] at h2; cases h2
/-- the two newest of the ledger were written, and ex is new -/
theorem after_two {b h h' : Heap} {L x d : Addr} {m : Str → Option Value} {o1 o2 n1 n2 : Obj} {rest : List (Addr × Obj)} (ex : List (Addr × Obj)) (F : Fr b L h m) (N : News b L h ((x, o1) :: (d, o2) :: rest)) (k : Kp [x, d] h h')
    (e1 : h'.get? x = some n1) (e2 : h'.get? d = some n2) (hrest : ∀ p ∈ rest, p.1 < d) (hxd : d < x) (hex : ∀ p ∈ ex, h'.get? p.1 = some p.2 ∧ h.get? p.1 = none) : Fr b L h' m ∧ News b L h' ((x, n1) :: (d, n2) :: (ex ++ rest)) := by
  refine afterL _ F N k ⟨⟨_, .head _⟩, ⟨_, .tail _ (.head _)⟩, trivial⟩ ⟨.inr ⟨e1, .inl ⟨_, .head _⟩⟩, .inr ⟨e2, .inl ⟨_, .tail _ (.head _)⟩⟩, ?_⟩
  have go : ∀ l : List (Addr × Obj), (∀ p ∈ l, p ∈ ex ∨ p ∈ rest) → Aft [x, d] ((x, o1) :: (d, o2) :: rest) h h' l := by
    intro l
    induction l with
    | nil => intro _; trivial
    | cons p r ih =>
      intro hl
      refine ⟨?_, ih fun q hq => hl q (.tail _ hq)⟩
      rcases hl p (.head _) with hp | hp
      · exact .inr ⟨(hex p hp).1, .inr (hex p hp).2⟩
      · refine .inl ⟨.tail _ (.tail _ hp), fun q => ?_⟩
        have hlt := hrest p hp
        rcases List.mem_cons.mp q with e | q
        · rw [e] at hlt; exact absurd (Nat.lt_trans hlt hxd) (Nat.lt_irrefl _)
        · rw [List.mem_singleton.mp q] at hlt; exact absurd hlt (Nat.lt_irrefl _)
  exact go _ fun p hp => List.mem_append.mp hp
noncomputable def NAll (h : Heap) : List (Addr × Obj) → Prop
  | [] => True
  | p :: r => h.get? p.1 = some p.2 ∧ NAll h r
theorem NAll.mem {h : Heap} : ∀ {l : List (Addr × Obj)}, NAll h l → ∀ p ∈ l, h.get? p.1 = some p.2
  | [], _, _, hm => nomatch hm
  | q :: r, x, p, hm => by
    rcases List.mem_cons.mp hm with e | hm
    · rw [e]; exact x.1
    · exact NAll.mem x.2 p hm
theorem after_none {b h h' : Heap} {L : Addr} {m : Str → Option Value} {news : List (Addr × Obj)} (F : Fr b L h m) (N : News b L h news) (k : Kp [] h h') : Fr b L h' m ∧ News b L h' news :=
  ⟨F.keeps fun b o e => k b o (fun q => nomatch q) e, fun p hp => ⟨k _ _ (fun q => nomatch q) (N p hp).1, (N p hp).2⟩⟩
theorem after_one {b h h' : Heap} {L l : Addr} {o : Obj} {m : Str → Option Value} {news : List (Addr × Obj)} (F : Fr b L h m) (N : News b L h news) (k : Kp [] h h') (e : h'.get? l = some o) (e0 : h.get? l = none) : Fr b L h' m ∧ News b L h' ((l, o) :: news) := by
  obtain ⟨F', N'⟩ := after_none F N k
  refine ⟨F', fun p hp => ?_⟩
  rcases List.mem_cons.mp hp with q | hp
  · rw [q]
    refine ⟨e, fun q => ?_, ?_⟩
    · obtain ⟨⟨oL, es, ep, hL, r⟩, ke, ab⟩ := F
      dsimp only at q
      rw [q, hL] at e0; cases e0
    · cases z : b.get? l with
      | none => rfl
      | some o => rw [F.keep _ _ z] at e0; cases e0
  · exact N' p hp
/-- the callee's address is new to the ledger -/
theorem new_ne {b h : Heap} {L l a : Addr} {o : Obj} {news : List (Addr × Obj)} (N : News b L h news) (e0 : h.get? l = none) (hm : (a, o) ∈ news) : l ≠ a := fun q => by
  have := (N _ hm).1
  rw [← q, e0] at this; cases this

end partCell2
section partCall2
open PySem PySem.W PyProof.Rows PySem.Calls
theorem slot_cit_next : Slot "callable_iterator" "__next__" "callable_iterator.__next__" :=
  .of (owner := "callable_iterator") (n := "__next__") (by rw [typeLookup_type, builtinLookup_eq_fast]; kernel_rfl) (by decide +kernel) (by decide +kernel) (by decide +kernel)
    (by first | exact .inl (by decide +kernel) | exact .inr (by decide +kernel)) (by rw [isSubtype_type]; kernel_rfl)
theorem slot_cit_iter : Slot "callable_iterator" "__iter__" "callable_iterator.__iter__" :=
  .of (owner := "callable_iterator") (n := "__iter__") (by rw [typeLookup_type, builtinLookup_eq_fast]; kernel_rfl) (by decide +kernel) (by decide +kernel) (by decide +kernel)
    (by first | exact .inl (by decide +kernel) | exact .inr (by decide +kernel)) (by rw [isSubtype_type]; kernel_rfl)
theorem entry_cit_iter : entryFor table "callable_iterator.__iter__" = some Builtin.«dict_keyiterator.__iter__» :=
  entryFor_alias (id' := "dict_keyiterator.__iter__") (by kernel_rfl) (by first | rfl | decide +kernel | (unfold String.splitOn; simp +decide [String.splitOnAux])) (by decide +kernel) (by kernel_rfl)
theorem entry_cit_next : entryFor table "callable_iterator.__next__" = some Builtin.«callable_iterator.__next__» := entryFor_of_tree (by kernel_rfl)
theorem owner_cit : Manifest.owners.lookup (String.ofList ['r', 'o', 't', 'a', 'r', 'e', 't', 'i', '_', 'e', 'l', 'b', 'a', 'l', 'l', 'a', 'c'].reverse) = some Manifest.sig_callable_iterator := by kernel_rfl
theorem args_cit_next (a : Value) : argsOk "callable_iterator.__next__" ⟨[a], []⟩ := by
  unfold argsOk; rw [signature?_of (id := "callable_iterator.__next__") (n := ['_', '_', 't', 'x', 'e', 'n', '_', '_']) (o := ['r', 'o', 't', 'a', 'r', 'e', 't', 'i', '_', 'e', 'l', 'b', 'a', 'l', 'l', 'a', 'c']) (by kernel_rfl) owner_cit]; kernel_rfl
theorem args_cit_iter (a : Value) : argsOk "callable_iterator.__iter__" ⟨[a], []⟩ := by
  unfold argsOk; rw [signature?_of (id := "callable_iterator.__iter__") (n := ['_', '_', 'r', 'e', 't', 'i', '_', '_']) (o := ['r', 'o', 't', 'a', 'r', 'e', 't', 'i', '_', 'e', 'l', 'b', 'a', 'l', 'l', 'a', 'c']) (by kernel_rfl) owner_cit]; kernel_rfl
noncomputable abbrev citObj (f snt b : Value) : Obj := { cls := .type "callable_iterator", data := .fields #[f, snt, b] }
section
variable {prog : Program} {w : World} {A : Around} {E : Value → Shared → Prop} {s : Shared}
theorem wpAny_callBorrowed {f : Value} {pos : List Value} {Q : Value → Shared → Prop}
    (hc : codeAny M A (.call f ⟨pos, []⟩) (fun r s' => match r with | .ok (.ret v) => Q v s' | .ok _ => False | .error e => E e s') s) : wpAny M A (callBorrowed f pos) Q E s := fun Γ p hΓ => by
  unfold callBorrowed
  rw [Sem.wp_call]
  refine wpCode_mono (fun r s' h => ?_) (hc _ p rfl (hΓ.enter _ none p (by intro x; cases x)))
  cases r with
  | error e => exact h
  | ok f =>
    cases f with
    | ret v => exact h
    | _ => exact h.elim
theorem iter_call {I : Addr} {f snt b : Value} {Q : Value → Shared → Prop} (hI : s.heap.get? I = some (citObj f snt b)) (h : Q (.ref I) s) : wpAny (model prog w) A (pyIter (.ref I)) Q E s := by
  have hT : s.TypeIs (.ref I) "callable_iterator" := ⟨_, hI, rfl⟩
  refine wpAny_pyIter_slot hT slot_cit_iter (wpAny_call_entry slot_cit_iter hT entry_cit_iter ?_ (args_cit_iter _))
  show wpAny _ _ (ret (.ref I)) _ _ s
  exact wpAny_pure ⟨_, rfl, "callable_iterator", _, hT, slot_cit_next.lookup, h⟩
theorem borrows {B f : Addr} {x : Value} {o : Obj} {fd : FuncData} {Q : Bool → Shared → Prop} (hB : s.heap.get? B = some (methodObj (.ref f) x)) (hf : s.heap.get? f = some o) (hd : o.data = .func fd) (h : Q true s) :
    wpAny (model prog w) A (borrowsExactly (.ref B)) Q E s := by
  unfold borrowsExactly
  refine wpAny_bind (wpAny_load hB ?_)
  show wpAny _ _ (load f >>= _) _ _ s
  refine wpAny_bind (wpAny_load hf ?_)
  rw [hd]
  exact wpAny_pure h
theorem next_call {I B f x : Addr} {o : Obj} {fd : FuncData} {snt : Str} {ts : Tok} {Q : Option Value → Shared → Prop}
    (hI : s.heap.get? I = some (citObj (.ref B) (.str snt ts) (.bool false))) (hB : s.heap.get? B = some (methodObj (.ref f) (.ref x))) (hf : s.heap.get? f = some o) (hfd : o.data = .func fd) (hh : A.handled = none)
    (hcall : codeAny (model prog w) A.in1 (.call (.ref f) ⟨[.ref x], []⟩) (fun r s' => ∃ y t, r = .ok (.ret (.str y t)) ∧ s'.heap.get? I = some (citObj (.ref B) (.str snt ts) (.bool false)) ∧ s'.heap.get? B = some (methodObj (.ref f) (.ref x)) ∧ s'.heap.get? f = some o ∧
      if snt = y then (∀ h', h'.get? I = some (citObj .none .none (.bool true)) → Heap.ExtBut I s'.heap h' → Q none { s' with heap := h' }) else Q (some (.str y t)) s') s) :
    wpAny (model prog w) A (pyNext (.ref I)) Q E s := by
  have hT : s.TypeIs (.ref I) "callable_iterator" := ⟨_, hI, rfl⟩
  unfold pyNext
  refine wpAny_bind (wpAny_attempt (wpAny_callSpecial?_slot (name := Str.ofString "__next__") hT slot_cit_next
    (wpAny_call_entry slot_cit_next hT entry_cit_next ?_ (args_cit_next _))))
  show wpAny _ _ (field (.ref I) 2 >>= _) _ _ s
  refine wpAny_bind (wpAny_field hI rfl (x := .bool false) rfl ?_)
  show wpAny _ _ (field (.ref I) 0 >>= _) _ _ s
  refine wpAny_bind (wpAny_field hI rfl (x := .ref B) rfl ?_)
  refine wpAny_bind (wpAny_attempt ?_)
  unfold callOutOfASlot
  refine wpAny_bind (borrows hB hf hfd ?_)
  refine wpAny_callBorrowed ?_
  refine ks_codeAny_call_bound hB ?_
  refine codeAny_mono hcall fun r s1 h1 => ?_
  obtain ⟨y, t, rfl, hI1, hB1, hf1, hQ⟩ := h1
  show wpAny _ _ (field (.ref I) 2 >>= _) _ _ s1
  refine wpAny_bind (wpAny_field hI1 rfl (x := .bool false) rfl ?_)
  show wpAny _ _ (field (.ref I) 1 >>= _) _ _ s1
  refine wpAny_bind (wpAny_field hI1 rfl (x := .str snt ts) rfl ?_)
  refine wpAny_bind (wpAny_holding (eqBool_str ?_))
  by_cases he : snt = y
  · rw [if_pos he] at hQ
    have : (snt == y) = true := by simpa using he
    rw [this]
    refine wpAny_bind (wpAny_rule ?_)
    refine wpAny_bind ?_
    show wpAny _ _ (field (.ref I) 0 >>= _) _ _ s1
    refine wpAny_bind (wpAny_field hI1 rfl (x := .ref B) rfl ?_)
    refine wpAny_bind ?_
    show wpAny _ _ (borrowsExactly (.ref B) >>= _) _ _ s1
    refine wpAny_bind (borrows hB1 hf1 hfd ?_)
    refine wpAny_pure ?_
    refine wpAny_bind (wpAny_setField_rec hI1 (by simp) fun h2 hI2 sb2 => ?_)
    refine wpAny_bind (wpAny_setField_rec (s := { s1 with heap := h2 }) hI2 (by simp) fun h3 hI3 sb3 => ?_)
    refine wpAny_setField_rec (s := { s1 with heap := h3 }) hI3 (by simp) fun h4 hI4 sb4 => ?_
    show wpAny _ _ (newExc (.type "StopIteration") [] >>= _) _ _ _
    refine wpAny_bind ?_
    simp only [newExc, newTuple]
    refine wpAny_bind (wpAny_newObj_type ?_ (by size_fits))
    refine wpAny_bind (m := firstArgMember _ _) (wpAny_of_eq (a := Value.none) (by first | rfl | (simp only [firstArgMember]; rfl)) ?_)
    refine wpAny_newObj_type ?_ (by size_fits)
    simp only [raiseNew]
    refine wpAny_bind (wpAny_handled ?_)
    rw [show A.in1.handled = none from hh]
    refine wpAny_bind (wpAny_pure (wpAny_throw ?_))
    refine wpAny_bind (wpAny_isInstance (T := "StopIteration") (b := true) ⟨_, Heap.get?_push_size _ rfl, rfl⟩ isSubtype_stop ?_)
    exact wpAny_pure (hQ _ (Heap.get?_push_of_some _ (Heap.get?_push_of_some _ hI4)) (((sb2.trans (sb3.trans sb4)).extBut.push _).push _))
  · rw [if_neg he] at hQ
    have : (snt == y) = false := by simpa using he
    rw [this]
    refine wpAny_bind (wpAny_pure (wpAny_pure ⟨_, rfl, wpAny_pure hQ⟩))
theorem next_ended {I : Addr} {Q : Option Value → Shared → Prop} (hI : s.heap.get? I = some (citObj .none .none (.bool true))) (hh : A.handled = none)
    (hQ : ∀ h', (∀ b o, s.heap.get? b = some o → h'.get? b = some o) → Q none { s with heap := h' }) : wpAny (model prog w) A (pyNext (.ref I)) Q E s := by
  have hT : s.TypeIs (.ref I) "callable_iterator" := ⟨_, hI, rfl⟩
  unfold pyNext
  refine wpAny_bind (wpAny_attempt (wpAny_callSpecial?_slot (name := Str.ofString "__next__") hT slot_cit_next
    (wpAny_call_entry slot_cit_next hT entry_cit_next ?_ (args_cit_next _))))
  show wpAny _ _ (field (.ref I) 2 >>= _) _ _ s
  refine wpAny_bind (wpAny_field hI rfl (x := .bool true) rfl ?_)
  refine wpAny_bind (wpAny_rule ?_)
  refine wpAny_bind ?_
  show wpAny _ _ (newExc (.type "StopIteration") [] >>= _) _ _ _
  refine wpAny_bind ?_
  simp only [newExc, newTuple]
  refine wpAny_bind (wpAny_newObj_type ?_ (by size_fits))
  refine wpAny_bind (m := firstArgMember _ _) (wpAny_of_eq (a := Value.none) (by first | rfl | (simp only [firstArgMember]; rfl)) ?_)
  refine wpAny_newObj_type ?_ (by size_fits)
  simp only [raiseNew]
  refine wpAny_bind (wpAny_handled ?_)
  rw [show A.in1.handled = none from hh]
  refine wpAny_bind (wpAny_pure (wpAny_throw ?_))
  refine wpAny_bind (wpAny_isInstance (T := "StopIteration") (b := true) ⟨_, Heap.get?_push_size _ rfl, rfl⟩ isSubtype_stop ?_)
  exact wpAny_pure (hQ _ fun b o e => Heap.get?_push_of_some _ (Heap.get?_push_of_some _ e))
/-- how a turn ends: the loop goes on with J below k, or leaves -/
noncomputable def TurnJ (J : Nat → Shared → Prop) (k : Nat) (Q : Flow → Shared → Prop) (fl : Flow) (s' : Shared) : Prop :=
  match fl with
  | .ret v => Q (.ret v) s'
  | .brk => Q .next s'
  | _ => ∃ m, m < k ∧ J m s'
theorem TurnJ.goes {J : Nat → Shared → Prop} {k m : Nat} {Q : Flow → Shared → Prop} {fl : Flow} {s' : Shared} (hf : fl = .next ∨ fl = .cont) (hm : m < k) (h : J m s') : TurnJ J k Q fl s' := by
  rcases hf with rfl | rfl <;> exact ⟨m, hm, h⟩
theorem for_J {target : Expr} {it : Value} {body : List Stmt} {env : Env} {Q : Flow → Shared → Prop} (J : Nat → Shared → Prop) (n : Nat) (hJ : J n s)
    (turn : ∀ k s', J k s' → wpAny (model prog w) A (pyNext it) (fun r s₁ => match r with | none => Q .next s₁ | some v => wpAny (model prog w) A (assign target env v) (fun _ s₂ => wpAny (model prog w) A (execs body env) (TurnJ J k Q) noE s₂) noE s₁) noE s')
    (ht : ∀ v, letOwnedTupleGo target it v = pure () := by intro _; rfl) :
    codeAny (model prog w) A (.forLoop target it body [] env) (fun r s' => match r with | .ok f => Q f s' | .error e => E e s') s := by
  refine codeAny_forLoop J (fun k s' h => ?_) n hJ ht
  refine wpAny_noE (wpAny_mono (turn k s' h) (fun r s₁ h₁ => ?_) fun _ _ x => x)
  cases r with
  | none => exact wpAny_execs_nil h₁
  | some v =>
    refine wpAny_noE (wpAny_mono h₁ (fun _ s₂ h₂ => wpAny_noE (wpAny_mono h₂ (fun f s₃ h₃ => ?_) fun _ _ x => x)) fun _ _ x => x)
    cases f with
    | ret v => exact h₃
    | brk => exact h₃
    | next => exact h₃
    | cont => exact h₃
theorem look_method_call : typeLookup (.type "method") "__call__" = pure (some (.builtin "method.__call__")) := by rw [typeLookup_type, builtinLookup_eq_fast]; kernel_rfl
theorem iter2 {B : Addr} {f x snt : Value} {Q : Value → Shared → Prop} (hB : s.heap.get? B = some (methodObj f x)) (h : Q (.ref s.heap.objs.size) { s with heap := s.heap.push (citObj (.ref B) snt (.bool false)) }) :
    wpAny (model prog w) A (call (.builtin "iter") [.ref B, snt]) Q E s := by
  refine call_function_entry (by decide +kernel) (by decide +kernel) (entryFor_of_fast (by kernel_rfl)) (b := Builtin.«iter») (by unfold argsOk; kernel_rfl) ?_
  unfold Builtin.«iter»
  refine wpAny_bind (m := someArgs "iter" 1 2 _) (wpAny_of_eq (a := [Value.ref B, snt]) (by first | rfl | kernel_rfl!) ?_)
  refine wpAny_bind (wpAny_specialOf (T := "method") ⟨_, hB, rfl⟩ look_method_call ?_)
  refine wpAny_bind (wpAny_rule ?_)
  exact wpAny_bind (wpAny_newObj_type (wpAny_pure ⟨_, rfl, h⟩))
end

end partCall2
section partSl2
open PySem PySem.W PyProof.Rows PySem.Calls PyProof.Rows.LCg PySem.Spec
theorem slice_T_from {l : List Nat} {i : Int} (h0 : 0 ≤ i) (h1 : i ≤ l.length) : Txt.slice (T l) (some i) none = T (l.drop i.toNat) := by
  rw [slice_from_eq (b := (l.length : Int)) h0 (by rw [T_len]; exact h1) (by rw [T_len])]
  unfold T
  simp only [List.toList_toArray]
  rw [List.take_of_length_le (by rw [List.length_drop]; omega)]
theorem slice_T_ss {l : List Nat} {i j : Int} (h0 : 0 ≤ i) (h1 : i ≤ j) (h2 : j ≤ l.length) : Txt.slice (T l) (some i) (some j) = T ((l.drop i.toNat).take (j - i).toNat) := by
  have h := slice_closes (x := T l) (i := i) (j := j) ⟨h0, h1, by simpa [T] using h2⟩
  rw [beq_iff_eq.mp h]
  unfold T
  simp only [List.toList_toArray]
theorem m_lenT {prog : Program} {w : World} {A : Around} {E : Value → Shared → Prop} {s : Shared} {l : List Nat} {t : Tok} {Q : Value → Shared → Prop} (h63 : l.length ≤ 1000000) (h : Q (.int l.length (s.toks + 1)) { s with toks := s.toks + 1 + 1 }) :
    wpAny (model prog w) A (call (.builtin "len") [.str (T l) t]) Q E s :=
  SBL.len (by rw [T_len]; omega) (by rw [T_len]; exact h)
theorem it_rangeC {prog : Program} {w : World} {A : Around} {s : Shared} {env : Env} {g : Heap} {target : Expr} {body : List Stmt} {r : Addr} {a b c : Int} {t u v : Tok} {n : Nat} {Q : Flow → Shared → Prop} {E E' : Value → Shared → Prop} (J : Nat → List (Str × Value) → List (Addr × Obj) → Prop)
    (hh : A.handled = none) {L : Addr} (hL : env.locals = L) (hr : IsRange s.heap r a b c t u v) (hsm : Builtin.Range.small a b c = true) (hn : Builtin.Range.rangeSize a b c = (n : Int))
    (lo₀ : List (Str × Value)) (nw₀ : List (Addr × Obj)) {m₀ : Str → Option Value} {news₀ : List (Addr × Obj)}
    (F : Fr g L s.heap m₀) (N : News g L s.heap news₀) (hat : AllAt m₀ lo₀) (hin : InAll news₀ nw₀) (hj : J 0 lo₀ nw₀)
    (turn : ∀ i t I h tk m lo nw oI, i < n → J i lo nw → Fr g L h (over lo m) → News g L h ((I, oI) :: nw) → AllNe I nw → oI.cls = .type "range_iterator" →
      wpAny (model prog w) A (assign target env (.int (a + (i : Int) * c) t)) (fun _ s₂ => wpAny (model prog w) A (execs body env) (Turned g L I oI (J (i + 1)) s Q) noE s₂) noE { s with heap := h, toks := tk })
    (done : ∀ h tk m lo nw, J n lo nw → Fr g L h (over lo m) → News g L h nw → Q .next { s with heap := h, toks := tk })
    (ht : ∀ it v, letOwnedTupleGo target it v = pure () := by intro _ _; rfl) :
    wpAny (model prog w) A (pyIter (.ref r)) (fun it s₂ => codeAny (model prog w) A (.forLoop target it body [] env) (fun r s' => match r with | .ok f => Q f s' | .error e => E' e s') s₂) E s := by
  subst hL
  refine wpAny_pyIter_range hr hsm ?_
  have up : ∀ {o' : Obj} b o, s.heap.get? b = some o → (s.heap.push o').get? b = some o := fun b o e => Heap.get?_push_of_some _ e
  have W : Walks prog w A s.heap.objs.size [s.heap.objs.size] [s.heap.objs.size] n (fun i v => ∃ t, v = .int (a + (i : Int) * c) t) (fun i h => IsRangeIter h s.heap.objs.size (a + (i : Nat) * c) ((n : Int) - (i : Nat)) c) := Walks.range hh _ a c n
  refine for_walk (s := { s with heap := _ }) (g := g) J W (fun i h st => ⟨_, st⟩) (fun b hb => .inl (List.mem_singleton.mp hb)) (lo₀ := lo₀) (nw₀ := nw₀) (m₀ := m₀) (by show IsRangeIter _ _ _ _ _; rw [hn]; simpa using Heap.get?_push_size _ rfl)
    (by rw [over_self hat]; exact F.keeps up) ((kst_newsOf N hin.mem).grown up) (fun p hp => Nat.ne_of_lt (Heap.lt_size (N p (hin.mem p hp)).1)) (Ne.symm (Nat.ne_of_lt F.ns.lt)) (next_is_new F) hj ?_ ?_ (fun v => ht _ v)
  · rintro i v h tk m lo nw oI hi ⟨t, rfl⟩ hJ F₁ N₁ hne st
    refine turn i t _ h tk m lo nw oI hi hJ F₁ N₁ (AllNe.of hne) ?_
    have h1 : h.get? _ = some _ := st
    have h2 := (N₁ _ (.head _)).1
    rw [h1] at h2
    exact congrArg Obj.cls (Option.some.inj h2.symm)
  · exact fun h tk m lo nw hJ F₁ N₁ => done h tk m lo nw hJ F₁ N₁
end partSl2
section partCompT2
open PySem PySem.W PyProof.Rows PySem.Calls PyProof.Rows.LCg
section
variable {prog : Program} {w : World} {A : Around} {s s₁ : Shared} {env : Env} {g : Heap} {L : Addr} {m : Str → Option Value} {news : List (Addr × Obj)}
noncomputable def LcET (prog : Program) (w : World) (A : Around) (env : Env) (ct elt : Expr) (x : Str) (scope : Scope) (cl : List (Str × Addr)) (Q : Value → Shared → Prop) (xv : Value) (s₁ : Shared) : Prop :=
  ∃ g L m n P S news, Fr g L s₁.heap m ∧ News g L s₁.heap news ∧ n ≤ sizeLine ∧ (∃ o fp St, ItSrc prog w A g L s₁ news xv n P S o fp St) ∧
    ∀ hh, LCt.CompRestT prog w A g L m env ct elt x scope cl { s₁ with heap := hh } S P (FinE g L m { s₁ with heap := hh } Q) n 0 [] news
theorem LcET.intro {ct elt : Expr} {x : Str} {scope : Scope} {cl : List (Str × Addr)} {Q : Value → Shared → Prop} {xv : Value} {n : Nat} {P : Nat → Value → Prop} {S : List (Addr × Obj) → Prop} (F : Fr g L s₁.heap m) (N : News g L s₁.heap news) (hsz : n ≤ sizeLine)
    (Z : ∃ o fp St, ItSrc prog w A g L s₁ news xv n P S o fp St) (R : ∀ hh, LCt.CompRestT prog w A g L m env ct elt x scope cl { s₁ with heap := hh } S P (FinE g L m { s₁ with heap := hh } Q) n 0 [] news) :
    LcET prog w A env ct elt x scope cl Q xv s₁ := ⟨g, L, m, n, P, S, news, F, N, hsz, Z, R⟩
theorem lc_evalT {ct elt iter : Expr} {x : Str} {px : Pos} {scope : Scope} {cl : List (Str × Addr)} {pos : Pos} {Q : Value → Shared → Prop} {E : Value → Shared → Prop}
    (hclos : closureFor scope env = pure cl) (hcell : ∀ y ∈ scope.names, y.2 ≠ .cell) (hkind : scope.kind = .function)
    (hnames : ∀ y ∈ scope.names, y.2 = .local → scope.names.lookup y.1 = some .local) (hx : scope.names.lookup x = some .local)
    (hs : ∀ x, foldedSetIterable iter env x = pure x)
    (h : wpAny (model prog w) A (eval iter env) (LcET prog w A env ct elt x scope cl Q) E s) :
    wpAny (model prog w) A (eval (.ListComp elt [⟨.Name x px, iter, [ct], 0⟩] scope pos) env) Q E s := by
  rw [eval_ListComp]
  refine wpAny_comprehension_free (use := none) rfl hs hclos hkind hnames (wpAny_mono h (fun xv s₁ h₁ => ?_) fun _ _ e => e)
  obtain ⟨g, L, m, n, P, S, news, F, N, hsz, ⟨o, fp, St, Z⟩, R⟩ := h₁
  refine Z.go _ _ ?_
  have up : ∀ b o', s₁.heap.get? b = some o' → (s₁.heap.push o).get? b = some o' := fun b o' e => Heap.get?_push_of_some _ e
  refine LCt.block_T Z.W hsz Z.live Z.keeps hcell hkind hx Z.st Z.fps (F.keeps up) (N.grown up) (Nat.ne_of_lt F.ns.lt) (next_is_new F) (fun p hp => Nat.ne_of_lt (Heap.lt_size (N p hp).1)) Z.s0 (R _) ?_
  intro D C h' tk m' ys news' F' N' o1 hn hC₀ hD₀ hCL hDL hCD offC fin
  refine ⟨m', hn, fun h'' hs'' => fin D h'' tk (F'.change hs'' hCL hC₀) (fun p hp => ?_) o1⟩
  refine ⟨hs''.extBut _ _ ?_ (N' p hp).1, (N' p hp).2⟩
  rcases List.mem_cons.mp hp with e | hp
  · rw [e]; exact Ne.symm hCD
  · exact offC p hp
/-- the items that passed the test -/
noncomputable def Sel (q : Nat → Bool) (T : Nat → Value → Prop) : Nat → List Value → Prop
  | 0, ys => ys = []
  | n + 1, ys => if q n then ∃ ys' y, ys = ys' ++ [y] ∧ Sel q T n ys' ∧ T n y else Sel q T n ys
/-- how a test ends -/
noncomputable def TestEnd (q : Bool) (a b : Shared → Prop) (ok : Bool) (s' : Shared) : Prop := ok = q ∧ if ok = true then a s' else b s'
theorem comp_quietT {ct elt : Expr} {x : Str} {scope : Scope} {cl : List (Str × Addr)} {S : List (Addr × Obj) → Prop} {P : Nat → Value → Prop} {Fin : List Value → List (Addr × Obj) → Prop} (n : Nat) (q : Nat → Bool) (T : Nat → Value → Prop) (news : List (Addr × Obj)) (hS : S news)
    (turn : ∀ i v I oI C oC D oD m₂ h tk, i < n → P i v → NsObj oC m₂ → m₂ x = some v → Fr g L h m → News g L h ((I, oI) :: (C, oC) :: (D, oD) :: news) → Off3 I C D news → ((@Ne Nat I C) ∧ (@Ne Nat I D) ∧ (@Ne Nat C D)) →
      wpAny (model prog w) A (isTrue ct (compEnvC scope cl C env) (eval ct (compEnvC scope cl C env))) (TestEnd (q i)
        (fun s' => wpAny (model prog w) A (eval elt (compEnvC scope cl C env)) (QEnd g L m s (T i) ((I, oI) :: (C, oC) :: (D, oD) :: news)) noE s')
        (QEnd g L m s (fun _ => True) ((I, oI) :: (C, oC) :: (D, oD) :: news) Value.none)) noE { s with heap := h, toks := tk })
    (fin : ∀ ys, Sel q T n ys → Fin ys news) :
    LCt.CompRestT prog w A g L m env ct elt x scope cl s S P Fin n 0 [] news := by
  have go : ∀ k i ys, i + k = n → Sel q T i ys → LCt.CompRestT prog w A g L m env ct elt x scope cl s S P Fin k i ys news := by
    intro k
    induction k with
    | zero =>
      intro i ys hk hs
      have : i = n := by omega
      subst this
      exact LCt.CompRestT.zero (fin ys hs)
    | succ k ih =>
      intro i ys hk hs
      refine LCt.CompRestT.succ fun v I oI C oC D m₂ h tk E' hP hC hx F N off ne => ?_
      refine wpAny_noE (wpAny_mono (turn i v I oI C oC D _ m₂ h tk (by omega) hP hC hx F N off ne) (fun ok s₂ h₂ => ?_) fun _ _ x => x)
      obtain ⟨hq, h₂⟩ := h₂
      by_cases hok : ok = true
      · rw [if_pos hok] at h₂ ⊢
        refine wpAny_noE (wpAny_mono h₂ (fun y s₃ h₃ => ?_) fun _ _ x => x)
        obtain ⟨hT, h', tk', rfl, F', nn, N', hin⟩ := h₃
        refine CompEnd.intro F' N' news hin.mem off hS (ih (i + 1) (ys ++ [y]) (by omega) ?_)
        show if q i then _ else _
        rw [← hq, hok]
        exact ⟨ys, y, rfl, hs, hT⟩
      · rw [if_neg hok] at h₂ ⊢
        obtain ⟨_, h', tk', rfl, F', nn, N', hin⟩ := h₂
        refine CompEnd.intro F' N' news hin.mem off hS (ih (i + 1) ys (by omega) ?_)
        show if q i then _ else _
        rw [← hq]
        have : ok = false := by simpa using hok
        rw [this]
        exact hs
  exact go n 0 [] (by omega) rfl
end

end partCompT2
section walks
open PySem.Calls
local macro_rules | `(tactic| walk_at "m_look") => `(tactic| first | exact over_here | (refine over_there (by decide +kernel) ?_; walk_at "m_look"))
local macro_rules | `(tactic| walk_at "m_put") => `(tactic| first | exact PutL.nil | exact PutL.here | (apply PutL.there; (focus decide +kernel); walk_at "m_put"))
local macro_rules | `(tactic| walk_at "eval Name") => `(tactic| (k_dflt (apply m_ld; k_asm; exact rfl; exact rfl; decide +kernel; walk_at "m_look"; k_whole)))
local macro_rules | `(tactic| walk_at "loadName") => `(tactic| (k_dflt (apply m_ldn; k_asm; exact rfl; exact rfl; walk_at "m_look"; k_whole)))
local macro_rules | `(tactic| walk_at "storeName") => `(tactic| (k_dflt (apply m_st; k_asm; k_asm; exact rfl; exact rfl; walk_at "m_put"; k_whole; intro h' F' N'; (try k_sweep))))
local macro_rules | `(tactic| walk_at "execs cons") => `(tactic| with_reducible refine execs_C ?_)
local macro_rules | `(tactic| walk_at "execs cons Assign cons") => `(tactic| with_reducible refine execs_C ?_)
local macro_rules | `(tactic| walk_at "Cont") => `(tactic| first | with_reducible refine cont_next ?_ | with_reducible refine cont_ret ?_ | with_reducible refine cont_brk ?_ | with_reducible refine cont_cont ?_)
local macro_rules | `(tactic| walk_at "execs nil") => `(tactic| with_reducible refine wpAny_execs_nil ?_)
local macro_rules | `(tactic| walk_at "exec For Name Call cons nil") => `(tactic| refine stop_at ?_)
local macro_rules | `(tactic| walk_at "exec For Name Name cons nil") => `(tactic| refine stop_at ?_)
local macro_rules | `(tactic| walk_at "exec For Name Attribute cons nil") => `(tactic| refine stop_at ?_)
local macro_rules | `(tactic| walk_at "exec For Name Subscript cons nil") => `(tactic| refine stop_at ?_)
local macro_rules | `(tactic| walk_at "exec While Compare cons nil") => `(tactic| refine stop_at ?_)
local macro_rules | `(tactic| walk_at "exec While BoolOp cons nil") => `(tactic| refine stop_at ?_)
local macro_rules | `(tactic| walk_at "call builtin:list.append") => `(tactic| (k_dflt (apply append_K; k_asm; k_asm; k_upd; rotate_left; (first | (simp only [sizeLine_eq]; omega) | (simp only [sizeLine_eq, List.size_toArray, List.length_append, List.length_cons, List.length_nil, Array.size_push]; omega) | (simp [sizeLine_eq]; done) | (simp [sizeLine_eq]; omega)); k_whole; intro h' F' N'; (try k_sweep))))
local macro_rules | `(tactic| walk_at "eval ListComp") => `(tactic| refine stop_at ?_)
local macro_rules | `(tactic| walk_at "exec Assign cons ListComp") => `(tactic| refine stop_at ?_)
local macro_rules | `(tactic| walk_at "exec If") => `(tactic| with_reducible refine wpAny_If ?_)
local macro_rules | `(tactic| walk_at "compareOp NotEq ref ref") => `(tactic| refine stop_at ?_)
local macro_rules | `(tactic| walk_at "inplaceOp Add str str") => `(tactic| ((refine SBL.iadd (hsz := ?mzh) ?_); (case mzh => assumption); intro _ _ _))
local macro_rules | `(tactic| walk_at "binaryOp Add str str") => `(tactic| ((refine SBL.add (hsz := ?mzh) ?_); (case mzh => assumption); intro _ _ _))
local macro_rules | `(tactic| walk_at "subscriptTail Name Slice str ref") => `(tactic| refine stop_at ?_)
local macro_rules | `(tactic| k_ne) => `(tactic| (refine neN ?_; (try dsimp only); first | with_reducible assumption | (refine Ne.symm ?_; with_reducible assumption) | omega))
theorem off_Kind1 : (1 : Nat) = 1 := by
  w_top off
  first | walk1 | rfl
section partKind1
noncomputable def halvesQ (k : Int) : Int := if k = 0 then 2 else if k = 1 then 0 else if k = 2 then 0 else if k = 3 then 1 else if k = 4 then 2 else if k = 5 then 2 else 0
noncomputable def valueQ (k : Int) : Int := if k = 0 then 0 else if k = 1 then 8 else if k = 2 then 16 else if k = 3 then 16 else if k = 4 then 8 else if k = 5 then 16 else 1
noncomputable def kindQ (x : Int) : Int := Int.fmod (Int.fdiv x 32) 7
theorem kindQ_b (x : Int) : 0 ≤ kindQ x ∧ kindQ x < 7 := ⟨Int.fmod_nonneg_of_pos _ (by decide), Int.fmod_lt_of_pos _ (by decide)⟩
theorem halvesQ_b (k : Int) : 0 ≤ halvesQ k ∧ halvesQ k ≤ 2 := by unfold halvesQ; (repeat' split) <;> decide
theorem valueQ_b (k : Int) : 0 ≤ valueQ k ∧ valueQ k ≤ 16 := by unfold valueQ; (repeat' split) <;> decide
theorem seven_fin : ∀ n : Fin 7, (n.val : Int) = 0 ∨ (n.val : Int) = 1 ∨ (n.val : Int) = 2 ∨ (n.val : Int) = 3 ∨ (n.val : Int) = 4 ∨ (n.val : Int) = 5 ∨ (n.val : Int) = 6 := by decide
theorem seven {k : Int} (h0 : 0 ≤ k) (h7 : k < 7) : k = 0 ∨ k = 1 ∨ k = 2 ∨ k = 3 ∨ k = 4 ∨ k = 5 ∨ k = 6 := by
  obtain ⟨m, rfl⟩ := nat_of (n := 7) h0 h7
  exact seven_fin m
noncomputable abbrev tup2 (a b : Value) : Obj := { cls := .type "tuple", data := .seq #[a, b] }
local macro_rules | `(tactic| walk_at "subscriptTail List") => `(tactic| refine stop_at ?_)
theorem kind_spec (w : World) (s : Shared) (R : Result → Shared → Prop) (G : Gd (K0 w.params) s.heap) (x : Int) (tx : Tok) (hx : 0 ≤ x ∧ x < 1000000)
  (hret : ∀ (D : Addr) (h' : Heap) (tk' : Nat) (th tv : Tok), Kp [] s.heap h' → s.heap.get? D = none → h'.get? D = some (tup2 (.int (halvesQ (kindQ x)) th) (.int (valueQ (kindQ x)) tv)) → R (.ok (.ret (.ref D))) { s with heap := h', toks := tk' }) :
  codeAny (model prog w) (lv 6) (.call (.ref 157) ⟨[.int x tx], []⟩) R s := by
  have _kf : (PySem.Challenge.rw_pg0230_01, K0) = (PySem.Challenge.rw_pg0230_01, K0) := by k_fill; rfl
  refine' enter_plain (K := K0 w.params) (binds := [((PySem.Str.ofString "x"), .int x tx)]) (rb := [((PySem.Str.ofString "x"), .int x tx)]) [] G (fun _ h => nomatch h) ?ho ?hcd ?hroom ?hbind ?hloc ?hrb ?_ ?c1 ?c2 ?c3 ?c4
  (( (case ho => k_is); (case hcd => k_is); (case hroom => k_room); (case hbind => exact BindsTo.of_eq rfl); (case hloc => exact locs rfl); (case hrb => exact rfl); (case c1 => decide); (case c2 => exact rfl); (case c3 => exact rfl); (case c4 => exact rfl); k_whole))
  intro g L h0 pp loose mean mg mb kg F0 N0 X TT l1 l2
  obtain ⟨k1, k2⟩ := kindQ_b x
  obtain ⟨x1, x2⟩ := hx
  k_steps
  unfold Stop
  rename News _ _ _ _ => NL
  have e : Int.fmod (Int.fdiv x 32) 7 = kindQ x := rfl
  rw [e]
  clear e
  generalize kindQ x = kk at *
  have hk := seven k1 k2
  rcases hk with rfl | rfl | rfl | rfl | rfl | rfl | rfl
  all_goals refine kba_turn (value' := PySem.Expr.Name (PySem.Str.ofString "_") ⟨0, 0, 0, 0⟩) (fun _ => rfl) ?_
  all_goals refine kim_list (l := [_, _, _, _, _, _, _]) NL (.head _) rfl rfl (by decide) (by decide) rfl ?_
  all_goals k_steps
  all_goals dsimp only
  all_goals exact hret _ _ _ _ _ (kg.fr (by assumption)) (fresh_of kg NL (by k_mem) (fun q => nomatch q)) (NL.get (by k_mem))

end partKind1
theorem off_Chan1 : (1 : Nat) = 1 := by
  w_top off
  first | walk1 | rfl
section partChan1
local macro_rules | `(tactic| walk_at "call ref") => `(tactic| refine stop_at ?_)
noncomputable def aheadQ (x k : Int) : Int := Int.fmod (3 * x - 16 * k) 48
noncomputable def nearQ (x k : Int) : Int :=
  let a := aheadQ x k
  let m := 16 - if 48 - a < a then 48 - a else a
  let c := if m < 8 then m else 8
  if c > 0 then c else 0
noncomputable def chanQ (x k : Int) : Int := valueQ (kindQ x) - Int.fdiv (valueQ (kindQ x) * halvesQ (kindQ x) * (8 - nearQ x k)) 16
noncomputable def chansQ (x : Int) : List Int := [chanQ x 0, chanQ x 1, chanQ x 2]
theorem chansQ_take (x : Int) : ∀ i : Nat, i < 3 → (chansQ x)[i]? = some (chanQ x (i : Int))
  | 0, _ => rfl
  | 1, _ => rfl
  | 2, _ => rfl
  | n + 3, h => by omega
theorem intsAre_snoc {n : Int} {t : Tok} : ∀ {vs : List Value} {ns : List Int}, IntsAre vs ns → IntsAre (vs ++ [.int n t]) (ns ++ [n]) := by
  intro vs ns h
  induction h with
  | nil => exact .cons _ _ .nil
  | cons _ _ _ ih => exact .cons _ _ ih
theorem intsAre_snoc_eq {e n : Int} {t : Tok} {vs : List Value} {ns : List Int} (h : IntsAre vs ns) (he : e = n) : IntsAre (vs ++ [.int e t]) (ns ++ [n]) := he ▸ intsAre_snoc h
theorem channels_spec (w : World) (s : Shared) (R : Result → Shared → Prop) (G : Gd (K0 w.params) s.heap) (x : Int) (tx : Tok) (hx : 0 ≤ x ∧ x < 1000000)
  (hret : ∀ (l : Addr) (h' : Heap) (tk' n : Nat) (vs : List Value), Kp [] s.heap h' → s.heap.get? l = none → h'.get? l = some (listOf vs.toArray n) → IntsAre vs (chansQ x) → R (.ok (.ret (.ref l))) { s with heap := h', toks := tk' }) :
  codeAny (model prog w) (lv 9) (.call (.ref 164) ⟨[.int x tx], []⟩) R s := by
  have _kf : (PySem.Challenge.rw_pg0230_01, K0) = (PySem.Challenge.rw_pg0230_01, K0) := by k_fill; rfl
  refine' enter_plain (K := K0 w.params) (binds := [((PySem.Str.ofString "x"), .int x tx)]) (rb := [((PySem.Str.ofString "x"), .int x tx)]) [] G (fun _ h => nomatch h) ?ho ?hcd ?hroom ?hbind ?hloc ?hrb ?_ ?c1 ?c2 ?c3 ?c4
  (( (case ho => k_is); (case hcd => k_is); (case hroom => k_room); (case hbind => exact BindsTo.of_eq rfl); (case hloc => exact locs rfl); (case hrb => exact rfl); (case c1 => decide); (case c2 => exact rfl); (case c3 => exact rfl); (case c4 => exact rfl); k_whole))
  intro g L h0 pp loose mean mg mb kg F0 N0 X TT l1 l2
  k_steps
  unfold Stop
  refine wpAny_call ?_
  refine' codeAny_at (A' := lv 6) ?a1 ?a2 ?a3 ?a4 ?a5 ?_
  (case a1 => exact rfl); (case a2 => (exact Nat.le_of_ble_eq_true rfl)); (case a3 => (exact Nat.le_of_ble_eq_true rfl)); (case a4 => exact rfl); (case a5 => exact rfl)
  with_reducible refine' kind_spec w _ _ (gd_of0 X TT F0) x tx hx ?_
  intro D h5 tk5 th tv K5 e1 e2
  obtain ⟨F5, N5⟩ := after_one F0 N0 K5 e2 e1
  obtain ⟨b1, b2⟩ := halvesQ_b (kindQ x)
  obtain ⟨b3, b4⟩ := valueQ_b (kindQ x)
  generalize hhv : halvesQ (kindQ x) = hv at *
  generalize hvv : valueQ (kindQ x) = vv at *
  clear F0 N0
  obtain ⟨x1, x2⟩ := hx
  k_steps
  ((unfold Stop; (with_reducible refine for_stmt ?_ ?mzhs); (case mzhs => intro _; rfl)))
  k_steps
  rename IsRange _ _ _ _ _ _ _ _ => hr
  refine it_range (L := L) (fun i lo nw => ∃ l vs n, lo = [((PySem.Str.ofString "x"), .int x tx), ((PySem.Str.ofString "halves"), .int hv th), ((PySem.Str.ofString "value"), .int vv tv), ((PySem.Str.ofString "due"), .ref l)] ∧ nw = [(l, listOf vs.toArray n)] ∧ IntsAre vs ((chansQ x).take i) ∧ vs.length = i) rfl rfl hr (by decide) rfl [((PySem.Str.ofString "x"), .int x tx), ((PySem.Str.ofString "halves"), .int hv th), ((PySem.Str.ofString "value"), .int vv tv), ((PySem.Str.ofString "due"), .ref _)] [(_, listOf #[] 0)] (by assumption) (by assumption) (by (first | focus ((repeat (first | exact True.intro | (refine AllAt.keep _ rfl ?_ ?_; (focus decide +kernel)) | (refine AllAt.skip _ rfl ?_ ?_; (focus decide +kernel)))); done) | ((repeat (refine And.intro ?_ ?_; (focus (first | walk_at "m_look" | rfl)))); exact True.intro))) (by (first | focus ((repeat (first | exact True.intro | with_reducible exact InAll.self | with_reducible refine InAll.keep ?_ | with_reducible refine InAll.skip ?_)); done) | ((repeat (refine And.intro (by k_mem) ?_)); exact True.intro))) ⟨_, [], 0, rfl, rfl, .nil, rfl⟩ ?_ ?_
  · rintro i t I h3 tk3 m3 lo nw oI hi hPz1 F3 N3 hne hc
    with_reducible refine Classical.byContradiction fun hZq => ?_
    obtain ⟨l, vs, n', rfl, rfl, hvs, hlen⟩ := hPz1
    refine hZq ?_
    clear hZq
    simp only [AllNe, and_true] at hne
    k_steps
    refine turned_next _ [(l, listOf _ _)] (.inl rfl) (by assumption) (by assumption) (by (first | focus ((repeat (first | exact True.intro | (refine AllAt.keep _ rfl ?_ ?_; (focus decide +kernel)) | (refine AllAt.skip _ rfl ?_ ?_; (focus decide +kernel)))); done) | ((repeat (refine And.intro ?_ ?_; (focus (first | walk_at "m_look" | rfl)))); exact True.intro))) (by (first | focus ((repeat (first | exact True.intro | with_reducible exact InAll.self | with_reducible refine InAll.keep ?_ | with_reducible refine InAll.skip ?_)); done) | ((repeat (refine And.intro (by k_mem) ?_)); exact True.intro))) (by ((repeat (refine And.intro ?_ ?_; (focus k_ne))); exact True.intro)) ⟨_, _ ++ [_], _, rfl, by rw [List.push_toArray], ?_, by simp [hlen]⟩
    rw [List.take_add_one, chansQ_take x i hi]
    refine intsAre_snoc_eq hvs ?_
    unfold chanQ nearQ aheadQ
    rw [hhv, hvv, Int.zero_add]
  · rintro h3 tk3 m3 lo nw hPz1 F3 N3
    with_reducible refine Classical.byContradiction fun hZq => ?_
    obtain ⟨l, vs, n', rfl, rfl, hvs, hlen⟩ := hPz1
    refine hZq ?_
    clear hZq
    k_steps
    dsimp only
    exact hret l _ _ n' vs (kg.fr F3) (fresh_of kg N3 (.head _) (fun q => nomatch q)) (News.get N3 (.head _)) hvs

end partChan1
theorem off_Hsv1 : (1 : Nat) = 1 := by
  w_top off
  first | walk1 | rfl
section partHsv1
inductive Num where
  | i (n : Int)
  | f (b : UInt64)
inductive NumsAre : List Value → List Num → Prop
  | nil : NumsAre [] []
  | int (n : Int) (t : Tok) {vs ns} : NumsAre vs ns → NumsAre (.int n t :: vs) (.i n :: ns)
  | float (b : UInt64) (t : Tok) {vs ns} : NumsAre vs ns → NumsAre (.float b t :: vs) (.f b :: ns)
noncomputable def six : UInt64 := 4618441417868443648
noncomputable def one : UInt64 := 4607182418800017408
noncomputable def hI (h : UInt64) : Int := Flt.toInt Float64.truncOf (Float64.mul h six)
noncomputable def hF (h : UInt64) : UInt64 := Float64.sub (Float64.mul h six) (Float64.ofInt (hI h))
noncomputable def hsvP (h sa : UInt64) (v : Int) : List Num :=
  if (Float64.cmp sa 0 == some Ordering.eq) = true then [.i v, .i v, .i v] else
  let i := Int.fmod (hI h) 6
  let p := Float64.mul (Float64.ofInt v) (Float64.sub one sa)
  let q := Float64.mul (Float64.ofInt v) (Float64.sub one (Float64.mul sa (hF h)))
  let t := Float64.mul (Float64.ofInt v) (Float64.sub one (Float64.mul sa (Float64.sub one (hF h))))
  if i = 0 then [.i v, .f t, .f p] else if i = 1 then [.f q, .i v, .f p] else if i = 2 then [.f p, .i v, .f t]
  else if i = 3 then [.f p, .f q, .i v] else if i = 4 then [.f t, .f p, .i v] else [.i v, .f p, .f q]
theorem big_no {n : Nat} (h : n ≤ 1000) (k : 2 ^ 1024 - 2 ^ 970 ≤ n) : False := absurd (Nat.le_trans k h) (by decide +kernel)
theorem hsv_spec (w : World) (s : Shared) (R : Result → Shared → Prop) (G : Gd (K0 w.params) s.heap) (h sa : UInt64) (v : Int) (tr tg tb : Tok)
  (hn : Float64.isNaN (Float64.mul h six) = false) (hi : Float64.isInf (Float64.mul h six) = false) (hb : (hI h).natAbs ≤ 1000) (hv : v.natAbs ≤ 1000)
  (hret : ∀ (l : Addr) (h' : Heap) (tk' n : Nat) (vs : List Value), Kp [] s.heap h' → s.heap.get? l = none → h'.get? l = some { cls := .type "tuple", data := .seq vs.toArray n } → NumsAre vs (hsvP h sa v) → R (.ok (.ret (.ref l))) { s with heap := h', toks := tk' }) :
  codeAny (model prog w) (lv 9) (.call (.ref 101) ⟨[.float h tr, .float sa tg, .int v tb], []⟩) R s := by
  have _kf : (PySem.Challenge.rw_pg0230_01, K0) = (PySem.Challenge.rw_pg0230_01, K0) := by k_fill; rfl
  refine' enter_plain (K := K0 w.params) (binds := [((PySem.Str.ofString "h"), .float h tr), ((PySem.Str.ofString "s"), .float sa tg), ((PySem.Str.ofString "v"), .int v tb)]) (rb := [((PySem.Str.ofString "v"), .int v tb), ((PySem.Str.ofString "s"), .float sa tg), ((PySem.Str.ofString "h"), .float h tr)]) [] G (fun _ h => nomatch h) ?ho ?hcd ?hroom ?hbind ?hloc ?hrb ?_ ?c1 ?c2 ?c3 ?c4
  (( (case ho => k_is); (case hcd => k_is); (case hroom => k_room); (case hbind => exact BindsTo.of_eq rfl); (case hloc => exact locs rfl); (case hrb => exact rfl); (case c1 => decide); (case c2 => exact rfl); (case c3 => exact rfl); (case c4 => exact rfl); k_whole))
  intro g L h0 pp loose mean mg mb kg F0 N0 X TT l1 l2
  unfold hI six at *
  unfold hsvP hF hI six one at hret
  have hm0 : ∀ x : Int, 0 ≤ Int.fmod x 6 ∧ Int.fmod x 6 < 6 := fun x => by
    rw [Int.fmod_eq_emod_of_nonneg _ (by decide)]; omega
  have hm := hm0 (Flt.toInt Float64.truncOf (Float64.mul h 4618441417868443648))
  k_steps
  all_goals dsimp only
  all_goals first
    | exact absurd (hn.symm.trans (by assumption)) (by decide)
    | exact absurd (hi.symm.trans (by assumption)) (by decide)
    | exact big_no hb (by assumption)
    | exact big_no hv (by assumption)
    | (refine hret _ _ _ _ [_, _, _] (kg.fr (by assumption)) (fresh_of kg (by assumption) (.head _) (fun h => nomatch h)) (News.get (by assumption) (.head _)) ?_)
    | (exfalso; generalize Int.fmod (Flt.toInt Float64.truncOf (Float64.mul h 4618441417868443648)) 6 = z at *; clear hb hv hn hi; rcases six_int hm.1 hm.2 with h | h | h | h | h | h <;> exact absurd h (by assumption))
    | skip
  all_goals simp only [*, if_true, if_false, Bool.false_eq_true, Int.reduceEq, reduceIte]
  all_goals repeat' (first | exact NumsAre.nil | apply NumsAre.int | apply NumsAre.float)

end partHsv1
theorem off_Rgb1 : (1 : Nat) = 1 := by
  w_top off
  first | walk1 | rfl
section partRgb1
noncomputable def fracP (a d : Int) : UInt64 := Float64.ofFrac (decide (a < 0) != decide (d < 0)) a.natAbs d.natAbs
noncomputable def two : UInt64 := 4611686018427387904
noncomputable def four : UInt64 := 4616189618054758400
noncomputable def rgbH (r g b : Int) : UInt64 :=
  if r = mx3 r g b then Float64.sub (fracP (mx3 r g b - b) (mx3 r g b - mn3 r g b)) (fracP (mx3 r g b - g) (mx3 r g b - mn3 r g b))
  else if g = mx3 r g b then Float64.sub (Float64.add two (fracP (mx3 r g b - r) (mx3 r g b - mn3 r g b))) (fracP (mx3 r g b - b) (mx3 r g b - mn3 r g b))
  else Float64.sub (Float64.add four (fracP (mx3 r g b - g) (mx3 r g b - mn3 r g b))) (fracP (mx3 r g b - r) (mx3 r g b - mn3 r g b))
noncomputable def rgbP (r g b : Int) : List Num :=
  if mn3 r g b = mx3 r g b then [.f 0, .f 0, .i (mx3 r g b)] else
  [.f (Float64.divmod (Float64.div (rgbH r g b) six) one).2, .f (fracP (mx3 r g b - mn3 r g b) (mx3 r g b)), .i (mx3 r g b)]
theorem frac_fin : ∀ a : Fin 17, ∀ d : Fin 17, d.val = 0 ∨ Float64.isInf (Float64.ofFrac false a.val d.val) = false := by decide +kernel
theorem frac_ok {a d : Int} (h1 : 0 ≤ a) (h2 : a ≤ 16) (h3 : 0 < d) (h4 : d ≤ 16) : Float64.isInf (Float64.ofFrac (decide (a < 0) != decide (d < 0)) a.natAbs d.natAbs) = false := by
  have e1 : decide (a < 0) = false := decide_eq_false (by omega)
  have e2 : decide (d < 0) = false := decide_eq_false (by omega)
  rw [e1, e2]
  rcases frac_fin ⟨a.natAbs, by omega⟩ ⟨d.natAbs, by omega⟩ with h | h
  · simp at h; omega
  · exact h
theorem mn_b (r g b : Int) (hr : 0 ≤ r) (hg : 0 ≤ g) (hb : 0 ≤ b) : 0 ≤ mn3 r g b ∧ mn3 r g b ≤ r ∧ mn3 r g b ≤ g ∧ mn3 r g b ≤ b := by
  unfold mn3
  (repeat' split) <;> omega
theorem mx_b (r g b : Int) (hr : r ≤ 16) (hg : g ≤ 16) (hb : b ≤ 16) : mx3 r g b ≤ 16 ∧ r ≤ mx3 r g b ∧ g ≤ mx3 r g b ∧ b ≤ mx3 r g b := by
  unfold mx3
  (repeat' split) <;> omega
theorem mx_mn (r g b : Int) (hr : 0 ≤ r ∧ r ≤ 16) (hg : 0 ≤ g ∧ g ≤ 16) (hb : 0 ≤ b ∧ b ≤ 16) : 0 ≤ mn3 r g b ∧ mx3 r g b ≤ 16 ∧ mn3 r g b ≤ r ∧ mn3 r g b ≤ g ∧ mn3 r g b ≤ b ∧ r ≤ mx3 r g b ∧ g ≤ mx3 r g b ∧ b ≤ mx3 r g b := by
  with_reducible refine Classical.byContradiction fun hZq => ?_
  obtain ⟨a1, a2, a3, a4⟩ := mn_b r g b hr.1 hg.1 hb.1
  refine hZq ?_
  clear hZq
  with_reducible refine Classical.byContradiction fun hZq => ?_
  obtain ⟨b1, b2, b3, b4⟩ := mx_b r g b hr.2 hg.2 hb.2
  refine hZq ?_
  clear hZq
  exact ⟨a1, b1, a2, a3, a4, b2, b3, b4⟩
local macro_rules | `(tactic| walk_at "call builtin:max") => `(tactic| refine stop_at ?_)
local macro_rules | `(tactic| walk_at "call builtin:min") => `(tactic| refine stop_at ?_)
/-- no float with the private token -/
noncomputable def TokOk : List Value → Prop
  | [] => True
  | .float _ t :: r => t ≠ 0 ∧ TokOk r
  | _ :: r => TokOk r
theorem rgb_spec (w : World) (s : Shared) (R : Result → Shared → Prop) (G : Gd (K0 w.params) s.heap) (r gr b : Int) (tr tg tb : Tok) (hr : 0 ≤ r ∧ r ≤ 16) (hg : 0 ≤ gr ∧ gr ≤ 16) (hb : 0 ≤ b ∧ b ≤ 16)
  (hret : ∀ (l : Addr) (h' : Heap) (tk' n : Nat) (vs : List Value), Kp [] s.heap h' → s.heap.get? l = none → h'.get? l = some { cls := .type "tuple", data := .seq vs.toArray n } → NumsAre vs (rgbP r gr b) → TokOk vs → R (.ok (.ret (.ref l))) { s with heap := h', toks := tk' }) :
  codeAny (model prog w) (lv 9) (.call (.ref 94) ⟨[.int r tr, .int gr tg, .int b tb], []⟩) R s := by
  have _kf : (PySem.Challenge.rw_pg0230_01, K0) = (PySem.Challenge.rw_pg0230_01, K0) := by k_fill; rfl
  refine' enter_plain (K := K0 w.params) (binds := [((PySem.Str.ofString "r"), .int r tr), ((PySem.Str.ofString "g"), .int gr tg), ((PySem.Str.ofString "b"), .int b tb)]) (rb := [((PySem.Str.ofString "b"), .int b tb), ((PySem.Str.ofString "g"), .int gr tg), ((PySem.Str.ofString "r"), .int r tr)]) [] G (fun _ h => nomatch h) ?ho ?hcd ?hroom ?hbind ?hloc ?hrb ?_ ?c1 ?c2 ?c3 ?c4
  (( (case ho => k_is); (case hcd => k_is); (case hroom => k_room); (case hbind => exact BindsTo.of_eq rfl); (case hloc => exact locs rfl); (case hrb => exact rfl); (case c1 => decide); (case c2 => exact rfl); (case c3 => exact rfl); (case c4 => exact rfl); k_whole))
  intro g L h0 pp loose mean mg mb kg F0 N0 X TT l1 l2
  with_reducible refine Classical.byContradiction fun hZq => ?_
  obtain ⟨m1, m2, m3, m4, m5, m6, m7, m8⟩ := mx_mn r gr b hr hg hb
  refine hZq ?_
  clear hZq
  have hinf : ∀ {a d : Int}, 0 ≤ a → a ≤ 16 → 0 < d → d ≤ 16 → Float64.isInf (Float64.ofFrac (decide (a < 0) != decide (d < 0)) a.natAbs d.natAbs) = true → False := fun h1 h2 h3 h4 h5 => by
    rw [frac_ok h1 h2 h3 h4] at h5; cases h5
  unfold rgbP rgbH fracP six two four one at hret
  k_steps
  unfold Stop
  rename Fr _ _ _ _ => FM
  rename News _ _ _ _ => NM
  refine m_max3 FM NM rfl ?_
  clear FM NM
  intro _ _ _ _ _
  k_steps
  unfold Stop
  rename Fr _ _ _ _ => FM
  rename News _ _ _ _ => NM
  refine m_min3 FM NM rfl ?_
  clear FM NM
  intro _ _ _ _ _
  k_steps
  all_goals (try dsimp only)
  all_goals first
    | (refine hret _ _ _ _ [_, _, _] (kg.fr (by assumption)) (fresh_of kg (by assumption) (.head _) (fun h => nomatch h)) (News.get (by assumption) (.head _)) ?_ ?_)
    | (exfalso; clear hinf; omega)
    | (refine hinf ?_ ?_ ?_ ?_ (by assumption) <;> (clear hinf; omega))
    | skip
  all_goals first | exact ⟨Nat.succ_ne_zero _, Nat.succ_ne_zero _, trivial⟩ | skip
  all_goals repeat' split
  all_goals first | contradiction | skip
  all_goals repeat' (first | exact NumsAre.nil | apply NumsAre.int | apply NumsAre.float)

end partRgb1
theorem off_Pt1 : (1 : Nat) = 1 := by
  w_top off
  first | walk1 | rfl
section partPt1
local macro_rules | `(tactic| walk_at "call ref") => `(tactic| refine stop_at ?_)
noncomputable abbrev fracF (a n : Int) : UInt64 := Float64.ofFrac (decide (a < 0) != decide (n < 0)) a.natAbs (Int.natAbs n)
theorem frac16_fin (a : Int) (h : 0 ≤ a ∧ a < 16) : Float64.isInf (fracF a 16) = false := by
  have hh : ∀ k : Fin 16, Float64.isInf (fracF ((k.val : Nat) : Int) 16) = false := by decide +kernel
  have := hh ⟨a.toNat, by omega⟩
  rwa [show (((⟨a.toNat, by omega⟩ : Fin 16).val : Nat) : Int) = a by show (a.toNat : Int) = a; omega] at this
theorem frac2_fin (a : Int) (h : 0 ≤ a ∧ a ≤ 2) : Float64.isInf (fracF a 2) = false := by
  have hh : ∀ k : Fin 3, Float64.isInf (fracF ((k.val : Nat) : Int) 2) = false := by decide +kernel
  have := hh ⟨a.toNat, by omega⟩
  rwa [show (((⟨a.toNat, by omega⟩ : Fin 3).val : Nat) : Int) = a by show (a.toNat : Int) = a; omega] at this
/-- what _law_point gives: three numbers -/
noncomputable def PtIs (x : Int) (a b c : Value) : Prop := ∃ ta tb tc, c = .int (valueQ (kindQ x)) tc ∧
  if valueQ (kindQ x) = 0 ∨ halvesQ (kindQ x) = 0 then a = .int 0 ta ∧ b = .int 0 tb else a = .float (fracF (Int.fmod x 16) 16) ta ∧ b = .float (fracF (halvesQ (kindQ x)) 2) tb ∧ ta ≠ 0 ∧ tb ≠ 0
theorem point_spec (w : World) (s : Shared) (R : Result → Shared → Prop) (G : Gd (K0 w.params) s.heap) (x : Int) (tx : Tok) (hx : 0 ≤ x ∧ x < 1000000)
  (hret : ∀ (D : Addr) (h' : Heap) (tk' : Nat) (a b c : Value), PtIs x a b c → Kp [] s.heap h' → s.heap.get? D = none → h'.get? D = some { cls := .type "tuple", data := .seq #[a, b, c] } → R (.ok (.ret (.ref D))) { s with heap := h', toks := tk' }) :
  codeAny (model prog w) (lv 9) (.call (.ref 171) ⟨[.int x tx], []⟩) R s := by
  have _kf : (PySem.Challenge.rw_pg0230_01, K0) = (PySem.Challenge.rw_pg0230_01, K0) := by k_fill; rfl
  refine' enter_plain (K := K0 w.params) (binds := [((PySem.Str.ofString "x"), .int x tx)]) (rb := [((PySem.Str.ofString "x"), .int x tx)]) [] G (fun _ h => nomatch h) ?ho ?hcd ?hroom ?hbind ?hloc ?hrb ?_ ?c1 ?c2 ?c3 ?c4
  (( (case ho => k_is); (case hcd => k_is); (case hroom => k_room); (case hbind => exact BindsTo.of_eq rfl); (case hloc => exact locs rfl); (case hrb => exact rfl); (case c1 => decide); (case c2 => exact rfl); (case c3 => exact rfl); (case c4 => exact rfl); k_whole))
  intro g L h0 pp loose mean mg mb kg F0 N0 X TT l1 l2
  k_steps
  unfold Stop
  refine wpAny_call ?_
  refine' codeAny_at (A' := lv 6) ?a1 ?a2 ?a3 ?a4 ?a5 ?_
  (case a1 => exact rfl); (case a2 => (exact Nat.le_of_ble_eq_true rfl)); (case a3 => (exact Nat.le_of_ble_eq_true rfl)); (case a4 => exact rfl); (case a5 => exact rfl)
  with_reducible refine' kind_spec w _ _ (gd_of0 X TT F0) x tx hx ?_
  intro D h5 tk5 th tv K5 e1 e2
  obtain ⟨F5, N5⟩ := after_one F0 N0 K5 e2 e1
  obtain ⟨b1, b2⟩ := halvesQ_b (kindQ x)
  obtain ⟨b3, b4⟩ := valueQ_b (kindQ x)
  clear F0 N0
  obtain ⟨x1, x2⟩ := hx
  have i1 := frac16_fin (Int.fmod x 16) ⟨Int.fmod_nonneg_of_pos _ (by decide), Int.fmod_lt_of_pos _ (by decide)⟩
  have i2 := frac2_fin (halvesQ (kindQ x)) ⟨b1, b2⟩
  generalize hhv : halvesQ (kindQ x) = hv at *
  generalize hvv : valueQ (kindQ x) = vv at *
  k_steps
  all_goals first | exact absurd (i1.symm.trans (by assumption)) (by decide) | exact absurd (i2.symm.trans (by assumption)) (by decide) | skip
  · rename vv = 0 => hz
    exact hret _ _ _ _ _ _ ⟨_, _, _, by rw [hvv, hz], by rw [hvv, if_pos (.inl hz)]; exact ⟨rfl, rfl⟩⟩ (kg.fr (by assumption)) (fresh_of kg (by assumption) (.head _) (fun q => nomatch q)) (News.get (by assumption) (.head _))
  · rename hv = 0 => hz
    exact hret _ _ _ _ _ _ ⟨_, _, _, by rw [hvv], by rw [hvv, hhv, if_pos (.inr hz)]; exact ⟨rfl, rfl⟩⟩ (kg.fr (by assumption)) (fresh_of kg (by assumption) (.head _) (fun q => nomatch q)) (News.get (by assumption) (.head _))
  · rename vv ≠ 0 => hz
    rename hv ≠ 0 => hz2
    refine hret _ _ _ _ _ _ ?pt (kg.fr (by assumption)) (fresh_of kg (by assumption) (.head _) (fun q => nomatch q)) (News.get (by assumption) (.head _))
    exact ⟨_, _, _, by rw [hvv], by rw [hvv, hhv, if_neg (fun q => q.elim hz hz2)]; exact ⟨rfl, rfl, Nat.succ_ne_zero _, Nat.succ_ne_zero _⟩⟩

end partPt1
theorem off_Tab1 : (1 : Nat) = 1 := by
  w_top off
  first | walk1 | rfl
section partTab1
/-- a number as an int or as the float of it -/
inductive NumOf : Value → Int → Prop
  | int (n : Int) (t : Tok) : NumOf (.int n t) n
  | float (n : Int) (t : Tok) : NumOf (.float (Float64.ofInt n) t) n
inductive NumsOf : List Value → List Int → Prop
  | nil : NumsOf [] []
  | cons {v : Value} {n : Int} {vs ns} : NumOf v n → NumsOf vs ns → NumsOf (v :: vs) (n :: ns)
theorem NumsOf.length {vs : List Value} {ns : List Int} (h : NumsOf vs ns) : vs.length = ns.length := by induction h <;> simp [*]
theorem NumsOf.get {vs : List Value} {ns : List Int} (h : NumsOf vs ns) : ∀ {i : Nat} {v : Value}, vs[i]? = some v → ∃ n, ns[i]? = some n ∧ NumOf v n := by
  induction h with
  | nil => intro i v hv; simp at hv
  | cons a _ ih =>
    intro i v hv
    cases i with
    | zero => simp at hv; subst hv; exact ⟨_, rfl, a⟩
    | succ i => simpa using ih (by simpa using hv)
theorem ofInt_tab : ∀ k : Fin 17, Float64.isNaN (Float64.ofInt (k.val : Int)) = false ∧ Float64.isInf (Float64.ofInt (k.val : Int)) = false ∧ Flt.toInt Float64.truncOf (Float64.ofInt (k.val : Int)) = (k.val : Int) ∧
    (Float64.cmpInt (Float64.ofInt (k.val : Int)) (Flt.toInt Float64.truncOf (Float64.ofInt (k.val : Int))) == some Ordering.eq) = true := by decide +kernel
theorem ofInt_ok {n : Int} (h0 : 0 ≤ n) (h1 : n ≤ 16) : Float64.isNaN (Float64.ofInt n) = false ∧ Float64.isInf (Float64.ofInt n) = false ∧ Flt.toInt Float64.truncOf (Float64.ofInt n) = n ∧
    (Float64.cmpInt (Float64.ofInt n) (Flt.toInt Float64.truncOf (Float64.ofInt n)) == some Ordering.eq) = true := by
  have h := ofInt_tab ⟨n.toNat, by omega⟩
  have e : ((n.toNat : Nat) : Int) = n := by omega
  dsimp only at h
  rw [e] at h
  exact h
noncomputable def numOk : Num → Int → Bool
  | .i m, n => m == n
  | .f b, n => b == Float64.ofInt n
noncomputable def numsOk : List Num → List Int → Bool
  | [], [] => true
  | a :: r, n :: ns => numOk a n && numsOk r ns
  | _, _ => false
theorem numsOk_of {l : List Num} {vs : List Value} (x : NumsAre vs l) : ∀ {ns : List Int}, numsOk l ns = true → NumsOf vs ns := by
  induction x with
  | nil =>
    intro ns h
    cases ns with
    | nil => exact .nil
    | cons _ _ => cases h
  | int m t _ ih =>
    intro ns h
    cases ns with
    | nil => cases h
    | cons n ns =>
      simp only [numsOk, numOk, Bool.and_eq_true, beq_iff_eq] at h
      obtain ⟨rfl, h⟩ := h
      exact .cons (.int _ _) (ih h)
  | float b t _ ih =>
    intro ns h
    cases ns with
    | nil => cases h
    | cons n ns =>
      simp only [numsOk, numOk, Bool.and_eq_true, beq_iff_eq] at h
      obtain ⟨rfl, h⟩ := h
      exact .cons (.float _ _) (ih h)
noncomputable def chanK (kk m k : Int) : Int := valueQ kk - Int.fdiv (valueQ kk * halvesQ kk * (8 - nearQ m k)) 16
theorem ahead_m (x k : Int) : aheadQ (Int.fmod x 32) k = aheadQ x k := by
  unfold aheadQ
  rw [Int.fmod_eq_emod_of_nonneg _ (by decide), Int.fmod_eq_emod_of_nonneg _ (by decide), Int.fmod_eq_emod_of_nonneg _ (by decide)]
  have h := Int.emod_add_mul_ediv x 32
  rw [show 3 * x - 16 * k = 3 * (x % 32) - 16 * k + 48 * (2 * (x / 32)) by omega, Int.add_mul_emod_self_left]
theorem chan_K (x k : Int) : chanQ x k = chanK (kindQ x) (Int.fmod x 32) k := by
  unfold chanQ chanK nearQ
  rw [ahead_m]
theorem hue_tab : ∀ m : Fin 32, Float64.isNaN (Float64.mul (fracF (m.val : Int) 16) six) = false ∧ Float64.isInf (Float64.mul (fracF (m.val : Int) 16) six) = false ∧ (hI (fracF (m.val : Int) 16)).natAbs ≤ 1000 ∧ Float64.isInf (fracF (m.val : Int) 16) = false := by decide +kernel
theorem hsv_tab : ∀ kk : Fin 7, ∀ m : Fin 32, (numsOk (hsvP (fracF (m.val : Int) 16) (fracF (halvesQ (kk.val : Int)) 2) (valueQ (kk.val : Int))) [chanK (kk.val : Int) (m.val : Int) 0, chanK (kk.val : Int) (m.val : Int) 1, chanK (kk.val : Int) (m.val : Int) 2]) = true := by decide +kernel
theorem chan_tab : ∀ kk : Fin 7, ∀ m : Fin 32, (0 ≤ chanK (kk.val : Int) (m.val : Int) 0 ∧ chanK (kk.val : Int) (m.val : Int) 0 ≤ 16) ∧ (0 ≤ chanK (kk.val : Int) (m.val : Int) 1 ∧ chanK (kk.val : Int) (m.val : Int) 1 ≤ 16) ∧ (0 ≤ chanK (kk.val : Int) (m.val : Int) 2 ∧ chanK (kk.val : Int) (m.val : Int) 2 ≤ 16) := by decide +kernel
theorem k_nat (x : Int) : ((kindQ x).toNat : Int) = kindQ x ∧ (kindQ x).toNat < 7 := ⟨Int.toNat_of_nonneg (kindQ_b x).1, (Int.toNat_lt (kindQ_b x).1).mpr (kindQ_b x).2⟩
theorem m_nat (x : Int) : ((Int.fmod x 32).toNat : Int) = Int.fmod x 32 ∧ (Int.fmod x 32).toNat < 32 := by
  have h1 := Int.fmod_nonneg_of_pos x (show (0 : Int) < 32 by decide)
  exact ⟨Int.toNat_of_nonneg h1, (Int.toNat_lt h1).mpr (Int.fmod_lt_of_pos x (show (0 : Int) < 32 by decide))⟩
theorem chansQ_b (x : Int) : ∀ c ∈ chansQ x, 0 ≤ c ∧ c ≤ 16 := by
  have h := chan_tab ⟨(kindQ x).toNat, (k_nat x).2⟩ ⟨(Int.fmod x 32).toNat, (m_nat x).2⟩
  dsimp only at h
  rw [(k_nat x).1, (m_nat x).1] at h
  intro c hc
  simp only [chansQ, List.mem_cons, List.not_mem_nil, or_false] at hc
  rcases hc with rfl | rfl | rfl
  · rw [chan_K]; exact h.1
  · rw [chan_K]; exact h.2.1
  · rw [chan_K]; exact h.2.2
theorem hue_ok (x : Int) : Float64.isNaN (Float64.mul (fracF (Int.fmod x 32) 16) six) = false ∧ Float64.isInf (Float64.mul (fracF (Int.fmod x 32) 16) six) = false ∧ (hI (fracF (Int.fmod x 32) 16)).natAbs ≤ 1000 ∧ Float64.isInf (fracF (Int.fmod x 32) 16) = false := by
  have h := hue_tab ⟨(Int.fmod x 32).toNat, (m_nat x).2⟩
  dsimp only at h
  rw [(m_nat x).1] at h
  exact h
theorem hsv_nums {x : Int} {vs : List Value} (h : NumsAre vs (hsvP (fracF (Int.fmod x 32) 16) (fracF (halvesQ (kindQ x)) 2) (valueQ (kindQ x)))) : NumsOf vs (chansQ x) := by
  have t := hsv_tab ⟨(kindQ x).toNat, (k_nat x).2⟩ ⟨(Int.fmod x 32).toNat, (m_nat x).2⟩
  dsimp only at t
  rw [(k_nat x).1, (m_nat x).1] at t
  refine numsOk_of h ?_
  unfold chansQ
  rw [chan_K, chan_K, chan_K]
  exact t
theorem mul_sp18 {r : Int} (h0 : 0 ≤ r) (h1 : r ≤ 18) : Txt.mul (PySem.Str.ofString " ") r = T (List.replicate r.toNat 32) := by
  have t : ∀ k : Fin 19, Txt.mul (PySem.Str.ofString " ") (k.val : Int) = T (List.replicate k.val 32) := by decide +kernel
  have h := t ⟨r.toNat, by omega⟩
  dsimp only at h
  rwa [show ((r.toNat : Nat) : Int) = r by omega] at h
noncomputable def ptOk (l : List Num) (v hv m : Int) : Bool := match l with
  | [.f a, .f b, .i c] => c == v && (if v = 0 ∨ hv = 0 then (Float64.cmpInt a 0 == some Ordering.eq) && (Float64.cmpInt b 0 == some Ordering.eq) else a == fracF (Int.fmod m 16) 16 && (b == fracF hv 2 && ((Float64.cmp a a == some Ordering.eq) && (Float64.cmp b b == some Ordering.eq))))
  | _ => false
theorem rgb_tab : ∀ kk : Fin 7, ∀ m : Fin 32, ptOk (rgbP (chanK (kk.val : Int) (m.val : Int) 0) (chanK (kk.val : Int) (m.val : Int) 1) (chanK (kk.val : Int) (m.val : Int) 2)) (valueQ (kk.val : Int)) (halvesQ (kk.val : Int)) (m.val : Int) = true := by decide +kernel
theorem rgb_pt (x : Int) : ptOk (rgbP (chanQ x 0) (chanQ x 1) (chanQ x 2)) (valueQ (kindQ x)) (halvesQ (kindQ x)) (Int.fmod x 32) = true := by
  have t := rgb_tab ⟨(kindQ x).toNat, (k_nat x).2⟩ ⟨(Int.fmod x 32).toNat, (m_nat x).2⟩
  dsimp only at t
  rw [(k_nat x).1, (m_nat x).1] at t
  rw [chan_K, chan_K, chan_K]
  exact t
theorem fmod_16 (x : Int) : Int.fmod (Int.fmod x 32) 16 = Int.fmod x 16 := by
  rw [Int.fmod_eq_emod_of_nonneg _ (by decide), Int.fmod_eq_emod_of_nonneg _ (by decide), Int.fmod_eq_emod_of_nonneg _ (by decide)]
  exact Int.emod_emod_of_dvd x (by decide)

end partTab1
theorem off_Lex1 : (1 : Nat) = 1 := by
  w_top off
  first | walk1 | rfl
section partLex1
theorem kp_part {wr wr' : List Addr} {h g h' : Heap} {L : Addr} {m : Str → Option Value} {news : List (Addr × Obj)} (k : Kp wr h g) (F : Fr g L h' m) (N : News g L h' news) (e : ∀ a ∈ wr, a ∈ wr' ∨ ∃ o, h.get? a = some o ∧ (a, o) ∈ news) : Kp wr' h h' := fun b o nb q => by
  by_cases hb : b ∈ wr
  · rcases e b hb with e1 | ⟨o', e1, e2⟩
    · exact absurd e1 nb
    · rw [e1] at q; cases q
      exact (N _ e2).1
  · exact F.keep _ _ (k b o hb q)
/-- a fresh _netrclex: its dict -/
noncomputable abbrev lxEs (w : World) (k0 k1 k2 k3 : Tok) (ln : Int) (tl : Tok) (held : Value) (tw : Tok) (pb : Addr) : List DictEntry :=
  [⟨PyData.keyHash w.params ((PySem.Str.ofString "lineno")), .str ((PySem.Str.ofString "lineno")) k0, .int ln tl⟩, ⟨PyData.keyHash w.params ((PySem.Str.ofString "instream")), .str ((PySem.Str.ofString "instream")) k1, held⟩,
   ⟨PyData.keyHash w.params ((PySem.Str.ofString "whitespace")), .str ((PySem.Str.ofString "whitespace")) k2, .str (PySem.Str.ofString "\n\t\r ") tw⟩, ⟨PyData.keyHash w.params ((PySem.Str.ofString "pushback")), .str ((PySem.Str.ofString "pushback")) k3, .ref pb⟩]
theorem lexinit_spec (w : World) (s : Shared) (R : Result → Shared → Prop) (x dx : Addr) (held : Value) (hheld : held = .none ∨ ∃ a, held = .ref a) (G : Gd (K0 w.params) (hideAll s.heap [x, dx]))
  (h1 : s.heap.get? x = some (instObj 139 dx)) (h2 : s.heap.get? dx = some (dictOf [] 0)) (hne : x ≠ dx)
  (hret : ∀ (h' : Heap) (tk' : Nat) (pb : Addr) (k0 k1 k2 k3 tl tw : Tok), Kp [x, dx] s.heap h' → h'.get? x = some (instObj 139 dx) → h'.get? dx = some (dictOf (lxEs w k0 k1 k2 k3 1 tl held tw pb) 4) → h'.get? pb = some (listOf #[] 0) → s.heap.get? pb = none → R (.ok (.ret .none)) { s with heap := h', toks := tk' }) :
  codeAny (model prog w) (lv 9) (.call (.ref 115) ⟨[.ref x, held], []⟩) R s := by
  have _kf : (PySem.Challenge.rw_pg0230_01, K0) = (PySem.Challenge.rw_pg0230_01, K0) := by k_fill; rfl
  refine' enter_plain (K := K0 w.params) (binds := [((PySem.Str.ofString "self"), .ref x), ((PySem.Str.ofString "fp"), held)]) (rb := [((PySem.Str.ofString "fp"), held), ((PySem.Str.ofString "self"), .ref x)]) [(x, instObj 139 dx), (dx, dictOf [] 0)] G ?hN ?ho ?hcd ?hroom ?hbind ?hloc ?hrb ?_ ?c1 ?c2 ?c3 ?c4
  (case hN => intro p hp; rcases List.mem_cons.mp hp with rfl | hp; exact h1; rcases List.mem_cons.mp hp with rfl | hp; exact h2; cases hp)
  (( (case ho => k_is); (case hcd => k_is); (case hroom => k_room); (case hbind => exact BindsTo.of_eq rfl); (case hloc => exact locs rfl); (case hrb => exact rfl); (case c1 => decide); (case c2 => exact rfl); (case c3 => exact rfl); (case c4 => exact rfl); k_whole))
  intro g L h0 pp loose mean mg mb kg F0 N0 X TT l1 l2
  replace hne := neN hne
  rcases hheld with rfl | ⟨a, rfl⟩
  all_goals k_steps
  all_goals
    rename News _ _ _ _ => NN
    refine hret _ _ _ _ _ _ _ _ _ (kg.fr (by assumption)) (NN _ (.tail _ (.head _))).1 (NN _ (.tail _ (.tail _ (.head _)))).1 (NN.get (.head _)) (fresh_of kg NN (.head _) ?_)
    have m1 := ne_of_cls NN (.head _) (.tail _ (.head _)) (fun e => nomatch e)
    have m2 := ne_of_cls NN (.head _) (.tail _ (.tail _ (.head _))) (fun e => by injection e with e; exact absurd e (by decide))
    intro q
    rcases List.mem_cons.mp q with q | q
    · exact m1 q
    · exact m2 (List.mem_singleton.mp q)


end partLex1
theorem off_Lf1 : (1 : Nat) = 1 := by
  w_top off
  first | walk1 | rfl
section partLf1
theorem kl_last_app (l : List Value) (y : Value) : kl_last (l ++ [y]) = some (l, y) := by
  induction l with
  | nil => rfl
  | cons a r ih =>
    cases r with
    | nil => rfl
    | cons b r =>
      rw [List.cons_append, List.cons_append] at *
      rw [kl_last, ih]
noncomputable def sg (c : Nat) : Str := ⟨#[c]⟩
theorem m_liststr {w : World} {A : Around} {E : Value → Shared → Prop} {g h : Heap} {L : Addr} {m : Str → Option Value} {news : List (Addr × Obj)} {gn : Array GenState} {dr : Drawn} {tk : Nat} {os : OsState} {cs : List Nat} {t : Tok} {Q : Value → Shared → Prop}
    (F : Fr g L h m) (N : News g L h news) (hh : A.handled = none) (hsz : cs.length ≤ sizeLine)
    (k : ∀ D h' tk' (ys : List Value) n, Fr g L h' m → News g L h' ((D, listOf ys.toArray n) :: news) → StrsAre ys (cs.map sg) → (∀ p ∈ news, p.1 < D) → Q (.ref D) ⟨h', gn, dr, tk', os⟩) :
    wpAny (model prog w) A (call (.type "list") [.str (T cs) t]) Q E ⟨h, gn, dr, tk, os⟩ := by
  refine call_list_str hh (T cs) t (hn := by simpa [T] using hsz) fun h' tk' acc' c' hk hS' hacc => ?_
  refine k h.objs.size h' tk' acc'.toList c' (F.keeps hk) (fun p hp => ?_) (strs_of (by simpa [T] using hacc.1) fun i y hy => ?_) (fun p hp => Heap.lt_size (N p hp).1)
  · rcases List.mem_cons.mp hp with e | hp
    · rw [e]
      exact ⟨by simpa using hS', Ne.symm (Nat.ne_of_lt F.ns.lt), next_is_new F⟩
    · exact ⟨hk _ _ (N p hp).1, (N p hp).2⟩
  · with_reducible refine Classical.byContradiction fun hZq => ?_
    obtain ⟨c, u, hc, rfl⟩ := hacc.2 i y (by simpa using hy)
    refine hZq ?_
    clear hZq
    exact ⟨sg c, u, by rw [List.getElem?_map]; have : cs[i]? = some c := by simpa [T] using hc
                       rw [this]; rfl, rfl⟩
theorem codeHd_at {h h' : Heap} {c P : Addr} (x : CodeHd h c P) (k : ∀ o, h.get? c = some o → h'.get? c = some o) : CodeHd h' c P := by
  with_reducible refine Classical.byContradiction fun hZq => ?_
  obtain ⟨o, vs, file, tf, flags, tg, inF, text, tt, e, r⟩ := x
  refine hZq ?_
  clear hZq
  exact ⟨o, vs, file, tf, flags, tg, inF, text, tt, k _ e, r⟩
noncomputable abbrev hxEs (w : World) (k0 k1 k2 k3 k4 : Tok) (ln : Int) (tl : Tok) (held : Value) (tw : Tok) (pb : Addr) (rd : Addr) : List DictEntry :=
  lxEs w k0 k1 k2 k3 ln tl held tw pb ++ [⟨PyData.keyHash w.params ((PySem.Str.ofString "read")), .str ((PySem.Str.ofString "read")) k4, .ref rd⟩]
/-- the reader of the page: a call with one asks for one sign -/
noncomputable def TakeSpec (w : World) (fA cA cc D : Addr) (fo co cco : Obj) : Prop :=
  ∀ (s : Shared) (R : Result → Shared → Prop) (t : Tok) (ys : List Value) (cs : List Nat) (n : Nat), Gd (K0 w.params) (hideAll s.heap [fA, cc, cA, D]) →
    s.heap.get? fA = some fo → s.heap.get? cc = some cco → s.heap.get? cA = some co → s.heap.get? D = some (listOf ys.reverse.toArray n) → StrsAre ys (cs.map sg) → cs.length ≤ 100000 →
    (∀ (h' : Heap) (tk' n' : Nat) (t' : Tok), Kp [D] s.heap h' → h'.get? D = some (listOf (ys.drop 1).reverse.toArray n') → R (.ok (.ret (.str (T (cs.take 1)) t'))) { s with heap := h', toks := tk' }) →
    codeAny (model prog w) (lv 9) (.call (.ref fA) ⟨[.int 1 t], []⟩) R s
theorem file_spec (w : World) (s : Shared) (R : Result → Shared → Prop) (cs : List Nat) (t : Tok) (hlen : cs.length ≤ 100000) (G : Gd (K0 w.params) (hideAll s.heap [145])) (h145 : s.heap.get? 145 = some (tabObj #[])) (hC : CodeHd s.heap 149 145)
  (hret : ∀ (h' : Heap) (tk' : Nat) (x dx fA cA cc D pb : Addr) (fo co cco : Obj) (ys : List Value) (n : Nat) (k0 k1 k2 k3 k4 tl tw : Tok), Kp [145] s.heap h' →
    h'.get? x = some (instObj 139 dx) → h'.get? dx = some (dictOf (hxEs w k0 k1 k2 k3 k4 1 tl .none tw pb fA) 5) → h'.get? pb = some (listOf #[] 0) → h'.get? fA = some fo → h'.get? cc = some cco → h'.get? D = some (listOf ys.reverse.toArray n) → h'.get? cA = some co →
    s.heap.get? x = none → s.heap.get? dx = none → s.heap.get? pb = none → s.heap.get? fA = none → s.heap.get? cc = none → s.heap.get? D = none → s.heap.get? cA = none →
    fo.cls = .type "function" → (∃ fd, fo.data = .func fd) → co.data = .cell (some (.ref D)) → (∃ vs, cco.data = .fields vs) → StrsAre ys (cs.map sg) → TakeSpec w fA cA cc D fo co cco → (∃ ps, h'.get? 145 = some (tabObj ps)) →
    R (.ok (.ret (.ref x))) { s with heap := h', toks := tk' }) :
  codeAny (model prog w) (lv 12) (.call (.ref 150) ⟨[.str (T cs) t], []⟩) R s := by
  have _kf : (PySem.Challenge.rw_pg0230_01, K0) = (PySem.Challenge.rw_pg0230_01, K0) := by k_fill; rfl
  refine' enter_cells (K := K0 w.params) (binds := [((PySem.Str.ofString "text"), .str (T cs) t)]) (rb := [((PySem.Str.ofString "text"), .str (T cs) t)]) [(145, tabObj #[])] G (fun p hp => by rw [List.mem_singleton.mp hp]; exact h145) ?ho ?hcd ?hroom ?hbind ?hkind ?hnd ?hbl ?_ ?c2 ?c3 ?c4
  (( (case ho => k_is); (case hcd => k_is); (case hroom => k_room); (case hbind => exact BindsTo.of_eq rfl); (case hkind => ((intro n x hx; simp only [List.mem_cons, List.not_mem_nil, or_false] at hx; (repeat' (refine Or.elim hx (fun hx => ?_) (fun hx => ?_))); all_goals (subst hx; first | exact .inl rfl | exact .inr ⟨rfl, rfl⟩)))); (case hnd => decide +kernel); (case hbl => exact fun _ => rfl); (case c2 => exact rfl); (case c3 => exact rfl); (case c4 => exact rfl); k_whole))
  intro g L h0 tk cells pp loose mean mg mb kg F0 N0 X TT l1 l2 Y
  have C9 : CodeHd g 149 145 := codeHd_at hC fun o e => kg _ o (by decide) e
  have hL9 : (145 : Nat) < L := Nat.lt_of_lt_of_le (Heap.lt_size h145) l2
  k_cells Y
  simp only [List.cons_append, List.nil_append] at N0
  k_steps
  refine m_liststr (by assumption) (by assumption) rfl (by rw [sizeLine_eq]; omega) fun D h1 tk1 ys n F1 N1 hys l3 => ?_
  k_steps
  have hyl := hys.length
  rw [List.length_map] at hyl
  k_lt l3
  rename News _ _ _ _ => NN
  simp only [List.cons_append, List.nil_append] at NN
  refine kl_reverse (D := D) (its := ys.toArray) (n := n) (l := ys.reverse) (by assumption) NN (by simp) (by k_upd) (by rw [sizeLine_eq, List.toList_toArray]; omega) fun h2 F2 N2 => ?_
  k_steps
  refine' call_cls ?k1 ?k2 ?k3 ?k4 ?k5 ?k6 ?_; (case k1 => k_asm); (case k2 => k_asm); (case k3 => k_asm); (case k4 => k_is); (case k5 => k_is); (case k6 => k_is); k_whole
  intro x' d' h3 F3 N3 l3 l4
  have l3' := l3
  have l4' := l4
  k_lt l3
  k_lt2 l4
  refine' codeAny_at (A' := lv 9) ?a1 ?a2 ?a3 ?a4 ?a5 ?_
  (case a1 => exact rfl); (case a2 => (exact Nat.le_of_ble_eq_true rfl)); (case a3 => (exact Nat.le_of_ble_eq_true rfl)); (case a4 => exact rfl); (case a5 => exact rfl)
  with_reducible refine' lexinit_spec w _ _ x' d' .none ?b1 ?b2 ?b3 ?b4 ?b5 ?_
  (case b1 => exact .inl rfl)
  (case b2 => exact gd_of X TT F3 N3 [x', d'] (HasAll.mem (by ((repeat (refine And.intro ⟨_, by k_mem⟩ ?_)); exact True.intro))))
  (case b3 => exact (N3 _ (.head _)).1)
  (case b4 => exact (N3 _ (.tail _ (.head _))).1)
  (case b5 => exact neN (by omega))
  intro h4 tk4 pb k0 k1 k2 k3 tl tw K4 e1 e2 e3 e4
  refine ⟨rfl, ?_⟩
  have np3 : pb ≠ 145 := fun q => by
    have z : h3.get? 145 = some _ := (N3 _ (.tail _ (.tail _ (.tail _ (.tail _ (.tail _ (.tail _ (.head _)))))))).1
    dsimp only at e4
    rw [q, z] at e4
    cases e4
  obtain ⟨F4, N4⟩ := after_two [(pb, listOf #[] 0)] F3 N3 K4 e1 e2 l3' l4' (fun p hp => by rw [List.mem_singleton.mp hp]; exact ⟨e3, e4⟩)
  simp only [List.cons_append, List.nil_append] at N4
  have np1 := neN (ne_of_cls N4 (.tail _ (.tail _ (.head _))) (.head _) (fun e => nomatch e))
  have np2 := neN (ne_of_cls N4 (.tail _ (.tail _ (.head _))) (.tail _ (.head _)) (fun e => by injection e with e; exact absurd e (by decide)))
  dsimp only [lxEs] at N4
  k_steps
  rename Array Value => vs9
  rename _ = Data.fields _ => dfl
  rename _ = some (Value.str _ _) => dq
  rename _ = Data.cell (some (Value.ref D)) => dcell
  rename News _ _ _ _ => N5
  rename Fr _ _ _ _ => F5
  have fr := fun (a : Addr) (o : Obj) (hp : (a, o) ∈ _) (h9 : a ≠ 145) => fresh_of kg N5 hp (fun q => h9 (List.mem_singleton.mp q))
  refine hret _ _ x' d' _ _ _ D pb _ _ _ ys n k0 k1 k2 k3 _ tl tw (kg.fr F5) (N5 _ (.head _)).1 (N5 _ (.tail _ (.head _))).1 (N5 _ (.tail _ (.tail _ (.head _)))).1 (N5 _ (.tail _ (.tail _ (.tail _ (.head _))))).1 (N5 _ (.tail _ (.tail _ (.tail _ (.tail _ (.head _)))))).1
    (N5 _ (.tail _ (.tail _ (.tail _ (.tail _ (.tail _ (.head _))))))).1 (N5 _ (.tail _ (.tail _ (.tail _ (.tail _ (.tail _ (.tail _ (.head _)))))))).1
    (fr _ _ (.head _) ?_) (fr _ _ (.tail _ (.head _)) ?_) (fr _ _ (.tail _ (.tail _ (.head _))) ?_) (fr _ _ (.tail _ (.tail _ (.tail _ (.head _)))) ?_) (fr _ _ (.tail _ (.tail _ (.tail _ (.tail _ (.head _))))) ?_)
    (fr _ _ (.tail _ (.tail _ (.tail _ (.tail _ (.tail _ (.head _)))))) ?_) (fr _ _ (.tail _ (.tail _ (.tail _ (.tail _ (.tail _ (.tail _ (.head _))))))) ?_) rfl ⟨_, rfl⟩ dcell ⟨_, dfl⟩ hys ?_ ⟨_, (N5 _ (.tail _ (.tail _ (.tail _ (.tail _ (.tail _ (.tail _ (.tail _ (.head _))))))))).1⟩
  rotate_right
  · dsimp only
    intro s9 R9 t9 ys9 cs9 n9 G9 g1 g2 g3 g4 hys9 hlen9 hret9
    refine' enter_clos (K := K0 w.params) (binds := [((PySem.Str.ofString "size"), .int 1 t9)]) (rb := [((PySem.Str.ofString "size"), .int 1 t9)]) [(_, _), (_, _), (_, _), (D, listOf ys9.reverse.toArray n9)] G9 (NAll.mem ⟨g1, g2, g3, g4, trivial⟩) g1 rfl ?hcd ?hroom ?hbind ?hloc ?hrb ?_ ?c1 ?c2 ?c3 ?c4
    (case hcd => exact ⟨_, _, _, _, rfl, g2, dfl, dq⟩)
    (case hroom => k_room); (case hbind => exact BindsTo.of_eq rfl); (case hloc => exact locs rfl); (case hrb => exact rfl); (case c1 => decide); (case c2 => exact rfl); (case c3 => exact rfl); (case c4 => exact rfl)
    clear hret F5 N5 kg X TT G fr
    intro g L9 h0 pp loose mean mg mb kg F0 N0 X TT l1 l2
    cases ys9 with
    | nil =>
      cases cs9 with
      | cons c cs9 => rw [List.map_cons] at hys9; cases hys9
      | nil =>
      k_steps
      unfold Stop
      refine whl_start 3 (whl_turn (fun _ _ h => h.elim) ?_)
      k_steps
      unfold Stop
      rename News _ _ _ _ => N6
      refine EqBoolInt.of_rcne (SeqAt.RcNeAt.lists (e := fun _ => true) ⟨_, (N6 _ (.tail _ (.tail _ (.tail _ (.tail _ (.head _)))))).1, rfl, _, rfl⟩ ⟨_, (N6 _ (.head _)).1, rfl, _, rfl⟩ rfl (by (exact Nat.le_of_ble_eq_true rfl)) (fun j h1 h2 => absurd h2 (Nat.not_lt_zero _))) ?_
      k_steps
      rename News _ _ _ _ => N6
      refine hret9 _ _ n9 _ (kp_part kg (by assumption) N6 ?_) (N6 _ (.tail _ (.tail _ (.tail _ (.tail _ (.head _)))))).1
      intro a ha
      rcases List.mem_cons.mp ha with rfl | ha
      · exact .inr ⟨_, g1, .tail _ (.head _)⟩
      rcases List.mem_cons.mp ha with rfl | ha
      · exact .inr ⟨_, g2, .tail _ (.tail _ (.head _))⟩
      rcases List.mem_cons.mp ha with rfl | ha
      · exact .inr ⟨_, g3, .tail _ (.tail _ (.tail _ (.head _)))⟩
      exact .inl ha
    | cons y ys9 =>
      cases cs9 with
      | nil => cases hys9
      | cons c cs9 =>
      rw [List.map_cons] at hys9
      cases hys9 with
      | cons _ ty hr =>
      have hrl := hr.length
      rw [List.length_map] at hrl
      k_steps
      unfold Stop
      refine whl_start 3 (whl_turn (fun _ _ h => h.elim) ?_)
      k_steps
      unfold Stop
      rename News _ _ _ _ => N6
      refine EqBoolInt.of_rcne (SeqAt.RcNeAt.lists_lengths ⟨_, (N6 _ (.tail _ (.tail _ (.tail _ (.tail _ (.head _)))))).1, rfl, _, rfl⟩ ⟨_, (N6 _ (.head _)).1, rfl, _, rfl⟩ (by simp) (by (exact Nat.le_of_ble_eq_true rfl))) ?_
      k_steps
      rename News _ _ _ _ => N7
      refine kl_pop (D := D) (its := (Value.str (sg c) ty :: ys9).reverse.toArray) (n := n9) (p := ys9.reverse) (y := .str (sg c) ty) (by assumption) N7 (by rw [List.toList_toArray, List.reverse_cons]; exact kl_last_app _ _) (by k_upd) (by rw [sizeLine_eq]; simp; simp at hlen9; omega) fun h8 F8 N8 => ?_
      k_steps
      have hg1 : (PySem.Str.ofString "" ++ sg c) = T [c] := by
        have he : PySem.Str.ofString "" = T [] := by decide +kernel
        rw [he]; exact T_append [] [c]
      have hg2 : (PySem.Str.ofString "" ++ sg c).length = 1 := by rw [hg1, T_len]; rfl
      unfold Stop
      rename News _ _ _ _ => N9
      cases ys9 with
      | nil =>
        refine EqBoolInt.of_rcne (SeqAt.RcNeAt.lists (e := fun _ => true) ⟨_, (N9 _ (.tail _ (.tail _ (.tail _ (.tail _ (.tail _ (.head _))))))).1, rfl, _, rfl⟩ ⟨_, (N9 _ (.head _)).1, rfl, _, rfl⟩ rfl (by (exact Nat.le_of_ble_eq_true rfl)) (fun j h1 h2 => absurd h2 (Nat.not_lt_zero _))) ?_
        k_steps
        rw [hg1]
        rename News _ _ _ _ => N6
        refine hret9 _ _ _ _ (kp_part kg (by assumption) N6 ?_) (N6 _ (.tail _ (.tail _ (.tail _ (.tail _ (.tail _ (.head _))))))).1
        intro a ha
        rcases List.mem_cons.mp ha with rfl | ha
        · exact .inr ⟨_, g1, .tail _ (.tail _ (.head _))⟩
        rcases List.mem_cons.mp ha with rfl | ha
        · exact .inr ⟨_, g2, .tail _ (.tail _ (.tail _ (.head _)))⟩
        rcases List.mem_cons.mp ha with rfl | ha
        · exact .inr ⟨_, g3, .tail _ (.tail _ (.tail _ (.tail _ (.head _))))⟩
        exact .inl ha
      | cons y2 ys9 =>
        refine EqBoolInt.of_rcne (SeqAt.RcNeAt.lists_lengths ⟨_, (N9 _ (.tail _ (.tail _ (.tail _ (.tail _ (.tail _ (.head _))))))).1, rfl, _, rfl⟩ ⟨_, (N9 _ (.head _)).1, rfl, _, rfl⟩ (by simp) (by (exact Nat.le_of_ble_eq_true rfl))) ?_
        k_steps
        rw [hg1]
        rename News _ _ _ _ => N6
        refine hret9 _ _ _ _ (kp_part kg (by assumption) N6 ?_) (N6 _ (.tail _ (.tail _ (.tail _ (.tail _ (.tail _ (.head _))))))).1
        intro a ha
        rcases List.mem_cons.mp ha with rfl | ha
        · exact .inr ⟨_, g1, .tail _ (.tail _ (.head _))⟩
        rcases List.mem_cons.mp ha with rfl | ha
        · exact .inr ⟨_, g2, .tail _ (.tail _ (.tail _ (.head _)))⟩
        rcases List.mem_cons.mp ha with rfl | ha
        · exact .inr ⟨_, g3, .tail _ (.tail _ (.tail _ (.tail _ (.head _))))⟩
        exact .inl ha
  all_goals try (show @Ne Nat _ _; omega)
  all_goals exact np3

end partLf1
theorem off_Rd1 : (1 : Nat) = 1 := by
  w_top off
  first | walk1 | rfl
section partRd1
local macro_rules | `(tactic| walk_at "call ref") => `(tactic| refine stop_at ?_)
local macro_rules | `(tactic| walk_at "callWith ref") => `(tactic| refine stop_at ?_)
set_option genInjectivity false in
set_option genSizeOf false in
/-- where a lexer on a page lies -/
structure LxA where
  x : Addr
  dx : Addr
  pb : Addr
  hx : Addr
  hdx : Addr
  hpb : Addr
  fA : Addr
  cc : Addr
  cA : Addr
  D : Addr
  fo : Obj
  cco : Obj
  co : Obj
  k0 : Tok
  k1 : Tok
  k2 : Tok
  k3 : Tok
  tw : Tok
  j0 : Tok
  j1 : Tok
  j2 : Tok
  j3 : Tok
  j4 : Tok
  jl : Tok
  jw : Tok
noncomputable abbrev LxA.led (a : LxA) (w : World) (ln : Int) (tl : Tok) (ys : List Value) (n : Nat) : List (Addr × Obj) :=
  [(a.x, instObj 139 a.dx), (a.dx, dictOf (lxEs w a.k0 a.k1 a.k2 a.k3 ln tl (.ref a.hx) a.tw a.pb) 4), (a.hx, instObj 139 a.hdx), (a.hdx, dictOf (hxEs w a.j0 a.j1 a.j2 a.j3 a.j4 1 a.jl .none a.jw a.hpb a.fA) 5), (a.fA, a.fo), (a.cc, a.cco), (a.cA, a.co), (a.D, listOf ys.reverse.toArray n)]
structure LxA.Ok (a : LxA) (w : World) : Prop where
  ts : TakeSpec w a.fA a.cA a.cc a.D a.fo a.co a.cco
  n1 : a.dx ≠ a.hdx
  fcls : a.fo.cls = .type "function"
  fdat : ∃ fd, a.fo.data = .func fd
  cdat : a.co.data = .cell (some (.ref a.D))
  ccdat : ∃ vs, a.cco.data = .fields vs
  n2 : a.D ≠ a.pb
noncomputable def KpAll (wr : List Addr) (news : List (Addr × Obj)) : List (Addr × Obj) → Prop
  | [] => True
  | p :: r => (p ∈ news ∨ p.1 ∈ wr) ∧ KpAll wr news r
theorem KpAll.mem {wr : List Addr} {news : List (Addr × Obj)} : ∀ {l : List (Addr × Obj)}, KpAll wr news l → ∀ p ∈ l, p ∈ news ∨ p.1 ∈ wr
  | [], _, _, hm => nomatch hm
  | q :: r, h, p, hm => by
    rcases List.mem_cons.mp hm with e | hm
    · rw [e]; exact h.1
    · exact KpAll.mem h.2 p hm
theorem kp_led {wr : List Addr} {h g h' : Heap} {L : Addr} {m : Str → Option Value} {mu news : List (Addr × Obj)} (k : Kp (mu.map (·.1)) h g) (F : Fr g L h' m) (N : News g L h' news) (hl : NAll h mu) (e : KpAll wr news mu) : Kp wr h h' :=
  kp_part k F N fun a ha => by
    with_reducible refine Classical.byContradiction fun hZq => ?_
    obtain ⟨p, hp, rfl⟩ := List.mem_map.mp ha
    refine hZq ?_
    clear hZq
    rcases e.mem p hp with e1 | e1
    · exact .inr ⟨p.2, hl.mem p hp, e1⟩
    · exact .inl e1
theorem ne_of_data {g : Heap} {L a b : Addr} {oa ob : Obj} {h : Heap} {news : List (Addr × Obj)} (N : News g L h news) (ha : (a, oa) ∈ news) (hb : (b, ob) ∈ news) (ne : oa.data ≠ ob.data) : a ≠ b := fun e => by
  have h1 := (N _ ha).1
  have h2 := (N _ hb).1
  rw [e] at h1
  exact ne (congrArg Obj.data (Option.some.inj (h1.symm.trans h2)))
theorem read_spec (w : World) (s : Shared) (R : Result → Shared → Prop) (a : LxA) (ok : a.Ok w) (ln : Int) (tl : Tok) (ys : List Value) (cs : List Nat) (n : Nat)
  (G : Gd (K0 w.params) (hideAll s.heap [a.x, a.dx, a.hx, a.hdx, a.fA, a.cc, a.cA, a.D])) (hled : NAll s.heap (a.led w ln tl ys n)) (hys : StrsAre ys (cs.map sg)) (hlen : cs.length ≤ 100000) (hln : 0 ≤ ln ∧ ln ≤ 1000000)
  (hret : ∀ (h' : Heap) (tk' n' : Nat) (t' tl' : Tok), Kp [a.dx, a.D] s.heap h' → h'.get? a.dx = some (dictOf (lxEs w a.k0 a.k1 a.k2 a.k3 (ln + if cs.head? = some 10 then 1 else 0) tl' (.ref a.hx) a.tw a.pb) 4) → h'.get? a.D = some (listOf (ys.drop 1).reverse.toArray n') →
    R (.ok (.ret (.str (T (cs.take 1)) t'))) { s with heap := h', toks := tk' }) :
  codeAny (model prog w) (lv 11) (.call (.ref 122) ⟨[.ref a.x], []⟩) R s := by
  have _kf : (PySem.Challenge.rw_pg0230_01, K0) = (PySem.Challenge.rw_pg0230_01, K0) := by k_fill; rfl
  with_reducible refine Classical.byContradiction fun hZq => ?_
  obtain ⟨x, dx, pb, hx, hdx, hpb, fA, cc, cA, D, fo, cco, co, k0, k1, k2, k3, tw, j0, j1, j2, j3, j4, jl, jw⟩ := a
  refine hZq ?_
  clear hZq
  with_reducible refine Classical.byContradiction fun hZq => ?_
  obtain ⟨ts, n1, fcls, ⟨fd, fdat⟩, cdat, ⟨ccv, ccdat⟩, n2⟩ := ok
  refine hZq ?_
  clear hZq
  unfold TakeSpec at ts
  dsimp only at G ts n1 fcls fdat cdat ccdat hret ⊢
  refine' enter_plain (K := K0 w.params) (binds := [((PySem.Str.ofString "self"), .ref x)]) (rb := [((PySem.Str.ofString "self"), .ref x)]) (LxA.led ⟨x, dx, pb, hx, hdx, hpb, fA, cc, cA, D, fo, cco, co, k0, k1, k2, k3, tw, j0, j1, j2, j3, j4, jl, jw⟩ w ln tl ys n) G hled.mem ?ho ?hcd ?hroom ?hbind ?hloc ?hrb ?_ ?c1 ?c2 ?c3 ?c4
  (( (case ho => k_is); (case hcd => k_is); (case hroom => k_room); (case hbind => exact BindsTo.of_eq rfl); (case hloc => exact locs rfl); (case hrb => exact rfl); (case c1 => decide); (case c2 => exact rfl); (case c3 => exact rfl); (case c4 => exact rfl); k_whole))
  intro g L h0 pp loose mean mg mb kg F0 N0 X TT l1 l2
  dsimp only [LxA.led, lxEs, hxEs, List.cons_append, List.nil_append] at N0
  k_steps
  unfold Stop
  dsimp only
  refine callWith_def (fd := fd) (o := fo) fdat ?_
  k_steps
  · exact (N0 _ (.tail _ (.tail _ (.tail _ (.tail _ (.head _)))))).1
  unfold Stop
  refine wpAny_call ?_
  refine' codeAny_at (A' := lv 9) ?a1 ?a2 ?a3 ?a4 ?a5 ?_
  (case a1 => exact rfl); (case a2 => (exact Nat.le_of_ble_eq_true rfl)); (case a3 => (exact Nat.le_of_ble_eq_true rfl)); (case a4 => exact rfl); (case a5 => exact rfl)
  with_reducible refine' ts _ _ _ ys cs n ?b1 ?b2 ?b3 ?b4 ?b5 hys hlen ?_
  (case b1 => exact gd_of X TT F0 N0 [fA, cc, cA, D] (HasAll.mem (by ((repeat (refine And.intro ⟨_, by k_mem⟩ ?_)); exact True.intro))))
  (case b2 => exact (N0 _ (.tail _ (.tail _ (.tail _ (.tail _ (.head _)))))).1)
  (case b3 => exact (N0 _ (.tail _ (.tail _ (.tail _ (.tail _ (.tail _ (.head _))))))).1)
  (case b4 => exact (N0 _ (.tail _ (.tail _ (.tail _ (.tail _ (.tail _ (.tail _ (.head _)))))))).1)
  (case b5 => exact (N0 _ (.tail _ (.tail _ (.tail _ (.tail _ (.tail _ (.tail _ (.tail _ (.head _))))))))).1)
  intro h1 tk1 n1' t1 K1 e1
  have q1 := neN (ne_of_cls N0 (.tail _ (.tail _ (.tail _ (.tail _ (.tail _ (.tail _ (.tail _ (.head _)))))))) (.head _) (fun e => nomatch e))
  have q2 := neN (ne_of_cls N0 (.tail _ (.tail _ (.tail _ (.tail _ (.tail _ (.tail _ (.tail _ (.head _)))))))) (.tail _ (.head _)) (fun e => by injection e with e; exact absurd e (by decide)))
  have q3 := neN (ne_of_cls N0 (.tail _ (.tail _ (.tail _ (.tail _ (.tail _ (.tail _ (.tail _ (.head _)))))))) (.tail _ (.tail _ (.head _))) (fun e => nomatch e))
  have q4 := neN (ne_of_cls N0 (.tail _ (.tail _ (.tail _ (.tail _ (.tail _ (.tail _ (.tail _ (.head _)))))))) (.tail _ (.tail _ (.tail _ (.head _)))) (fun e => by injection e with e; exact absurd e (by decide)))
  have q5 := neN (ne_of_data N0 (.tail _ (.tail _ (.tail _ (.tail _ (.tail _ (.tail _ (.tail _ (.head _)))))))) (.tail _ (.tail _ (.tail _ (.tail _ (.head _))))) (fun e => by rw [fdat] at e; exact nomatch e))
  have q6 := neN (ne_of_data N0 (.tail _ (.tail _ (.tail _ (.tail _ (.tail _ (.tail _ (.tail _ (.head _)))))))) (.tail _ (.tail _ (.tail _ (.tail _ (.tail _ (.head _)))))) (fun e => by rw [ccdat] at e; exact nomatch e))
  have q7 := neN (ne_of_data N0 (.tail _ (.tail _ (.tail _ (.tail _ (.tail _ (.tail _ (.tail _ (.head _)))))))) (.tail _ (.tail _ (.tail _ (.tail _ (.tail _ (.tail _ (.head _))))))) (fun e => by rw [cdat] at e; exact nomatch e))
  obtain ⟨F1, N1⟩ := afterL [_, _, _, _, _, _, _, (D, listOf (ys.drop 1).reverse.toArray n1')] F0 N0 K1 (by ((repeat (refine And.intro ⟨_, by k_mem⟩ ?_)); exact True.intro)) ⟨.inl ⟨.head _, by ((simp only [List.mem_cons, List.not_mem_nil, or_false, not_or, not_false_iff]; repeat' (first | apply And.intro | k_ne)))⟩, .inl ⟨.tail _ (.head _), by ((simp only [List.mem_cons, List.not_mem_nil, or_false, not_or, not_false_iff]; repeat' (first | apply And.intro | k_ne)))⟩, .inl ⟨.tail _ (.tail _ (.head _)), by ((simp only [List.mem_cons, List.not_mem_nil, or_false, not_or, not_false_iff]; repeat' (first | apply And.intro | k_ne)))⟩, .inl ⟨.tail _ (.tail _ (.tail _ (.head _))), by ((simp only [List.mem_cons, List.not_mem_nil, or_false, not_or, not_false_iff]; repeat' (first | apply And.intro | k_ne)))⟩, .inl ⟨.tail _ (.tail _ (.tail _ (.tail _ (.head _)))), by ((simp only [List.mem_cons, List.not_mem_nil, or_false, not_or, not_false_iff]; repeat' (first | apply And.intro | k_ne)))⟩, .inl ⟨.tail _ (.tail _ (.tail _ (.tail _ (.tail _ (.head _))))), by ((simp only [List.mem_cons, List.not_mem_nil, or_false, not_or, not_false_iff]; repeat' (first | apply And.intro | k_ne)))⟩, .inl ⟨.tail _ (.tail _ (.tail _ (.tail _ (.tail _ (.tail _ (.head _)))))), by ((simp only [List.mem_cons, List.not_mem_nil, or_false, not_or, not_false_iff]; repeat' (first | apply And.intro | k_ne)))⟩, .inr ⟨e1, .inl ⟨_, .tail _ (.tail _ (.tail _ (.tail _ (.tail _ (.tail _ (.tail _ (.head _)))))))⟩⟩, trivial⟩
  have d0 := neN n1
  have d1 := neN (ne_of_cls N1 (.tail _ (.head _)) (.head _) (fun e => nomatch e))
  have d2 := neN (ne_of_cls N1 (.tail _ (.head _)) (.tail _ (.tail _ (.head _))) (fun e => nomatch e))
  have d3 := neN (ne_of_data N1 (.tail _ (.head _)) (.tail _ (.tail _ (.tail _ (.tail _ (.head _))))) (fun e => by rw [fdat] at e; exact nomatch e))
  have d4 := neN (ne_of_data N1 (.tail _ (.head _)) (.tail _ (.tail _ (.tail _ (.tail _ (.tail _ (.head _)))))) (fun e => by rw [ccdat] at e; exact nomatch e))
  have d5 := neN (ne_of_data N1 (.tail _ (.head _)) (.tail _ (.tail _ (.tail _ (.tail _ (.tail _ (.tail _ (.head _))))))) (fun e => by rw [cdat] at e; exact nomatch e))
  cases cs with
  | nil =>
    k_steps
    rename News _ _ _ _ => N2
    exact hret _ _ _ _ _ (kp_led kg (by assumption) N2 hled (by ((repeat (refine And.intro ?_ ?_; (focus (first | exact .inl (by k_mem) | exact .inr (by k_mem))))); exact True.intro))) ((Int.add_zero ln).symm ▸ (N2 _ (.tail _ (.head _))).1) (N2 _ (.tail _ (.tail _ (.tail _ (.tail _ (.tail _ (.tail _ (.tail _ (.head _))))))))).1
  | cons c cs =>
    have hc1 : (T (List.take 1 (c :: cs))) = ⟨#[c]⟩ := rfl
    rw [hc1] at hret ⊢
    by_cases hc : c = 10
    · subst hc
      k_steps
      rename News _ _ _ _ => N2
      exact hret _ _ _ _ _ (kp_led kg (by assumption) N2 hled (by ((repeat (refine And.intro ?_ ?_; (focus (first | exact .inl (by k_mem) | exact .inr (by k_mem))))); exact True.intro))) (N2 _ (.tail _ (.head _))).1 (N2 _ (.tail _ (.tail _ (.tail _ (.tail _ (.tail _ (.tail _ (.tail _ (.head _))))))))).1
    have q1 := sign_ne hc (s := PySem.Str.ofString "\n") (by decide +kernel)
    have hcc : (if (c :: cs).head? = some 10 then 1 else 0 : Int) = 0 := if_neg fun e => hc (by simpa using e)
    rw [hcc, Int.add_zero] at hret
    k_steps
    all_goals first | exact absurd (q1.symm.trans (by assumption)) (by decide) | skip
    rename News _ _ _ _ => N2
    exact hret _ _ _ _ _ (kp_led kg (by assumption) N2 hled (by ((repeat (refine And.intro ?_ ?_; (focus (first | exact .inl (by k_mem) | exact .inr (by k_mem))))); exact True.intro))) (N2 _ (.tail _ (.head _))).1 (N2 _ (.tail _ (.tail _ (.tail _ (.tail _ (.tail _ (.tail _ (.tail _ (.head _))))))))).1

end partRd1
theorem off_Gp1 : (1 : Nat) = 1 := by
  w_top off
  first | walk1 | rfl
section partGp1
local macro_rules | `(tactic| walk_at "call ref") => `(tactic| refine stop_at ?_)
end partGp1
theorem off_Fi1 : (1 : Nat) = 1 := by
  w_top off
  first | walk1 | rfl
section partFi1
/-- the ledger of the lexer but for the two that are written -/
noncomputable abbrev LxA.six (a : LxA) (w : World) : List (Addr × Obj) :=
  [(a.x, instObj 139 a.dx), (a.hx, instObj 139 a.hdx), (a.hdx, dictOf (hxEs w a.j0 a.j1 a.j2 a.j3 a.j4 1 a.jl .none a.jw a.hpb a.fA) 5), (a.fA, a.fo), (a.cc, a.cco), (a.cA, a.co)]
theorem led_six {a : LxA} {w : World} {ln : Int} {tl : Tok} {ys : List Value} {n : Nat} {p : Addr × Obj} (h : p ∈ a.led w ln tl ys n) :
    p = (a.dx, dictOf (lxEs w a.k0 a.k1 a.k2 a.k3 ln tl (.ref a.hx) a.tw a.pb) 4) ∨ p = (a.D, listOf ys.reverse.toArray n) ∨ p ∈ a.six w := by
  rcases List.mem_cons.mp h with e | h
  · exact .inr (.inr (e ▸ .head _))
  rcases List.mem_cons.mp h with e | h
  · exact .inl e
  rcases List.mem_cons.mp h with e | h
  · exact .inr (.inr (e ▸ .tail _ (.head _)))
  rcases List.mem_cons.mp h with e | h
  · exact .inr (.inr (e ▸ .tail _ (.tail _ (.head _))))
  rcases List.mem_cons.mp h with e | h
  · exact .inr (.inr (e ▸ .tail _ (.tail _ (.tail _ (.head _)))))
  rcases List.mem_cons.mp h with e | h
  · exact .inr (.inr (e ▸ .tail _ (.tail _ (.tail _ (.tail _ (.head _))))))
  rcases List.mem_cons.mp h with e | h
  · exact .inr (.inr (e ▸ .tail _ (.tail _ (.tail _ (.tail _ (.tail _ (.head _)))))))
  exact .inr (.inl (List.mem_singleton.mp h))
theorem six_led {a : LxA} {w : World} (ln : Int) (tl : Tok) (ys : List Value) (n : Nat) {p : Addr × Obj} (h : p ∈ a.six w) : p ∈ a.led w ln tl ys n := by
  rcases List.mem_cons.mp h with rfl | h
  · exact .head _
  rcases List.mem_cons.mp h with rfl | h
  · exact .tail _ (.tail _ (.head _))
  rcases List.mem_cons.mp h with rfl | h
  · exact .tail _ (.tail _ (.tail _ (.head _)))
  rcases List.mem_cons.mp h with rfl | h
  · exact .tail _ (.tail _ (.tail _ (.tail _ (.head _))))
  rcases List.mem_cons.mp h with rfl | h
  · exact .tail _ (.tail _ (.tail _ (.tail _ (.tail _ (.head _)))))
  rw [List.mem_singleton.mp h]
  exact .tail _ (.tail _ (.tail _ (.tail _ (.tail _ (.tail _ (.head _))))))
theorem six_off {a : LxA} {w : World} (ok : a.Ok w) {g h : Heap} {L : Addr} {news : List (Addr × Obj)} (N : News g L h news) {ln : Int} {tl : Tok} {ys : List Value} {n : Nat} (hs : ∀ p ∈ a.led w ln tl ys n, p ∈ news) :
    ∀ p ∈ a.six w, p.1 ≠ a.dx ∧ p.1 ≠ a.D := by
  with_reducible refine Classical.byContradiction fun hZq => ?_
  obtain ⟨ts, n1, fcls, ⟨fd, fdat⟩, cdat, ⟨ccv, ccdat⟩, n2⟩ := ok
  refine hZq ?_
  clear hZq
  have md := hs _ (.tail _ (.head _))
  have mD := hs _ (.tail _ (.tail _ (.tail _ (.tail _ (.tail _ (.tail _ (.tail _ (.head _))))))))
  intro p hp
  have hm := hs p (six_led ln tl ys n hp)
  rcases List.mem_cons.mp hp with rfl | hp
  · exact ⟨ne_of_cls N hm md (fun e => nomatch e), ne_of_cls N hm mD (fun e => nomatch e)⟩
  rcases List.mem_cons.mp hp with rfl | hp
  · exact ⟨ne_of_cls N hm md (fun e => nomatch e), ne_of_cls N hm mD (fun e => nomatch e)⟩
  rcases List.mem_cons.mp hp with rfl | hp
  · exact ⟨Ne.symm n1, ne_of_cls N hm mD (fun e => by injection e with e; exact absurd e (by decide))⟩
  rcases List.mem_cons.mp hp with rfl | hp
  · exact ⟨ne_of_data N hm md (fun e => by rw [fdat] at e; exact nomatch e), ne_of_data N hm mD (fun e => by rw [fdat] at e; exact nomatch e)⟩
  rcases List.mem_cons.mp hp with rfl | hp
  · exact ⟨ne_of_data N hm md (fun e => by rw [ccdat] at e; exact nomatch e), ne_of_data N hm mD (fun e => by rw [ccdat] at e; exact nomatch e)⟩
  rw [List.mem_singleton.mp hp] at hm ⊢
  exact ⟨ne_of_data N hm md (fun e => by rw [cdat] at e; exact nomatch e), ne_of_data N hm mD (fun e => by rw [cdat] at e; exact nomatch e)⟩
theorem nall_of {h : Heap} : ∀ {l : List (Addr × Obj)}, (∀ p ∈ l, h.get? p.1 = some p.2) → NAll h l
  | [], _ => trivial
  | p :: r, hl => ⟨hl p (.head _), nall_of fun q hq => hl q (.tail _ hq)⟩
/-- the lexer's two written: the ledger behind it -/
theorem led_after {w : World} {a : LxA} (ok : a.Ok w) {ln ln' : Int} {tl tl' : Tok} {ys ys' : List Value} {n n' : Nat} {g h' : Heap} {s : Shared} {L : Addr} {m : Str → Option Value} {pre post : List (Addr × Obj)}
    (F : Fr g L s.heap m) (N : News g L s.heap (pre ++ (a.led w ln tl ys n ++ post))) (hoff : ∀ p, (p ∈ pre ∨ p ∈ post) → p.1 ≠ a.dx ∧ p.1 ≠ a.D) (K : Kp [a.dx, a.D] s.heap h')
    (e1 : h'.get? a.dx = some (dictOf (lxEs w a.k0 a.k1 a.k2 a.k3 ln' tl' (.ref a.hx) a.tw a.pb) 4)) (e2 : h'.get? a.D = some (listOf ys'.reverse.toArray n')) :
    Fr g L h' m ∧ News g L h' (pre ++ (a.led w ln' tl' ys' n' ++ post)) := by
  have sub : ∀ p ∈ a.led w ln tl ys n, p ∈ pre ++ (a.led w ln tl ys n ++ post) := fun p hp => List.mem_append.mpr (.inr (List.mem_append.mpr (.inl hp)))
  have o6 := six_off ok N sub
  have off : ∀ q : Addr × Obj, (q.1 ≠ a.dx ∧ q.1 ≠ a.D) → q.1 ∉ [a.dx, a.D] := fun q hq hc => by
    rcases List.mem_cons.mp hc with e | hc
    · exact hq.1 e
    · exact hq.2 (List.mem_singleton.mp hc)
  refine after _ F N K (fun b hb => ?_) (fun p hp => ?_)
  · rcases List.mem_cons.mp hb with rfl | hb
    · exact ⟨_, sub _ (.tail _ (.head _))⟩
    · rw [List.mem_singleton.mp hb]; exact ⟨_, sub _ (.tail _ (.tail _ (.tail _ (.tail _ (.tail _ (.tail _ (.tail _ (.head _))))))))⟩
  · rcases List.mem_append.mp hp with hp | hp
    · exact .inl ⟨List.mem_append.mpr (.inl hp), off p (hoff p (.inl hp))⟩
    rcases List.mem_append.mp hp with hp | hp
    · rcases led_six hp with rfl | rfl | h6
      · exact .inr ⟨e1, .inl ⟨_, sub _ (.tail _ (.head _))⟩⟩
      · exact .inr ⟨e2, .inl ⟨_, sub _ (.tail _ (.tail _ (.tail _ (.tail _ (.tail _ (.tail _ (.tail _ (.head _))))))))⟩⟩
      · exact .inl ⟨sub _ (six_led _ _ _ _ h6), off p (o6 p h6)⟩
    · exact .inl ⟨List.mem_append.mpr (.inr (List.mem_append.mpr (.inr hp))), off p (hoff p (.inr hp))⟩
/-- _read_char called upon a ledger that holds the lexer -/
theorem read_led (w : World) (s : Shared) (R : Result → Shared → Prop) (a : LxA) (ok : a.Ok w) (ln : Int) (tl : Tok) (ys : List Value) (cs : List Nat) (n : Nat) {g : Heap} {L : Addr} {m : Str → Option Value} {pre post : List (Addr × Obj)}
  {pp : Program} {loose : List Str} {mean : ExcName → Option Value} {mg mb : Str → Option Value} (X : (K0 w.params).In g) (TT : Top pp loose mean mg mb g)
  (F : Fr g L s.heap m) (N : News g L s.heap (pre ++ (a.led w ln tl ys n ++ post))) (hoff : ∀ p, (p ∈ pre ∨ p ∈ post) → p.1 ≠ a.dx ∧ p.1 ≠ a.D)
  (hys : StrsAre ys (cs.map sg)) (hlen : cs.length ≤ 100000) (hln : 0 ≤ ln ∧ ln ≤ 1000000)
  (hret : ∀ (h' : Heap) (tk' n' : Nat) (t' tl' : Tok), Fr g L h' m → News g L h' (pre ++ (a.led w (ln + if cs.head? = some 10 then 1 else 0) tl' (ys.drop 1) n' ++ post)) → R (.ok (.ret (.str (T (cs.take 1)) t'))) { s with heap := h', toks := tk' }) :
  codeAny (model prog w) (lv 11) (.call (.ref 122) ⟨[.ref a.x], []⟩) R s := by
  have sub : ∀ p ∈ a.led w ln tl ys n, p ∈ pre ++ (a.led w ln tl ys n ++ post) := fun p hp => List.mem_append.mpr (.inr (List.mem_append.mpr (.inl hp)))
  refine read_spec w s R a ok ln tl ys cs n (gd_of X TT F N _ (HasAll.mem ⟨⟨_, sub _ (.head _)⟩, ⟨_, sub _ (.tail _ (.head _))⟩, ⟨_, sub _ (.tail _ (.tail _ (.head _)))⟩, ⟨_, sub _ (.tail _ (.tail _ (.tail _ (.head _))))⟩, ⟨_, sub _ (.tail _ (.tail _ (.tail _ (.tail _ (.head _)))))⟩, ⟨_, sub _ (.tail _ (.tail _ (.tail _ (.tail _ (.tail _ (.head _))))))⟩, ⟨_, sub _ (.tail _ (.tail _ (.tail _ (.tail _ (.tail _ (.tail _ (.head _)))))))⟩, ⟨_, sub _ (.tail _ (.tail _ (.tail _ (.tail _ (.tail _ (.tail _ (.tail _ (.head _))))))))⟩, trivial⟩)) (nall_of fun p hp => (N p (sub p hp)).1) hys hlen hln ?_
  intro h' tk' n' t' tl' K e1 e2
  obtain ⟨F', N'⟩ := led_after ok F N hoff K e1 e2
  exact hret h' tk' n' t' tl' F' N'
theorem strs_drop {ys : List Value} {cs : List Nat} (h : StrsAre ys (cs.map sg)) : StrsAre (ys.drop 1) ((cs.drop 1).map sg) := by
  cases cs with
  | nil => cases h; exact .nil
  | cons c cs => rw [List.map_cons] at h; cases h with | cons _ _ h => exact h
noncomputable abbrev itB (B : Addr) (tsn : Tok) : Obj := citObj (.ref B) (.str (PySem.Str.ofString "") tsn) (.bool false)
noncomputable abbrev itE : Obj := citObj .none .none (.bool true)
/-- the ledger of get_token: its iterator, the bound method, the lexer -/
noncomputable abbrev LxA.rled (a : LxA) (w : World) (I B : Addr) (oI : Obj) (ln : Int) (tl : Tok) (ys : List Value) (n np : Nat) : List (Addr × Obj) :=
  [(I, oI), (B, methodObj (.ref 122) (.ref a.x))] ++ (a.led w ln tl ys n ++ [(a.pb, listOf #[] np)])
theorem rled_off {a : LxA} {w : World} (ok : a.Ok w) {g h : Heap} {L I B : Addr} {oI : Obj} {ln : Int} {tl : Tok} {ys : List Value} {n np : Nat} (N : News g L h (a.rled w I B oI ln tl ys n np)) (hI : oI.cls = .type "callable_iterator") :
    ∀ p, (p ∈ [(I, oI), (B, methodObj (.ref 122) (.ref a.x))] ∨ p ∈ [(a.pb, listOf #[] np)]) → p.1 ≠ a.dx ∧ p.1 ≠ a.D := by
  have md := (N : News g L h _) 
  have m2 : (a.dx, _) ∈ a.rled w I B oI ln tl ys n np := .tail _ (.tail _ (.tail _ (.head _)))
  have mD : (a.D, _) ∈ a.rled w I B oI ln tl ys n np := .tail _ (.tail _ (.tail _ (.tail _ (.tail _ (.tail _ (.tail _ (.tail _ (.tail _ (.head _)))))))))
  rintro p (hp | hp)
  · rcases List.mem_cons.mp hp with rfl | hp
    · exact ⟨ne_of_cls N (.head _) m2 (fun e => by rw [hI] at e; injection e with e; exact absurd e (by decide)), ne_of_cls N (.head _) mD (fun e => by rw [hI] at e; injection e with e; exact absurd e (by decide))⟩
    · rw [List.mem_singleton.mp hp]
      exact ⟨ne_of_cls N (.tail _ (.head _)) m2 (fun e => by injection e with e; exact absurd e (by decide)), ne_of_cls N (.tail _ (.head _)) mD (fun e => by injection e with e; exact absurd e (by decide))⟩
  · rw [List.mem_singleton.mp hp]
    exact ⟨ne_of_cls N (.tail _ (.tail _ (.tail _ (.tail _ (.tail _ (.tail _ (.tail _ (.tail _ (.tail _ (.tail _ (.head _))))))))))) m2 (fun e => by injection e with e; exact absurd e (by decide)), Ne.symm ok.n2⟩
theorem empty_T : PySem.Str.ofString "" = T [] := by decide +kernel
/-- the iterator's next sign, or its end -/
theorem fiter_next (w : World) {A : Around} {E : Value → Shared → Prop} (a : LxA) (ok : a.Ok w) (ln : Int) (tl : Tok) (ys : List Value) (cs : List Nat) (n np : Nat) {g h : Heap} {L I B : Addr} {tsn : Tok} {m : Str → Option Value} {gn : Array GenState} {dr : Drawn} {tk : Nat} {os : OsState}
  {pp : Program} {loose : List Str} {mean : ExcName → Option Value} {mg mb : Str → Option Value} {Q : Option Value → Shared → Prop} (X : (K0 w.params).In g) (TT : Top pp loose mean mg mb g)
  (hA1 : A.in1.handled = none) (hA2 : A.in1.depth ≤ (lv 11).depth) (hA3 : A.in1.units ≤ (lv 11).units)
  (F : Fr g L h m) (N : News g L h (a.rled w I B (itB B tsn) ln tl ys n np)) (hys : StrsAre ys (cs.map sg)) (hlen : cs.length ≤ 100000) (hln : 0 ≤ ln ∧ ln ≤ 1000000) (hI : I ∉ [B, a.x, a.dx, a.hx, a.hdx, a.fA, a.cc, a.cA, a.D, a.pb])
  (h1 : ∀ c r h' tk' ys' n' tl' t, cs = c :: r → Fr g L h' m → News g L h' (a.rled w I B (itB B tsn) (ln + if c = 10 then 1 else 0) tl' ys' n' np) → StrsAre ys' (r.map sg) → Q (some (.str ⟨#[c]⟩ t)) ⟨h', gn, dr, tk', os⟩)
  (h2 : cs = [] → ∀ h' tk' ys' n' tl', Fr g L h' m → News g L h' (a.rled w I B itE ln tl' ys' n' np) → StrsAre ys' (([] : List Nat).map sg) → Q none ⟨h', gn, dr, tk', os⟩) :
  wpAny (model prog w) A (pyNext (.ref I)) Q E ⟨h, gn, dr, tk, os⟩ := by
  have off := rled_off ok N rfl
  obtain ⟨o, d, fd, hf⟩ : ∃ o d fd, ((K0 w.params).lookup 122 = some ⟨o, d, .func fd, #[]⟩) := by
    have _kf : (PySem.Challenge.rw_pg0230_01, K0) = (PySem.Challenge.rw_pg0230_01, K0) := by k_fill; rfl
    exact ⟨_, _, _, rfl⟩
  have hf0 : ∀ h' : Heap, (∀ b o, g.get? b = some o → h'.get? b = some o) → h'.get? 122 = some ⟨o, d, .func fd, #[]⟩ := fun h' k => k _ _ (X _ _ hf)
  refine next_call (s := ⟨h, gn, dr, tk, os⟩) (N _ (.head _)).1 (N _ (.tail _ (.head _))).1 (hf0 _ F.keep) rfl hA1 ?_
  refine codeAny_at (A' := lv 11) hA1 hA2 hA3 rfl rfl ?_
  refine read_led w _ _ a ok ln tl ys cs n X TT F N off hys hlen hln ?_
  intro h' tk' n' t' tl' F' N'
  refine ⟨_, _, rfl, (N' _ (.head _)).1, (N' _ (.tail _ (.head _))).1, hf0 _ F'.keep, ?_⟩
  cases cs with
  | nil =>
    rw [if_pos (show PySem.Str.ofString "" = T (List.take 1 []) from empty_T)]
    intro h3 e3 x3
    have kI : Kp [I] h' h3 := fun b o nb e => x3 b o (fun q => nb (q ▸ .head _)) e
    have nm : ∀ p ∈ [(B, methodObj (.ref 122) (.ref a.x))] ++ (a.led w (ln + 0) tl' (ys.drop 1) n' ++ [(a.pb, listOf #[] np)]), p.1 ∈ [B, a.x, a.dx, a.hx, a.hdx, a.fA, a.cc, a.cA, a.D, a.pb] := fun p hp => List.mem_map_of_mem (f := (·.1)) hp
    have N3 := kp_news (wr := [I]) (fun p hp => N' p (.tail _ hp) : News g L h' ([(B, methodObj (.ref 122) (.ref a.x))] ++ (a.led w (ln + 0) tl' (ys.drop 1) n' ++ [(a.pb, listOf #[] np)]))) kI (fun p hp q => hI (List.mem_singleton.mp q ▸ nm p hp))
    have hI3 := (N' _ (.head _)).2
    have F3 := kp_fr F' kI (fun q => hI3.1 (List.mem_singleton.mp q).symm) (fun b hb => by rw [List.mem_singleton.mp hb]; exact hI3.2)
    refine h2 rfl h3 tk' (ys.drop 1) n' tl' F3 (fun p hp => ?_) (strs_drop hys)
    rcases List.mem_cons.mp hp with rfl | hp
    · exact ⟨e3, hI3⟩
    · have := N3 p (by rw [Int.add_zero]; exact hp)
      exact this
  | cons c r =>
    have hne : ¬ PySem.Str.ofString "" = T (List.take 1 (c :: r)) := by
      rw [empty_T]
      exact fun e => nomatch T_inj e
    rw [if_neg hne]
    have hcc : (if (c :: r).head? = some 10 then 1 else 0 : Int) = if c = 10 then 1 else 0 := by
      by_cases hc : c = 10 <;> simp [hc]
    rw [hcc] at N'
    exact h1 c r h' tk' _ n' tl' t' rfl F' N' (strs_drop hys)

end partFi1
theorem off_Gr1 : (1 : Nat) = 1 := by
  w_top off
  first | walk1 | rfl
section partGr1
local macro_rules | `(tactic| walk_at "call ref") => `(tactic| refine stop_at ?_)
noncomputable def wsc (c : Nat) : Bool := c == 10 || c == 9 || c == 13 || c == 32
noncomputable def tkQ : List Nat → List Nat → List Nat × List Nat
  | [], acc => (acc, [])
  | [c], acc => if c = 34 then (acc, []) else if c = 92 then (acc, []) else (acc ++ [c], [])
  | c :: d :: r, acc => if c = 34 then (acc, d :: r) else if c = 92 then tkQ r (acc ++ [d]) else tkQ (d :: r) (acc ++ [c])
noncomputable def tkB : List Nat → List Nat → List Nat × List Nat
  | [], acc => (acc, [])
  | [c], acc => if wsc c then (acc, []) else if c = 92 then (acc, []) else (acc ++ [c], [])
  | c :: d :: r, acc => if wsc c then (acc, d :: r) else if c = 92 then tkB r (acc ++ [d]) else tkB (d :: r) (acc ++ [c])
noncomputable def tkS : List Nat → List Nat × List Nat
  | [] => ([], [])
  | c :: r => if wsc c then tkS r else if c = 34 then tkQ r [] else if c = 92 then tkB (r.drop 1) (r.take 1) else tkB r [c]
theorem tkQ_q (r acc : List Nat) : tkQ (34 :: r) acc = (acc, r) := by cases r <;> simp [tkQ]
theorem tkQ_e (r acc : List Nat) : tkQ (92 :: r) acc = tkQ (r.drop 1) (acc ++ r.take 1) := by cases r <;> simp [tkQ]
theorem tkQ_c {c : Nat} (r acc : List Nat) (h1 : ¬ c = 34) (h2 : ¬ c = 92) : tkQ (c :: r) acc = tkQ r (acc ++ [c]) := by cases r <;> simp [tkQ, h1, h2]
theorem tkB_q {c : Nat} (r acc : List Nat) (h : wsc c = true) : tkB (c :: r) acc = (acc, r) := by cases r <;> simp [tkB, h]
theorem tkB_e (r acc : List Nat) : tkB (92 :: r) acc = tkB (r.drop 1) (acc ++ r.take 1) := by
  have h : wsc 92 = false := by decide
  cases r <;> simp [tkB, h]
theorem tkB_c {c : Nat} (r acc : List Nat) (h1 : wsc c = false) (h2 : ¬ c = 92) : tkB (c :: r) acc = tkB r (acc ++ [c]) := by cases r <;> simp [tkB, h1, h2]
noncomputable def nlc (l : List Nat) : Int := (l.count 10 : Int)
theorem occ_ws (c : Nat) : (Builtin.Str.occurrences (PySem.Str.ofString "\n\t\r ") ⟨#[c]⟩ 0 (PySem.Str.ofString "\n\t\r ").length 1).isEmpty = !wsc c := by
  have h := StrLaws.found_one (PySem.Str.ofString "\n\t\r ") c
  have e : (PySem.Str.ofString "\n\t\r ").cps.toList = [10, 9, 13, 32] := by decide +kernel
  rw [e] at h
  have hw : decide (c ∈ [10, 9, 13, 32]) = wsc c := by
    unfold wsc
    simp only [List.mem_cons, List.not_mem_nil, or_false, Bool.decide_or]
    simp only [Bool.or_assoc]
    rfl
  rw [hw] at h
  rw [← h, Bool.not_not]
theorem iter2_K {prog : Program} {w : World} {A : Around} {E : Value → Shared → Prop} {g h : Heap} {L B : Addr} {m : Str → Option Value} {news : List (Addr × Obj)} {gn : Array GenState} {dr : Drawn} {tk : Nat} {os : OsState} {f x snt : Value} {Q : Value → Shared → Prop}
    (F : Fr g L h m) (N : News g L h news) (hm : (B, methodObj f x) ∈ news)
    (k : ∀ I h', Fr g L h' m → News g L h' ((I, citObj (.ref B) snt (.bool false)) :: news) → (∀ p ∈ news, p.1 < I) → Q (.ref I) ⟨h', gn, dr, tk, os⟩) :
    wpAny (model prog w) A (call (.builtin "iter") [.ref B, snt]) Q E ⟨h, gn, dr, tk, os⟩ :=
  iter2 (s := ⟨h, gn, dr, tk, os⟩) (N _ hm).1 (k _ _ (F.push _) (News.push F N _) fun p hp => Heap.lt_size (N p hp).1)
theorem nlc_b (l : List Nat) : 0 ≤ nlc l ∧ nlc l ≤ l.length := ⟨Int.natCast_nonneg _, by have := List.count_le_length (a := 10) (l := l); unfold nlc; omega⟩
theorem nlc_cons (c : Nat) (l : List Nat) : nlc (c :: l) = nlc l + if c = 10 then 1 else 0 := by
  unfold nlc
  by_cases h : c = 10
  · subst h; simp
  · simp [h]
theorem nlc_drop (l : List Nat) : nlc (l.drop 1) = nlc l - if l.head? = some 10 then 1 else 0 := by
  cases l with
  | nil => simp [nlc]
  | cons c r =>
    have := nlc_cons c r
    by_cases h : c = 10
    · simp [h] at this ⊢; omega
    · simp [h] at this ⊢; omega
noncomputable abbrev GtSb (w : World) (a : LxA) (I B : Addr) (tsn : Tok) (np : Nat) (g : Heap) (L : Addr) (s : Shared) (cs0 : List Nat) (ln0 : Int) (e : Bool) (tok : List Nat) (cs : List Nat) (s' : Shared) (h : Heap) (tk : Nat) (m : Str → Option Value) (ln : Int) (tl tt : Tok) (ys : List Value) (n : Nat) : Prop :=
  s' = { s with heap := h, toks := tk } ∧ Fr g L h (over [((PySem.Str.ofString "self"), .ref a.x), ((PySem.Str.ofString "token"), .str (T tok) tt), ((PySem.Str.ofString "fiter"), .ref I)] m) ∧ News g L h (a.rled w I B (if e then itE else itB B tsn) ln tl ys n np) ∧ StrsAre ys (cs.map sg) ∧ tok.length + cs.length ≤ cs0.length ∧ ln = ln0 + nlc cs0 - nlc cs ∧ nlc cs ≤ nlc cs0
/-- where get_token stands between two signs -/
noncomputable def GtS (w : World) (a : LxA) (I B : Addr) (tsn : Tok) (np : Nat) (g : Heap) (L : Addr) (s : Shared) (cs0 : List Nat) (ln0 : Int) (e : Bool) (tok : List Nat) (cs : List Nat) (s' : Shared) : Prop :=
  ∃ h tk m ln tl tt ys n, GtSb w a I B tsn np g L s cs0 ln0 e tok cs s' h tk m ln tl tt ys n
noncomputable abbrev GJ0 (w : World) (a : LxA) (I B : Addr) (tsn : Tok) (np : Nat) (g : Heap) (L : Addr) (s : Shared) (cs : List Nat) (ln : Int) (k : Nat) (s' : Shared) : Prop :=
  ∃ e tok cs', GtS w a I B tsn np g L s cs ln e tok cs' s' ∧ ((e = false ∧ tok = [] ∧ tkS cs = tkS cs' ∧ k = cs'.length + 2) ∨ (e = true ∧ cs' = [] ∧ tkS cs = (tok, []) ∧ k = 1))
noncomputable abbrev GJ1 (f : List Nat → List Nat → List Nat × List Nat) (r : List Nat) (w : World) (a : LxA) (I B : Addr) (tsn : Tok) (np : Nat) (g : Heap) (L : Addr) (s : Shared) (cs : List Nat) (ln : Int) (k : Nat) (s' : Shared) : Prop :=
  ∃ tok cs', GtS w a I B tsn np g L s cs ln false tok cs' s' ∧ tkS cs = f cs' tok ∧ cs'.length ≤ r.length ∧ k = cs'.length
theorem GtS.intro {w : World} {a : LxA} {I B : Addr} {tsn : Tok} {np : Nat} {g : Heap} {L : Addr} {s : Shared} {cs0 : List Nat} {ln0 : Int} {e : Bool} {tok : List Nat} {cs : List Nat} {h : Heap} {tk : Nat} {m : Str → Option Value} {ln : Int} {tl tt : Tok} {ys : List Value} {n : Nat} {oI : Obj}
    (F : Fr g L h m) (hat : AllAt m [((PySem.Str.ofString "self"), .ref a.x), ((PySem.Str.ofString "token"), .str (T tok) tt), ((PySem.Str.ofString "fiter"), .ref I)]) (N : News g L h (a.rled w I B oI ln tl ys n np)) (ho : oI = if e then itE else itB B tsn) (hys : StrsAre ys (cs.map sg)) (h1 : tok.length + cs.length ≤ cs0.length) (h2 : ln = ln0 + nlc cs0 - nlc cs) (h3 : nlc cs ≤ nlc cs0) :
    GtS w a I B tsn np g L s cs0 ln0 e tok cs { s with heap := h, toks := tk } :=
  ⟨h, tk, m, ln, tl, tt, ys, n, rfl, by rw [over_self hat]; exact F, ho ▸ N, hys, h1, h2, h3⟩
theorem cut2 {M : Model} {A : Around} {s1 s2 : Stmt} {rest : List Stmt} {env : Env} {Q : Flow → Shared → Prop} {E : Value → Shared → Prop} {s : Shared} (Mid : Shared → Prop)
    (h1 : wpAny M A (execs [s1, s2] env) (Next Mid) E s) (h2 : ∀ s', Mid s' → wpAny M A (execs rest env) Q E s') : wpAny M A (execs (s1 :: s2 :: rest) env) Q E s := cutN (body := s1 :: s2 :: rest) 2 Mid h1 h2
theorem ln_next {c : Nat} {r cs : List Nat} {ln ln2 : Int} (h : ln2 = ln + nlc cs - nlc (c :: r)) : ln2 + (if c = 10 then 1 else 0) = ln + nlc cs - nlc r := by
  have := nlc_cons c r
  omega
theorem le_next {c : Nat} {r : List Nat} {x : Int} (h : nlc (c :: r) ≤ x) : nlc r ≤ x := by
  have := nlc_cons c r
  have : (0 : Int) ≤ if c = 10 then 1 else 0 := by split <;> decide
  omega
theorem ln_drop (r cs : List Nat) (ln : Int) : ln + nlc cs - nlc r + (if r.head? = some 10 then 1 else 0) = ln + nlc cs - nlc (r.drop 1) := by
  have := nlc_drop r
  omega
theorem le_drop {r : List Nat} {x : Int} (h : nlc r ≤ x) : nlc (r.drop 1) ≤ x := by
  have := nlc_drop r
  have : (0 : Int) ≤ if r.head? = some 10 then 1 else 0 := by split <;> decide
  omega
theorem ln_b {r cs : List Nat} {ln x : Int} (hx : x = ln + nlc cs - nlc r) (hln : 0 ≤ ln ∧ ln ≤ 500000) (hlen : cs.length ≤ 100000) (h : nlc r ≤ nlc cs) : 0 ≤ x ∧ x ≤ 1000000 := by
  obtain ⟨z1, z2⟩ := nlc_b cs
  obtain ⟨z3, z4⟩ := nlc_b r
  omega
theorem len_b {tok r : List Nat} {n : Nat} (h : tok.length + r.length ≤ n) (hn : n ≤ 100000) : r.length ≤ 100000 := by omega
theorem len_bc {tok r : List Nat} {c n : Nat} (h : tok.length + (c :: r).length ≤ n) (hn : n ≤ 100000) : r.length ≤ 100000 := by rw [List.length_cons] at h; omega
theorem len_snoc {tok r : List Nat} {c n : Nat} (h : tok.length + (c :: r).length ≤ n) : (tok ++ [c]).length + r.length ≤ n := by
  rw [List.length_append, List.length_singleton]
  rw [List.length_cons] at h
  omega
theorem len_drop {tok r : List Nat} {c n : Nat} (h : tok.length + (c :: r).length ≤ n) : (tok ++ r.take 1).length + (r.drop 1).length ≤ n := by
  have : (r.take 1).length + (r.drop 1).length = r.length := by rw [← List.length_append, List.take_append_drop]
  rw [List.length_append]
  rw [List.length_cons] at h
  omega
theorem len_next {tok r : List Nat} {c n : Nat} (h : tok.length + (c :: r).length ≤ n) : tok.length + r.length ≤ n := by rw [List.length_cons] at h; omega
theorem drop_lt (c : Nat) (r : List Nat) : (r.drop 1).length < (c :: r).length := by rw [List.length_drop, List.length_cons]; omega
theorem drop_le {r : List Nat} {n : Nat} (h : r.length ≤ n) : (r.drop 1).length ≤ n := by rw [List.length_drop]; omega
theorem T_one {tok r : List Nat} {c n : Nat} (h : tok.length + (c :: r).length ≤ n) (hn : n ≤ 100000) : (T tok).length + (⟨#[c]⟩ : Str).length ≤ sizeLine := by
  show (T tok).length + (T [c]).length ≤ _
  rw [T_len, T_len, sizeLine_eq, List.length_singleton]
  omega
theorem T_two {tok r : List Nat} {c n : Nat} (h : tok.length + (c :: r).length ≤ n) (hn : n ≤ 100000) : (T tok).length + (T (r.take 1)).length ≤ sizeLine := by
  rw [T_len, T_len, sizeLine_eq, List.length_take]
  omega
local macro_rules | `(tactic| walk_at "execs cons If cons") => `(tactic| ((with_reducible show wpAny _ _ (execs (Stmt.If _ _ _ _ :: Stmt.AugAssign _ _ _ _ :: Stmt.For _ _ _ _ _ :: []) _) _ _ _); refine stop_at ?_))
theorem gettok_read (w : World) (s : Shared) (R : Result → Shared → Prop) (a : LxA) (ok : a.Ok w) (ln : Int) (tl : Tok) (ys : List Value) (cs : List Nat) (n np : Nat)
  (G : Gd (K0 w.params) (hideAll s.heap [a.x, a.dx, a.hx, a.hdx, a.fA, a.cc, a.cA, a.D, a.pb])) (hled : NAll s.heap (a.led w ln tl ys n ++ [(a.pb, listOf #[] np)])) (hys : StrsAre ys (cs.map sg)) (hlen : cs.length ≤ 100000) (hln : 0 ≤ ln ∧ ln ≤ 500000)
  (hret : ∀ (h' : Heap) (tk' n' : Nat) (t' tl' : Tok) (ys' : List Value), Kp [a.dx, a.D] s.heap h' → h'.get? a.dx = some (dictOf (lxEs w a.k0 a.k1 a.k2 a.k3 (ln + nlc cs - nlc (tkS cs).2) tl' (.ref a.hx) a.tw a.pb) 4) → h'.get? a.D = some (listOf ys'.reverse.toArray n') → StrsAre ys' ((tkS cs).2.map sg) →
    R (.ok (.ret (.str (T (tkS cs).1) t'))) { s with heap := h', toks := tk' }) :
  codeAny (model prog w) (lv 13) (.call (.ref 129) ⟨[.ref a.x], []⟩) R s := by
  have _kf : (PySem.Challenge.rw_pg0230_01, K0) = (PySem.Challenge.rw_pg0230_01, K0) := by k_fill; rfl
  refine' enter_plain (K := K0 w.params) (binds := [((PySem.Str.ofString "self"), .ref a.x)]) (rb := [((PySem.Str.ofString "self"), .ref a.x)]) (a.led w ln tl ys n ++ [(a.pb, listOf #[] np)]) G hled.mem ?ho ?hcd ?hroom ?hbind ?hloc ?hrb ?_ ?c1 ?c2 ?c3 ?c4
  (( (case ho => k_is); (case hcd => k_is); (case hroom => k_room); (case hbind => exact BindsTo.of_eq rfl); (case hloc => exact locs rfl); (case hrb => exact rfl); (case c1 => decide); (case c2 => exact rfl); (case c3 => exact rfl); (case c4 => exact rfl); k_whole))
  intro g L h0 pp loose mean mg mb kg F0 N0 X TT l1 l2
  with_reducible refine Classical.byContradiction fun hZq => ?_
  obtain ⟨ts, n1, fcls, ⟨fd, fdat⟩, cdat, ⟨ccv, ccdat⟩, n2⟩ := id ok
  refine hZq ?_
  clear hZq
  dsimp only [LxA.led, lxEs, hxEs, List.cons_append, List.nil_append] at N0
  k_steps
  rename News _ _ _ _ => N1
  rename Addr => B
  refine iter2_K (by assumption) N1 (.head _) fun I h1 F1 N2 lI => ?_
  k_steps
  ((unfold Stop; (with_reducible refine for_stmt ?_ ?mzhs); (case mzhs => intro _; rfl)))
  k_steps
  rename News _ _ _ _ => N3
  rename Fr _ _ _ _ => F3
  refine iter_call (N3 _ (.head _)).1 ?_
  have hI : I ∉ [B, a.x, a.dx, a.hx, a.hdx, a.fA, a.cc, a.cA, a.D, a.pb] := fun q => by
    with_reducible refine Classical.byContradiction fun hZq => ?_
    obtain ⟨p, hp, e⟩ := List.mem_map.mp (show I ∈ ((B, methodObj (.ref 122) (.ref a.x)) :: (a.led w ln tl ys n ++ [(a.pb, listOf #[] np)])).map (·.1) from q)
    refine hZq ?_
    clear hZq
    exact absurd (lI p hp) (e ▸ Nat.lt_irrefl _)
  obtain ⟨tsn, N4⟩ : ∃ tsn, News g L _ (a.rled w I B (itB B tsn) ln tl ys n np) := ⟨_, N3⟩
  obtain ⟨tt, F4⟩ : ∃ tt, Fr g L _ (over [((PySem.Str.ofString "self"), .ref a.x), ((PySem.Str.ofString "token"), .str (T []) tt), ((PySem.Str.ofString "fiter"), .ref I)] fun _ => none) := ⟨_, empty_T ▸ F3⟩
  clear F3 N3 lI
  have fin : ∀ (tok cs' : List Nat) (h : Heap) (tk : Nat) (m : Str → Option Value) (oI : Obj) (ln' : Int) (tl' t' : Tok) (ys' : List Value) (n' : Nat), tkS cs = (tok, cs') → Fr g L h m → News g L h (a.rled w I B oI ln' tl' ys' n' np) → ln' = ln + nlc cs - nlc cs' → StrsAre ys' (cs'.map sg) →
      R (.ok (.ret (.str (T tok) t'))) { s with heap := h, toks := tk } := by
    intro tok cs' h tk m oI ln' tl' t' ys' n' e F N hl hy
    rw [e] at hret
    dsimp only at hret
    have hk : ∀ p ∈ a.led w ln tl ys n ++ [(a.pb, listOf #[] np)], p.1 ∈ [a.dx, a.D] ∨ p ∈ a.rled w I B oI ln' tl' ys' n' np := fun p hp => by
      rcases List.mem_append.mp hp with hp | hp
      · rcases led_six hp with rfl | rfl | h6
        · exact .inl (.head _)
        · exact .inl (.tail _ (.head _))
        · exact .inr (List.mem_append.mpr (.inr (List.mem_append.mpr (.inl (six_led _ _ _ _ h6)))))
      · exact .inr (List.mem_append.mpr (.inr (List.mem_append.mpr (.inr hp))))
    refine hret h tk n' t' tl' ys' (kp_part kg F N fun b hb => ?_) ?_ ?_ hy
    · with_reducible refine Classical.byContradiction fun hZq => ?_
      obtain ⟨p, hp, rfl⟩ := List.mem_map.mp hb
      refine hZq ?_
      clear hZq
      rcases hk p hp with e1 | e1
      · exact .inl e1
      · exact .inr ⟨p.2, hled.mem p hp, e1⟩
    · rw [← hl]; exact (N _ (.tail _ (.tail _ (.tail _ (.head _))))).1
    · exact (N _ (.tail _ (.tail _ (.tail _ (.tail _ (.tail _ (.tail _ (.tail _ (.tail _ (.tail _ (.head _))))))))))).1
  refine for_J (GJ0 w a I B tsn np g L s cs ln) _ ⟨false, [], cs, GtS.intro F4 (by (first | focus ((repeat (first | exact True.intro | (refine AllAt.keep _ rfl ?_ ?_; (focus decide +kernel)) | (refine AllAt.skip _ rfl ?_ ?_; (focus decide +kernel)))); done) | ((repeat (refine And.intro ?_ ?_; (focus (first | walk_at "m_look" | rfl)))); exact True.intro))) N4 rfl hys (Nat.le_of_eq (Nat.zero_add _)) (Int.add_sub_cancel _ _).symm (Int.le_refl _), .inl ⟨rfl, rfl, rfl, rfl⟩⟩ ?_
  clear N4 F4
  rintro k s1 hPz1
  with_reducible refine Classical.byContradiction fun hZq => ?_
  obtain ⟨e, tok, cs1, ⟨h1, tk1, m1, ln1, tl1, tt1, ys1, n1', rfl, F5, N5, hys1, hl1, hln1, hnl1⟩, hc⟩ := hPz1
  refine hZq ?_
  clear hZq
  rcases hc with ⟨rfl, rfl, hc1, rfl⟩ | ⟨rfl, rfl, hc1, rfl⟩
  rotate_left
  · refine next_ended (N5 _ (.head _)).1 rfl fun h6 k6 => ?_
    have F6 := F5.keeps k6
    have N6 := N5.grown k6
    k_steps
    exact fin tok [] _ _ _ _ _ _ _ _ _ hc1 F6 N6 hln1 hys1
  · refine fiter_next w a ok ln1 tl1 ys1 cs1 n1' np X TT rfl (by (exact Nat.le_of_ble_eq_true rfl)) (by (exact Nat.le_of_ble_eq_true rfl)) F5 N5 hys1 (len_b hl1 hlen) (ln_b hln1 hln hlen hnl1) hI ?_ ?_
    rotate_left
    · intro e6 h6 tk6 ys6 n6 tl6 F6 N6 hys6
      subst e6
      k_steps
      exact fin [] [] _ _ _ _ _ _ _ _ _ hc1 F6 N6 hln1 hys6
    · intro c r h6 tk6 ys6 n6 tl6 t6 e6 F6 N6 hys6
      subst e6
      rw [ln_next hln1] at N6
      replace hnl1 := le_next hnl1
      clear N5 F5 hln1
      have hocc := occ_ws c
      by_cases hw : wsc c = true
      · have e7 : tkS (c :: r) = tkS r := by rw [tkS, if_pos hw]
        rw [hw] at hocc
        k_steps
        all_goals first | exact absurd (hocc.symm.trans (by assumption)) (by decide) | skip
        exact ⟨r.length + 2, Nat.lt_succ_self _, false, [], r, GtS.intro (by assumption) (by (first | focus ((repeat (first | exact True.intro | (refine AllAt.keep _ rfl ?_ ?_; (focus decide +kernel)) | (refine AllAt.skip _ rfl ?_ ?_; (focus decide +kernel)))); done) | ((repeat (refine And.intro ?_ ?_; (focus (first | walk_at "m_look" | rfl)))); exact True.intro))) (by assumption) rfl hys6 (len_next hl1) rfl hnl1, .inl ⟨rfl, rfl, hc1.trans e7, rfl⟩⟩
      · have hw' : wsc c = false := by simpa using hw
        rw [hw'] at hocc
        by_cases hq : c = 34
        · subst hq
          have e7 : tkS (34 :: r) = tkQ r [] := by rw [tkS, if_neg hw, if_pos rfl]
          k_steps
          all_goals first | exact absurd (hocc.symm.trans (by assumption)) (by decide) | skip
          ((unfold Stop; (with_reducible refine for_stmt ?_ ?mzhs); (case mzhs => intro _; rfl)))
          k_steps
          rename Fr _ _ _ _ => F7
          rename News _ _ _ _ => N7
          refine iter_call (N7 _ (.head _)).1 ?_
          refine for_J (GJ1 tkQ r w a I B tsn np g L s cs ln) _ ⟨[], r, GtS.intro F7 (by (first | focus ((repeat (first | exact True.intro | (refine AllAt.keep _ rfl ?_ ?_; (focus decide +kernel)) | (refine AllAt.skip _ rfl ?_ ?_; (focus decide +kernel)))); done) | ((repeat (refine And.intro ?_ ?_; (focus (first | walk_at "m_look" | rfl)))); exact True.intro))) N7 rfl hys6 (len_next hl1) rfl hnl1, hc1.trans e7, Nat.le_refl _, rfl⟩ ?_
          clear N7 F7
          rintro k s1 hPz1
          with_reducible refine Classical.byContradiction fun hZq => ?_
          obtain ⟨tok, cs2, ⟨h2, tk2, m2, ln2, tl2, tt2, ys2, n2', rfl, F8, N8, hys2, hl2, hln2, hnl2⟩, hc2, hl3, rfl⟩ := hPz1
          refine hZq ?_
          clear hZq
          refine fiter_next w a ok ln2 tl2 ys2 cs2 n2' np X TT rfl (by (exact Nat.le_of_ble_eq_true rfl)) (by (exact Nat.le_of_ble_eq_true rfl)) F8 N8 hys2 (len_b hl2 hlen) (ln_b hln2 hln hlen hnl2) hI ?_ ?_
          rotate_left
          · intro e9 h9 tk9 ys9 n9 tl9 F9 N9 hys9
            subst e9
            clear N8 F8
            k_steps
            exact ⟨1, Nat.le_add_left 2 _, true, tok, [], GtS.intro F9 (by (first | focus ((repeat (first | exact True.intro | (refine AllAt.keep _ rfl ?_ ?_; (focus decide +kernel)) | (refine AllAt.skip _ rfl ?_ ?_; (focus decide +kernel)))); done) | ((repeat (refine And.intro ?_ ?_; (focus (first | walk_at "m_look" | rfl)))); exact True.intro))) N9 rfl hys9 hl2 hln2 hnl2, .inr ⟨rfl, rfl, hc2, rfl⟩⟩
          · intro c2 r2 h9 tk9 ys9 n9 tl9 t9 e9 F9 N9 hys9
            subst e9
            rw [ln_next hln2] at N9
            replace hnl2 := le_next hnl2
            replace hl3 := Nat.le_of_succ_le hl3
            clear N8 F8 hln2
            by_cases hq2 : c2 = 34
            · subst hq2
              have e8 : tkS cs = (tok, r2) := hc2.trans (tkQ_q r2 tok)
              k_steps
              exact fin tok r2 _ _ _ _ _ _ _ _ _ e8 (by assumption) (by assumption) rfl hys9
            by_cases he2 : c2 = 92
            · subst he2
              have e8 : tkS cs = tkQ (r2.drop 1) (tok ++ r2.take 1) := hc2.trans (tkQ_e r2 tok)
              k_steps
              unfold Stop
              refine wpAny_call ?_
              refine' codeAny_at (A' := lv 11) ?a1 ?a2 ?a3 ?a4 ?a5 ?_
              (case a1 => exact rfl); (case a2 => (exact Nat.le_of_ble_eq_true rfl)); (case a3 => (exact Nat.le_of_ble_eq_true rfl)); (case a4 => exact rfl); (case a5 => exact rfl)
              rename News _ _ _ _ => N7
              rename Fr _ _ _ _ => F7
              refine read_led w _ _ a ok _ _ _ r2 _ X TT F7 N7 (rled_off ok N7 rfl) hys9 (len_bc hl2 hlen) (ln_b rfl hln hlen hnl2) ?_
              intro h8 tk8 n8 t8 tl8 F8 N8
              rw [ln_drop] at N8
              have hg1 : T tok ++ T (r2.take 1) = T (tok ++ r2.take 1) := T_append tok (r2.take 1)
              have hg2 := T_two hl2 hlen
              clear N7 F7
              k_steps
              rename Fr _ _ _ _ => FB
              rename News _ _ _ _ => NB
              rw [hg1] at FB
              exact ⟨(r2.drop 1).length, drop_lt _ _, tok ++ r2.take 1, r2.drop 1, GtS.intro FB (by (first | focus ((repeat (first | exact True.intro | (refine AllAt.keep _ rfl ?_ ?_; (focus decide +kernel)) | (refine AllAt.skip _ rfl ?_ ?_; (focus decide +kernel)))); done) | ((repeat (refine And.intro ?_ ?_; (focus (first | walk_at "m_look" | rfl)))); exact True.intro))) NB rfl (strs_drop hys9) (len_drop hl2) rfl (le_drop hnl2), e8, drop_le hl3, rfl⟩
            · have q1 := sign_ne hq2 (s := PySem.Str.ofString "\"") (by decide +kernel)
              have e8 : tkS cs = tkQ r2 (tok ++ [c2]) := hc2.trans (tkQ_c r2 tok hq2 he2)
              have q2 := sign_ne he2 (s := PySem.Str.ofString "\\") (by decide +kernel)
              have hg1 : T tok ++ (⟨#[c2]⟩ : Str) = T (tok ++ [c2]) := T_append tok [c2]
              have hg2 := T_one hl2 hlen
              k_steps
              all_goals first | exact absurd (q1.symm.trans (by assumption)) (by decide) | skip
              all_goals first | exact absurd (q2.symm.trans (by assumption)) (by decide) | skip
              rename Fr _ _ _ _ => FB
              rename News _ _ _ _ => NB
              rw [hg1] at FB
              exact ⟨r2.length, Nat.lt_succ_self _, tok ++ [c2], r2, GtS.intro FB (by (first | focus ((repeat (first | exact True.intro | (refine AllAt.keep _ rfl ?_ ?_; (focus decide +kernel)) | (refine AllAt.skip _ rfl ?_ ?_; (focus decide +kernel)))); done) | ((repeat (refine And.intro ?_ ?_; (focus (first | walk_at "m_look" | rfl)))); exact True.intro))) NB rfl hys9 (len_snoc hl2) rfl hnl2, e8, hl3, rfl⟩
        · have q1 := sign_ne hq (s := PySem.Str.ofString "\"") (by decide +kernel)
          k_steps
          all_goals first | exact absurd (hocc.symm.trans (by assumption)) (by decide) | exact absurd (q1.symm.trans (by assumption)) (by decide) | skip
          unfold Stop
          rename News _ _ _ _ => N6
          rename Fr _ _ _ _ => F6
          refine cut2 (fun s' => ∃ tok0 r0, GtS w a I B tsn np g L s cs ln false tok0 r0 s' ∧ tkS cs = tkB r0 tok0 ∧ r0.length ≤ r.length) ?_ ?_
          · by_cases he : c = 92
            · subst he
              have e7 : tkS (92 :: r) = tkB (r.drop 1) (r.take 1) := by rw [tkS, if_neg hw, if_neg (by decide), if_pos rfl]
              k_steps
              unfold Stop
              refine wpAny_call ?_
              refine' codeAny_at (A' := lv 11) ?a1 ?a2 ?a3 ?a4 ?a5 ?_
              (case a1 => exact rfl); (case a2 => (exact Nat.le_of_ble_eq_true rfl)); (case a3 => (exact Nat.le_of_ble_eq_true rfl)); (case a4 => exact rfl); (case a5 => exact rfl)
              rename News _ _ _ _ => N7
              rename Fr _ _ _ _ => F7
              refine read_led w _ _ a ok _ _ _ r _ X TT F7 N7 (rled_off ok N7 rfl) hys6 (len_bc hl1 hlen) (ln_b rfl hln hlen hnl1) ?_
              intro h8 tk8 n8 t8 tl8 F8 N8
              rw [ln_drop] at N8
              have hg1 : T [] ++ T (r.take 1) = T ([] ++ r.take 1) := T_append [] (r.take 1)
              have hg2 := T_two hl1 hlen
              clear N7 F7
              k_steps
              rename Fr _ _ _ _ => FB
              rename News _ _ _ _ => NB
              rw [hg1] at FB
              exact ⟨rfl, [] ++ r.take 1, r.drop 1, GtS.intro FB (by (first | focus ((repeat (first | exact True.intro | (refine AllAt.keep _ rfl ?_ ?_; (focus decide +kernel)) | (refine AllAt.skip _ rfl ?_ ?_; (focus decide +kernel)))); done) | ((repeat (refine And.intro ?_ ?_; (focus (first | walk_at "m_look" | rfl)))); exact True.intro))) NB rfl (strs_drop hys6) (len_drop hl1) rfl (le_drop hnl1), hc1.trans e7, drop_le (Nat.le_refl _)⟩
            · have e7 : tkS (c :: r) = tkB r [c] := by rw [tkS, if_neg hw, if_neg hq, if_neg he]
              have q2 := sign_ne he (s := PySem.Str.ofString "\\") (by decide +kernel)
              have hg1 : T [] ++ (⟨#[c]⟩ : Str) = T ([] ++ [c]) := T_append [] [c]
              have hg2 := T_one hl1 hlen
              k_steps
              all_goals first | exact absurd (q2.symm.trans (by assumption)) (by decide) | skip
              rename Fr _ _ _ _ => FB
              rename News _ _ _ _ => NB
              rw [hg1] at FB
              exact ⟨rfl, [] ++ [c], r, GtS.intro FB (by (first | focus ((repeat (first | exact True.intro | (refine AllAt.keep _ rfl ?_ ?_; (focus decide +kernel)) | (refine AllAt.skip _ rfl ?_ ?_; (focus decide +kernel)))); done) | ((repeat (refine And.intro ?_ ?_; (focus (first | walk_at "m_look" | rfl)))); exact True.intro))) NB rfl hys6 (len_snoc hl1) rfl hnl1, hc1.trans e7, Nat.le_refl _⟩
          · clear N6 F6 hys6
            rintro s6 hPz1
            with_reducible refine Classical.byContradiction fun hZq => ?_
            obtain ⟨tok0, r0, ⟨h7, tk7, m7, ln7, tl7, tt7, ys7, n7, rfl, F6, N6, hys6, hl6, hln6, hnl6⟩, hc6, hl0⟩ := hPz1
            refine hZq ?_
            clear hZq
            k_steps
            ((unfold Stop; (with_reducible refine for_stmt ?_ ?mzhs); (case mzhs => intro _; rfl)))
            k_steps
            rename Fr _ _ _ _ => F7
            rename News _ _ _ _ => N7
            refine iter_call (N7 _ (.head _)).1 ?_
            refine for_J (GJ1 tkB r w a I B tsn np g L s cs ln) _ ⟨tok0, r0, GtS.intro F7 (by (first | focus ((repeat (first | exact True.intro | (refine AllAt.keep _ rfl ?_ ?_; (focus decide +kernel)) | (refine AllAt.skip _ rfl ?_ ?_; (focus decide +kernel)))); done) | ((repeat (refine And.intro ?_ ?_; (focus (first | walk_at "m_look" | rfl)))); exact True.intro))) N7 rfl hys6 hl6 hln6 hnl6, hc6, hl0, rfl⟩ ?_
            clear N7 F7
            rintro k s1 hPz1
            with_reducible refine Classical.byContradiction fun hZq => ?_
            obtain ⟨tok, cs2, ⟨h2, tk2, m2, ln2, tl2, tt2, ys2, n2', rfl, F8, N8, hys2, hl2, hln2, hnl2⟩, hc2, hl3, rfl⟩ := hPz1
            refine hZq ?_
            clear hZq
            refine fiter_next w a ok ln2 tl2 ys2 cs2 n2' np X TT rfl (by (exact Nat.le_of_ble_eq_true rfl)) (by (exact Nat.le_of_ble_eq_true rfl)) F8 N8 hys2 (len_b hl2 hlen) (ln_b hln2 hln hlen hnl2) hI ?_ ?_
            rotate_left
            · intro e9 h9 tk9 ys9 n9 tl9 F9 N9 hys9
              subst e9
              clear N8 F8
              k_steps
              exact ⟨1, Nat.le_add_left 2 _, true, tok, [], GtS.intro F9 (by (first | focus ((repeat (first | exact True.intro | (refine AllAt.keep _ rfl ?_ ?_; (focus decide +kernel)) | (refine AllAt.skip _ rfl ?_ ?_; (focus decide +kernel)))); done) | ((repeat (refine And.intro ?_ ?_; (focus (first | walk_at "m_look" | rfl)))); exact True.intro))) N9 rfl hys9 hl2 hln2 hnl2, .inr ⟨rfl, rfl, hc2, rfl⟩⟩
            · intro c2 r2 h9 tk9 ys9 n9 tl9 t9 e9 F9 N9 hys9
              subst e9
              rw [ln_next hln2] at N9
              replace hnl2 := le_next hnl2
              replace hl3 := Nat.le_of_succ_le hl3
              clear N8 F8 hln2
              have hocc2 := occ_ws c2
              by_cases hw2 : wsc c2 = true
              · have e8 : tkS cs = (tok, r2) := hc2.trans (tkB_q r2 tok hw2)
                rw [hw2] at hocc2
                k_steps
                all_goals first | exact absurd (hocc2.symm.trans (by assumption)) (by decide) | skip
                exact fin tok r2 _ _ _ _ _ _ _ _ _ e8 (by assumption) (by assumption) rfl hys9
              have hw3 : wsc c2 = false := by simpa using hw2
              rw [hw3] at hocc2
              by_cases he2 : c2 = 92
              · subst he2
                have e8 : tkS cs = tkB (r2.drop 1) (tok ++ r2.take 1) := hc2.trans (tkB_e r2 tok)
                k_steps
                all_goals first | exact absurd (hocc2.symm.trans (by assumption)) (by decide) | skip
                unfold Stop
                refine wpAny_call ?_
                refine' codeAny_at (A' := lv 11) ?a1 ?a2 ?a3 ?a4 ?a5 ?_
                (case a1 => exact rfl); (case a2 => (exact Nat.le_of_ble_eq_true rfl)); (case a3 => (exact Nat.le_of_ble_eq_true rfl)); (case a4 => exact rfl); (case a5 => exact rfl)
                rename News _ _ _ _ => N7
                rename Fr _ _ _ _ => F7
                refine read_led w _ _ a ok _ _ _ r2 _ X TT F7 N7 (rled_off ok N7 rfl) hys9 (len_bc hl2 hlen) (ln_b rfl hln hlen hnl2) ?_
                intro h8 tk8 n8 t8 tl8 F8 N8
                rw [ln_drop] at N8
                have hg1 : T tok ++ T (r2.take 1) = T (tok ++ r2.take 1) := T_append tok (r2.take 1)
                have hg2 := T_two hl2 hlen
                clear N7 F7
                k_steps
                rename Fr _ _ _ _ => FB
                rename News _ _ _ _ => NB
                rw [hg1] at FB
                exact ⟨(r2.drop 1).length, drop_lt _ _, tok ++ r2.take 1, r2.drop 1, GtS.intro FB (by (first | focus ((repeat (first | exact True.intro | (refine AllAt.keep _ rfl ?_ ?_; (focus decide +kernel)) | (refine AllAt.skip _ rfl ?_ ?_; (focus decide +kernel)))); done) | ((repeat (refine And.intro ?_ ?_; (focus (first | walk_at "m_look" | rfl)))); exact True.intro))) NB rfl (strs_drop hys9) (len_drop hl2) rfl (le_drop hnl2), e8, drop_le hl3, rfl⟩
              · have e8 : tkS cs = tkB r2 (tok ++ [c2]) := hc2.trans (tkB_c r2 tok hw3 he2)
                have q2 := sign_ne he2 (s := PySem.Str.ofString "\\") (by decide +kernel)
                have hg1 : T tok ++ (⟨#[c2]⟩ : Str) = T (tok ++ [c2]) := T_append tok [c2]
                have hg2 := T_one hl2 hlen
                k_steps
                all_goals first | exact absurd (hocc2.symm.trans (by assumption)) (by decide) | skip
                all_goals first | exact absurd (q2.symm.trans (by assumption)) (by decide) | skip
                rename Fr _ _ _ _ => FB
                rename News _ _ _ _ => NB
                rw [hg1] at FB
                exact ⟨r2.length, Nat.lt_succ_self _, tok ++ [c2], r2, GtS.intro FB (by (first | focus ((repeat (first | exact True.intro | (refine AllAt.keep _ rfl ?_ ?_; (focus decide +kernel)) | (refine AllAt.skip _ rfl ?_ ?_; (focus decide +kernel)))); done) | ((repeat (refine And.intro ?_ ?_; (focus (first | walk_at "m_look" | rfl)))); exact True.intro))) NB rfl hys9 (len_snoc hl2) rfl hnl2, e8, hl3, rfl⟩

end partGr1
theorem off_Wr1 : (1 : Nat) = 1 := by
  w_top off
  first | walk1 | rfl
section partWr1
local macro_rules | `(tactic| walk_at "subscriptTail List") => `(tactic| refine stop_at ?_)
/-- a sign as written -/
noncomputable def escS (way : Int) (c : Nat) : List Nat := if way > 0 ∨ c = 34 ∨ c = 92 then [92, c] else [c]
noncomputable def escW (way : Int) (l : List Nat) : List Nat := (l.map (escS way)).flatten
noncomputable def gapL (way : Int) : List Nat := if way = 0 then [] else if way = 1 then [10] else if way = 2 then [10, 13, 9, 10] else [32, 32]
noncomputable def takenL (wd : List Nat) (way : Int) : List Nat := if way < 2 ∨ wd = [] then 34 :: (escW way wd ++ [34]) else escW way wd ++ (gapL way).take 1
noncomputable def leftL (wd : List Nat) (way : Int) : List Nat := if way < 2 ∨ wd = [] then gapL way else (gapL way).drop 1
theorem escW_len (way : Int) (l : List Nat) : (escW way l).length ≤ 2 * l.length := by
  unfold escW
  induction l with
  | nil => exact Nat.le_refl _
  | cons c r ih =>
    rw [List.map_cons, List.flatten_cons, List.length_append, List.length_cons]
    have : (escS way c).length ≤ 2 := by unfold escS; split <;> simp
    omega
theorem occ_qb (c : Nat) : (Builtin.Str.occurrences (PySem.Str.ofString "\"\\") ⟨#[c]⟩ 0 (PySem.Str.ofString "\"\\").length 1).isEmpty = !(decide (c = 34 ∨ c = 92)) := by
  have h := StrLaws.found_one (PySem.Str.ofString "\"\\") c
  have e : (PySem.Str.ofString "\"\\").cps.toList = [34, 92] := by decide +kernel
  rw [e] at h
  have hw : decide (c ∈ [34, 92]) = decide (c = 34 ∨ c = 92) := by simp
  rw [hw] at h
  rw [← h, Bool.not_not]
theorem slice_T_to {l : List Nat} {j : Int} (h0 : 0 ≤ j) (h1 : j ≤ l.length) : Txt.slice (T l) none (some j) = T (l.take j.toNat) := by
  have e : Txt.slice (T l) none (some j) = Txt.slice (T l) (some 0) (some j) := by
    unfold Txt.slice
    rw [StrLaws.sliceIdx_none_lo]
  rw [e, slice_T_ss (Int.le_refl _) h0 h1]
  simp
theorem T_nil_of {l : List Nat} (h : (T l == PySem.Str.ofString "") = true) : l = [] := by
  have h2 := beq_iff_eq.mp h
  rw [empty_T] at h2
  exact T_inj h2
theorem gapL_len (way : Int) : (gapL way).length ≤ 4 := by
  unfold gapL
  split
  · simp
  split
  · simp
  split <;> simp
theorem gapL_pos {way : Int} (h : ¬ way < 2) : 1 ≤ (gapL way).length := by
  unfold gapL
  rw [if_neg (by omega), if_neg (by omega)]
  split <;> simp
theorem written_spec (w : World) (s : Shared) (R : Result → Shared → Prop) (G : Gd (K0 w.params) s.heap) (wd : List Nat) (tw : Tok) (way : Int) (ty : Tok) (hwd : wd.length ≤ 200) (hw1 : 0 ≤ way) (hw2 : way < 4)
  (hret : ∀ (D : Addr) (h' : Heap) (tk' : Nat) (t1 t2 : Tok), Kp [] s.heap h' → s.heap.get? D = none → h'.get? D = some { cls := .type "tuple", data := .seq #[.str (T (takenL wd way)) t1, .str (T (leftL wd way)) t2] } → R (.ok (.ret (.ref D))) { s with heap := h', toks := tk' }) :
  codeAny (model prog w) (lv 9) (.call (.ref 183) ⟨[.str (T wd) tw, .int way ty], []⟩) R s := by
  have _kf : (PySem.Challenge.rw_pg0230_01, K0) = (PySem.Challenge.rw_pg0230_01, K0) := by k_fill; rfl
  refine' enter_cells (K := K0 w.params) (binds := [((PySem.Str.ofString "word"), .str (T wd) tw), ((PySem.Str.ofString "way"), .int way ty)]) (rb := [((PySem.Str.ofString "word"), .str (T wd) tw)]) [] G (fun p hp => nomatch hp) ?ho ?hcd ?hroom ?hbind ?hkind ?hnd ?hbl ?_ ?c2 ?c3 ?c4
  (( (case ho => k_is); (case hcd => k_is); (case hroom => k_room); (case hbind => exact BindsTo.of_eq rfl); (case hkind => ((intro n x hx; simp only [List.mem_cons, List.not_mem_nil, or_false] at hx; (repeat' (refine Or.elim hx (fun hx => ?_) (fun hx => ?_))); all_goals (subst hx; first | exact .inl rfl | exact .inr ⟨rfl, rfl⟩)))); (case hnd => decide +kernel); (case hbl => exact fun _ => rfl); (case c2 => exact rfl); (case c3 => exact rfl); (case c4 => exact rfl); k_whole))
  intro g L h0 tk cells pp loose mean mg mb kg F0 N0 X TT l1 l2 Y
  k_cells Y
  simp only [List.cons_append, List.nil_append] at N0
  have hbs : PySem.Str.ofString "\\" = T [92] := by decide +kernel
  have hq : PySem.Str.ofString "\"" = T [34] := by decide +kernel
  have hel := escW_len way wd
  k_steps
  unfold Stop
  (with_reducible refine lc_eval (cl := [((PySem.Str.ofString "way"), L + 1)]) ?mzc1 ?mzc2 ?mzc3 ?mzc4 ?mzc5 ?mzc6 ?_)
  (case mzc1 => rfl)
  (case mzc2 => decide +kernel)
  (case mzc3 => rfl)
  (case mzc4 => decide +kernel)
  (case mzc5 => decide +kernel)
  (case mzc6 => intro _; rfl)
  k_steps
  dsimp only
  refine LcE.intro F0 N0 ?_ (src_str (x := T wd) rfl) ?_
  · rw [sizeLine_eq, T_cps, List.size_toArray]; omega
  intro hh
  refine comp_quiet _ (fun i y => ∃ t c, wd[i]? = some c ∧ y = .str (T (escS way c)) t) _ trivial ?_ ?_
  · intro i v I9 oI9 C oC D oD m₂ h8 tk8 hi8 hP hC hx F8 N8 off ne
    with_reducible refine Classical.byContradiction fun hZq => ?_
    obtain ⟨c, tc, hc, rfl⟩ := hP
    refine hZq ?_
    clear hZq
    have hc' : wd[i]? = some c := by simpa [T] using hc
    have hg2 : (PySem.Str.ofString "\\").length + (⟨#[c]⟩ : Str).length ≤ sizeLine := by
      rw [hbs]; show (T [92]).length + (T [c]).length ≤ _; rw [T_len, T_len, sizeLine_eq]; simp
    have hg1 : PySem.Str.ofString "\\" ++ (⟨#[c]⟩ : Str) = T [92, c] := by
      rw [hbs]; exact T_append [92] [c]
    have hocc := occ_qb c
    by_cases hw : way > 0
    · k_steps
      all_goals first | omega | skip
      rw [hg1]
      exact QEnd.intro (by assumption) (by assumption) (by (first | focus ((repeat (first | exact True.intro | with_reducible exact InAll.self | with_reducible refine InAll.keep ?_ | with_reducible refine InAll.skip ?_)); done) | ((repeat (refine And.intro (by k_mem) ?_)); exact True.intro))) ⟨_, c, hc', by rw [escS, if_pos (.inl hw)]⟩
    · by_cases hcc : c = 34 ∨ c = 92
      · rw [decide_eq_true hcc] at hocc
        k_steps
        all_goals first | omega | exact absurd (hocc.symm.trans (by assumption)) (by decide) | skip
        rw [hg1]
        exact QEnd.intro (by assumption) (by assumption) (by (first | focus ((repeat (first | exact True.intro | with_reducible exact InAll.self | with_reducible refine InAll.keep ?_ | with_reducible refine InAll.skip ?_)); done) | ((repeat (refine And.intro (by k_mem) ?_)); exact True.intro))) ⟨_, c, hc', by rw [escS, if_pos (.inr hcc)]⟩
      · rw [decide_eq_false hcc] at hocc
        k_steps
        all_goals first | omega | exact absurd (hocc.symm.trans (by assumption)) (by decide) | skip
        exact QEnd.intro (by assumption) (by assumption) (by (first | focus ((repeat (first | exact True.intro | with_reducible exact InAll.self | with_reducible refine InAll.keep ?_ | with_reducible refine InAll.skip ?_)); done) | ((repeat (refine And.intro (by k_mem) ?_)); exact True.intro))) ⟨_, c, hc', by rw [escS, if_neg (fun q => q.elim hw hcc)]; rfl⟩
  intro ys hys hT D8 h8 tk8 F8 N8 off8
  k_steps
  refine join_listC (ys := (wd.map (escS way)).map T) (items := ys.toArray) ⟨_, N8.get (.head _), rfl, _, rfl⟩ ?_ (by decide) ?_ ?_
  · refine strs_of (by simp [hys, T]) fun i y hy => ?_
    with_reducible refine Classical.byContradiction fun hZq => ?_
    obtain ⟨t, n, hn, rfl⟩ := hT i y hy
    refine hZq ?_
    clear hZq
    exact ⟨_, t, by simp [hn], rfl⟩
  · rw [sum_len_T]
    show (escW way wd).length + _ ≤ _
    simp only [List.length_map]
    omega
  intro t9 k9
  rw [join_T, show (List.map (escS way) wd).flatten = escW way wd from rfl]
  have hg0 : PySem.Str.ofString "" = T [] := by decide +kernel
  have hg1 : PySem.Str.ofString "\n" = T [10] := by decide +kernel
  have hg2 : PySem.Str.ofString "\n\x0d\t\n" = T [10, 13, 9, 10] := by decide +kernel
  have hg3 : PySem.Str.ofString "  " = T [32, 32] := by decide +kernel
  have hgv : ∀ t1 t2 t3 t4 : Tok, ∃ tx, [Value.str (PySem.Str.ofString "") t1, .str (PySem.Str.ofString "\n") t2, .str (PySem.Str.ofString "\n\x0d\t\n") t3, .str (PySem.Str.ofString "  ") t4][way.toNat]? = some (.str (T (gapL way)) tx) := by
    intro t1 t2 t3 t4
    rw [hg0, hg1, hg2, hg3]
    have hc := four_int (k := way) (by assumption) (by assumption)
    rcases hc with rfl | rfl | rfl | rfl <;> exact ⟨_, rfl⟩
  k_steps
  unfold Stop
  rename News _ _ _ _ => N6
  refine kba_turn (value' := PySem.Expr.Name (PySem.Str.ofString "_") ⟨0, 0, 0, 0⟩) (fun _ => rfl) ?_
  refine kim_list (l := [_, _, _, _]) N6 (.head _) rfl rfl (by omega) (by simp; omega) (hgv _ _ _ _).choose_spec ?_
  have hgl := gapL_len way
  have sA : (PySem.Str.ofString "\"").length + (T (escW way wd)).length ≤ sizeLine := by rw [hq, T_len, T_len, sizeLine_eq]; simp; omega
  have sB : (PySem.Str.ofString "\"" ++ T (escW way wd)).length + (PySem.Str.ofString "\"").length ≤ sizeLine := by rw [hq, T_append, T_len, T_len, sizeLine_eq]; simp; omega
  have hz : PySem.Str.ofString "\"" ++ T (escW way wd) ++ PySem.Str.ofString "\"" = T (34 :: (escW way wd ++ [34])) := by rw [hq, T_append, T_append]; rfl
  clear hT hys
  k_steps
  · rename way < 2 => hs
    rename News _ _ _ _ => N9
    have e1 : takenL wd way = 34 :: (escW way wd ++ [34]) := if_pos (.inl hs)
    have e2 : leftL wd way = gapL way := if_pos (.inl hs)
    rw [hz] at N9
    rw [e1, e2] at hret
    exact hret _ _ _ _ _ (kg.fr (by assumption)) (fresh_of kg N9 (.head _) (fun q => nomatch q)) (News.get N9 (.head _))
  · have hs := T_nil_of (by assumption)
    rename News _ _ _ _ => N9
    have e1 : takenL wd way = 34 :: (escW way wd ++ [34]) := if_pos (.inr hs)
    have e2 : leftL wd way = gapL way := if_pos (.inr hs)
    rw [hz] at N9
    rw [e1, e2] at hret
    exact hret _ _ _ _ _ (kg.fr (by assumption)) (fresh_of kg N9 (.head _) (fun q => nomatch q)) (News.get N9 (.head _))
  · rename ¬ way < 2 => hs
    rename (T wd == PySem.Str.ofString "") = false => hs2
    have hs3 : ¬ (way < 2 ∨ wd = []) := fun q => q.elim hs fun e => by
      rw [e, ← empty_T] at hs2
      simp at hs2
    have hg9 := gapL_pos hs
    have e1 : takenL wd way = escW way wd ++ (gapL way).take 1 := if_neg hs3
    have e2 : leftL wd way = (gapL way).drop 1 := if_neg hs3
    rw [e1, e2] at hret
    generalize gapL way = gp at *
    have hgz : (T gp).length ≤ sizeLine := by rw [T_len, sizeLine_eq]; omega
    unfold Stop
    rename Fr _ _ _ _ => F5
    rename News _ _ _ _ => N5
    refine slice_strN_ns (hsz := hgz) (s := ⟨_, _, _, _, _⟩) F5 N5 ?_
    intro h6 t6 tk6 F6 N7
    rw [slice_T_to (by decide) (by omega)]
    clear N5 F5
    have sC : (T (escW way wd)).length + (T (gp.take 1)).length ≤ sizeLine := by rw [T_len, T_len, sizeLine_eq, List.length_take]; omega
    k_steps
    unfold Stop
    rename Fr _ _ _ _ => F8
    rename News _ _ _ _ => N8
    refine slice_strN_sn (hsz := hgz) (s := ⟨_, _, _, _, _⟩) F8 N8 ?_
    intro h9 t9 tk9 F9 N9
    rw [slice_T_from (by decide) (by omega)]
    clear N8 F8
    k_steps
    rename News _ _ _ _ => NA
    rw [T_append] at NA
    exact hret _ _ _ _ _ (kg.fr (by assumption)) (fresh_of kg NA (.head _) (fun q => nomatch q)) (News.get NA (.head _))

end partWr1
theorem off_Ws1 : (1 : Nat) = 1 := by
  w_top off
  first | walk1 | rfl
section partWs1
structure WsSt where
  cnt : List Int
  b : Int
  n : Int
  nt : Int
noncomputable def up1 (l : List Int) (b : Int) : List Int := l.set b.toNat (l.getD b.toNat 0 + 1)
noncomputable def bump (l : List Int) (b : Int) : List Int := if b ≥ l.length then up1 (l ++ (List.replicate (b - l.length + 1).toNat [0]).flatten) b else up1 l b
theorem bump_len (l : List Int) (b : Int) (i : Nat) (h : l.length ≤ i) (hb0 : 0 ≤ b) (hb : b ≤ i) : (bump l b).length ≤ i + 1 := by
  unfold bump up1
  split
  · simp; omega
  · simp; omega
noncomputable def wsRun : WsSt → List Nat → WsSt
  | st, [] => st
  | st, c :: cs => if c = 32 then wsRun { st with n := st.n + 1, b := st.b + 1 } cs
    else if c = 9 then wsRun { cnt := bump st.cnt st.b, n := st.n + 1, nt := st.nt + 1, b := 0 } cs else st
noncomputable abbrev wsEs (w : World) (x : Str) (t k0 k1 k2 k3 k4 : Tok) (n : Int) (tn : Tok) (nt : Int) (tt : Tok) (D : Addr) (q : Bool) : List DictEntry :=
  [⟨PyData.keyHash w.params ((PySem.Str.ofString "raw")), .str ((PySem.Str.ofString "raw")) k0, .str x t⟩, ⟨PyData.keyHash w.params ((PySem.Str.ofString "n")), .str ((PySem.Str.ofString "n")) k1, .int n tn⟩, ⟨PyData.keyHash w.params ((PySem.Str.ofString "nt")), .str ((PySem.Str.ofString "nt")) k2, .int nt tt⟩,
   ⟨PyData.keyHash w.params ((PySem.Str.ofString "norm")), .str ((PySem.Str.ofString "norm")) k3, .ref D⟩, ⟨PyData.keyHash w.params ((PySem.Str.ofString "is_simple")), .str ((PySem.Str.ofString "is_simple")) k4, .bool q⟩]
/-- what the counts lie between, ahead of sign i -/
noncomputable def Bd (i : Nat) (b n nt : Int) : Prop := 0 ≤ b ∧ b ≤ i ∧ 0 ≤ n ∧ n ≤ i ∧ 0 ≤ nt ∧ nt ≤ i
theorem Bd.zero : Bd 0 0 0 0 := by unfold Bd; decide
theorem Bd.blank {i : Nat} {b n nt : Int} (h : Bd i b n nt) : Bd (i + 1) (b + 1) (n + 1) nt := by
  unfold Bd at h ⊢
  omega
theorem Bd.tab {i : Nat} {b n nt : Int} (h : Bd i b n nt) : Bd (i + 1) 0 (n + 1) (nt + 1) := by
  unfold Bd at h ⊢
  omega
noncomputable abbrev WsJb (w : World) (x dx : Addr) (t : Tok) (cs : List Nat) (i : Nat) (lo : List (Str × Value)) (nw : List (Addr × Obj)) (c : Addr) (its : List Value) (nn kr : Nat) (cnt : List Int) (b n nt : Int) (tb tn tt : Tok) : Prop :=
  lo = [((PySem.Str.ofString "ws"), .str (T cs) t), ((PySem.Str.ofString "self"), .ref x), ((PySem.Str.ofString "T"), .str (PySem.Str.ofString "\t") 210), ((PySem.Str.ofString "S"), .str (PySem.Str.ofString " ") 209), ((PySem.Str.ofString "count"), .ref c), ((PySem.Str.ofString "b"), .int b tb), ((PySem.Str.ofString "n"), .int n tn), ((PySem.Str.ofString "nt"), .int nt tt)] ∧
      nw = [(c, listOf its.toArray nn), (x, instObj 83 dx), (dx, dictOf [⟨PyData.keyHash w.params ((PySem.Str.ofString "raw")), .str ((PySem.Str.ofString "raw")) kr, .str (T cs) t⟩] 1)] ∧ IntsAre its cnt ∧ wsRun ⟨[], 0, 0, 0⟩ cs = wsRun ⟨cnt, b, n, nt⟩ (cs.drop i) ∧ Bd i b n nt ∧ cnt.length ≤ i
/-- the loop upon the signs, ahead of sign i -/
noncomputable def WsJ (w : World) (x dx : Addr) (t : Tok) (cs : List Nat) (i : Nat) (lo : List (Str × Value)) (nw : List (Addr × Obj)) : Prop :=
  ∃ (c : Addr) (its : List Value) (nn kr : Nat) (cnt : List Int) (b n nt : Int) (tb tn tt : Tok), WsJb w x dx t cs i lo nw c its nn kr cnt b n nt tb tn tt
theorem WsJ.intro {w : World} {x dx : Addr} {t : Tok} {cs : List Nat} {i : Nat} {lo : List (Str × Value)} {nw : List (Addr × Obj)} {c : Addr} {its : List Value} {nn kr : Nat} {cnt : List Int} {b n nt : Int} {tb tn tt : Tok} (h : WsJb w x dx t cs i lo nw c its nn kr cnt b n nt tb tn tt) : WsJ w x dx t cs i lo nw :=
  ⟨c, its, nn, kr, cnt, b, n, nt, tb, tn, tt, h⟩
noncomputable abbrev WsMb (w : World) (x dx : Addr) (t : Tok) (cs : List Nat) (g : Heap) (L : Addr) (s s' : Shared) (c : Addr) (its : List Value) (nn kr : Nat) (cnt : List Int) (b n nt : Int) (tb tn tt : Tok) : Prop :=
  At g L [((PySem.Str.ofString "self"), .ref x), ((PySem.Str.ofString "count"), .ref c), ((PySem.Str.ofString "b"), .int b tb), ((PySem.Str.ofString "n"), .int n tn), ((PySem.Str.ofString "nt"), .int nt tt)]
    [(c, listOf its.toArray nn), (x, instObj 83 dx), (dx, dictOf [⟨PyData.keyHash w.params ((PySem.Str.ofString "raw")), .str ((PySem.Str.ofString "raw")) kr, .str (T cs) t⟩] 1)] s s' ∧ IntsAre its cnt ∧ wsRun ⟨[], 0, 0, 0⟩ cs = ⟨cnt, b, n, nt⟩ ∧ cnt.length ≤ 1000
noncomputable def WsM (w : World) (x dx : Addr) (t : Tok) (cs : List Nat) (g : Heap) (L : Addr) (s s' : Shared) : Prop :=
  ∃ (c : Addr) (its : List Value) (nn kr : Nat) (cnt : List Int) (b n nt : Int) (tb tn tt : Tok), WsMb w x dx t cs g L s s' c its nn kr cnt b n nt tb tn tt
theorem WsM.intro {w : World} {x dx : Addr} {t : Tok} {cs : List Nat} {g : Heap} {L : Addr} {s s' : Shared} {c : Addr} {its : List Value} {nn kr : Nat} {cnt : List Int} {b n nt : Int} {tb tn tt : Tok} (h : WsMb w x dx t cs g L s s' c its nn kr cnt b n nt tb tn tt) : WsM w x dx t cs g L s s' :=
  ⟨c, its, nn, kr, cnt, b, n, nt, tb, tn, tt, h⟩
theorem init_spec (w : World) (s : Shared) (R : Result → Shared → Prop) (x dx : Addr) (t : Tok) (cs : List Nat) (hlen : cs.length ≤ 1000) (G : Gd (K0 w.params) (hideAll s.heap [x, dx]))
  (h1 : s.heap.get? x = some (instObj 83 dx)) (h2 : s.heap.get? dx = some (dictOf [] 0)) (hne : x ≠ dx)
  (hret : ∀ (h' : Heap) (tk' : Nat) (D Dc : Addr) (its : List Value) (cnt : List Int) (b n nt : Int) (k0 k1 k2 k3 k4 tb tn tt : Tok) (q : Bool), q = decide ((cnt.length : Int) ≤ 1) → Kp [x, dx] s.heap h' → wsRun ⟨[], 0, 0, 0⟩ cs = ⟨cnt, b, n, nt⟩ → IntsAre its cnt → cnt.length ≤ 1000 →
    h'.get? x = some (instObj 83 dx) → h'.get? dx = some (dictOf (wsEs w (T cs) t k0 k1 k2 k3 k4 n tn nt tt D q) 5) → h'.get? D = some { cls := .type "tuple", data := .seq #[.ref Dc, .int b tb] } → h'.get? Dc = some { cls := .type "tuple", data := .seq its.toArray } →
    s.heap.get? D = none → s.heap.get? Dc = none → R (.ok (.ret .none)) { s with heap := h', toks := tk' }) :
  codeAny (model prog w) (lv 9) (.call (.ref 38) ⟨[.ref x, .str (T cs) t], []⟩) R s := by
  have _kf : (PySem.Challenge.rw_pg0230_01, K0) = (PySem.Challenge.rw_pg0230_01, K0) := by k_fill; rfl
  refine' enter_plain (K := K0 w.params) (binds := [((PySem.Str.ofString "self"), .ref x), ((PySem.Str.ofString "ws"), .str (T cs) t)]) (rb := [((PySem.Str.ofString "ws"), .str (T cs) t), ((PySem.Str.ofString "self"), .ref x)]) [(x, instObj 83 dx), (dx, dictOf [] 0)] G ?hN ?ho ?hcd ?hroom ?hbind ?hloc ?hrb ?_ ?c1 ?c2 ?c3 ?c4
  (case hN => intro p hp; rcases List.mem_cons.mp hp with rfl | hp; exact h1; rcases List.mem_cons.mp hp with rfl | hp; exact h2; cases hp)
  (( (case ho => k_is); (case hcd => k_is); (case hroom => k_room); (case hbind => exact BindsTo.of_eq rfl); (case hloc => exact locs rfl); (case hrb => exact rfl); (case c1 => decide); (case c2 => exact rfl); (case c3 => exact rfl); (case c4 => exact rfl); k_whole))
  intro g L h0 pp loose mean mg mb kg F0 N0 X TT l1 l2
  replace hne := neN hne
  k_steps
  rename_i l D F1 N1
  dsimp only at F1 N1
  refine wpAny_mono (Q := Next (WsM w x dx t cs g L s)) ?_ ?_ (fun _ _ z => z)
  · refine stop_at ?_
    ((unfold Stop; (with_reducible refine for_stmt ?_ ?mzhs); (case mzhs => intro _; rfl)))
    k_steps
    refine it_str (L := L) (x := T cs) (WsJ w x dx t cs) rfl rfl
      [((PySem.Str.ofString "ws"), .str (T cs) t), ((PySem.Str.ofString "self"), .ref x), ((PySem.Str.ofString "T"), .str (PySem.Str.ofString "\t") 210), ((PySem.Str.ofString "S"), .str (PySem.Str.ofString " ") 209), ((PySem.Str.ofString "count"), .ref _), ((PySem.Str.ofString "b"), .int 0 _), ((PySem.Str.ofString "n"), .int 0 _), ((PySem.Str.ofString "nt"), .int 0 _)] [(_, listOf #[] 0), (x, instObj 83 dx), (dx, dictOf [⟨PyData.keyHash w.params ((PySem.Str.ofString "raw")), .str ((PySem.Str.ofString "raw")) _, .str (T cs) t⟩] 1)] (by assumption) (by assumption) (by (first | focus ((repeat (first | exact True.intro | (refine AllAt.keep _ rfl ?_ ?_; (focus decide +kernel)) | (refine AllAt.skip _ rfl ?_ ?_; (focus decide +kernel)))); done) | ((repeat (refine And.intro ?_ ?_; (focus (first | walk_at "m_look" | rfl)))); exact True.intro))) (by (first | focus ((repeat (first | exact True.intro | with_reducible exact InAll.self | with_reducible refine InAll.keep ?_ | with_reducible refine InAll.skip ?_)); done) | ((repeat (refine And.intro (by k_mem) ?_)); exact True.intro))) (WsJ.intro ⟨rfl, rfl, .nil, rfl, Bd.zero, Nat.le_refl _⟩) ?_ ?_
    · rintro i ch tc I h3 tk3 m3 lo nw oI hi hPz1 F3 N3 hne hcl
      with_reducible refine Classical.byContradiction fun hZq => ?_
      obtain ⟨c, its, nn, kr, cnt, b, n, nt, tb, tn, tt, rfl, rfl, hits, hrun, hbd, b7⟩ := hPz1
      refine hZq ?_
      clear hZq
      with_reducible refine Classical.byContradiction fun hZq => ?_
      obtain ⟨b1, b2, b3, b4, b5, b6⟩ := id hbd
      refine hZq ?_
      clear hZq
      simp only [AllNe, and_true] at hne
      with_reducible refine Classical.byContradiction fun hZq => ?_
      obtain ⟨hx1, hx2, hx3⟩ := hne
      refine hZq ?_
      clear hZq
      have hic : cs[i]? = some ch := by simpa [T] using hi
      have hi4 : i < cs.length := (List.getElem?_eq_some_iff.mp hic).1
      have hil := hits.length
      have hdrop : cs.drop i = ch :: cs.drop (i + 1) := by
        rw [List.drop_eq_getElem_cons hi4]; congr 1; rw [List.getElem?_eq_getElem hi4] at hic; exact Option.some.inj hic
      rw [hdrop] at hrun
      by_cases e1 : ch = 32
      · subst e1
        rw [wsRun, if_pos rfl] at hrun
        dsimp only at hrun
        k_steps
        refine turned_next _ [(c, listOf _ _), (x, instObj 83 dx), (dx, dictOf _ 1)] (.inl rfl) (by assumption) (by assumption) (by (first | focus ((repeat (first | exact True.intro | (refine AllAt.keep _ rfl ?_ ?_; (focus decide +kernel)) | (refine AllAt.skip _ rfl ?_ ?_; (focus decide +kernel)))); done) | ((repeat (refine And.intro ?_ ?_; (focus (first | walk_at "m_look" | rfl)))); exact True.intro))) (by (first | focus ((repeat (first | exact True.intro | with_reducible exact InAll.self | with_reducible refine InAll.keep ?_ | with_reducible refine InAll.skip ?_)); done) | ((repeat (refine And.intro (by k_mem) ?_)); exact True.intro))) (by ((repeat (refine And.intro ?_ ?_; (focus k_ne))); exact True.intro)) (WsJ.intro ⟨rfl, rfl, hits, hrun, hbd.blank, Nat.le_succ_of_le b7⟩)
      by_cases e2 : ch = 9
      · subst e2
        rw [wsRun, if_neg (by decide), if_pos rfl] at hrun
        dsimp only at hrun
        have hbl := bump_len cnt b i b7 b1 b2
        by_cases e3 : b ≥ cnt.length
        · k_steps
          all_goals first
            | (rw [bump, if_pos e3] at hrun hbl
               refine turned_next _ [(_, listOf _ _), (x, instObj 83 dx), (dx, dictOf _ 1)] (.inl rfl) (by assumption) (by assumption) (by (first | focus ((repeat (first | exact True.intro | (refine AllAt.keep _ rfl ?_ ?_; (focus decide +kernel)) | (refine AllAt.skip _ rfl ?_ ?_; (focus decide +kernel)))); done) | ((repeat (refine And.intro ?_ ?_; (focus (first | walk_at "m_look" | rfl)))); exact True.intro))) (by (first | focus ((repeat (first | exact True.intro | with_reducible exact InAll.self | with_reducible refine InAll.keep ?_ | with_reducible refine InAll.skip ?_)); done) | ((repeat (refine And.intro (by k_mem) ?_)); exact True.intro))) (by ((repeat (refine And.intro ?_ ?_; (focus k_ne))); exact True.intro)) (WsJ.intro ⟨rfl, rfl, by assumption, hrun, hbd.tab, hbl⟩))
        · have e4 : b < cnt.length := by omega
          have nc1 := neN (ne_of_cls N3 (.tail _ (.head _)) (.tail _ (.tail _ (.head _))) (fun e => nomatch e))
          have nc2 := neN (ne_of_cls N3 (.tail _ (.head _)) (.tail _ (.tail _ (.tail _ (.head _)))) (fun e => by injection e with e; exact absurd e (by decide)))
          have e5 : b.toNat < its.length := by omega
          k_steps
          all_goals first
            | (rw [bump, if_neg e3] at hrun hbl
               refine turned_next _ [(_, listOf _ _), (x, instObj 83 dx), (dx, dictOf _ 1)] (.inl rfl) (by assumption) (by assumption) (by (first | focus ((repeat (first | exact True.intro | (refine AllAt.keep _ rfl ?_ ?_; (focus decide +kernel)) | (refine AllAt.skip _ rfl ?_ ?_; (focus decide +kernel)))); done) | ((repeat (refine And.intro ?_ ?_; (focus (first | walk_at "m_look" | rfl)))); exact True.intro))) (by (first | focus ((repeat (first | exact True.intro | with_reducible exact InAll.self | with_reducible refine InAll.keep ?_ | with_reducible refine InAll.skip ?_)); done) | ((repeat (refine And.intro (by k_mem) ?_)); exact True.intro))) (by ((repeat (refine And.intro ?_ ?_; (focus k_ne))); exact True.intro)) (WsJ.intro ⟨rfl, rfl, by assumption, hrun, hbd.tab, hbl⟩))
      rw [wsRun, if_neg e1, if_neg e2] at hrun
      have q1 := sign_ne e1 (s := PySem.Str.ofString " ") (by decide +kernel)
      have q2 := sign_ne e2 (s := PySem.Str.ofString "\t") (by decide +kernel)
      k_steps
      all_goals first | exact absurd (q1.symm.trans (by assumption)) (by decide) | exact absurd (q2.symm.trans (by assumption)) (by decide) | skip
      all_goals exact ⟨rfl, WsM.intro ⟨At.intro (by assumption) (by assumption) (by (first | focus ((repeat (first | exact True.intro | (refine AllAt.keep _ rfl ?_ ?_; (focus decide +kernel)) | (refine AllAt.skip _ rfl ?_ ?_; (focus decide +kernel)))); done) | ((repeat (refine And.intro ?_ ?_; (focus (first | walk_at "m_look" | rfl)))); exact True.intro))) (by (first | focus ((repeat (first | exact True.intro | with_reducible exact InAll.self | with_reducible refine InAll.keep ?_ | with_reducible refine InAll.skip ?_)); done) | ((repeat (refine And.intro (by k_mem) ?_)); exact True.intro))), hits, hrun, by omega⟩⟩
    · rintro h3 tk3 m3 lo nw hPz1 F3 N3
      with_reducible refine Classical.byContradiction fun hZq => ?_
      obtain ⟨c, its, nn, kr, cnt, b, n, nt, tb, tn, tt, rfl, rfl, hits, hrun, hbd, b7⟩ := hPz1
      refine hZq ?_
      clear hZq
      have hsz : (T cs).cps.size = cs.length := by simp [T]
      rw [hsz] at hrun b7
      rw [List.drop_length, wsRun] at hrun
      exact ⟨rfl, WsM.intro ⟨At.intro F3 N3 (by (first | focus ((repeat (first | exact True.intro | (refine AllAt.keep _ rfl ?_ ?_; (focus decide +kernel)) | (refine AllAt.skip _ rfl ?_ ?_; (focus decide +kernel)))); done) | ((repeat (refine And.intro ?_ ?_; (focus (first | walk_at "m_look" | rfl)))); exact True.intro))) (by (first | focus ((repeat (first | exact True.intro | with_reducible exact InAll.self | with_reducible refine InAll.keep ?_ | with_reducible refine InAll.skip ?_)); done) | ((repeat (refine And.intro (by k_mem) ?_)); exact True.intro))), hits, hrun, by omega⟩⟩

  rintro fl s1 hPz1
  with_reducible refine Classical.byContradiction fun hZq => ?_
  obtain ⟨rfl, c, its, nn, kr, cnt, b, n, nt, tb, tn, tt, ⟨h1', tk1, m1, rfl, F1', N1'⟩, hits, hrun, b7⟩ := hPz1
  refine hZq ?_
  clear hZq
  have hil := hits.length
  have nc1 := neN (ne_of_cls N1' (.head _) (.tail _ (.head _)) (fun e => nomatch e))
  have nc2 := neN (ne_of_cls N1' (.head _) (.tail _ (.tail _ (.head _))) (fun e => by injection e with e; exact absurd e (by decide)))
  k_steps
  rename News _ _ _ _ => N2'
  have nd1 := neN (ne_of_cls N2' (.tail _ (.head _)) (.tail _ (.tail _ (.tail _ (.head _)))) (fun e => nomatch e))
  have nd2 := neN (ne_of_cls N2' (.tail _ (.head _)) (.tail _ (.tail _ (.tail _ (.tail _ (.head _))))) (fun e => by injection e with e; exact absurd e (by decide)))
  k_steps
  rename News _ _ _ _ => N3'
  exact hret _ _ _ _ _ _ _ _ _ _ _ _ _ _ _ _ _ _ (by simp [hil]) (kg.fr (by assumption)) hrun hits b7 (N3' _ (.tail _ (.tail _ (.tail _ (.head _))))).1 (N3' _ (.tail _ (.tail _ (.tail _ (.tail _ (.head _)))))).1 (N3'.get (.head _)) (N3'.get (.tail _ (.head _)))
    (fresh_of kg N3' (.head _) (by
      have m1 := ne_of_cls N3' (.head _) (.tail _ (.tail _ (.tail _ (.head _)))) (fun e => nomatch e)
      have m2 := ne_of_cls N3' (.head _) (.tail _ (.tail _ (.tail _ (.tail _ (.head _))))) (fun e => by injection e with e; exact absurd e (by decide))
      intro q
      rcases List.mem_cons.mp q with q | q
      · exact m1 q
      · exact m2 (List.mem_singleton.mp q)))
    (fresh_of kg N3' (.tail _ (.head _)) (by
      intro q
      rcases List.mem_cons.mp q with q | q
      · exact nd1 q
      · exact nd2 (List.mem_singleton.mp q)))

end partWs1
theorem off_Ind1 : (1 : Nat) = 1 := by
  w_top off
  first | walk1 | rfl
section partInd1
theorem kp_full {wr : List Addr} {h g h' : Heap} {L : Addr} {m : Str → Option Value} {news : List (Addr × Obj)} (k : Kp wr h g) (F : Fr g L h' m) (N : News g L h' news) (e : ∀ a ∈ wr, ∃ o, h.get? a = some o ∧ (a, o) ∈ news) : Kp [] h h' := fun b o _ q => by
  by_cases hb : b ∈ wr
  · with_reducible refine Classical.byContradiction fun hZq => ?_
    obtain ⟨o', e1, e2⟩ := e b hb
    refine hZq ?_
    clear hZq
    rw [e1] at q; cases q
    exact (N _ e2).1
  · exact F.keep _ _ (k b o hb q)
noncomputable def ilP (cnt : List Int) (size : Int) : Nat → Int
  | 0 => 0
  | k + 1 => ilP cnt size k + Int.fdiv (size + k) size * cnt.getD (size + k).toNat 0
noncomputable def indP (cnt : List Int) (b nt size : Int) : Int := b + size * (ilP cnt size ((cnt.length : Int) - size).toNat + nt)
theorem ilP_b {cnt : List Int} {size : Int} (hs : 1 ≤ size) (hc : ∀ n ∈ cnt, 0 ≤ n ∧ n ≤ 1000) (hl : cnt.length ≤ 1000) : ∀ k : Nat, k ≤ ((cnt.length : Int) - size).toNat → 0 ≤ ilP cnt size k ∧ ilP cnt size k ≤ 1000000 * k
  | 0, _ => ⟨Int.le_refl _, Int.le_refl _⟩
  | k + 1, h => by
    obtain ⟨a, b⟩ := ilP_b hs hc hl k (by omega)
    have hlt : (size + k).toNat < cnt.length := by omega
    obtain ⟨c1, c2⟩ := hc _ (List.getElem_mem hlt)
    have e : cnt.getD (size + k).toNat 0 = cnt[(size + k).toNat] := by simp [List.getD, hlt]
    have d1 : 0 ≤ Int.fdiv (size + k) size ∧ Int.fdiv (size + k) size ≤ 1000 := by
      rw [Int.fdiv_eq_ediv_of_nonneg _ (by omega)]
      refine ⟨Int.ediv_nonneg (by omega) (by omega), ?_⟩
      refine Int.le_trans (Int.ediv_le_self _ (by omega)) (by omega)
    unfold ilP
    rw [e]
    have p1 := Int.mul_nonneg d1.1 c1
    have p2 : Int.fdiv (size + k) size * cnt[(size + k).toNat] ≤ 1000 * 1000 := Int.mul_le_mul d1.2 c2 c1 (by decide)
    constructor
    · omega
    · omega
theorem seqIndex_in {k : Int} {n : Nat} (h0 : 0 ≤ k) (h1 : k < n) : seqIndex? k n = some k.toNat := by
  unfold seqIndex?
  have : ¬ k < 0 := by omega
  simp [this, h0, h1]
theorem indent_spec (w : World) (s : Shared) (R : Result → Shared → Prop) (x dx D Dc : Addr) (str : Str) (its : List Value) (cnt : List Int) (b n nt size : Int) (t k0 k1 k2 k3 k4 tb tn tt tz : Tok) (q : Bool)
  (G : Gd (K0 w.params) (hideAll s.heap [x, dx, D, Dc]))
  (h1 : s.heap.get? x = some (instObj 83 dx)) (h2 : s.heap.get? dx = some (dictOf (wsEs w str t k0 k1 k2 k3 k4 n tn nt tt D q) 5)) (h3' : s.heap.get? D = some { cls := .type "tuple", data := .seq #[.ref Dc, .int b tb] }) (h4 : s.heap.get? Dc = some { cls := .type "tuple", data := .seq its.toArray })
  (hits : IntsAre its cnt) (hlen : cnt.length ≤ 1000) (hcb : ∀ n ∈ cnt, 0 ≤ n ∧ n ≤ 1000) (hb : 0 ≤ b ∧ b ≤ 1000) (hnt : 0 ≤ nt ∧ nt ≤ 1000) (hs1 : 1 ≤ size) (hs2 : size ≤ 20)
  (hret : ∀ (h' : Heap) (tk' : Nat) (t' : Tok), Kp [] s.heap h' → R (.ok (.ret (.int (indP cnt b nt size) t'))) { s with heap := h', toks := tk' }) :
  codeAny (model prog w) (lv 9) (.call (.ref 52) ⟨[.ref x, .int size tz], []⟩) R s := by
  have _kf : (PySem.Challenge.rw_pg0230_01, K0) = (PySem.Challenge.rw_pg0230_01, K0) := by k_fill; rfl
  refine' enter_plain (K := K0 w.params) (binds := [((PySem.Str.ofString "self"), .ref x), ((PySem.Str.ofString "tabsize"), .int size tz)]) (rb := [((PySem.Str.ofString "tabsize"), .int size tz), ((PySem.Str.ofString "self"), .ref x)]) [(x, instObj 83 dx), (dx, dictOf (wsEs w str t k0 k1 k2 k3 k4 n tn nt tt D q) 5), (D, { cls := .type "tuple", data := .seq #[.ref Dc, .int b tb] }), (Dc, { cls := .type "tuple", data := .seq its.toArray })] G ?hN ?ho ?hcd ?hroom ?hbind ?hloc ?hrb ?_ ?c1 ?c2 ?c3 ?c4
  (case hN => intro p hp; rcases List.mem_cons.mp hp with rfl | hp; exact h1; rcases List.mem_cons.mp hp with rfl | hp; exact h2; rcases List.mem_cons.mp hp with rfl | hp; exact h3'; rcases List.mem_cons.mp hp with rfl | hp; exact h4; cases hp)
  (( (case ho => k_is); (case hcd => k_is); (case hroom => k_room); (case hbind => exact BindsTo.of_eq rfl); (case hloc => exact locs rfl); (case hrb => exact rfl); (case c1 => decide); (case c2 => exact rfl); (case c3 => exact rfl); (case c4 => exact rfl); k_whole))
  intro g L h0 pp loose mean mg mb kg F0 N0 X TT l1 l2
  have hil := hits.length
  have nx := ne_of_cls N0 (.tail _ (.tail _ (.tail _ (.head _)))) (.head _) (fun e => nomatch e)
  dsimp only [wsEs] at N0
  k_steps
  ((unfold Stop; (with_reducible refine for_stmt ?_ ?mzhs); (case mzhs => intro _; rfl)))
  k_steps
  rename News _ _ _ _ => NN
  with_reducible refine ktm_lenK (vs := its) (k := (cnt.length : Int)) NN (List.mem_cons_of_mem _ (List.mem_cons_of_mem _ (List.mem_cons_of_mem _ List.mem_cons_self))) (by omega) (by omega) ?_
  k_steps
  rename IsRange _ _ _ _ _ _ _ _ => hr
  refine it_range (L := L) (fun i lo nw => ∃ tl, lo = [((PySem.Str.ofString "tabsize"), .int size tz), ((PySem.Str.ofString "self"), .ref x), ((PySem.Str.ofString "count"), .ref Dc), ((PySem.Str.ofString "trailing"), .int b tb), ((PySem.Str.ofString "il"), .int (ilP cnt size i) tl)] ∧
    nw = [(x, instObj 83 dx), (dx, dictOf (wsEs w str t k0 k1 k2 k3 k4 n tn nt tt D q) 5), (D, { cls := .type "tuple", data := .seq #[.ref Dc, .int b tb] }), (Dc, { cls := .type "tuple", data := .seq its.toArray })])
    rfl rfl hr (small_one (by omega) (by omega) (by omega) (by omega)) (rangeSize_nat _ _) [((PySem.Str.ofString "tabsize"), .int size tz), ((PySem.Str.ofString "self"), .ref x), ((PySem.Str.ofString "count"), .ref Dc), ((PySem.Str.ofString "trailing"), .int b tb), ((PySem.Str.ofString "il"), .int 0 _)] [(x, instObj 83 dx), (dx, dictOf (wsEs w str t k0 k1 k2 k3 k4 n tn nt tt D q) 5), (D, { cls := .type "tuple", data := .seq #[.ref Dc, .int b tb] }), (Dc, { cls := .type "tuple", data := .seq its.toArray })] (by assumption) (by assumption) (by (first | focus ((repeat (first | exact True.intro | (refine AllAt.keep _ rfl ?_ ?_; (focus decide +kernel)) | (refine AllAt.skip _ rfl ?_ ?_; (focus decide +kernel)))); done) | ((repeat (refine And.intro ?_ ?_; (focus (first | walk_at "m_look" | rfl)))); exact True.intro))) (by (first | focus ((repeat (first | exact True.intro | with_reducible exact InAll.self | with_reducible refine InAll.keep ?_ | with_reducible refine InAll.skip ?_)); done) | ((repeat (refine And.intro (by k_mem) ?_)); exact True.intro))) ⟨_, rfl, rfl⟩ ?_ ?_
  · rintro i ti I h3 tk3 m3 lo nw oI hi hPz1 F3 N3 hne hcl
    with_reducible refine Classical.byContradiction fun hZq => ?_
    obtain ⟨tl, rfl, rfl⟩ := hPz1
    refine hZq ?_
    clear hZq
    obtain ⟨v1, v2⟩ := ilP_b hs1 hcb hlen i (by omega)
    obtain ⟨v3, v4⟩ := ilP_b hs1 hcb hlen (i + 1) (by omega)
    have hlt : (size + i).toNat < cnt.length := by omega
    obtain ⟨tv, hv⟩ := hits.get (size + i).toNat cnt[(size + i).toNat] (by simp [hlt])
    obtain ⟨w1, w2⟩ := hcb _ (List.getElem_mem hlt)
    have hgd : cnt.getD (size + i).toNat 0 = cnt[(size + i).toNat] := by simp [List.getD, hlt]
    have hsx : seqIndex? (size + i) its.length = some (size + i).toNat := seqIndex_in (by omega) (by omega)
    generalize hcv : cnt[(size + i).toNat] = cv at *
    have d1 : 0 ≤ Int.fdiv (size + i) size ∧ Int.fdiv (size + i) size ≤ 1000 := by
      rw [Int.fdiv_eq_ediv_of_nonneg _ (by omega)]
      exact ⟨Int.ediv_nonneg (by omega) (by omega), Int.le_trans (Int.ediv_le_self _ (by omega)) (by omega)⟩
    simp only [AllNe, and_true] at hne
    with_reducible refine Classical.byContradiction fun hZq => ?_
    obtain ⟨hx1, hx2, hx3, hx4⟩ := hne
    refine hZq ?_
    clear hZq
    dsimp only [wsEs] at N3
    k_steps
    refine turned_next _ _ (.inl rfl) (by assumption) (by assumption) (by (first | focus ((repeat (first | exact True.intro | (refine AllAt.keep _ rfl ?_ ?_; (focus decide +kernel)) | (refine AllAt.skip _ rfl ?_ ?_; (focus decide +kernel)))); done) | ((repeat (refine And.intro ?_ ?_; (focus (first | walk_at "m_look" | rfl)))); exact True.intro))) (by (first | focus ((repeat (first | exact True.intro | with_reducible exact InAll.self | with_reducible refine InAll.keep ?_ | with_reducible refine InAll.skip ?_)); done) | ((repeat (refine And.intro (by k_mem) ?_)); exact True.intro))) (by ((repeat (refine And.intro ?_ ?_; (focus k_ne))); exact True.intro)) ⟨_, rfl, rfl⟩
  · rintro h3 tk3 m3 lo nw hPz1 F3 N3
    with_reducible refine Classical.byContradiction fun hZq => ?_
    obtain ⟨tl, rfl, rfl⟩ := hPz1
    refine hZq ?_
    clear hZq
    obtain ⟨v1, v2⟩ := ilP_b hs1 hcb hlen ((cnt.length : Int) - size).toNat (Nat.le_refl _)
    dsimp only [wsEs] at N3
    k_steps
    rename News _ _ _ _ => NN
    refine hret _ _ _ (kp_full kg (by assumption) NN ?_)
    intro a ha
    rcases List.mem_cons.mp ha with rfl | ha
    · exact ⟨_, h1, .head _⟩
    rcases List.mem_cons.mp ha with rfl | ha
    · exact ⟨_, h2, .tail _ (.head _)⟩
    rcases List.mem_cons.mp ha with rfl | ha
    · exact ⟨_, h3', .tail _ (.tail _ (.head _))⟩
    rcases List.mem_cons.mp ha with rfl | ha
    · exact ⟨_, h4, .tail _ (.tail _ (.tail _ (.head _)))⟩
    cases ha

end partInd1
theorem off_Lon1 : (1 : Nat) = 1 := by
  w_top off
  first | walk1 | rfl
section partLon1
noncomputable abbrev tupI (its : List Value) : Obj := { cls := .type "tuple", data := .seq its.toArray }
set_option genInjectivity false in
set_option genSizeOf false in
/-- a Whitespace as it lies: the object, its dict, norm, count -/
structure WsA where
  x : Addr
  dx : Addr
  D : Addr
  Dc : Addr
  str : Str
  its : List Value
  cnt : List Int
  b : Int
  n : Int
  nt : Int
  t : Tok
  k0 : Tok
  k1 : Tok
  k2 : Tok
  k3 : Tok
  k4 : Tok
  tb : Tok
  tn : Tok
  tt : Tok
  q : Bool
noncomputable abbrev WsA.led (w : World) (a : WsA) : List (Addr × Obj) :=
  [(a.x, instObj 83 a.dx), (a.dx, dictOf (wsEs w a.str a.t a.k0 a.k1 a.k2 a.k3 a.k4 a.n a.tn a.nt a.tt a.D a.q) 5), (a.D, tup2 (.ref a.Dc) (.int a.b a.tb)), (a.Dc, tupI a.its)]
structure WsA.Ok (a : WsA) : Prop where
  hits : IntsAre a.its a.cnt
  hlen : a.cnt.length ≤ 1000
  hcb : ∀ n ∈ a.cnt, 0 ≤ n ∧ n ≤ 1000
  hb : 0 ≤ a.b ∧ a.b ≤ 1000
  hn : 0 ≤ a.n ∧ a.n ≤ 1000
  hnt : 0 ≤ a.nt ∧ a.nt ≤ 1000
  hq : a.q = decide ((a.cnt.length : Int) ≤ 1)
/-- where the Whitespace lies in a heap -/
noncomputable def WsA.In (w : World) (a : WsA) (h : Heap) : Prop := ∀ p ∈ a.led w, h.get? p.1 = some p.2
theorem ws_kp {w : World} {a : WsA} {h g h' : Heap} {L : Addr} {m : Str → Option Value} {news : List (Addr × Obj)} (i : a.In w h) (k : Kp ((a.led w).map (·.1)) h g) (F : Fr g L h' m) (N : News g L h' news) (s : ∀ p ∈ a.led w, p ∈ news) : Kp [] h h' :=
  kp_full k F N fun x hx => by
    with_reducible refine Classical.byContradiction fun hZq => ?_
    obtain ⟨p, hp, rfl⟩ := List.mem_map.mp hx
    refine hZq ?_
    clear hZq
    exact ⟨p.2, i p hp, s p hp⟩
noncomputable def lonP (a : WsA) : Int := if a.b > (a.cnt.length : Int) - 1 then a.b else (a.cnt.length : Int) - 1
theorem lonP_b {a : WsA} (ok : a.Ok) : -1 ≤ lonP a ∧ lonP a ≤ 1000 := by
  with_reducible refine Classical.byContradiction fun hZq => ?_
  obtain ⟨_, h1, _, h2, _, _, _⟩ := ok
  refine hZq ?_
  clear hZq
  unfold lonP
  split <;> omega
theorem longest_spec (w : World) (s : Shared) (R : Result → Shared → Prop) (a : WsA) (ok : a.Ok) (ha : a.In w s.heap)
  (G : Gd (K0 w.params) (hideAll s.heap ((a.led w).map (·.1))))
  (hret : ∀ (h' : Heap) (tk' : Nat) (t' : Tok), Kp [] s.heap h' → R (.ok (.ret (.int (lonP a) t'))) { s with heap := h', toks := tk' }) :
  codeAny (model prog w) (lv 9) (.call (.ref 45) ⟨[.ref a.x], []⟩) R s := by
  have _kf : (PySem.Challenge.rw_pg0230_01, K0) = (PySem.Challenge.rw_pg0230_01, K0) := by k_fill; rfl
  refine' enter_plain (K := K0 w.params) (binds := [((PySem.Str.ofString "self"), .ref a.x)]) (rb := [((PySem.Str.ofString "self"), .ref a.x)]) (a.led w) G ha ?ho ?hcd ?hroom ?hbind ?hloc ?hrb ?_ ?c1 ?c2 ?c3 ?c4
  (( (case ho => k_is); (case hcd => k_is); (case hroom => k_room); (case hbind => exact BindsTo.of_eq rfl); (case hloc => exact locs rfl); (case hrb => exact rfl); (case c1 => decide); (case c2 => exact rfl); (case c3 => exact rfl); (case c4 => exact rfl); k_whole))
  intro g L h0 pp loose mean mg mb kg F0 N0 X TT l1 l2
  with_reducible refine Classical.byContradiction fun hZq => ?_
  obtain ⟨hits, hlen, hcb, hb, hn, hnt, hq⟩ := ok
  refine hZq ?_
  clear hZq
  have hil := hits.length
  have nx := ne_of_cls N0 (.tail _ (.tail _ (.tail _ (.head _)))) (.head _) (fun e => nomatch e)
  dsimp only [WsA.led, wsEs] at N0
  k_steps
  rename News _ _ _ _ => NN
  with_reducible refine ktm_lenK (vs := a.its) (k := (a.cnt.length : Int)) NN (List.mem_cons_of_mem _ (List.mem_cons_of_mem _ (List.mem_cons_of_mem _ List.mem_cons_self))) (by omega) (by omega) ?_
  k_steps
  rename News _ _ _ _ => NZ
  exact hret _ _ _ (ws_kp ha kg (by assumption) NZ fun _ h => h)

end partLon1
theorem off_Eql1 : (1 : Nat) = 1 := by
  w_top off
  first | walk1 | rfl
section partEql1
open PySem.SeqAt
local macro_rules | `(tactic| walk_at "compareOp Eq ref ref") => `(tactic| refine stop_at ?_)
theorem reads_ints {h : Heap} : ∀ {vs : List Value} {ns : List Int}, IntsAre vs ns → ReadsAll h vs (ns.map PyData.int) []
  | _, _, .nil => .nil
  | _, _, .cons _ _ i => ReadsAll.cons (.int _ _) (reads_ints i)
theorem reads_norm {h : Heap} {D Dc : Addr} {its : List Value} {cnt : List Int} {b : Int} {tb : Tok} (h1 : h.get? D = some (tup2 (.ref Dc) (.int b tb))) (h2 : h.get? Dc = some (tupI its)) (i : IntsAre its cnt) : Reads h (.ref D) (.tuple [.tuple (cnt.map PyData.int), .int b]) [] :=
  reads_tuple_at h1 rfl rfl (ReadsAll.cons (as := []) (reads_tuple_at h2 rfl rfl (by simpa using reads_ints i)) (ReadsAll.cons (as := []) (.int _ _) .nil))
theorem norm_eqv (c d : List Int) (b e : Int) : PyData.eqv (.tuple [.tuple (c.map PyData.int), .int b]) (.tuple [.tuple (d.map PyData.int), .int e]) = decide (c = d ∧ b = e) := by
  simp only [PyData.eqv, PyData.eqvAll, ked_eqvAll, Bool.and_true]
  by_cases h1 : c = d <;> by_cases h2 : b = e <;> simp [h1, h2]
theorem norm_lay (c : List Int) (b : Int) : PyData.canLay0 (.tuple [.tuple (c.map PyData.int), .int b]) = true := by
  simp [PyData.canLay0, PyData.canLayAll0, ke_canLayAll0]
theorem norm_depth (c : List Int) (b : Int) : PyData.depth (.tuple [.tuple (c.map PyData.int), .int b]) ≤ 2 := by
  simp [PyData.depth, PyData.depthAll, ke_depthAll]
theorem equal_spec (w : World) (s : Shared) (R : Result → Shared → Prop) (a o : WsA) (ok : a.Ok) (ok2 : o.Ok) (ha : a.In w s.heap) (ho : o.In w s.heap)
  (G : Gd (K0 w.params) (hideAll s.heap ((a.led w ++ o.led w).map (·.1))))
  (hret : ∀ (h' : Heap) (tk' : Nat), Kp [] s.heap h' → R (.ok (.ret (.bool (decide (a.cnt = o.cnt ∧ a.b = o.b))))) { s with heap := h', toks := tk' }) :
  codeAny (model prog w) (lv 9) (.call (.ref 59) ⟨[.ref a.x, .ref o.x], []⟩) R s := by
  have _kf : (PySem.Challenge.rw_pg0230_01, K0) = (PySem.Challenge.rw_pg0230_01, K0) := by k_fill; rfl
  have hao : ∀ p ∈ a.led w ++ o.led w, s.heap.get? p.1 = some p.2 := fun p hp => (List.mem_append.mp hp).elim (ha p) (ho p)
  refine' enter_plain (K := K0 w.params) (binds := [((PySem.Str.ofString "self"), .ref a.x), ((PySem.Str.ofString "other"), .ref o.x)]) (rb := [((PySem.Str.ofString "other"), .ref o.x), ((PySem.Str.ofString "self"), .ref a.x)]) (a.led w ++ o.led w) G hao ?ho ?hcd ?hroom ?hbind ?hloc ?hrb ?_ ?c1 ?c2 ?c3 ?c4
  (( (case ho => k_is); (case hcd => k_is); (case hroom => k_room); (case hbind => exact BindsTo.of_eq rfl); (case hloc => exact locs rfl); (case hrb => exact rfl); (case c1 => decide); (case c2 => exact rfl); (case c3 => exact rfl); (case c4 => exact rfl); k_whole))
  intro g L h0 pp loose mean mg mb kg F0 N0 X TT l1 l2
  with_reducible refine Classical.byContradiction fun hZq => ?_
  obtain ⟨hits, hlen, hcb, hb, hn, hnt, hq⟩ := ok
  refine hZq ?_
  clear hZq
  with_reducible refine Classical.byContradiction fun hZq => ?_
  obtain ⟨hits2, hlen2, hcb2, hb2, hn2, hnt2, hq2⟩ := ok2
  refine hZq ?_
  clear hZq
  dsimp only [WsA.led, wsEs, List.cons_append, List.nil_append] at N0
  k_steps
  unfold Stop
  rename News _ _ _ _ => NN
  rename Fr _ _ _ _ => FF
  refine compareEq_reads (reads_norm (NN.get (by k_mem)) (NN.get (by k_mem)) hits) (reads_norm (NN.get (by k_mem)) (NN.get (by k_mem)) hits2) (norm_lay _ _) (norm_lay _ _) ?_ ?_
  · refine Nat.lt_of_le_of_lt (Nat.add_le_add_left (Nat.le_trans (Nat.min_le_left _ _) (norm_depth a.cnt a.b)) _) ?_
    exact Nat.le_of_ble_eq_true rfl
  rw [norm_eqv]
  k_steps
  exact hret _ _ (kp_full kg FF NN fun x hx => by
    with_reducible refine Classical.byContradiction fun hZq => ?_
    obtain ⟨p, hp, rfl⟩ := List.mem_map.mp hx
    refine hZq ?_
    clear hZq
    exact ⟨p.2, hao p hp, hp⟩)

end partEql1
theorem off_Less1 : (1 : Nat) = 1 := by
  w_top off
  first | walk1 | rfl
section partLess1
local macro_rules | `(tactic| walk_at "call ref") => `(tactic| refine stop_at ?_)
theorem ws_gd {w : World} {a : WsA} {K : Frag} {g h : Heap} {L : Addr} {m : Str → Option Value} {news : List (Addr × Obj)} {p : Program} {loose : List Str} {mean : ExcName → Option Value} {mg mb : Str → Option Value}
    (X : K.In g) (T : Top p loose mean mg mb g) (F : Fr g L h m) (N : News g L h news) (hs : InAll news (a.led w)) : Gd K (hideAll h ((a.led w).map (·.1))) :=
  gd_of X T F N _ fun x hx => by
    with_reducible refine Classical.byContradiction fun hZq => ?_
    obtain ⟨p, hp, rfl⟩ := List.mem_map.mp hx
    refine hZq ?_
    clear hZq
    exact ⟨p.2, hs.mem p hp⟩
theorem ws_in {w : World} {a : WsA} {g h : Heap} {L : Addr} {news : List (Addr × Obj)} (N : News g L h news) (hs : InAll news (a.led w)) : a.In w h := fun p hp => (N p (hs.mem p hp)).1
noncomputable def indA (a : WsA) (size : Int) : Int := indP a.cnt a.b a.nt size
theorem indent_ws (w : World) (s : Shared) (R : Result → Shared → Prop) (a : WsA) (ok : a.Ok) (ha : a.In w s.heap) (size : Int) (tz : Tok) (G : Gd (K0 w.params) (hideAll s.heap ((a.led w).map (·.1)))) (hs1 : 1 ≤ size) (hs2 : size ≤ 20)
  (hret : ∀ (h' : Heap) (tk' : Nat) (t' : Tok), Kp [] s.heap h' → R (.ok (.ret (.int (indA a size) t'))) { s with heap := h', toks := tk' }) :
  codeAny (model prog w) (lv 9) (.call (.ref 52) ⟨[.ref a.x, .int size tz], []⟩) R s :=
  indent_spec w s R a.x a.dx a.D a.Dc a.str a.its a.cnt a.b a.n a.nt size a.t a.k0 a.k1 a.k2 a.k3 a.k4 a.tb a.tn a.tt tz a.q G (ha _ (.head _)) (ha _ (.tail _ (.head _))) (ha _ (.tail _ (.tail _ (.head _)))) (ha _ (.tail _ (.tail _ (.tail _ (.head _))))) ok.hits ok.hlen ok.hcb ok.hb ok.hnt hs1 hs2 hret
noncomputable def topP (a o : WsA) : Int := (if lonP o > lonP a then lonP o else lonP a) + 1
noncomputable def lessP (a o : WsA) : Bool := if a.n ≥ o.n then false else if a.q && o.q then decide (a.nt ≤ o.nt) else (List.range (topP a o - 1).toNat).all fun j => decide (indA a (2 + (j : Int)) < indA o (2 + (j : Int)))
noncomputable def NextOr (Mid : Shared → Prop) (Q : Flow → Shared → Prop) (fl : Flow) (s' : Shared) : Prop := match fl with
  | .next => Mid s'
  | f => Q f s'
theorem NextOr.next {Mid : Shared → Prop} {Q : Flow → Shared → Prop} {s' : Shared} (h : Mid s') : NextOr Mid Q .next s' := h
theorem NextOr.ret {Mid : Shared → Prop} {Q : Flow → Shared → Prop} {v : Value} {s' : Shared} (h : Q (.ret v) s') : NextOr Mid Q (.ret v) s' := h
theorem cutR {M : Model} {A : Around} {body : List Stmt} {env : Env} {Q : Flow → Shared → Prop} {E : Value → Shared → Prop} {s : Shared} (n : Nat) (Mid : Shared → Prop)
    (h1 : wpAny M A (execs (body.take n) env) (NextOr Mid Q) E s) (h2 : ∀ s', Mid s' → wpAny M A (execs (body.drop n) env) Q E s') : wpAny M A (execs body env) Q E s := by
  rw [← List.take_append_drop n body]
  refine fun Γ p hΓ => execs_app _ p s (Sem.wp_mono M Γ _ (fun fl p' s' h => ?_) (fun _ _ _ x => x) _ _ (h1 Γ p hΓ))
  cases fl with
  | next => exact h2 s' h Γ p' hΓ
  | ret v => exact h
  | brk => exact h
  | cont => exact h
noncomputable def LessM (w : World) (a o : WsA) (g : Heap) (L : Addr) (s s' : Shared) : Prop := (a.n < o.n ∧ (a.q && o.q) = false) ∧ At g L [((PySem.Str.ofString "other"), .ref o.x), ((PySem.Str.ofString "self"), .ref a.x)] (a.led w ++ o.led w) s s'
noncomputable def LessK (w : World) (a o : WsA) (N : Int) (tn : Tok) (i : Nat) (lo : List (Str × Value)) (nw : List (Addr × Obj)) : Prop :=
  lo = [((PySem.Str.ofString "other"), .ref o.x), ((PySem.Str.ofString "self"), .ref a.x), ((PySem.Str.ofString "n"), .int N tn)] ∧ nw = a.led w ++ o.led w ∧ ∀ j < i, indA a (2 + (j : Int)) < indA o (2 + (j : Int))
theorem LessK.intro {w : World} {a o : WsA} {N : Int} {tn : Tok} {i : Nat} (h : ∀ j < i, indA a (2 + (j : Int)) < indA o (2 + (j : Int))) : LessK w a o N tn i [((PySem.Str.ofString "other"), .ref o.x), ((PySem.Str.ofString "self"), .ref a.x), ((PySem.Str.ofString "n"), .int N tn)] (a.led w ++ o.led w) := ⟨rfl, rfl, h⟩
theorem less_spec (w : World) (s : Shared) (R : Result → Shared → Prop) (a o : WsA) (ok : a.Ok) (ok2 : o.Ok) (ha : a.In w s.heap) (ho : o.In w s.heap) (hla : lonP a ≤ 18) (hlo : lonP o ≤ 18)
  (G : Gd (K0 w.params) (hideAll s.heap ((a.led w ++ o.led w).map (·.1))))
  (hret : ∀ (h' : Heap) (tk' : Nat), Kp [] s.heap h' → R (.ok (.ret (.bool (lessP a o)))) { s with heap := h', toks := tk' }) :
  codeAny (model prog w) (lv 11) (.call (.ref 73) ⟨[.ref a.x, .ref o.x], []⟩) R s := by
  have _kf : (PySem.Challenge.rw_pg0230_01, K0) = (PySem.Challenge.rw_pg0230_01, K0) := by k_fill; rfl
  have hao : ∀ p ∈ a.led w ++ o.led w, s.heap.get? p.1 = some p.2 := fun p hp => (List.mem_append.mp hp).elim (ha p) (ho p)
  refine' enter_plain (K := K0 w.params) (binds := [((PySem.Str.ofString "self"), .ref a.x), ((PySem.Str.ofString "other"), .ref o.x)]) (rb := [((PySem.Str.ofString "other"), .ref o.x), ((PySem.Str.ofString "self"), .ref a.x)]) (a.led w ++ o.led w) G hao ?ho ?hcd ?hroom ?hbind ?hloc ?hrb ?_ ?c1 ?c2 ?c3 ?c4
  (( (case ho => k_is); (case hcd => k_is); (case hroom => k_room); (case hbind => exact BindsTo.of_eq rfl); (case hloc => exact locs rfl); (case hrb => exact rfl); (case c1 => decide); (case c2 => exact rfl); (case c3 => exact rfl); (case c4 => exact rfl); k_whole))
  intro g L h0 pp loose mean mg mb kg F0 N0 X TT l1 l2
  have hfin : ∀ {h' : Heap} {m : Str → Option Value} {news : List (Addr × Obj)}, Fr g L h' m → News g L h' news → InAll news (a.led w ++ o.led w) → Kp [] s.heap h' := fun F N i => kp_full kg F N fun x hx => by
    with_reducible refine Classical.byContradiction fun hZq => ?_
    obtain ⟨p, hp, rfl⟩ := List.mem_map.mp hx
    refine hZq ?_
    clear hZq
    exact ⟨p.2, hao p hp, i.mem p hp⟩
  obtain ⟨z1, z2⟩ := lonP_b ok
  obtain ⟨z3, z4⟩ := lonP_b ok2
  unfold lessP at hret
  dsimp only [WsA.led, wsEs, List.cons_append, List.nil_append] at N0
  refine cutR 2 (LessM w a o g L s) ?_ ?_
  · show wpAny _ _ (execs [_, _] _) _ _ _
    k_steps
    · exact NextOr.ret (by rw [if_pos (show a.n ≥ o.n by omega)] at hret; exact hret _ _ (hfin F0 N0 InAll.self))
    · rename a.q = true => e1
      rename o.q = true => e2
      exact NextOr.ret (by rw [if_neg (show ¬ a.n ≥ o.n by omega), if_pos (by rw [e1, e2]; rfl)] at hret; exact hret _ _ (hfin F0 N0 InAll.self))
    · rename o.q = false => e2
      exact NextOr.next ⟨⟨by omega, by rw [e2, Bool.and_false]⟩, At.intro F0 N0 (by (first | focus ((repeat (first | exact True.intro | (refine AllAt.keep _ rfl ?_ ?_; (focus decide +kernel)) | (refine AllAt.skip _ rfl ?_ ?_; (focus decide +kernel)))); done) | ((repeat (refine And.intro ?_ ?_; (focus (first | walk_at "m_look" | rfl)))); exact True.intro))) InAll.self⟩
    · rename a.q = false => e2
      exact NextOr.next ⟨⟨by omega, by rw [e2]; rfl⟩, At.intro F0 N0 (by (first | focus ((repeat (first | exact True.intro | (refine AllAt.keep _ rfl ?_ ?_; (focus decide +kernel)) | (refine AllAt.skip _ rfl ?_ ?_; (focus decide +kernel)))); done) | ((repeat (refine And.intro ?_ ?_; (focus (first | walk_at "m_look" | rfl)))); exact True.intro))) InAll.self⟩
  · rintro s1 hPz1
    with_reducible refine Classical.byContradiction fun hZq => ?_
    obtain ⟨⟨q1, q2⟩, h1, tk1, m1, rfl, F1, N1⟩ := hPz1
    refine hZq ?_
    clear hZq
    rw [if_neg (show ¬ a.n ≥ o.n by omega), if_neg (by rw [q2]; decide)] at hret
    clear F0 N0
    show wpAny _ _ (execs [_, _, _] _) _ _ _
    have hsa : InAll (a.led w ++ o.led w) (a.led w) := inAll_of fun p hp => List.mem_append.mpr (.inl hp)
    have hso : InAll (a.led w ++ o.led w) (o.led w) := inAll_of fun p hp => List.mem_append.mpr (.inr hp)
    dsimp only [WsA.led, wsEs, List.cons_append, List.nil_append] at N1
    k_steps
    unfold Stop
    refine wpAny_call ?_
    refine' codeAny_at (A' := lv 9) ?a1 ?a2 ?a3 ?a4 ?a5 ?_
    (case a1 => exact rfl); (case a2 => (exact Nat.le_of_ble_eq_true rfl)); (case a3 => (exact Nat.le_of_ble_eq_true rfl)); (case a4 => exact rfl); (case a5 => exact rfl)
    have NA : News g L _ (a.led w ++ o.led w) := N1
    show codeAny _ _ (.call (.ref 45) ⟨[.ref a.x], []⟩) _ _
    with_reducible refine' longest_spec w ⟨h1, _, _, _, _⟩ _ a ok (ws_in NA hsa) (ws_gd X TT F1 NA hsa) ?_
    intro h2 tk2 t2 K2
    obtain ⟨F2, N2⟩ := after_none F1 N1 K2
    clear F1 N1 NA
    k_steps
    unfold Stop
    refine wpAny_call ?_
    refine' codeAny_at (A' := lv 9) ?a1 ?a2 ?a3 ?a4 ?a5 ?_
    (case a1 => exact rfl); (case a2 => (exact Nat.le_of_ble_eq_true rfl)); (case a3 => (exact Nat.le_of_ble_eq_true rfl)); (case a4 => exact rfl); (case a5 => exact rfl)
    have NA : News g L _ (a.led w ++ o.led w) := N2
    show codeAny _ _ (.call (.ref 45) ⟨[.ref o.x], []⟩) _ _
    with_reducible refine' longest_spec w ⟨h2, _, _, _, _⟩ _ o ok2 (ws_in NA hso) (ws_gd X TT F2 NA hso) ?_
    intro h3 tk3 t3 K3
    obtain ⟨F3, N3⟩ := after_none F2 N2 K3
    clear F2 N2 NA
    generalize hza : lonP a = la at *
    generalize hzo : lonP o = lo9 at *
    k_steps
    have htop : topP a o = (if lo9 > la then lo9 else la) + 1 := by unfold topP; rw [hza, hzo]
    rw [htop] at hret
    have hN : 0 ≤ (if lo9 > la then lo9 else la) + 1 ∧ (if lo9 > la then lo9 else la) + 1 ≤ 19 := by split <;> omega
    clear htop
    generalize (if lo9 > la then lo9 else la) + 1 = N at *
    clear hza hzo hla hlo z1 z2 z3 z4
    obtain ⟨n1, n2⟩ := hN
    ((unfold Stop; (with_reducible refine for_stmt ?_ ?mzhs); (case mzhs => intro _; rfl)))
    k_steps
    rename IsRange _ _ _ _ _ _ _ _ => hr
    rename Fr _ _ _ _ => F4
    rename News _ _ _ _ => N4
    have hNN : (N + 1 - 2).toNat = (N - 1).toNat := by rw [show N + 1 - 2 = N - 1 by omega]
    refine it_range (L := L) (LessK w a o N _) rfl rfl hr (small_one (by omega) (by omega) (by omega) (by omega)) (rangeSize_nat _ _) [((PySem.Str.ofString "other"), .ref o.x), ((PySem.Str.ofString "self"), .ref a.x), ((PySem.Str.ofString "n"), .int N _)] (a.led w ++ o.led w) F4 N4 (by (first | focus ((repeat (first | exact True.intro | (refine AllAt.keep _ rfl ?_ ?_; (focus decide +kernel)) | (refine AllAt.skip _ rfl ?_ ?_; (focus decide +kernel)))); done) | ((repeat (refine And.intro ?_ ?_; (focus (first | walk_at "m_look" | rfl)))); exact True.intro))) InAll.self (LessK.intro fun j hj => absurd hj (Nat.not_lt_zero j)) ?_ ?_
    · clear F4 N4
      rintro i ti I h5 tk5 m5 lo nw oI hi hPz1 F5 N5 hne hcl
      with_reducible refine Classical.byContradiction fun hZq => ?_
      obtain ⟨rfl, rfl, hall⟩ := hPz1
      refine hZq ?_
      clear hZq
      have hts : 1 ≤ 2 + (i : Int) ∧ 2 + (i : Int) ≤ 20 := by omega
      have hsa' : InAll ((I, oI) :: (a.led w ++ o.led w)) (a.led w) := hsa.skip
      have hso' : InAll ((I, oI) :: (a.led w ++ o.led w)) (o.led w) := hso.skip
      obtain ⟨u1, u2⟩ := hts
      dsimp only [WsA.led, wsEs, List.cons_append, List.nil_append] at N5
      generalize hsi : 2 + (i : Int) = ts at *
      k_steps
      unfold Stop
      rename Fr _ _ _ _ => F6
      rename News _ _ _ _ => N6
      refine wpAny_call ?_
      refine' codeAny_at (A' := lv 9) ?a1 ?a2 ?a3 ?a4 ?a5 ?_
      (case a1 => exact rfl); (case a2 => (exact Nat.le_of_ble_eq_true rfl)); (case a3 => (exact Nat.le_of_ble_eq_true rfl)); (case a4 => exact rfl); (case a5 => exact rfl)
      have NA : News g L _ ((I, oI) :: (a.led w ++ o.led w)) := N6
      with_reducible refine' indent_ws w ⟨_, _, _, _, _⟩ _ a ok (ws_in NA hsa') ts ti (ws_gd X TT F6 NA hsa') u1 u2 ?_
      intro h7 tk7 t7 K7
      obtain ⟨F7, N7⟩ := after_none F6 N6 K7
      clear F6 N6 NA
      k_steps
      unfold Stop
      refine wpAny_call ?_
      refine' codeAny_at (A' := lv 9) ?a1 ?a2 ?a3 ?a4 ?a5 ?_
      (case a1 => exact rfl); (case a2 => (exact Nat.le_of_ble_eq_true rfl)); (case a3 => (exact Nat.le_of_ble_eq_true rfl)); (case a4 => exact rfl); (case a5 => exact rfl)
      have NA : News g L _ ((I, oI) :: (a.led w ++ o.led w)) := N7
      with_reducible refine' indent_ws w ⟨_, _, _, _, _⟩ _ o ok2 (ws_in NA hso') ts ti (ws_gd X TT F7 NA hso') u1 u2 ?_
      intro h8 tk8 t8 K8
      obtain ⟨F8, N8⟩ := after_none F7 N7 K8
      clear F7 N7 NA
      generalize hia : indA a ts = ia at *
      generalize hio : indA o ts = io at *
      k_steps
      · have NA : News g L _ ((I, oI) :: (a.led w ++ o.led w)) := N8
        have hex : ((List.range (N - 1).toNat).all fun j => decide (indA a (2 + (j : Int)) < indA o (2 + (j : Int)))) = false := by
          rw [List.all_eq_false]
          exact ⟨i, List.mem_range.mpr (by omega), by rw [hsi, hia, hio]; simp; omega⟩
        rw [hex] at hret
        exact hret _ _ (hfin F8 NA InAll.self.skip)
      · refine turned_next _ _ (.inl rfl) F8 N8 (by (first | focus ((repeat (first | exact True.intro | (refine AllAt.keep _ rfl ?_ ?_; (focus decide +kernel)) | (refine AllAt.skip _ rfl ?_ ?_; (focus decide +kernel)))); done) | ((repeat (refine And.intro ?_ ?_; (focus (first | walk_at "m_look" | rfl)))); exact True.intro))) InAll.self hne (LessK.intro fun j hj => ?_)
        rcases Nat.lt_succ_iff_lt_or_eq.mp hj with hj | rfl
        · exact hall j hj
        · rw [hsi, hia, hio]; omega
    · rintro h5 tk5 m5 lo nw hPz1 F5 N5
      with_reducible refine Classical.byContradiction fun hZq => ?_
      obtain ⟨rfl, rfl, hall⟩ := hPz1
      refine hZq ?_
      clear hZq
      have hex : ((List.range (N - 1).toNat).all fun j => decide (indA a (2 + (j : Int)) < indA o (2 + (j : Int)))) = true := by
        rw [List.all_eq_true]
        intro j hj
        exact decide_eq_true (hall j (by rw [hNN]; exact List.mem_range.mp hj))
      rw [hex] at hret
      k_steps
      exact hret _ _ (hfin F5 N5 InAll.self)

end partLess1
theorem off_Tup1 : (1 : Nat) = 1 := by
  w_top off
  first | walk1 | rfl
section partTup1
noncomputable abbrev tup3 (x y z : Int) (tx ty tz : Tok) : Obj := { cls := .type "tuple", data := .seq #[.int x tx, .int y ty, .int z tz] }
/-- tuples of three ints as they lie, the refs to them, the ints -/
inductive TupsL : List (Addr × Obj) → List Value → List (Int × Int × Int) → Prop
  | nil : TupsL [] [] []
  | cons {D x y z tx ty tz tl vs rs} : TupsL tl vs rs → TupsL ((D, tup3 x y z tx ty tz) :: tl) (.ref D :: vs) ((x, y, z) :: rs)
theorem TupsL.snoc {D : Addr} {x y z : Int} {tx ty tz : Tok} : ∀ {tl : List (Addr × Obj)} {vs : List Value} {rs : List (Int × Int × Int)}, TupsL tl vs rs → TupsL (tl ++ [(D, tup3 x y z tx ty tz)]) (vs ++ [.ref D]) (rs ++ [(x, y, z)]) := by
  intro tl vs rs h
  induction h with
  | nil => exact .cons .nil
  | cons _ ih => exact .cons ih
theorem TupsL.length {tl : List (Addr × Obj)} {vs : List Value} {rs : List (Int × Int × Int)} (h : TupsL tl vs rs) : vs.length = rs.length ∧ tl.length = rs.length := by
  induction h with
  | nil => exact ⟨rfl, rfl⟩
  | cons _ ih => exact ⟨congrArg (· + 1) ih.1, congrArg (· + 1) ih.2⟩
noncomputable abbrev rowD (r : Int × Int × Int) : PyData := .tuple [.int r.1, .int r.2.1, .int r.2.2]
theorem TupsL.reads {h : Heap} {tl : List (Addr × Obj)} {vs : List Value} {rs : List (Int × Int × Int)} (t : TupsL tl vs rs) (hp : ∀ p ∈ tl, h.get? p.1 = some p.2) : ReadsAll h vs (rs.map rowD) [] := by
  induction t with
  | nil => exact .nil
  | cons _ ih => exact ReadsAll.cons (as := []) (reads_tuple_at (hp _ (.head _)) rfl rfl (.cons (as := []) (.int _ _) (.cons (as := []) (.int _ _) (.cons (as := []) (.int _ _) .nil)))) (ih fun p q => hp p (.tail _ q))
noncomputable def witsP (p : Int → Int → Bool) (a o : WsA) (k : Nat) : List (Int × Int × Int) := ((List.range k).filter fun j : Nat => p (indA a (1 + (j : Int))) (indA o (1 + (j : Int)))).map fun j : Nat => (1 + (j : Int), indA a (1 + (j : Int)), indA o (1 + (j : Int)))
theorem witsP_yes {p : Int → Int → Bool} {a o : WsA} {k : Nat} (h : p (indA a (1 + (k : Int))) (indA o (1 + (k : Int))) = true) : witsP p a o (k + 1) = witsP p a o k ++ [(1 + (k : Int), indA a (1 + (k : Int)), indA o (1 + (k : Int)))] := by
  unfold witsP
  rw [List.range_succ, List.filter_append, List.map_append, List.filter_cons_of_pos (by simpa using h)]
  rfl
theorem witsP_no {p : Int → Int → Bool} {a o : WsA} {k : Nat} (h : p (indA a (1 + (k : Int))) (indA o (1 + (k : Int))) = false) : witsP p a o (k + 1) = witsP p a o k := by
  unfold witsP
  rw [List.range_succ, List.filter_append, List.filter_cons_of_neg (by simpa using h)]
  simp
noncomputable abbrev witN (w : World) (a o : WsA) (l : Addr) (ys : List Value) (n : Nat) (tl : List (Addr × Obj)) : List (Addr × Obj) := (l, listOf ys.toArray n) :: (a.led w ++ (o.led w ++ tl))
/-- the witnesses of the sizes ahead of i -/
noncomputable def WitJ (w : World) (a o : WsA) (l : Addr) (p : Int → Int → Bool) (N : Int) (tn : Tok) (i : Nat) (lo : List (Str × Value)) (nw : List (Addr × Obj)) : Prop :=
  ∃ ys n tl, lo = [((PySem.Str.ofString "other"), .ref o.x), ((PySem.Str.ofString "self"), .ref a.x), ((PySem.Str.ofString "n"), .int N tn), ((PySem.Str.ofString "a"), .ref l)] ∧ nw = witN w a o l ys n tl ∧ TupsL tl ys (witsP p a o i) ∧ (∀ q ∈ tl, q.1 ≠ l ∧ AllLt q.1 (a.led w ++ o.led w)) ∧ ys.length ≤ i
theorem WitJ.intro {w : World} {a o : WsA} {l : Addr} {p : Int → Int → Bool} {N : Int} {tn : Tok} {i : Nat} {ys : List Value} {n : Nat} {tl : List (Addr × Obj)} (h1 : TupsL tl ys (witsP p a o i)) (h2 : ∀ q ∈ tl, q.1 ≠ l ∧ AllLt q.1 (a.led w ++ o.led w)) (h3 : ys.length ≤ i) :
    WitJ w a o l p N tn i [((PySem.Str.ofString "other"), .ref o.x), ((PySem.Str.ofString "self"), .ref a.x), ((PySem.Str.ofString "n"), .int N tn), ((PySem.Str.ofString "a"), .ref l)] (witN w a o l ys n tl) := ⟨ys, n, tl, rfl, rfl, h1, h2, h3⟩
theorem wit_in {w : World} {a o : WsA} {D I l : Addr} {d oI : Obj} {ys : List Value} {n : Nat} {tl : List (Addr × Obj)} :
    InAll ((D, d) :: (I, oI) :: (l, listOf (ys.toArray.push (.ref D)) n) :: (a.led w ++ (o.led w ++ tl))) ((I, oI) :: witN w a o l (ys ++ [.ref D]) n (tl ++ [(D, d)])) := by
  rw [witN, ← List.push_toArray]
  refine inAll_of fun p hp => ?_
  rcases List.mem_cons.mp hp with rfl | hp
  · exact .tail _ (.head _)
  rcases List.mem_cons.mp hp with rfl | hp
  · exact .tail _ (.tail _ (.head _))
  rcases List.mem_append.mp hp with hp | hp
  · exact .tail _ (.tail _ (.tail _ (List.mem_append.mpr (.inl hp))))
  rcases List.mem_append.mp hp with hp | hp
  · exact .tail _ (.tail _ (.tail _ (List.mem_append.mpr (.inr (List.mem_append.mpr (.inl hp))))))
  rcases List.mem_append.mp hp with hp | hp
  · exact .tail _ (.tail _ (.tail _ (List.mem_append.mpr (.inr (List.mem_append.mpr (.inr hp))))))
  rw [List.mem_singleton.mp hp]
  exact .head _
theorem wit_ne {w : World} {a o : WsA} {D I l : Addr} {d : Obj} {ys ys' : List Value} {n n' : Nat} {tl : List (Addr × Obj)} (hI : ∀ p ∈ witN w a o l ys n tl, p.1 ≠ I) (hD : D ≠ I) : AllNe I (witN w a o l ys' n' (tl ++ [(D, d)])) := by
  refine AllNe.of fun p hp => ?_
  rcases List.mem_cons.mp hp with rfl | hp
  · exact hI (l, listOf ys.toArray n) (.head _)
  rcases List.mem_append.mp hp with hp | hp
  · exact hI p (.tail _ (List.mem_append.mpr (.inl hp)))
  rcases List.mem_append.mp hp with hp | hp
  · exact hI p (.tail _ (List.mem_append.mpr (.inr (List.mem_append.mpr (.inl hp)))))
  rcases List.mem_append.mp hp with hp | hp
  · exact hI p (.tail _ (List.mem_append.mpr (.inr (List.mem_append.mpr (.inr hp)))))
  rw [List.mem_singleton.mp hp]
  exact hD
theorem tl_ne {w : World} {a o : WsA} {l D : Addr} {d : Obj} {tl : List (Addr × Obj)} (h : ∀ q ∈ tl, q.1 ≠ l ∧ AllLt q.1 (a.led w ++ o.led w)) (hD : D ≠ l) (hl : AllLt D (a.led w ++ o.led w)) : ∀ q ∈ tl ++ [(D, d)], q.1 ≠ l ∧ AllLt q.1 (a.led w ++ o.led w) := fun q hq => by
  rcases List.mem_append.mp hq with hq | hq
  · exact h q hq
  rw [List.mem_singleton.mp hq]
  exact ⟨hD, hl⟩
theorem allLt_mem {d : Nat} : ∀ {l : List (Addr × Obj)}, AllLt d l → ∀ p, p ∈ l → @LT.lt Nat _ p.1 d
  | [], _, p, hp => nomatch hp
  | q :: r, h, p, hp => by
    rcases List.mem_cons.mp hp with rfl | hp
    · exact h.1
    · exact allLt_mem h.2 p hp
theorem wit_off {w : World} {a o : WsA} {d : Addr} (h : AllLt d (a.led w ++ o.led w)) : d ∉ (a.led w ++ o.led w).map (·.1) := fun q => by
  with_reducible refine Classical.byContradiction fun hZq => ?_
  obtain ⟨p, hp, e⟩ := List.mem_map.mp q
  refine hZq ?_
  clear hZq
  have h2 := allLt_mem h p hp
  rw [e] at h2
  exact Nat.lt_irrefl _ h2

end partTup1
theorem off_Neq1 : (1 : Nat) = 1 := by
  w_top off
  first | walk1 | rfl
section partNeq1
local macro_rules | `(tactic| walk_at "call ref") => `(tactic| refine stop_at ?_)
local macro_rules | `(tactic| k_all) => `(tactic| with_reducible assumption)
noncomputable def p_neq : Int → Int → Bool := fun x y => decide (x ≠ y)
theorem neq_spec (w : World) (s : Shared) (R : Result → Shared → Prop) (a o : WsA) (ok : a.Ok) (ok2 : o.Ok) (ha : a.In w s.heap) (ho : o.In w s.heap) (hla : lonP a ≤ 18) (hlo : lonP o ≤ 18)
  (G : Gd (K0 w.params) (hideAll s.heap ((a.led w ++ o.led w).map (·.1))))
  (hret : ∀ (l : Addr) (h' : Heap) (tk' n : Nat) (ys : List Value) (tl : List (Addr × Obj)), Kp [] s.heap h' → (∀ p ∈ (l, listOf ys.toArray n) :: tl, s.heap.get? p.1 = none ∧ h'.get? p.1 = some p.2) → (∀ p ∈ tl, p.1 ≠ l) → TupsL tl ys (witsP p_neq a o (topP a o).toNat) → R (.ok (.ret (.ref l))) { s with heap := h', toks := tk' }) :
  codeAny (model prog w) (lv 11) (.call (.ref 66) ⟨[.ref a.x, .ref o.x], []⟩) R s := by
  have _kf : (PySem.Challenge.rw_pg0230_01, K0) = (PySem.Challenge.rw_pg0230_01, K0) := by k_fill; rfl
  have hao : ∀ p ∈ a.led w ++ o.led w, s.heap.get? p.1 = some p.2 := fun p hp => (List.mem_append.mp hp).elim (ha p) (ho p)
  refine' enter_plain (K := K0 w.params) (binds := [((PySem.Str.ofString "self"), .ref a.x), ((PySem.Str.ofString "other"), .ref o.x)]) (rb := [((PySem.Str.ofString "other"), .ref o.x), ((PySem.Str.ofString "self"), .ref a.x)]) (a.led w ++ o.led w) G hao ?ho ?hcd ?hroom ?hbind ?hloc ?hrb ?_ ?c1 ?c2 ?c3 ?c4
  (( (case ho => k_is); (case hcd => k_is); (case hroom => k_room); (case hbind => exact BindsTo.of_eq rfl); (case hloc => exact locs rfl); (case hrb => exact rfl); (case c1 => decide); (case c2 => exact rfl); (case c3 => exact rfl); (case c4 => exact rfl); k_whole))
  intro g L h1 pp loose mean mg mb kg F1 N1 X TT l1 l2
  have hsa : InAll (a.led w ++ o.led w) (a.led w) := inAll_of fun p hp => List.mem_append.mpr (.inl hp)
  have hso : InAll (a.led w ++ o.led w) (o.led w) := inAll_of fun p hp => List.mem_append.mpr (.inr hp)
  obtain ⟨z1, z2⟩ := lonP_b ok
  obtain ⟨z3, z4⟩ := lonP_b ok2
  dsimp only [WsA.led, wsEs, List.cons_append, List.nil_append] at N1
  k_steps
  unfold Stop
  refine wpAny_call ?_
  refine' codeAny_at (A' := lv 9) ?a1 ?a2 ?a3 ?a4 ?a5 ?_
  (case a1 => exact rfl); (case a2 => (exact Nat.le_of_ble_eq_true rfl)); (case a3 => (exact Nat.le_of_ble_eq_true rfl)); (case a4 => exact rfl); (case a5 => exact rfl)
  have NA : News g L _ (a.led w ++ o.led w) := N1
  show codeAny _ _ (.call (.ref 45) ⟨[.ref a.x], []⟩) _ _
  with_reducible refine' longest_spec w ⟨_, _, _, _, _⟩ _ a ok (ws_in NA hsa) (ws_gd X TT F1 NA hsa) ?_
  intro h2 tk2 t2 K2
  obtain ⟨F2, N2⟩ := after_none F1 N1 K2
  clear F1 N1 NA
  k_steps
  unfold Stop
  refine wpAny_call ?_
  refine' codeAny_at (A' := lv 9) ?a1 ?a2 ?a3 ?a4 ?a5 ?_
  (case a1 => exact rfl); (case a2 => (exact Nat.le_of_ble_eq_true rfl)); (case a3 => (exact Nat.le_of_ble_eq_true rfl)); (case a4 => exact rfl); (case a5 => exact rfl)
  have NA : News g L _ (a.led w ++ o.led w) := N2
  show codeAny _ _ (.call (.ref 45) ⟨[.ref o.x], []⟩) _ _
  with_reducible refine' longest_spec w ⟨_, _, _, _, _⟩ _ o ok2 (ws_in NA hso) (ws_gd X TT F2 NA hso) ?_
  intro h3 tk3 t3 K3
  obtain ⟨F3, N3⟩ := after_none F2 N2 K3
  clear F2 N2 NA
  have htop : topP a o = (if lonP o > lonP a then lonP o else lonP a) + 1 := rfl
  rw [htop] at hret
  have hN : 0 ≤ (if lonP o > lonP a then lonP o else lonP a) + 1 ∧ (if lonP o > lonP a then lonP o else lonP a) + 1 ≤ 19 := by split <;> omega
  clear htop
  k_steps
  rename Addr => l
  rename _ ∧ _ => ll
  generalize (if lonP o > lonP a then lonP o else lonP a) + 1 = N at *
  clear K2 K3 hla hlo z1 z2 z3 z4
  obtain ⟨n1, n2⟩ := hN
  ((unfold Stop; (with_reducible refine for_stmt ?_ ?mzhs); (case mzhs => intro _; rfl)))
  k_steps
  rename IsRange _ _ _ _ _ _ _ _ => hr
  rename Fr _ _ _ _ => F4
  rename News _ _ _ _ => N4
  have hNN : (N + 1 - 1).toNat = N.toNat := by rw [Int.add_sub_cancel]
  refine it_range (L := L) (WitJ w a o l p_neq N _) rfl rfl hr (small_one (by omega) (by omega) (by omega) (by omega)) (rangeSize_nat _ _) [((PySem.Str.ofString "other"), .ref o.x), ((PySem.Str.ofString "self"), .ref a.x), ((PySem.Str.ofString "n"), .int N _), ((PySem.Str.ofString "a"), .ref l)] (witN w a o l [] 0 []) F4 N4 (by (first | focus ((repeat (first | exact True.intro | (refine AllAt.keep _ rfl ?_ ?_; (focus decide +kernel)) | (refine AllAt.skip _ rfl ?_ ?_; (focus decide +kernel)))); done) | ((repeat (refine And.intro ?_ ?_; (focus (first | walk_at "m_look" | rfl)))); exact True.intro))) (by rw [witN, List.append_nil]; exact InAll.self) (WitJ.intro .nil (fun _ h => nomatch h) (Nat.le_refl _)) ?_ ?_
  · clear F4 N4
    rintro i ti I h5 tk5 m5 lo nw oI hi hPz1 F5 N5 hne hcl
    with_reducible refine Classical.byContradiction fun hZq => ?_
    obtain ⟨ys, n, tl, rfl, rfl, htl, hne2, hyl⟩ := hPz1
    refine hZq ?_
    clear hZq
    obtain ⟨u1, u2⟩ : 1 ≤ 1 + (i : Int) ∧ 1 + (i : Int) ≤ 20 := by omega
    have hsa' : InAll ((I, oI) :: witN w a o l ys n tl) (a.led w) := inAll_of fun p hp => .tail _ (.tail _ (List.mem_append.mpr (.inl hp)))
    have hso' : InAll ((I, oI) :: witN w a o l ys n tl) (o.led w) := inAll_of fun p hp => .tail _ (.tail _ (List.mem_append.mpr (.inr (List.mem_append.mpr (.inl hp)))))
    have hne3 : ∀ q ∈ tl, q.1 ≠ l := fun q h => (hne2 q h).1
    have hI : ∀ p ∈ witN w a o l ys n tl, p.1 ≠ I := hne.mem
    have hlI : @Ne Nat l I := hI _ (.head _)
    have hyes := witsP_yes (p := p_neq) (a := a) (o := o) (k := i)
    have hno := witsP_no (p := p_neq) (a := a) (o := o) (k := i)
    dsimp only [witN, WsA.led, wsEs, List.cons_append, List.nil_append] at N5
    generalize hsi : 1 + (i : Int) = ts at *
    k_steps
    unfold Stop
    rename Fr _ _ _ _ => F6
    rename News _ _ _ _ => N6
    refine wpAny_call ?_
    refine' codeAny_at (A' := lv 9) ?a1 ?a2 ?a3 ?a4 ?a5 ?_
    (case a1 => exact rfl); (case a2 => (exact Nat.le_of_ble_eq_true rfl)); (case a3 => (exact Nat.le_of_ble_eq_true rfl)); (case a4 => exact rfl); (case a5 => exact rfl)
    have NA : News g L _ ((I, oI) :: witN w a o l ys n tl) := N6
    with_reducible refine' indent_ws w ⟨_, _, _, _, _⟩ _ a ok (ws_in NA hsa') ts ti (ws_gd X TT F6 NA hsa') u1 u2 ?_
    intro h7 tk7 t7 K7
    obtain ⟨F7, N7⟩ := after_none F6 N6 K7
    clear F6 N6 NA
    k_steps
    unfold Stop
    refine wpAny_call ?_
    refine' codeAny_at (A' := lv 9) ?a1 ?a2 ?a3 ?a4 ?a5 ?_
    (case a1 => exact rfl); (case a2 => (exact Nat.le_of_ble_eq_true rfl)); (case a3 => (exact Nat.le_of_ble_eq_true rfl)); (case a4 => exact rfl); (case a5 => exact rfl)
    have NA : News g L _ ((I, oI) :: witN w a o l ys n tl) := N7
    with_reducible refine' indent_ws w ⟨_, _, _, _, _⟩ _ o ok2 (ws_in NA hso') ts ti (ws_gd X TT F7 NA hso') u1 u2 ?_
    intro h8 tk8 t8 K8
    obtain ⟨F8, N8⟩ := after_none F7 N7 K8
    clear F7 N7 NA
    generalize hia : indA a ts = ia at *
    generalize hio : indA o ts = io at *
    k_steps
    · unfold Stop
      refine wpAny_call ?_
      refine' codeAny_at (A' := lv 9) ?a1 ?a2 ?a3 ?a4 ?a5 ?_
      (case a1 => exact rfl); (case a2 => (exact Nat.le_of_ble_eq_true rfl)); (case a3 => (exact Nat.le_of_ble_eq_true rfl)); (case a4 => exact rfl); (case a5 => exact rfl)
      have NA : News g L _ ((I, oI) :: witN w a o l ys n tl) := N8
      with_reducible refine' indent_ws w ⟨_, _, _, _, _⟩ _ a ok (ws_in NA hsa') ts ti (ws_gd X TT F8 NA hsa') u1 u2 ?_
      intro h9 tk9 t9 K9
      obtain ⟨F9, N9⟩ := after_none F8 N8 K9
      clear F8 N8 NA
      rw [hia]
      k_steps
      unfold Stop
      refine wpAny_call ?_
      refine' codeAny_at (A' := lv 9) ?a1 ?a2 ?a3 ?a4 ?a5 ?_
      (case a1 => exact rfl); (case a2 => (exact Nat.le_of_ble_eq_true rfl)); (case a3 => (exact Nat.le_of_ble_eq_true rfl)); (case a4 => exact rfl); (case a5 => exact rfl)
      have NA : News g L _ ((I, oI) :: witN w a o l ys n tl) := N9
      with_reducible refine' indent_ws w ⟨_, _, _, _, _⟩ _ o ok2 (ws_in NA hso') ts ti (ws_gd X TT F9 NA hso') u1 u2 ?_
      intro hA tkA tA KA
      obtain ⟨FA, NB⟩ := after_none F9 N9 KA
      clear F9 N9 NA
      rw [hio]
      k_steps
      rename Addr => D
      rename _ ∧ _ => lD
      with_reducible refine Classical.byContradiction fun hZq => ?_
      obtain ⟨d1, d2, c1, c2, c3, c4, c5, c6, c7, c8, _⟩ := lD
      refine hZq ?_
      clear hZq
      rename Fr _ _ _ _ => FC
      rename News _ _ _ _ => NC
      have hyes' := hyes (by unfold p_neq; exact decide_eq_true (by omega))
      refine turned_next _ (witN w a o l (ys ++ [.ref D]) (n + 1) (tl ++ [(D, tup3 ts ia io _ _ _)])) (.inl rfl) FC NC (by (first | focus ((repeat (first | exact True.intro | (refine AllAt.keep _ rfl ?_ ?_; (focus decide +kernel)) | (refine AllAt.skip _ rfl ?_ ?_; (focus decide +kernel)))); done) | ((repeat (refine And.intro ?_ ?_; (focus (first | walk_at "m_look" | rfl)))); exact True.intro))) wit_in (wit_ne hI (neN (Nat.ne_of_gt d1))) (WitJ.intro (hyes' ▸ htl.snoc) (tl_ne hne2 (neN (Nat.ne_of_gt d2)) ⟨c1, c2, c3, c4, c5, c6, c7, c8, trivial⟩) (by rw [List.length_append]; exact Nat.succ_le_succ hyl))
    · skip
      have hno' := hno (by unfold p_neq; exact decide_eq_false (by omega))
      refine turned_next _ _ (.inl rfl) F8 N8 (by (first | focus ((repeat (first | exact True.intro | (refine AllAt.keep _ rfl ?_ ?_; (focus decide +kernel)) | (refine AllAt.skip _ rfl ?_ ?_; (focus decide +kernel)))); done) | ((repeat (refine And.intro ?_ ?_; (focus (first | walk_at "m_look" | rfl)))); exact True.intro))) InAll.self hne (WitJ.intro (hno' ▸ htl) hne2 (Nat.le_succ_of_le hyl))
  · rintro h5 tk5 m5 lo nw hPz1 F5 N5
    with_reducible refine Classical.byContradiction fun hZq => ?_
    obtain ⟨ys, n, tl, rfl, rfl, htl, hne2, hyl⟩ := hPz1
    refine hZq ?_
    clear hZq
    k_steps
    dsimp only
    rw [hNN] at htl
    have hfr : ∀ p ∈ (l, listOf ys.toArray n) :: tl, p ∈ witN w a o l ys n tl := fun p hp => by
      rcases List.mem_cons.mp hp with rfl | hp
      · exact .head _
      · exact .tail _ (List.mem_append.mpr (.inr (List.mem_append.mpr (.inr hp))))
    refine hret l _ _ n ys tl (kp_full kg F5 N5 fun x hx => ?_) (fun p hp => ⟨fresh_of kg N5 (hfr p hp) ?_, (N5 p (hfr p hp)).1⟩) (fun q h => (hne2 q h).1) htl
    · with_reducible refine Classical.byContradiction fun hZq => ?_
      obtain ⟨p, hp, rfl⟩ := List.mem_map.mp hx
      refine hZq ?_
      clear hZq
      refine ⟨p.2, hao p hp, .tail _ ?_⟩
      rw [← List.append_assoc]
      exact List.mem_append.mpr (.inl hp)
    · rcases List.mem_cons.mp hp with rfl | hp
      · with_reducible refine Classical.byContradiction fun hZq => ?_
        obtain ⟨c1, c2, c3, c4, c5, c6, c7, c8⟩ := ll
        refine hZq ?_
        clear hZq
        exact wit_off ⟨c1, c2, c3, c4, c5, c6, c7, c8, trivial⟩
      · exact wit_off (hne2 p hp).2

end partNeq1
theorem off_Nls1 : (1 : Nat) = 1 := by
  w_top off
  first | walk1 | rfl
section partNls1
local macro_rules | `(tactic| walk_at "call ref") => `(tactic| refine stop_at ?_)
local macro_rules | `(tactic| k_all) => `(tactic| with_reducible assumption)
noncomputable def p_nls : Int → Int → Bool := fun x y => decide (x ≥ y)
theorem nls_spec (w : World) (s : Shared) (R : Result → Shared → Prop) (a o : WsA) (ok : a.Ok) (ok2 : o.Ok) (ha : a.In w s.heap) (ho : o.In w s.heap) (hla : lonP a ≤ 18) (hlo : lonP o ≤ 18)
  (G : Gd (K0 w.params) (hideAll s.heap ((a.led w ++ o.led w).map (·.1))))
  (hret : ∀ (l : Addr) (h' : Heap) (tk' n : Nat) (ys : List Value) (tl : List (Addr × Obj)), Kp [] s.heap h' → (∀ p ∈ (l, listOf ys.toArray n) :: tl, s.heap.get? p.1 = none ∧ h'.get? p.1 = some p.2) → (∀ p ∈ tl, p.1 ≠ l) → TupsL tl ys (witsP p_nls a o (topP a o).toNat) → R (.ok (.ret (.ref l))) { s with heap := h', toks := tk' }) :
  codeAny (model prog w) (lv 11) (.call (.ref 80) ⟨[.ref a.x, .ref o.x], []⟩) R s := by
  have _kf : (PySem.Challenge.rw_pg0230_01, K0) = (PySem.Challenge.rw_pg0230_01, K0) := by k_fill; rfl
  have hao : ∀ p ∈ a.led w ++ o.led w, s.heap.get? p.1 = some p.2 := fun p hp => (List.mem_append.mp hp).elim (ha p) (ho p)
  refine' enter_plain (K := K0 w.params) (binds := [((PySem.Str.ofString "self"), .ref a.x), ((PySem.Str.ofString "other"), .ref o.x)]) (rb := [((PySem.Str.ofString "other"), .ref o.x), ((PySem.Str.ofString "self"), .ref a.x)]) (a.led w ++ o.led w) G hao ?ho ?hcd ?hroom ?hbind ?hloc ?hrb ?_ ?c1 ?c2 ?c3 ?c4
  (( (case ho => k_is); (case hcd => k_is); (case hroom => k_room); (case hbind => exact BindsTo.of_eq rfl); (case hloc => exact locs rfl); (case hrb => exact rfl); (case c1 => decide); (case c2 => exact rfl); (case c3 => exact rfl); (case c4 => exact rfl); k_whole))
  intro g L h1 pp loose mean mg mb kg F1 N1 X TT l1 l2
  have hsa : InAll (a.led w ++ o.led w) (a.led w) := inAll_of fun p hp => List.mem_append.mpr (.inl hp)
  have hso : InAll (a.led w ++ o.led w) (o.led w) := inAll_of fun p hp => List.mem_append.mpr (.inr hp)
  obtain ⟨z1, z2⟩ := lonP_b ok
  obtain ⟨z3, z4⟩ := lonP_b ok2
  dsimp only [WsA.led, wsEs, List.cons_append, List.nil_append] at N1
  k_steps
  unfold Stop
  refine wpAny_call ?_
  refine' codeAny_at (A' := lv 9) ?a1 ?a2 ?a3 ?a4 ?a5 ?_
  (case a1 => exact rfl); (case a2 => (exact Nat.le_of_ble_eq_true rfl)); (case a3 => (exact Nat.le_of_ble_eq_true rfl)); (case a4 => exact rfl); (case a5 => exact rfl)
  have NA : News g L _ (a.led w ++ o.led w) := N1
  show codeAny _ _ (.call (.ref 45) ⟨[.ref a.x], []⟩) _ _
  with_reducible refine' longest_spec w ⟨_, _, _, _, _⟩ _ a ok (ws_in NA hsa) (ws_gd X TT F1 NA hsa) ?_
  intro h2 tk2 t2 K2
  obtain ⟨F2, N2⟩ := after_none F1 N1 K2
  clear F1 N1 NA
  k_steps
  unfold Stop
  refine wpAny_call ?_
  refine' codeAny_at (A' := lv 9) ?a1 ?a2 ?a3 ?a4 ?a5 ?_
  (case a1 => exact rfl); (case a2 => (exact Nat.le_of_ble_eq_true rfl)); (case a3 => (exact Nat.le_of_ble_eq_true rfl)); (case a4 => exact rfl); (case a5 => exact rfl)
  have NA : News g L _ (a.led w ++ o.led w) := N2
  show codeAny _ _ (.call (.ref 45) ⟨[.ref o.x], []⟩) _ _
  with_reducible refine' longest_spec w ⟨_, _, _, _, _⟩ _ o ok2 (ws_in NA hso) (ws_gd X TT F2 NA hso) ?_
  intro h3 tk3 t3 K3
  obtain ⟨F3, N3⟩ := after_none F2 N2 K3
  clear F2 N2 NA
  have htop : topP a o = (if lonP o > lonP a then lonP o else lonP a) + 1 := rfl
  rw [htop] at hret
  have hN : 0 ≤ (if lonP o > lonP a then lonP o else lonP a) + 1 ∧ (if lonP o > lonP a then lonP o else lonP a) + 1 ≤ 19 := by split <;> omega
  clear htop
  k_steps
  rename Addr => l
  rename _ ∧ _ => ll
  generalize (if lonP o > lonP a then lonP o else lonP a) + 1 = N at *
  clear K2 K3 hla hlo z1 z2 z3 z4
  obtain ⟨n1, n2⟩ := hN
  ((unfold Stop; (with_reducible refine for_stmt ?_ ?mzhs); (case mzhs => intro _; rfl)))
  k_steps
  rename IsRange _ _ _ _ _ _ _ _ => hr
  rename Fr _ _ _ _ => F4
  rename News _ _ _ _ => N4
  have hNN : (N + 1 - 1).toNat = N.toNat := by rw [Int.add_sub_cancel]
  refine it_range (L := L) (WitJ w a o l p_nls N _) rfl rfl hr (small_one (by omega) (by omega) (by omega) (by omega)) (rangeSize_nat _ _) [((PySem.Str.ofString "other"), .ref o.x), ((PySem.Str.ofString "self"), .ref a.x), ((PySem.Str.ofString "n"), .int N _), ((PySem.Str.ofString "a"), .ref l)] (witN w a o l [] 0 []) F4 N4 (by (first | focus ((repeat (first | exact True.intro | (refine AllAt.keep _ rfl ?_ ?_; (focus decide +kernel)) | (refine AllAt.skip _ rfl ?_ ?_; (focus decide +kernel)))); done) | ((repeat (refine And.intro ?_ ?_; (focus (first | walk_at "m_look" | rfl)))); exact True.intro))) (by rw [witN, List.append_nil]; exact InAll.self) (WitJ.intro .nil (fun _ h => nomatch h) (Nat.le_refl _)) ?_ ?_
  · clear F4 N4
    rintro i ti I h5 tk5 m5 lo nw oI hi hPz1 F5 N5 hne hcl
    with_reducible refine Classical.byContradiction fun hZq => ?_
    obtain ⟨ys, n, tl, rfl, rfl, htl, hne2, hyl⟩ := hPz1
    refine hZq ?_
    clear hZq
    obtain ⟨u1, u2⟩ : 1 ≤ 1 + (i : Int) ∧ 1 + (i : Int) ≤ 20 := by omega
    have hsa' : InAll ((I, oI) :: witN w a o l ys n tl) (a.led w) := inAll_of fun p hp => .tail _ (.tail _ (List.mem_append.mpr (.inl hp)))
    have hso' : InAll ((I, oI) :: witN w a o l ys n tl) (o.led w) := inAll_of fun p hp => .tail _ (.tail _ (List.mem_append.mpr (.inr (List.mem_append.mpr (.inl hp)))))
    have hne3 : ∀ q ∈ tl, q.1 ≠ l := fun q h => (hne2 q h).1
    have hI : ∀ p ∈ witN w a o l ys n tl, p.1 ≠ I := hne.mem
    have hlI : @Ne Nat l I := hI _ (.head _)
    have hyes := witsP_yes (p := p_nls) (a := a) (o := o) (k := i)
    have hno := witsP_no (p := p_nls) (a := a) (o := o) (k := i)
    dsimp only [witN, WsA.led, wsEs, List.cons_append, List.nil_append] at N5
    generalize hsi : 1 + (i : Int) = ts at *
    k_steps
    unfold Stop
    rename Fr _ _ _ _ => F6
    rename News _ _ _ _ => N6
    refine wpAny_call ?_
    refine' codeAny_at (A' := lv 9) ?a1 ?a2 ?a3 ?a4 ?a5 ?_
    (case a1 => exact rfl); (case a2 => (exact Nat.le_of_ble_eq_true rfl)); (case a3 => (exact Nat.le_of_ble_eq_true rfl)); (case a4 => exact rfl); (case a5 => exact rfl)
    have NA : News g L _ ((I, oI) :: witN w a o l ys n tl) := N6
    with_reducible refine' indent_ws w ⟨_, _, _, _, _⟩ _ a ok (ws_in NA hsa') ts ti (ws_gd X TT F6 NA hsa') u1 u2 ?_
    intro h7 tk7 t7 K7
    obtain ⟨F7, N7⟩ := after_none F6 N6 K7
    clear F6 N6 NA
    k_steps
    unfold Stop
    refine wpAny_call ?_
    refine' codeAny_at (A' := lv 9) ?a1 ?a2 ?a3 ?a4 ?a5 ?_
    (case a1 => exact rfl); (case a2 => (exact Nat.le_of_ble_eq_true rfl)); (case a3 => (exact Nat.le_of_ble_eq_true rfl)); (case a4 => exact rfl); (case a5 => exact rfl)
    have NA : News g L _ ((I, oI) :: witN w a o l ys n tl) := N7
    with_reducible refine' indent_ws w ⟨_, _, _, _, _⟩ _ o ok2 (ws_in NA hso') ts ti (ws_gd X TT F7 NA hso') u1 u2 ?_
    intro h8 tk8 t8 K8
    obtain ⟨F8, N8⟩ := after_none F7 N7 K8
    clear F7 N7 NA
    generalize hia : indA a ts = ia at *
    generalize hio : indA o ts = io at *
    k_steps
    · unfold Stop
      refine wpAny_call ?_
      refine' codeAny_at (A' := lv 9) ?a1 ?a2 ?a3 ?a4 ?a5 ?_
      (case a1 => exact rfl); (case a2 => (exact Nat.le_of_ble_eq_true rfl)); (case a3 => (exact Nat.le_of_ble_eq_true rfl)); (case a4 => exact rfl); (case a5 => exact rfl)
      have NA : News g L _ ((I, oI) :: witN w a o l ys n tl) := N8
      with_reducible refine' indent_ws w ⟨_, _, _, _, _⟩ _ a ok (ws_in NA hsa') ts ti (ws_gd X TT F8 NA hsa') u1 u2 ?_
      intro h9 tk9 t9 K9
      obtain ⟨F9, N9⟩ := after_none F8 N8 K9
      clear F8 N8 NA
      rw [hia]
      k_steps
      unfold Stop
      refine wpAny_call ?_
      refine' codeAny_at (A' := lv 9) ?a1 ?a2 ?a3 ?a4 ?a5 ?_
      (case a1 => exact rfl); (case a2 => (exact Nat.le_of_ble_eq_true rfl)); (case a3 => (exact Nat.le_of_ble_eq_true rfl)); (case a4 => exact rfl); (case a5 => exact rfl)
      have NA : News g L _ ((I, oI) :: witN w a o l ys n tl) := N9
      with_reducible refine' indent_ws w ⟨_, _, _, _, _⟩ _ o ok2 (ws_in NA hso') ts ti (ws_gd X TT F9 NA hso') u1 u2 ?_
      intro hA tkA tA KA
      obtain ⟨FA, NB⟩ := after_none F9 N9 KA
      clear F9 N9 NA
      rw [hio]
      k_steps
      rename Addr => D
      rename _ ∧ _ => lD
      with_reducible refine Classical.byContradiction fun hZq => ?_
      obtain ⟨d1, d2, c1, c2, c3, c4, c5, c6, c7, c8, _⟩ := lD
      refine hZq ?_
      clear hZq
      rename Fr _ _ _ _ => FC
      rename News _ _ _ _ => NC
      have hyes' := hyes (by unfold p_nls; exact decide_eq_true (by omega))
      refine turned_next _ (witN w a o l (ys ++ [.ref D]) (n + 1) (tl ++ [(D, tup3 ts ia io _ _ _)])) (.inl rfl) FC NC (by (first | focus ((repeat (first | exact True.intro | (refine AllAt.keep _ rfl ?_ ?_; (focus decide +kernel)) | (refine AllAt.skip _ rfl ?_ ?_; (focus decide +kernel)))); done) | ((repeat (refine And.intro ?_ ?_; (focus (first | walk_at "m_look" | rfl)))); exact True.intro))) wit_in (wit_ne hI (neN (Nat.ne_of_gt d1))) (WitJ.intro (hyes' ▸ htl.snoc) (tl_ne hne2 (neN (Nat.ne_of_gt d2)) ⟨c1, c2, c3, c4, c5, c6, c7, c8, trivial⟩) (by rw [List.length_append]; exact Nat.succ_le_succ hyl))
    · skip
      have hno' := hno (by unfold p_nls; exact decide_eq_false (by omega))
      refine turned_next _ _ (.inl rfl) F8 N8 (by (first | focus ((repeat (first | exact True.intro | (refine AllAt.keep _ rfl ?_ ?_; (focus decide +kernel)) | (refine AllAt.skip _ rfl ?_ ?_; (focus decide +kernel)))); done) | ((repeat (refine And.intro ?_ ?_; (focus (first | walk_at "m_look" | rfl)))); exact True.intro))) InAll.self hne (WitJ.intro (hno' ▸ htl) hne2 (Nat.le_succ_of_le hyl))
  · rintro h5 tk5 m5 lo nw hPz1 F5 N5
    with_reducible refine Classical.byContradiction fun hZq => ?_
    obtain ⟨ys, n, tl, rfl, rfl, htl, hne2, hyl⟩ := hPz1
    refine hZq ?_
    clear hZq
    k_steps
    dsimp only
    rw [hNN] at htl
    have hfr : ∀ p ∈ (l, listOf ys.toArray n) :: tl, p ∈ witN w a o l ys n tl := fun p hp => by
      rcases List.mem_cons.mp hp with rfl | hp
      · exact .head _
      · exact .tail _ (List.mem_append.mpr (.inr (List.mem_append.mpr (.inr hp))))
    refine hret l _ _ n ys tl (kp_full kg F5 N5 fun x hx => ?_) (fun p hp => ⟨fresh_of kg N5 (hfr p hp) ?_, (N5 p (hfr p hp)).1⟩) (fun q h => (hne2 q h).1) htl
    · with_reducible refine Classical.byContradiction fun hZq => ?_
      obtain ⟨p, hp, rfl⟩ := List.mem_map.mp hx
      refine hZq ?_
      clear hZq
      refine ⟨p.2, hao p hp, .tail _ ?_⟩
      rw [← List.append_assoc]
      exact List.mem_append.mpr (.inl hp)
    · rcases List.mem_cons.mp hp with rfl | hp
      · with_reducible refine Classical.byContradiction fun hZq => ?_
        obtain ⟨c1, c2, c3, c4, c5, c6, c7, c8⟩ := ll
        refine hZq ?_
        clear hZq
        exact wit_off ⟨c1, c2, c3, c4, c5, c6, c7, c8, trivial⟩
      · exact wit_off (hne2 p hp).2

end partNls1
theorem off_Col1 : (1 : Nat) = 1 := by
  w_top off
  first | walk1 | rfl
section partCol1
noncomputable def depthP (size : Int) (c : Int) (runs : List Int) : Int := runs.foldl (fun c r => c + r + size - Int.fmod (c + r) size) c
noncomputable def colsP (ns : List Int) (tr : Int) : List Int := (List.range 20).map fun i : Nat => depthP (1 + (i : Int)) 0 ns + tr
theorem colsP_get (ns : List Int) (tr : Int) (i : Nat) (hi : i < 20) : (colsP ns tr)[i]? = some (depthP (1 + (i : Int)) 0 ns + tr) := by
  unfold colsP
  rw [List.getElem?_map, List.getElem?_range hi]
  rfl
theorem depth_step {size c n : Int} (hs : 1 ≤ size ∧ size ≤ 20) (hn : 0 ≤ n ∧ n ≤ 16) (k : Nat) (h : 0 ≤ c ∧ c ≤ 36 * (k : Int)) : 0 ≤ c + n + size - Int.fmod (c + n) size ∧ c + n + size - Int.fmod (c + n) size ≤ 36 * ((k + 1 : Nat) : Int) := by
  rw [Int.fmod_eq_emod_of_nonneg _ (by omega)]
  have h1 := Int.emod_lt_of_pos (c + n) (show 0 < size by omega)
  have h2 := Int.emod_nonneg (c + n) (show size ≠ 0 by omega)
  omega
noncomputable def ColJ (ax : Addr) (ns : List Int) (tr : Int) (i : Nat) (lo : List (Str × Value)) (nw : List (Addr × Obj)) : Prop :=
  ∃ (l : Addr) (vs : List Value) (n : Nat), lo = [((PySem.Str.ofString "runs"), .ref ax), ((PySem.Str.ofString "ends"), .ref l)] ∧ nw = [(l, listOf vs.toArray n)] ∧ IntsAre vs ((colsP ns tr).take i) ∧ vs.length = i
theorem ColJ.intro {ax : Addr} {ns : List Int} {tr : Int} {i : Nat} (l : Addr) (vs : List Value) (n : Nat) (h1 : IntsAre vs ((colsP ns tr).take i)) (h2 : vs.length = i) : ColJ ax ns tr i [((PySem.Str.ofString "runs"), .ref ax), ((PySem.Str.ofString "ends"), .ref l)] [(l, listOf vs.toArray n)] :=
  ⟨l, vs, n, rfl, rfl, h1, h2⟩
theorem ColJ.push {ax : Addr} {ns : List Int} {tr : Int} {i : Nat} {l : Addr} {vs : List Value} {x : Value} {n : Nat} (h1 : IntsAre (vs ++ [x]) ((colsP ns tr).take (i + 1))) (h2 : vs.length = i) : ColJ ax ns tr (i + 1) [((PySem.Str.ofString "runs"), .ref ax), ((PySem.Str.ofString "ends"), .ref l)] [(l, listOf (vs.toArray.push x) n)] :=
  ⟨l, vs ++ [x], n, rfl, by rw [List.push_toArray], h1, by rw [List.length_append, h2]; rfl⟩
noncomputable def ColK (ax D I l : Addr) (oI oD ol : Obj) (size : Int) (tz : Tok) (ns : List Int) (i : Nat) (lo : List (Str × Value)) (nw : List (Addr × Obj)) : Prop :=
  ∃ (t : Tok) (c : Int), lo = [((PySem.Str.ofString "runs"), .ref ax), ((PySem.Str.ofString "ends"), .ref l), ((PySem.Str.ofString "size"), .int size tz), ((PySem.Str.ofString "column"), .int c t)] ∧ nw = [(D, oD), (I, oI), (l, ol)] ∧ c = depthP size 0 (ns.take i) ∧ 0 ≤ c ∧ c ≤ 36 * (i : Int)
theorem ColK.intro {ax D I l : Addr} {oI oD ol : Obj} {size : Int} {tz : Tok} {ns : List Int} {i : Nat} (t : Tok) (c : Int) (h1 : c = depthP size 0 (ns.take i)) (h2 : 0 ≤ c ∧ c ≤ 36 * (i : Int)) : ColK ax D I l oI oD ol size tz ns i [((PySem.Str.ofString "runs"), .ref ax), ((PySem.Str.ofString "ends"), .ref l), ((PySem.Str.ofString "size"), .int size tz), ((PySem.Str.ofString "column"), .int c t)] [(D, oD), (I, oI), (l, ol)] :=
  ⟨t, c, rfl, rfl, h1, h2.1, h2.2⟩
theorem columns_spec (w : World) (s : Shared) (R : Result → Shared → Prop) (G : Gd (K0 w.params) s.heap) (ax : Addr) (its : List Value) (ns : List Int) (tr : Int) (hl : s.heap.IsList ax its.toArray) (hi : IntsAre its (ns ++ [tr])) (hb : ∀ n ∈ ns, 0 ≤ n ∧ n ≤ 16) (hsz : ns.length ≤ 6) (htr : 0 ≤ tr ∧ tr ≤ 18)
  (hret : ∀ (l : Addr) (h' : Heap) (tk' n : Nat) (vs : List Value), Kp [] s.heap h' → s.heap.get? l = none → h'.get? l = some (listOf vs.toArray n) → IntsAre vs (colsP ns tr) → R (.ok (.ret (.ref l))) { s with heap := h', toks := tk' }) :
  codeAny (model prog w) (lv 9) (.call (.ref 178) ⟨[.ref ax], []⟩) R s := by
  have _kf : (PySem.Challenge.rw_pg0230_01, K0) = (PySem.Challenge.rw_pg0230_01, K0) := by k_fill; rfl
  refine' enter_plain (K := K0 w.params) (binds := [((PySem.Str.ofString "runs"), .ref ax)]) (rb := [((PySem.Str.ofString "runs"), .ref ax)]) [] G (fun _ h => nomatch h) ?ho ?hcd ?hroom ?hbind ?hloc ?hrb ?_ ?c1 ?c2 ?c3 ?c4
  (( (case ho => k_is); (case hcd => k_is); (case hroom => k_room); (case hbind => exact BindsTo.of_eq rfl); (case hloc => exact locs rfl); (case hrb => exact rfl); (case c1 => decide); (case c2 => exact rfl); (case c3 => exact rfl); (case c4 => exact rfl); k_whole))
  intro g L h0 pp loose mean mg mb kg F0 N0 X TT l1 l2
  have hlg : g.IsList ax its.toArray := hl.at fun o e => kg _ o (fun h => nomatch h) e
  have hlen := hi.length
  k_steps
  ((unfold Stop; (with_reducible refine for_stmt ?_ ?mzhs); (case mzhs => intro _; rfl)))
  k_steps
  rename IsRange _ _ _ _ _ _ _ _ => hr
  refine it_range (L := L) (n := 20) (ColJ ax ns tr) rfl rfl hr (by decide) rfl [((PySem.Str.ofString "runs"), .ref ax), ((PySem.Str.ofString "ends"), .ref _)] [(_, listOf #[] 0)] (by assumption) (by assumption) (by (first | focus ((repeat (first | exact True.intro | (refine AllAt.keep _ rfl ?_ ?_; (focus decide +kernel)) | (refine AllAt.skip _ rfl ?_ ?_; (focus decide +kernel)))); done) | ((repeat (refine And.intro ?_ ?_; (focus (first | walk_at "m_look" | rfl)))); exact True.intro))) (by (first | focus ((repeat (first | exact True.intro | with_reducible exact InAll.self | with_reducible refine InAll.keep ?_ | with_reducible refine InAll.skip ?_)); done) | ((repeat (refine And.intro (by k_mem) ?_)); exact True.intro))) (ColJ.intro _ [] 0 .nil rfl) ?_ ?_
  · rintro i ti I h3 tk3 m3 lo nw oI hi2 hPz1 F3 N3 hne hcl
    with_reducible refine Classical.byContradiction fun hZq => ?_
    obtain ⟨l, vs, n, rfl, rfl, hvs, hvl⟩ := hPz1
    refine hZq ?_
    clear hZq
    simp only [AllNe, and_true] at hne
    have hs : 1 ≤ 1 + (i : Int) ∧ 1 + (i : Int) ≤ 20 := by omega
    generalize hsi : 1 + (i : Int) = size at *
    obtain ⟨hs1, hs2⟩ := id hs
    k_steps
    ((unfold Stop; (with_reducible refine for_stmt ?_ ?mzhs); (case mzhs => intro _; rfl)))
    k_steps
    rename_i D ws hx F1 N1 hI hC hL lT
    have e : List.take ((ns ++ [tr]).length - 1) (ns ++ [tr]) = ns := by simp
    rw [e] at hI
    have hwl := hI.length
    refine it_list (L := L) (its := ws.toArray) (ColK ax D I l oI (listOf ws.toArray 0) (listOf vs.toArray n) size _ ns) rfl rfl (listOf ws.toArray 0) ⟨rfl, _, rfl⟩ [((PySem.Str.ofString "runs"), .ref ax), ((PySem.Str.ofString "ends"), .ref l), ((PySem.Str.ofString "size"), .int size _), ((PySem.Str.ofString "column"), .int 0 _)] [(D, listOf ws.toArray 0), (I, oI), (l, listOf vs.toArray n)] (by assumption) (by assumption) (.inr (by rintro i lo nw ⟨_, _, _, rfl, _⟩; exact .head _)) (by (first | focus ((repeat (first | exact True.intro | (refine AllAt.keep _ rfl ?_ ?_; (focus decide +kernel)) | (refine AllAt.skip _ rfl ?_ ?_; (focus decide +kernel)))); done) | ((repeat (refine And.intro ?_ ?_; (focus (first | walk_at "m_look" | rfl)))); exact True.intro))) (by (first | focus ((repeat (first | exact True.intro | with_reducible exact InAll.self | with_reducible refine InAll.keep ?_ | with_reducible refine InAll.skip ?_)); done) | ((repeat (refine And.intro (by k_mem) ?_)); exact True.intro))) (ColK.intro _ 0 rfl ⟨Int.le_refl _, Int.le_refl _⟩) ?_ ?_
    · rintro j v I2 h4 tk4 m4 lo nw oI2 hv hPz1 F4 N4 hne4 hcl4
      with_reducible refine Classical.byContradiction fun hZq => ?_
      obtain ⟨tc, c, rfl, rfl, hc, hc0, hc1⟩ := hPz1
      refine hZq ?_
      clear hZq
      simp only [AllNe, and_true] at hne4
      with_reducible refine Classical.byContradiction fun hZq => ?_
      obtain ⟨hx1, hx2, hx3⟩ := hne4
      refine hZq ?_
      clear hZq
      with_reducible refine Classical.byContradiction fun hZq => ?_
      obtain ⟨r, t, hni, rfl, hnm⟩ := item_int hI (i := j) (v := v) (by simpa using hv)
      refine hZq ?_
      clear hZq
      have hbn := hb _ hnm
      obtain ⟨b1, b2⟩ := id hbn
      have hj4 : j < ns.length := (List.getElem?_eq_some_iff.mp hni).1
      have hst := depth_step hs hbn j ⟨hc0, hc1⟩
      k_steps
      refine turned_next _ _ (.inl rfl) (by assumption) (by assumption) (by (first | focus ((repeat (first | exact True.intro | (refine AllAt.keep _ rfl ?_ ?_; (focus decide +kernel)) | (refine AllAt.skip _ rfl ?_ ?_; (focus decide +kernel)))); done) | ((repeat (refine And.intro ?_ ?_; (focus (first | walk_at "m_look" | rfl)))); exact True.intro))) (by (first | focus ((repeat (first | exact True.intro | with_reducible exact InAll.self | with_reducible refine InAll.keep ?_ | with_reducible refine InAll.skip ?_)); done) | ((repeat (refine And.intro (by k_mem) ?_)); exact True.intro))) (by ((repeat (refine And.intro ?_ ?_; (focus k_ne))); exact True.intro)) (ColK.intro _ _ ?_ hst)
      rw [List.take_add_one, hni]
      unfold depthP
      rw [Option.toList_some, List.foldl_append]
      show _ = depthP size 0 (ns.take j) + r + size - Int.fmod (depthP size 0 (ns.take j) + r) size
      rw [← hc]
    · rintro h4 tk4 m4 lo nw hPz1 F4 N4
      with_reducible refine Classical.byContradiction fun hZq => ?_
      obtain ⟨tc, c, rfl, rfl, hc, hc0, hc1⟩ := hPz1
      refine hZq ?_
      clear hZq
      have e2 : ns.take ws.toArray.size = ns := List.take_of_length_le (by simp [hwl])
      rw [e2] at hc
      have hwn : ws.toArray.size ≤ 6 := by simp [hwl, hsz]
      k_steps
      refine turned_next _ _ (.inl rfl) (by assumption) (by assumption) (by (first | focus ((repeat (first | exact True.intro | (refine AllAt.keep _ rfl ?_ ?_; (focus decide +kernel)) | (refine AllAt.skip _ rfl ?_ ?_; (focus decide +kernel)))); done) | ((repeat (refine And.intro ?_ ?_; (focus (first | walk_at "m_look" | rfl)))); exact True.intro))) (by (first | focus ((repeat (first | exact True.intro | with_reducible exact InAll.self | with_reducible refine InAll.keep ?_ | with_reducible refine InAll.skip ?_)); done) | ((repeat (refine And.intro (by k_mem) ?_)); exact True.intro))) (by ((repeat (refine And.intro ?_ ?_; (focus k_ne))); exact True.intro)) (ColJ.push ?_ hvl)
      rw [List.take_add_one, colsP_get ns tr i hi2]
      refine intsAre_snoc_eq hvs ?_
      rw [hsi, ← hc]
  · rintro h3 tk3 m3 lo nw hPz1 F3 N3
    with_reducible refine Classical.byContradiction fun hZq => ?_
    obtain ⟨l, vs, n', rfl, rfl, hvs, hlen⟩ := hPz1
    refine hZq ?_
    clear hZq
    k_steps
    dsimp only
    rw [List.take_of_length_le (by simp [colsP])] at hvs
    exact hret l _ _ n' vs (kg.fr F3) (fresh_of kg N3 (.head _) (fun q => nomatch q)) (News.get N3 (.head _)) hvs

end partCol1
theorem off_Fq1 : (1 : Nat) = 1 := by
  w_top off
  first | walk1 | rfl
section partFq1
theorem none_booked {w : World} {g h : Heap} {L : Addr} {m : Str → Option Value} (X : (K0 w.params).In g) (F : Fr g L h m) : NoneBooked h := by
  have e : (K0 w.params).lookup 2 = some { cls := Value.none, data := Data.dict #[] } := by
    have _kf : (PySem.Challenge.rw_pg0230_01, K0) = (PySem.Challenge.rw_pg0230_01, K0) := by k_fill; rfl
    exact rfl
  have h2 := F.keep _ _ (X _ _ e)
  exact ⟨fun _ => none, ⟨_, #[], 0, h2, rfl, (fun _ h => nomatch h), fun _ => rfl⟩, rfl⟩
theorem isSame_ff {M : Model} {A : Around} {E : Value → Shared → Prop} {s : Shared} {p q : UInt64} {u v : Tok} {Q : Bool → Shared → Prop}
    (h1 : u ≠ 0) (h2 : v ≠ 0) (hb : NoneBooked s.heap) (hq : ∀ b, Q b s) : wpAny M A (isSame (.float p u) (.float q v)) Q E s := by
  have h0 : (u == 0 || v == 0) = false := by simp [h1, h2]
  show wpAny M A (isSame.created (p == q && !Float64.isNaN p) u v) Q E s
  unfold isSame.created
  refine wpAny_ite ?_
  split
  · rename_i h; rw [h0] at h; exact absurd h Bool.false_ne_true
  refine wpAny_ite ?_
  split
  · exact wpAny_pure (hq _)
  refine wpAny_ite ?_
  split
  · exact wpAny_pure (hq _)
  refine wpAny_bind (wpAny_sharingNotTold_none hb ?_)
  first | rw [if_neg Bool.false_ne_true] | simp only [Bool.false_eq_true, if_false]
  refine wpAny_bind (wpAny_sharingNotTold_none hb ?_)
  first | rw [if_neg Bool.false_ne_true] | simp only [Bool.false_eq_true, if_false]
  exact wpAny_bind (wpAny_rule (wpAny_bind (wpAny_askSetting (wpAny_pure (hq _)))))
/-- two floats of one value, neither by a private token -/
theorem eqAt_ff {A : Around} {s : Shared} {p : UInt64} {t u : Tok} (h1 : t ≠ 0) (h2 : u ≠ 0) (hb : NoneBooked s.heap) (hp : (Float64.cmp p p == some Ordering.eq) = true) : SeqAt.EqAt A s (.float p t) (.float p u) true := fun prog w E Q hq => by
  unfold eqBool
  show wpAny _ _ (if (Value.float p t == Value.float p u) = true then _ else _) Q E s
  by_cases hab : (Value.float p t == Value.float p u) = true
  · rw [if_pos hab]
    exact wpAny_bind (wpAny_rule (wpAny_pure hq))
  · rw [if_neg hab]
    refine wpAny_bind (isSame_ff h1 h2 hb fun b => ?_)
    cases b with
    | true => exact wpAny_pure hq
    | false =>
      rw [if_neg Bool.false_ne_true]
      refine wpAny_bind ?_
      show wpAny _ _ (compareOp .Eq (.float p t) (.float p u)) _ _ _
      refine AutoFloatOps.eq_0 ?_
      rw [hp]
      exact wpAny_truthy_bool hq
/-- a float and the int of it -/
theorem eqAt_fi {A : Around} {s : Shared} {p : UInt64} {n : Int} {t u : Tok} (hp : (Float64.cmpInt p n == some Ordering.eq) = true) : SeqAt.EqAt A s (.float p t) (.int n u) true := fun prog w E Q hq => by
  unfold eqBool
  show wpAny _ _ (if (Value.float p t == Value.int n u) = true then (do rule "eq-bool.same-object"; pure true) else (do truthOfDropped (← richCompare .Eq (Value.float p t) (Value.int n u)))) Q E s
  have hab : ¬ (Value.float p t == Value.int n u) = true := fun e => by have := eq_of_beq e; cases this
  rw [if_neg hab]
  refine wpAny_bind ?_
  show wpAny _ _ (compareOp .Eq (.float p t) (.int n u)) _ _ _
  refine PyProof.Rows.eq_fi ?_
  rw [hp]
  exact wpAny_truthy_bool hq
/-- rgb_to_hsv of the channels is the point -/
theorem pt_ne {A : Around} {s : Shared} {x : Int} {a b c : Value} {vs : List Value} {D1 D2 : Addr} {n1 n2 : Nat} (hn : NumsAre vs (rgbP (chanQ x 0) (chanQ x 1) (chanQ x 2))) (ht : TokOk vs) (hp : PtIs x a b c) (hb : NoneBooked s.heap)
    (e1 : s.heap.get? D1 = some { cls := .type "tuple", data := .seq vs.toArray n1 }) (e2 : s.heap.get? D2 = some { cls := .type "tuple", data := .seq #[a, b, c] n2 }) (hu : A.units < cLine) : SeqAt.RcNeAt A s (.ref D1) (.ref D2) false := by
  have hr := rgb_pt x
  generalize rgbP (chanQ x 0) (chanQ x 1) (chanQ x 2) = l at *
  unfold ptOk at hr
  split at hr
  · rename_i p q r
    cases hn with
    | float _ t1 hn =>
      cases hn with
      | float _ t2 hn =>
        cases hn with
        | int _ t3 hn =>
          cases hn
          with_reducible refine Classical.byContradiction fun hZq => ?_
          obtain ⟨h1, h2, _⟩ := ht
          refine hZq ?_
          clear hZq
          with_reducible refine Classical.byContradiction fun hZq => ?_
          obtain ⟨ta, tb, tc, rfl, hp⟩ := hp
          refine hZq ?_
          clear hZq
          rw [Bool.and_eq_true, beq_iff_eq] at hr
          obtain ⟨rfl, hr⟩ := hr
          have key : SeqAt.EqAt A.in1 s (.float p t1) a true ∧ SeqAt.EqAt A.in1 s (.float q t2) b true := by
            by_cases hz : valueQ (kindQ x) = 0 ∨ halvesQ (kindQ x) = 0
            · rw [if_pos hz] at hp hr
              obtain ⟨rfl, rfl⟩ := hp
              rw [Bool.and_eq_true] at hr
              exact ⟨eqAt_fi hr.1, eqAt_fi hr.2⟩
            · rw [if_neg hz] at hp hr
              with_reducible refine Classical.byContradiction fun hZq => ?_
              obtain ⟨rfl, rfl, h3, h4⟩ := hp
              refine hZq ?_
              clear hZq
              simp only [Bool.and_eq_true, beq_iff_eq] at hr
              with_reducible refine Classical.byContradiction fun hZq => ?_
              obtain ⟨r1, r2, r3, r4⟩ := hr
              refine hZq ?_
              clear hZq
              rw [fmod_16] at r1
              subst r1 r2
              exact ⟨eqAt_ff h1 h3 hb (by rw [r3]; rfl), eqAt_ff h2 h4 hb (by rw [r4]; rfl)⟩
          have hx := SeqAt.RcNeAt.tuples (A := A) (e := fun _ => true) ⟨_, e1, rfl, _, rfl⟩ ⟨_, e2, rfl, _, rfl⟩ hu (fun j j1 j2 => by
            have hj : j = 0 ∨ j = 1 ∨ j = 2 := three_nat (by simpa using j1)
            rcases hj with rfl | rfl | rfl
            · exact key.1
            · exact key.2
            · have h9 := SeqAt.EqAt.int_int (A := A.in1) (s := s) (valueQ (kindQ x)) t3 (valueQ (kindQ x)) tc
              rw [beq_self_eq_true] at h9
              exact h9)
          exact hx
  · cases hr

end partFq1
theorem off_Ls1 : (1 : Nat) = 1 := by
  w_top off
  first | walk1 | rfl
section partLs1
/-- two addresses that differ, kept from omega's eyes -/
noncomputable def Nq (a b : Nat) : Prop := a ≠ b
theorem Nq.l {a b : Nat} (h : Nq a b) : a ≠ b := h
theorem Nq.r {a b : Nat} (h : Nq b a) : a ≠ b := Ne.symm h
noncomputable def AllNq (I : Nat) : List (Addr × Obj) → Prop
  | [] => True
  | p :: r => Nq p.1 I ∧ AllNq I r
theorem AllNq.of {I : Addr} : ∀ {l : List (Addr × Obj)}, AllNe I l → AllNq I l
  | [], _ => trivial
  | _ :: _, h => ⟨h.1, AllNq.of h.2⟩
theorem AllNq.off {D : Addr} : ∀ {l : List (Addr × Obj)}, LCg.Off1 D l → AllNq D l
  | [], _ => trivial
  | _ :: _, h => ⟨h.1, AllNq.off h.2⟩
theorem AllNq.lt {D : Addr} : ∀ {l : List (Addr × Obj)}, (∀ p ∈ l, p.1 < D) → AllNq D l
  | [], _ => trivial
  | _ :: _, h => ⟨Nat.ne_of_lt (h _ (.head _)), AllNq.lt fun p hp => h p (.tail _ hp)⟩
theorem AllNq.new {b h : Heap} {L l : Addr} {news : List (Addr × Obj)} (N : News b L h news) (e0 : h.get? l = none) : AllNq l news := by
  have : ∀ k : List (Addr × Obj), (∀ p ∈ k, p ∈ news) → AllNq l k := by
    intro k
    induction k with
    | nil => intro _; trivial
    | cons p r ih => exact fun hk => ⟨Ne.symm (new_ne N e0 (hk p (.head _))), ih fun q hq => hk q (.tail _ hq)⟩
  exact this _ fun p hp => hp
theorem strs_get {ys : List Value} {cs : List (List Nat)} (h : StrsAre ys (cs.map T)) {i : Nat} {c : List Nat} (e : cs[i]? = some c) : ∃ t, ys[i]? = some (Value.str (T c) t) := by
  have hl := h.length
  rw [List.length_map] at hl
  have hi : i < ys.length := by have := (List.getElem?_eq_some_iff.mp e).1; omega
  with_reducible refine Classical.byContradiction fun hZq => ?_
  obtain ⟨n, t, e1, e2, _⟩ := item_str h (i := i) (v := ys[i]) (by simp [hi])
  refine hZq ?_
  clear hZq
  rw [List.getElem?_map, e] at e1
  cases e1
  exact ⟨t, by rw [← e2]; simp [hi]⟩
theorem m_lenL {prog : Program} {w : World} {A : Around} {E : Value → Shared → Prop} {s : Shared} {t : Addr} {vs : List Value} {n : Nat} {Q : Value → Shared → Prop} (hg : s.heap.get? t = some (listOf vs.toArray n)) (hz : vs.length ≤ 1000) (h : Q (.int (vs.length : Int) (s.toks + 1)) { s with toks := s.toks + 1 + 1 }) :
    wpAny (model prog w) A (call (.builtin "len") [.ref t]) Q E s := by
  have z : vs.toArray.size = vs.length := List.size_toArray
  refine Calls.call_len_list (items := vs.toArray) ⟨_, hg, rfl, _, rfl⟩ (by rw [z]; omega) ?_
  rw [z]
  exact h
/-- law's body and its scope -/
noncomputable def lawBS : List Stmt × Scope := match (PySem.Challenge.pw_pg0230_01).main.body.getLast? with
  | some (.FunctionDef _ _ body _ _ _ scope _ _ _) => (body, scope)
  | _ => ([], default)
noncomputable abbrev lawEnv (L fa : Addr) (cd : Value) : Env := envOfC ((PySem.Str.ofString "law")) lawBS.2 L fa cd
noncomputable abbrev lawA (L fa : Addr) (cd : Value) : Around := callerA.deeper (lawEnv L fa cd)
/-- the body of the loop that writes the page -/
noncomputable def bodyC : List Stmt := match (lawBS.1.drop 2).head? with
  | some (.For _ _ b _ _) => b
  | _ => []
/-- row r of the numbers drawn -/
noncomputable def headQ (nd : Nat → Int) (r : Nat) : Int := nd (3 * r)
noncomputable def ptsP (nd : Nat → Int) (r : Nat) : List Int := [nd (3 * r + 1), nd (3 * r + 2)].take (Int.fmod (headQ nd r) 3).toNat
noncomputable def behindP (nd : Nat → Int) (r : Nat) : Int := Int.fmod (Int.fdiv (headQ nd r) 3) 7 * 3
noncomputable def runsP (nd : Nat → Int) (r : Nat) : List Int := ((ptsP nd r).map chansQ).flatten
noncomputable def dueP (nd : Nat → Int) (r : Nat) : List Int := runsP nd r ++ [behindP nd r]
noncomputable def leadL (runs : List Int) : List Nat := (runs.map fun c => List.replicate c.toNat 32 ++ [9]).flatten
noncomputable def endK (nd : Nat → Int) (r : Nat) : Int := Int.fmod (Int.fdiv (headQ nd r) 21) 4
noncomputable def endL (k : Int) : List Nat := if k = 0 then [] else if k = 1 then [35] else if k = 2 then [34, 10] else [92, 32, 9]
noncomputable def wordP (nd : Nat → Int) (r : Nat) : List Nat := leadL (runsP nd r) ++ (List.replicate (behindP nd r).toNat 32 ++ endL (endK nd r))
noncomputable def wayP (nd : Nat → Int) (r : Nat) : Int := Int.fmod (Int.fdiv (headQ nd r) 84) 4
noncomputable def takenP (nd : Nat → Int) (r : Nat) : List Nat := takenL (wordP nd r) (wayP nd r)
noncomputable def leftP (nd : Nat → Int) (r : Nat) : List Nat := leftL (wordP nd r) (wayP nd r)
noncomputable def pageP (nd : Nat → Int) (i : Nat) : List Nat := ((List.range i).map fun j => takenP nd j ++ leftP nd j).flatten
noncomputable def lineP (nd : Nat → Int) (r : Nat) : Int := 1 + nlc (pageP nd r ++ takenP nd r)
theorem page_succ (nd : Nat → Int) (i : Nat) : pageP nd (i + 1) = pageP nd i ++ (takenP nd i ++ leftP nd i) := by
  unfold pageP
  rw [List.range_succ, List.map_append, List.flatten_append]
  simp
/-- the three cells: ends, i, j -/
noncomputable def Cells (o1 o2 o3 : Obj) (v1 v2 v3 : Option Value) : Prop := o1.data = .cell v1 ∧ o2.data = .cell v2 ∧ o3.data = .cell v3
noncomputable abbrev cellsL (L : Addr) (o1 o2 o3 : Obj) : List (Addr × Obj) := [(L + 1 + 1 + 1, o3), (L + 1 + 1, o2), (L + 1, o1), (145, tabObj #[])]
theorem ints_of : ∀ {ys : List Value} {ns : List Int}, ys.length = ns.length → (∀ (i : Nat) y, ys[i]? = some y → ∃ n t, ns[i]? = some n ∧ y = Value.int n t) → IntsAre ys ns
  | [], [], _, _ => .nil
  | y :: ys, n :: ns, hl, h => by
    with_reducible refine Classical.byContradiction fun hZq => ?_
    obtain ⟨m, t, e1, rfl⟩ := h 0 y rfl
    refine hZq ?_
    clear hZq
    cases e1
    exact .cons _ _ (ints_of (by simpa using hl) fun i z hz => h (i + 1) z hz)
/-- refs to lists of ints that lie in tl -/
noncomputable def RefsI (tl : List (Addr × Obj)) (vs : List Value) (rows : List (List Int)) : Prop :=
  vs.length = rows.length ∧ ∀ (i : Nat) (ns : List Int), rows[i]? = some ns → ∃ (D : Addr) (us : List Value) (n : Nat), vs[i]? = some (Value.ref D) ∧ (D, listOf (List.toArray us) n) ∈ tl ∧ IntsAre us ns
theorem RefsI.nil {tl : List (Addr × Obj)} : RefsI tl [] [] := ⟨rfl, fun _ _ h => by simp at h⟩
theorem RefsI.mono {tl tl' : List (Addr × Obj)} {vs : List Value} {rows : List (List Int)} (h : RefsI tl vs rows) (s : ∀ p ∈ tl, p ∈ tl') : RefsI tl' vs rows :=
  ⟨h.1, fun i ns e => let ⟨D, us, n, a, b, c⟩ := h.2 i ns e; ⟨D, us, n, a, s _ b, c⟩⟩
theorem RefsI.snoc {tl : List (Addr × Obj)} {vs : List Value} {rows : List (List Int)} {D : Addr} {us : List Value} {n : Nat} {ns : List Int} (h : RefsI tl vs rows) (hm : (D, listOf us.toArray n) ∈ tl) (hi : IntsAre us ns) : RefsI tl (vs ++ [Value.ref D]) (rows ++ [ns]) := by
  refine ⟨by rw [List.length_append, List.length_append, h.1]; rfl, fun i ms e => ?_⟩
  rcases Nat.lt_or_ge i rows.length with hl | hl
  · rw [List.getElem?_append_left hl] at e
    with_reducible refine Classical.byContradiction fun hZq => ?_
    obtain ⟨E, vs', n', a, b, c⟩ := h.2 i ms e
    refine hZq ?_
    clear hZq
    exact ⟨E, vs', n', by rw [List.getElem?_append_left (by rw [h.1]; exact hl)]; exact a, b, c⟩
  · rw [List.getElem?_append_right hl] at e
    have hz : i - rows.length = 0 := by
      rcases Nat.eq_zero_or_pos (i - rows.length) with h0 | h0
      · exact h0
      · rw [List.getElem?_eq_none (show [ns].length ≤ _ from h0)] at e; cases e
    rw [hz] at e
    cases e
    exact ⟨D, us, n, by rw [List.getElem?_append_right (by rw [h.1]; exact hl), h.1, hz]; rfl, hm, hi⟩
/-- off these addresses -/
noncomputable def OffL : List Addr → List (Addr × Obj) → Prop
  | [], _ => True
  | a :: as, tl => (∀ p ∈ tl, p.1 ≠ a) ∧ OffL as tl
theorem OffL.nil : ∀ {as : List Addr}, OffL as []
  | [] => trivial
  | _ :: _ => ⟨fun _ h => (nomatch h), OffL.nil⟩
theorem OffL.snoc {D : Addr} {o : Obj} : ∀ {as : List Addr} {tl : List (Addr × Obj)}, OffL as tl → (∀ a ∈ as, D ≠ a) → OffL as (tl ++ [(D, o)])
  | [], _, _, _ => trivial
  | a :: as, tl, h, hd => ⟨fun p hp => by
      rcases List.mem_append.mp hp with hp | hp
      · exact h.1 p hp
      · rw [List.mem_singleton.mp hp]; exact hd a (.head _), h.2.snoc fun b hb => hd b (.tail _ hb)⟩
theorem m_itT {prog : Program} {w : World} {A : Around} {s : Shared} {env : Env} {g : Heap} {target : Expr} {body : List Stmt} {ax : Addr} {its : Array Value} {Q : Flow → Shared → Prop} {E E' : Value → Shared → Prop} (J : Nat → List (Str × Value) → List (Addr × Obj) → Prop)
    (hh : A.handled = none) {L : Addr} (hL : env.locals = L) (o : Obj) (ho : o.cls = .type "tuple" ∧ ∃ n, o.data = .seq its n)
    (lo₀ : List (Str × Value)) (nw₀ : List (Addr × Obj)) {m₀ : Str → Option Value} {news₀ : List (Addr × Obj)}
    (F : Fr g L s.heap m₀) (N : News g L s.heap news₀) (hsrc : ∀ i lo nw, J i lo nw → (ax, o) ∈ nw) (hat : AllAt m₀ lo₀) (hin : InAll news₀ nw₀) (hj : J 0 lo₀ nw₀)
    (turn : ∀ i v I h tk m lo nw oI, its[i]? = some v → J i lo nw → Fr g L h (over lo m) → News g L h ((I, oI) :: nw) → AllNe I nw →
      wpAny (model prog w) A (assign target env v) (fun _ s₂ => wpAny (model prog w) A (execs body env) (Turned g L I oI (J (i + 1)) s Q) noE s₂) noE { s with heap := h, toks := tk })
    (done : ∀ h tk m lo nw, J its.size lo nw → Fr g L h (over lo m) → News g L h nw → Q .next { s with heap := h, toks := tk })
    (ht : ∀ it v, letOwnedTupleGo target it v = pure () := by intro _ _; rfl) :
    wpAny (model prog w) A (pyIter (.ref ax)) (fun it s₂ => codeAny (model prog w) A (.forLoop target it body [] env) (fun r s' => match r with | .ok f => Q f s' | .error e => E' e s') s₂) E s := by
  subst hL
  have hax : s.heap.get? ax = some o := (N _ (hin.mem _ (hsrc 0 lo₀ nw₀ hj))).1
  obtain ⟨nn, hd⟩ := ho.2
  have hl : s.heap.IsTuple ax its := ⟨o, hax, ho.1, nn, hd⟩
  have hlt : ax < s.heap.objs.size := Heap.lt_size hax
  refine wpAny_pyIter_tuple hl ?_
  have up : ∀ {o' : Obj} b o, s.heap.get? b = some o → (s.heap.push o').get? b = some o := fun b o e => Heap.get?_push_of_some _ e
  refine for_walk (s := { s with heap := _ }) (g := g) J (Walks.tuple hh s.heap.objs.size ax (Nat.ne_of_lt hlt) its) (fun i h st => by obtain ⟨o, e, _⟩ := st.1; exact ⟨o, e⟩) (fun b hb => ?_) (lo₀ := lo₀) (nw₀ := nw₀) (m₀ := m₀) ⟨⟨_, Heap.get?_push_size _ rfl, rfl, rfl⟩, ⟨o, up _ _ hax, ho.1, nn, hd⟩⟩
    (by rw [over_self hat]; exact F.keeps up) ((kst_newsOf N hin.mem).grown up) (fun p hp => Nat.ne_of_lt (Heap.lt_size (N p (hin.mem p hp)).1)) (Ne.symm (Nat.ne_of_lt F.ns.lt)) (next_is_new F) hj ?_ ?_ (fun v => ht _ v)
  · rcases List.mem_cons.mp hb with e | hb
    · exact .inl e
    · rw [List.mem_singleton.mp hb]
      exact .inr (.inr ⟨o, hsrc⟩)
  · rintro i v h tk m lo nw oI hi hP hJ F₁ N₁ hne st
    exact turn i v _ h tk m lo nw oI hP hJ F₁ N₁ (AllNe.of hne)
  · exact fun h tk m lo nw hJ F₁ N₁ => done h tk m lo nw hJ F₁ N₁
/-- behind drawn -/
noncomputable abbrev MidAb (g : Heap) (L : Addr) (s s' : Shared) (nd : Nat → Int) (vs : List Value) (l : Addr) (n : Nat) (o1 o2 o3 : Obj) : Prop :=
  (∀ i, 0 ≤ nd i ∧ nd i < 1000000) ∧ vs.length = 9 ∧ (∀ i, i < 9 → ∃ t, vs[i]? = some (.int (nd i) t)) ∧ Cells o1 o2 o3 none none none ∧ At g L [((PySem.Str.ofString "drawn"), .ref l)] ((l, listOf vs.toArray n) :: cellsL L o1 o2 o3) s s'
noncomputable def MidA (g : Heap) (L : Addr) (s s' : Shared) : Prop := ∃ (nd : Nat → Int) (vs : List Value) (l : Addr) (n : Nat) (o1 o2 o3 : Obj), MidAb g L s s' nd vs l n o1 o2 o3
/-- the ledger of the loop that writes the page: words, dues, points, lines, drawn, the cells; behind them the lists that the dues and points are -/
noncomputable abbrev pgN (L wl dl pl nl l : Addr) (ows ods ops ols od o1 o2 o3 : Obj) (tl : List (Addr × Obj)) : List (Addr × Obj) := (wl, ows) :: (dl, ods) :: (pl, ops) :: (nl, ols) :: (l, od) :: (cellsL L o1 o2 o3 ++ tl)
noncomputable abbrev pgF (L wl dl pl nl l : Addr) (nd : Nat → Int) (pg : List Nat) (tp : Tok) : List (Str × Value) := [((PySem.Str.ofString "drawn"), .ref l), ((PySem.Str.ofString "words"), .ref wl), ((PySem.Str.ofString "dues"), .ref dl), ((PySem.Str.ofString "points"), .ref pl), ((PySem.Str.ofString "lines"), .ref nl), ((PySem.Str.ofString "page"), .str (T pg) tp)]
/-- these stand apart -/
noncomputable abbrev pgA (L wl dl pl nl l : Nat) : Prop := Nq wl dl ∧ Nq wl pl ∧ Nq wl nl ∧ Nq wl l ∧ Nq dl pl ∧ Nq dl nl ∧ Nq dl l ∧ Nq pl nl ∧ Nq pl l ∧ Nq nl l ∧ AllNq wl [(L + 1 + 1 + 1, tabObj #[]), (L + 1 + 1, tabObj #[]), (L + 1, tabObj #[]), (145, tabObj #[])] ∧ AllNq dl [(L + 1 + 1 + 1, tabObj #[]), (L + 1 + 1, tabObj #[]), (L + 1, tabObj #[]), (145, tabObj #[])] ∧ AllNq pl [(L + 1 + 1 + 1, tabObj #[]), (L + 1 + 1, tabObj #[]), (L + 1, tabObj #[]), (145, tabObj #[])] ∧ AllNq nl [(L + 1 + 1 + 1, tabObj #[]), (L + 1 + 1, tabObj #[]), (L + 1, tabObj #[]), (145, tabObj #[])]
/-- behind words, dues, points, lines, page -/
noncomputable abbrev MidBb (g : Heap) (L l : Addr) (od : Obj) (s s' : Shared) (wl dl pl nl : Addr) (tp : Tok) (o1 o2 o3 : Obj) : Prop :=
  Cells o1 o2 o3 none none none ∧ pgA L wl dl pl nl l ∧ At g L [((PySem.Str.ofString "drawn"), .ref l), ((PySem.Str.ofString "words"), .ref wl), ((PySem.Str.ofString "dues"), .ref dl), ((PySem.Str.ofString "points"), .ref pl), ((PySem.Str.ofString "lines"), .ref nl), ((PySem.Str.ofString "page"), .str (T []) tp)] (pgN L wl dl pl nl l (listOf #[] 0) (listOf #[] 0) (listOf #[] 0) (listOf #[] 0) od o1 o2 o3 []) s s'
noncomputable def MidB (g : Heap) (L l : Addr) (od : Obj) (s s' : Shared) : Prop := ∃ (wl dl pl nl : Addr) (tp : Tok) (o1 o2 o3 : Obj), MidBb g L l od s s' wl dl pl nl tp o1 o2 o3
theorem ints_nine {vs : List Value} {nd : Nat → Int} (hvl : vs.length = 9) (hv : ∀ i, i < 9 → ∃ t, vs[i]? = some (.int (nd i) t)) : IntsAre vs ((List.range 9).map nd) :=
  ints_of (by simp [hvl]) fun j y hy => by
    have hj : j < 9 := by have := (List.getElem?_eq_some_iff.mp hy).1; omega
    obtain ⟨t, e⟩ := hv j hj
    rw [e] at hy
    cases hy
    exact ⟨nd j, t, by rw [List.getElem?_map, List.getElem?_range hj]; rfl, rfl⟩
theorem pts_slice (nd : Nat → Int) (i : Nat) (hi : i < 3) (k : Nat) (hk : k < 3) : (((List.range 9).map nd).drop (3 * i + 1)).take k = [nd (3 * i + 1), nd (3 * i + 2)].take k := by
  have h1 := three_nat hi
  have h2 := three_nat hk
  rcases h1 with rfl | rfl | rfl <;> rcases h2 with rfl | rfl | rfl <;> rfl
/-- none of these -/
noncomputable abbrev fxA (L wl dl pl nl : Addr) : List Addr := [wl, dl, pl, nl, L + 1 + 1 + 1, L + 1 + 1, L + 1, 145]
/-- behind head, word, due, points.append -/
noncomputable abbrev MidC1b (g : Heap) (L : Addr) (s s' : Shared) (nd : Nat → Int) (i : Nat) (wl dl pl nl l I : Addr) (oI ows ods ols od o1 o2 o3 : Obj) (ps : List Value) (pn : Nat) (pg : List Nat) (tp ti : Tok) (tl : List (Addr × Obj)) (P D0 : Addr) (pv : List Value) (th tw : Tok) : Prop :=
  IntsAre pv (ptsP nd i) ∧ AllNq P ((D0, od) :: (I, oI) :: pgN L wl dl pl nl l ows ods ods ols od o1 o2 o3 []) ∧ AllNq D0 ((I, oI) :: pgN L wl dl pl nl l ows ods ods ols od o1 o2 o3 []) ∧
    At g L (pgF L wl dl pl nl l nd pg tp ++ [((PySem.Str.ofString "k"), .int (0 + (i : Int) * 3) ti), ((PySem.Str.ofString "head"), .int (headQ nd i) th), ((PySem.Str.ofString "word"), .str (T []) tw), ((PySem.Str.ofString "due"), .ref D0)])
      ((P, listOf pv.toArray 0) :: (D0, listOf #[] 0) :: (I, oI) :: pgN L wl dl pl nl l ows ods (listOf (ps.toArray.push (.ref P)) (pn + 1)) ols od o1 o2 o3 tl) s s'
noncomputable def MidC1 (g : Heap) (L : Addr) (s s' : Shared) (nd : Nat → Int) (i : Nat) (wl dl pl nl l I : Addr) (oI ows ods ols od o1 o2 o3 : Obj) (ps : List Value) (pn : Nat) (pg : List Nat) (tp ti : Tok) (tl : List (Addr × Obj)) : Prop :=
  ∃ (P D0 : Addr) (pv : List Value) (th tw : Tok), MidC1b g L s s' nd i wl dl pl nl l I oI ows ods ols od o1 o2 o3 ps pn pg tp ti tl P D0 pv th tw

end partLs1
theorem off_Eq1 : (1 : Nat) = 1 := by
  w_top off
  first | walk1 | rfl
section partEq1
open PySem.SeqAt
theorem T_beq (a b : List Nat) : (T a == T b) = decide (a = b) := by
  by_cases e : a = b
  · subst e; simp
  · have : T a ≠ T b := fun q => e (T_inj q)
    simp [this, e]
theorem strs_at {vs : List Value} {ms : List (List Nat)} (h : StrsAre vs (ms.map T)) {j : Nat} (hj : j < vs.toArray.size) : ∃ c t, ms[j]? = some c ∧ vs.toArray[j] = Value.str (T c) t := by
  have hj' : j < vs.length := by simpa using hj
  with_reducible refine Classical.byContradiction fun hZq => ?_
  obtain ⟨n, t, e1, e2, _⟩ := item_str h (i := j) (v := vs[j]) (by simp [hj'])
  refine hZq ?_
  clear hZq
  rw [List.getElem?_map] at e1
  cases hm : ms[j]? with
  | none => rw [hm] at e1; cases e1
  | some c =>
    rw [hm] at e1
    injection e1 with e1
    exact ⟨c, t, rfl, by rw [List.getElem_toArray, e2, ← e1]⟩
theorem texts_all {xs ys : List Value} {ms ns : List (List Nat)} (h1 : StrsAre xs (ms.map T)) (h2 : StrsAre ys (ns.map T)) (hsz : xs.length = ys.length) : (List.range xs.toArray.size).all (fun j => decide (ms[j]? = ns[j]?)) = decide (ms = ns) := by
  have l1 := h1.length
  have l2 := h2.length
  rw [List.length_map] at l1 l2
  rw [Bool.eq_iff_iff, List.all_eq_true, decide_eq_true_iff]
  constructor
  · intro h
    refine List.ext_getElem? fun j => ?_
    by_cases hj : j < xs.length
    · exact of_decide_eq_true (h j (List.mem_range.mpr (by simpa using hj)))
    · rw [List.getElem?_eq_none (by omega), List.getElem?_eq_none (by omega)]
  · rintro rfl j _
    exact decide_eq_true rfl
theorem texts_at {A : Around} {s : Shared} {xs ys : List Value} {ms ns : List (List Nat)} (h1 : StrsAre xs (ms.map T)) (h2 : StrsAre ys (ns.map T)) (j : Nat) (q1 : j < xs.toArray.size) (q2 : j < ys.toArray.size) :
    EqAt A s xs.toArray[j] ys.toArray[j] (decide (ms[j]? = ns[j]?)) := by
  with_reducible refine Classical.byContradiction fun hZq => ?_
  obtain ⟨c, t, e1, e2⟩ := strs_at h1 q1
  refine hZq ?_
  clear hZq
  with_reducible refine Classical.byContradiction fun hZq => ?_
  obtain ⟨d, u, e3, e4⟩ := strs_at h2 q2
  refine hZq ?_
  clear hZq
  rw [e1, e2, e3, e4, show decide (some c = some d) = (T c == T d) by rw [T_beq]; simp]
  exact EqAt.str_str _ _ _ _
theorem ne_texts {A : Around} {s : Shared} {l b : Addr} {xs ys : List Value} {ms ns : List (List Nat)} (hl : s.heap.IsList l xs.toArray) (hb : s.heap.IsList b ys.toArray) (h1 : StrsAre xs (ms.map T)) (h2 : StrsAre ys (ns.map T)) (hu : A.units < cLine) :
    RcNeAt A s (.ref l) (.ref b) (!decide (ms = ns)) := by
  by_cases hsz : xs.length = ys.length
  · rw [← texts_all h1 h2 hsz]
    exact RcNeAt.lists hl hb (by simpa using hsz) hu (fun j q1 q2 => texts_at h1 h2 j q1 q2)
  · have : ¬ ms = ns := fun e => by
      have l1 := h1.length
      have l2 := h2.length
      rw [List.length_map] at l1 l2
      rw [e] at l1
      omega
    rw [decide_eq_false this]
    exact RcNeAt.lists_lengths hl hb (by simpa using hsz) hu
end partEq1
theorem off_Sp1 : (1 : Nat) = 1 := by
  w_top off
  first | walk1 | rfl
section partSp1
noncomputable def jn (c : Nat) : List (List Nat) → List Nat
  | [] => []
  | [p] => p
  | p :: q :: r => p ++ c :: jn c (q :: r)
theorem app_inj (c : Nat) : ∀ (p q a b : List Nat), c ∉ p → c ∉ q → p ++ c :: a = q ++ c :: b → p = q ∧ a = b
  | [], [], a, b, _, _, h => ⟨rfl, (List.cons.inj h).2⟩
  | [], y :: q, a, b, _, h2, h => by
    have := (List.cons.inj h).1
    exact absurd (this ▸ List.mem_cons_self) h2
  | x :: p, [], a, b, h1, _, h => by
    have := (List.cons.inj h).1
    exact absurd (this ▸ List.mem_cons_self) h1
  | x :: p, y :: q, a, b, h1, h2, h => by
    obtain ⟨e1, e2⟩ := List.cons.inj h
    obtain ⟨e3, e4⟩ := app_inj c p q a b (fun m => h1 (.tail _ m)) (fun m => h2 (.tail _ m)) e2
    exact ⟨by rw [e1, e3], e4⟩
theorem jn_uniq (c : Nat) : ∀ (P Q : List (List Nat)), P ≠ [] → Q ≠ [] → (∀ p ∈ P, c ∉ p) → (∀ q ∈ Q, c ∉ q) → jn c P = jn c Q → P = Q
  | [], _, h, _, _, _, _ => absurd rfl h
  | _ :: _, [], _, h, _, _, _ => absurd rfl h
  | [p], [q], _, _, _, _, h => by rw [show p = q from h]
  | [p], q :: q' :: r, _, _, h1, _, h => by
    have h' : p = q ++ c :: jn c (q' :: r) := h
    exact absurd (by rw [h']; exact List.mem_append.mpr (.inr (.head _))) (h1 p (.head _))
  | p :: p' :: r, [q], _, _, _, h2, h => by
    have h' : p ++ c :: jn c (p' :: r) = q := h
    exact absurd (by rw [← h']; exact List.mem_append.mpr (.inr (.head _))) (h2 q (.head _))
  | p :: p' :: r, q :: q' :: r', _, _, h1, h2, h => by
    obtain ⟨e1, e2⟩ := app_inj c p q _ _ (h1 p (.head _)) (h2 q (.head _)) h
    rw [e1, jn_uniq c (p' :: r) (q' :: r') (fun e => nomatch e) (fun e => nomatch e) (fun x hx => h1 x (.tail _ hx)) (fun x hx => h2 x (.tail _ hx)) e2]
theorem join_jn (c : Nat) : ∀ P : List (List Nat), Str.join (T [c]) (P.map T) = T (jn c P)
  | [] => rfl
  | [p] => rfl
  | p :: q :: r => by
    show T p ++ T [c] ++ Str.join (T [c]) ((q :: r).map T) = T (p ++ c :: jn c (q :: r))
    rw [join_jn c (q :: r), T_append, T_append]
    simp
theorem T_toList (x : Str) : T x.cps.toList = x := by
  unfold T
  rw [Array.toArray_toList]
theorem split_is {Q : List (List Nat)} (hQ : Q ≠ []) (hf : ∀ q ∈ Q, 9 ∉ q) : Txt.split (T (jn 9 Q)) (PySem.Str.ofString "\t") = Q.map T := by
  have ht : PySem.Str.ofString "\t" = ⟨#[9]⟩ := by decide +kernel
  rw [ht]
  have h1 := StrLaws.join_split (T (jn 9 Q)) ⟨#[9]⟩
  have h2 := StrLaws.split_free (T (jn 9 Q)) 9
  have h3 := PyProof.Rows.split_pos (T (jn 9 Q)) ⟨#[9]⟩
  generalize Txt.split (T (jn 9 Q)) ⟨#[9]⟩ = Ps at *
  have e : Ps = (Ps.map fun p => p.cps.toList).map T := by
    rw [List.map_map]
    conv => lhs; rw [← List.map_id Ps]
    exact List.map_congr_left fun p _ => (T_toList p).symm
  have h4 : jn 9 (Ps.map fun p => p.cps.toList) = jn 9 Q := by
    refine T_inj ?_
    rw [← join_jn, ← e]
    exact h1
  have h5 := jn_uniq 9 _ Q (fun q => by
    have := congrArg List.length q
    rw [List.length_map] at this
    simp at this
    rw [this] at h3
    simp at h3) hQ (fun p hp => by
      with_reducible refine Classical.byContradiction fun hZq => ?_
      obtain ⟨x, hx, rfl⟩ := List.mem_map.mp hp
      refine hZq ?_
      clear hZq
      exact h2 x hx) hf h4
  rw [e, h5]
theorem jn_lead (b : Int) : ∀ runs : List Int, jn 9 ((runs ++ [b]).map fun c => List.replicate c.toNat 32) = leadL runs ++ List.replicate b.toNat 32
  | [] => rfl
  | [r] => by
    show List.replicate r.toNat 32 ++ 9 :: List.replicate b.toNat 32 = _
    simp [leadL]
  | r :: r2 :: rs => by
    have ih := jn_lead b (r2 :: rs)
    show List.replicate r.toNat 32 ++ 9 :: jn 9 (((r2 :: rs) ++ [b]).map fun c => List.replicate c.toNat 32) = _
    rw [ih]
    simp [leadL]
theorem split_lead (runs : List Int) (b : Int) : Txt.split (T (leadL runs ++ List.replicate b.toNat 32)) (PySem.Str.ofString "\t") = ((runs ++ [b]).map fun c => List.replicate c.toNat 32).map T := by
  rw [← jn_lead]
  refine split_is (by simp) fun q hq => ?_
  with_reducible refine Classical.byContradiction fun hZq => ?_
  obtain ⟨c, _, rfl⟩ := List.mem_map.mp hq
  refine hZq ?_
  clear hZq
  intro h
  exact absurd (List.eq_of_mem_replicate h) (by decide)

end partSp1
section walksB
local macro_rules | `(tactic| k_ne) => `(tactic| (refine neN ?_; (try dsimp only); first | exact Nq.l (by with_reducible assumption) | exact Nq.r (by with_reducible assumption) | omega))
local macro_rules | `(tactic| walk_at "call ref") => `(tactic| refine stop_at ?_)
local macro_rules | `(tactic| walk_at "binaryOp Add ref ref") => `(tactic| refine stop_at ?_)
local macro_rules | `(tactic| walk_at "subscriptTail BinOp") => `(tactic| refine stop_at ?_)
local macro_rules | `(tactic| walk_at "subscriptTail List") => `(tactic| refine stop_at ?_)
theorem off_BlA1 : (1 : Nat) = 1 := by
  w_top off
  first | walk1 | rfl
section partBlA1
local macro_rules | `(tactic| walk_at "call ref") => `(tactic| refine stop_at ?_)
local macro_rules | `(tactic| walk_at "binaryOp Add ref ref") => `(tactic| refine stop_at ?_)
local macro_rules | `(tactic| walk_at "subscriptTail BinOp") => `(tactic| refine stop_at ?_)
theorem blkA (w : World) (L fa : Addr) (cd : Value) (g h0 : Heap) (gn : Array GenState) (dr : Drawn) (tk : Nat) (os : OsState) (ax : Addr) (its : List Value) (script : List Int) (o1 o2 o3 : Obj) {pp : Program} {loose : List Str} {mean : ExcName → Option Value} {mg mb : Str → Option Value}
  (X : (K0 w.params).In g) (TT : Top pp loose mean mg mb g) (hL0 : g.IsList ax its.toArray) (hI0 : IntsAre its script) (hsl : script.length ≤ 63) (HC : Cells o1 o2 o3 none none none) (l145 : (145 : Nat) < L)
  (F0 : Fr g L h0 (over [((PySem.Str.ofString "script"), .ref ax)] fun _ => none)) (N0 : News g L h0 (cellsL L o1 o2 o3)) :
  wpAny (model prog w) (lawA L fa cd) (execs ((lawBS.1.drop 0).take 1) (lawEnv L fa cd)) (Next (MidA g L ⟨h0, gn, dr, tk, os⟩)) noE ⟨h0, gn, dr, tk, os⟩ := by
  have _kf : (PySem.Challenge.rw_pg0230_01, K0) = (PySem.Challenge.rw_pg0230_01, K0) := by k_fill; rfl
  have e1 : (lawBS.1.drop 0).take 1 = [_] := rfl
  have e2 : lawBS.2 = ⟨_, _, _, _, _⟩ := rfl
  unfold lawA lawEnv
  rw [e1, e2]
  clear e1 e2
  have hil := hI0.length
  k_steps
  ((unfold Stop; (with_reducible refine lc_assign (cl := []) ?mzc0 ?mzc1 ?mzc2 ?mzc3 ?mzc4 ?mzc5 ?mzc7 ?mzc8 ?mzc6 ?_); (case mzc0 => exact rfl); (case mzc1 => rfl); (case mzc2 => decide +kernel); (case mzc3 => rfl); (case mzc4 => decide +kernel); (case mzc5 => decide +kernel); (case mzc6 => intro _; rfl); (case mzc7 => exact rfl); (case mzc8 => exact rfl)))
  k_steps
  unfold Stop
  rename News _ _ _ _ => N1
  rename Fr _ _ _ _ => F1
  rename IntsAre _ (List.take 9 script) => hI1
  have hl1 := hI1.length
  have hl2 : (List.take 9 script).length ≤ 9 := by rw [List.length_take]; omega
  refine kmk_add_ints F1 N1 ⟨_, N1.get (.tail _ (.head _)), rfl, _, rfl⟩ ⟨_, N1.get (.head _), rfl, _, rfl⟩ hI1 (ms := [100, 100, 63, 207, 75, 140, 41, 170, 137]) ?hj ?_ ?hz
  (case hj => repeat' (first | exact IntsAre.nil | apply IntsAre.cons))
  (case hz => rw [sizeLine_eq]; simp only [List.length_cons, List.length_nil]; omega)
  intro D1 us1 h1 F2 N2 lD hI2
  generalize hns : List.take 9 script ++ [100, 100, 63, 207, 75, 140, 41, 170, 137] = ns at *
  have hnl : 9 ≤ ns.length := by rw [← hns]; simp
  have hnl2 : ns.length ≤ 18 := by rw [← hns]; simp; omega
  clear F1 N1
  k_steps
  unfold Stop
  rename Fr _ _ _ _ => F3
  rename News _ _ _ _ => N3
  have hus := hI2.length
  refine kba_turn (value' := PySem.Expr.Name (PySem.Str.ofString "_") ⟨0, 0, 0, 0⟩) (fun _ => rfl) ?_
  refine kmk_slice (s := ⟨_, _, _, _, _⟩) (its := us1.toArray) F3 N3 ⟨_, N3.get (.head _), rfl, _, rfl⟩ .none (.int 9 _) ?_ (by with_unfolding_all rfl) (by intro _; with_unfolding_all rfl) (by rw [sizeLine_eq, List.size_toArray]; omega)
  intro D2 h4 F4 N4 lD2
  rw [show ((9 : Int)) = ((9 : Nat) : Int) from rfl, slicePick_upto'] at N4
  have hI4 : IntsAre (us1.take 9) (ns.take 9) := hI2.take 9
  simp only at N4
  generalize hus6 : us1.take 9 = us at *
  generalize hns6 : ns.take 9 = ms at *
  have hml : ms.length = 9 := by rw [← hns6, List.length_take]; omega
  have hul := hI4.length
  clear F3 N3 hI2 hI1
  dsimp only
  refine LcA.intro rfl F4 N4 ?_ (src_list (its := us.toArray) rfl F4 N4 (.inr ⟨_, .head _, rfl, _, rfl⟩)) ?_
  · simp only [List.size_toArray, sizeLine_eq]; omega
  intro hh
  refine comp_quiet _ (fun i y => ∃ t n, ms[i]? = some n ∧ y = .int (Int.fmod n 1000000) t) _ (.inr ⟨_, .head _, rfl, _, rfl⟩) ?_ ?_
  · intro i v I oI C oC D oD m₂ h5 tk5 hi5 hP hC hx F5 N5 off ne
    with_reducible refine Classical.byContradiction fun hZq => ?_
    obtain ⟨n, t, hn, rfl, _⟩ := item_int hI4 (i := i) (v := v) (by simpa using hP)
    refine hZq ?_
    clear hZq
    k_steps
    exact QEnd.intro (by assumption) (by assumption) (by (first | focus ((repeat (first | exact True.intro | with_reducible exact InAll.self | with_reducible refine InAll.keep ?_ | with_reducible refine InAll.skip ?_)); done) | ((repeat (refine And.intro (by k_mem) ?_)); exact True.intro))) ⟨_, n, hn, rfl⟩
  intro ys hys hT D6 h6 tk6 F6 N6 off6
  have h6l : ys.length = 9 := by rw [hys, List.size_toArray]; omega
  dsimp only
  refine wpAny_execs_nil ?_
  refine ⟨rfl, fun i => Int.fmod (ms.getD i 0) 1000000, ys, D6, _, o1, o2, o3, fun n => ⟨Int.fmod_nonneg_of_pos _ (by decide), Int.fmod_lt_of_pos _ (by decide)⟩, h6l, fun i hi => ?_, HC, At.intro F6 N6 ⟨if_pos rfl, trivial⟩ (by (first | focus ((repeat (first | exact True.intro | with_reducible exact InAll.self | with_reducible refine InAll.keep ?_ | with_reducible refine InAll.skip ?_)); done) | ((repeat (refine And.intro (by k_mem) ?_)); exact True.intro)))⟩
  have hyi : ys[i]? = some ys[i] := List.getElem?_eq_getElem (by omega)
  with_reducible refine Classical.byContradiction fun hZq => ?_
  obtain ⟨t, n, e1, e2⟩ := hT i _ hyi
  refine hZq ?_
  clear hZq
  refine ⟨t, hyi.trans ?_⟩
  show _ = some (Value.int (Int.fmod (ms.getD i 0) 1000000) t)
  rw [e2, List.getD_eq_getElem?_getD, e1]
  rfl

end partBlA1
theorem off_BlB1 : (1 : Nat) = 1 := by
  w_top off
  first | walk1 | rfl
section partBlB1
theorem blkB (w : World) (L fa : Addr) (cd : Value) (g h0 : Heap) (m0 : Str → Option Value) (gn : Array GenState) (dr : Drawn) (tk : Nat) (os : OsState) (l : Addr) (vs : List Value) (n : Nat) (o1 o2 o3 : Obj) {pp : Program} {loose : List Str} {mean : ExcName → Option Value} {mg mb : Str → Option Value}
  (X : (K0 w.params).In g) (TT : Top pp loose mean mg mb g) (HC : Cells o1 o2 o3 none none none) (l145 : (145 : Nat) < L)
  (F0 : Fr g L h0 (over [((PySem.Str.ofString "drawn"), .ref l)] m0)) (N0 : News g L h0 ((l, listOf vs.toArray n) :: cellsL L o1 o2 o3)) :
  wpAny (model prog w) (lawA L fa cd) (execs ((lawBS.1.drop 1).take 1) (lawEnv L fa cd)) (Next (MidB g L l (listOf vs.toArray n) ⟨h0, gn, dr, tk, os⟩)) noE ⟨h0, gn, dr, tk, os⟩ := by
  have _kf : (PySem.Challenge.rw_pg0230_01, K0) = (PySem.Challenge.rw_pg0230_01, K0) := by k_fill; rfl
  have e1 : (lawBS.1.drop 1).take 1 = [_] := rfl
  have e2 : lawBS.2 = ⟨_, _, _, _, _⟩ := rfl
  unfold lawA lawEnv
  rw [e1, e2]
  clear e1 e2
  dsimp only [cellsL] at N0
  k_steps
  rename Fr _ _ _ _ => F1
  rename News _ _ _ _ => N1
  rw [show PySem.Str.ofString "" = T [] by decide +kernel] at F1
  rename _ ∧ _ => tD
  clear tD
  rename _ ∧ _ => t4
  with_reducible refine Classical.byContradiction fun hZq => ?_
  obtain ⟨n1, n2, n3, n4, n5, n6, n7, n8⟩ := t4
  refine hZq ?_
  clear hZq
  rename _ ∧ _ => t3
  with_reducible refine Classical.byContradiction fun hZq => ?_
  obtain ⟨p1, p2, p3, p5, p6, p7, p8⟩ := t3
  refine hZq ?_
  clear hZq
  rename _ ∧ _ => t2
  with_reducible refine Classical.byContradiction fun hZq => ?_
  obtain ⟨d1, d2, d5, d6, d7, d8⟩ := t2
  refine hZq ?_
  clear hZq
  rename _ ∧ _ => t1
  with_reducible refine Classical.byContradiction fun hZq => ?_
  obtain ⟨w1, w5, w6, w7, w8⟩ := t1
  refine hZq ?_
  clear hZq
  have q : ∀ {a b : Nat}, a < b → Nq a b := fun h => Nat.ne_of_lt h
  have q' : ∀ {a b : Nat}, a < b → Nq b a := fun h => Nat.ne_of_gt h
  exact ⟨rfl, _, _, _, _, _, o1, o2, o3, HC, ⟨q d1, q p2, q n3, q' w1, q p1, q n2, q' d2, q n1, q' p3, q' n4, ⟨q w5, q w6, q w7, q w8, trivial⟩, ⟨q d5, q d6, q d7, q d8, trivial⟩, ⟨q p5, q p6, q p7, q p8, trivial⟩, ⟨q n5, q n6, q n7, q n8, trivial⟩⟩, At.intro F1 N1 (by (first | focus ((repeat (first | exact True.intro | (refine AllAt.keep _ rfl ?_ ?_; (focus decide +kernel)) | (refine AllAt.skip _ rfl ?_ ?_; (focus decide +kernel)))); done) | ((repeat (refine And.intro ?_ ?_; (focus (first | walk_at "m_look" | rfl)))); exact True.intro))) (by (first | focus ((repeat (first | exact True.intro | with_reducible exact InAll.self | with_reducible refine InAll.keep ?_ | with_reducible refine InAll.skip ?_)); done) | ((repeat (refine And.intro (by k_mem) ?_)); exact True.intro)))⟩

end partBlB1
theorem off_BlP1 : (1 : Nat) = 1 := by
  w_top off
  first | walk1 | rfl
section partBlP1
local macro_rules | `(tactic| k_all) => `(tactic| with_reducible assumption)
/-- head, word, due, points.append -/
theorem rowC1 (w : World) (L fa : Addr) (cd : Value) (g h3 : Heap) (m3 : Str → Option Value) (gn : Array GenState) (dr : Drawn) (tk3 : Nat) (os : OsState) (l : Addr) (vs : List Value) (n : Nat) (nd : Nat → Int) (i : Nat) {pp : Program} {loose : List Str} {mean : ExcName → Option Value} {mg mb : Str → Option Value}
  (X : (K0 w.params).In g) (TT : Top pp loose mean mg mb g) (l145 : (145 : Nat) < L) (hnd : ∀ i, 0 ≤ nd i ∧ nd i < 1000000) (hvl : vs.length = 9) (hv : ∀ i, i < 9 → ∃ t, vs[i]? = some (.int (nd i) t)) (hi : i < 3)
  (I wl dl pl nl : Addr) (oI ows ods ols o1 o2 o3 : Obj) (ps : List Value) (pn : Nat) (hpl : ps.length ≤ 3) (tp ti : Tok) (pg : List Nat) (tl : List (Addr × Obj)) (hap : pgA L wl dl pl nl l) (hpI : Nq pl I) (hoff : ∀ p ∈ tl, p.1 ≠ pl)
  (F3 : Fr g L h3 (over (pgF L wl dl pl nl l nd pg tp ++ [((PySem.Str.ofString "k"), .int (0 + (i : Int) * 3) ti)]) m3))
  (N3 : News g L h3 ((I, oI) :: pgN L wl dl pl nl l ows ods (listOf ps.toArray pn) ols (listOf vs.toArray n) o1 o2 o3 tl)) :
  wpAny (model prog w) (lawA L fa cd) (execs (bodyC.take 3) (lawEnv L fa cd)) (Next (fun s' => MidC1 g L ⟨h3, gn, dr, tk3, os⟩ s' nd i wl dl pl nl l I oI ows ods ols (listOf vs.toArray n) o1 o2 o3 ps pn pg tp ti tl)) noE ⟨h3, gn, dr, tk3, os⟩ := by
  have _kf : (PySem.Challenge.rw_pg0230_01, K0) = (PySem.Challenge.rw_pg0230_01, K0) := by k_fill; rfl
  have e1 : bodyC.take 3 = [_, _, _] := rfl
  have e2 : lawBS.2 = ⟨_, _, _, _, _⟩ := rfl
  unfold lawA lawEnv
  rw [e1, e2]
  clear e1 e2
  dsimp only [pgN, cellsL, List.cons_append, List.nil_append] at N3
  dsimp only [pgF, List.cons_append, List.nil_append] at F3
  with_reducible refine Classical.byContradiction fun hZq => ?_
  obtain ⟨a1, a2, a3, a4, a5, a6, a7, a8, a9, a10, ⟨b1, b2, b3, b4, _⟩, ⟨b5, b6, b7, b8, _⟩, ⟨b9, b10, b11, b12, _⟩, ⟨b13, b14, b15, b16, _⟩⟩ := hap
  refine hZq ?_
  clear hZq
  have q := hnd (3 * i)
  obtain ⟨th, hh⟩ := hv (3 * i) (by omega)
  generalize hhd : nd (3 * i) = hd at *
  obtain ⟨q1, q2⟩ := q
  k_steps
  rename News _ _ _ _ => N4
  refine kim_list (l := vs) N4 (by k_mem) rfl rfl (by omega) (by omega) (by rw [thrice]; exact hh) ?_
  k_steps
  rename Fr _ _ _ _ => F5
  rename News _ _ _ _ => N5
  have hI9 := ints_nine hvl hv
  have hm3 : 0 ≤ Int.fmod hd 3 ∧ Int.fmod hd 3 < 3 := ⟨Int.fmod_nonneg_of_pos _ (by decide), Int.fmod_lt_of_pos _ (by decide)⟩
  refine kmk_slice_ints (s := ⟨_, _, _, _, _⟩) F5 N5 ⟨_, N5.get (by k_mem), rfl, _, rfl⟩ (.int _ _) (.int _ _) hI9 (slice_ints hI9 (by omega) (by omega) (by rw [List.length_map, List.length_range]; omega)) rfl ?_ (by with_unfolding_all rfl) (by intro _; with_unfolding_all rfl) (by rw [sizeLine_eq, List.size_toArray]; omega)
  intro P pv h6 F6 N6 lP hpv hc hle
  rw [thrice_one, show (0 + (i : Int) * 3 + 1 + Int.fmod hd 3 - (0 + (i : Int) * 3 + 1)) = Int.fmod hd 3 by rw [Int.add_comm (0 + (i : Int) * 3 + 1), Int.add_sub_cancel], pts_slice nd i hi _ (by omega)] at hpv
  clear hc hle hI9
  have hpts : IntsAre pv (ptsP nd i) := by unfold ptsP headQ; rw [hhd]; exact hpv
  clear hpv
  with_reducible refine Classical.byContradiction fun hZq => ?_
  obtain ⟨p0, p1, p2, p3, p4, p5, p6, p7, p8, p9, p10, p11, _⟩ := AllNq.lt lP
  refine hZq ?_
  clear hZq
  clear lP F5 N5
  clear hm3
  rename _ ∧ _ => tD
  have tpl : Nq _ pl := Nat.ne_of_gt tD.2.2.2.2.1
  clear tD
  rename _ ∧ _ => t1
  with_reducible refine Classical.byContradiction fun hZq => ?_
  obtain ⟨d1, d2, d3, d4, d5, d6, d7, d8, d9, d10, _⟩ := t1
  refine hZq ?_
  clear hZq
  rename Fr _ _ _ _ => F9
  k_steps
  subst hhd
  rename Fr _ _ _ _ => FZ
  rename News _ _ _ _ => NZ
  rw [empty_T] at FZ
  have qn : ∀ {a b : Nat}, a < b → Nq a b := fun h => Nat.ne_of_lt h
  exact ⟨rfl, P, _, pv, th, _, hpts, ⟨p1, p2, p3, p4, p5, p6, p7, p8, p9, p10, p11, trivial⟩, ⟨qn d1, qn d2, qn d3, qn d4, qn d5, qn d6, qn d7, qn d8, qn d9, qn d10, trivial⟩, At.intro FZ NZ (by (first | focus ((repeat (first | exact True.intro | (refine AllAt.keep _ rfl ?_ ?_; (focus decide +kernel)) | (refine AllAt.skip _ rfl ?_ ?_; (focus decide +kernel)))); done) | ((repeat (refine And.intro ?_ ?_; (focus (first | walk_at "m_look" | rfl)))); exact True.intro))) (by (((try dsimp only [pgN, cellsL, List.cons_append, List.nil_append]); (first | focus ((repeat (first | exact True.intro | with_reducible exact InAll.self | with_reducible refine InAll.keep ?_ | with_reducible refine InAll.skip ?_)); done) | ((repeat (refine And.intro (by k_mem) ?_)); exact True.intro)))))⟩

end partBlP1
theorem off_BlP2 : (1 : Nat) = 1 := by
  w_top off
  first | walk1 | rfl
section partBlP2
noncomputable def bodyX : List Stmt := match (bodyC.drop 3).head? with
  | some (.For _ _ b _ _) => b
  | _ => []
/-- the names that the row's turn holds while it goes over its points -/
noncomputable abbrev rowF (L wl dl pl nl l : Addr) (nd : Nat → Int) (i : Nat) (pg : List Nat) (tp ti th : Tok) (wd : List Nat) (tw : Tok) (D : Addr) : List (Str × Value) :=
  [((PySem.Str.ofString "drawn"), .ref l), ((PySem.Str.ofString "words"), .ref wl), ((PySem.Str.ofString "dues"), .ref dl), ((PySem.Str.ofString "points"), .ref pl), ((PySem.Str.ofString "lines"), .ref nl), ((PySem.Str.ofString "page"), .str (T pg) tp), ((PySem.Str.ofString "k"), .int (0 + (i : Int) * 3) ti), ((PySem.Str.ofString "head"), .int (headQ nd i) th), ((PySem.Str.ofString "word"), .str (T wd) tw), ((PySem.Str.ofString "due"), .ref D)]
noncomputable def RJ (L wl dl pl nl l : Addr) (nd : Nat → Int) (i : Nat) (pg : List Nat) (tp ti th : Tok) (wd : List Nat) (D : Addr) (x : Int) (tx thv tv : Tok) (nw0 : List (Addr × Obj)) (j : Nat) (lo : List (Str × Value)) (nw : List (Addr × Obj)) : Prop :=
  ∃ tw, lo = rowF L wl dl pl nl l nd i pg tp ti th (wd ++ leadL ((chansQ x).take j)) tw D ++ [((PySem.Str.ofString "x"), .int x tx), ((PySem.Str.ofString "halves"), .int (halvesQ (kindQ x)) thv), ((PySem.Str.ofString "value"), .int (valueQ (kindQ x)) tv)] ∧ nw = nw0
theorem RJ.intro {L wl dl pl nl l : Addr} {nd : Nat → Int} {i : Nat} {pg : List Nat} {tp ti th : Tok} {wd : List Nat} {D : Addr} {x : Int} {tx thv tv : Tok} {nw0 : List (Addr × Obj)} {j : Nat} (wd' : List Nat) (tw : Tok) (h : wd ++ leadL ((chansQ x).take j) = wd') :
    RJ L wl dl pl nl l nd i pg tp ti th wd D x tx thv tv nw0 j (rowF L wl dl pl nl l nd i pg tp ti th wd' tw D ++ [((PySem.Str.ofString "x"), .int x tx), ((PySem.Str.ofString "halves"), .int (halvesQ (kindQ x)) thv), ((PySem.Str.ofString "value"), .int (valueQ (kindQ x)) tv)]) nw0 := ⟨tw, by rw [h], rfl⟩
theorem leadL_snoc (l : List Int) (c : Int) : leadL (l ++ [c]) = leadL l ++ (List.replicate c.toNat 32 ++ [9]) := by
  unfold leadL
  rw [List.map_append, List.flatten_append]
  simp
theorem leadL_len : ∀ (l : List Int), (∀ c ∈ l, 0 ≤ c ∧ c ≤ 16) → (leadL l).length ≤ 17 * l.length
  | [], _ => Nat.le_refl _
  | c :: r, h => by
    have ih := leadL_len r fun d hd => h d (.tail _ hd)
    obtain ⟨h1, h2⟩ := h c (.head _)
    unfold leadL at ih ⊢
    rw [List.map_cons, List.flatten_cons, List.length_append, List.length_append, List.length_replicate, List.length_singleton, List.length_cons]
    omega
theorem rowC2a (w : World) (L fa : Addr) (cd : Value) (g h3 : Heap) (m3 : Str → Option Value) (gn : Array GenState) (dr : Drawn) (tk3 : Nat) (os : OsState) (nd : Nat → Int) (i : Nat) {pp : Program} {loose : List Str} {mean : ExcName → Option Value} {mg mb : Str → Option Value}
  (X : (K0 w.params).In g) (TT : Top pp loose mean mg mb g)
  (l wl dl pl nl D : Addr) (tp ti th tw tx thv tv : Tok) (pg wd : List Nat) (x : Int) (hx : 0 ≤ x ∧ x < 1000000) (hwd : wd.length ≤ 200) (nw : List (Addr × Obj))
  (F3 : Fr g L h3 (over (rowF L wl dl pl nl l nd i pg tp ti th wd tw D ++ [((PySem.Str.ofString "x"), .int x tx), ((PySem.Str.ofString "halves"), .int (halvesQ (kindQ x)) thv), ((PySem.Str.ofString "value"), .int (valueQ (kindQ x)) tv)]) m3)) (N3 : News g L h3 nw) :
  wpAny (model prog w) (lawA L fa cd) (execs ((bodyX.drop 1).take 1) (lawEnv L fa cd)) (Next (fun s' => ∃ tw', At g L (rowF L wl dl pl nl l nd i pg tp ti th (wd ++ leadL (chansQ x)) tw' D ++ [((PySem.Str.ofString "x"), .int x tx), ((PySem.Str.ofString "halves"), .int (halvesQ (kindQ x)) thv), ((PySem.Str.ofString "value"), .int (valueQ (kindQ x)) tv)]) nw ⟨h3, gn, dr, tk3, os⟩ s')) noE ⟨h3, gn, dr, tk3, os⟩ := by
  have _kf : (PySem.Challenge.rw_pg0230_01, K0) = (PySem.Challenge.rw_pg0230_01, K0) := by k_fill; rfl
  have e1 : (bodyX.drop 1).take 1 = [_] := rfl
  have e2 : lawBS.2 = ⟨_, _, _, _, _⟩ := rfl
  unfold lawA lawEnv
  rw [e1, e2]
  clear e1 e2
  dsimp only [rowF, List.cons_append, List.nil_append] at F3
  obtain ⟨b1, b2⟩ := halvesQ_b (kindQ x)
  obtain ⟨b3, b4⟩ := valueQ_b (kindQ x)
  have i2 := frac2_fin (halvesQ (kindQ x)) ⟨b1, b2⟩
  with_reducible refine Classical.byContradiction fun hZq => ?_
  obtain ⟨f1, f2, f3, i1⟩ := hue_ok x
  refine hZq ?_
  clear hZq
  have hcb := chansQ_b x
  have hnums := @hsv_nums x
  unfold fracF at i1 i2
  k_steps
  ((unfold Stop; (with_reducible refine for_stmt ?_ ?mzhs); (case mzhs => intro _; rfl)))
  k_steps
  all_goals first | exact absurd (i1.symm.trans (by assumption)) (by decide) | exact absurd (i2.symm.trans (by assumption)) (by decide) | skip
  unfold Stop
  rename Fr _ _ _ _ => F4
  rename News _ _ _ _ => N4
  refine wpAny_call ?_
  refine' codeAny_at (A' := lv 9) ?a1 ?a2 ?a3 ?a4 ?a5 ?_
  (case a1 => exact rfl); (case a2 => (exact Nat.le_of_ble_eq_true rfl)); (case a3 => (exact Nat.le_of_ble_eq_true rfl)); (case a4 => exact rfl); (case a5 => exact rfl)
  with_reducible refine' hsv_spec w _ _ (gd_of0 X TT F4) _ _ (valueQ (kindQ x)) _ _ _ f1 f2 f3 (by omega) ?_
  intro V h5 tk5 n5 cs K5 e1 e2 e3
  obtain ⟨F5, N5⟩ := after_one F4 N4 K5 e2 e1
  clear F4 N4
  replace hnums := hnums e3
  dsimp only
  refine m_itT (L := L) (its := cs.toArray) (RJ L wl dl pl nl l nd i pg tp ti th wd D x tx thv tv ((V, { cls := .type "tuple", data := .seq cs.toArray n5 }) :: nw)) rfl rfl _ ⟨rfl, _, rfl⟩ (rowF L wl dl pl nl l nd i pg tp ti th wd tw D ++ [((PySem.Str.ofString "x"), .int x tx), ((PySem.Str.ofString "halves"), .int (halvesQ (kindQ x)) thv), ((PySem.Str.ofString "value"), .int (valueQ (kindQ x)) tv)]) _ F5 N5 (by rintro j lo nw' ⟨_, _, rfl⟩; exact .head _) (by (first | focus ((repeat (first | exact True.intro | (refine AllAt.keep _ rfl ?_ ?_; (focus decide +kernel)) | (refine AllAt.skip _ rfl ?_ ?_; (focus decide +kernel)))); done) | ((repeat (refine And.intro ?_ ?_; (focus (first | walk_at "m_look" | rfl)))); exact True.intro))) InAll.self ⟨tw, by rw [List.take_zero, leadL, List.map_nil, List.flatten_nil, List.append_nil], rfl⟩ ?_ ?_
  · clear F5 N5
    rintro j v I h6 tk6 m6 lo nw' oI hv hPz1 F6 N6 hne
    with_reducible refine Classical.byContradiction fun hZq => ?_
    obtain ⟨tw', rfl, rfl⟩ := hPz1
    refine hZq ?_
    clear hZq
    with_reducible refine Classical.byContradiction fun hZq => ?_
    obtain ⟨n, hn, hno⟩ := hnums.get (i := j) (v := v) (by simpa using hv)
    refine hZq ?_
    clear hZq
    obtain ⟨c1, c2⟩ := hcb _ (List.mem_of_getElem? hn)
    dsimp only [rowF, List.cons_append, List.nil_append] at F6
    have hj : j < 3 := (List.getElem?_eq_some_iff.mp hn).1
    have hll : (leadL ((chansQ x).take j)).length ≤ 51 := by
      have h := leadL_len ((chansQ x).take j) fun c hc => hcb c (List.mem_of_mem_take hc)
      have : ((chansQ x).take j).length ≤ 3 := by rw [List.length_take]; exact Nat.le_trans (Nat.min_le_right _ _) (Nat.le_refl _)
      omega
    have hjn : leadL ((chansQ x).take (j + 1)) = leadL ((chansQ x).take j) ++ (List.replicate n.toNat 32 ++ [9]) := by
      rw [List.take_add_one, hn, Option.toList_some, leadL_snoc]
    have hw4 : wd ++ leadL ((chansQ x).take (j + 1)) = (wd ++ leadL ((chansQ x).take j)) ++ (List.replicate n.toNat 32 ++ [9]) := by rw [hjn, List.append_assoc]
    clear hjn
    generalize hw2 : wd ++ leadL ((chansQ x).take j) = wd2 at *
    have hw3 : wd2.length ≤ 300 := by rw [← hw2, List.length_append]; omega
    clear hll hw2
    have hmul := mul_sp18 c1 (by omega)
    have ht : PySem.Str.ofString "\t" = T [9] := by decide +kernel
    have hs1 : (T wd2).length + (Txt.mul (PySem.Str.ofString " ") n).length ≤ sizeLine := by rw [hmul, T_len, T_len, List.length_replicate, sizeLine_eq]; omega
    have hs2 : (T wd2 ++ Txt.mul (PySem.Str.ofString " ") n).length + (PySem.Str.ofString "\t").length ≤ sizeLine := by rw [hmul, ht, T_append, T_len, T_len, List.length_append, List.length_replicate, sizeLine_eq]; simp; omega
    have hs3 : T wd2 ++ Txt.mul (PySem.Str.ofString " ") n ++ PySem.Str.ofString "\t" = T (wd2 ++ (List.replicate n.toNat 32 ++ [9])) := by rw [hmul, ht, T_append, T_append, List.append_assoc]
    cases hno with
    | int n t =>
      k_steps
      all_goals first | exact absurd rfl (by assumption) | skip
      rename Fr _ _ _ _ => F8
      rename News _ _ _ _ => N8
      rw [hs3] at F8
      refine turned_next _ _ (.inl rfl) F8 N8 (by (first | focus ((repeat (first | exact True.intro | (refine AllAt.keep _ rfl ?_ ?_; (focus decide +kernel)) | (refine AllAt.skip _ rfl ?_ ?_; (focus decide +kernel)))); done) | ((repeat (refine And.intro ?_ ?_; (focus (first | walk_at "m_look" | rfl)))); exact True.intro))) InAll.self hne (RJ.intro _ _ hw4)
    | float n t =>
      with_reducible refine Classical.byContradiction fun hZq => ?_
      obtain ⟨f1, f2, f3, f4⟩ := ofInt_ok c1 c2
      refine hZq ?_
      clear hZq
      have f5 : 0 ≤ Flt.toInt Float64.truncOf (Float64.ofInt n) := by rw [f3]; exact c1
      have f6 : Flt.toInt Float64.truncOf (Float64.ofInt n) ≤ 16 := by rw [f3]; exact c2
      rw [← f3] at hs1 hs2
      generalize hbb : Float64.ofInt n = bb at *
      have f7 : (Float64.cmpInt bb (Flt.toInt Float64.truncOf bb) != some Ordering.eq) = false := by unfold bne; rw [f4]; rfl
      k_steps
      all_goals first
        | exact absurd (f1.symm.trans (by assumption)) (by decide)
        | exact absurd (f2.symm.trans (by assumption)) (by decide)
        | exact absurd (f7.symm.trans (by assumption)) (by decide)
        | skip
      rename Fr _ _ _ _ => F8
      rename News _ _ _ _ => N8
      rw [f3, hs3] at F8
      refine turned_next _ _ (.inl rfl) F8 N8 (by (first | focus ((repeat (first | exact True.intro | (refine AllAt.keep _ rfl ?_ ?_; (focus decide +kernel)) | (refine AllAt.skip _ rfl ?_ ?_; (focus decide +kernel)))); done) | ((repeat (refine And.intro ?_ ?_; (focus (first | walk_at "m_look" | rfl)))); exact True.intro))) InAll.self hne (RJ.intro _ _ hw4)
  · rintro h6 tk6 m6 lo nw' hPz1 F6 N6
    with_reducible refine Classical.byContradiction fun hZq => ?_
    obtain ⟨tw', rfl, rfl⟩ := hPz1
    refine hZq ?_
    clear hZq
    have e3 : (chansQ x).take cs.toArray.size = chansQ x := List.take_of_length_le (by rw [List.size_toArray, hnums.length]; exact Nat.le_refl _)
    rw [e3] at F6
    k_steps
    exact ⟨rfl, _, At.intro F6 N6 (by (first | focus ((repeat (first | exact True.intro | (refine AllAt.keep _ rfl ?_ ?_; (focus decide +kernel)) | (refine AllAt.skip _ rfl ?_ ?_; (focus decide +kernel)))); done) | ((repeat (refine And.intro ?_ ?_; (focus (first | walk_at "m_look" | rfl)))); exact True.intro))) InAll.self.skip⟩

end partBlP2
theorem off_BlP3 : (1 : Nat) = 1 := by
  w_top off
  first | walk1 | rfl
section partBlP3
local macro_rules | `(tactic| walk_at "subscriptTail Name UnaryOp ref int") => `(tactic| refine stop_at ?_)
noncomputable abbrev dueL (ns : List Int) : List Int := (ns.map chansQ).flatten
noncomputable def PJ (L wl dl pl nl l : Addr) (nd : Nat → Int) (i : Nat) (pg : List Nat) (tp ti th : Tok) (P : Addr) (pv : List Value) (nw0 : List (Addr × Obj)) (ns : List Int) (j : Nat) (lo : List (Str × Value)) (nw : List (Addr × Obj)) : Prop :=
  ∃ (tw : Tok) (D : Addr) (us : List Value) (dn : Nat), lo = rowF L wl dl pl nl l nd i pg tp ti th (leadL (dueL (ns.take j))) tw D ∧ nw = (D, listOf us.toArray dn) :: (P, listOf pv.toArray 0) :: nw0 ∧ IntsAre us (dueL (ns.take j))
theorem PJ.intro {L wl dl pl nl l : Addr} {nd : Nat → Int} {i : Nat} {pg : List Nat} {tp ti th : Tok} {P : Addr} {pv : List Value} {nw0 : List (Addr × Obj)} {ns : List Int} {j : Nat} (wd : List Nat) (tw : Tok) (D : Addr) (us : List Value) (dn : Nat) (h : leadL (dueL (ns.take j)) = wd) (hi : IntsAre us (dueL (ns.take j))) :
    PJ L wl dl pl nl l nd i pg tp ti th P pv nw0 ns j (rowF L wl dl pl nl l nd i pg tp ti th wd tw D) ((D, listOf us.toArray dn) :: (P, listOf pv.toArray 0) :: nw0) := ⟨tw, D, us, dn, by rw [h], rfl, hi⟩
theorem last_get (ys : List Value) (y : Value) : (ys ++ [y])[(-1 + ((ys ++ [y]).length : Int)).toNat]? = some y := by
  have : (-1 + ((ys ++ [y]).length : Int)).toNat = ys.length := by simp; omega
  rw [this]; simp
theorem dueL_snoc (ns : List Int) (x : Int) : dueL (ns ++ [x]) = dueL ns ++ chansQ x := by
  unfold dueL
  rw [List.map_append, List.flatten_append]
  simp
theorem leadL_app (a b : List Int) : leadL (a ++ b) = leadL a ++ leadL b := by
  unfold leadL
  rw [List.map_append, List.flatten_append]
theorem dueL_b (ns : List Int) : ∀ c ∈ dueL ns, 0 ≤ c ∧ c ≤ 16 := fun c hc => by
  with_reducible refine Classical.byContradiction fun hZq => ?_
  obtain ⟨l, hl, hc⟩ := List.mem_flatten.mp hc
  refine hZq ?_
  clear hZq
  with_reducible refine Classical.byContradiction fun hZq => ?_
  obtain ⟨x, _, rfl⟩ := List.mem_map.mp hl
  refine hZq ?_
  clear hZq
  exact chansQ_b x c hc
theorem dueL_len : ∀ ns : List Int, (dueL ns).length = 3 * ns.length
  | [] => rfl
  | x :: r => by
    have := dueL_len r
    unfold dueL at this ⊢
    rw [List.map_cons, List.flatten_cons, List.length_append, this, show (chansQ x).length = 3 from rfl, List.length_cons]
    omega
theorem rowC2 (w : World) (L fa : Addr) (cd : Value) (g h3 : Heap) (m3 : Str → Option Value) (gn : Array GenState) (dr : Drawn) (tk3 : Nat) (os : OsState) (nd : Nat → Int) (i : Nat) {pp : Program} {loose : List Str} {mean : ExcName → Option Value} {mg mb : Str → Option Value}
  (X : (K0 w.params).In g) (TT : Top pp loose mean mg mb g)
  (l wl dl pl nl D0 P : Addr) (tp ti th tw : Tok) (pg : List Nat) (ns : List Int) (hns : ∀ x ∈ ns, 0 ≤ x ∧ x < 1000000) (hnl : ns.length ≤ 2) (ps pv : List Value) (pn : Nat) (hpl : ps.length ≤ 3) (hpv : IntsAre pv ns) (nw : List (Addr × Obj)) (hm : (pl, listOf (ps ++ [Value.ref P]).toArray pn) ∈ nw)
  (F3 : Fr g L h3 (over (rowF L wl dl pl nl l nd i pg tp ti th [] tw D0) m3)) (N3 : News g L h3 ((D0, listOf #[] 0) :: (P, listOf pv.toArray 0) :: nw)) :
  wpAny (model prog w) (lawA L fa cd) (execs ((bodyC.drop 3).take 1) (lawEnv L fa cd)) (Next (fun s' => ∃ tw' D us dn, IntsAre us (dueL ns) ∧ At g L (rowF L wl dl pl nl l nd i pg tp ti th (leadL (dueL ns)) tw' D) ((D, listOf us.toArray dn) :: (P, listOf pv.toArray 0) :: nw) ⟨h3, gn, dr, tk3, os⟩ s')) noE ⟨h3, gn, dr, tk3, os⟩ := by
  have _kf : (PySem.Challenge.rw_pg0230_01, K0) = (PySem.Challenge.rw_pg0230_01, K0) := by k_fill; rfl
  have e1 : (bodyC.drop 3).take 1 = [.For _ _ bodyX [] _] := rfl
  have e2 : lawBS.2 = ⟨_, _, _, _, _⟩ := rfl
  unfold lawA lawEnv
  rw [e1, e2]
  clear e1 e2
  dsimp only [rowF, List.cons_append, List.nil_append] at F3
  refine wpAny_execs_cons ?_
  with_reducible refine for_stmt ?_ ?mzhs
  (case mzhs => intro _; rfl)
  k_steps
  unfold Stop
  refine kim_back (l := ps ++ [Value.ref P]) N3 (.tail _ (.tail _ hm)) rfl rfl (by decide) (by simp; omega) (by decide) (x := Value.ref P) (last_get _ _) ?_
  k_steps
  have hlenp := hpv.length
  refine it_list (L := L) (its := pv.toArray) (PJ L wl dl pl nl l nd i pg tp ti th P pv nw ns) rfl rfl (listOf pv.toArray 0) ⟨rfl, _, rfl⟩ (rowF L wl dl pl nl l nd i pg tp ti th [] tw D0) ((D0, listOf #[] 0) :: (P, listOf pv.toArray 0) :: nw) F3 N3 (.inr (by rintro j lo nw' ⟨_, _, _, _, _, rfl, _⟩; exact .tail _ (.head _))) (by (first | focus ((repeat (first | exact True.intro | (refine AllAt.keep _ rfl ?_ ?_; (focus decide +kernel)) | (refine AllAt.skip _ rfl ?_ ?_; (focus decide +kernel)))); done) | ((repeat (refine And.intro ?_ ?_; (focus (first | walk_at "m_look" | rfl)))); exact True.intro))) InAll.self (PJ.intro [] tw D0 [] 0 rfl .nil) ?_ ?_
  · clear F3 N3
    rintro j v I h4 tk4 m4 lo nw' oI hv hPz1 F4 N4 hne hcl
    with_reducible refine Classical.byContradiction fun hZq => ?_
    obtain ⟨tw4, D4, us, dn, rfl, rfl, hus⟩ := hPz1
    refine hZq ?_
    clear hZq
    with_reducible refine Classical.byContradiction fun hZq => ?_
    obtain ⟨x, tx, hx, rfl, hxm⟩ := item_int hpv (i := j) (v := v) (by simpa using hv)
    refine hZq ?_
    clear hZq
    have hxb := hns x hxm
    have hj : j < ns.length := (List.getElem?_eq_some_iff.mp hx).1
    have hnj : ns.take (j + 1) = ns.take j ++ [x] := by rw [List.take_add_one, hx, Option.toList_some]
    have hjl : (ns.take j).length ≤ 2 := by rw [List.length_take]; omega
    have hdl : (dueL (ns.take j)).length ≤ 6 := by rw [dueL_len]; omega
    have hwl : (leadL (dueL (ns.take j))).length ≤ 102 := by
      have := leadL_len _ (dueL_b (ns.take j))
      omega
    dsimp only [rowF, List.cons_append, List.nil_append] at F4
    refine assign_Name ?_
    refine m_st F4 N4 rfl rfl (by walk_at "m_put") fun h5 F5 N5 => ?_
    clear F4 N4
    refine cutN 1 (fun s' => ∃ thv tv, At g L (rowF L wl dl pl nl l nd i pg tp ti th (leadL (dueL (ns.take j))) tw4 D4 ++ [((PySem.Str.ofString "x"), .int x tx), ((PySem.Str.ofString "halves"), .int (halvesQ (kindQ x)) thv), ((PySem.Str.ofString "value"), .int (valueQ (kindQ x)) tv)]) ((I, oI) :: (D4, listOf us.toArray dn) :: (P, listOf pv.toArray 0) :: nw) ⟨h5, gn, dr, tk4 + 1, os⟩ s') ?_ ?_
    · show wpAny _ _ (execs [_] _) _ _ _
      k_steps
      unfold Stop
      refine wpAny_call ?_
      refine' codeAny_at (A' := lv 6) ?a1 ?a2 ?a3 ?a4 ?a5 ?_
      (case a1 => exact rfl); (case a2 => (exact Nat.le_of_ble_eq_true rfl)); (case a3 => (exact Nat.le_of_ble_eq_true rfl)); (case a4 => exact rfl); (case a5 => exact rfl)
      with_reducible refine' kind_spec w _ _ (gd_of0 X TT F5) x tx hxb ?_
      intro V h6 tk6 thv tv K6 e1 e2
      obtain ⟨F6, N6⟩ := after_one F5 N5 K6 e2 e1
      clear F5 N5
      k_steps
      exact ⟨rfl, thv, tv, At.intro (by assumption) (by assumption) (by (first | focus ((repeat (first | exact True.intro | (refine AllAt.keep _ rfl ?_ ?_; (focus decide +kernel)) | (refine AllAt.skip _ rfl ?_ ?_; (focus decide +kernel)))); done) | ((repeat (refine And.intro ?_ ?_; (focus (first | walk_at "m_look" | rfl)))); exact True.intro))) InAll.self.skip⟩
    · clear F5 N5
      rintro s6 hPz1
      with_reducible refine Classical.byContradiction fun hZq => ?_
      obtain ⟨thv, tv, h6, tk6, m6, rfl, F6, N6⟩ := hPz1
      refine hZq ?_
      clear hZq
      refine cutN 1 _ (rowC2a w L fa cd g h6 m6 gn dr tk6 os nd i X TT l wl dl pl nl D4 tp ti th tw4 tx thv tv pg _ x hxb (by omega) _ F6 N6) ?_
      clear F6 N6
      rintro s7 hPz1
      with_reducible refine Classical.byContradiction fun hZq => ?_
      obtain ⟨tw7, h7, tk7, m7, rfl, F7, N7⟩ := hPz1
      refine hZq ?_
      clear hZq
      show wpAny _ _ (execs [_] _) _ _ _
      dsimp only [rowF, List.cons_append, List.nil_append] at F7
      k_steps
      unfold Stop
      refine wpAny_call ?_
      refine' codeAny_at (A' := lv 9) ?a1 ?a2 ?a3 ?a4 ?a5 ?_
      (case a1 => exact rfl); (case a2 => (exact Nat.le_of_ble_eq_true rfl)); (case a3 => (exact Nat.le_of_ble_eq_true rfl)); (case a4 => exact rfl); (case a5 => exact rfl)
      with_reducible refine' channels_spec w _ _ (gd_of0 X TT F7) x tx hxb ?_
      intro lc h8 tk8 nc cs K8 e1 e2 e3
      obtain ⟨F8, N8⟩ := after_one F7 N7 K8 e2 e1
      clear F7 N7
      k_steps
      unfold Stop
      refine kmk_add_ints F8 N8 ⟨_, N8.get (.tail _ (.tail _ (.head _))), rfl, _, rfl⟩ ⟨_, N8.get (.head _), rfl, _, rfl⟩ hus e3 ?_ (by rw [sizeLine_eq, show (chansQ x).length = 3 from rfl]; omega)
      intro D9 us9 h9 F9 N9 l9 hus9
      clear F8 N8
      k_steps
      rename Fr _ _ _ _ => FZ
      rename News _ _ _ _ => NZ
      have hd : dueL (ns.take (j + 1)) = dueL (ns.take j) ++ chansQ x := by rw [hnj, dueL_snoc]
      exact turned_next _ ((D9, listOf us9.toArray 0) :: (P, listOf pv.toArray 0) :: nw) (.inl rfl) FZ NZ (by (first | focus ((repeat (first | exact True.intro | (refine AllAt.keep _ rfl ?_ ?_; (focus decide +kernel)) | (refine AllAt.skip _ rfl ?_ ?_; (focus decide +kernel)))); done) | ((repeat (refine And.intro ?_ ?_; (focus (first | walk_at "m_look" | rfl)))); exact True.intro))) ⟨.tail _ (.tail _ (.head _)), .head _, .tail _ (.tail _ (.tail _ (.tail _ (.head _)))), inAll_of fun p hp => .tail _ (.tail _ (.tail _ (.tail _ (.tail _ hp))))⟩ ⟨Nat.ne_of_gt (l9 (I, oI) (.tail _ (.head _))), hne.2⟩ (PJ.intro _ _ D9 us9 0 (by rw [hd, leadL_app]) (by rw [hd]; exact hus9))
  · rintro h4 tk4 m4 lo nw' hPz1 F4 N4
    with_reducible refine Classical.byContradiction fun hZq => ?_
    obtain ⟨tw4, D4, us, dn, rfl, rfl, hus⟩ := hPz1
    refine hZq ?_
    clear hZq
    have e3 : ns.take pv.toArray.size = ns := List.take_of_length_le (by rw [List.size_toArray, hlenp]; exact Nat.le_refl _)
    rw [e3] at F4 hus
    k_steps
    exact ⟨rfl, tw4, D4, us, dn, hus, At.intro F4 N4 (by (first | focus ((repeat (first | exact True.intro | (refine AllAt.keep _ rfl ?_ ?_; (focus decide +kernel)) | (refine AllAt.skip _ rfl ?_ ?_; (focus decide +kernel)))); done) | ((repeat (refine And.intro ?_ ?_; (focus (first | walk_at "m_look" | rfl)))); exact True.intro))) InAll.self⟩

end partBlP3
theorem off_BlP4 : (1 : Nat) = 1 := by
  w_top off
  first | walk1 | rfl
section partBlP4
local macro_rules | `(tactic| walk_at "call builtin:list.append") => `(tactic| refine stop_at ?_)
local macro_rules | `(tactic| k_all) => `(tactic| with_reducible assumption)
theorem behind_b (nd : Nat → Int) (i : Nat) : 0 ≤ behindP nd i ∧ behindP nd i ≤ 18 := by
  unfold behindP
  rw [Int.fmod_eq_emod_of_nonneg _ (by decide)]
  omega
/-- behind, dues.append -/
theorem rowC3a (w : World) (L fa : Addr) (cd : Value) (g h3 : Heap) (m3 : Str → Option Value) (gn : Array GenState) (dr : Drawn) (tk3 : Nat) (os : OsState) (nd : Nat → Int) (i : Nat) {pp : Program} {loose : List Str} {mean : ExcName → Option Value} {mg mb : Str → Option Value}
  (X : (K0 w.params).In g) (TT : Top pp loose mean mg mb g)
  (l wl dl pl nl D : Addr) (tp ti th tw : Tok) (pg wd : List Nat) (rs : List Int) (hrs : rs.length ≤ 6) (us ds : List Value) (un dn : Nat) (hus : IntsAre us rs) (hds : ds.length ≤ 3) (nw : List (Addr × Obj)) (hoff : ∀ p ∈ nw, p.1 ≠ dl)
  (F3 : Fr g L h3 (over (rowF L wl dl pl nl l nd i pg tp ti th wd tw D) m3)) (N3 : News g L h3 ((D, listOf us.toArray un) :: (dl, listOf ds.toArray dn) :: nw)) :
  wpAny (model prog w) (lawA L fa cd) (execs ((bodyC.drop 4).take 2) (lawEnv L fa cd)) (Next (fun s' => ∃ E ev tb, IntsAre ev (rs ++ [behindP nd i]) ∧ (∀ p ∈ (dl, listOf ds.toArray dn) :: nw, p.1 < E) ∧
    At g L (rowF L wl dl pl nl l nd i pg tp ti th wd tw D ++ [((PySem.Str.ofString "behind"), .int (behindP nd i) tb)]) ((E, listOf ev.toArray 0) :: (dl, listOf (ds ++ [Value.ref E]).toArray (dn + 1)) :: nw) ⟨h3, gn, dr, tk3, os⟩ s')) noE ⟨h3, gn, dr, tk3, os⟩ := by
  have _kf : (PySem.Challenge.rw_pg0230_01, K0) = (PySem.Challenge.rw_pg0230_01, K0) := by k_fill; rfl
  have e1 : (bodyC.drop 4).take 2 = [_, _] := rfl
  have e2 : lawBS.2 = ⟨_, _, _, _, _⟩ := rfl
  unfold lawA lawEnv
  rw [e1, e2]
  clear e1 e2
  dsimp only [rowF, List.cons_append, List.nil_append] at F3
  have hb : Int.fmod (Int.fdiv (headQ nd i) 3) 7 * 3 = behindP nd i := rfl
  have hm7 : 0 ≤ Int.fmod (Int.fdiv (headQ nd i) 3) 7 ∧ Int.fmod (Int.fdiv (headQ nd i) 3) 7 < 7 := ⟨Int.fmod_nonneg_of_pos _ (by decide), Int.fmod_lt_of_pos _ (by decide)⟩
  k_steps
  unfold Stop
  rename Fr _ _ _ _ => F5
  rename News _ _ _ _ => N5
  rw [hb] at F5 N5
  refine kmk_add_ints F5 N5 ⟨_, N5.get (.tail _ (.head _)), rfl, _, rfl⟩ ⟨_, N5.get (.head _), rfl, _, rfl⟩ hus (.cons _ _ .nil) ?_ (by rw [sizeLine_eq, List.length_singleton]; omega)
  intro E ev h6 F6 N6 lE hev
  have N7 : News g L _ ((E, listOf ev.toArray 0) :: (dl, listOf ds.toArray dn) :: nw) := fun p hp => N6 p (by
    rcases List.mem_cons.mp hp with rfl | hp
    · exact .head _
    · exact .tail _ (.tail _ (.tail _ hp)))
  have hE : ∀ p ∈ (dl, listOf ds.toArray dn) :: nw, p.1 < E := fun p hp => lE p (.tail _ (.tail _ hp))
  have hEd : Nq E dl := Nat.ne_of_gt (hE (dl, listOf ds.toArray dn) (.head _))
  clear F5 N5 N6 lE
  k_steps
  unfold Stop
  refine append_K (s := ⟨_, _, _, _, _⟩) F6 N7 (.tail hEd.l (.head hoff)) ?_ (by rw [sizeLine_eq, List.size_toArray]; omega)
  intro h8 F8 N8
  clear F6 N7
  k_steps
  rw [List.push_toArray] at N8
  exact ⟨rfl, E, ev, _, hev, hE, At.intro F8 N8 (by (first | focus ((repeat (first | exact True.intro | (refine AllAt.keep _ rfl ?_ ?_; (focus decide +kernel)) | (refine AllAt.skip _ rfl ?_ ?_; (focus decide +kernel)))); done) | ((repeat (refine And.intro ?_ ?_; (focus (first | walk_at "m_look" | rfl)))); exact True.intro))) InAll.self⟩

end partBlP4
theorem off_BlP5 : (1 : Nat) = 1 := by
  w_top off
  first | walk1 | rfl
section partBlP5
local macro_rules | `(tactic| walk_at "call builtin:list.append") => `(tactic| refine stop_at ?_)
theorem endL_len (k : Int) : (endL k).length ≤ 3 := by
  unfold endL
  split
  · simp
  split
  · simp
  split <;> simp
/-- words.append -/
theorem rowC3b (w : World) (L fa : Addr) (cd : Value) (g h3 : Heap) (m3 : Str → Option Value) (gn : Array GenState) (dr : Drawn) (tk3 : Nat) (os : OsState) (nd : Nat → Int) (i : Nat) {pp : Program} {loose : List Str} {mean : ExcName → Option Value} {mg mb : Str → Option Value}
  (X : (K0 w.params).In g) (TT : Top pp loose mean mg mb g)
  (l wl dl pl nl D : Addr) (tp ti th tw tb : Tok) (pg wd : List Nat) (hwd : wd.length ≤ 200) (ws : List Value) (wn : Nat) (hws : ws.length ≤ 3) (nw : List (Addr × Obj)) (hoff : ∀ p ∈ nw, p.1 ≠ wl)
  (F3 : Fr g L h3 (over (rowF L wl dl pl nl l nd i pg tp ti th wd tw D ++ [((PySem.Str.ofString "behind"), .int (behindP nd i) tb)]) m3)) (N3 : News g L h3 ((wl, listOf ws.toArray wn) :: nw)) :
  wpAny (model prog w) (lawA L fa cd) (execs ((bodyC.drop 6).take 1) (lawEnv L fa cd)) (Next (fun s' => ∃ t1,
    At g L (rowF L wl dl pl nl l nd i pg tp ti th wd tw D ++ [((PySem.Str.ofString "behind"), .int (behindP nd i) tb)]) ((wl, listOf (ws ++ [Value.str (T (wd ++ (List.replicate (behindP nd i).toNat 32 ++ endL (endK nd i)))) t1]).toArray (wn + 1)) :: nw) ⟨h3, gn, dr, tk3, os⟩ s')) noE ⟨h3, gn, dr, tk3, os⟩ := by
  have _kf : (PySem.Challenge.rw_pg0230_01, K0) = (PySem.Challenge.rw_pg0230_01, K0) := by k_fill; rfl
  have e1 : (bodyC.drop 6).take 1 = [_] := rfl
  have e2 : lawBS.2 = ⟨_, _, _, _, _⟩ := rfl
  unfold lawA lawEnv
  rw [e1, e2]
  clear e1 e2
  dsimp only [rowF, List.cons_append, List.nil_append] at F3
  obtain ⟨b1, b2⟩ := behind_b nd i
  have hmul := mul_sp18 b1 b2
  have hk : 0 ≤ endK nd i ∧ endK nd i < 4 := ⟨Int.fmod_nonneg_of_pos _ (by decide), Int.fmod_lt_of_pos _ (by decide)⟩
  have hkd : Int.fmod (Int.fdiv (headQ nd i) 21) 4 = endK nd i := rfl
  have hel := endL_len (endK nd i)
  have hg0 : PySem.Str.ofString "" = T [] := by decide +kernel
  have hg1 : PySem.Str.ofString "#" = T [35] := by decide +kernel
  have hg2 : PySem.Str.ofString "\"\n" = T [34, 10] := by decide +kernel
  have hg3 : PySem.Str.ofString "\\ \t" = T [92, 32, 9] := by decide +kernel
  have hgv : ∀ t1 t2 t3 t4 : Tok, ∃ tx, [Value.str (PySem.Str.ofString "") t1, .str (PySem.Str.ofString "#") t2, .str (PySem.Str.ofString "\"\n") t3, .str (PySem.Str.ofString "\\ \t") t4][(endK nd i).toNat]? = some (.str (T (endL (endK nd i))) tx) := by
    intro t1 t2 t3 t4
    rw [hg0, hg1, hg2, hg3]
    have hc := four_int (k := endK nd i) (by omega) (by omega)
    rcases hc with h | h | h | h <;> rw [h] <;> exact ⟨_, rfl⟩
  have hs1 : (T wd).length + (Txt.mul (PySem.Str.ofString " ") (behindP nd i)).length ≤ sizeLine := by rw [hmul, T_len, T_len, List.length_replicate, sizeLine_eq]; omega
  have hs2 : (T wd ++ Txt.mul (PySem.Str.ofString " ") (behindP nd i)).length + (T (endL (endK nd i))).length ≤ sizeLine := by rw [hmul, T_append, T_len, T_len, List.length_append, List.length_replicate, sizeLine_eq]; omega
  have hs3 : T wd ++ Txt.mul (PySem.Str.ofString " ") (behindP nd i) ++ T (endL (endK nd i)) = T (wd ++ (List.replicate (behindP nd i).toNat 32 ++ endL (endK nd i))) := by rw [hmul, T_append, T_append, List.append_assoc]
  k_steps
  unfold Stop
  rename News _ _ _ _ => N6
  rw [hkd]
  refine kba_turn (value' := PySem.Expr.Name (PySem.Str.ofString "_") ⟨0, 0, 0, 0⟩) (fun _ => rfl) ?_
  refine kim_list (l := [_, _, _, _]) N6 (.head _) rfl rfl (by omega) (by simp; omega) (hgv _ _ _ _).choose_spec ?_
  k_steps
  unfold Stop
  rename Fr _ _ _ _ => F7
  rename News _ _ _ _ => N7
  rw [hs3]
  refine append_K (s := ⟨_, _, _, _, _⟩) F7 (fun p hp => N7 p (.tail _ hp)) (.head hoff) ?_ (by rw [sizeLine_eq, List.size_toArray]; omega)
  intro h8 F8 N8
  clear F7 N7
  k_steps
  rw [List.push_toArray] at N8
  exact ⟨rfl, _, At.intro F8 N8 (by (first | focus ((repeat (first | exact True.intro | (refine AllAt.keep _ rfl ?_ ?_; (focus decide +kernel)) | (refine AllAt.skip _ rfl ?_ ?_; (focus decide +kernel)))); done) | ((repeat (refine And.intro ?_ ?_; (focus (first | walk_at "m_look" | rfl)))); exact True.intro))) InAll.self⟩

end partBlP5
theorem off_BlP6 : (1 : Nat) = 1 := by
  w_top off
  first | walk1 | rfl
section partBlP6
local macro_rules | `(tactic| walk_at "call builtin:list.append") => `(tactic| refine stop_at ?_)
local macro_rules | `(tactic| walk_at "subscriptTail Name UnaryOp ref int") => `(tactic| refine stop_at ?_)
theorem cnt_nlc : ∀ l : List Nat, PyProof.Rows.cnt 10 l = nlc l
  | [] => rfl
  | c :: r => by
    rw [nlc_cons, PyProof.Rows.cnt_cons, cnt_nlc r]
    split <;> omega
theorem count_nl (l : List Nat) : Txt.count (T l) (PySem.Str.ofString "\n") = nlc l := by
  have e : PySem.Str.ofString "\n" = ⟨#[10]⟩ := by decide +kernel
  rw [e, count_cnt, T_cps, List.toList_toArray, cnt_nlc]
theorem takenL_len (wd : List Nat) (way : Int) : (takenL wd way).length ≤ 2 * wd.length + 3 := by
  have h := escW_len way wd
  unfold takenL
  split
  · rw [List.length_cons, List.length_append, List.length_singleton]; omega
  · rw [List.length_append, List.length_take]; omega
theorem leftL_len (wd : List Nat) (way : Int) : (leftL wd way).length ≤ 4 := by
  have h := gapL_len way
  unfold leftL
  split
  · exact h
  · rw [List.length_drop]; omega
/-- taken, gap, lines.append, page -/
theorem rowC3c (w : World) (L fa : Addr) (cd : Value) (g h3 : Heap) (m3 : Str → Option Value) (gn : Array GenState) (dr : Drawn) (tk3 : Nat) (os : OsState) (nd : Nat → Int) (i : Nat) {pp : Program} {loose : List Str} {mean : ExcName → Option Value} {mg mb : Str → Option Value}
  (X : (K0 w.params).In g) (TT : Top pp loose mean mg mb g)
  (l wl dl pl nl D : Addr) (tp ti th tw tb t1 : Tok) (pg wd wx : List Nat) (hwd : wd.length ≤ 200) (hpg : pg.length ≤ 2000) (ws ls : List Value) (wn ln : Nat) (hws : ws.length ≤ 3) (hls : ls.length ≤ 3) (nw : List (Addr × Obj)) (hoff : ∀ p ∈ nw, p.1 ≠ nl) (hm : (wl, listOf (ws ++ [Value.str (T wd) t1]).toArray wn) ∈ nw)
  (F3 : Fr g L h3 (over (rowF L wl dl pl nl l nd i pg tp ti th wx tw D ++ [((PySem.Str.ofString "behind"), .int (behindP nd i) tb)]) m3)) (N3 : News g L h3 ((nl, listOf ls.toArray ln) :: nw)) :
  wpAny (model prog w) (lawA L fa cd) (execs (bodyC.drop 7) (lawEnv L fa cd)) (Next (fun s' => ∃ tp' t2,
    At g L (pgF L wl dl pl nl l nd (pg ++ (takenL wd (wayP nd i) ++ leftL wd (wayP nd i))) tp') ((nl, listOf (ls ++ [Value.int (1 + nlc (pg ++ takenL wd (wayP nd i))) t2]).toArray (ln + 1)) :: nw) ⟨h3, gn, dr, tk3, os⟩ s')) noE ⟨h3, gn, dr, tk3, os⟩ := by
  have _kf : (PySem.Challenge.rw_pg0230_01, K0) = (PySem.Challenge.rw_pg0230_01, K0) := by k_fill; rfl
  have e1 : bodyC.drop 7 = [_, _, _] := rfl
  have e2 : lawBS.2 = ⟨_, _, _, _, _⟩ := rfl
  unfold lawA lawEnv
  rw [e1, e2]
  clear e1 e2
  dsimp only [rowF, List.cons_append, List.nil_append] at F3
  have hwy : 0 ≤ wayP nd i ∧ wayP nd i < 4 := ⟨Int.fmod_nonneg_of_pos _ (by decide), Int.fmod_lt_of_pos _ (by decide)⟩
  have hwyd : Int.fmod (Int.fdiv (headQ nd i) 84) 4 = wayP nd i := rfl
  have htl := takenL_len wd (wayP nd i)
  have hll := leftL_len wd (wayP nd i)
  k_steps
  unfold Stop
  refine kim_back (l := ws ++ [Value.str (T wd) t1]) N3 (.tail _ hm) rfl rfl (by decide) (by simp; omega) (by decide) (x := Value.str (T wd) t1) (last_get _ _) ?_
  k_steps
  unfold Stop
  rw [hwyd]
  refine wpAny_call ?_
  refine' codeAny_at (A' := lv 9) ?a1 ?a2 ?a3 ?a4 ?a5 ?_
  (case a1 => exact rfl); (case a2 => (exact Nat.le_of_ble_eq_true rfl)); (case a3 => (exact Nat.le_of_ble_eq_true rfl)); (case a4 => exact rfl); (case a5 => exact rfl)
  rename Fr _ _ _ _ => F4
  rename News _ _ _ _ => N4
  with_reducible refine' written_spec w _ _ (gd_of0 X TT F4) wd t1 (wayP nd i) _ hwd hwy.1 hwy.2 ?_
  intro V h5 tk5 ta tb5 K5 e1 e2
  obtain ⟨F5, N5⟩ := after_one F4 N4 K5 e2 e1
  clear F4 N4
  generalize takenL wd (wayP nd i) = tkn at *
  generalize leftL wd (wayP nd i) = lft at *
  have s1 : (T pg).length + (T tkn).length ≤ sizeLine := by rw [T_len, T_len, sizeLine_eq]; omega
  have s2 : (T pg ++ T tkn).length + (T lft).length ≤ sizeLine := by rw [T_append, T_len, T_len, List.length_append, sizeLine_eq]; omega
  k_steps
  unfold Stop
  rename Fr _ _ _ _ => F7
  rename News _ _ _ _ => N7
  have hct : Txt.count (T pg ++ T tkn) (PySem.Str.ofString "\n") = nlc (pg ++ tkn) := by rw [T_append, count_nl]
  rw [hct]
  refine append_K (s := ⟨_, _, _, _, _⟩) F7 (fun p hp => N7 p (.tail _ hp)) (.head hoff) ?_ (by rw [sizeLine_eq, List.size_toArray]; omega)
  intro h8 F8 N8
  clear F7 N7
  have s3 : T pg ++ T tkn ++ T lft = T (pg ++ (tkn ++ lft)) := by rw [T_append, T_append, List.append_assoc]
  k_steps
  rename Fr _ _ _ _ => F9
  rename News _ _ _ _ => N9
  rw [s3] at F9
  rw [List.push_toArray] at N9
  exact ⟨rfl, _, _, At.intro F9 N9 (by (first | focus ((repeat (first | exact True.intro | (refine AllAt.keep _ rfl ?_ ?_; (focus decide +kernel)) | (refine AllAt.skip _ rfl ?_ ?_; (focus decide +kernel)))); done) | ((repeat (refine And.intro ?_ ?_; (focus (first | walk_at "m_look" | rfl)))); exact True.intro))) InAll.self⟩

end partBlP6
theorem off_BlP7 : (1 : Nat) = 1 := by
  w_top off
  first | walk1 | rfl
section partBlP7
theorem strsAre_snoc {x : Str} {t : Tok} : ∀ {vs : List Value} {ns : List Str}, StrsAre vs ns → StrsAre (vs ++ [.str x t]) (ns ++ [x]) := by
  intro vs ns h
  induction h with
  | nil => exact .cons _ _ .nil
  | cons _ _ _ ih => exact .cons _ _ ih
theorem pts_b {nd : Nat → Int} (hnd : ∀ i, 0 ≤ nd i ∧ nd i < 1000000) (i : Nat) : (∀ x ∈ ptsP nd i, 0 ≤ x ∧ x < 1000000) ∧ (ptsP nd i).length ≤ 2 := by
  unfold ptsP
  refine ⟨fun x hx => ?_, by rw [List.length_take]; exact Nat.le_trans (Nat.min_le_right _ _) (Nat.le_refl _)⟩
  have h := List.mem_of_mem_take hx
  simp only [List.mem_cons, List.not_mem_nil, or_false] at h
  rcases h with rfl | rfl <;> exact hnd _
theorem lead_len (nd : Nat → Int) (i : Nat) (hl : (ptsP nd i).length ≤ 2) : (leadL (dueL (ptsP nd i))).length ≤ 102 ∧ (dueL (ptsP nd i)).length ≤ 6 := by
  have h1 := leadL_len _ (dueL_b (ptsP nd i))
  have h2 := dueL_len (ptsP nd i)
  omega
theorem word_len (nd : Nat → Int) (i : Nat) (hl : (ptsP nd i).length ≤ 2) : (wordP nd i).length ≤ 123 := by
  obtain ⟨h1, _⟩ := lead_len nd i hl
  obtain ⟨h2, h3⟩ := behind_b nd i
  have h4 := endL_len (endK nd i)
  unfold wordP
  rw [List.length_append, List.length_append, List.length_replicate]
  have : leadL (runsP nd i) = leadL (dueL (ptsP nd i)) := rfl
  rw [this]
  omega
theorem page_len (nd : Nat → Int) (hl : ∀ i, (ptsP nd i).length ≤ 2) : ∀ i : Nat, (pageP nd i).length ≤ 260 * i
  | 0 => Nat.le_refl _
  | i + 1 => by
    have h1 := page_len nd hl i
    have h2 := word_len nd i (hl i)
    have h3 := takenL_len (wordP nd i) (wayP nd i)
    have h4 := leftL_len (wordP nd i) (wayP nd i)
    rw [page_succ, List.length_append, List.length_append]
    have e1 : takenP nd i = takenL (wordP nd i) (wayP nd i) := rfl
    have e2 : leftP nd i = leftL (wordP nd i) (wayP nd i) := rfl
    rw [e1, e2]
    omega
noncomputable abbrev JCb (L wl dl pl nl l : Addr) (od o1 o2 o3 : Obj) (nd : Nat → Int) (i : Nat) (lo : List (Str × Value)) (nw : List (Addr × Obj)) (tp : Tok) (ws ds ps ls : List Value) (wn dn pn ln : Nat) (tl : List (Addr × Obj)) : Prop :=
  lo = pgF L wl dl pl nl l nd (pageP nd i) tp ∧ nw = pgN L wl dl pl nl l (listOf ws.toArray wn) (listOf ds.toArray dn) (listOf ps.toArray pn) (listOf ls.toArray ln) od o1 o2 o3 tl ∧
    StrsAre ws ((List.range i).map fun r => T (wordP nd r)) ∧ RefsI tl ds ((List.range i).map (dueP nd)) ∧ RefsI tl ps ((List.range i).map (ptsP nd)) ∧ IntsAre ls ((List.range i).map (lineP nd)) ∧ OffL (fxA L wl dl pl nl) tl
/-- the loop that writes the page, ahead of turn i -/
noncomputable def JC (L wl dl pl nl l : Addr) (od o1 o2 o3 : Obj) (nd : Nat → Int) (i : Nat) (lo : List (Str × Value)) (nw : List (Addr × Obj)) : Prop :=
  ∃ (tp : Tok) (ws ds ps ls : List Value) (wn dn pn ln : Nat) (tl : List (Addr × Obj)), JCb L wl dl pl nl l od o1 o2 o3 nd i lo nw tp ws ds ps ls wn dn pn ln tl
theorem JC.intro {L wl dl pl nl l : Addr} {od o1 o2 o3 : Obj} {nd : Nat → Int} {i : Nat} {lo : List (Str × Value)} {nw : List (Addr × Obj)} {tp : Tok} {ws ds ps ls : List Value} {wn dn pn ln : Nat} {tl : List (Addr × Obj)} (h : JCb L wl dl pl nl l od o1 o2 o3 nd i lo nw tp ws ds ps ls wn dn pn ln tl) : JC L wl dl pl nl l od o1 o2 o3 nd i lo nw :=
  ⟨tp, ws, ds, ps, ls, wn, dn, pn, ln, tl, h⟩
theorem all_c {a : Addr} {p : Addr × Obj} {r : List (Addr × Obj)} (h : Nq p.1 a) (h2 : ∀ q ∈ r, q.1 ≠ a) : ∀ q ∈ p :: r, q.1 ≠ a := List.forall_mem_cons.mpr ⟨h, h2⟩
theorem nq_sym {a b : Nat} (h : Nq a b) : Nq b a := Ne.symm h
/-- the page -/
theorem blkC (w : World) (L fa : Addr) (cd : Value) (g h0 : Heap) (m0 : Str → Option Value) (gn : Array GenState) (dr : Drawn) (tk : Nat) (os : OsState) (l wl dl pl nl : Addr) (vs : List Value) (n : Nat) (nd : Nat → Int) (tp0 : Tok) (o1 o2 o3 : Obj) {pp : Program} {loose : List Str} {mean : ExcName → Option Value} {mg mb : Str → Option Value}
  (X : (K0 w.params).In g) (TT : Top pp loose mean mg mb g) (l145 : (145 : Nat) < L) (hnd : ∀ i, 0 ≤ nd i ∧ nd i < 1000000) (hvl : vs.length = 9) (hv : ∀ i, i < 9 → ∃ t, vs[i]? = some (.int (nd i) t)) (hap : pgA L wl dl pl nl l)
  (F0 : Fr g L h0 (over (pgF L wl dl pl nl l nd [] tp0) m0)) (N0 : News g L h0 (pgN L wl dl pl nl l (listOf #[] 0) (listOf #[] 0) (listOf #[] 0) (listOf #[] 0) (listOf vs.toArray n) o1 o2 o3 [])) :
  wpAny (model prog w) (lawA L fa cd) (execs ((lawBS.1.drop 2).take 1) (lawEnv L fa cd)) (Next (fun s' => ∃ lo nw, JC L wl dl pl nl l (listOf vs.toArray n) o1 o2 o3 nd 3 lo nw ∧ At g L lo nw ⟨h0, gn, dr, tk, os⟩ s')) noE ⟨h0, gn, dr, tk, os⟩ := by
  have _kf : (PySem.Challenge.rw_pg0230_01, K0) = (PySem.Challenge.rw_pg0230_01, K0) := by k_fill; rfl
  have e1 : (lawBS.1.drop 2).take 1 = [.For _ _ bodyC [] _] := rfl
  have e2 : lawBS.2 = ⟨_, _, _, _, _⟩ := rfl
  unfold lawA lawEnv
  rw [e1, e2]
  clear e1 e2
  dsimp only [pgN, cellsL, List.cons_append, List.nil_append] at N0
  refine wpAny_execs_cons ?_
  with_reducible refine for_stmt ?_ ?mzhs
  (case mzhs => intro _; rfl)
  k_steps
  rename IsRange _ _ _ _ _ _ _ _ => hr
  rename Fr _ _ _ _ => F1
  rename News _ _ _ _ => N1
  refine it_rangeC (n := 3) (JC L wl dl pl nl l (listOf vs.toArray n) o1 o2 o3 nd) rfl (L := L) rfl hr (by decide) rfl (pgF L wl dl pl nl l nd [] tp0) (pgN L wl dl pl nl l (listOf #[] 0) (listOf #[] 0) (listOf #[] 0) (listOf #[] 0) (listOf vs.toArray n) o1 o2 o3 []) F1 N1 (by (first | focus ((repeat (first | exact True.intro | (refine AllAt.keep _ rfl ?_ ?_; (focus decide +kernel)) | (refine AllAt.skip _ rfl ?_ ?_; (focus decide +kernel)))); done) | ((repeat (refine And.intro ?_ ?_; (focus (first | walk_at "m_look" | rfl)))); exact True.intro))) (by (((try dsimp only [pgN, cellsL, List.cons_append, List.nil_append]); (first | focus ((repeat (first | exact True.intro | with_reducible exact InAll.self | with_reducible refine InAll.keep ?_ | with_reducible refine InAll.skip ?_)); done) | ((repeat (refine And.intro (by k_mem) ?_)); exact True.intro))))) (JC.intro (ws := []) (ds := []) (ps := []) (ls := []) ⟨rfl, rfl, .nil, RefsI.nil, RefsI.nil, .nil, OffL.nil⟩) ?_ ?_
  · clear F1 N1
    rintro i ti I h3 tk3 m3 lo nw oI hi hPz1 F3 N3 hne hcl
    with_reducible refine Classical.byContradiction fun hZq => ?_
    obtain ⟨tp, ws, ds, ps, ls, wn, dn, pn, ln, tl, rfl, rfl, hws, hds, hps, hls, hoff⟩ := hPz1
    refine hZq ?_
    clear hZq
    obtain ⟨hns, hnl⟩ := pts_b hnd i
    obtain ⟨hl1, hl2⟩ := lead_len nd i hnl
    have hwl9 := word_len nd i hnl
    have hpg := page_len nd (fun j => (pts_b hnd j).2) i
    have kws := hws.length
    have kds := hds.1
    have kps := hps.1
    have kls := hls.length
    rw [List.length_map, List.length_range] at kws kds kps kls
    with_reducible refine Classical.byContradiction fun hZq => ?_
    obtain ⟨I1, I2, I3, I4, I5, I6, I7, I8, I9, _⟩ := AllNq.of hne
    refine hZq ?_
    clear hZq
    refine assign_Name ?_
    refine m_st F3 N3 rfl rfl (by walk_at "m_put") fun h4 F4 N4 => ?_
    clear F3 N3
    with_reducible refine Classical.byContradiction fun hZq => ?_
    obtain ⟨a1, a2, a3, a4, a5, a6, a7, a8, a9, a10, ⟨b1, b2, b3, b4, _⟩, ⟨b5, b6, b7, b8, _⟩, ⟨b9, b10, b11, b12, _⟩, ⟨b13, b14, b15, b16, _⟩⟩ := id hap
    refine hZq ?_
    clear hZq
    with_reducible refine Classical.byContradiction fun hZq => ?_
    obtain ⟨ow, od, op, on, oc3, oc2, oc1, o145, _⟩ := id hoff
    refine hZq ?_
    clear hZq
    refine cutN 3 _ (rowC1 w L fa cd g h4 m3 gn dr _ os l vs n nd i X TT l145 hnd hvl hv hi I wl dl pl nl oI _ _ _ o1 o2 o3 ps pn (by omega) tp ti (pageP nd i) tl hap (nq_sym (nq_sym I3)) op F4 N4) ?_
    clear F4 N4
    rintro s5 hPz1
    with_reducible refine Classical.byContradiction fun hZq => ?_
    obtain ⟨P, D0, pv, th, tw, hpv, qP, qD, h5, tk5, m5, rfl, F5, N5⟩ := hPz1
    refine hZq ?_
    clear hZq
    with_reducible refine Classical.byContradiction fun hZq => ?_
    obtain ⟨p0, p1, p2, p3, p4, p5, p6, p7, p8, p9, p10, _⟩ := qP
    refine hZq ?_
    clear hZq
    clear qD
    have hpv' := hpv
    refine cutN 1 _ (rowC2 w L fa cd g h5 m5 gn dr tk5 os nd i X TT l wl dl pl nl D0 P tp ti th tw (pageP nd i) (ptsP nd i) hns hnl ps pv (pn + 1) (by omega) hpv ((I, oI) :: (wl, listOf ws.toArray wn) :: (dl, listOf ds.toArray dn) :: (pl, listOf (ps ++ [Value.ref P]).toArray (pn + 1)) :: (nl, listOf ls.toArray ln) :: (l, listOf vs.toArray n) :: (L + 1 + 1 + 1, o3) :: (L + 1 + 1, o2) :: (L + 1, o1) :: (145, tabObj #[]) :: tl) (.tail _ (.tail _ (.tail _ (.head _)))) F5 ?_) ?_
    · rw [← List.push_toArray]
      exact fun p hp => N5 p (by
        rcases List.mem_cons.mp hp with rfl | hp
        · exact .tail _ (.head _)
        rcases List.mem_cons.mp hp with rfl | hp
        · exact .head _
        exact .tail _ (.tail _ hp))
    clear F5 N5
    rintro s6 hPz1
    with_reducible refine Classical.byContradiction fun hZq => ?_
    obtain ⟨tw6, D6, us, dn6, hus, h6, tk6, m6, rfl, F6, N6⟩ := hPz1
    refine hZq ?_
    clear hZq
    refine cutN 2 _ (rowC3a w L fa cd g h6 m6 gn dr tk6 os nd i X TT l wl dl pl nl D6 tp ti th tw6 (pageP nd i) (leadL (dueL (ptsP nd i))) (dueL (ptsP nd i)) hl2 us ds dn6 dn hus (by omega) ((P, listOf pv.toArray 0) :: (I, oI) :: (wl, listOf ws.toArray wn) :: (pl, listOf (ps ++ [Value.ref P]).toArray (pn + 1)) :: (nl, listOf ls.toArray ln) :: (l, listOf vs.toArray n) :: (L + 1 + 1 + 1, o3) :: (L + 1 + 1, o2) :: (L + 1, o1) :: (145, tabObj #[]) :: tl) (all_c (nq_sym p3) (all_c (nq_sym I2) (all_c (a1) (all_c (nq_sym a5) (all_c (nq_sym a6) (all_c (nq_sym a7) (all_c (b5) (all_c (b6) (all_c (b7) (all_c (b8) (od))))))))))) F6 ?_) ?_
    · exact fun p hp => N6 p (by
        rcases List.mem_cons.mp hp with rfl | hp
        · exact .head _
        rcases List.mem_cons.mp hp with rfl | hp
        · exact .tail _ (.tail _ (.tail _ (.tail _ (.head _))))
        rcases List.mem_cons.mp hp with rfl | hp
        · exact .tail _ (.head _)
        rcases List.mem_cons.mp hp with rfl | hp
        · exact .tail _ (.tail _ (.head _))
        rcases List.mem_cons.mp hp with rfl | hp
        · exact .tail _ (.tail _ (.tail _ (.head _)))
        exact .tail _ (.tail _ (.tail _ (.tail _ (.tail _ hp)))))
    clear F6 N6
    rintro s7 hPz1
    with_reducible refine Classical.byContradiction fun hZq => ?_
    obtain ⟨E, ev, tb, hev, hE, h7, tk7, m7, rfl, F7, N7⟩ := hPz1
    refine hZq ?_
    clear hZq
    have eW : wl < E := hE (wl, listOf ws.toArray wn) (.tail _ (.tail _ (.tail _ (.head _))))
    have eI : I < E := hE (I, oI) (.tail _ (.tail _ (.head _)))
    have eD : dl < E := hE (dl, listOf ds.toArray dn) (.head _)
    have eP : pl < E := hE (pl, listOf (ps ++ [Value.ref P]).toArray (pn + 1)) (.tail _ (.tail _ (.tail _ (.tail _ (.head _)))))
    have eN : nl < E := hE (nl, listOf ls.toArray ln) (.tail _ (.tail _ (.tail _ (.tail _ (.tail _ (.head _))))))
    have e3 : L + 1 + 1 + 1 < E := hE (L + 1 + 1 + 1, o3) (.tail _ (.tail _ (.tail _ (.tail _ (.tail _ (.tail _ (.tail _ (.head _))))))))
    have e2 : L + 1 + 1 < E := hE (L + 1 + 1, o2) (.tail _ (.tail _ (.tail _ (.tail _ (.tail _ (.tail _ (.tail _ (.tail _ (.head _)))))))))
    have e1 : L + 1 < E := hE (L + 1, o1) (.tail _ (.tail _ (.tail _ (.tail _ (.tail _ (.tail _ (.tail _ (.tail _ (.tail _ (.head _))))))))))
    have e0 : 145 < E := hE (145, tabObj #[]) (.tail _ (.tail _ (.tail _ (.tail _ (.tail _ (.tail _ (.tail _ (.tail _ (.tail _ (.tail _ (.head _)))))))))))
    clear hE
    refine cutN 1 _ (rowC3b w L fa cd g h7 m7 gn dr tk7 os nd i X TT l wl dl pl nl D6 tp ti th tw6 tb (pageP nd i) (leadL (dueL (ptsP nd i))) (by omega) ws wn (by omega) ((E, listOf ev.toArray 0) :: (dl, listOf (ds ++ [Value.ref E]).toArray (dn + 1)) :: (P, listOf pv.toArray 0) :: (I, oI) :: (pl, listOf (ps ++ [Value.ref P]).toArray (pn + 1)) :: (nl, listOf ls.toArray ln) :: (l, listOf vs.toArray n) :: (L + 1 + 1 + 1, o3) :: (L + 1 + 1, o2) :: (L + 1, o1) :: (145, tabObj #[]) :: tl) (all_c (Nat.ne_of_gt eW) (all_c (nq_sym a1) (all_c (nq_sym p2) (all_c (nq_sym I1) (all_c (nq_sym a2) (all_c (nq_sym a3) (all_c (nq_sym a4) (all_c (b1) (all_c (b2) (all_c (b3) (all_c (b4) (ow)))))))))))) F7 ?_) ?_
    · exact fun p hp => N7 p (by
        rcases List.mem_cons.mp hp with rfl | hp
        · exact .tail _ (.tail _ (.tail _ (.tail _ (.head _))))
        rcases List.mem_cons.mp hp with rfl | hp
        · exact .head _
        rcases List.mem_cons.mp hp with rfl | hp
        · exact .tail _ (.head _)
        rcases List.mem_cons.mp hp with rfl | hp
        · exact .tail _ (.tail _ (.head _))
        rcases List.mem_cons.mp hp with rfl | hp
        · exact .tail _ (.tail _ (.tail _ (.head _)))
        exact .tail _ (.tail _ (.tail _ (.tail _ (.tail _ hp)))))
    clear F7 N7
    rintro s8 hPz1
    with_reducible refine Classical.byContradiction fun hZq => ?_
    obtain ⟨t1, h8, tk8, m8, rfl, F8, N8⟩ := hPz1
    refine hZq ?_
    clear hZq
    refine wpAny_mono (rowC3c w L fa cd g h8 m8 gn dr tk8 os nd i X TT l wl dl pl nl D6 tp ti th tw6 tb t1 (pageP nd i) (wordP nd i) (leadL (dueL (ptsP nd i))) (by omega) (by omega) ws ls (wn + 1) ln (by omega) (by omega) ((wl, listOf (ws ++ [Value.str (T (wordP nd i)) t1]).toArray (wn + 1)) :: (E, listOf ev.toArray 0) :: (dl, listOf (ds ++ [Value.ref E]).toArray (dn + 1)) :: (P, listOf pv.toArray 0) :: (I, oI) :: (pl, listOf (ps ++ [Value.ref P]).toArray (pn + 1)) :: (l, listOf vs.toArray n) :: (L + 1 + 1 + 1, o3) :: (L + 1 + 1, o2) :: (L + 1, o1) :: (145, tabObj #[]) :: tl) (all_c (a3) (all_c (Nat.ne_of_gt eN) (all_c (a6) (all_c (nq_sym p5) (all_c (nq_sym I4) (all_c (a8) (all_c (nq_sym a10) (all_c (b13) (all_c (b14) (all_c (b15) (all_c (b16) (on)))))))))))) (.head _) F8 ?_) ?_ fun _ _ x => x
    · exact fun p hp => N8 p (by
        rcases List.mem_cons.mp hp with rfl | hp
        · exact .tail _ (.tail _ (.tail _ (.tail _ (.tail _ (.tail _ (.head _))))))
        rcases List.mem_cons.mp hp with rfl | hp
        · exact .head _
        rcases List.mem_cons.mp hp with rfl | hp
        · exact .tail _ (.head _)
        rcases List.mem_cons.mp hp with rfl | hp
        · exact .tail _ (.tail _ (.head _))
        rcases List.mem_cons.mp hp with rfl | hp
        · exact .tail _ (.tail _ (.tail _ (.head _)))
        rcases List.mem_cons.mp hp with rfl | hp
        · exact .tail _ (.tail _ (.tail _ (.tail _ (.head _))))
        rcases List.mem_cons.mp hp with rfl | hp
        · exact .tail _ (.tail _ (.tail _ (.tail _ (.tail _ (.head _)))))
        exact .tail _ (.tail _ (.tail _ (.tail _ (.tail _ (.tail _ (.tail _ hp)))))))
    clear F8 N8
    rintro fl s9 hPz1
    with_reducible refine Classical.byContradiction fun hZq => ?_
    obtain ⟨rfl, tp9, t2, h9, tk9, m9, rfl, F9, N9⟩ := hPz1
    refine hZq ?_
    clear hZq
    have htl : ∀ p ∈ tl, p ∈ (tl ++ [(P, listOf pv.toArray 0)]) ++ [(E, listOf ev.toArray 0)] := fun p hp => List.mem_append.mpr (.inl (List.mem_append.mpr (.inl hp)))
    have r1 : ∀ {α : Type} (f : Nat → α), (List.range (i + 1)).map f = (List.range i).map f ++ [f i] := fun f => by rw [List.range_succ, List.map_append]; rfl
    refine turned_next (pgF L wl dl pl nl l nd (pageP nd i ++ (takenP nd i ++ leftP nd i)) tp9) (pgN L wl dl pl nl l (listOf (ws ++ [Value.str (T (wordP nd i)) t1]).toArray (wn + 1)) (listOf (ds ++ [Value.ref E]).toArray (dn + 1)) (listOf (ps ++ [Value.ref P]).toArray (pn + 1)) (listOf (ls ++ [Value.int (lineP nd i) t2]).toArray (ln + 1)) (listOf vs.toArray n) o1 o2 o3 ((tl ++ [(P, listOf pv.toArray 0)]) ++ [(E, listOf ev.toArray 0)])) (.inl rfl) F9 N9 (by (first | focus ((repeat (first | exact True.intro | (refine AllAt.keep _ rfl ?_ ?_; (focus decide +kernel)) | (refine AllAt.skip _ rfl ?_ ?_; (focus decide +kernel)))); done) | ((repeat (refine And.intro ?_ ?_; (focus (first | walk_at "m_look" | rfl)))); exact True.intro))) ?_ ?_
      (JC.intro ⟨by rw [page_succ], rfl, by rw [r1]; exact strsAre_snoc hws, by rw [r1]; exact (hds.mono htl).snoc (List.mem_append.mpr (.inr (.head _))) hev, by rw [r1]; exact (hps.mono htl).snoc (List.mem_append.mpr (.inl (List.mem_append.mpr (.inr (.head _))))) hpv, by rw [r1]; exact intsAre_snoc hls, (hoff.snoc ?_).snoc ?_⟩)
    · refine ⟨.tail _ (.tail _ (.tail _ (.tail _ (.tail _ (.head _))))), .tail _ (.head _), .tail _ (.tail _ (.tail _ (.head _))), .tail _ (.tail _ (.tail _ (.tail _ (.tail _ (.tail _ (.head _)))))), .head _, .tail _ (.tail _ (.tail _ (.tail _ (.tail _ (.tail _ (.tail _ (.head _))))))), .tail _ (.tail _ (.tail _ (.tail _ (.tail _ (.tail _ (.tail _ (.tail _ (.head _)))))))), .tail _ (.tail _ (.tail _ (.tail _ (.tail _ (.tail _ (.tail _ (.tail _ (.tail _ (.head _))))))))), .tail _ (.tail _ (.tail _ (.tail _ (.tail _ (.tail _ (.tail _ (.tail _ (.tail _ (.tail _ (.head _)))))))))), .tail _ (.tail _ (.tail _ (.tail _ (.tail _ (.tail _ (.tail _ (.tail _ (.tail _ (.tail _ (.tail _ (.head _))))))))))), inAll_of fun p hp => ?_⟩
      have hp : p ∈ (tl ++ [(P, listOf pv.toArray 0)]) ++ [(E, listOf ev.toArray 0)] := hp
      rcases List.mem_append.mp hp with hp | hp
      · rcases List.mem_append.mp hp with hp | hp
        · exact .tail _ (.tail _ (.tail _ (.tail _ (.tail _ (.tail _ (.tail _ (.tail _ (.tail _ (.tail _ (.tail _ (.tail _ (hp))))))))))))
        · rw [List.mem_singleton.mp hp]; exact .tail _ (.tail _ (.tail _ (.tail _ (.head _))))
      · rw [List.mem_singleton.mp hp]; exact .tail _ (.tail _ (.head _))
    · refine AllNe.of (all_c I1 (all_c I2 (all_c I3 (all_c I4 (all_c I5 (all_c I6 (all_c I7 (all_c I8 (all_c I9 (fun q hq => ?_))))))))))
      have hq : q ∈ (tl ++ [(P, listOf pv.toArray 0)]) ++ [(E, listOf ev.toArray 0)] := hq
      rcases List.mem_append.mp hq with hq | hq
      · rcases List.mem_append.mp hq with hq | hq
        · exact hne.mem q (.tail _ (.tail _ (.tail _ (.tail _ (.tail _ (List.mem_append.mpr (.inr hq)))))))
        · rw [List.mem_singleton.mp hq]; exact nq_sym p1
      · rw [List.mem_singleton.mp hq]; exact Nat.ne_of_gt eI
    · exact List.forall_mem_cons.mpr ⟨nq_sym p2, List.forall_mem_cons.mpr ⟨nq_sym p3, List.forall_mem_cons.mpr ⟨nq_sym p4, List.forall_mem_cons.mpr ⟨nq_sym p5, List.forall_mem_cons.mpr ⟨nq_sym p7, List.forall_mem_cons.mpr ⟨nq_sym p8, List.forall_mem_cons.mpr ⟨nq_sym p9, List.forall_mem_cons.mpr ⟨nq_sym p10, fun _ h => nomatch h⟩⟩⟩⟩⟩⟩⟩⟩
    · exact List.forall_mem_cons.mpr ⟨Nat.ne_of_gt eW, List.forall_mem_cons.mpr ⟨Nat.ne_of_gt eD, List.forall_mem_cons.mpr ⟨Nat.ne_of_gt eP, List.forall_mem_cons.mpr ⟨Nat.ne_of_gt eN, List.forall_mem_cons.mpr ⟨Nat.ne_of_gt e3, List.forall_mem_cons.mpr ⟨Nat.ne_of_gt e2, List.forall_mem_cons.mpr ⟨Nat.ne_of_gt e1, List.forall_mem_cons.mpr ⟨Nat.ne_of_gt e0, fun _ h => nomatch h⟩⟩⟩⟩⟩⟩⟩⟩
  · rintro h3 tk3 m3 lo nw hJ F3 N3
    refine wpAny_execs_nil ?_
    exact ⟨rfl, lo, nw, hJ, h3, tk3, m3, rfl, F3, N3⟩

end partBlP7
theorem off_BlF1 : (1 : Nat) = 1 := by
  w_top off
  first | walk1 | rfl
section partBlF1
/-- get_token from the file, upon a ledger that holds the lexer -/
theorem gt_led (w : World) (s : Shared) (R : Result → Shared → Prop) (a : LxA) (ok : a.Ok w) (ln : Int) (tl : Tok) (ys : List Value) (cs : List Nat) (n np : Nat) {g : Heap} {L : Addr} {m : Str → Option Value} {pre : List (Addr × Obj)}
  {pp : Program} {loose : List Str} {mean : ExcName → Option Value} {mg mb : Str → Option Value} (X : (K0 w.params).In g) (TT : Top pp loose mean mg mb g)
  (F : Fr g L s.heap m) (N : News g L s.heap (pre ++ (a.led w ln tl ys n ++ [(a.pb, listOf #[] np)]))) (hoff : ∀ p, (p ∈ pre ∨ p ∈ [(a.pb, listOf #[] np)]) → p.1 ≠ a.dx ∧ p.1 ≠ a.D)
  (hys : StrsAre ys (cs.map sg)) (hlen : cs.length ≤ 100000) (hln : 0 ≤ ln ∧ ln ≤ 500000)
  (hret : ∀ (h' : Heap) (tk' n' : Nat) (t' tl' : Tok) (ys' : List Value), Fr g L h' m → News g L h' (pre ++ (a.led w (ln + nlc cs - nlc (tkS cs).2) tl' ys' n' ++ [(a.pb, listOf #[] np)])) → StrsAre ys' ((tkS cs).2.map sg) →
    R (.ok (.ret (.str (T (tkS cs).1) t'))) { s with heap := h', toks := tk' }) :
  codeAny (model prog w) (lv 13) (.call (.ref 129) ⟨[.ref a.x], []⟩) R s := by
  have sub : ∀ p ∈ a.led w ln tl ys n ++ [(a.pb, listOf #[] np)], p ∈ pre ++ (a.led w ln tl ys n ++ [(a.pb, listOf #[] np)]) := fun p hp => List.mem_append.mpr (.inr hp)
  have sub1 : ∀ p ∈ a.led w ln tl ys n, p ∈ pre ++ (a.led w ln tl ys n ++ [(a.pb, listOf #[] np)]) := fun p hp => sub p (List.mem_append.mpr (.inl hp))
  refine gettok_read w s R a ok ln tl ys cs n np (gd_of X TT F N _ (HasAll.mem ⟨⟨_, sub1 _ (.head _)⟩, ⟨_, sub1 _ (.tail _ (.head _))⟩, ⟨_, sub1 _ (.tail _ (.tail _ (.head _)))⟩, ⟨_, sub1 _ (.tail _ (.tail _ (.tail _ (.head _))))⟩, ⟨_, sub1 _ (.tail _ (.tail _ (.tail _ (.tail _ (.head _)))))⟩, ⟨_, sub1 _ (.tail _ (.tail _ (.tail _ (.tail _ (.tail _ (.head _))))))⟩, ⟨_, sub1 _ (.tail _ (.tail _ (.tail _ (.tail _ (.tail _ (.tail _ (.head _)))))))⟩, ⟨_, sub1 _ (.tail _ (.tail _ (.tail _ (.tail _ (.tail _ (.tail _ (.tail _ (.head _))))))))⟩, ⟨_, sub _ (List.mem_append.mpr (.inr (.head _)))⟩, trivial⟩)) (nall_of fun p hp => (N p (sub p hp)).1) hys hlen hln ?_
  intro h' tk' n' t' tl' ys' K e1 e2 hys'
  obtain ⟨F', N'⟩ := led_after ok F N hoff K e1 e2
  exact hret h' tk' n' t' tl' ys' F' N' hys'
theorem aft_of {wr : List Addr} {news : List (Addr × Obj)} {h h' : Heap} : ∀ {l : List (Addr × Obj)}, (∀ p ∈ l, p ∈ news ∧ p.1 ∉ wr) → Aft wr news h h' l
  | [], _ => trivial
  | p :: r, hl => ⟨.inl (hl p (.head _)), aft_of fun q hq => hl q (.tail _ hq)⟩
theorem allNq_mem {a : Nat} : ∀ {l : List (Addr × Obj)}, AllNq a l → ∀ p, p ∈ l → p.1 ≠ a
  | [], _, _, hp => nomatch hp
  | q :: r, h, p, hp => by
    rcases List.mem_cons.mp hp with rfl | hp
    · exact h.1
    · exact allNq_mem h.2 p hp
noncomputable abbrev lawF (wl dl pl nl : Addr) (pg : List Nat) (tp : Tok) : List (Str × Value) := [((PySem.Str.ofString "words"), .ref wl), ((PySem.Str.ofString "dues"), .ref dl), ((PySem.Str.ofString "points"), .ref pl), ((PySem.Str.ofString "lines"), .ref nl), ((PySem.Str.ofString "page"), .str (T pg) tp)]
/-- behind lexer -/
noncomputable abbrev MidFb (w : World) (g : Heap) (L wl dl pl nl : Addr) (pg : List Nat) (tp : Tok) (nw : List (Addr × Obj)) (s s' : Shared) (a : LxA) (tl : Tok) (ys : List Value) (n : Nat) : Prop :=
  a.Ok w ∧ StrsAre ys (pg.map sg) ∧ (∀ p, p ∈ nw → p.1 ≠ a.dx ∧ p.1 ≠ a.D) ∧ At g L (lawF wl dl pl nl pg tp ++ [((PySem.Str.ofString "lexer"), .ref a.x)]) (nw ++ (a.led w 1 tl ys n ++ [(a.pb, listOf #[] 0)])) s s'
noncomputable def MidF (w : World) (g : Heap) (L wl dl pl nl : Addr) (pg : List Nat) (tp : Tok) (nw : List (Addr × Obj)) (s s' : Shared) : Prop := ∃ (a : LxA) (tl : Tok) (ys : List Value) (n : Nat), MidFb w g L wl dl pl nl pg tp nw s s' a tl ys n
theorem blkF (w : World) (L fa : Addr) (cd : Value) (g h0 : Heap) (m0 : Str → Option Value) (gn : Array GenState) (dr : Drawn) (tk : Nat) (os : OsState) (pg : List Nat) (hpg : pg.length ≤ 1000) (wl dl pl nl : Addr) (tp : Tok) (nw : List (Addr × Obj)) {pp : Program} {loose : List Str} {mean : ExcName → Option Value} {mg mb : Str → Option Value}
  (X : (K0 w.params).In g) (TT : Top pp loose mean mg mb g) (l145 : (145 : Nat) < L) (C0 : CodeHd g 149 145) (hoff : ∀ p ∈ nw, p.1 ≠ 145)
  (F0 : Fr g L h0 (over (lawF wl dl pl nl pg tp) m0)) (N0 : News g L h0 ((145, tabObj #[]) :: nw)) :
  wpAny (model prog w) (lawA L fa cd) (execs ((lawBS.1.drop 3).take 1) (lawEnv L fa cd)) (Next (fun s' => ∃ ps, MidF w g L wl dl pl nl pg tp ((145, tabObj ps) :: nw) ⟨h0, gn, dr, tk, os⟩ s')) noE ⟨h0, gn, dr, tk, os⟩ := by
  have _kf : (PySem.Challenge.rw_pg0230_01, K0) = (PySem.Challenge.rw_pg0230_01, K0) := by k_fill; rfl
  have e1 : (lawBS.1.drop 3).take 1 = [_] := rfl
  have e2 : lawBS.2 = ⟨_, _, _, _, _⟩ := rfl
  unfold lawA lawEnv
  rw [e1, e2]
  clear e1 e2
  k_steps
  unfold Stop
  refine wpAny_call ?_
  refine' codeAny_at (A' := lv 12) ?a1 ?a2 ?a3 ?a4 ?a5 ?_
  (case a1 => exact rfl); (case a2 => (exact Nat.le_of_ble_eq_true rfl)); (case a3 => (exact Nat.le_of_ble_eq_true rfl)); (case a4 => exact rfl); (case a5 => exact rfl)
  rename News _ _ _ _ => NA
  rename Fr _ _ _ _ => FA
  with_reducible refine' file_spec w _ _ pg _ ?e0 ?e1 ?e2 ?e3 ?_
  (case e0 => omega)
  (case e1 => exact gd_of X TT FA NA [145] (HasAll.mem (by ((repeat (refine And.intro ⟨_, by k_mem⟩ ?_)); exact True.intro))))
  (case e2 => exact NA.get (by k_mem))
  (case e3 => exact codeHd_at C0 fun o e => FA.keep _ _ e)
  intro h5 tk5 hx hdx fA cA cc D hpb fo co cco ys n j0 j1 j2 j3 j4 jl jw K5 q1 q2 q3 q4 q5 q6 q7 n1 n2 n3 n4 n5 n6 n7 fcls fdat cdat ccdat hys ts ⟨ps, e145⟩
  obtain ⟨F5, N5⟩ := afterL ((hx, _) :: (hdx, _) :: (hpb, _) :: (fA, _) :: (cc, _) :: (D, _) :: (cA, _) :: (145, tabObj ps) :: nw) FA NA K5 (by ((repeat (refine And.intro ⟨_, by k_mem⟩ ?_)); exact True.intro)) ⟨.inr ⟨q1, .inr n1⟩, .inr ⟨q2, .inr n2⟩, .inr ⟨q3, .inr n3⟩, .inr ⟨q4, .inr n4⟩, .inr ⟨q5, .inr n5⟩, .inr ⟨q6, .inr n6⟩, .inr ⟨q7, .inr n7⟩, .inr ⟨e145, .inl ⟨_, .head _⟩⟩, aft_of fun p hp => ⟨.tail _ hp, fun q => hoff p hp (List.mem_singleton.mp q)⟩⟩
  have hqD := AllNq.new NA n6
  clear NA FA
  k_steps
  unfold Stop
  refine' call_cls ?k1 ?k2 ?k3 ?k4 ?k5 ?k6 ?_; (case k1 => k_asm); (case k2 => k_asm); (case k3 => k_asm); (case k4 => k_is); (case k5 => k_is); (case k6 => k_is); k_whole
  intro x dx h6 F6 N6 l3 l4
  have l3' := l3
  have l4' := l4
  k_lt l3
  k_lt2 l4
  refine' codeAny_at (A' := lv 9) ?a1 ?a2 ?a3 ?a4 ?a5 ?_
  (case a1 => exact rfl); (case a2 => (exact Nat.le_of_ble_eq_true rfl)); (case a3 => (exact Nat.le_of_ble_eq_true rfl)); (case a4 => exact rfl); (case a5 => exact rfl)
  with_reducible refine' lexinit_spec w _ _ x dx (.ref hx) ?b1 ?b2 ?b3 ?b4 ?b5 ?_
  (case b1 => exact .inr ⟨hx, rfl⟩)
  (case b2 => exact gd_of X TT F6 N6 [x, dx] (HasAll.mem (by ((repeat (refine And.intro ⟨_, by k_mem⟩ ?_)); exact True.intro))))
  (case b3 => exact (N6 _ (.head _)).1)
  (case b4 => exact (N6 _ (.tail _ (.head _))).1)
  (case b5 => exact neN (by omega))
  intro h7 tk7 pb k0 k1 k2 k3 tl tw K7 f1 f2 f3 f4
  refine ⟨rfl, ?_⟩
  have lp := AllNq.new N6 f4
  with_reducible refine Classical.byContradiction fun hZq => ?_
  obtain ⟨p1, p2, p3, p4, p5, p6, p7, p8, p9, _⟩ := lp
  refine hZq ?_
  clear hZq
  obtain ⟨F7, N7⟩ := after_two [(pb, listOf #[] 0)] F6 N6 K7 f1 f2 l3' l4' (fun p hp => by rw [List.mem_singleton.mp hp]; exact ⟨f3, f4⟩)
  simp only [List.cons_append, List.nil_append] at N7
  have hdd : dx ≠ hdx := neN (by omega)
  have hof : ∀ p, p ∈ (145, tabObj ps) :: nw → p.1 ≠ dx ∧ p.1 ≠ D := fun p hp => ⟨Nat.ne_of_lt (l3' p (.tail _ (.tail _ (.tail _ (.tail _ (.tail _ (.tail _ (.tail _ hp)))))))), by
    rcases List.mem_cons.mp hp with rfl | hp
    · exact hqD.1
    · exact allNq_mem hqD.2 p hp⟩
  clear F6 N6
  dsimp only [hxEs, lxEs, List.cons_append, List.nil_append] at N7
  k_steps
  rename Fr _ _ _ _ => F8
  rename News _ _ _ _ => N8
  have hDp : D ≠ pb := by
    have h9 : Nq D pb := by first | exact p8 | exact p7 | exact p9 | exact p6
    exact h9
  refine ⟨rfl, ps, ⟨x, dx, pb, hx, hdx, hpb, fA, cc, cA, D, fo, cco, co, k0, k1, k2, k3, tw, j0, j1, j2, j3, j4, jl, jw⟩, tl, ys, n, ⟨ts, hdd, fcls, fdat, cdat, ccdat, hDp⟩, hys, hof, At.intro F8 N8 (by (first | focus ((repeat (first | exact True.intro | (refine AllAt.keep _ rfl ?_ ?_; (focus decide +kernel)) | (refine AllAt.skip _ rfl ?_ ?_; (focus decide +kernel)))); done) | ((repeat (refine And.intro ?_ ?_; (focus (first | walk_at "m_look" | rfl)))); exact True.intro))) (inAll_of fun p hp => ?_)⟩
  rcases List.mem_append.mp hp with hp | hp
  · exact .tail _ (.tail _ (.tail _ (.tail _ (.tail _ (.tail _ (.tail _ (.tail _ (.tail _ (.tail _ (hp))))))))))
  rcases List.mem_append.mp hp with hp | hp
  · rcases List.mem_cons.mp hp with rfl | hp
    · exact .head _
    rcases List.mem_cons.mp hp with rfl | hp
    · exact .tail _ (.head _)
    rcases List.mem_cons.mp hp with rfl | hp
    · exact .tail _ (.tail _ (.tail _ (.head _)))
    rcases List.mem_cons.mp hp with rfl | hp
    · exact .tail _ (.tail _ (.tail _ (.tail _ (.head _))))
    rcases List.mem_cons.mp hp with rfl | hp
    · exact .tail _ (.tail _ (.tail _ (.tail _ (.tail _ (.tail _ (.head _))))))
    rcases List.mem_cons.mp hp with rfl | hp
    · exact .tail _ (.tail _ (.tail _ (.tail _ (.tail _ (.tail _ (.tail _ (.head _)))))))
    rcases List.mem_cons.mp hp with rfl | hp
    · exact .tail _ (.tail _ (.tail _ (.tail _ (.tail _ (.tail _ (.tail _ (.tail _ (.tail _ (.head _)))))))))
    rw [List.mem_singleton.mp hp]
    exact .tail _ (.tail _ (.tail _ (.tail _ (.tail _ (.tail _ (.tail _ (.tail _ (.head _))))))))
  · rw [List.mem_singleton.mp hp]
    exact .tail _ (.tail _ (.head _))

end partBlF1
theorem off_BlT1 : (1 : Nat) = 1 := by
  w_top off
  first | walk1 | rfl
section partBlT1
local macro_rules | `(tactic| walk_at "call builtin:list.append") => `(tactic| refine stop_at ?_)
local macro_rules | `(tactic| walk_at "exec For Name BinOp cons nil") => `(tactic| refine stop_at ?_)
theorem allLt_m {d : Nat} : ∀ {l : List (Addr × Obj)}, AllLt d l → ∀ p, p ∈ l → @LT.lt Nat _ p.1 d
  | [], _, p, hp => nomatch hp
  | q :: r, h, p, hp => by
    rcases List.mem_cons.mp hp with rfl | hp
    · exact h.1
    · exact allLt_m h.2 p hp
/-- the page behind i words -/
noncomputable def rsP (pg : List Nat) : Nat → List Nat
  | 0 => pg
  | i + 1 => (tkS (rsP pg i)).2
noncomputable def toksP (pg : List Nat) (i : Nat) : List (List Nat) := (List.range i).map fun j => (tkS (rsP pg j)).1
theorem toks_succ (pg : List Nat) (i : Nat) : toksP pg (i + 1) = toksP pg i ++ [(tkS (rsP pg i)).1] := by
  unfold toksP; rw [List.range_succ, List.map_append]; rfl
noncomputable abbrev linesA (nd : Nat → Int) (pg : List Nat) : List Int := (List.range 3).map (lineP nd) ++ [1 + nlc pg]
/-- what the told loop asks of the page -/
noncomputable def TkOk (nd : Nat → Int) (pg : List Nat) : Prop := (∀ i, i < 5 → (rsP pg i).length ≤ pg.length ∧ nlc (rsP pg i) ≤ nlc pg) ∧ ∀ i, i < 4 → (linesA nd pg)[i]? = some (1 + nlc pg - nlc (rsP pg (i + 1)))
noncomputable abbrev tdN (w : World) (a : LxA) (td Lq : Addr) (tv lvs : List Value) (tn : Nat) (ln : Int) (tl : Tok) (ys : List Value) (n : Nat) (nw : List (Addr × Obj)) : List (Addr × Obj) := (td, listOf tv.toArray tn) :: (Lq, listOf lvs.toArray 0) :: (a.led w ln tl ys n ++ ((a.pb, listOf #[] 0) :: nw))
noncomputable def TJ (w : World) (a : LxA) (td Lq wl dl pl nl : Addr) (pg : List Nat) (tp : Tok) (lvs : List Value) (nw : List (Addr × Obj)) (i : Nat) (lo : List (Str × Value)) (nw' : List (Addr × Obj)) : Prop :=
  ∃ tv tn tl ys n, lo = lawF wl dl pl nl pg tp ++ [((PySem.Str.ofString "lexer"), .ref a.x), ((PySem.Str.ofString "told"), .ref td)] ∧ nw' = tdN w a td Lq tv lvs tn (1 + nlc pg - nlc (rsP pg i)) tl ys n nw ∧ StrsAre tv ((toksP pg i).map T) ∧ StrsAre ys ((rsP pg i).map sg)
theorem TJ.intro {w : World} {a : LxA} {td Lq wl dl pl nl : Addr} {pg : List Nat} {tp : Tok} {lvs : List Value} {nw : List (Addr × Obj)} {i : Nat} {tv : List Value} {tn : Nat} {ln : Int} {tl : Tok} {ys : List Value} {n : Nat} (hl : ln = 1 + nlc pg - nlc (rsP pg i)) (h1 : StrsAre tv ((toksP pg i).map T)) (h2 : StrsAre ys ((rsP pg i).map sg)) :
    TJ w a td Lq wl dl pl nl pg tp lvs nw i (lawF wl dl pl nl pg tp ++ [((PySem.Str.ofString "lexer"), .ref a.x), ((PySem.Str.ofString "told"), .ref td)]) (tdN w a td Lq tv lvs tn ln tl ys n nw) := ⟨tv, tn, tl, ys, n, rfl, by rw [hl], h1, h2⟩
theorem td_to {i t q b : Addr × Obj} {led nw : List (Addr × Obj)} {p : Addr × Obj} (h : p ∈ (i :: t :: q :: nw) ++ (led ++ [b])) : p ∈ i :: t :: q :: (led ++ (b :: nw)) := by
  rcases List.mem_append.mp h with h | h
  · rcases List.mem_cons.mp h with rfl | h
    · exact .head _
    rcases List.mem_cons.mp h with rfl | h
    · exact .tail _ (.head _)
    rcases List.mem_cons.mp h with rfl | h
    · exact .tail _ (.tail _ (.head _))
    exact .tail _ (.tail _ (.tail _ (List.mem_append.mpr (.inr (.tail _ h)))))
  · refine .tail _ (.tail _ (.tail _ (List.mem_append.mpr ?_)))
    rcases List.mem_append.mp h with h | h
    · exact .inl h
    · rw [List.mem_singleton.mp h]; exact .inr (.head _)
theorem td_from {i t q b : Addr × Obj} {led nw : List (Addr × Obj)} {p : Addr × Obj} (h : p ∈ i :: t :: q :: (led ++ (b :: nw))) : p ∈ (i :: t :: q :: nw) ++ (led ++ [b]) := by
  refine List.mem_append.mpr ?_
  rcases List.mem_cons.mp h with rfl | h
  · exact .inl (.head _)
  rcases List.mem_cons.mp h with rfl | h
  · exact .inl (.tail _ (.head _))
  rcases List.mem_cons.mp h with rfl | h
  · exact .inl (.tail _ (.tail _ (.head _)))
  rcases List.mem_append.mp h with h | h
  · exact .inr (List.mem_append.mpr (.inl h))
  rcases List.mem_cons.mp h with rfl | h
  · exact .inr (List.mem_append.mpr (.inr (.head _)))
  · exact .inl (.tail _ (.tail _ (.tail _ h)))
theorem blkT (w : World) (L fa : Addr) (cd : Value) (g h0 : Heap) (m0 : Str → Option Value) (gn : Array GenState) (dr : Drawn) (tk : Nat) (os : OsState) (nd : Nat → Int) (pg : List Nat) (hpg : pg.length ≤ 1000) (wl dl pl nl : Addr) (tp tl0 : Tok) (a : LxA) (ok : a.Ok w) (ys0 ls : List Value) (n0 ln0 : Nat) (nw : List (Addr × Obj)) {pp : Program} {loose : List Str} {mean : ExcName → Option Value} {mg mb : Str → Option Value}
  (X : (K0 w.params).In g) (TT : Top pp loose mean mg mb g) (l145 : (145 : Nat) < L) (hys0 : StrsAre ys0 (pg.map sg)) (hoff : ∀ p, p ∈ nw → p.1 ≠ a.dx ∧ p.1 ≠ a.D) (hls : IntsAre ls ((List.range 3).map (lineP nd))) (hm : (nl, listOf ls.toArray ln0) ∈ nw) (hok : TkOk nd pg)
  (F0 : Fr g L h0 (over (lawF wl dl pl nl pg tp ++ [((PySem.Str.ofString "lexer"), .ref a.x)]) m0)) (N0 : News g L h0 (nw ++ (a.led w 1 tl0 ys0 n0 ++ [(a.pb, listOf #[] 0)]))) :
  wpAny (model prog w) (lawA L fa cd) (execs ((lawBS.1.drop 4).take 2) (lawEnv L fa cd)) (Next (fun s' => ∃ td tv tn, StrsAre tv ((toksP pg 4).map T) ∧ (∀ p ∈ nw, p.1 < td) ∧ At g L (lawF wl dl pl nl pg tp ++ [((PySem.Str.ofString "told"), .ref td)]) ((td, listOf tv.toArray tn) :: nw) ⟨h0, gn, dr, tk, os⟩ s')) noE ⟨h0, gn, dr, tk, os⟩ := by
  have _kf : (PySem.Challenge.rw_pg0230_01, K0) = (PySem.Challenge.rw_pg0230_01, K0) := by k_fill; rfl
  have e1 : (lawBS.1.drop 4).take 2 = [_, _] := rfl
  have e2 : lawBS.2 = ⟨_, _, _, _, _⟩ := rfl
  unfold lawA lawEnv
  rw [e1, e2]
  clear e1 e2
  have N1 : News g L h0 (a.led w 1 tl0 ys0 n0 ++ ((a.pb, listOf #[] 0) :: nw)) := fun p hp => N0 p (by
    rcases List.mem_append.mp hp with hp | hp
    · exact List.mem_append.mpr (.inr (List.mem_append.mpr (.inl hp)))
    rcases List.mem_cons.mp hp with rfl | hp
    · exact List.mem_append.mpr (.inr (List.mem_append.mpr (.inr (.head _))))
    · exact List.mem_append.mpr (.inl hp))
  clear N0
  with_reducible refine Classical.byContradiction fun hZq => ?_
  obtain ⟨ts, n1, fcls, fdat, cdat, ccdat, n2⟩ := id ok
  refine hZq ?_
  clear hZq
  dsimp only [LxA.led, lxEs, hxEs, List.cons_append, List.nil_append] at N1
  have hz := nlc_b pg
  k_steps
  unfold Stop
  rename Addr => td
  rename _ ∧ _ => lt
  with_reducible refine Classical.byContradiction fun hZq => ?_
  obtain ⟨u1, u2, u3, u4, u5, u6, u7, u8, u9, unw⟩ := lt
  refine hZq ?_
  clear hZq
  have hTd := allLt_m unw
  with_reducible refine for_stmt ?_ ?mzhs
  (case mzhs => intro _; rfl)
  k_steps
  unfold Stop
  rename Fr _ _ _ _ => F5
  rename News _ _ _ _ => N5
  refine kmk_add_ints F5 N5 ⟨_, N5.get (.tail _ (.tail _ (.tail _ (.tail _ (.tail _ (.tail _ (.tail _ (.tail _ (.tail _ (.tail _ (.tail _ (hm)))))))))))), rfl, _, rfl⟩ ⟨_, N5.get (.head _), rfl, _, rfl⟩ hls (.cons _ _ .nil) ?_ (by rw [sizeLine_eq, List.length_map, List.length_range]; simp)
  intro Lq lvs h6 F6 N6 lL hlv
  rw [count_nl] at hlv
  have N7 : News g L _ (tdN w a td Lq [] lvs 0 1 tl0 ys0 n0 nw) := fun p hp => N6 p (by
    rcases List.mem_cons.mp hp with rfl | hp
    · exact .tail _ (.tail _ (.head _))
    rcases List.mem_cons.mp hp with rfl | hp
    · exact .head _
    · exact .tail _ (.tail _ (.tail _ hp)))
  have hLt : td < Lq := lL (td, listOf #[] 0) (.tail _ (.head _))
  have hLl : ∀ p, p ∈ a.led w 1 tl0 ys0 n0 ++ ((a.pb, listOf #[] 0) :: nw) → p.1 < Lq := fun p hp => lL p (.tail _ (.tail _ hp))
  have hLd : a.dx < Lq := hLl (a.dx, _) (.tail _ (.head _))
  have hLD : a.D < Lq := hLl (a.D, _) (.tail _ (.tail _ (.tail _ (.tail _ (.tail _ (.tail _ (.tail _ (.head _))))))))
  clear F5 N5 N6 lL hLl
  have hll := hlv.length
  have hof2 : ∀ p, p ∈ (td, listOf #[] 0) :: (Lq, listOf #[] 0) :: nw → p.1 ≠ a.dx ∧ p.1 ≠ a.D := fun p hp => by
    rcases List.mem_cons.mp hp with rfl | hp
    · exact ⟨Nat.ne_of_gt u2, Nat.ne_of_gt u8⟩
    rcases List.mem_cons.mp hp with rfl | hp
    · exact ⟨Nat.ne_of_gt hLd, Nat.ne_of_gt hLD⟩
    · exact hoff p hp
  dsimp only
  refine it_list (L := L) (its := lvs.toArray) (TJ w a td Lq wl dl pl nl pg tp lvs nw) rfl rfl (listOf lvs.toArray 0) ⟨rfl, _, rfl⟩ (lawF wl dl pl nl pg tp ++ [((PySem.Str.ofString "lexer"), .ref a.x), ((PySem.Str.ofString "told"), .ref td)]) (tdN w a td Lq [] lvs 0 1 tl0 ys0 n0 nw) F6 N7 (.inr (by rintro j lo nw' ⟨_, _, _, _, _, _, rfl, _⟩; exact .tail _ (.head _))) (by (first | focus ((repeat (first | exact True.intro | (refine AllAt.keep _ rfl ?_ ?_; (focus decide +kernel)) | (refine AllAt.skip _ rfl ?_ ?_; (focus decide +kernel)))); done) | ((repeat (refine And.intro ?_ ?_; (focus (first | walk_at "m_look" | rfl)))); exact True.intro))) InAll.self (TJ.intro (Int.add_sub_cancel _ _).symm .nil hys0) ?_ ?_
  · clear F6 N7
    rintro i v I h4 tk4 m4 lo nw' oI hv hPz1 F4 N4 hne hcl
    with_reducible refine Classical.byContradiction fun hZq => ?_
    obtain ⟨tv, tn, tl, ys, n, rfl, rfl, htv, hys⟩ := hPz1
    refine hZq ?_
    clear hZq
    have hi : i < 4 := by
      have := (Array.getElem?_eq_some_iff.mp hv).1
      rw [List.size_toArray, hll, List.length_append, List.length_map, List.length_range] at this
      exact this
    with_reducible refine Classical.byContradiction fun hZq => ?_
    obtain ⟨x9, t9, hx9, rfl, _⟩ := item_int hlv (i := i) (v := v) (by simpa using hv)
    refine hZq ?_
    clear hZq
    obtain ⟨ob1, ob2⟩ := hok.1 i (by omega)
    obtain ⟨ob3, ob4⟩ := hok.1 (i + 1) (by omega)
    have hln := hok.2 i hi
    rw [hx9] at hln
    cases hln
    obtain ⟨y1, y2⟩ := nlc_b (rsP pg i)
    obtain ⟨y3, y4⟩ := nlc_b (rsP pg (i + 1))
    obtain ⟨z1, z2⟩ := hz
    have hx1 : (1 + nlc pg - nlc (rsP pg i)) + nlc (rsP pg i) - nlc (tkS (rsP pg i)).2 = 1 + nlc pg - nlc (rsP pg (i + 1)) := by
      show _ - nlc (rsP pg (i + 1)) = _
      omega
    have hpre : ∀ {tv' : List Value} {tn' : Nat} p, (p ∈ (I, oI) :: (td, listOf tv'.toArray tn') :: (Lq, listOf lvs.toArray 0) :: nw ∨ p ∈ [(a.pb, listOf #[] 0)]) → p.1 ≠ a.dx ∧ p.1 ≠ a.D := fun p hp => by
      rcases hp with hp | hp
      · rcases List.mem_cons.mp hp with rfl | hp
        · exact ⟨Ne.symm (hne.mem (a.dx, _) (.tail _ (.tail _ (.tail _ (.head _))))), Ne.symm (hne.mem (a.D, _) (.tail _ (.tail _ (.tail _ (.tail _ (.tail _ (.tail _ (.tail _ (.tail _ (.tail _ (.head _)))))))))))⟩
        rcases List.mem_cons.mp hp with rfl | hp
        · exact hof2 (td, listOf #[] 0) (.head _)
        rcases List.mem_cons.mp hp with rfl | hp
        · exact hof2 (Lq, listOf #[] 0) (.tail _ (.head _))
        · exact hoff p hp
      · rw [List.mem_singleton.mp hp]
        exact ⟨ne_of_cls N4 (.tail _ (.tail _ (.tail _ (List.mem_append.mpr (.inr (.head _)))))) (.tail _ (.tail _ (.tail _ (.tail _ (.head _))))) (fun e => by injection e with e; exact absurd e (by decide)), Ne.symm n2⟩
    have hIt : Nq I td := Ne.symm (hne.mem (td, listOf tv.toArray tn) (.head _))
    refine assign_Name ?_
    refine m_st F4 N4 rfl rfl (by walk_at "m_put") fun h5 F5 N5 => ?_
    clear F4 N4
    dsimp only [tdN, LxA.led, lxEs, hxEs, List.cons_append, List.nil_append] at N5
    k_steps
    unfold Stop
    rename Fr _ _ _ _ => F6
    rename News _ _ _ _ => N6
    refine wpAny_call ?_
    refine' codeAny_at (A' := lv 13) ?a1 ?a2 ?a3 ?a4 ?a5 ?_
    (case a1 => exact rfl); (case a2 => (exact Nat.le_of_ble_eq_true rfl)); (case a3 => (exact Nat.le_of_ble_eq_true rfl)); (case a4 => exact rfl); (case a5 => exact rfl)
    have NA : News g L _ (((I, oI) :: (td, listOf tv.toArray tn) :: (Lq, listOf lvs.toArray 0) :: nw) ++ (a.led w (1 + nlc pg - nlc (rsP pg i)) tl ys n ++ [(a.pb, listOf #[] 0)])) := fun p hp => N6 p (td_to hp)
    show codeAny _ _ (.call (.ref 129) ⟨[.ref a.x], []⟩) _ _
    with_reducible refine' gt_led w ⟨_, _, _, _, _⟩ _ a ok (1 + nlc pg - nlc (rsP pg i)) tl ys (rsP pg i) n 0 X TT F6 NA hpre hys ?e1 ?e2 ?_
    (case e1 => omega)
    (case e2 => omega)
    intro h7 tk7 n7 t7 tl7 ys7 F7 N7 hys7
    rw [hx1] at N7
    have N8 : News g L _ ((I, oI) :: tdN w a td Lq tv lvs tn (1 + nlc pg - nlc (rsP pg (i + 1))) tl7 ys7 n7 nw) := fun p hp => N7 p (td_from hp)
    clear F6 N6 NA N7
    have htdo : ∀ p ∈ (Lq, listOf lvs.toArray 0) :: (a.led w (1 + nlc pg - nlc (rsP pg (i + 1))) tl7 ys7 n7 ++ ((a.pb, listOf #[] 0) :: nw)), p.1 ≠ td := all_c (Nat.ne_of_gt hLt) (all_c (Nat.ne_of_lt u1) (all_c (Nat.ne_of_lt u2) (all_c (Nat.ne_of_lt u3) (all_c (Nat.ne_of_lt u4) (all_c (Nat.ne_of_lt u5) (all_c (Nat.ne_of_lt u6) (all_c (Nat.ne_of_lt u7) (all_c (Nat.ne_of_lt u8) (all_c (Nat.ne_of_lt u9) (fun p hp => Nat.ne_of_lt (hTd p hp)))))))))))
    have htl9 : tv.length = i := by rw [htv.length, toksP, List.length_map, List.length_map, List.length_range]
    dsimp only [tdN, LxA.led, lxEs, hxEs, List.cons_append, List.nil_append] at N8
    k_steps
    unfold Stop
    refine append_K (s := ⟨_, _, _, _, _⟩) F7 N8 (.tail hIt.l (.head htdo)) ?_ (by rw [sizeLine_eq, List.size_toArray]; omega)
    intro h9 F9 N9
    clear F7 N8
    k_steps
    all_goals first | exact absurd rfl (by assumption) | skip
    rename Fr _ _ _ _ => FZ
    rename News _ _ _ _ => NZ
    rw [List.push_toArray] at NZ
    have htk : StrsAre (tv ++ [Value.str (T (tkS (rsP pg i)).1) t7]) ((toksP pg (i + 1)).map T) := by rw [toks_succ, List.map_append]; exact strsAre_snoc htv
    exact turned_next _ (tdN w a td Lq (tv ++ [Value.str (T (tkS (rsP pg i)).1) t7]) lvs (tn + 1) (1 + nlc pg - nlc (rsP pg (i + 1))) tl7 ys7 n7 nw) (.inl rfl) FZ NZ (by (first | focus ((repeat (first | exact True.intro | (refine AllAt.keep _ rfl ?_ ?_; (focus decide +kernel)) | (refine AllAt.skip _ rfl ?_ ?_; (focus decide +kernel)))); done) | ((repeat (refine And.intro ?_ ?_; (focus (first | walk_at "m_look" | rfl)))); exact True.intro))) InAll.self hne (TJ.intro rfl htk hys7)
  · rintro h4 tk4 m4 lo nw' hPz1 F4 N4
    with_reducible refine Classical.byContradiction fun hZq => ?_
    obtain ⟨tv, tn, tl, ys, n, rfl, rfl, htv, hys⟩ := hPz1
    refine hZq ?_
    clear hZq
    have e4 : lvs.toArray.size = 4 := by rw [List.size_toArray, hll, List.length_append, List.length_map, List.length_range]; rfl
    rw [e4] at htv
    k_steps
    exact ⟨rfl, td, tv, tn, htv, hTd, At.intro F4 N4 (by (first | focus ((repeat (first | exact True.intro | (refine AllAt.keep _ rfl ?_ ?_; (focus decide +kernel)) | (refine AllAt.skip _ rfl ?_ ?_; (focus decide +kernel)))); done) | ((repeat (refine And.intro ?_ ?_; (focus (first | walk_at "m_look" | rfl)))); exact True.intro))) (inAll_of fun p hp => by
      rcases List.mem_cons.mp hp with rfl | hp
      · exact .head _
      · exact .tail _ (.tail _ (List.mem_append.mpr (.inr (.tail _ hp)))))⟩

end partBlT1
theorem off_BlU1 : (1 : Nat) = 1 := by
  w_top off
  first | walk1 | rfl
section partBlU1
/-- told != words + [''] -/
theorem blkU (w : World) (L fa : Addr) (cd : Value) (g h0 : Heap) (m0 : Str → Option Value) (gn : Array GenState) (dr : Drawn) (tk : Nat) (os : OsState) (pg : List Nat) (wl dl pl nl td : Addr) (tp : Tok) (tv ws : List Value) (tn wn : Nat) (rows : List (List Nat)) (hrl : rows.length ≤ 3) (nw : List (Addr × Obj)) {pp : Program} {loose : List Str} {mean : ExcName → Option Value} {mg mb : Str → Option Value}
  (X : (K0 w.params).In g) (TT : Top pp loose mean mg mb g) (htv : StrsAre tv ((rows ++ [[]]).map T)) (hws : StrsAre ws (rows.map T)) (hm : (wl, listOf ws.toArray wn) ∈ nw)
  (F0 : Fr g L h0 (over (lawF wl dl pl nl pg tp ++ [((PySem.Str.ofString "told"), .ref td)]) m0)) (N0 : News g L h0 ((td, listOf tv.toArray tn) :: nw)) :
  wpAny (model prog w) (lawA L fa cd) (execs ((lawBS.1.drop 6).take 1) (lawEnv L fa cd)) (Next (fun s' => At g L (lawF wl dl pl nl pg tp ++ [((PySem.Str.ofString "told"), .ref td)]) ((td, listOf tv.toArray tn) :: nw) ⟨h0, gn, dr, tk, os⟩ s')) noE ⟨h0, gn, dr, tk, os⟩ := by
  have _kf : (PySem.Challenge.rw_pg0230_01, K0) = (PySem.Challenge.rw_pg0230_01, K0) := by k_fill; rfl
  have e1 : (lawBS.1.drop 6).take 1 = [_] := rfl
  have e2 : lawBS.2 = ⟨_, _, _, _, _⟩ := rfl
  unfold lawA lawEnv
  rw [e1, e2]
  clear e1 e2
  have hwl := hws.length
  rw [List.length_map] at hwl
  k_steps
  unfold Stop
  rename Fr _ _ _ _ => F5
  rename News _ _ _ _ => N5
  rename Addr => E0
  obtain ⟨te, N5⟩ : ∃ te, News g L _ ((E0, listOf #[Value.str (PySem.Str.ofString "") te] 0) :: (td, listOf tv.toArray tn) :: nw) := ⟨_, N5⟩
  refine kmk_add_lit F5 N5 (its := ws.toArray) (its2 := List.toArray [Value.str (PySem.Str.ofString "") te]) (zs := ws ++ [Value.str (PySem.Str.ofString "") te]) ⟨_, N5.get (.tail _ (.tail _ hm)), rfl, _, rfl⟩ ⟨_, N5.get (.head _), rfl, _, rfl⟩ rfl ?_ (by rw [sizeLine_eq]; show ws.length + 1 ≤ _; omega)
  intro D h6 F6 N6 lD
  clear F5 N5
  rw [empty_T] at N6
  have hws2 : StrsAre (ws ++ [Value.str (T []) te]) ((rows ++ [[]]).map T) := by rw [List.map_append]; exact strsAre_snoc hws
  refine EqBoolInt.of_rcne (ne_texts ⟨_, N6.get (.tail _ (.tail _ (.head _))), rfl, _, rfl⟩ ⟨_, N6.get (.head _), rfl, _, rfl⟩ htv hws2 (by (exact Nat.le_of_ble_eq_true rfl))) ?_
  rw [decide_eq_true rfl]
  k_steps
  exact ⟨rfl, At.intro F6 N6 (by (first | focus ((repeat (first | exact True.intro | (refine AllAt.keep _ rfl ?_ ?_; (focus decide +kernel)) | (refine AllAt.skip _ rfl ?_ ?_; (focus decide +kernel)))); done) | ((repeat (refine And.intro ?_ ?_; (focus (first | walk_at "m_look" | rfl)))); exact True.intro))) InAll.self.skip.skip⟩

end partBlU1
theorem off_BlV1 : (1 : Nat) = 1 := by
  w_top off
  first | walk1 | rfl
section partBlV1
/-- a Whitespace of this word -/
noncomputable def WsOf (wd : List Nat) (a : WsA) : Prop := wsRun ⟨[], 0, 0, 0⟩ wd = ⟨a.cnt, a.b, a.n, a.nt⟩ ∧ a.Ok
/-- what is counted stays small -/
noncomputable def WsBd (r : List Nat) : Prop := ∀ cnt b n nt, wsRun ⟨[], 0, 0, 0⟩ r = ⟨cnt, b, n, nt⟩ → (∀ c ∈ cnt, 0 ≤ c ∧ c ≤ 1000) ∧ (0 ≤ b ∧ b ≤ 1000) ∧ (0 ≤ n ∧ n ≤ 1000) ∧ 0 ≤ nt ∧ nt ≤ 1000
noncomputable def LvJ (w : World) (rows : List (List Nat)) (fx : List Addr) (nw0 : List (Addr × Obj)) (i : Nat) (ys : List Value) (nw : List (Addr × Obj)) : Prop :=
  ∃ as : List WsA, (∀ p ∈ nw0, p ∈ nw) ∧ (∀ a ∈ as, ∀ p ∈ a.led w, p ∈ nw) ∧ (∀ a ∈ as, OffL fx (a.led w)) ∧ ys = as.map (fun a => Value.ref a.x) ∧ as.length = i ∧ ∀ (j : Nat) (a : WsA), as[j]? = some a → ∃ wd, rows[j]? = some wd ∧ WsOf wd a
theorem blkV (w : World) (L fa : Addr) (cd : Value) (g h0 : Heap) (m0 : Str → Option Value) (gn : Array GenState) (dr : Drawn) (tk : Nat) (os : OsState) (pg : List Nat) (wl dl pl nl td : Addr) (tp : Tok) (tv : List Value) (tn : Nat) (rows : List (List Nat)) (hrl : rows.length = 3) (hrb : ∀ r ∈ rows, r.length ≤ 200) (hwb : ∀ r ∈ rows, WsBd r) (nw : List (Addr × Obj)) (hc3 : ∃ o : Obj, (L + 1 + 1 + 1, o) ∈ nw) (hc2 : ∃ o : Obj, (L + 1 + 1, o) ∈ nw) (hc1 : ∃ o : Obj, (L + 1, o) ∈ nw) {pp : Program} {loose : List Str} {mean : ExcName → Option Value} {mg mb : Str → Option Value}
  (X : (K0 w.params).In g) (TT : Top pp loose mean mg mb g) (htv : StrsAre tv ((rows ++ [[]]).map T))
  (F0 : Fr g L h0 (over (lawF wl dl pl nl pg tp ++ [((PySem.Str.ofString "told"), .ref td)]) m0)) (N0 : News g L h0 ((td, listOf tv.toArray tn) :: nw)) :
  wpAny (model prog w) (lawA L fa cd) (execs ((lawBS.1.drop 7).take 1) (lawEnv L fa cd)) (Next (fun s' => ∃ (ld : Addr) (n : Nat) (as : List WsA), as.length = 3 ∧ (∀ (j : Nat) (a : WsA), as[j]? = some a → ∃ wd, rows[j]? = some wd ∧ WsOf wd a) ∧ (∀ a ∈ as, OffL [L + 1 + 1 + 1, L + 1 + 1, L + 1] (a.led w)) ∧ (ld ≠ L + 1 + 1 + 1 ∧ ld ≠ L + 1 + 1 ∧ ld ≠ L + 1) ∧ At g L (lawF wl dl pl nl pg tp ++ [((PySem.Str.ofString "told"), .ref td), ((PySem.Str.ofString "leads"), .ref ld)]) ((ld, listOf (as.map fun a => Value.ref a.x).toArray n) :: (td, listOf tv.toArray tn) :: (nw ++ (as.map fun a => a.led w).flatten)) ⟨h0, gn, dr, tk, os⟩ s')) noE ⟨h0, gn, dr, tk, os⟩ := by
  have _kf : (PySem.Challenge.rw_pg0230_01, K0) = (PySem.Challenge.rw_pg0230_01, K0) := by k_fill; rfl
  have e1 : (lawBS.1.drop 7).take 1 = [_] := rfl
  have e2 : lawBS.2 = ⟨_, _, _, _, _⟩ := rfl
  unfold lawA lawEnv
  rw [e1, e2]
  clear e1 e2
  k_steps
  ((unfold Stop; (with_reducible refine lc_assign (cl := []) ?mzc0 ?mzc1 ?mzc2 ?mzc3 ?mzc4 ?mzc5 ?mzc7 ?mzc8 ?mzc6 ?_); (case mzc0 => exact rfl); (case mzc1 => rfl); (case mzc2 => decide +kernel); (case mzc3 => rfl); (case mzc4 => decide +kernel); (case mzc5 => decide +kernel); (case mzc6 => intro _; rfl); (case mzc7 => exact rfl); (case mzc8 => exact rfl)))
  k_steps
  dsimp only
  rename Fr _ _ _ _ => F1
  rename News _ _ _ _ => N1
  dsimp only at N1
  rw [show ((3 : Int)) = ((3 : Nat) : Int) from rfl, slicePick_upto'] at N1
  simp only at N1
  have h3 : StrsAre (tv.take 3) (rows.map T) := by
    have e9 : (List.map T (rows ++ [[]])).take 3 = rows.map T := by
      rw [List.map_append, List.take_append_of_le_length (by rw [List.length_map, hrl]; exact Nat.le_refl _)]
      exact List.take_of_length_le (by rw [List.length_map, hrl]; exact Nat.le_refl _)
    have h := StrsAre.take' htv 3
    rw [e9] at h
    exact h
  generalize tv.take 3 = t3 at *
  have h3l := h3.length
  rw [List.length_map, hrl] at h3l
  refine LcA.intro rfl F1 N1 ?_ (src_list (its := t3.toArray) rfl F1 N1 (.inr ⟨_, .head _, rfl, _, rfl⟩)) ?_
  · rw [sizeLine_eq, List.size_toArray]; omega
  intro hh
  have e3 : t3.toArray.size = 3 := by rw [List.size_toArray, h3l]
  rw [e3]
  refine comp_inv 3 (LvJ w rows [L + 1 + 1 + 1, L + 1 + 1, L + 1] _) ?_ ?_ 3 0 [] _ rfl ⟨[], fun _ h => h, (fun _ h => nomatch h), (fun _ h => nomatch h), rfl, rfl, fun j a h => by simp at h⟩
  · rintro i ys nw2 v I oI C oC D m₂ h8 tk8 hi8 hPz1 hP hC hx F8 N8 off ne3
    with_reducible refine Classical.byContradiction fun hZq => ?_
    obtain ⟨as, hsub, hled, hfx, rfl, hal, hws⟩ := hPz1
    refine hZq ?_
    clear hZq
    have hr : ∃ r t, rows[i]? = some r ∧ v = .str (T r) t := by
      obtain ⟨r, t, e1, e2⟩ := strs_at h3 (j := i) (by rw [List.size_toArray]; omega)
      refine ⟨r, t, e1, ?_⟩
      have hP' : t3.toArray[i]? = some v := hP
      rw [Array.getElem?_eq_getElem (by rw [List.size_toArray]; omega), e2] at hP'
      exact (Option.some.inj hP').symm
    with_reducible refine Classical.byContradiction fun hZq => ?_
    obtain ⟨r, tr, hri, rfl⟩ := hr
    refine hZq ?_
    clear hZq
    have hrl2 := hrb r (List.mem_of_getElem? hri)
    k_steps
    unfold Stop
    refine' call_cls ?k1 ?k2 ?k3 ?k4 ?k5 ?k6 ?_; (case k1 => k_asm); (case k2 => k_asm); (case k3 => k_asm); (case k4 => k_is); (case k5 => k_is); (case k6 => k_is); k_whole
    intro x dx h9 F9 N9 l3 l4
    have l3' := l3
    have l4' := l4
    k_lt l3
    k_lt2 l4
    refine' codeAny_at (A' := lv 9) ?a1 ?a2 ?a3 ?a4 ?a5 ?_
    (case a1 => exact rfl); (case a2 => (exact Nat.le_of_ble_eq_true rfl)); (case a3 => (exact Nat.le_of_ble_eq_true rfl)); (case a4 => exact rfl); (case a5 => exact rfl)
    with_reducible refine' init_spec w _ _ x dx tr r (by omega) ?b2 ?b3 ?b4 ?b5 ?_
    (case b2 => exact gd_of X TT F9 N9 [x, dx] (HasAll.mem (by ((repeat (refine And.intro ⟨_, by k_mem⟩ ?_)); exact True.intro))))
    (case b3 => exact (N9 _ (.head _)).1)
    (case b4 => exact (N9 _ (.tail _ (.head _))).1)
    (case b5 => exact neN (by omega))
    intro h4 tk4 D9 Dc its cnt b n9 nt k0 k1 k2 k3 k4 tb tn9 tt q hq K4 hrun hits hcl e1 e2 e3 e4 e5 e6
    refine ⟨rfl, ?_⟩
    obtain ⟨F4, N4⟩ := after_two [(D9, tup2 (.ref Dc) (.int b tb)), (Dc, tupI its)] F9 N9 K4 e1 e2 l3' l4' (fun p hp => by
      rcases List.mem_cons.mp hp with rfl | hp
      · exact ⟨e3, e5⟩
      · rw [List.mem_singleton.mp hp]; exact ⟨e4, e6⟩)
    have nD := AllNq.new N9 e5
    have nDc := AllNq.new N9 e6
    with_reducible refine Classical.byContradiction fun hZq => ?_
    obtain ⟨y1, y2, y3, y4⟩ := hwb r (List.mem_of_getElem? hri) cnt b n9 nt hrun
    refine hZq ?_
    clear hZq
    have hA : WsA.Ok (⟨x, dx, D9, Dc, T r, its, cnt, b, n9, nt, tr, k0, k1, k2, k3, k4, tb, tn9, tt, q⟩ : WsA) := ⟨hits, hcl, y1, y2, y3, y4, hq⟩
    refine LCg.CompEnd.intro F4 N4 ((⟨x, dx, D9, Dc, T r, its, cnt, b, n9, nt, tr, k0, k1, k2, k3, k4, tb, tn9, tt, q⟩ : WsA).led w ++ nw2) ?_ ?_ (.inr ⟨_, List.mem_append.mpr (.inr (hsub _ (.head _))), rfl, _, rfl⟩) ?_
    · intro p hp
      rcases List.mem_cons.mp hp with rfl | hp
      · exact .tail _ (.tail _ (.tail _ (.tail _ (.head _))))
      rcases List.mem_cons.mp hp with rfl | hp
      · exact .tail _ (.tail _ (.tail _ (.tail _ (.tail _ (.head _)))))
      rcases List.mem_cons.mp hp with rfl | hp
      · exact .tail _ (.tail _ (.tail _ (.tail _ (.tail _ (.tail _ (.head _))))))
      rcases List.mem_append.mp hp with hp | hp
      · rcases List.mem_cons.mp hp with rfl | hp
        · exact .head _
        rcases List.mem_cons.mp hp with rfl | hp
        · exact .tail _ (.head _)
        rcases List.mem_cons.mp hp with rfl | hp
        · exact .tail _ (.tail _ (.head _))
        rw [List.mem_singleton.mp hp]
        exact .tail _ (.tail _ (.tail _ (.head _)))
      · exact .tail _ (.tail _ (.tail _ (.tail _ (.tail _ (.tail _ (.tail _ (hp)))))))
    · refine LCg.Off3.of fun p hp => ?_
      have gI : I < dx := l3' (I, oI) (.head _)
      have gC : C < dx := l3' (C, oC) (.tail _ (.head _))
      have gD : D < dx := l3' (D, LCg.lst (as.map fun a => Value.ref a.x)) (.tail _ (.tail _ (.head _)))
      rcases List.mem_append.mp hp with hp | hp
      · rcases List.mem_cons.mp hp with rfl | hp
        · exact ⟨Nat.ne_of_gt (Nat.lt_trans gI l4'), Nat.ne_of_gt (Nat.lt_trans gC l4'), Nat.ne_of_gt (Nat.lt_trans gD l4')⟩
        rcases List.mem_cons.mp hp with rfl | hp
        · exact ⟨Nat.ne_of_gt gI, Nat.ne_of_gt gC, Nat.ne_of_gt gD⟩
        rcases List.mem_cons.mp hp with rfl | hp
        · exact ⟨nq_sym nD.2.2.1, nq_sym nD.2.2.2.1, nq_sym nD.2.2.2.2.1⟩
        rw [List.mem_singleton.mp hp]
        exact ⟨nq_sym nDc.2.2.1, nq_sym nDc.2.2.2.1, nq_sym nDc.2.2.2.2.1⟩
      · exact off.mem p hp
    · have hcc : ∀ c, (∃ o : Obj, (c, o) ∈ nw) → ∀ p ∈ (⟨x, dx, D9, Dc, T r, its, cnt, b, n9, nt, tr, k0, k1, k2, k3, k4, tb, tn9, tt, q⟩ : WsA).led w, p.1 ≠ c := fun c hc p hp => by
        obtain ⟨o, ho⟩ := hc
        have hm := hsub _ (.tail _ (.tail _ ho))
        have g1 : c < dx := l3' (c, o) (.tail _ (.tail _ (.tail _ hm)))
        rcases List.mem_cons.mp hp with rfl | hp
        · exact Nat.ne_of_gt (Nat.lt_trans g1 l4')
        rcases List.mem_cons.mp hp with rfl | hp
        · exact Nat.ne_of_gt g1
        rcases List.mem_cons.mp hp with rfl | hp
        · exact nq_sym (allNq_mem nD.2.2.2.2.2 (c, o) hm)
        rw [List.mem_singleton.mp hp]
        exact nq_sym (allNq_mem nDc.2.2.2.2.2 (c, o) hm)
      refine ⟨as ++ [(⟨x, dx, D9, Dc, T r, its, cnt, b, n9, nt, tr, k0, k1, k2, k3, k4, tb, tn9, tt, q⟩ : WsA)], fun p hp => List.mem_append.mpr (.inr (hsub p hp)), fun a ha p hp => ?_, fun a ha => ?_, by rw [List.map_append]; rfl, by rw [List.length_append, hal]; rfl, fun j a hj => ?_⟩
      · rcases List.mem_append.mp ha with ha | ha
        · exact List.mem_append.mpr (.inr (hled a ha p hp))
        · rw [List.mem_singleton.mp ha] at hp
          exact List.mem_append.mpr (.inl hp)
      · rcases List.mem_append.mp ha with ha | ha
        · exact hfx a ha
        · rw [List.mem_singleton.mp ha]
          exact ⟨hcc _ hc3, hcc _ hc2, hcc _ hc1, trivial⟩
      · rcases Nat.lt_or_ge j as.length with hl | hl
        · rw [List.getElem?_append_left hl] at hj
          exact hws j a hj
        · rw [List.getElem?_append_right hl] at hj
          have hz : j - as.length = 0 := by
            rcases Nat.eq_zero_or_pos (j - as.length) with h0 | h0
            · exact h0
            · rw [List.getElem?_eq_none (show [(⟨x, dx, D9, Dc, T r, its, cnt, b, n9, nt, tr, k0, k1, k2, k3, k4, tb, tn9, tt, q⟩ : WsA)].length ≤ _ from h0)] at hj; cases hj
          rw [hz] at hj
          cases hj
          exact ⟨r, by rw [show j = i by omega]; exact hri, hrun, hA⟩
  · rintro ys nw2 hPz1
    with_reducible refine Classical.byContradiction fun hZq => ?_
    obtain ⟨as, hsub, hled, hfx, rfl, hal, hws⟩ := hPz1
    refine hZq ?_
    clear hZq
    intro D8 h8 tk8 F8 N8 off8
    dsimp only
    refine wpAny_execs_nil ?_
    have hat := PutL.eq (m := m0) (show PutL (PySem.Str.ofString "leads") (Value.ref D8) (lawF wl dl pl nl pg tp ++ [((PySem.Str.ofString "told"), Value.ref td)]) (lawF wl dl pl nl pg tp ++ [((PySem.Str.ofString "told"), Value.ref td), ((PySem.Str.ofString "leads"), Value.ref D8)]) by dsimp only [lawF, List.cons_append, List.nil_append]; walk_at "m_put")
    rw [hat] at F8
    have o8 := AllNq.off off8
    have hD : ∀ c, (∃ o : Obj, (c, o) ∈ nw) → D8 ≠ c := fun c hc => by
      obtain ⟨o, ho⟩ := hc
      exact nq_sym (allNq_mem o8 (c, o) (hsub _ (.tail _ (.tail _ ho))))
    exact ⟨rfl, D8, _, as, hal, hws, hfx, ⟨hD _ hc3, hD _ hc2, hD _ hc1⟩, At.intro F8 N8 (by (first | focus ((repeat (first | exact True.intro | (refine AllAt.keep _ rfl ?_ ?_; (focus decide +kernel)) | (refine AllAt.skip _ rfl ?_ ?_; (focus decide +kernel)))); done) | ((repeat (refine And.intro ?_ ?_; (focus (first | walk_at "m_look" | rfl)))); exact True.intro))) ⟨.head _, .tail _ (hsub _ (.tail _ (.head _))), inAll_of fun p hp => .tail _ (by
      rcases List.mem_append.mp hp with hp | hp
      · exact hsub p (.tail _ (.tail _ hp))
      · with_reducible refine Classical.byContradiction fun hZq => ?_
        obtain ⟨l9, hl9, hp⟩ := List.mem_flatten.mp hp
        refine hZq ?_
        clear hZq
        with_reducible refine Classical.byContradiction fun hZq => ?_
        obtain ⟨a, ha, rfl⟩ := List.mem_map.mp hl9
        refine hZq ?_
        clear hZq
        exact hled a ha p hp)⟩⟩

end partBlV1
theorem off_BlW1 : (1 : Nat) = 1 := by
  w_top off
  first | walk1 | rfl
section partBlW1
local macro_rules | `(tactic| k_all) => `(tactic| with_reducible assumption)
/-- the columns of row r -/
noncomputable abbrev endsP (nd : Nat → Int) (r : Nat) : List Int := colsP (runsP nd r) (behindP nd r)
noncomputable def CoJ (nd : Nat → Int) (fx : List Addr) (nw0 : List (Addr × Obj)) (i : Nat) (ys : List Value) (nw : List (Addr × Obj)) : Prop :=
  ∃ tl, (∀ p ∈ nw0, p ∈ nw) ∧ (∀ p ∈ tl, p ∈ nw) ∧ OffL fx tl ∧ RefsI tl ys ((List.range i).map (endsP nd))
theorem OffL.mem {c : Addr} : ∀ {as : List Addr} {tl : List (Addr × Obj)}, OffL as tl → c ∈ as → ∀ p ∈ tl, p.1 ≠ c
  | a :: as, tl, h, hc => by
    rcases List.mem_cons.mp hc with rfl | hc
    · exact h.1
    · exact h.2.mem hc
theorem blkW (w : World) (L fa : Addr) (cd : Value) (g h0 : Heap) (m0 : Str → Option Value) (gn : Array GenState) (dr : Drawn) (tk : Nat) (os : OsState) (nd : Nat → Int) (hnd : ∀ i, 0 ≤ nd i ∧ nd i < 1000000) (pg : List Nat) (wl dl pl nl td ld : Addr) (tp : Tok) (ds : List Value) (dn : Nat) (tlx nw : List (Addr × Obj)) (o1 : Obj) (fx : List Addr) {pp : Program} {loose : List Str} {mean : ExcName → Option Value} {mg mb : Str → Option Value}
  (X : (K0 w.params).In g) (TT : Top pp loose mean mg mb g) (c1 : o1.data = .cell none) (hds : RefsI tlx ds ((List.range 3).map (dueP nd))) (hx : ∀ p ∈ tlx, p ∈ nw) (hm : (dl, listOf ds.toArray dn) ∈ nw) (hoff : ∀ p ∈ nw, p.1 ≠ L + 1)
  (hfx : ∀ c ∈ fx, ∃ o : Obj, (c, o) ∈ (L + 1, o1) :: nw) (hf1 : L + 1 ∈ fx)
  (F0 : Fr g L h0 (over (lawF wl dl pl nl pg tp ++ [((PySem.Str.ofString "told"), .ref td), ((PySem.Str.ofString "leads"), .ref ld)]) m0)) (N0 : News g L h0 ((L + 1, o1) :: nw)) :
  wpAny (model prog w) (lawA L fa cd) (execs ((lawBS.1.drop 8).take 1) (lawEnv L fa cd)) (Next (fun s' => ∃ (e0 : Addr) (ys : List Value) (n : Nat) (tl : List (Addr × Obj)) (o1' : Obj), o1'.data = .cell (some (.ref e0)) ∧ RefsI tl ys ((List.range 3).map (endsP nd)) ∧ OffL fx tl ∧ (∀ c ∈ fx, e0 ≠ c) ∧
    At g L (lawF wl dl pl nl pg tp ++ [((PySem.Str.ofString "told"), .ref td), ((PySem.Str.ofString "leads"), .ref ld)]) ((e0, listOf ys.toArray n) :: (L + 1, o1') :: (nw ++ tl)) ⟨h0, gn, dr, tk, os⟩ s')) noE ⟨h0, gn, dr, tk, os⟩ := by
  have _kf : (PySem.Challenge.rw_pg0230_01, K0) = (PySem.Challenge.rw_pg0230_01, K0) := by k_fill; rfl
  have e1 : (lawBS.1.drop 8).take 1 = [_] := rfl
  have e2 : lawBS.2 = ⟨_, _, _, _, _⟩ := rfl
  unfold lawA lawEnv
  rw [e1, e2]
  clear e1 e2
  k_steps
  unfold Stop
  refine wpAny_Assign_Name ?_ ?hsw
  (case hsw => exact rfl)
  (with_reducible refine lc_eval (cl := []) ?mzc1 ?mzc2 ?mzc3 ?mzc4 ?mzc5 ?mzc6 ?_); (case mzc1 => rfl); (case mzc2 => decide +kernel); (case mzc3 => rfl); (case mzc4 => decide +kernel); (case mzc5 => decide +kernel); (case mzc6 => intro _; rfl)
  k_steps
  dsimp only
  have hdl := hds.1
  rw [List.length_map, List.length_range] at hdl
  refine LcE.intro F0 N0 ?_ (src_list (its := ds.toArray) rfl F0 N0 (.inr ⟨_, .tail _ hm, rfl, _, rfl⟩)) ?_
  · rw [sizeLine_eq, List.size_toArray]; omega
  intro hh
  have e3 : ds.toArray.size = 3 := by rw [List.size_toArray, hdl]
  rw [e3]
  refine comp_inv 3 (CoJ nd fx ((L + 1, o1) :: nw)) ?_ ?_ 3 0 [] _ rfl ⟨[], fun _ h => h, (fun _ h => nomatch h), OffL.nil, RefsI.nil⟩
  · rintro i ys nw2 v I oI C oC D m₂ h8 tk8 hi8 hPz1 hP hC hxx F8 N8 off ne3
    with_reducible refine Classical.byContradiction fun hZq => ?_
    obtain ⟨tl, hsub, htl, hfl, hrf⟩ := hPz1
    refine hZq ?_
    clear hZq
    obtain ⟨Dd, us, n9, hd1, hd2, hd3⟩ := hds.2 i (dueP nd i) (by rw [List.getElem?_map, List.getElem?_range hi8]; rfl)
    have hv : v = Value.ref Dd := by
      have hP' : ds.toArray[i]? = some v := hP
      rw [List.getElem?_toArray, hd1] at hP'
      exact (Option.some.inj hP').symm
    subst hv
    k_steps
    unfold Stop
    refine wpAny_call ?_
    refine' codeAny_at (A' := lv 9) ?a1 ?a2 ?a3 ?a4 ?a5 ?_
    (case a1 => exact rfl); (case a2 => (exact Nat.le_of_ble_eq_true rfl)); (case a3 => (exact Nat.le_of_ble_eq_true rfl)); (case a4 => exact rfl); (case a5 => exact rfl)
    have hb1 := behind_b nd i
    have hd4 : IntsAre us (runsP nd i ++ [behindP nd i]) := hd3
    with_reducible refine' columns_spec w _ _ (gd_of0 X TT F8) Dd us (runsP nd i) (behindP nd i) ?e0 hd4 ?e1 ?e2 hb1 ?_
    (case e0 => exact ⟨_, N8.get (.tail _ (.tail _ (.tail _ (hsub _ (.tail _ (hx _ hd2)))))), rfl, _, rfl⟩)
    (case e1 => exact dueL_b (ptsP nd i))
    (case e2 => exact (lead_len nd i (pts_b hnd i).2).2)
    intro l9 h9 tk9 n8 cs K9 e1 e2 e3
    obtain ⟨F9, N9⟩ := after_one F8 N8 K9 e2 e1
    have nq := AllNq.new N8 e1
    refine LCg.CompEnd.intro F9 N9 ((l9, listOf cs.toArray n8) :: nw2) ?_ ?_ (.inr ⟨_, .tail _ (hsub _ (.tail _ hm)), rfl, _, rfl⟩) ⟨tl ++ [(l9, listOf cs.toArray n8)], fun p hp => .tail _ (hsub p hp), fun p hp => ?_, hfl.snoc fun c hc => ?_, ?_⟩
    · intro p hp
      rcases List.mem_cons.mp hp with rfl | hp
      · exact .tail _ (.head _)
      rcases List.mem_cons.mp hp with rfl | hp
      · exact .tail _ (.tail _ (.head _))
      rcases List.mem_cons.mp hp with rfl | hp
      · exact .tail _ (.tail _ (.tail _ (.head _)))
      rcases List.mem_cons.mp hp with rfl | hp
      · exact .head _
      · exact .tail _ (.tail _ (.tail _ (.tail _ hp)))
    · refine LCg.Off3.of fun p hp => ?_
      rcases List.mem_cons.mp hp with rfl | hp
      · exact ⟨nq_sym nq.1, nq_sym nq.2.1, nq_sym nq.2.2.1⟩
      · exact off.mem p hp
    · rcases List.mem_append.mp hp with hp | hp
      · exact .tail _ (htl p hp)
      · rw [List.mem_singleton.mp hp]; exact .head _
    · obtain ⟨o, ho⟩ := hfx c hc
      exact nq_sym (allNq_mem nq.2.2.2 (c, o) (hsub _ ho))
    · rw [List.range_succ, List.map_append]
      exact (hrf.mono fun p hp => List.mem_append.mpr (.inl hp)).snoc (List.mem_append.mpr (.inr (.head _))) e3
  · rintro ys nw2 hPz1
    with_reducible refine Classical.byContradiction fun hZq => ?_
    obtain ⟨tl, hsub, htl, hfl, hrf⟩ := hPz1
    refine hZq ?_
    clear hZq
    intro D8 h8 tk8 F8 N8 off8
    have o8 := AllNq.off off8
    have hD1 : Nq D8 (L + 1) := nq_sym (allNq_mem o8 (L + 1, o1) (hsub _ (.head _)))
    have hDf : ∀ c ∈ fx, D8 ≠ c := fun c hc => by
      obtain ⟨o, ho⟩ := hfx c hc
      exact nq_sym (allNq_mem o8 (c, o) (hsub _ ho))
    have hall : ∀ p ∈ nw ++ tl, p.1 ≠ L + 1 := fun p hp => by
      rcases List.mem_append.mp hp with hp | hp
      · exact hoff p hp
      · exact hfl.mem hf1 p hp
    have N9 : News g L _ ((D8, LCg.lst ys) :: (L + 1, o1) :: (nw ++ tl)) := fun p hp => N8 p (by
      rcases List.mem_cons.mp hp with rfl | hp
      · exact .head _
      rcases List.mem_cons.mp hp with rfl | hp
      · exact .tail _ (hsub _ (.head _))
      rcases List.mem_append.mp hp with hp | hp
      · exact .tail _ (hsub _ (.tail _ hp))
      · exact .tail _ (htl p hp))
    clear N8
    dsimp only
    k_steps
    rename Obj => o1n
    exact ⟨rfl, D8, ys, _, tl, o1n, by assumption, hrf, hfl, hDf, At.intro (by assumption) (by assumption) (by (first | focus ((repeat (first | exact True.intro | (refine AllAt.keep _ rfl ?_ ?_; (focus decide +kernel)) | (refine AllAt.skip _ rfl ?_ ?_; (focus decide +kernel)))); done) | ((repeat (refine And.intro ?_ ?_; (focus (first | walk_at "m_look" | rfl)))); exact True.intro))) InAll.self⟩

end partBlW1
theorem off_BlY1 : (1 : Nat) = 1 := by
  w_top off
  first | walk1 | rfl
section partBlY1
local macro_rules | `(tactic| walk_at "subscriptTail Name Name ref int") => `(tactic| refine stop_at ?_)
local macro_rules | `(tactic| walk_at "subscriptTail Subscript") => `(tactic| refine stop_at ?_)
local macro_rules | `(tactic| walk_at "call builtin:len") => `(tactic| refine stop_at ?_)
local macro_rules | `(tactic| walk_at "call builtin:str.split") => `(tactic| refine stop_at ?_)
/-- the body of the loop over the rows -/
noncomputable def bodyY : List Stmt := match (lawBS.1.drop 9).head? with
  | some (.For _ _ b _ _) => b
  | _ => []
noncomputable abbrev lawG (wl dl pl nl : Addr) (pg : List Nat) (tp : Tok) (td ld : Addr) : List (Str × Value) := [((PySem.Str.ofString "words"), .ref wl), ((PySem.Str.ofString "dues"), .ref dl), ((PySem.Str.ofString "points"), .ref pl), ((PySem.Str.ofString "lines"), .ref nl), ((PySem.Str.ofString "page"), .str (T pg) tp), ((PySem.Str.ofString "told"), .ref td), ((PySem.Str.ofString "leads"), .ref ld)]
theorem rowY1 (w : World) (L fa : Addr) (cd : Value) (g h0 : Heap) (m0 : Str → Option Value) (gn : Array GenState) (dr : Drawn) (tk : Nat) (os : OsState) (pg : List Nat) (wl dl pl nl td ld : Addr) (tp ti tt : Tok) (tv lvs : List Value) (tn ln : Nat) (nw : List (Addr × Obj)) (o2 : Obj) (a : WsA) (wd : List Nat) (runs : List Int) (b : Int) (i : Nat) {pp : Program} {loose : List Str} {mean : ExcName → Option Value} {mg mb : Str → Option Value}
  (X : (K0 w.params).In g) (TT : Top pp loose mean mg mb g) (c2 : o2.data = .cell (some (.int (i : Int) ti))) (htd : (td, listOf tv.toArray tn) ∈ nw) (hld : (ld, listOf lvs.toArray ln) ∈ nw) (ht : tv[i]? = some (.str (T wd) tt)) (hl : lvs[i]? = some (.ref a.x)) (htl : tv.length ≤ 10) (hll : lvs.length ≤ 10)
  (hwd : wd.length ≤ 200) (hn : 0 ≤ a.n ∧ a.n ≤ wd.length) (hrb : ∀ c ∈ runs ++ [b], 0 ≤ c ∧ c ≤ 1000) (hrl : runs.length ≤ 6) (hlead : wd.take a.n.toNat = leadL runs ++ List.replicate b.toNat 32)
  (F0 : Fr g L h0 (over (lawG wl dl pl nl pg tp td ld) m0)) (N0 : News g L h0 (a.led w ++ ((L + 1 + 1, o2) :: nw))) :
  wpAny (model prog w) (lawA L fa cd) (execs (bodyY.take 1) (lawEnv L fa cd)) (Next (fun s' => ∃ (D8 : Addr) (ys : List Value) (n : Nat), IntsAre ys (runs ++ [b]) ∧ At g L (lawG wl dl pl nl pg tp td ld ++ [((PySem.Str.ofString "runs"), .ref D8)]) ((D8, listOf ys.toArray n) :: (a.led w ++ ((L + 1 + 1, o2) :: nw))) ⟨h0, gn, dr, tk, os⟩ s')) noE ⟨h0, gn, dr, tk, os⟩ := by
  have _kf : (PySem.Challenge.rw_pg0230_01, K0) = (PySem.Challenge.rw_pg0230_01, K0) := by k_fill; rfl
  have e1 : bodyY.take 1 = [_] := rfl
  have e2 : lawBS.2 = ⟨_, _, _, _, _⟩ := rfl
  unfold lawA lawEnv
  rw [e1, e2]
  clear e1 e2
  dsimp only [WsA.led, wsEs, List.cons_append, List.nil_append] at N0
  k_steps
  ((unfold Stop; (with_reducible refine lc_assign (cl := []) ?mzc0 ?mzc1 ?mzc2 ?mzc3 ?mzc4 ?mzc5 ?mzc7 ?mzc8 ?mzc6 ?_); (case mzc0 => exact rfl); (case mzc1 => rfl); (case mzc2 => decide +kernel); (case mzc3 => rfl); (case mzc4 => decide +kernel); (case mzc5 => decide +kernel); (case mzc6 => intro _; rfl); (case mzc7 => exact rfl); (case mzc8 => exact rfl)))
  k_steps
  have hi1 : i < tv.length := (List.getElem?_eq_some_iff.mp ht).1
  have hi2 : i < lvs.length := (List.getElem?_eq_some_iff.mp hl).1
  unfold Stop
  refine kim_list (l := tv) N0 (.tail _ (.tail _ (.tail _ (.tail _ (.tail _ (htd)))))) rfl rfl (by omega) (by omega) (by rw [Int.toNat_natCast]; exact ht) ?_
  k_steps
  unfold Stop
  refine kim_list (l := lvs) N0 (.tail _ (.tail _ (.tail _ (.tail _ (.tail _ (hld)))))) rfl rfl (by omega) (by omega) (by rw [Int.toNat_natCast]; exact hl) ?_
  k_steps
  unfold Stop
  rename Fr _ _ _ _ => F5
  rename News _ _ _ _ => N5
  have hwz : (T wd).length ≤ sizeLine := by rw [T_len, sizeLine_eq]; omega
  refine slice_strN_ns (hsz := hwz) (s := ⟨_, _, _, _, _⟩) F5 N5 ?_
  intro h6 t6 tk6 F6 N6
  rw [slice_T_to hn.1 hn.2, hlead]
  clear F5 N5
  k_steps
  unfold Stop
  rename Fr _ _ _ _ => F7
  rename News _ _ _ _ => N7
  refine PySem.W.KSpl.split1 (s := ⟨_, _, _, _, _⟩) (hsz := ?hsz) F7 N7 (by decide +kernel) ?_
  (case hsz => rw [T_len, sizeLine_eq, ← hlead, List.length_take]; omega)
  intro Dl l8 h8 k8 hmp hs0 F8 N8 lD8
  rw [split_lead] at hmp
  have hs : StrsAre (strValues l8) (((runs ++ [b]).map fun c => List.replicate c.toNat 32).map T) := by rw [← hmp]; exact hs0
  have hsl := hs.length
  rw [List.length_map, List.length_map, List.length_append, List.length_singleton] at hsl
  clear hs0
  generalize strValues l8 = sv at *
  clear F7 N7 hmp
  refine LcA.intro rfl F8 N8 ?_ (src_list (its := sv.toArray) rfl F8 N8 (.inr ⟨_, .head _, rfl, _, rfl⟩)) ?_
  · rw [sizeLine_eq, List.size_toArray]; omega
  intro hh
  refine comp_quiet _ (fun j y => ∃ n t, (runs ++ [b])[j]? = some n ∧ y = .int n t) _ (.inr ⟨_, .head _, rfl, _, rfl⟩) ?_ ?_
  · intro j v I9 oI9 C oC D oD m₂ h9 tk9 hj9 hP hC hx F9 N9 off ne
    have hr : ∃ n t, (runs ++ [b])[j]? = some n ∧ v = .str (T (List.replicate n.toNat 32)) t := by
      with_reducible refine Classical.byContradiction fun hZq => ?_
      obtain ⟨r, t, e1, e2⟩ := strs_at hs (j := j) hj9
      refine hZq ?_
      clear hZq
      rw [List.getElem?_map] at e1
      cases hq : (runs ++ [b])[j]? with
      | none => rw [hq] at e1; cases e1
      | some n =>
        rw [hq] at e1
        cases e1
        refine ⟨n, t, rfl, ?_⟩
        have hP' : sv.toArray[j]? = some v := hP
        rw [Array.getElem?_eq_getElem hj9, e2] at hP'
        exact (Option.some.inj hP').symm
    with_reducible refine Classical.byContradiction fun hZq => ?_
    obtain ⟨n, t, hn9, rfl⟩ := hr
    refine hZq ?_
    clear hZq
    obtain ⟨r1, r2⟩ := hrb n (List.mem_of_getElem? hn9)
    k_steps
    unfold Stop
    refine m_lenT (by rw [List.length_replicate]; omega) ?_
    rw [List.length_replicate, Int.toNat_of_nonneg r1]
    exact QEnd.intro F9 N9 InAll.self ⟨n, _, hn9, rfl⟩
  intro ys hys hT D8 h9 tk9 F9 N9 off8
  dsimp only
  refine wpAny_execs_nil ?_
  have hat := PutL.eq (m := m0) (show PutL (PySem.Str.ofString "runs") (Value.ref D8) (lawG wl dl pl nl pg tp td ld) (lawG wl dl pl nl pg tp td ld ++ [((PySem.Str.ofString "runs"), Value.ref D8)]) by dsimp only [lawG, List.cons_append, List.nil_append]; walk_at "m_put")
  rw [hat] at F9
  have hys2 : IntsAre ys (runs ++ [b]) := ints_of (by rw [hys, List.size_toArray, hsl, List.length_append, List.length_singleton]) hT
  exact ⟨rfl, D8, ys, _, hys2, At.intro F9 N9 (by (first | focus ((repeat (first | exact True.intro | (refine AllAt.keep _ rfl ?_ ?_; (focus decide +kernel)) | (refine AllAt.skip _ rfl ?_ ?_; (focus decide +kernel)))); done) | ((repeat (refine And.intro ?_ ?_; (focus (first | walk_at "m_look" | rfl)))); exact True.intro))) (InAll.keep (InAll.skip InAll.self))⟩

end partBlY1
theorem off_BlY2 : (1 : Nat) = 1 := by
  w_top off
  first | walk1 | rfl
section partBlY2
open PySem.SeqAt
local macro_rules | `(tactic| walk_at "subscriptTail Name Name ref int") => `(tactic| refine stop_at ?_)
local macro_rules | `(tactic| walk_at "call builtin:len") => `(tactic| refine stop_at ?_)
theorem ints_eqv (c d : List Int) : PyData.eqv (.list (c.map PyData.int)) (.list (d.map PyData.int)) = decide (c = d) := by
  simp only [PyData.eqv, ked_eqvAll]
theorem ints_lay (c : List Int) : PyData.canLay0 (.list (c.map PyData.int)) = true := by simp [PyData.canLay0, ke_canLayAll0]
theorem ints_depth (c : List Int) : PyData.depth (.list (c.map PyData.int)) ≤ 1 := by simp [PyData.depth, ke_depthAll]
theorem reads_il {h : Heap} {D : Addr} {vs : List Value} {n : Nat} {ns : List Int} (e : h.get? D = some (listOf vs.toArray n)) (i : IntsAre vs ns) : Reads h (.ref D) (.list (ns.map PyData.int)) [D] := reads_list_at e rfl rfl (by simpa using reads_ints i)
theorem rowY2 (w : World) (L fa : Addr) (cd : Value) (g h0 : Heap) (m0 : Str → Option Value) (gn : Array GenState) (dr : Drawn) (tk : Nat) (os : OsState) (pg : List Nat) (wl dl pl nl td ld D8 Dd : Addr) (tp ti : Tok) (ds lvs ys us : List Value) (dn ln yn un : Nat) (nw : List (Addr × Obj)) (o2 : Obj) (a : WsA) (runs : List Int) (b : Int) (i : Nat) {pp : Program} {loose : List Str} {mean : ExcName → Option Value} {mg mb : Str → Option Value}
  (X : (K0 w.params).In g) (TT : Top pp loose mean mg mb g) (c2 : o2.data = .cell (some (.int (i : Int) ti))) (hdl : (dl, listOf ds.toArray dn) ∈ nw) (hDd : (Dd, listOf us.toArray un) ∈ nw) (hld : (ld, listOf lvs.toArray ln) ∈ nw) (hd : ds[i]? = some (.ref Dd)) (hl : lvs[i]? = some (.ref a.x)) (hdn : ds.length ≤ 10) (hll : lvs.length ≤ 10)
  (hys : IntsAre ys (runs ++ [b])) (hus : IntsAre us (runs ++ [b])) (hrl : runs.length ≤ 6) (hnt : a.nt = (runs.length : Int))
  (F0 : Fr g L h0 (over (lawG wl dl pl nl pg tp td ld ++ [((PySem.Str.ofString "runs"), .ref D8)]) m0)) (N0 : News g L h0 ((D8, listOf ys.toArray yn) :: (a.led w ++ ((L + 1 + 1, o2) :: nw)))) :
  wpAny (model prog w) (lawA L fa cd) (execs ((bodyY.drop 1).take 1) (lawEnv L fa cd)) (Next (fun s' => At g L (lawG wl dl pl nl pg tp td ld ++ [((PySem.Str.ofString "runs"), .ref D8)]) ((D8, listOf ys.toArray yn) :: (a.led w ++ ((L + 1 + 1, o2) :: nw))) ⟨h0, gn, dr, tk, os⟩ s')) noE ⟨h0, gn, dr, tk, os⟩ := by
  have _kf : (PySem.Challenge.rw_pg0230_01, K0) = (PySem.Challenge.rw_pg0230_01, K0) := by k_fill; rfl
  have e1 : (bodyY.drop 1).take 1 = [_] := rfl
  have e2 : lawBS.2 = ⟨_, _, _, _, _⟩ := rfl
  unfold lawA lawEnv
  rw [e1, e2]
  clear e1 e2
  have hi1 : i < ds.length := (List.getElem?_eq_some_iff.mp hd).1
  have hi2 : i < lvs.length := (List.getElem?_eq_some_iff.mp hl).1
  have hyl := hys.length
  rw [List.length_append, List.length_singleton] at hyl
  dsimp only [WsA.led, wsEs, List.cons_append, List.nil_append] at N0
  k_steps
  unfold Stop
  refine kim_list (l := ds) N0 (.tail _ (.tail _ (.tail _ (.tail _ (.tail _ (.tail _ hdl)))))) rfl rfl (by omega) (by omega) (by rw [Int.toNat_natCast]; exact hd) ?_
  k_steps
  unfold Stop
  refine compareNe_reads (reads_il (N0.get (.head _)) hys) (reads_il (N0.get (.tail _ (.tail _ (.tail _ (.tail _ (.tail _ (.tail _ hDd))))))) hus) (ints_lay _) (ints_lay _) ?_ ?_
  · refine Nat.lt_of_le_of_lt (Nat.add_le_add_left (Nat.le_trans (Nat.min_le_left _ _) (ints_depth _)) _) ?_
    exact Nat.le_of_ble_eq_true rfl
  rw [ints_eqv, decide_eq_true rfl]
  k_steps
  unfold Stop
  refine kim_list (l := lvs) N0 (.tail _ (.tail _ (.tail _ (.tail _ (.tail _ (.tail _ hld)))))) rfl rfl (by omega) (by omega) (by rw [Int.toNat_natCast]; exact hl) ?_
  k_steps
  unfold Stop
  refine m_lenL (N0.get (.head _)) (by omega) ?_
  k_steps
  all_goals first | omega | skip
  exact ⟨rfl, At.intro F0 N0 (by (first | focus ((repeat (first | exact True.intro | (refine AllAt.keep _ rfl ?_ ?_; (focus decide +kernel)) | (refine AllAt.skip _ rfl ?_ ?_; (focus decide +kernel)))); done) | ((repeat (refine And.intro ?_ ?_; (focus (first | walk_at "m_look" | rfl)))); exact True.intro))) InAll.self⟩

end partBlY2
theorem off_BlY3 : (1 : Nat) = 1 := by
  w_top off
  first | walk1 | rfl
section partBlY3
local macro_rules | `(tactic| walk_at "subscriptTail Name Name ref int") => `(tactic| refine stop_at ?_)
local macro_rules | `(tactic| walk_at "subscriptTail Name BinOp ref int") => `(tactic| refine stop_at ?_)
local macro_rules | `(tactic| walk_at "subscriptTail Subscript") => `(tactic| refine stop_at ?_)
local macro_rules | `(tactic| walk_at "call builtin:len") => `(tactic| refine stop_at ?_)
theorem dueL_get : ∀ (ns : List Int) (k : Nat) (x : Int) (j : Nat), ns[k]? = some x → j < 3 → (dueL ns)[3 * k + j]? = (chansQ x)[j]?
  | [], _, _, _, h, _ => by simp at h
  | y :: r, 0, x, j, h, hj => by
    cases h
    show (chansQ y ++ dueL r)[3 * 0 + j]? = _
    rw [show 3 * 0 + j = j from Nat.zero_add j, List.getElem?_append_left (show j < (chansQ y).length from hj)]
  | y :: r, k + 1, x, j, h, hj => by
    show (chansQ y ++ dueL r)[3 * (k + 1) + j]? = _
    rw [List.getElem?_append_right (by rw [show (chansQ y).length = 3 from rfl]; omega), show (chansQ y).length = 3 from rfl, show 3 * (k + 1) + j - 3 = 3 * k + j by rw [Nat.mul_succ, Nat.add_right_comm, Nat.add_sub_cancel]]
    exact dueL_get r k x j (by simpa using h) hj
theorem rowY3 (w : World) (L fa : Addr) (cd : Value) (g h0 : Heap) (m0 : Str → Option Value) (gn : Array GenState) (dr : Drawn) (tk : Nat) (os : OsState) (pg : List Nat) (wl dl pl nl td ld D8 P : Addr) (tp ti : Tok) (ps ys pv : List Value) (pn yn un : Nat) (nw : List (Addr × Obj)) (o2 : Obj) (pts : List Int) (b : Int) (i : Nat) {pp : Program} {loose : List Str} {mean : ExcName → Option Value} {mg mb : Str → Option Value}
  (X : (K0 w.params).In g) (TT : Top pp loose mean mg mb g) (c2 : o2.data = .cell (some (.int (i : Int) ti))) (hpl : (pl, listOf ps.toArray pn) ∈ nw) (hP : (P, listOf pv.toArray un) ∈ nw) (hp : ps[i]? = some (.ref P)) (hpn : ps.length ≤ 10)
  (hys : IntsAre ys (dueL pts ++ [b])) (hpv : IntsAre pv pts) (hpb : ∀ x ∈ pts, 0 ≤ x ∧ x < 1000000) (hptl : pts.length ≤ 2)
  (F0 : Fr g L h0 (over (lawG wl dl pl nl pg tp td ld ++ [((PySem.Str.ofString "runs"), .ref D8)]) m0)) (N0 : News g L h0 ((D8, listOf ys.toArray yn) :: (L + 1 + 1, o2) :: nw)) :
  wpAny (model prog w) (lawA L fa cd) (execs (bodyY.drop 2) (lawEnv L fa cd)) (Next (fun s' => At g L (lawG wl dl pl nl pg tp td ld ++ [((PySem.Str.ofString "runs"), .ref D8)]) ((D8, listOf ys.toArray yn) :: (L + 1 + 1, o2) :: nw) ⟨h0, gn, dr, tk, os⟩ s')) noE ⟨h0, gn, dr, tk, os⟩ := by
  have _kf : (PySem.Challenge.rw_pg0230_01, K0) = (PySem.Challenge.rw_pg0230_01, K0) := by k_fill; rfl
  have e1 : bodyY.drop 2 = [_] := rfl
  have e2 : lawBS.2 = ⟨_, _, _, _, _⟩ := rfl
  unfold lawA lawEnv
  rw [e1, e2]
  clear e1 e2
  have hi1 : i < ps.length := (List.getElem?_eq_some_iff.mp hp).1
  have hpvl := hpv.length
  have hdl := dueL_len pts
  have hyl := hys.length
  rw [List.length_append, List.length_singleton] at hyl
  k_steps
  ((unfold Stop; (with_reducible refine for_stmt ?_ ?mzhs); (case mzhs => intro _; rfl)))
  k_steps
  unfold Stop
  refine kim_list (l := ps) N0 (.tail _ (.tail _ hpl)) rfl rfl (by omega) (by omega) (by rw [Int.toNat_natCast]; exact hp) ?_
  k_steps
  unfold Stop
  refine m_lenL (N0.get (.tail _ (.tail _ hP))) (by omega) ?_
  k_steps
  rename IsRange _ _ _ _ _ _ _ _ => hr
  rename Fr _ _ _ _ => F1
  rename News _ _ _ _ => N1
  refine it_range (L := L) (n := pts.length) (fun k lo nw' => lo = lawG wl dl pl nl pg tp td ld ++ [((PySem.Str.ofString "runs"), .ref D8)] ∧ nw' = (D8, listOf ys.toArray yn) :: (L + 1 + 1, o2) :: nw) rfl rfl hr (small_one (by omega) (by omega) (by omega) (by omega)) (by rw [rangeSize_nat]; omega) _ _ F1 N1 (by (first | focus ((repeat (first | exact True.intro | (refine AllAt.keep _ rfl ?_ ?_; (focus decide +kernel)) | (refine AllAt.skip _ rfl ?_ ?_; (focus decide +kernel)))); done) | ((repeat (refine And.intro ?_ ?_; (focus (first | walk_at "m_look" | rfl)))); exact True.intro))) InAll.self ⟨rfl, rfl⟩ ?_ ?_
  · clear F1 N1
    rintro k tk9 I h4 tk4 m4 lo nw' oI hk ⟨rfl, rfl⟩ F4 N4 hne hcl
    rename IntsAre pv _ => hpv
    rename IntsAre ys _ => hys
    have hx : pts[k]? = some pts[k] := List.getElem?_eq_getElem hk
    obtain ⟨x1, x2⟩ := hpb _ (List.getElem_mem hk)
    obtain ⟨tx, htx⟩ := hpv.get k pts[k] hx
    generalize pts[k] = x at *
    have g0 := dueL_get pts k x 0 hx (by decide)
    have g1 := dueL_get pts k x 1 hx (by decide)
    have g2 := dueL_get pts k x 2 hx (by decide)
    obtain ⟨t0, q0⟩ := hys.get (3 * k + 0) (chanQ x 0) (by rw [List.getElem?_append_left (by omega)]; exact g0)
    obtain ⟨t1, q1⟩ := hys.get (3 * k + 1) (chanQ x 1) (by rw [List.getElem?_append_left (by omega)]; exact g1)
    obtain ⟨t2, q2⟩ := hys.get (3 * k + 2) (chanQ x 2) (by rw [List.getElem?_append_left (by omega)]; exact g2)
    dsimp only [lawG, List.cons_append, List.nil_append] at F4
    k_steps
    have hcb := chansQ_b x
    have cb0 := hcb (chanQ x 0) (.head _)
    have cb1 := hcb (chanQ x 1) (.tail _ (.head _))
    have cb2 := hcb (chanQ x 2) (.tail _ (.tail _ (.head _)))
    unfold Stop
    rename Fr _ _ _ _ => F5
    rename News _ _ _ _ => N5
    refine kim_list (l := ys) N5 (.tail _ (.head _)) rfl rfl (by omega) (by omega) (by rw [show (3 * (0 + (k : Int))).toNat = 3 * k + 0 by rw [Int.zero_add]; rfl]; exact q0) ?_
    k_steps
    unfold Stop
    refine kim_list (l := ys) N5 (.tail _ (.head _)) rfl rfl (by omega) (by omega) (by rw [show (3 * (0 + (k : Int)) + 1).toNat = 3 * k + 1 from trice k 1]; exact q1) ?_
    k_steps
    unfold Stop
    refine kim_list (l := ys) N5 (.tail _ (.head _)) rfl rfl (by omega) (by omega) (by rw [show (3 * (0 + (k : Int)) + 2).toNat = 3 * k + 2 from trice k 2]; exact q2) ?_
    k_steps
    unfold Stop
    refine wpAny_call ?_
    refine' codeAny_at (A' := lv 9) ?a1 ?a2 ?a3 ?a4 ?a5 ?_
    (case a1 => exact rfl); (case a2 => (exact Nat.le_of_ble_eq_true rfl)); (case a3 => (exact Nat.le_of_ble_eq_true rfl)); (case a4 => exact rfl); (case a5 => exact rfl)
    with_reducible refine' rgb_spec w _ _ (gd_of0 X TT F5) (chanQ x 0) (chanQ x 1) (chanQ x 2) _ _ _ cb0 cb1 cb2 ?_
    intro V h6 tk6 n6 cs K6 r1 r2 r3 r4
    obtain ⟨F6, N6⟩ := after_one F5 N5 K6 r2 r1
    clear F5 N5
    k_steps
    unfold Stop
    refine kim_list (l := ps) N6 (.tail _ (.tail _ (.tail _ (.tail _ hpl)))) rfl rfl (by omega) (by omega) (by rw [Int.toNat_natCast]; exact hp) ?_
    k_steps
    unfold Stop
    refine kba_turn (value' := PySem.Expr.Name (PySem.Str.ofString "_") ⟨0, 0, 0, 0⟩) (fun _ => rfl) ?_
    refine kim_list (l := pv) N6 (.tail _ (.tail _ (.tail _ (.tail _ hP)))) rfl rfl (by omega) (by omega) (by rw [show (0 + (k : Int)).toNat = k by rw [Int.zero_add]; rfl]; exact htx) ?_
    k_steps
    unfold Stop
    refine wpAny_call ?_
    refine' codeAny_at (A' := lv 9) ?a1 ?a2 ?a3 ?a4 ?a5 ?_
    (case a1 => exact rfl); (case a2 => (exact Nat.le_of_ble_eq_true rfl)); (case a3 => (exact Nat.le_of_ble_eq_true rfl)); (case a4 => exact rfl); (case a5 => exact rfl)
    with_reducible refine' point_spec w _ _ (gd_of0 X TT F6) x _ ⟨x1, x2⟩ ?_
    intro V2 h7 tk7 a7 b7 c7 hpt K7 p2 p3
    obtain ⟨F7, N7⟩ := after_one F6 N6 K7 p3 p2
    clear F6 N6
    k_steps
    unfold Stop
    refine EqBoolInt.of_rcne (pt_ne r3 r4 hpt (none_booked X F7) (N7.get (.tail _ (.head _))) (N7.get (.head _)) (by (exact Nat.le_of_ble_eq_true rfl))) ?_
    k_steps
    exact turned_next _ _ (.inl rfl) F7 N7 (by (first | focus ((repeat (first | exact True.intro | (refine AllAt.keep _ rfl ?_ ?_; (focus decide +kernel)) | (refine AllAt.skip _ rfl ?_ ?_; (focus decide +kernel)))); done) | ((repeat (refine And.intro ?_ ?_; (focus (first | walk_at "m_look" | rfl)))); exact True.intro))) InAll.self.skip.skip hne ⟨rfl, rfl⟩
  · rintro h4 tk4 m4 lo nw' ⟨rfl, rfl⟩ F4 N4
    k_steps
    exact ⟨rfl, At.intro F4 N4 (by (first | focus ((repeat (first | exact True.intro | (refine AllAt.keep _ rfl ?_ ?_; (focus decide +kernel)) | (refine AllAt.skip _ rfl ?_ ?_; (focus decide +kernel)))); done) | ((repeat (refine And.intro ?_ ?_; (focus (first | walk_at "m_look" | rfl)))); exact True.intro))) InAll.self⟩

end partBlY3
theorem off_BlY4 : (1 : Nat) = 1 := by
  w_top off
  first | walk1 | rfl
section partBlY4
local macro_rules | `(tactic| k_all) => `(tactic| with_reducible assumption)
/-- what the rows' loop asks of a row -/
noncomputable def RowQ (w : World) (nd : Nat → Int) (tv lvs : List Value) (nw : List (Addr × Obj)) (r : Nat) : Prop :=
  ∃ (a : WsA) (t : Tok), tv[r]? = some (Value.str (T (wordP nd r)) t) ∧ lvs[r]? = some (Value.ref a.x) ∧ (∀ p ∈ a.led w, p ∈ nw) ∧ (0 ≤ a.n ∧ a.n ≤ (wordP nd r).length) ∧ (wordP nd r).take a.n.toNat = leadL (runsP nd r) ++ List.replicate (behindP nd r).toNat 32 ∧ a.nt = ((runsP nd r).length : Int)
noncomputable def YJ (L wl dl pl nl : Addr) (pg : List Nat) (tp : Tok) (td ld : Addr) (nw0 : List (Addr × Obj)) (i : Nat) (lo : List (Str × Value)) (nw : List (Addr × Obj)) : Prop :=
  ∃ (o2 : Obj) (v : Option Value), lo = lawG wl dl pl nl pg tp td ld ∧ nw = (L + 1 + 1, o2) :: nw0 ∧ o2.data = .cell v
theorem blkY (w : World) (L fa : Addr) (cd : Value) (g h0 : Heap) (m0 : Str → Option Value) (gn : Array GenState) (dr : Drawn) (tk : Nat) (os : OsState) (nd : Nat → Int) (hnd : ∀ i, 0 ≤ nd i ∧ nd i < 1000000) (pg : List Nat) (wl dl pl nl td ld : Addr) (tp : Tok) (tv lvs ds ps : List Value) (tn ln dn pn : Nat) (tlx nw : List (Addr × Obj)) (o2 : Obj) (v2 : Option Value) {pp : Program} {loose : List Str} {mean : ExcName → Option Value} {mg mb : Str → Option Value}
  (X : (K0 w.params).In g) (TT : Top pp loose mean mg mb g) (c2 : o2.data = .cell v2) (hoff : ∀ p ∈ nw, p.1 ≠ L + 1 + 1) (htd : (td, listOf tv.toArray tn) ∈ nw) (hld : (ld, listOf lvs.toArray ln) ∈ nw) (hdl : (dl, listOf ds.toArray dn) ∈ nw) (hpl : (pl, listOf ps.toArray pn) ∈ nw) (hx : ∀ p ∈ tlx, p ∈ nw)
  (hds : RefsI tlx ds ((List.range 3).map (dueP nd))) (hps : RefsI tlx ps ((List.range 3).map (ptsP nd))) (hq : ∀ r, r < 3 → RowQ w nd tv lvs nw r) (htl : tv.length ≤ 10) (hll : lvs.length ≤ 10)
  (F0 : Fr g L h0 (over (lawG wl dl pl nl pg tp td ld) m0)) (N0 : News g L h0 ((L + 1 + 1, o2) :: nw)) :
  wpAny (model prog w) (lawA L fa cd) (execs ((lawBS.1.drop 9).take 1) (lawEnv L fa cd)) (Next (fun s' => ∃ lo nw', YJ L wl dl pl nl pg tp td ld nw 3 lo nw' ∧ At g L lo nw' ⟨h0, gn, dr, tk, os⟩ s')) noE ⟨h0, gn, dr, tk, os⟩ := by
  have _kf : (PySem.Challenge.rw_pg0230_01, K0) = (PySem.Challenge.rw_pg0230_01, K0) := by k_fill; rfl
  have e1 : (lawBS.1.drop 9).take 1 = [.For _ _ bodyY [] _] := rfl
  have e2 : lawBS.2 = ⟨_, _, _, _, _⟩ := rfl
  unfold lawA lawEnv
  rw [e1, e2]
  clear e1 e2
  refine wpAny_execs_cons ?_
  with_reducible refine for_stmt ?_ ?mzhs
  (case mzhs => intro _; rfl)
  k_steps
  rename IsRange _ _ _ _ _ _ _ _ => hr
  rename Fr _ _ _ _ => F1
  rename News _ _ _ _ => N1
  refine it_range (L := L) (n := 3) (YJ L wl dl pl nl pg tp td ld nw) rfl rfl hr (by decide) rfl (lawG wl dl pl nl pg tp td ld) ((L + 1 + 1, o2) :: nw) F1 N1 (by (first | focus ((repeat (first | exact True.intro | (refine AllAt.keep _ rfl ?_ ?_; (focus decide +kernel)) | (refine AllAt.skip _ rfl ?_ ?_; (focus decide +kernel)))); done) | ((repeat (refine And.intro ?_ ?_; (focus (first | walk_at "m_look" | rfl)))); exact True.intro))) InAll.self ⟨o2, v2, rfl, rfl, c2⟩ ?_ ?_
  · clear F1 N1
    rintro i ti I h3 tk3 m3 lo nw' oI hi hPz1 F3 N3 hne hcl
    with_reducible refine Classical.byContradiction fun hZq => ?_
    obtain ⟨o2', v', rfl, rfl, c2'⟩ := hPz1
    refine hZq ?_
    clear hZq
    with_reducible refine Classical.byContradiction fun hZq => ?_
    obtain ⟨a, t, q1, q2, q3, q4, q5, q6⟩ := hq i hi
    refine hZq ?_
    clear hZq
    have hIc : Nq I (L + 1 + 1) := Ne.symm hne.1
    dsimp only [lawG, List.cons_append, List.nil_append] at F3
    refine assign_Name ?_
    walk1
    rename Obj => o2n
    rename o2n.data = _ => c2n
    rename Fr _ _ _ _ => F4
    rename News _ _ _ _ => N4
    rw [Int.zero_add] at c2n
    obtain ⟨Dd, us, un, d1, d2, d3⟩ := hds.2 i (dueP nd i) (by rw [List.getElem?_map, List.getElem?_range hi]; rfl)
    obtain ⟨P, pv, pvn, p1, p2, p3⟩ := hps.2 i (ptsP nd i) (by rw [List.getElem?_map, List.getElem?_range hi]; rfl)
    obtain ⟨hpb, hptl⟩ := pts_b hnd i
    have hdl3 := hds.1
    have hps3 := hps.1
    rw [List.length_map, List.length_range] at hdl3 hps3
    have hb18 := behind_b nd i
    have hwl := word_len nd i hptl
    have hrl := (lead_len nd i hptl).2
    have hrb : ∀ c ∈ runsP nd i ++ [behindP nd i], 0 ≤ c ∧ c ≤ 1000 := fun c hc => by
      rcases List.mem_append.mp hc with hc | hc
      · have := dueL_b (ptsP nd i) c hc
        omega
      · rw [List.mem_singleton.mp hc]; omega
    have N5 : News g L _ (a.led w ++ ((L + 1 + 1, o2n) :: (I, oI) :: nw)) := fun p hp => N4 p (by
      rcases List.mem_append.mp hp with hp | hp
      · exact .tail _ (.tail _ (q3 p hp))
      rcases List.mem_cons.mp hp with rfl | hp
      · exact .tail _ (.head _)
      rcases List.mem_cons.mp hp with rfl | hp
      · exact .head _
      · exact .tail _ (.tail _ hp))
    refine cutN 1 _ (rowY1 w L fa cd g _ m3 gn dr _ os pg wl dl pl nl td ld tp ti t tv lvs tn ln ((I, oI) :: nw) o2n a (wordP nd i) (runsP nd i) (behindP nd i) i X TT c2n (.tail _ htd) (.tail _ hld) q1 q2 htl hll (by omega) q4 hrb hrl q5 F4 N5) ?_
    clear F4 N4 N5
    rintro s6 hPz1
    with_reducible refine Classical.byContradiction fun hZq => ?_
    obtain ⟨D8, ys, yn, hys, h6, tk6, m6, rfl, F6, N6⟩ := hPz1
    refine hZq ?_
    clear hZq
    refine cutN 1 _ (rowY2 w L fa cd g h6 m6 gn dr tk6 os pg wl dl pl nl td ld D8 Dd tp ti ds lvs ys us dn ln yn un ((I, oI) :: nw) o2n a (runsP nd i) (behindP nd i) i X TT c2n (.tail _ hdl) (.tail _ (hx _ d2)) (.tail _ hld) d1 q2 (by omega) hll hys d3 hrl q6 F6 N6) ?_
    clear F6 N6
    rintro s7 hPz1
    with_reducible refine Classical.byContradiction fun hZq => ?_
    obtain ⟨h7, tk7, m7, rfl, F7, N7⟩ := hPz1
    refine hZq ?_
    clear hZq
    refine wpAny_mono (rowY3 w L fa cd g h7 m7 gn dr tk7 os pg wl dl pl nl td ld D8 P tp ti ps ys pv pn yn pvn ((I, oI) :: nw) o2n (ptsP nd i) (behindP nd i) i X TT c2n (.tail _ hpl) (.tail _ (hx _ p2)) p1 (by omega) hys p3 hpb hptl F7 (fun p hp => N7 p ?_)) ?_ fun _ _ x => x
    · rcases List.mem_cons.mp hp with rfl | hp
      · exact .head _
      · exact .tail _ (List.mem_append.mpr (.inr hp))
    clear F7 N7
    rintro fl s8 hPz1
    with_reducible refine Classical.byContradiction fun hZq => ?_
    obtain ⟨rfl, h8, tk8, m8, rfl, F8, N8⟩ := hPz1
    refine hZq ?_
    clear hZq
    exact turned_next (lawG wl dl pl nl pg tp td ld) ((L + 1 + 1, o2n) :: nw) (.inl rfl) F8 N8 (by (first | focus ((repeat (first | exact True.intro | (refine AllAt.keep _ rfl ?_ ?_; (focus decide +kernel)) | (refine AllAt.skip _ rfl ?_ ?_; (focus decide +kernel)))); done) | ((repeat (refine And.intro ?_ ?_; (focus (first | walk_at "m_look" | rfl)))); exact True.intro))) ⟨.tail _ (.tail _ (.head _)), .tail _ (.head _), inAll_of fun p hp => .tail _ (.tail _ (.tail _ hp))⟩ ⟨hne.1, hne.2⟩ ⟨o2n, _, rfl, rfl, c2n⟩
  · rintro h3 tk3 m3 lo nw' hJ F3 N3
    refine wpAny_execs_nil ?_
    exact ⟨rfl, lo, nw', hJ, h3, tk3, m3, rfl, F3, N3⟩

end partBlY4
theorem off_BlZ1 : (1 : Nat) = 1 := by
  w_top off
  first | walk1 | rfl
section partBlZ1
local macro_rules | `(tactic| walk_at "subscriptTail Name Name ref int") => `(tactic| refine stop_at ?_)
local macro_rules | `(tactic| walk_at "subscriptTail Subscript") => `(tactic| refine stop_at ?_)
/-- the body of the loop over the pairs -/
noncomputable def bodyZ : List Stmt := match (lawBS.1.drop 10).head? with
  | some (.For _ _ b _ _) => b
  | _ => []
noncomputable abbrev colQ (nd : Nat → Int) (r : Nat) (s : Nat) : Int := depthP (1 + (s : Int)) 0 (runsP nd r) + behindP nd r
noncomputable def tripP (nd : Nat → Int) (i j : Nat) (k : Nat) : List (Int × Int × Int) := (List.range k).map fun s : Nat => (1 + (s : Int), colQ nd i s, colQ nd j s)
noncomputable def ZJ (L : Addr) (nd : Nat → Int) (i j : Nat) (o1 o2 o3 : Obj) (nw0 : List (Addr × Obj)) (k : Nat) (ys : List Value) (nw : List (Addr × Obj)) : Prop :=
  ∃ tl, nw = (L + 1, o1) :: (L + 1 + 1, o2) :: (L + 1 + 1 + 1, o3) :: (nw0 ++ tl) ∧ TupsL tl ys (tripP nd i j k)
theorem rowZ1 (w : World) (L fa : Addr) (cd : Value) (g h0 : Heap) (m0 : Str → Option Value) (gn : Array GenState) (dr : Drawn) (tk : Nat) (os : OsState) (nd : Nat → Int) (pg : List Nat) (wl dl pl nl td ld e0 Ei Ej : Addr) (tp ti tj : Tok) (ev eiv ejv : List Value) (en ein ejn : Nat) (nw : List (Addr × Obj)) (o1 o2 o3 : Obj) (i j : Nat) {pp : Program} {loose : List Str} {mean : ExcName → Option Value} {mg mb : Str → Option Value}
  (X : (K0 w.params).In g) (TT : Top pp loose mean mg mb g) (c1 : o1.data = .cell (some (.ref e0))) (c2 : o2.data = .cell (some (.int (i : Int) ti))) (c3 : o3.data = .cell (some (.int (j : Int) tj))) (he : (e0, listOf ev.toArray en) ∈ nw) (hEi : (Ei, listOf eiv.toArray ein) ∈ nw) (hEj : (Ej, listOf ejv.toArray ejn) ∈ nw) (hevl : ev.length = 3)
  (hei : ev[i]? = some (.ref Ei)) (hej : ev[j]? = some (.ref Ej)) (hii : IntsAre eiv (endsP nd i)) (hij : IntsAre ejv (endsP nd j))
  (F0 : Fr g L h0 (over (lawG wl dl pl nl pg tp td ld) m0)) (N0 : News g L h0 ((L + 1, o1) :: (L + 1 + 1, o2) :: (L + 1 + 1 + 1, o3) :: nw)) :
  wpAny (model prog w) (lawA L fa cd) (execs (bodyZ.take 1) (lawEnv L fa cd)) (Next (fun s' => ∃ (Tr : Addr) (ys : List Value) (n : Nat) (tl : List (Addr × Obj)), TupsL tl ys (tripP nd i j 20) ∧ At g L (lawG wl dl pl nl pg tp td ld ++ [((PySem.Str.ofString "triples"), .ref Tr)]) ((Tr, listOf ys.toArray n) :: (L + 1, o1) :: (L + 1 + 1, o2) :: (L + 1 + 1 + 1, o3) :: (nw ++ tl)) ⟨h0, gn, dr, tk, os⟩ s')) noE ⟨h0, gn, dr, tk, os⟩ := by
  have _kf : (PySem.Challenge.rw_pg0230_01, K0) = (PySem.Challenge.rw_pg0230_01, K0) := by k_fill; rfl
  have e1 : bodyZ.take 1 = [_] := rfl
  have e2 : lawBS.2 = ⟨_, _, _, _, _⟩ := rfl
  unfold lawA lawEnv
  rw [e1, e2]
  clear e1 e2
  have hi1 : i < ev.length := (List.getElem?_eq_some_iff.mp hei).1
  have hj1 : j < ev.length := (List.getElem?_eq_some_iff.mp hej).1
  k_steps
  unfold Stop
  (with_reducible refine' lc_assign ?mzc0 ?mzc1 ?mzc2 ?mzc3 ?mzc4 ?mzc5 ?mzc7 ?mzc8 ?mzc6 ?_)
  (case mzc0 => exact rfl)
  (case mzc1 => rfl)
  (case mzc2 => decide +kernel)
  (case mzc3 => rfl)
  (case mzc4 => decide +kernel)
  (case mzc5 => decide +kernel)
  (case mzc6 => intro _; rfl)
  (case mzc7 => exact rfl)
  (case mzc8 => exact rfl)
  k_steps
  dsimp only
  rename IsRange _ _ _ _ _ _ _ _ => hr
  rename Fr _ _ _ _ => F1
  rename News _ _ _ _ => N1
  refine LcA.intro rfl F1 N1 ?_ (src_range (n := 20) rfl hr (by decide) rfl) ?_
  · rw [sizeLine_eq]; decide
  intro hh
  refine comp_inv 20 (ZJ L nd i j o1 o2 o3 nw) ?_ ?_ 20 0 [] _ rfl ⟨[], by rw [List.append_nil], .nil⟩
  · rintro k ys nw2 v I oI C oC D m₂ h8 tk8 hk8 hPz1 hP hC hxx F8 N8 off ne3
    with_reducible refine Classical.byContradiction fun hZq => ?_
    obtain ⟨tl, rfl, htl⟩ := hPz1
    refine hZq ?_
    clear hZq
    obtain ⟨ts, rfl⟩ := hP
    obtain ⟨t1, y1⟩ := hii.get k (colQ nd i k) (colsP_get _ _ k hk8)
    obtain ⟨t2, y2⟩ := hij.get k (colQ nd j k) (colsP_get _ _ k hk8)
    have hil := hii.length
    have hjl := hij.length
    rw [show (endsP nd i).length = 20 by simp [colsP]] at hil
    rw [show (endsP nd j).length = 20 by simp [colsP]] at hjl
    k_steps
    unfold Stop
    refine kim_list (l := ev) N8 (.tail _ (.tail _ (.tail _ (.tail _ (.tail _ (.tail _ (List.mem_append.mpr (.inl he)))))))) rfl rfl (by omega) (by omega) (by rw [Int.toNat_natCast]; exact hei) ?_
    k_steps
    unfold Stop
    refine kba_turn (value' := PySem.Expr.Name (PySem.Str.ofString "_") ⟨0, 0, 0, 0⟩) (fun _ => rfl) ?_
    refine kim_list (l := eiv) N8 (.tail _ (.tail _ (.tail _ (.tail _ (.tail _ (.tail _ (List.mem_append.mpr (.inl hEi)))))))) rfl rfl (by omega) (by omega) (by rw [show (1 + (k : Int) - 1).toNat = k by omega]; exact y1) ?_
    k_steps
    unfold Stop
    refine kim_list (l := ev) N8 (.tail _ (.tail _ (.tail _ (.tail _ (.tail _ (.tail _ (List.mem_append.mpr (.inl he)))))))) rfl rfl (by omega) (by omega) (by rw [Int.toNat_natCast]; exact hej) ?_
    k_steps
    unfold Stop
    refine kba_turn (value' := PySem.Expr.Name (PySem.Str.ofString "_") ⟨0, 0, 0, 0⟩) (fun _ => rfl) ?_
    refine kim_list (l := ejv) N8 (.tail _ (.tail _ (.tail _ (.tail _ (.tail _ (.tail _ (List.mem_append.mpr (.inl hEj)))))))) rfl rfl (by omega) (by omega) (by rw [show (1 + (k : Int) - 1).toNat = k by omega]; exact y2) ?_
    k_steps
    rename Addr => V
    rename _ ∧ _ => lV
    rename Fr _ _ _ _ => F9
    rename News _ _ _ _ => N9
    with_reducible refine Classical.byContradiction fun hZq => ?_
    obtain ⟨v1, v2, v3, v4, v5, v6, v7⟩ := lV
    refine hZq ?_
    clear hZq
    obtain ⟨ka, kb, kc, N9⟩ : ∃ ka kb kc, News g _ _ ((V, tup3 (1 + (k : Int)) (colQ nd i k) (colQ nd j k) ka kb kc) :: (I, oI) :: (C, oC) :: (D, LCg.lst ys) :: (L + 1, o1) :: (L + 1 + 1, o2) :: (L + 1 + 1 + 1, o3) :: (nw ++ tl)) := ⟨_, _, _, N9⟩
    refine LCg.CompEnd.intro F9 N9 ((L + 1, o1) :: (L + 1 + 1, o2) :: (L + 1 + 1 + 1, o3) :: (nw ++ (tl ++ [(V, tup3 (1 + (k : Int)) (colQ nd i k) (colQ nd j k) ka kb kc)]))) (fun p hp => ?_) (LCg.Off3.of fun p hp => ?_) trivial ⟨tl ++ [(V, tup3 (1 + (k : Int)) (colQ nd i k) (colQ nd j k) ka kb kc)], rfl, by unfold tripP; rw [List.range_succ, List.map_append]; exact htl.snoc⟩
    · rcases List.mem_cons.mp hp with rfl | hp
      · exact .tail _ (.head _)
      rcases List.mem_cons.mp hp with rfl | hp
      · exact .tail _ (.tail _ (.head _))
      rcases List.mem_cons.mp hp with rfl | hp
      · exact .tail _ (.tail _ (.tail _ (.head _)))
      rcases List.mem_cons.mp hp with rfl | hp
      · exact .tail _ (.tail _ (.tail _ (.tail _ (.head _))))
      rcases List.mem_cons.mp hp with rfl | hp
      · exact .tail _ (.tail _ (.tail _ (.tail _ (.tail _ (.head _)))))
      rcases List.mem_cons.mp hp with rfl | hp
      · exact .tail _ (.tail _ (.tail _ (.tail _ (.tail _ (.tail _ (.head _))))))
      rcases List.mem_append.mp hp with hp | hp
      · exact .tail _ (.tail _ (.tail _ (.tail _ (.tail _ (.tail _ (.tail _ (List.mem_append.mpr (.inl hp))))))))
      rcases List.mem_append.mp hp with hp | hp
      · exact .tail _ (.tail _ (.tail _ (.tail _ (.tail _ (.tail _ (.tail _ (List.mem_append.mpr (.inr hp))))))))
      · rw [List.mem_singleton.mp hp]; exact .head _
    · rcases List.mem_cons.mp hp with rfl | hp
      · exact off.mem (L + 1, o1) (.head _)
      rcases List.mem_cons.mp hp with rfl | hp
      · exact off.mem (L + 1 + 1, o2) (.tail _ (.head _))
      rcases List.mem_cons.mp hp with rfl | hp
      · exact off.mem (L + 1 + 1 + 1, o3) (.tail _ (.tail _ (.head _)))
      rcases List.mem_append.mp hp with hp | hp
      · exact off.mem p (.tail _ (.tail _ (.tail _ (List.mem_append.mpr (.inl hp)))))
      rcases List.mem_append.mp hp with hp | hp
      · exact off.mem p (.tail _ (.tail _ (.tail _ (List.mem_append.mpr (.inr hp)))))
      · rw [List.mem_singleton.mp hp]; exact ⟨Nat.ne_of_gt v1, Nat.ne_of_gt v2, Nat.ne_of_gt v3⟩
  · rintro ys nw2 hPz1
    with_reducible refine Classical.byContradiction fun hZq => ?_
    obtain ⟨tl, rfl, htl⟩ := hPz1
    refine hZq ?_
    clear hZq
    intro D8 h8 tk8 F8 N8 off8
    dsimp only
    refine wpAny_execs_nil ?_
    have hat := PutL.eq (m := m0) (show PutL (PySem.Str.ofString "triples") (Value.ref D8) (lawG wl dl pl nl pg tp td ld) (lawG wl dl pl nl pg tp td ld ++ [((PySem.Str.ofString "triples"), Value.ref D8)]) by dsimp only [lawG, List.cons_append, List.nil_append]; walk_at "m_put")
    rw [hat] at F8
    exact ⟨rfl, D8, ys, _, tl, htl, At.intro F8 N8 (by (first | focus ((repeat (first | exact True.intro | (refine AllAt.keep _ rfl ?_ ?_; (focus decide +kernel)) | (refine AllAt.skip _ rfl ?_ ?_; (focus decide +kernel)))); done) | ((repeat (refine And.intro ?_ ?_; (focus (first | walk_at "m_look" | rfl)))); exact True.intro))) InAll.self⟩

end partBlZ1
theorem off_BlZ2 : (1 : Nat) = 1 := by
  w_top off
  first | walk1 | rfl
section partBlZ2
open PySem.SeqAt
local macro_rules | `(tactic| walk_at "subscriptTail Name Name ref int") => `(tactic| refine stop_at ?_)
local macro_rules | `(tactic| walk_at "subscriptTail Subscript") => `(tactic| refine stop_at ?_)
local macro_rules | `(tactic| walk_at "call builtin:sorted") => `(tactic| refine stop_at ?_)
local macro_rules | `(tactic| walk_at "compareOp Eq ref ref") => `(tactic| refine stop_at ?_)
theorem butlast_ints {vs : List Value} {r : List Int} {b : Int} (h : IntsAre vs (r ++ [b])) : IntsAre (slicePick vs.toArray none (some (-1)) none).toList r := by
  have e : vs.length = r.length + 1 := by rw [h.length, List.length_append]; rfl
  rw [show ((-1 : Int)) = (-((1 : Nat) : Int)) from rfl, slicePick_butLast _ 1 (Nat.le_refl _)]
  have h2 := h.take r.length
  rw [List.take_left] at h2
  simpa [e] using h2
theorem last_ints {vs : List Value} {r : List Int} {b : Int} (h : IntsAre vs (r ++ [b])) : ∃ t, vs[r.length]? = some (.int b t) := by
  obtain ⟨t, e⟩ := h.get r.length b (by rw [List.getElem?_append_right (Nat.le_refl _), Nat.sub_self]; rfl)
  exact ⟨t, e⟩
theorem rowZ2 (w : World) (L fa : Addr) (cd : Value) (g h0 : Heap) (m0 : Str → Option Value) (gn : Array GenState) (dr : Drawn) (tk : Nat) (os : OsState) (pg : List Nat) (wl dl pl nl td ld Tr Di Dj : Addr) (tp ti tj : Tok) (ds ui uj : List Value) (dn un ujn : Nat) (nw : List (Addr × Obj)) (o1 o2 o3 : Obj) (v1 : Option Value) (i j : Nat) (ri rj : List Int) (bi bj : Int) {pp : Program} {loose : List Str} {mean : ExcName → Option Value} {mg mb : Str → Option Value}
  (X : (K0 w.params).In g) (TT : Top pp loose mean mg mb g) (c1 : o1.data = .cell v1) (c2 : o2.data = .cell (some (.int (i : Int) ti))) (c3 : o3.data = .cell (some (.int (j : Int) tj)))
  (hdl : (dl, listOf ds.toArray dn) ∈ nw) (hDi : (Di, listOf ui.toArray un) ∈ nw) (hDj : (Dj, listOf uj.toArray ujn) ∈ nw) (hdn : ds.length ≤ 10) (hei : ds[i]? = some (.ref Di)) (hej : ds[j]? = some (.ref Dj)) (hii : IntsAre ui (ri ++ [bi])) (hij : IntsAre uj (rj ++ [bj])) (hri : ri.length ≤ 6) (hrj : rj.length ≤ 6)
  (F0 : Fr g L h0 (over (lawG wl dl pl nl pg tp td ld ++ [((PySem.Str.ofString "triples"), .ref Tr)]) m0)) (N0 : News g L h0 ((L + 1, o1) :: (L + 1 + 1, o2) :: (L + 1 + 1 + 1, o3) :: nw)) :
  wpAny (model prog w) (lawA L fa cd) (execs ((bodyZ.drop 1).take 1) (lawEnv L fa cd)) (Next (fun s' => ∃ bb : Bool, (bb = true ↔ ri.Perm rj ∧ bi = bj) ∧ At g L (lawG wl dl pl nl pg tp td ld ++ [((PySem.Str.ofString "triples"), .ref Tr), ((PySem.Str.ofString "alike"), .bool bb)]) ((L + 1, o1) :: (L + 1 + 1, o2) :: (L + 1 + 1 + 1, o3) :: nw) ⟨h0, gn, dr, tk, os⟩ s')) noE ⟨h0, gn, dr, tk, os⟩ := by
  have _kf : (PySem.Challenge.rw_pg0230_01, K0) = (PySem.Challenge.rw_pg0230_01, K0) := by k_fill; rfl
  have e1 : (bodyZ.drop 1).take 1 = [_] := rfl
  have e2 : lawBS.2 = ⟨_, _, _, _, _⟩ := rfl
  unfold lawA lawEnv
  rw [e1, e2]
  clear e1 e2
  have hi1 : i < ds.length := (List.getElem?_eq_some_iff.mp hei).1
  have hj1 : j < ds.length := (List.getElem?_eq_some_iff.mp hej).1
  have hil := hii.length
  have hjl := hij.length
  rw [List.length_append, List.length_singleton] at hil hjl
  have hbi := butlast_ints hii
  have hbj := butlast_ints hij
  k_steps
  unfold Stop
  refine kim_list (l := ds) N0 (.tail _ (.tail _ (.tail _ hdl))) rfl rfl (by omega) (by omega) (by rw [Int.toNat_natCast]; exact hei) ?_
  k_steps
  unfold Stop
  rename Fr _ _ _ _ => F1
  rename News _ _ _ _ => N1
  refine kba_turn (value' := PySem.Expr.Name (PySem.Str.ofString "_") ⟨0, 0, 0, 0⟩) (fun _ => rfl) ?_
  refine kmk_slice_ints (s := ⟨_, _, _, _, _⟩) (c := ri.length) F1 N1 ⟨_, N1.get (.tail _ (.tail _ (.tail _ hDi))), rfl, _, rfl⟩ .none (.int (-1) _) hii hbi rfl ?_ (by with_unfolding_all rfl) (by intro _; with_unfolding_all rfl) (by rw [sizeLine_eq, List.size_toArray]; omega)
  intro D1 w1 h1 F2 N2 l1 hw1 q1 q2
  clear q1 q2 F1 N1 l1
  k_steps
  unfold Stop
  refine kso_sorted F2 N2 ⟨_, N2.get (.head _), rfl, _, rfl⟩ hw1 (by omega) ?_
  intro D2 s2 m2 n2 h2 F3 N3 l2 hs2 e2 p2 o2' _
  clear F2 N2 l2
  k_steps
  unfold Stop
  refine kim_list (l := ds) N3 (.tail _ (.tail _ (.tail _ (.tail _ (.tail _ hdl))))) rfl rfl (by omega) (by omega) (by rw [Int.toNat_natCast]; exact hej) ?_
  k_steps
  unfold Stop
  rename Fr _ _ _ _ => F4
  rename News _ _ _ _ => N4
  refine kba_turn (value' := PySem.Expr.Name (PySem.Str.ofString "_") ⟨0, 0, 0, 0⟩) (fun _ => rfl) ?_
  refine kmk_slice_ints (s := ⟨_, _, _, _, _⟩) (c := rj.length) F4 N4 ⟨_, N4.get (.tail _ (.tail _ (.tail _ (.tail _ (.tail _ hDj))))), rfl, _, rfl⟩ .none (.int (-1) _) hij hbj rfl ?_ (by with_unfolding_all rfl) (by intro _; with_unfolding_all rfl) (by rw [sizeLine_eq, List.size_toArray]; omega)
  intro D3 w3 h3 F5 N5 l3 hw3 q1 q2
  clear q1 q2 F4 N4 l3
  k_steps
  unfold Stop
  refine kso_sorted F5 N5 ⟨_, N5.get (.head _), rfl, _, rfl⟩ hw3 (by omega) ?_
  intro D4 s4 m4 n4 h4 F6 N6 l4 hs4 e4 p4 o4 _
  clear F5 N5 l4
  k_steps
  unfold Stop
  rename Fr _ _ _ _ => F7
  rename News _ _ _ _ => N7
  refine compareEq_reads (reads_il (N7.get (.tail _ (.tail _ (.head _)))) hs2) (reads_il (N7.get (.head _)) hs4) (ints_lay _) (ints_lay _) ?_ ?_
  · refine Nat.lt_of_le_of_lt (Nat.add_le_add_left (Nat.le_trans (Nat.min_le_left _ _) (ints_depth _)) _) ?_
    exact Nat.le_of_ble_eq_true rfl
  rw [ints_eqv]
  have hperm : m2 = m4 ↔ ri.Perm rj := by
    constructor
    · intro e; subst e; exact p2.symm.trans p4
    · intro e
      exact (p2.trans (e.trans p4.symm)).eq_of_pairwise (fun a b _ _ h1 h2 => Int.le_antisymm h1 h2) o2' o4
  by_cases hm : m2 = m4
  · rw [decide_eq_true hm]
    k_steps
    unfold Stop
    refine kim_list (l := ds) N7 (.tail _ (.tail _ (.tail _ (.tail _ (.tail _ (.tail _ (.tail _ hdl))))))) rfl rfl (by omega) (by omega) (by rw [Int.toNat_natCast]; exact hei) ?_
    k_steps
    unfold Stop
    refine kba_turn (value' := PySem.Expr.Name (PySem.Str.ofString "_") ⟨0, 0, 0, 0⟩) (fun _ => rfl) ?_
    refine kim_back (l := ui) N7 (.tail _ (.tail _ (.tail _ (.tail _ (.tail _ (.tail _ (.tail _ hDi))))))) rfl rfl (by decide) (by omega) (by decide) (by rw [hil, back_one]; exact (last_ints hii).choose_spec) ?_
    k_steps
    unfold Stop
    refine kim_list (l := ds) N7 (.tail _ (.tail _ (.tail _ (.tail _ (.tail _ (.tail _ (.tail _ hdl))))))) rfl rfl (by omega) (by omega) (by rw [Int.toNat_natCast]; exact hej) ?_
    k_steps
    unfold Stop
    refine kba_turn (value' := PySem.Expr.Name (PySem.Str.ofString "_") ⟨0, 0, 0, 0⟩) (fun _ => rfl) ?_
    refine kim_back (l := uj) N7 (.tail _ (.tail _ (.tail _ (.tail _ (.tail _ (.tail _ (.tail _ hDj))))))) rfl rfl (by decide) (by omega) (by decide) (by rw [hjl, back_one]; exact (last_ints hij).choose_spec) ?_
    k_steps
    rename Fr _ _ _ _ => F8
    rename News _ _ _ _ => N8
    refine ⟨rfl, _, (beq_iff_eq (a := bi) (b := bj)).trans ⟨fun e => ⟨hperm.mp hm, e⟩, fun e => e.2⟩, At.intro F8 N8 ?_ (inAll_of fun p hp => .tail _ (.tail _ (.tail _ (.tail _ hp))))⟩
    (first | focus ((repeat (first | exact True.intro | (refine AllAt.keep _ rfl ?_ ?_; (focus decide +kernel)) | (refine AllAt.skip _ rfl ?_ ?_; (focus decide +kernel)))); done) | ((repeat (refine And.intro ?_ ?_; (focus (first | walk_at "m_look" | rfl)))); exact True.intro))
  · rw [decide_eq_false hm]
    k_steps
    rename Fr _ _ _ _ => F8
    rename News _ _ _ _ => N8
    refine ⟨rfl, _, ⟨fun e => absurd e Bool.false_ne_true, fun e => absurd (hperm.mpr e.1) hm⟩, At.intro F8 N8 ?_ (inAll_of fun p hp => .tail _ (.tail _ (.tail _ (.tail _ hp))))⟩
    (first | focus ((repeat (first | exact True.intro | (refine AllAt.keep _ rfl ?_ ?_; (focus decide +kernel)) | (refine AllAt.skip _ rfl ?_ ?_; (focus decide +kernel)))); done) | ((repeat (refine And.intro ?_ ?_; (focus (first | walk_at "m_look" | rfl)))); exact True.intro))

end partBlZ2
theorem off_BlZ3 : (1 : Nat) = 1 := by
  w_top off
  first | walk1 | rfl
section partBlZ3
open PySem.SeqAt
local macro_rules | `(tactic| walk_at "subscriptTail Name Name ref int") => `(tactic| refine stop_at ?_)
theorem ws_gd2 {w : World} {a o : WsA} {K : Frag} {g h : Heap} {L : Addr} {m : Str → Option Value} {news : List (Addr × Obj)} {p : Program} {loose : List Str} {mean : ExcName → Option Value} {mg mb : Str → Option Value}
    (X : K.In g) (T : Top p loose mean mg mb g) (F : Fr g L h m) (N : News g L h news) (hs : ∀ p ∈ a.led w, p ∈ news) (ho : ∀ p ∈ o.led w, p ∈ news) : Gd K (hideAll h ((a.led w ++ o.led w).map (·.1))) :=
  gd_of X T F N _ fun x hx => by
    with_reducible refine Classical.byContradiction fun hZq => ?_
    obtain ⟨p, hp, rfl⟩ := List.mem_map.mp hx
    refine hZq ?_
    clear hZq
    exact ⟨p.2, (List.mem_append.mp hp).elim (hs p) (ho p)⟩
/-- the ledger with a Whitespace ahead -/
theorem ws_ahead {w : World} {a : WsA} {g h : Heap} {L : Addr} {nw : List (Addr × Obj)} {c1 c2 c3 : Addr × Obj} (N : News g L h (c1 :: c2 :: c3 :: nw)) (ha : ∀ p ∈ a.led w, p ∈ nw) : News g L h (a.led w ++ (c1 :: c2 :: c3 :: nw)) := fun p hp => N p ((List.mem_append.mp hp).elim (fun q => .tail _ (.tail _ (.tail _ (ha p q)))) id)
theorem rowZ3 (w : World) (L fa : Addr) (cd : Value) (g h0 : Heap) (m0 : Str → Option Value) (gn : Array GenState) (dr : Drawn) (tk : Nat) (os : OsState) (pg : List Nat) (wl dl pl nl td ld Tr : Addr) (tp ti tj : Tok) (lvs : List Value) (ln : Nat) (nw : List (Addr × Obj)) (o1 o2 o3 : Obj) (v1 : Option Value) (i j : Nat) (bb : Bool) (a o : WsA) {pp : Program} {loose : List Str} {mean : ExcName → Option Value} {mg mb : Str → Option Value}
  (X : (K0 w.params).In g) (TT : Top pp loose mean mg mb g) (c1 : o1.data = .cell v1) (c2 : o2.data = .cell (some (.int (i : Int) ti))) (c3 : o3.data = .cell (some (.int (j : Int) tj)))
  (hld : (ld, listOf lvs.toArray ln) ∈ nw) (hll : lvs.length ≤ 10) (hli : lvs[i]? = some (.ref a.x)) (hlj : lvs[j]? = some (.ref o.x)) (ha : ∀ p ∈ a.led w, p ∈ nw) (ho : ∀ p ∈ o.led w, p ∈ nw) (ok : a.Ok) (ok2 : o.Ok) (hbb : bb = true ↔ a.cnt = o.cnt ∧ a.b = o.b)
  (F0 : Fr g L h0 (over (lawG wl dl pl nl pg tp td ld ++ [((PySem.Str.ofString "triples"), .ref Tr), ((PySem.Str.ofString "alike"), .bool bb)]) m0)) (N0 : News g L h0 ((L + 1, o1) :: (L + 1 + 1, o2) :: (L + 1 + 1 + 1, o3) :: nw)) :
  wpAny (model prog w) (lawA L fa cd) (execs ((bodyZ.drop 2).take 1) (lawEnv L fa cd)) (Next (fun s' => At g L (lawG wl dl pl nl pg tp td ld ++ [((PySem.Str.ofString "triples"), .ref Tr), ((PySem.Str.ofString "alike"), .bool bb)]) ((L + 1, o1) :: (L + 1 + 1, o2) :: (L + 1 + 1 + 1, o3) :: nw) ⟨h0, gn, dr, tk, os⟩ s')) noE ⟨h0, gn, dr, tk, os⟩ := by
  have _kf : (PySem.Challenge.rw_pg0230_01, K0) = (PySem.Challenge.rw_pg0230_01, K0) := by k_fill; rfl
  have e1 : (bodyZ.drop 2).take 1 = [_] := rfl
  have e2 : lawBS.2 = ⟨_, _, _, _, _⟩ := rfl
  unfold lawA lawEnv
  rw [e1, e2]
  clear e1 e2
  have hi1 : i < lvs.length := (List.getElem?_eq_some_iff.mp hli).1
  have hj1 : j < lvs.length := (List.getElem?_eq_some_iff.mp hlj).1
  have N1 := ws_ahead N0 ha
  clear N0
  dsimp only [WsA.led, wsEs, List.cons_append, List.nil_append] at N1
  k_steps
  unfold Stop
  refine kim_list (l := lvs) N1 (.tail _ (.tail _ (.tail _ (.tail _ (.tail _ (.tail _ (.tail _ hld))))))) rfl rfl (by omega) (by omega) (by rw [Int.toNat_natCast]; exact hli) ?_
  k_steps
  unfold Stop
  refine kim_list (l := lvs) N1 (.tail _ (.tail _ (.tail _ (.tail _ (.tail _ (.tail _ (.tail _ hld))))))) rfl rfl (by omega) (by omega) (by rw [Int.toNat_natCast]; exact hlj) ?_
  k_steps
  unfold Stop
  refine wpAny_call ?_
  refine' codeAny_at (A' := lv 9) ?a1 ?a2 ?a3 ?a4 ?a5 ?_
  (case a1 => exact rfl); (case a2 => (exact Nat.le_of_ble_eq_true rfl)); (case a3 => (exact Nat.le_of_ble_eq_true rfl)); (case a4 => exact rfl); (case a5 => exact rfl)
  have N2 : News g L _ (a.led w ++ ((L + 1, o1) :: (L + 1 + 1, o2) :: (L + 1 + 1 + 1, o3) :: nw)) := N1
  have sa : ∀ p ∈ a.led w, p ∈ a.led w ++ ((L + 1, o1) :: (L + 1 + 1, o2) :: (L + 1 + 1 + 1, o3) :: nw) := fun p hp => List.mem_append.mpr (.inl hp)
  have so : ∀ p ∈ o.led w, p ∈ a.led w ++ ((L + 1, o1) :: (L + 1 + 1, o2) :: (L + 1 + 1 + 1, o3) :: nw) := fun p hp => List.mem_append.mpr (.inr (.tail _ (.tail _ (.tail _ (ho p hp)))))
  show codeAny _ _ (.call (.ref 59) ⟨[.ref a.x, .ref o.x], []⟩) _ _
  with_reducible refine' equal_spec w ⟨_, _, _, _, _⟩ _ a o ok ok2 (ws_in N2 (inAll_of sa)) (ws_in N2 (inAll_of so)) (ws_gd2 X TT F0 N2 sa so) ?_
  intro h3 tk3 K3
  rename Fr _ _ _ _ => F1
  obtain ⟨F2, N3⟩ := after_none F1 N2 K3
  clear F1 N1 N2
  rw [show decide (a.cnt = o.cnt ∧ a.b = o.b) = bb by rw [Bool.eq_iff_iff, hbb, decide_eq_true_eq]]
  k_steps
  · rename _ = true => hx
    exact absurd hx (by cases bb <;> decide)
  · exact ⟨rfl, At.intro F2 N3 (by (first | focus ((repeat (first | exact True.intro | (refine AllAt.keep _ rfl ?_ ?_; (focus decide +kernel)) | (refine AllAt.skip _ rfl ?_ ?_; (focus decide +kernel)))); done) | ((repeat (refine And.intro ?_ ?_; (focus (first | walk_at "m_look" | rfl)))); exact True.intro))) (inAll_of fun p hp => List.mem_append.mpr (.inr hp))⟩

end partBlZ3
theorem off_BlZ4 : (1 : Nat) = 1 := by
  w_top off
  first | walk1 | rfl
section partBlZ4
open PySem.SeqAt
local macro_rules | `(tactic| walk_at "subscriptTail Name Name ref int") => `(tactic| refine stop_at ?_)
local macro_rules | `(tactic| walk_at "compareOp Eq ref ref") => `(tactic| refine stop_at ?_)
theorem TupsL.get {tl : List (Addr × Obj)} {vs : List Value} {rs : List (Int × Int × Int)} (h : TupsL tl vs rs) : ∀ {j : Nat} {v : Value}, vs[j]? = some v → ∃ D x y z tx ty tz, v = .ref D ∧ (D, tup3 x y z tx ty tz) ∈ tl ∧ rs[j]? = some (x, y, z) := by
  induction h with
  | nil => intro j v e; simp at e
  | cons _ ih =>
    intro j v e
    cases j with
    | zero => cases e; exact ⟨_, _, _, _, _, _, _, rfl, .head _, rfl⟩
    | succ j =>
      with_reducible refine Classical.byContradiction fun hZq => ?_
      obtain ⟨D, x, y, z, tx, ty, tz, a, b, c⟩ := ih (j := j) (v := v) e
      refine hZq ?_
      clear hZq
      exact ⟨D, x, y, z, tx, ty, tz, a, .tail _ b, c⟩
theorem readsAll_app {h : Heap} : ∀ {vs : List Value} {ds : List PyData} {as bs : List Addr} {ws : List Value} {es : List PyData}, ReadsAll h vs ds as → ReadsAll h ws es bs → ReadsAll h (vs ++ ws) (ds ++ es) (as ++ bs) := by
  intro vs
  induction vs with
  | nil => intro ds as bs ws es x r; cases x; exact r
  | cons v vs ih =>
    intro ds as bs ws es x r
    cases x with
    | cons a b => rw [List.append_assoc]; exact .cons a (ih b r)
theorem readsAll_snoc {h : Heap} {vs : List Value} {ds : List PyData} {v : Value} {d : PyData} (a : ReadsAll h vs ds []) (r : Reads h v d []) : ReadsAll h (vs ++ [v]) (ds ++ [d]) [] := readsAll_app a (ReadsAll.cons (as := []) r .nil)
noncomputable def selQ (p : Int → Int → Bool) (rs : List (Int × Int × Int)) (j : Nat) : Bool := match rs[j]? with
  | some r => p r.2.1 r.2.2
  | none => false
theorem sel_reads {h : Heap} {tl : List (Addr × Obj)} {vs : List Value} {rs : List (Int × Int × Int)} {p : Int → Int → Bool} (t : TupsL tl vs rs) (hp : ∀ q ∈ tl, h.get? q.1 = some q.2) : ∀ {n : Nat} {zs : List Value}, Sel (selQ p rs) (fun j y => vs[j]? = some y) n zs → ReadsAll h zs (((rs.take n).filter fun r => p r.2.1 r.2.2).map rowD) []
  | 0, zs, e => by
    have : zs = [] := e
    rw [this]; exact .nil
  | n + 1, zs, e => by
    have e' : if selQ p rs n then ∃ ys' y, zs = ys' ++ [y] ∧ Sel (selQ p rs) (fun j y => vs[j]? = some y) n ys' ∧ vs[n]? = some y else Sel (selQ p rs) (fun j y => vs[j]? = some y) n zs := e
    rw [List.take_add_one, List.filter_append, List.map_append]
    by_cases hq : selQ p rs n = true
    · rw [if_pos hq] at e'
      with_reducible refine Classical.byContradiction fun hZq => ?_
      obtain ⟨ys', y, rfl, hs, hy⟩ := e'
      refine hZq ?_
      clear hZq
      with_reducible refine Classical.byContradiction fun hZq => ?_
      obtain ⟨D, a, b, c, ta, tb, tc, rfl, hm, hr⟩ := t.get hy
      refine hZq ?_
      clear hZq
      have hq2 : p b c = true := by unfold selQ at hq; rw [hr] at hq; exact hq
      rw [hr]
      show ReadsAll h (ys' ++ [Value.ref D]) (_ ++ (([(a, b, c)].filter _).map rowD)) []
      rw [List.filter_cons_of_pos (by simpa using hq2)]
      exact readsAll_snoc (sel_reads t hp hs) (reads_tuple_at (hp _ hm) rfl rfl (.cons (as := []) (.int _ _) (.cons (as := []) (.int _ _) (.cons (as := []) (.int _ _) .nil))))
    · rw [if_neg hq] at e'
      have hz : (rs[n]?.toList).filter (fun r => p r.2.1 r.2.2) = [] := by
        unfold selQ at hq
        cases hr : rs[n]? with
        | none => rfl
        | some r =>
          rw [hr] at hq
          show [r].filter _ = []
          rw [List.filter_cons_of_neg (by simpa using hq)]
          rfl
      rw [hz, List.map_nil, List.append_nil]
      exact sel_reads t hp e'
theorem rows_nil (l : List (Int × Int × Int)) : PyData.eqv (.list (l.map rowD)) (.list []) = decide (l = []) := by
  cases l with
  | nil => simp [PyData.eqv, PyData.eqvAll]
  | cons a l => simp [PyData.eqv, PyData.eqvAll]
theorem rows_self (l : List (Int × Int × Int)) : PyData.eqv (.list (l.map rowD)) (.list (l.map rowD)) = true := by
  simp only [PyData.eqv]
  induction l with
  | nil => simp [PyData.eqvAll]
  | cons a l ih => simp [PyData.eqvAll, PyData.eqv, ih]
theorem rows_lay (l : List (Int × Int × Int)) : PyData.canLay0 (.list (l.map rowD)) = true := by
  simp only [PyData.canLay0]
  induction l with
  | nil => simp [PyData.canLayAll0]
  | cons a l ih => simp [PyData.canLayAll0, PyData.canLay0, ih]
theorem rows_depth (l : List (Int × Int × Int)) : PyData.depth (.list (l.map rowD)) ≤ 2 := by
  have : PyData.depthAll (l.map rowD) ≤ 1 := by
    induction l with
    | nil => simp [PyData.depthAll]
    | cons a l ih => simp [PyData.depthAll, PyData.depth]; omega
  simp only [PyData.depth]
  omega
theorem rowZ4 (w : World) (L fa : Addr) (cd : Value) (g h0 : Heap) (m0 : Str → Option Value) (gn : Array GenState) (dr : Drawn) (tk : Nat) (os : OsState) (pg : List Nat) (wl dl pl nl td ld Tr : Addr) (tp ti tj : Tok) (lvs ys : List Value) (ln yn : Nat) (nw tl : List (Addr × Obj)) (rs : List (Int × Int × Int)) (o1 o2 o3 : Obj) (v1 : Option Value) (i j : Nat) (bb : Bool) (a o : WsA) {pp : Program} {loose : List Str} {mean : ExcName → Option Value} {mg mb : Str → Option Value}
  (X : (K0 w.params).In g) (TT : Top pp loose mean mg mb g) (c1 : o1.data = .cell v1) (c2 : o2.data = .cell (some (.int (i : Int) ti))) (c3 : o3.data = .cell (some (.int (j : Int) tj)))
  (hld : (ld, listOf lvs.toArray ln) ∈ nw) (hll : lvs.length ≤ 10) (hli : lvs[i]? = some (.ref a.x)) (hlj : lvs[j]? = some (.ref o.x)) (ha : ∀ p ∈ a.led w, p ∈ nw) (ho : ∀ p ∈ o.led w, p ∈ nw) (ok : a.Ok) (ok2 : o.Ok) (hla : lonP a ≤ 18) (hlo : lonP o ≤ 18)
  (hTr : (Tr, listOf ys.toArray yn) ∈ nw) (htl : ∀ p ∈ tl, p ∈ nw) (hys : TupsL tl ys rs) (hyl : ys.length ≤ 100) (hless : lessP a o = decide ((rs.filter fun r => decide (r.2.1 ≥ r.2.2)) = []))
  (F0 : Fr g L h0 (over (lawG wl dl pl nl pg tp td ld ++ [((PySem.Str.ofString "triples"), .ref Tr), ((PySem.Str.ofString "alike"), .bool bb)]) m0)) (N0 : News g L h0 ((L + 1, o1) :: (L + 1 + 1, o2) :: (L + 1 + 1 + 1, o3) :: nw)) :
  wpAny (model prog w) (lawA L fa cd) (execs ((bodyZ.drop 3).take 1) (lawEnv L fa cd)) (Next (fun s' => At g L (lawG wl dl pl nl pg tp td ld ++ [((PySem.Str.ofString "triples"), .ref Tr), ((PySem.Str.ofString "alike"), .bool bb)]) ((L + 1, o1) :: (L + 1 + 1, o2) :: (L + 1 + 1 + 1, o3) :: nw) ⟨h0, gn, dr, tk, os⟩ s')) noE ⟨h0, gn, dr, tk, os⟩ := by
  have _kf : (PySem.Challenge.rw_pg0230_01, K0) = (PySem.Challenge.rw_pg0230_01, K0) := by k_fill; rfl
  have e1 : (bodyZ.drop 3).take 1 = [_] := rfl
  have e2 : lawBS.2 = ⟨_, _, _, _, _⟩ := rfl
  unfold lawA lawEnv
  rw [e1, e2]
  clear e1 e2
  have hi1 : i < lvs.length := (List.getElem?_eq_some_iff.mp hli).1
  have hj1 : j < lvs.length := (List.getElem?_eq_some_iff.mp hlj).1
  have N1 := ws_ahead N0 ha
  clear N0
  dsimp only [WsA.led, wsEs, List.cons_append, List.nil_append] at N1
  k_steps
  unfold Stop
  refine kim_list (l := lvs) N1 (.tail _ (.tail _ (.tail _ (.tail _ (.tail _ (.tail _ (.tail _ hld))))))) rfl rfl (by omega) (by omega) (by rw [Int.toNat_natCast]; exact hli) ?_
  k_steps
  unfold Stop
  refine kim_list (l := lvs) N1 (.tail _ (.tail _ (.tail _ (.tail _ (.tail _ (.tail _ (.tail _ hld))))))) rfl rfl (by omega) (by omega) (by rw [Int.toNat_natCast]; exact hlj) ?_
  k_steps
  unfold Stop
  refine wpAny_call ?_
  refine' codeAny_at (A' := lv 11) ?a1 ?a2 ?a3 ?a4 ?a5 ?_
  (case a1 => exact rfl); (case a2 => (exact Nat.le_of_ble_eq_true rfl)); (case a3 => (exact Nat.le_of_ble_eq_true rfl)); (case a4 => exact rfl); (case a5 => exact rfl)
  have N2 : News g L _ (a.led w ++ ((L + 1, o1) :: (L + 1 + 1, o2) :: (L + 1 + 1 + 1, o3) :: nw)) := N1
  have sa : ∀ p ∈ a.led w, p ∈ a.led w ++ ((L + 1, o1) :: (L + 1 + 1, o2) :: (L + 1 + 1 + 1, o3) :: nw) := fun p hp => List.mem_append.mpr (.inl hp)
  have so : ∀ p ∈ o.led w, p ∈ a.led w ++ ((L + 1, o1) :: (L + 1 + 1, o2) :: (L + 1 + 1 + 1, o3) :: nw) := fun p hp => List.mem_append.mpr (.inr (.tail _ (.tail _ (.tail _ (ho p hp)))))
  show codeAny _ _ (.call (.ref 73) ⟨[.ref a.x, .ref o.x], []⟩) _ _
  with_reducible refine' less_spec w ⟨_, _, _, _, _⟩ _ a o ok ok2 (ws_in N2 (inAll_of sa)) (ws_in N2 (inAll_of so)) hla hlo (ws_gd2 X TT F0 N2 sa so) ?_
  intro h3 tk3 K3
  rename Fr _ _ _ _ => F1
  obtain ⟨F2, N3'⟩ := after_none F1 N2 K3
  have N3 : News g L h3 ((L + 1, o1) :: (L + 1 + 1, o2) :: (L + 1 + 1 + 1, o3) :: nw) := fun p hp => N3' p (List.mem_append.mpr (.inr hp))
  clear F1 N1 N2 N3' sa so
  k_steps
  unfold Stop
  (with_reducible refine' lc_evalT ?mzc1 ?mzc2 ?mzc3 ?mzc4 ?mzc5 ?mzc6 ?_)
  (case mzc1 => rfl)
  (case mzc2 => decide +kernel)
  (case mzc3 => rfl)
  (case mzc4 => decide +kernel)
  (case mzc5 => decide +kernel)
  (case mzc6 => intro _; rfl)
  k_steps
  dsimp only
  rename Fr _ _ _ _ => F5
  rename News _ _ _ _ => N5
  refine LcET.intro F5 N5 ?_ (src_list (its := ys.toArray) rfl F5 N5 (.inr ⟨_, .tail _ (.tail _ (.tail _ hTr)), rfl, _, rfl⟩)) ?_
  · rw [sizeLine_eq, List.size_toArray]; omega
  intro hh
  refine comp_quietT _ (selQ (fun y z => decide (y ≥ z)) rs) (fun j y => ys[j]? = some y) _ (.inr ⟨_, .tail _ (.tail _ (.tail _ hTr)), rfl, _, rfl⟩) ?_ ?_
  · intro j v I9 oI9 C oC D oD m₂ h8 tk8 hj9 hP hC hx F8 N8 off ne
    have hP' : ys[j]? = some v := by simpa using hP
    with_reducible refine Classical.byContradiction fun hZq => ?_
    obtain ⟨D1, x1, y1, z1, t1, t2, t3, rfl, hm1, hr1⟩ := hys.get hP'
    refine hZq ?_
    clear hZq
    have N9 : News g L _ ((I9, oI9) :: (C, oC) :: (D, oD) :: (D1, tup3 x1 y1 z1 t1 t2 t3) :: (L + 1, o1) :: (L + 1 + 1, o2) :: (L + 1 + 1 + 1, o3) :: nw) := fun p hp => N8 p (by
      rcases List.mem_cons.mp hp with rfl | hp
      · exact .head _
      rcases List.mem_cons.mp hp with rfl | hp
      · exact .tail _ (.head _)
      rcases List.mem_cons.mp hp with rfl | hp
      · exact .tail _ (.tail _ (.head _))
      rcases List.mem_cons.mp hp with rfl | hp
      · exact .tail _ (.tail _ (.tail _ (.tail _ (.tail _ (.tail _ (htl _ hm1))))))
      exact .tail _ (.tail _ (.tail _ hp)))
    clear N8
    k_steps
    refine ⟨by unfold selQ; rw [hr1], ?_⟩
    split
    · k_steps
      exact QEnd.intro (by assumption) (by assumption) (inAll_of fun p hp => by
        rcases List.mem_cons.mp hp with rfl | hp
        · exact .head _
        rcases List.mem_cons.mp hp with rfl | hp
        · exact .tail _ (.head _)
        rcases List.mem_cons.mp hp with rfl | hp
        · exact .tail _ (.tail _ (.head _))
        exact .tail _ (.tail _ (.tail _ (.tail _ hp)))) hP'
    · exact QEnd.intro (by assumption) (by assumption) (inAll_of fun p hp => by
        rcases List.mem_cons.mp hp with rfl | hp
        · exact .head _
        rcases List.mem_cons.mp hp with rfl | hp
        · exact .tail _ (.head _)
        rcases List.mem_cons.mp hp with rfl | hp
        · exact .tail _ (.tail _ (.head _))
        exact .tail _ (.tail _ (.tail _ (.tail _ hp)))) trivial
  intro zs hzs D8 h8 tk8 F8 N8 off8
  k_steps
  unfold Stop
  rename Fr _ _ _ _ => F9
  rename News _ _ _ _ => N9
  have hrd := sel_reads (h := _) hys (fun q hq => (N9 q (.tail _ (.tail _ (.tail _ (.tail _ (.tail _ (htl q hq))))))).1) hzs
  rw [List.size_toArray, hys.length.1, List.take_of_length_le (Nat.le_refl _)] at hrd
  refine compareEq_reads (reads_list_at (N9.get (.tail _ (.head _))) rfl rfl (by simpa using hrd)) (reads_list_at (N9.get (.head _)) rfl rfl .nil) (rows_lay _) (by simp [PyData.canLay0, PyData.canLayAll0]) ?_ ?_
  · refine Nat.lt_of_le_of_lt (Nat.add_le_add_left (Nat.le_trans (Nat.min_le_left _ _) (rows_depth _)) _) ?_
    exact Nat.le_of_ble_eq_true rfl
  rw [rows_nil, ← hless]
  k_steps
  · rename _ = true => hx
    exact absurd hx (by cases lessP a o <;> decide)
  · exact ⟨rfl, At.intro F9 N9 (by (first | focus ((repeat (first | exact True.intro | (refine AllAt.keep _ rfl ?_ ?_; (focus decide +kernel)) | (refine AllAt.skip _ rfl ?_ ?_; (focus decide +kernel)))); done) | ((repeat (refine And.intro ?_ ?_; (focus (first | walk_at "m_look" | rfl)))); exact True.intro))) (inAll_of fun p hp => .tail _ (.tail _ hp))⟩

end partBlZ4
theorem off_BlZ5 : (1 : Nat) = 1 := by
  w_top off
  first | walk1 | rfl
section partBlZ5
open PySem.SeqAt
local macro_rules | `(tactic| walk_at "subscriptTail Name Name ref int") => `(tactic| refine stop_at ?_)
local macro_rules | `(tactic| walk_at "call builtin:max") => `(tactic| refine stop_at ?_)
theorem TupsL.take {tl : List (Addr × Obj)} {vs : List Value} {rs : List (Int × Int × Int)} (h : TupsL tl vs rs) : ∀ k, TupsL (tl.take k) (vs.take k) (rs.take k) := by
  induction h with
  | nil => intro k; simp only [List.take_nil]; exact .nil
  | cons _ ih =>
    intro k
    cases k with
    | zero => exact .nil
    | succ k => exact .cons (ih k)
theorem rowZ5 (w : World) (L fa : Addr) (cd : Value) (g h0 : Heap) (m0 : Str → Option Value) (gn : Array GenState) (dr : Drawn) (tk : Nat) (os : OsState) (pg : List Nat) (wl dl pl nl td ld Tr Di Dj : Addr) (tp ti tj : Tok) (ds ui uj ys : List Value) (dn un ujn yn : Nat) (nw : List (Addr × Obj)) (o1 o2 o3 : Obj) (v1 : Option Value) (i j : Nat) (ri rj : List Int) (top : Int) (bb : Bool) {pp : Program} {loose : List Str} {mean : ExcName → Option Value} {mg mb : Str → Option Value}
  (X : (K0 w.params).In g) (TT : Top pp loose mean mg mb g) (c1 : o1.data = .cell v1) (c2 : o2.data = .cell (some (.int (i : Int) ti))) (c3 : o3.data = .cell (some (.int (j : Int) tj)))
  (hdl : (dl, listOf ds.toArray dn) ∈ nw) (hDi : (Di, listOf ui.toArray un) ∈ nw) (hDj : (Dj, listOf uj.toArray ujn) ∈ nw) (hdn : ds.length ≤ 10) (hei : ds[i]? = some (.ref Di)) (hej : ds[j]? = some (.ref Dj)) (hii : IntsAre ui ri) (hij : IntsAre uj rj) (hri : ri.length ≤ 7) (hrj : rj.length ≤ 7)
  (htop : top ∈ ri ++ rj) (hmax : ∀ n ∈ ri ++ rj, n ≤ top) (ht0 : 0 ≤ top ∧ top ≤ 100) (hTr : (Tr, listOf ys.toArray yn) ∈ nw) (hyl : ys.length ≤ 100)
  (F0 : Fr g L h0 (over (lawG wl dl pl nl pg tp td ld ++ [((PySem.Str.ofString "triples"), .ref Tr), ((PySem.Str.ofString "alike"), .bool bb)]) m0)) (N0 : News g L h0 ((L + 1, o1) :: (L + 1 + 1, o2) :: (L + 1 + 1 + 1, o3) :: nw)) :
  wpAny (model prog w) (lawA L fa cd) (execs ((bodyZ.drop 4).take 1) (lawEnv L fa cd)) (Next (fun s' => ∃ (Tr2 : Addr) (n2 : Nat), At g L (lawG wl dl pl nl pg tp td ld ++ [((PySem.Str.ofString "triples"), .ref Tr2), ((PySem.Str.ofString "alike"), .bool bb)]) ((L + 1, o1) :: (L + 1 + 1, o2) :: (L + 1 + 1 + 1, o3) :: (Tr2, listOf (ys.take (top + 1).toNat).toArray n2) :: nw) ⟨h0, gn, dr, tk, os⟩ s')) noE ⟨h0, gn, dr, tk, os⟩ := by
  have _kf : (PySem.Challenge.rw_pg0230_01, K0) = (PySem.Challenge.rw_pg0230_01, K0) := by k_fill; rfl
  have e1 : (bodyZ.drop 4).take 1 = [_] := rfl
  have e2 : lawBS.2 = ⟨_, _, _, _, _⟩ := rfl
  unfold lawA lawEnv
  rw [e1, e2]
  clear e1 e2
  have hi1 : i < ds.length := (List.getElem?_eq_some_iff.mp hei).1
  have hj1 : j < ds.length := (List.getElem?_eq_some_iff.mp hej).1
  have hil := hii.length
  have hjl := hij.length
  k_steps
  unfold Stop
  refine kim_list (l := ds) N0 (.tail _ (.tail _ (.tail _ hdl))) rfl rfl (by omega) (by omega) (by rw [Int.toNat_natCast]; exact hei) ?_
  k_steps
  unfold Stop
  refine kim_list (l := ds) N0 (.tail _ (.tail _ (.tail _ hdl))) rfl rfl (by omega) (by omega) (by rw [Int.toNat_natCast]; exact hej) ?_
  k_steps
  unfold Stop
  rename Fr _ _ _ _ => F1
  rename News _ _ _ _ => N1
  refine kmk_add_ints (s := ⟨_, _, _, _, _⟩) F1 N1 ⟨_, N1.get (.tail _ (.tail _ (.tail _ hDi))), rfl, _, rfl⟩ ⟨_, N1.get (.tail _ (.tail _ (.tail _ hDj))), rfl, _, rfl⟩ hii hij ?_ (by rw [sizeLine_eq]; omega)
  intro D1 w1 h1 F2 N2 l1 hw1
  clear F1 N1 l1
  k_steps
  unfold Stop
  refine kso_max F2 N2 ⟨_, N2.get (.head _), rfl, _, rfl⟩ hw1 (by have := List.length_pos_of_mem htop; exact this) rfl ?_
  intro h3 M tM tk3 F3 N3 hM1 hM2
  have hMt : M = top := Int.le_antisymm (hmax M hM1) (hM2 top htop)
  subst hMt
  clear F2 N2
  k_steps
  refine kmk_slice (s := ⟨_, _, _, _, _⟩) (its := ys.toArray) F3 N3 ⟨_, N3.get (.tail _ (.tail _ (.tail _ (.tail _ hTr)))), rfl, _, rfl⟩ .none (.int (M + 1) _) ?_ (by with_unfolding_all rfl) (by intro _; with_unfolding_all rfl) (by rw [sizeLine_eq, List.size_toArray]; omega)
  intro D6 h6 F6 N6 lD6
  rw [show (some (M + 1)) = some (((M + 1).toNat : Nat) : Int) by congr 1; omega, slicePick_upto'] at N6
  clear F3 N3 lD6
  k_steps
  rename Fr _ _ _ _ => F9
  rename News _ _ _ _ => N9
  refine ⟨rfl, D6, 0, At.intro F9 N9 (by (first | focus ((repeat (first | exact True.intro | (refine AllAt.keep _ rfl ?_ ?_; (focus decide +kernel)) | (refine AllAt.skip _ rfl ?_ ?_; (focus decide +kernel)))); done) | ((repeat (refine And.intro ?_ ?_; (focus (first | walk_at "m_look" | rfl)))); exact True.intro))) (inAll_of fun p hp => ?_)⟩
  rcases List.mem_cons.mp hp with rfl | hp
  · exact .tail _ (.tail _ (.head _))
  rcases List.mem_cons.mp hp with rfl | hp
  · exact .tail _ (.tail _ (.tail _ (.head _)))
  rcases List.mem_cons.mp hp with rfl | hp
  · exact .tail _ (.tail _ (.tail _ (.tail _ (.head _))))
  rcases List.mem_cons.mp hp with rfl | hp
  · exact .head _
  exact .tail _ (.tail _ (.tail _ (.tail _ (.tail _ hp))))

end partBlZ5
theorem off_BlZ6 : (1 : Nat) = 1 := by
  w_top off
  first | walk1 | rfl
section partBlZ6
open PySem.SeqAt
local macro_rules | `(tactic| walk_at "subscriptTail Name Name ref int") => `(tactic| refine stop_at ?_)
local macro_rules | `(tactic| walk_at "compareOp NotEq ref ref") => `(tactic| refine stop_at ?_)
theorem after_many {b h h' : Heap} {L : Addr} {m : Str → Option Value} {news ex : List (Addr × Obj)} (F : Fr b L h m) (N : News b L h news) (k : Kp [] h h') (hex : ∀ p ∈ ex, h.get? p.1 = none ∧ h'.get? p.1 = some p.2) : Fr b L h' m ∧ News b L h' (ex ++ news) := by
  refine ⟨(after_none F N k).1, fun p hp => ?_⟩
  rcases List.mem_append.mp hp with hp | hp
  · exact (after_one F N k (hex p hp).2 (hex p hp).1).2 p (.head _)
  · exact (after_none F N k).2 p hp
theorem rowZ6 (w : World) (L fa : Addr) (cd : Value) (g h0 : Heap) (m0 : Str → Option Value) (gn : Array GenState) (dr : Drawn) (tk : Nat) (os : OsState) (pg : List Nat) (wl dl pl nl td ld Tr : Addr) (tp ti tj : Tok) (lvs ys : List Value) (ln yn : Nat) (nw tl : List (Addr × Obj)) (rs : List (Int × Int × Int)) (o1 o2 o3 : Obj) (v1 : Option Value) (i j : Nat) (bb : Bool) (a o : WsA) {pp : Program} {loose : List Str} {mean : ExcName → Option Value} {mg mb : Str → Option Value}
  (X : (K0 w.params).In g) (TT : Top pp loose mean mg mb g) (c1 : o1.data = .cell v1) (c2 : o2.data = .cell (some (.int (i : Int) ti))) (c3 : o3.data = .cell (some (.int (j : Int) tj)))
  (hld : (ld, listOf lvs.toArray ln) ∈ nw) (hll : lvs.length ≤ 10) (hli : lvs[i]? = some (.ref a.x)) (hlj : lvs[j]? = some (.ref o.x)) (ha : ∀ p ∈ a.led w, p ∈ nw) (ho : ∀ p ∈ o.led w, p ∈ nw) (ok : a.Ok) (ok2 : o.Ok) (hla : lonP a ≤ 18) (hlo : lonP o ≤ 18)
  (hTr : (Tr, listOf ys.toArray yn) ∈ nw) (htl : ∀ p ∈ tl, p ∈ nw) (hys : TupsL tl ys rs) (hyl : ys.length ≤ 100) (hwit : witsP p_neq a o (topP a o).toNat = rs.filter fun r => decide (r.2.1 ≠ r.2.2))
  (F0 : Fr g L h0 (over (lawG wl dl pl nl pg tp td ld ++ [((PySem.Str.ofString "triples"), .ref Tr), ((PySem.Str.ofString "alike"), .bool bb)]) m0)) (N0 : News g L h0 ((L + 1, o1) :: (L + 1 + 1, o2) :: (L + 1 + 1 + 1, o3) :: nw)) :
  wpAny (model prog w) (lawA L fa cd) (execs ((bodyZ.drop 5).take 1) (lawEnv L fa cd)) (Next (fun s' => At g L (lawG wl dl pl nl pg tp td ld ++ [((PySem.Str.ofString "triples"), .ref Tr), ((PySem.Str.ofString "alike"), .bool bb)]) ((L + 1, o1) :: (L + 1 + 1, o2) :: (L + 1 + 1 + 1, o3) :: nw) ⟨h0, gn, dr, tk, os⟩ s')) noE ⟨h0, gn, dr, tk, os⟩ := by
  have _kf : (PySem.Challenge.rw_pg0230_01, K0) = (PySem.Challenge.rw_pg0230_01, K0) := by k_fill; rfl
  have e1 : (bodyZ.drop 5).take 1 = [_] := rfl
  have e2 : lawBS.2 = ⟨_, _, _, _, _⟩ := rfl
  unfold lawA lawEnv
  rw [e1, e2]
  clear e1 e2
  have hi1 : i < lvs.length := (List.getElem?_eq_some_iff.mp hli).1
  have hj1 : j < lvs.length := (List.getElem?_eq_some_iff.mp hlj).1
  have N1 := ws_ahead N0 ha
  clear N0
  dsimp only [WsA.led, wsEs, List.cons_append, List.nil_append] at N1
  k_steps
  unfold Stop
  refine kim_list (l := lvs) N1 (.tail _ (.tail _ (.tail _ (.tail _ (.tail _ (.tail _ (.tail _ hld))))))) rfl rfl (by omega) (by omega) (by rw [Int.toNat_natCast]; exact hli) ?_
  k_steps
  unfold Stop
  refine kim_list (l := lvs) N1 (.tail _ (.tail _ (.tail _ (.tail _ (.tail _ (.tail _ (.tail _ hld))))))) rfl rfl (by omega) (by omega) (by rw [Int.toNat_natCast]; exact hlj) ?_
  k_steps
  unfold Stop
  refine wpAny_call ?_
  refine' codeAny_at (A' := lv 11) ?a1 ?a2 ?a3 ?a4 ?a5 ?_
  (case a1 => exact rfl); (case a2 => (exact Nat.le_of_ble_eq_true rfl)); (case a3 => (exact Nat.le_of_ble_eq_true rfl)); (case a4 => exact rfl); (case a5 => exact rfl)
  have N2 : News g L _ (a.led w ++ ((L + 1, o1) :: (L + 1 + 1, o2) :: (L + 1 + 1 + 1, o3) :: nw)) := N1
  have sa : ∀ p ∈ a.led w, p ∈ a.led w ++ ((L + 1, o1) :: (L + 1 + 1, o2) :: (L + 1 + 1 + 1, o3) :: nw) := fun p hp => List.mem_append.mpr (.inl hp)
  have so : ∀ p ∈ o.led w, p ∈ a.led w ++ ((L + 1, o1) :: (L + 1 + 1, o2) :: (L + 1 + 1 + 1, o3) :: nw) := fun p hp => List.mem_append.mpr (.inr (.tail _ (.tail _ (.tail _ (ho p hp)))))
  show codeAny _ _ (.call (.ref 66) ⟨[.ref a.x, .ref o.x], []⟩) _ _
  with_reducible refine' neq_spec w ⟨_, _, _, _, _⟩ _ a o ok ok2 (ws_in N2 (inAll_of sa)) (ws_in N2 (inAll_of so)) hla hlo (ws_gd2 X TT F0 N2 sa so) ?_
  intro lw h3 tk3 wn wys wtl K3 hnew _ hwys
  rename Fr _ _ _ _ => F1
  obtain ⟨F2, N3'⟩ := after_many F1 N2 K3 hnew
  have N3 : News g L h3 ((L + 1, o1) :: (L + 1 + 1, o2) :: (L + 1 + 1 + 1, o3) :: ((lw, listOf wys.toArray wn) :: (wtl ++ nw))) := fun p hp => N3' p (by
    rcases List.mem_cons.mp hp with rfl | hp
    · exact List.mem_append.mpr (.inr (List.mem_append.mpr (.inr (.head _))))
    rcases List.mem_cons.mp hp with rfl | hp
    · exact List.mem_append.mpr (.inr (List.mem_append.mpr (.inr (.tail _ (.head _)))))
    rcases List.mem_cons.mp hp with rfl | hp
    · exact List.mem_append.mpr (.inr (List.mem_append.mpr (.inr (.tail _ (.tail _ (.head _))))))
    rcases List.mem_cons.mp hp with rfl | hp
    · exact .head _
    rcases List.mem_append.mp hp with hp | hp
    · exact List.mem_append.mpr (.inl (.tail _ hp))
    · exact List.mem_append.mpr (.inr (List.mem_append.mpr (.inr (.tail _ (.tail _ (.tail _ hp)))))))
  clear F1 N1 N2 N3' sa so
  k_steps
  unfold Stop
  (with_reducible refine' lc_evalT ?mzc1 ?mzc2 ?mzc3 ?mzc4 ?mzc5 ?mzc6 ?_)
  (case mzc1 => rfl)
  (case mzc2 => decide +kernel)
  (case mzc3 => rfl)
  (case mzc4 => decide +kernel)
  (case mzc5 => decide +kernel)
  (case mzc6 => intro _; rfl)
  k_steps
  dsimp only
  rename Fr _ _ _ _ => F5
  rename News _ _ _ _ => N5
  have hTr' : ∀ p ∈ nw, p ∈ ((L + 1, o1) :: (L + 1 + 1, o2) :: (L + 1 + 1 + 1, o3) :: ((lw, listOf wys.toArray wn) :: (wtl ++ nw))) := fun p hp => .tail _ (.tail _ (.tail _ (.tail _ (List.mem_append.mpr (.inr hp)))))
  refine LcET.intro F5 N5 ?_ (src_list (its := ys.toArray) rfl F5 N5 (.inr ⟨_, hTr' _ hTr, rfl, _, rfl⟩)) ?_
  · rw [sizeLine_eq, List.size_toArray]; omega
  intro hh
  refine comp_quietT _ (selQ (fun y z => decide (y ≠ z)) rs) (fun j y => ys[j]? = some y) _ (.inr ⟨_, hTr' _ hTr, rfl, _, rfl⟩) ?_ ?_
  · intro j v I9 oI9 C oC D oD m₂ h8 tk8 hj9 hP hC hx F8 N8 off ne
    have hP' : ys[j]? = some v := by simpa using hP
    with_reducible refine Classical.byContradiction fun hZq => ?_
    obtain ⟨D1, x1, y1, z1, t1, t2, t3, rfl, hm1, hr1⟩ := hys.get hP'
    refine hZq ?_
    clear hZq
    have N9 : News g L _ ((I9, oI9) :: (C, oC) :: (D, oD) :: (D1, tup3 x1 y1 z1 t1 t2 t3) :: ((L + 1, o1) :: (L + 1 + 1, o2) :: (L + 1 + 1 + 1, o3) :: ((lw, listOf wys.toArray wn) :: (wtl ++ nw)))) := fun p hp => N8 p (by
      rcases List.mem_cons.mp hp with rfl | hp
      · exact .head _
      rcases List.mem_cons.mp hp with rfl | hp
      · exact .tail _ (.head _)
      rcases List.mem_cons.mp hp with rfl | hp
      · exact .tail _ (.tail _ (.head _))
      rcases List.mem_cons.mp hp with rfl | hp
      · exact .tail _ (.tail _ (.tail _ (hTr' _ (htl _ hm1))))
      exact .tail _ (.tail _ (.tail _ hp)))
    clear N8
    k_steps
    refine ⟨by unfold selQ; rw [hr1]; by_cases hq : y1 = z1 <;> simp [hq], ?_⟩
    split
    · k_steps
      exact QEnd.intro (by assumption) (by assumption) (inAll_of fun p hp => by
        rcases List.mem_cons.mp hp with rfl | hp
        · exact .head _
        rcases List.mem_cons.mp hp with rfl | hp
        · exact .tail _ (.head _)
        rcases List.mem_cons.mp hp with rfl | hp
        · exact .tail _ (.tail _ (.head _))
        exact .tail _ (.tail _ (.tail _ (.tail _ hp)))) hP'
    · exact QEnd.intro (by assumption) (by assumption) (inAll_of fun p hp => by
        rcases List.mem_cons.mp hp with rfl | hp
        · exact .head _
        rcases List.mem_cons.mp hp with rfl | hp
        · exact .tail _ (.head _)
        rcases List.mem_cons.mp hp with rfl | hp
        · exact .tail _ (.tail _ (.head _))
        exact .tail _ (.tail _ (.tail _ (.tail _ hp)))) trivial
  intro zs hzs D8 h8 tk8 F8 N8 off8
  k_steps
  unfold Stop
  rename Fr _ _ _ _ => F9
  rename News _ _ _ _ => N9
  have hrd := sel_reads (h := _) hys (fun q hq => (N9 q (.tail _ (hTr' _ (htl q hq)))).1) hzs
  rw [List.size_toArray, hys.length.1, List.take_of_length_le (Nat.le_refl _), ← hwit] at hrd
  have hrw := hwys.reads (fun q hq => (N9 q (.tail _ (.tail _ (.tail _ (.tail _ (.tail _ (List.mem_append.mpr (.inl hq)))))))).1)
  refine compareNe_reads (reads_list_at (N9.get (.tail _ (.tail _ (.tail _ (.tail _ (.head _)))))) rfl rfl (by simpa using hrw)) (reads_list_at (N9.get (.head _)) rfl rfl (by simpa using hrd)) (rows_lay _) (rows_lay _) ?_ ?_
  · refine Nat.lt_of_le_of_lt (Nat.add_le_add_left (Nat.le_trans (Nat.min_le_left _ _) (rows_depth _)) _) ?_
    exact Nat.le_of_ble_eq_true rfl
  rw [rows_self]
  k_steps
  refine ⟨rfl, At.intro F9 N9 (by (first | focus ((repeat (first | exact True.intro | (refine AllAt.keep _ rfl ?_ ?_; (focus decide +kernel)) | (refine AllAt.skip _ rfl ?_ ?_; (focus decide +kernel)))); done) | ((repeat (refine And.intro ?_ ?_; (focus (first | walk_at "m_look" | rfl)))); exact True.intro))) (inAll_of fun p hp => .tail _ ?_)⟩
  rcases List.mem_cons.mp hp with rfl | hp
  · exact .head _
  rcases List.mem_cons.mp hp with rfl | hp
  · exact .tail _ (.head _)
  rcases List.mem_cons.mp hp with rfl | hp
  · exact .tail _ (.tail _ (.head _))
  exact hTr' _ hp

end partBlZ6
theorem off_BlZ7 : (1 : Nat) = 1 := by
  w_top off
  first | walk1 | rfl
section partBlZ7
open PySem.SeqAt
local macro_rules | `(tactic| walk_at "subscriptTail Name Name ref int") => `(tactic| refine stop_at ?_)
local macro_rules | `(tactic| walk_at "compareOp NotEq ref ref") => `(tactic| refine stop_at ?_)
theorem rowZ7 (w : World) (L fa : Addr) (cd : Value) (g h0 : Heap) (m0 : Str → Option Value) (gn : Array GenState) (dr : Drawn) (tk : Nat) (os : OsState) (pg : List Nat) (wl dl pl nl td ld Tr : Addr) (tp ti tj : Tok) (lvs ys : List Value) (ln yn : Nat) (nw tl : List (Addr × Obj)) (rs : List (Int × Int × Int)) (o1 o2 o3 : Obj) (v1 : Option Value) (i j : Nat) (bb : Bool) (a o : WsA) {pp : Program} {loose : List Str} {mean : ExcName → Option Value} {mg mb : Str → Option Value}
  (X : (K0 w.params).In g) (TT : Top pp loose mean mg mb g) (c1 : o1.data = .cell v1) (c2 : o2.data = .cell (some (.int (i : Int) ti))) (c3 : o3.data = .cell (some (.int (j : Int) tj)))
  (hld : (ld, listOf lvs.toArray ln) ∈ nw) (hll : lvs.length ≤ 10) (hli : lvs[i]? = some (.ref a.x)) (hlj : lvs[j]? = some (.ref o.x)) (ha : ∀ p ∈ a.led w, p ∈ nw) (ho : ∀ p ∈ o.led w, p ∈ nw) (ok : a.Ok) (ok2 : o.Ok) (hla : lonP a ≤ 18) (hlo : lonP o ≤ 18)
  (hTr : (Tr, listOf ys.toArray yn) ∈ nw) (htl : ∀ p ∈ tl, p ∈ nw) (hys : TupsL tl ys rs) (hyl : ys.length ≤ 100) (hwit : witsP p_nls a o (topP a o).toNat = rs.filter fun r => decide (r.2.1 ≥ r.2.2))
  (F0 : Fr g L h0 (over (lawG wl dl pl nl pg tp td ld ++ [((PySem.Str.ofString "triples"), .ref Tr), ((PySem.Str.ofString "alike"), .bool bb)]) m0)) (N0 : News g L h0 ((L + 1, o1) :: (L + 1 + 1, o2) :: (L + 1 + 1 + 1, o3) :: nw)) :
  wpAny (model prog w) (lawA L fa cd) (execs ((bodyZ.drop 6).take 1) (lawEnv L fa cd)) (Next (fun s' => At g L (lawG wl dl pl nl pg tp td ld ++ [((PySem.Str.ofString "triples"), .ref Tr), ((PySem.Str.ofString "alike"), .bool bb)]) ((L + 1, o1) :: (L + 1 + 1, o2) :: (L + 1 + 1 + 1, o3) :: nw) ⟨h0, gn, dr, tk, os⟩ s')) noE ⟨h0, gn, dr, tk, os⟩ := by
  have _kf : (PySem.Challenge.rw_pg0230_01, K0) = (PySem.Challenge.rw_pg0230_01, K0) := by k_fill; rfl
  have e1 : (bodyZ.drop 6).take 1 = [_] := rfl
  have e2 : lawBS.2 = ⟨_, _, _, _, _⟩ := rfl
  unfold lawA lawEnv
  rw [e1, e2]
  clear e1 e2
  have hi1 : i < lvs.length := (List.getElem?_eq_some_iff.mp hli).1
  have hj1 : j < lvs.length := (List.getElem?_eq_some_iff.mp hlj).1
  have N1 := ws_ahead N0 ha
  clear N0
  dsimp only [WsA.led, wsEs, List.cons_append, List.nil_append] at N1
  k_steps
  unfold Stop
  refine kim_list (l := lvs) N1 (.tail _ (.tail _ (.tail _ (.tail _ (.tail _ (.tail _ (.tail _ hld))))))) rfl rfl (by omega) (by omega) (by rw [Int.toNat_natCast]; exact hli) ?_
  k_steps
  unfold Stop
  refine kim_list (l := lvs) N1 (.tail _ (.tail _ (.tail _ (.tail _ (.tail _ (.tail _ (.tail _ hld))))))) rfl rfl (by omega) (by omega) (by rw [Int.toNat_natCast]; exact hlj) ?_
  k_steps
  unfold Stop
  refine wpAny_call ?_
  refine' codeAny_at (A' := lv 11) ?a1 ?a2 ?a3 ?a4 ?a5 ?_
  (case a1 => exact rfl); (case a2 => (exact Nat.le_of_ble_eq_true rfl)); (case a3 => (exact Nat.le_of_ble_eq_true rfl)); (case a4 => exact rfl); (case a5 => exact rfl)
  have N2 : News g L _ (a.led w ++ ((L + 1, o1) :: (L + 1 + 1, o2) :: (L + 1 + 1 + 1, o3) :: nw)) := N1
  have sa : ∀ p ∈ a.led w, p ∈ a.led w ++ ((L + 1, o1) :: (L + 1 + 1, o2) :: (L + 1 + 1 + 1, o3) :: nw) := fun p hp => List.mem_append.mpr (.inl hp)
  have so : ∀ p ∈ o.led w, p ∈ a.led w ++ ((L + 1, o1) :: (L + 1 + 1, o2) :: (L + 1 + 1 + 1, o3) :: nw) := fun p hp => List.mem_append.mpr (.inr (.tail _ (.tail _ (.tail _ (ho p hp)))))
  show codeAny _ _ (.call (.ref 80) ⟨[.ref a.x, .ref o.x], []⟩) _ _
  with_reducible refine' nls_spec w ⟨_, _, _, _, _⟩ _ a o ok ok2 (ws_in N2 (inAll_of sa)) (ws_in N2 (inAll_of so)) hla hlo (ws_gd2 X TT F0 N2 sa so) ?_
  intro lw h3 tk3 wn wys wtl K3 hnew _ hwys
  rename Fr _ _ _ _ => F1
  obtain ⟨F2, N3'⟩ := after_many F1 N2 K3 hnew
  have N3 : News g L h3 ((L + 1, o1) :: (L + 1 + 1, o2) :: (L + 1 + 1 + 1, o3) :: ((lw, listOf wys.toArray wn) :: (wtl ++ nw))) := fun p hp => N3' p (by
    rcases List.mem_cons.mp hp with rfl | hp
    · exact List.mem_append.mpr (.inr (List.mem_append.mpr (.inr (.head _))))
    rcases List.mem_cons.mp hp with rfl | hp
    · exact List.mem_append.mpr (.inr (List.mem_append.mpr (.inr (.tail _ (.head _)))))
    rcases List.mem_cons.mp hp with rfl | hp
    · exact List.mem_append.mpr (.inr (List.mem_append.mpr (.inr (.tail _ (.tail _ (.head _))))))
    rcases List.mem_cons.mp hp with rfl | hp
    · exact .head _
    rcases List.mem_append.mp hp with hp | hp
    · exact List.mem_append.mpr (.inl (.tail _ hp))
    · exact List.mem_append.mpr (.inr (List.mem_append.mpr (.inr (.tail _ (.tail _ (.tail _ hp)))))))
  clear F1 N1 N2 N3' sa so
  k_steps
  unfold Stop
  (with_reducible refine' lc_evalT ?mzc1 ?mzc2 ?mzc3 ?mzc4 ?mzc5 ?mzc6 ?_)
  (case mzc1 => rfl)
  (case mzc2 => decide +kernel)
  (case mzc3 => rfl)
  (case mzc4 => decide +kernel)
  (case mzc5 => decide +kernel)
  (case mzc6 => intro _; rfl)
  k_steps
  dsimp only
  rename Fr _ _ _ _ => F5
  rename News _ _ _ _ => N5
  have hTr' : ∀ p ∈ nw, p ∈ ((L + 1, o1) :: (L + 1 + 1, o2) :: (L + 1 + 1 + 1, o3) :: ((lw, listOf wys.toArray wn) :: (wtl ++ nw))) := fun p hp => .tail _ (.tail _ (.tail _ (.tail _ (List.mem_append.mpr (.inr hp)))))
  refine LcET.intro F5 N5 ?_ (src_list (its := ys.toArray) rfl F5 N5 (.inr ⟨_, hTr' _ hTr, rfl, _, rfl⟩)) ?_
  · rw [sizeLine_eq, List.size_toArray]; omega
  intro hh
  refine comp_quietT _ (selQ (fun y z => decide (y ≥ z)) rs) (fun j y => ys[j]? = some y) _ (.inr ⟨_, hTr' _ hTr, rfl, _, rfl⟩) ?_ ?_
  · intro j v I9 oI9 C oC D oD m₂ h8 tk8 hj9 hP hC hx F8 N8 off ne
    have hP' : ys[j]? = some v := by simpa using hP
    with_reducible refine Classical.byContradiction fun hZq => ?_
    obtain ⟨D1, x1, y1, z1, t1, t2, t3, rfl, hm1, hr1⟩ := hys.get hP'
    refine hZq ?_
    clear hZq
    have N9 : News g L _ ((I9, oI9) :: (C, oC) :: (D, oD) :: (D1, tup3 x1 y1 z1 t1 t2 t3) :: ((L + 1, o1) :: (L + 1 + 1, o2) :: (L + 1 + 1 + 1, o3) :: ((lw, listOf wys.toArray wn) :: (wtl ++ nw)))) := fun p hp => N8 p (by
      rcases List.mem_cons.mp hp with rfl | hp
      · exact .head _
      rcases List.mem_cons.mp hp with rfl | hp
      · exact .tail _ (.head _)
      rcases List.mem_cons.mp hp with rfl | hp
      · exact .tail _ (.tail _ (.head _))
      rcases List.mem_cons.mp hp with rfl | hp
      · exact .tail _ (.tail _ (.tail _ (hTr' _ (htl _ hm1))))
      exact .tail _ (.tail _ (.tail _ hp)))
    clear N8
    k_steps
    refine ⟨by unfold selQ; rw [hr1], ?_⟩
    split
    · k_steps
      exact QEnd.intro (by assumption) (by assumption) (inAll_of fun p hp => by
        rcases List.mem_cons.mp hp with rfl | hp
        · exact .head _
        rcases List.mem_cons.mp hp with rfl | hp
        · exact .tail _ (.head _)
        rcases List.mem_cons.mp hp with rfl | hp
        · exact .tail _ (.tail _ (.head _))
        exact .tail _ (.tail _ (.tail _ (.tail _ hp)))) hP'
    · exact QEnd.intro (by assumption) (by assumption) (inAll_of fun p hp => by
        rcases List.mem_cons.mp hp with rfl | hp
        · exact .head _
        rcases List.mem_cons.mp hp with rfl | hp
        · exact .tail _ (.head _)
        rcases List.mem_cons.mp hp with rfl | hp
        · exact .tail _ (.tail _ (.head _))
        exact .tail _ (.tail _ (.tail _ (.tail _ hp)))) trivial
  intro zs hzs D8 h8 tk8 F8 N8 off8
  k_steps
  unfold Stop
  rename Fr _ _ _ _ => F9
  rename News _ _ _ _ => N9
  have hrd := sel_reads (h := _) hys (fun q hq => (N9 q (.tail _ (hTr' _ (htl q hq)))).1) hzs
  rw [List.size_toArray, hys.length.1, List.take_of_length_le (Nat.le_refl _), ← hwit] at hrd
  have hrw := hwys.reads (fun q hq => (N9 q (.tail _ (.tail _ (.tail _ (.tail _ (.tail _ (List.mem_append.mpr (.inl hq)))))))).1)
  refine compareNe_reads (reads_list_at (N9.get (.tail _ (.tail _ (.tail _ (.tail _ (.head _)))))) rfl rfl (by simpa using hrw)) (reads_list_at (N9.get (.head _)) rfl rfl (by simpa using hrd)) (rows_lay _) (rows_lay _) ?_ ?_
  · refine Nat.lt_of_le_of_lt (Nat.add_le_add_left (Nat.le_trans (Nat.min_le_left _ _) (rows_depth _)) _) ?_
    exact Nat.le_of_ble_eq_true rfl
  rw [rows_self]
  k_steps
  refine ⟨rfl, At.intro F9 N9 (by (first | focus ((repeat (first | exact True.intro | (refine AllAt.keep _ rfl ?_ ?_; (focus decide +kernel)) | (refine AllAt.skip _ rfl ?_ ?_; (focus decide +kernel)))); done) | ((repeat (refine And.intro ?_ ?_; (focus (first | walk_at "m_look" | rfl)))); exact True.intro))) (inAll_of fun p hp => .tail _ ?_)⟩
  rcases List.mem_cons.mp hp with rfl | hp
  · exact .head _
  rcases List.mem_cons.mp hp with rfl | hp
  · exact .tail _ (.head _)
  rcases List.mem_cons.mp hp with rfl | hp
  · exact .tail _ (.tail _ (.head _))
  exact hTr' _ hp

end partBlZ7
theorem off_BlZ8 : (1 : Nat) = 1 := by
  w_top off
  first | walk1 | rfl
section partBlZ8
/-- what the pair's loop asks of two rows -/
noncomputable def PairQ (nd : Nat → Int) (a o : WsA) (i j : Nat) : Prop :=
  (a.cnt = o.cnt ∧ a.b = o.b ↔ (runsP nd i).Perm (runsP nd j) ∧ behindP nd i = behindP nd j) ∧
  lessP a o = decide (((tripP nd i j 20).filter fun r => decide (r.2.1 ≥ r.2.2)) = []) ∧
  ∃ top : Int, (0 ≤ top ∧ top ≤ 100) ∧ top ∈ dueP nd i ++ dueP nd j ∧ (∀ n ∈ dueP nd i ++ dueP nd j, n ≤ top) ∧
    witsP p_neq a o (topP a o).toNat = ((tripP nd i j 20).take (top + 1).toNat).filter (fun r => decide (r.2.1 ≠ r.2.2)) ∧
    witsP p_nls a o (topP a o).toNat = ((tripP nd i j 20).take (top + 1).toNat).filter (fun r => decide (r.2.1 ≥ r.2.2))
theorem turnZ (w : World) (L fa : Addr) (cd : Value) (g h0 : Heap) (m0 : Str → Option Value) (gn : Array GenState) (dr : Drawn) (tk : Nat) (os : OsState) (nd : Nat → Int) (pg : List Nat) (wl dl pl nl td ld e0 Ei Ej Di Dj : Addr) (tp ti tj : Tok) (ds lvs ev eiv ejv ui uj : List Value) (dn ln en ein ejn un ujn : Nat) (nw : List (Addr × Obj)) (o1 o2 o3 : Obj) (i j : Nat) (a o : WsA) {pp : Program} {loose : List Str} {mean : ExcName → Option Value} {mg mb : Str → Option Value}
  (X : (K0 w.params).In g) (TT : Top pp loose mean mg mb g) (c1 : o1.data = .cell (some (.ref e0))) (c2 : o2.data = .cell (some (.int (i : Int) ti))) (c3 : o3.data = .cell (some (.int (j : Int) tj)))
  (he : (e0, listOf ev.toArray en) ∈ nw) (hEi : (Ei, listOf eiv.toArray ein) ∈ nw) (hEj : (Ej, listOf ejv.toArray ejn) ∈ nw) (hevl : ev.length = 3) (hei : ev[i]? = some (.ref Ei)) (hej : ev[j]? = some (.ref Ej)) (hii : IntsAre eiv (endsP nd i)) (hij : IntsAre ejv (endsP nd j))
  (hdl : (dl, listOf ds.toArray dn) ∈ nw) (hDi : (Di, listOf ui.toArray un) ∈ nw) (hDj : (Dj, listOf uj.toArray ujn) ∈ nw) (hdn : ds.length ≤ 10) (hdi : ds[i]? = some (.ref Di)) (hdj : ds[j]? = some (.ref Dj)) (hui : IntsAre ui (dueP nd i)) (huj : IntsAre uj (dueP nd j)) (hri : (runsP nd i).length ≤ 6) (hrj : (runsP nd j).length ≤ 6)
  (hld : (ld, listOf lvs.toArray ln) ∈ nw) (hll : lvs.length ≤ 10) (hli : lvs[i]? = some (.ref a.x)) (hlj : lvs[j]? = some (.ref o.x)) (ha : ∀ p ∈ a.led w, p ∈ nw) (ho : ∀ p ∈ o.led w, p ∈ nw) (ok : a.Ok) (ok2 : o.Ok) (hla : lonP a ≤ 18) (hlo : lonP o ≤ 18) (hQ : PairQ nd a o i j)
  (F0 : Fr g L h0 (over (lawG wl dl pl nl pg tp td ld) m0)) (N0 : News g L h0 ((L + 1, o1) :: (L + 1 + 1, o2) :: (L + 1 + 1 + 1, o3) :: nw)) :
  wpAny (model prog w) (lawA L fa cd) (execs bodyZ (lawEnv L fa cd)) (Next (fun s' => ∃ lo, At g L (lawG wl dl pl nl pg tp td ld ++ lo) ((L + 1, o1) :: (L + 1 + 1, o2) :: (L + 1 + 1 + 1, o3) :: nw) ⟨h0, gn, dr, tk, os⟩ s')) noE ⟨h0, gn, dr, tk, os⟩ := by
  with_reducible refine Classical.byContradiction fun hZq => ?_
  obtain ⟨q1, q2, top, q3, q4, q5, q6, q7⟩ := hQ
  refine hZq ?_
  clear hZq
  refine cutN 1 _ (rowZ1 w L fa cd g h0 m0 gn dr tk os nd pg wl dl pl nl td ld e0 Ei Ej tp ti tj ev eiv ejv en ein ejn nw o1 o2 o3 i j X TT c1 c2 c3 he hEi hEj hevl hei hej hii hij F0 N0) ?_
  rintro s1 hPz1
  with_reducible refine Classical.byContradiction fun hZq => ?_
  obtain ⟨Tr, ys, n, tl, hys, h1, tk1, m1, rfl, F1, N1⟩ := hPz1
  refine hZq ?_
  clear hZq
  clear F0 N0
  have hyl : ys.length = 20 := hys.length.1
  have s1 : ∀ p ∈ nw, p ∈ (Tr, listOf ys.toArray n) :: (nw ++ tl) := fun p hp => .tail _ (List.mem_append.mpr (.inl hp))
  have s2 : ∀ p ∈ tl, p ∈ (Tr, listOf ys.toArray n) :: (nw ++ tl) := fun p hp => .tail _ (List.mem_append.mpr (.inr hp))
  have s3 : (Tr, listOf ys.toArray n) ∈ (Tr, listOf ys.toArray n) :: (nw ++ tl) := .head _
  have N2 : News g L h1 ((L + 1, o1) :: (L + 1 + 1, o2) :: (L + 1 + 1 + 1, o3) :: ((Tr, listOf ys.toArray n) :: (nw ++ tl))) := fun p hp => N1 p (by
    rcases List.mem_cons.mp hp with rfl | hp
    · exact .tail _ (.head _)
    rcases List.mem_cons.mp hp with rfl | hp
    · exact .tail _ (.tail _ (.head _))
    rcases List.mem_cons.mp hp with rfl | hp
    · exact .tail _ (.tail _ (.tail _ (.head _)))
    rcases List.mem_cons.mp hp with rfl | hp
    · exact .head _
    · exact .tail _ (.tail _ (.tail _ (.tail _ hp))))
  clear N1
  generalize hnw : (Tr, listOf ys.toArray n) :: (nw ++ tl) = nw1 at s1 s2 s3 N2
  refine cutN 1 _ (rowZ2 w L fa cd g h1 m1 gn dr tk1 os pg wl dl pl nl td ld Tr Di Dj tp ti tj ds ui uj dn un ujn nw1 o1 o2 o3 _ i j (runsP nd i) (runsP nd j) (behindP nd i) (behindP nd j) X TT c1 c2 c3 (s1 _ hdl) (s1 _ hDi) (s1 _ hDj) hdn hdi hdj hui huj hri hrj F1 N2) ?_
  clear F1 N2
  rintro s2' hPz1
  with_reducible refine Classical.byContradiction fun hZq => ?_
  obtain ⟨bb, hbb, h2, tk2, m2, rfl, F2, N2⟩ := hPz1
  refine hZq ?_
  clear hZq
  rw [List.drop_drop]
  refine cutN 1 _ (rowZ3 w L fa cd g h2 m2 gn dr tk2 os pg wl dl pl nl td ld Tr tp ti tj lvs ln nw1 o1 o2 o3 _ i j bb a o X TT c1 c2 c3 (s1 _ hld) hll hli hlj (fun p hp => s1 p (ha p hp)) (fun p hp => s1 p (ho p hp)) ok ok2 (hbb.trans q1.symm) F2 N2) ?_
  clear F2 N2
  rintro s3' hPz1
  with_reducible refine Classical.byContradiction fun hZq => ?_
  obtain ⟨h3, tk3, m3, rfl, F3, N3⟩ := hPz1
  refine hZq ?_
  clear hZq
  rw [List.drop_drop]
  refine cutN 1 _ (rowZ4 w L fa cd g h3 m3 gn dr tk3 os pg wl dl pl nl td ld Tr tp ti tj lvs ys ln n nw1 tl (tripP nd i j 20) o1 o2 o3 _ i j bb a o X TT c1 c2 c3 (s1 _ hld) hll hli hlj (fun p hp => s1 p (ha p hp)) (fun p hp => s1 p (ho p hp)) ok ok2 hla hlo s3 s2 hys (by omega) q2 F3 N3) ?_
  clear F3 N3
  rintro s4' hPz1
  with_reducible refine Classical.byContradiction fun hZq => ?_
  obtain ⟨h4, tk4, m4, rfl, F4, N4⟩ := hPz1
  refine hZq ?_
  clear hZq
  rw [List.drop_drop]
  refine cutN 1 _ (rowZ5 w L fa cd g h4 m4 gn dr tk4 os pg wl dl pl nl td ld Tr Di Dj tp ti tj ds ui uj ys dn un ujn n nw1 o1 o2 o3 _ i j (dueP nd i) (dueP nd j) top bb X TT c1 c2 c3 (s1 _ hdl) (s1 _ hDi) (s1 _ hDj) hdn hdi hdj hui huj (by unfold dueP; rw [List.length_append, List.length_singleton]; omega) (by unfold dueP; rw [List.length_append, List.length_singleton]; omega) q4 q5 q3 s3 (by omega) F4 N4) ?_
  clear F4 N4
  rintro s5' hPz1
  with_reducible refine Classical.byContradiction fun hZq => ?_
  obtain ⟨Tr2, n2, h5, tk5, m5, rfl, F5, N5⟩ := hPz1
  refine hZq ?_
  clear hZq
  rw [List.drop_drop]
  have z1 : ∀ p ∈ nw, p ∈ (Tr2, listOf (ys.take (top + 1).toNat).toArray n2) :: nw1 := fun p hp => .tail _ (s1 p hp)
  have z2 : ∀ p ∈ tl.take (top + 1).toNat, p ∈ (Tr2, listOf (ys.take (top + 1).toNat).toArray n2) :: nw1 := fun p hp => .tail _ (s2 p (List.mem_of_mem_take hp))
  have z3 : (ys.take (top + 1).toNat).length ≤ 100 := by rw [List.length_take]; omega
  refine cutN 1 _ (rowZ6 w L fa cd g h5 m5 gn dr tk5 os pg wl dl pl nl td ld Tr2 tp ti tj lvs (ys.take (top + 1).toNat) ln n2 _ (tl.take (top + 1).toNat) ((tripP nd i j 20).take (top + 1).toNat) o1 o2 o3 _ i j bb a o X TT c1 c2 c3 (z1 _ hld) hll hli hlj (fun p hp => z1 p (ha p hp)) (fun p hp => z1 p (ho p hp)) ok ok2 hla hlo (.head _) z2 (hys.take _) z3 q6 F5 N5) ?_
  clear F5 N5
  rintro s6' hPz1
  with_reducible refine Classical.byContradiction fun hZq => ?_
  obtain ⟨h6, tk6, m6, rfl, F6, N6⟩ := hPz1
  refine hZq ?_
  clear hZq
  rw [List.drop_drop]
  have e9 : bodyZ.drop 6 = (bodyZ.drop 6).take 1 := rfl
  show wpAny _ _ (execs (bodyZ.drop 6) _) _ _ _
  rw [e9]
  refine wpAny_mono (rowZ7 w L fa cd g h6 m6 gn dr tk6 os pg wl dl pl nl td ld Tr2 tp ti tj lvs (ys.take (top + 1).toNat) ln n2 _ (tl.take (top + 1).toNat) ((tripP nd i j 20).take (top + 1).toNat) o1 o2 o3 _ i j bb a o X TT c1 c2 c3 (z1 _ hld) hll hli hlj (fun p hp => z1 p (ha p hp)) (fun p hp => z1 p (ho p hp)) ok ok2 hla hlo (.head _) z2 (hys.take _) z3 q7 F6 N6) ?_ fun _ _ x => x
  clear F6 N6
  rintro fl s7 hPz1
  with_reducible refine Classical.byContradiction fun hZq => ?_
  obtain ⟨rfl, h7, tk7, m7, rfl, F7, N7⟩ := hPz1
  refine hZq ?_
  clear hZq
  refine ⟨rfl, _, h7, tk7, m7, rfl, F7, fun p hp => N7 p ?_⟩
  rcases List.mem_cons.mp hp with rfl | hp
  · exact .head _
  rcases List.mem_cons.mp hp with rfl | hp
  · exact .tail _ (.head _)
  rcases List.mem_cons.mp hp with rfl | hp
  · exact .tail _ (.tail _ (.head _))
  exact .tail _ (.tail _ (.tail _ (z1 p hp)))

end partBlZ8
theorem off_BlZ9 : (1 : Nat) = 1 := by
  w_top off
  first | walk1 | rfl
section partBlZ9
local macro_rules | `(tactic| k_all) => `(tactic| with_reducible assumption)
theorem over_app {m : Str → Option Value} : ∀ {a b : List (Str × Value)}, over (a ++ b) m = over a (over b m)
  | [], _ => rfl
  | (x, v) :: a, b => by
    show over ((x, v) :: (a ++ b)) m = _
    unfold over
    rw [over_app (a := a)]
noncomputable def ZR (L wl dl pl nl : Addr) (pg : List Nat) (tp : Tok) (td ld : Addr) (o1 : Obj) (nw0 : List (Addr × Obj)) (i : Nat) (lo : List (Str × Value)) (nw : List (Addr × Obj)) : Prop :=
  ∃ (o2 o3 : Obj) (v2 v3 : Option Value), lo = lawG wl dl pl nl pg tp td ld ∧ nw = (L + 1, o1) :: (L + 1 + 1, o2) :: (L + 1 + 1 + 1, o3) :: nw0 ∧ o2.data = .cell v2 ∧ o3.data = .cell v3
theorem blkZ (w : World) (L fa : Addr) (cd : Value) (g h0 : Heap) (m0 : Str → Option Value) (gn : Array GenState) (dr : Drawn) (tk : Nat) (os : OsState) (nd : Nat → Int) (hnd : ∀ i, 0 ≤ nd i ∧ nd i < 1000000) (pg : List Nat) (wl dl pl nl td ld e0 : Addr) (tp : Tok) (ds lvs ev : List Value) (dn ln en : Nat) (nw tlx tle : List (Addr × Obj)) (o1 o2 o3 : Obj) (v2 v3 : Option Value) (A : Nat → WsA) {pp : Program} {loose : List Str} {mean : ExcName → Option Value} {mg mb : Str → Option Value}
  (X : (K0 w.params).In g) (TT : Top pp loose mean mg mb g) (c1 : o1.data = .cell (some (.ref e0))) (c2 : o2.data = .cell v2) (c3 : o3.data = .cell v3)
  (hoff2 : ∀ p ∈ nw, p.1 ≠ L + 1 + 1) (hoff3 : ∀ p ∈ nw, p.1 ≠ L + 1 + 1 + 1)
  (he : (e0, listOf ev.toArray en) ∈ nw) (hev : RefsI tle ev ((List.range 3).map (endsP nd))) (hxe : ∀ p ∈ tle, p ∈ nw)
  (hdl : (dl, listOf ds.toArray dn) ∈ nw) (hds : RefsI tlx ds ((List.range 3).map (dueP nd))) (hx : ∀ p ∈ tlx, p ∈ nw)
  (hld : (ld, listOf lvs.toArray ln) ∈ nw) (hll : lvs.length ≤ 10) (hA : ∀ r, r < 3 → lvs[r]? = some (Value.ref (A r).x) ∧ (∀ p ∈ (A r).led w, p ∈ nw) ∧ (A r).Ok ∧ lonP (A r) ≤ 18) (hQ : ∀ i j, i < 3 → j < 3 → PairQ nd (A i) (A j) i j)
  (F0 : Fr g L h0 (over (lawG wl dl pl nl pg tp td ld) m0)) (N0 : News g L h0 ((L + 1, o1) :: (L + 1 + 1, o2) :: (L + 1 + 1 + 1, o3) :: nw)) :
  wpAny (model prog w) (lawA L fa cd) (execs ((lawBS.1.drop 10).take 1) (lawEnv L fa cd)) (Next (fun s' => ∃ nw', (∀ p ∈ nw, p ∈ nw') ∧ At g L (lawG wl dl pl nl pg tp td ld) nw' ⟨h0, gn, dr, tk, os⟩ s')) noE ⟨h0, gn, dr, tk, os⟩ := by
  have _kf : (PySem.Challenge.rw_pg0230_01, K0) = (PySem.Challenge.rw_pg0230_01, K0) := by k_fill; rfl
  have e1 : (lawBS.1.drop 10).take 1 = [.For _ _ bodyZ [] _] := rfl
  have e2 : lawBS.2 = ⟨_, _, _, _, _⟩ := rfl
  unfold lawA lawEnv
  rw [e1, e2]
  clear e1 e2
  refine wpAny_execs_cons ?_
  with_reducible refine for_stmt ?_ ?mzhs
  (case mzhs => intro _; rfl)
  k_steps
  rename Fr _ _ _ _ => F1
  rename News _ _ _ _ => N1
  rename_i t0 h0' g0 t1 h1' g1 t2 h2' g2 t3 h3' g3 l4 h4' g4
  obtain ⟨k0, k1, k2, k3, k4, k5, k6, k7, N1⟩ : ∃ k0 k1 k2 k3 k4 k5 k6 k7, News g L _ ((l4, listOf #[.ref t0, .ref t1, .ref t2, .ref t3] 0) :: (t3, tup2 (.int 2 k6) (.int 0 k7)) :: (t2, tup2 (.int 1 k4) (.int 2 k5)) :: (t1, tup2 (.int 1 k2) (.int 0 k3)) :: (t0, tup2 (.int 0 k0) (.int 1 k1)) :: (L + 1, o1) :: (L + 1 + 1, o2) :: (L + 1 + 1 + 1, o3) :: nw) := ⟨_, _, _, _, _, _, _, _, N1⟩
  have big : ∀ p ∈ ([(l4, listOf #[.ref t0, .ref t1, .ref t2, .ref t3] 0), (t3, tup2 (.int 2 k6) (.int 0 k7)), (t2, tup2 (.int 1 k4) (.int 2 k5)), (t1, tup2 (.int 1 k2) (.int 0 k3)), (t0, tup2 (.int 0 k0) (.int 1 k1))] : List (Addr × Obj)), L + 1 + 1 < p.1 ∧ L + 1 + 1 + 1 < p.1 := by
    intro p hp
    rcases List.mem_cons.mp hp with rfl | hp
    · exact ⟨g4.2.2.2.2.2.1, g4.2.2.2.2.2.2.1⟩
    rcases List.mem_cons.mp hp with rfl | hp
    · exact ⟨g3.2.2.2.2.1, g3.2.2.2.2.2.1⟩
    rcases List.mem_cons.mp hp with rfl | hp
    · exact ⟨g2.2.2.2.1, g2.2.2.2.2.1⟩
    rcases List.mem_cons.mp hp with rfl | hp
    · exact ⟨g1.2.2.1, g1.2.2.2.1⟩
    rw [List.mem_singleton.mp hp]
    exact ⟨g0.2.1, g0.2.2.1⟩
  generalize htp : ([(l4, listOf #[.ref t0, .ref t1, .ref t2, .ref t3] 0), (t3, tup2 (.int 2 k6) (.int 0 k7)), (t2, tup2 (.int 1 k4) (.int 2 k5)), (t1, tup2 (.int 1 k2) (.int 0 k3)), (t0, tup2 (.int 0 k0) (.int 1 k1))] : List (Addr × Obj)) = tps at big
  have N2 : News g L _ ((L + 1, o1) :: (L + 1 + 1, o2) :: (L + 1 + 1 + 1, o3) :: (tps ++ nw)) := fun p hp => N1 p (by
    rw [← htp] at hp
    rcases List.mem_cons.mp hp with rfl | hp
    · exact .tail _ (.tail _ (.tail _ (.tail _ (.tail _ (.head _)))))
    rcases List.mem_cons.mp hp with rfl | hp
    · exact .tail _ (.tail _ (.tail _ (.tail _ (.tail _ (.tail _ (.head _))))))
    rcases List.mem_cons.mp hp with rfl | hp
    · exact .tail _ (.tail _ (.tail _ (.tail _ (.tail _ (.tail _ (.tail _ (.head _)))))))
    rcases List.mem_append.mp hp with hp | hp
    · rcases List.mem_cons.mp hp with rfl | hp
      · exact .head _
      rcases List.mem_cons.mp hp with rfl | hp
      · exact .tail _ (.head _)
      rcases List.mem_cons.mp hp with rfl | hp
      · exact .tail _ (.tail _ (.head _))
      rcases List.mem_cons.mp hp with rfl | hp
      · exact .tail _ (.tail _ (.tail _ (.head _)))
      rw [List.mem_singleton.mp hp]
      exact .tail _ (.tail _ (.tail _ (.tail _ (.head _))))
    · exact .tail _ (.tail _ (.tail _ (.tail _ (.tail _ (.tail _ (.tail _ (.tail _ hp))))))))
  have hitem : ∀ (q : Nat) (v : Value), (#[Value.ref t0, .ref t1, .ref t2, .ref t3] : Array Value)[q]? = some v → ∃ (D : Addr) (i j : Nat) (ti tj : Tok), v = .ref D ∧ i < 3 ∧ j < 3 ∧ (D, tup2 (.int (i : Int) ti) (.int (j : Int) tj)) ∈ tps := by
    intro q v e
    rw [← htp]
    match q, e with
    | 0, e => cases e; exact ⟨t0, 0, 1, k0, k1, rfl, by decide, by decide, .tail _ (.tail _ (.tail _ (.tail _ (.head _))))⟩
    | 1, e => cases e; exact ⟨t1, 1, 0, k2, k3, rfl, by decide, by decide, .tail _ (.tail _ (.tail _ (.head _)))⟩
    | 2, e => cases e; exact ⟨t2, 1, 2, k4, k5, rfl, by decide, by decide, .tail _ (.tail _ (.head _))⟩
    | 3, e => cases e; exact ⟨t3, 2, 0, k6, k7, rfl, by decide, by decide, .tail _ (.head _)⟩
    | n + 4, e => simp at e
  have hl4 : (l4, listOf #[Value.ref t0, .ref t1, .ref t2, .ref t3] 0) ∈ tps := by rw [← htp]; exact .head _
  clear htp N1 g0 g1 g2 g3 g4
  have hof2 : ∀ p ∈ tps ++ nw, p.1 ≠ L + 1 + 1 := fun p hp => by
    rcases List.mem_append.mp hp with hp | hp
    · exact Nat.ne_of_gt (big p hp).1
    · exact hoff2 p hp
  have hof3 : ∀ p ∈ tps ++ nw, p.1 ≠ L + 1 + 1 + 1 := fun p hp => by
    rcases List.mem_append.mp hp with hp | hp
    · exact Nat.ne_of_gt (big p hp).2
    · exact hoff3 p hp
  refine it_listT (L := L) (its := #[Value.ref t0, .ref t1, .ref t2, .ref t3]) (ZR L wl dl pl nl pg tp td ld o1 (tps ++ nw)) rfl rfl _ ⟨rfl, _, rfl⟩ (fun q v e => let ⟨D, _, _, _, _, h, _⟩ := hitem q v e; ⟨D, h⟩) (lawG wl dl pl nl pg tp td ld) _ F1 N2 (fun i lo nw' h => by obtain ⟨_, _, _, _, _, rfl, _⟩ := h; exact .tail _ (.tail _ (.tail _ (List.mem_append.mpr (.inl hl4))))) (by (first | focus ((repeat (first | exact True.intro | (refine AllAt.keep _ rfl ?_ ?_; (focus decide +kernel)) | (refine AllAt.skip _ rfl ?_ ?_; (focus decide +kernel)))); done) | ((repeat (refine And.intro ?_ ?_; (focus (first | walk_at "m_look" | rfl)))); exact True.intro))) InAll.self ⟨o2, o3, v2, v3, rfl, rfl, c2, c3⟩ ?_ ?_
  · clear F1 N2
    rintro q v I h3 tk3 m3 lo nw' oI hq hPz1 F3 N3 hne
    with_reducible refine Classical.byContradiction fun hZq => ?_
    obtain ⟨o2', o3', v2', v3', rfl, rfl, c2', c3'⟩ := hPz1
    refine hZq ?_
    clear hZq
    with_reducible refine Classical.byContradiction fun hZq => ?_
    obtain ⟨D, i, j, ti, tj, rfl, hi, hj, hD⟩ := hitem q v hq
    refine hZq ?_
    clear hZq
    have N4 : News g L _ ((D, tup2 (.int (i : Int) ti) (.int (j : Int) tj)) :: (I, oI) :: (L + 1, o1) :: (L + 1 + 1, o2') :: (L + 1 + 1 + 1, o3') :: (tps ++ nw)) := fun p hp => by
      rcases List.mem_cons.mp hp with rfl | hp
      · exact N3 _ (.tail _ (.tail _ (.tail _ (.tail _ (List.mem_append.mpr (.inl hD))))))
      · exact N3 p hp
    dsimp only [lawG, List.cons_append, List.nil_append] at F3
    have hIc2 : Nq I (L + 1 + 1) := Ne.symm hne.2.1
    have hIc3 : Nq I (L + 1 + 1 + 1) := Ne.symm hne.2.2.1
    have hDc2 : Nq D (L + 1 + 1) := Nat.ne_of_gt (big _ hD).1
    have hDc3 : Nq D (L + 1 + 1 + 1) := Nat.ne_of_gt (big _ hD).2
    iterate 8 walk1
    rename_i h5' h4'' o2n c2n h5 o3n F5 N5 c3n
    obtain ⟨Di, ui, un, d1, d2, d3⟩ := hds.2 i (dueP nd i) (by rw [List.getElem?_map, List.getElem?_range hi]; rfl)
    obtain ⟨Dj, uj, ujn, e1, e2, e3⟩ := hds.2 j (dueP nd j) (by rw [List.getElem?_map, List.getElem?_range hj]; rfl)
    obtain ⟨Ei, eiv, ein, f1, f2, f3⟩ := hev.2 i (endsP nd i) (by rw [List.getElem?_map, List.getElem?_range hi]; rfl)
    obtain ⟨Ej, ejv, ejn, q1, q2, q3⟩ := hev.2 j (endsP nd j) (by rw [List.getElem?_map, List.getElem?_range hj]; rfl)
    have hdl3 := hds.1
    have hev3 := hev.1
    rw [List.length_map, List.length_range] at hdl3 hev3
    with_reducible refine Classical.byContradiction fun hZq => ?_
    obtain ⟨a1, a2, a3, a4⟩ := hA i hi
    refine hZq ?_
    clear hZq
    with_reducible refine Classical.byContradiction fun hZq => ?_
    obtain ⟨b1, b2, b3, b4⟩ := hA j hj
    refine hZq ?_
    clear hZq
    have hri := (lead_len nd i (pts_b hnd i).2).2
    have hrj := (lead_len nd j (pts_b hnd j).2).2
    have sn : ∀ p ∈ nw, p ∈ (D, tup2 (.int (i : Int) ti) (.int (j : Int) tj)) :: (I, oI) :: (tps ++ nw) := fun p hp => .tail _ (.tail _ (List.mem_append.mpr (.inr hp)))
    have N6 : News g L h5 ((L + 1, o1) :: (L + 1 + 1, o2n) :: (L + 1 + 1 + 1, o3n) :: ((D, tup2 (.int (i : Int) ti) (.int (j : Int) tj)) :: (I, oI) :: (tps ++ nw))) := fun p hp => N5 p (by
      rcases List.mem_cons.mp hp with rfl | hp
      · exact .tail _ (.tail _ (.head _))
      rcases List.mem_cons.mp hp with rfl | hp
      · exact .tail _ (.tail _ (.tail _ (.head _)))
      rcases List.mem_cons.mp hp with rfl | hp
      · exact .tail _ (.tail _ (.tail _ (.tail _ (.head _))))
      rcases List.mem_cons.mp hp with rfl | hp
      · exact .head _
      rcases List.mem_cons.mp hp with rfl | hp
      · exact .tail _ (.head _)
      · exact .tail _ (.tail _ (.tail _ (.tail _ (.tail _ hp)))))
    clear N5
    generalize hnz : (D, tup2 (.int (i : Int) ti) (.int (j : Int) tj)) :: (I, oI) :: (tps ++ nw) = nz at N6 sn
    refine wpAny_mono (turnZ w L fa cd g h5 m3 gn dr _ os nd pg wl dl pl nl td ld e0 Ei Ej Di Dj tp ti tj ds lvs ev eiv ejv ui uj dn ln en ein ejn un ujn nz o1 o2n o3n i j (A i) (A j) X TT c1 c2n c3n (sn _ he) (sn _ (hxe _ f2)) (sn _ (hxe _ q2)) hev3 f1 q1 f3 q3 (sn _ hdl) (sn _ (hx _ d2)) (sn _ (hx _ e2)) (by omega) d1 e1 d3 e3 hri hrj (sn _ hld) hll a1 b1 (fun p hp => sn p (a2 p hp)) (fun p hp => sn p (b2 p hp)) a3 b3 a4 b4 (hQ i j hi hj) F5 N6) ?_ fun _ _ x => x
    clear F5 N6
    rintro fl s8 hPz1
    with_reducible refine Classical.byContradiction fun hZq => ?_
    obtain ⟨rfl, lo8, h8, tk8, m8, rfl, F8, N8⟩ := hPz1
    refine hZq ?_
    clear hZq
    have F9 : Fr g L h8 (over (lawG wl dl pl nl pg tp td ld) (over lo8 m8)) := by rw [← over_app]; exact F8
    refine turned_next (lawG wl dl pl nl pg tp td ld) ((L + 1, o1) :: (L + 1 + 1, o2n) :: (L + 1 + 1 + 1, o3n) :: (tps ++ nw)) (.inl rfl) F9 N8 (by (first | focus ((repeat (first | exact True.intro | (refine AllAt.keep _ rfl ?_ ?_; (focus decide +kernel)) | (refine AllAt.skip _ rfl ?_ ?_; (focus decide +kernel)))); done) | ((repeat (refine And.intro ?_ ?_; (focus (first | walk_at "m_look" | rfl)))); exact True.intro))) (inAll_of fun p hp => ?_) ⟨hne.1, hne.2.1, hne.2.2.1, hne.2.2.2⟩ ⟨o2n, o3n, _, _, rfl, rfl, c2n, c3n⟩
    rw [← hnz]
    rcases List.mem_cons.mp hp with rfl | hp
    · exact .tail _ (.tail _ (.tail _ (.tail _ (.head _))))
    rcases List.mem_cons.mp hp with rfl | hp
    · exact .head _
    rcases List.mem_cons.mp hp with rfl | hp
    · exact .tail _ (.head _)
    rcases List.mem_cons.mp hp with rfl | hp
    · exact .tail _ (.tail _ (.head _))
    exact .tail _ (.tail _ (.tail _ (.tail _ (.tail _ hp))))
  · rintro h3 tk3 m3 lo nw' hPz1 F3 N3
    with_reducible refine Classical.byContradiction fun hZq => ?_
    obtain ⟨_, _, _, _, rfl, rfl, _, _⟩ := hPz1
    refine hZq ?_
    clear hZq
    refine wpAny_execs_nil ?_
    exact ⟨rfl, _, fun p hp => .tail _ (.tail _ (.tail _ (List.mem_append.mpr (.inr hp)))), h3, tk3, m3, rfl, F3, N3⟩

end partBlZ9
theorem off_Pl1 : (1 : Nat) = 1 := by
  w_top off
  first | walk1 | rfl
section partPl1
/-! the page's pieces read back: plain facts -/
theorem tkQ_esc (way : Int) (rest : List Nat) : ∀ (wd acc : List Nat), tkQ (escW way wd ++ 34 :: rest) acc = (acc ++ wd, rest)
  | [], acc => by show tkQ (34 :: rest) acc = _; rw [tkQ_q, List.append_nil]
  | c :: r, acc => by
    have e : escW way (c :: r) = escS way c ++ escW way r := rfl
    rw [e, List.append_assoc]
    unfold escS
    by_cases h : way > 0 ∨ c = 34 ∨ c = 92
    · rw [if_pos h]
      show tkQ (92 :: c :: (escW way r ++ 34 :: rest)) acc = _
      rw [tkQ_e]
      show tkQ (escW way r ++ 34 :: rest) (acc ++ [c]) = _
      rw [tkQ_esc way rest r, List.append_assoc]
      rfl
    · rw [if_neg h]
      show tkQ (c :: (escW way r ++ 34 :: rest)) acc = _
      rw [tkQ_c _ _ (fun e => h (.inr (.inl e))) (fun e => h (.inr (.inr e))), tkQ_esc way rest r, List.append_assoc]
      rfl
theorem tkB_esc {way : Int} (hw : way > 0) {s : Nat} (hs : wsc s = true) (rest : List Nat) : ∀ (wd acc : List Nat), tkB (escW way wd ++ s :: rest) acc = (acc ++ wd, rest)
  | [], acc => by show tkB (s :: rest) acc = _; rw [tkB_q _ _ hs, List.append_nil]
  | c :: r, acc => by
    have e : escW way (c :: r) = escS way c ++ escW way r := rfl
    rw [e, List.append_assoc]
    unfold escS
    rw [if_pos (.inl hw)]
    show tkB (92 :: c :: (escW way r ++ s :: rest)) acc = _
    rw [tkB_e]
    show tkB (escW way r ++ s :: rest) (acc ++ [c]) = _
    rw [tkB_esc hw hs rest r, List.append_assoc]
    rfl
theorem tk_taken (wd : List Nat) {way : Int} (h0 : 0 ≤ way) (h4 : way < 4) (rest : List Nat) : tkS (takenL wd way ++ rest) = (wd, rest) := by
  unfold takenL
  by_cases h : way < 2 ∨ wd = []
  · rw [if_pos h]
    show tkS (34 :: (escW way wd ++ [34] ++ rest)) = _
    rw [List.append_assoc]
    show (if wsc 34 then _ else _) = _
    rw [if_neg (by decide), if_pos rfl]
    show tkQ (escW way wd ++ 34 :: rest) [] = _
    rw [tkQ_esc]
    rfl
  · rw [if_neg h]
    obtain ⟨s, hs, hg⟩ : ∃ s, wsc s = true ∧ (gapL way).take 1 = [s] := by
      have h1 : way = 2 ∨ way = 3 := by omega
      rcases h1 with rfl | rfl
      · exact ⟨10, by decide, rfl⟩
      · exact ⟨32, by decide, rfl⟩
    rw [hg, List.append_assoc]
    cases wd with
    | nil => exact absurd (.inr rfl) h
    | cons c r =>
      have e : escW way (c :: r) = escS way c ++ escW way r := rfl
      rw [e]
      unfold escS
      rw [if_pos (.inl (by omega))]
      show (if wsc 92 then _ else if 92 = 34 then _ else _) = _
      rw [if_neg (by decide), if_neg (by decide), if_pos rfl]
      show tkB (escW way r ++ s :: rest) [c] = _
      rw [tkB_esc (by omega) hs]
      rfl
theorem tk_ws : ∀ (l rest : List Nat), (∀ c ∈ l, wsc c = true) → tkS (l ++ rest) = tkS rest
  | [], _, _ => rfl
  | c :: r, rest, h => by
    show (if wsc c then _ else _) = _
    rw [if_pos (h c (.head _))]
    exact tk_ws r rest fun d hd => h d (.tail _ hd)
theorem left_ws (wd : List Nat) (way : Int) : ∀ c ∈ leftL wd way, wsc c = true := by
  have hg : ∀ c ∈ gapL way, wsc c = true := by
    unfold gapL
    split
    · intro c hc; cases hc
    split
    · decide
    split
    · decide
    · decide
  unfold leftL
  split
  · exact hg
  · exact fun c hc => hg c (List.mem_of_mem_drop hc)
theorem way_b (nd : Nat → Int) (r : Nat) : 0 ≤ wayP nd r ∧ wayP nd r < 4 := ⟨Int.fmod_nonneg_of_pos _ (by decide), Int.fmod_lt_of_pos _ (by decide)⟩
theorem tk_row (nd : Nat → Int) (r : Nat) (rest : List Nat) : tkS (takenP nd r ++ rest) = (wordP nd r, rest) := tk_taken _ (way_b nd r).1 (way_b nd r).2 rest
theorem tk_left (nd : Nat → Int) (r : Nat) (rest : List Nat) : tkS (leftP nd r ++ rest) = tkS rest := tk_ws _ _ (left_ws _ _)
theorem page_three (nd : Nat → Int) : pageP nd 3 = takenP nd 0 ++ (leftP nd 0 ++ (takenP nd 1 ++ (leftP nd 1 ++ (takenP nd 2 ++ leftP nd 2)))) := by
  rw [page_succ, page_succ, page_succ]
  show [] ++ _ ++ _ ++ _ = _
  simp only [List.nil_append, List.append_assoc]
theorem nlc_app (a b : List Nat) : nlc (a ++ b) = nlc a + nlc b := by unfold nlc; rw [List.count_append]; omega
theorem rs_page (nd : Nat → Int) : rsP (pageP nd 3) 1 = leftP nd 0 ++ (takenP nd 1 ++ (leftP nd 1 ++ (takenP nd 2 ++ leftP nd 2))) ∧ rsP (pageP nd 3) 2 = leftP nd 1 ++ (takenP nd 2 ++ leftP nd 2) ∧ rsP (pageP nd 3) 3 = leftP nd 2 ∧ rsP (pageP nd 3) 4 = [] ∧ toksP (pageP nd 3) 4 = (List.range 3).map (wordP nd) ++ [[]] := by
  have t0 : tkS (rsP (pageP nd 3) 0) = (wordP nd 0, leftP nd 0 ++ (takenP nd 1 ++ (leftP nd 1 ++ (takenP nd 2 ++ leftP nd 2)))) := by
    show tkS (pageP nd 3) = _
    rw [page_three, tk_row]
  have r1 : rsP (pageP nd 3) 1 = leftP nd 0 ++ (takenP nd 1 ++ (leftP nd 1 ++ (takenP nd 2 ++ leftP nd 2))) := by
    show (tkS (rsP (pageP nd 3) 0)).2 = _
    rw [t0]
  have t1 : tkS (rsP (pageP nd 3) 1) = (wordP nd 1, leftP nd 1 ++ (takenP nd 2 ++ leftP nd 2)) := by rw [r1, tk_left, tk_row]
  have r2 : rsP (pageP nd 3) 2 = leftP nd 1 ++ (takenP nd 2 ++ leftP nd 2) := by
    show (tkS (rsP (pageP nd 3) 1)).2 = _
    rw [t1]
  have t2 : tkS (rsP (pageP nd 3) 2) = (wordP nd 2, leftP nd 2) := by rw [r2, tk_left, tk_row]
  have r3 : rsP (pageP nd 3) 3 = leftP nd 2 := by
    show (tkS (rsP (pageP nd 3) 2)).2 = _
    rw [t2]
  have t3 : tkS (rsP (pageP nd 3) 3) = ([], []) := by
    rw [r3]
    have := tk_left nd 2 []
    rw [List.append_nil] at this
    rw [this]
    rfl
  have r4 : rsP (pageP nd 3) 4 = [] := by
    show (tkS (rsP (pageP nd 3) 3)).2 = _
    rw [t3]
  refine ⟨r1, r2, r3, r4, ?_⟩
  show [(tkS (rsP (pageP nd 3) 0)).1, (tkS (rsP (pageP nd 3) 1)).1, (tkS (rsP (pageP nd 3) 2)).1, (tkS (rsP (pageP nd 3) 3)).1] = _
  rw [t0, t1, t2, t3]
  rfl
theorem suf_ok {pg a r : List Nat} (hp : pg = a ++ r) : r.length ≤ pg.length ∧ nlc r ≤ nlc pg := by
  subst hp
  rw [List.length_append, nlc_app]
  exact ⟨Nat.le_add_left _ _, Int.le_add_of_nonneg_left (Int.natCast_nonneg _)⟩
theorem suf_ln {pg a r : List Nat} (hp : pg = a ++ r) : some (1 + nlc a) = some (1 + nlc pg - nlc r) := by
  subst hp
  rw [nlc_app, ← Int.add_assoc, Int.add_sub_cancel]
theorem tk_ok (nd : Nat → Int) : TkOk nd (pageP nd 3) := by
  with_reducible refine Classical.byContradiction fun hZq => ?_
  obtain ⟨r1, r2, r3, r4, _⟩ := rs_page nd
  refine hZq ?_
  clear hZq
  have hp := page_three nd
  have h1 : pageP nd 3 = (pageP nd 0 ++ takenP nd 0) ++ rsP (pageP nd 3) 1 := by rw [r1, hp]; rfl
  have h2 : pageP nd 3 = (pageP nd 1 ++ takenP nd 1) ++ rsP (pageP nd 3) 2 := by
    rw [r2, hp, page_succ]
    show _ = (([] ++ _ ++ _) ++ _) ++ _
    simp only [List.nil_append, List.append_assoc]
  have h3 : pageP nd 3 = (pageP nd 2 ++ takenP nd 2) ++ rsP (pageP nd 3) 3 := by
    rw [r3, hp, page_succ, page_succ]
    show _ = ([] ++ _ ++ _ ++ _) ++ _
    simp only [List.nil_append, List.append_assoc]
  have h4 : pageP nd 3 = pageP nd 3 ++ rsP (pageP nd 3) 4 := by rw [r4, List.append_nil]
  refine ⟨fun i hi => ?_, fun i hi => ?_⟩
  · match i, hi with
    | 0, _ => exact ⟨Nat.le_refl _, Int.le_refl _⟩
    | 1, _ => exact suf_ok h1
    | 2, _ => exact suf_ok h2
    | 3, _ => exact suf_ok h3
    | 4, _ => exact suf_ok h4
  · match i, hi with
    | 0, _ => exact suf_ln h1
    | 1, _ => exact suf_ln h2
    | 2, _ => exact suf_ln h3
    | 3, _ => exact suf_ln h4

end partPl1
theorem off_Pu1 : (1 : Nat) = 1 := by
  w_top off
  first | walk1 | rfl
section partPu1
theorem wsRun_sp : ∀ (k : Nat) (st : WsSt) (rest : List Nat), wsRun st (List.replicate k 32 ++ rest) = wsRun { st with n := st.n + k, b := st.b + k } rest
  | 0, st, rest => by simp
  | k + 1, st, rest => by
    rw [List.replicate_succ, List.cons_append, wsRun, if_pos rfl, wsRun_sp k]
    congr 1
    simp only [WsSt.mk.injEq, true_and]
    refine ⟨?_, ?_, trivial⟩ <;> omega
noncomputable def runsLen : List Int → Int
  | [] => 0
  | r :: ns => r + 1 + runsLen ns
noncomputable def psum (g : Nat → Int) : Nat → Int
  | 0 => 0
  | n + 1 => psum g n + g n
theorem psum_zero {g : Nat → Int} : ∀ {n : Nat}, (∀ i, i < n → g i = 0) → psum g n = 0
  | 0, _ => rfl
  | n + 1, h => by rw [psum, psum_zero fun i hi => h i (by omega), h n (by omega)]; rfl
theorem psum_more {g : Nat → Int} {n : Nat} : ∀ {k : Nat}, (∀ i, n ≤ i → g i = 0) → psum g (n + k) = psum g n
  | 0, _ => rfl
  | k + 1, h => by rw [← Nat.add_assoc, psum, psum_more h, h (n + k) (by omega)]; omega
theorem psum_delta {g g' : Nat → Int} {b : Nat} {d : Int} : ∀ {n : Nat}, (∀ i, g' i = g i + if i = b then d else 0) → psum g' n = psum g n + if b < n then d else 0
  | 0, _ => by simp [psum]
  | n + 1, h => by
    rw [psum, psum, psum_delta h, h n]
    by_cases e : n = b
    · subst e; simp; omega
    · by_cases l : b < n
      · have : b < n + 1 := by omega
        simp [e, l, this]; omega
      · have : ¬ b < n + 1 := by omega
        simp [e, l, this]
theorem bump_getD (l : List Int) (b : Int) (h0 : 0 ≤ b) (i : Nat) : (bump l b).getD i 0 = l.getD i 0 + if i = b.toNat then 1 else 0 := by
  unfold bump up1
  have hset : ∀ (q : List Int) (j : Nat), j < q.length → (q.set j (q.getD j 0 + 1)).getD i 0 = q.getD i 0 + if i = j then 1 else 0 := by
    intro q j hj
    simp only [List.getD_eq_getElem?_getD, List.getElem?_set]
    by_cases e : j = i
    · subst e; simp [hj]
    · have e2 : ¬ i = j := fun z => e z.symm
      simp [e, e2]
  split
  · rename_i hge
    have hl : (List.replicate (b - l.length + 1).toNat [(0 : Int)]).flatten = List.replicate (b - l.length + 1).toNat 0 := by
      generalize (b - (l.length : Int) + 1).toNat = k
      induction k with
      | zero => rfl
      | succ k ih => rw [List.replicate_succ, List.flatten_cons, ih]; rfl
    rw [hset _ _ (by rw [hl]; simp; omega), hl]
    congr 1
    simp only [List.getD_eq_getElem?_getD, List.getElem?_append]
    by_cases hi : i < l.length
    · simp [hi]
    · simp [hi, List.getElem?_replicate]
      split <;> rfl
  · exact hset _ _ (by omega)
/-- the exact length of the counts -/
theorem bump_len_eq (l : List Int) (b : Int) (h0 : 0 ≤ b) : (bump l b).length = max l.length (b.toNat + 1) := by
  unfold bump up1
  have hl : ∀ k : Nat, (List.replicate k [(0 : Int)]).flatten.length = k := fun k => by simp
  split
  · rename_i h
    rw [List.length_set, List.length_append, hl, Nat.max_eq_right (by omega)]
    omega
  · rename_i h
    rw [List.length_set, Nat.max_eq_left (by omega)]
theorem bump_length (l : List Int) (b : Int) (h0 : 0 ≤ b) : (bump l b).length ≤ max l.length (b.toNat + 1) := Nat.le_of_eq (bump_len_eq l b h0)
theorem ilP_psum (cnt : List Int) (size : Int) (hs : 1 ≤ size) : ∀ k : Nat, ilP cnt size k = psum (fun i => Int.fdiv i size * cnt.getD i 0) (size.toNat + k)
  | 0 => by
    rw [Nat.add_zero, psum_zero fun i hi => ?_]
    · rfl
    · show Int.fdiv (i : Int) size * _ = 0
      rw [Int.fdiv_eq_ediv_of_nonneg _ (by omega), Int.ediv_eq_zero_of_lt (by omega) (by omega), Int.zero_mul]
  | k + 1 => by
    rw [ilP, ilP_psum cnt size hs k, ← Nat.add_assoc, psum]
    have e : ((size.toNat + k : Nat) : Int) = size + k := by omega
    have e2 : (size + (k : Int)).toNat = size.toNat + k := by omega
    rw [e2]
    show _ = _ + Int.fdiv ((size.toNat + k : Nat) : Int) size * _
    rw [e]
theorem ilP_all (cnt : List Int) (size : Int) (hs : 1 ≤ size) (N : Nat) (h : cnt.length ≤ N) (h2 : size.toNat ≤ N) : ilP cnt size ((cnt.length : Int) - size).toNat = psum (fun i => Int.fdiv i size * cnt.getD i 0) N := by
  rw [ilP_psum cnt size hs]
  have hz : ∀ i, size.toNat + ((cnt.length : Int) - size).toNat ≤ i → (fun i : Nat => Int.fdiv i size * cnt.getD i 0) i = 0 := fun i hi => by
    show Int.fdiv (i : Int) size * cnt.getD i 0 = 0
    have : cnt.length ≤ i := by omega
    rw [show cnt.getD i 0 = 0 by simp [List.getD_eq_getElem?_getD, List.getElem?_eq_none this], Int.mul_zero]
  have hN : N = size.toNat + ((cnt.length : Int) - size).toNat + (N - (size.toNat + ((cnt.length : Int) - size).toNat)) := by omega
  rw [hN, psum_more hz]
noncomputable def fsum (size : Int) : List Int → Int
  | [] => 0
  | r :: ns => Int.fdiv r size + fsum size ns
theorem psum_bumps (size : Int) (N : Nat) : ∀ (ns cnt : List Int), (∀ r ∈ ns, 0 ≤ r ∧ r.toNat < N) → psum (fun i => Int.fdiv i size * (ns.foldl bump cnt).getD i 0) N = psum (fun i => Int.fdiv i size * cnt.getD i 0) N + fsum size ns
  | [], cnt, _ => by simp [fsum]
  | r :: ns, cnt, h => by
    obtain ⟨h1, h2⟩ := h r (.head _)
    rw [List.foldl_cons, psum_bumps size N ns (bump cnt r) (fun q hq => h q (.tail _ hq)), fsum]
    rw [psum_delta (g := fun i => Int.fdiv i size * cnt.getD i 0) (b := r.toNat) (d := Int.fdiv r size) (fun i => ?_), if_pos h2]
    · omega
    · show Int.fdiv (i : Int) size * (bump cnt r).getD i 0 = _
      rw [bump_getD cnt r h1 i, Int.mul_add]
      by_cases e : i = r.toNat
      · have : (i : Int) = r := by omega
        simp [e]; rw [show max r 0 = r by omega]
      · simp [e]
theorem depth_mul (size : Int) (hs : 1 ≤ size) : ∀ (ns : List Int) (m : Int), (∀ r ∈ ns, 0 ≤ r) → depthP size (size * m) ns = size * (m + fsum size ns + ns.length)
  | [], m, _ => by simp [depthP, fsum]
  | r :: ns, m, h => by
    have h1 := h r (.head _)
    have e : size * m + r + size - Int.fmod (size * m + r) size = size * (m + Int.fdiv r size + 1) := by
      rw [Int.fmod_eq_emod_of_nonneg _ (by omega), Int.fdiv_eq_ediv_of_nonneg _ (by omega), Int.add_comm (size * m) r, Int.add_mul_emod_self_left]
      have := Int.mul_ediv_add_emod r size
      rw [Int.mul_add, Int.mul_add, Int.mul_one]
      omega
    have ih := depth_mul size hs ns (m + Int.fdiv r size + 1) (fun q hq => h q (.tail _ hq))
    unfold depthP at ih ⊢
    rw [List.foldl_cons, e, ih, fsum]
    congr 1
    simp only [List.length_cons]
    omega
theorem bumps_length : ∀ (ns cnt : List Int) (N : Nat), (∀ r ∈ ns, 0 ≤ r ∧ r.toNat < N) → cnt.length ≤ N → (ns.foldl bump cnt).length ≤ N
  | [], cnt, N, _, h => h
  | r :: ns, cnt, N, hn, h => by
    obtain ⟨h1, h2⟩ := hn r (.head _)
    have := bump_length cnt r h1
    exact bumps_length ns _ N (fun q hq => hn q (.tail _ hq)) (by omega)
theorem bumps_b : ∀ (ns cnt : List Int) (K : Int), (∀ r ∈ ns, 0 ≤ r) → (∀ i : Nat, 0 ≤ cnt.getD i 0 ∧ cnt.getD i 0 ≤ K) → ∀ i : Nat, 0 ≤ (ns.foldl bump cnt).getD i 0 ∧ (ns.foldl bump cnt).getD i 0 ≤ K + ns.length
  | [], cnt, K, _, h => fun i => by have := h i; simp only [List.foldl_nil, List.length_nil]; omega
  | r :: ns, cnt, K, hn, h => fun i => by
    have h1 := hn r (.head _)
    have := bumps_b ns (bump cnt r) (K + 1) (fun q hq => hn q (.tail _ hq)) (fun i => by
      rw [bump_getD cnt r h1 i]
      have := h i
      split <;> omega) i
    simp only [List.foldl_cons, List.length_cons]
    omega
theorem wsRun_lead (rest : List Nat) (hr : ∀ st, wsRun st rest = st) : ∀ (ns : List Int) (cnt : List Int) (n nt b : Int), (∀ r ∈ ns, 0 ≤ r) → 0 ≤ b →
    wsRun ⟨cnt, 0, n, nt⟩ (leadL ns ++ (List.replicate b.toNat 32 ++ rest)) = ⟨ns.foldl bump cnt, b, n + runsLen ns + b, nt + ns.length⟩
  | [], cnt, n, nt, b, _, hb => by
    show wsRun _ (List.replicate b.toNat 32 ++ rest) = _
    rw [wsRun_sp, hr]
    simp only [WsSt.mk.injEq, List.foldl_nil, runsLen, List.length_nil, true_and]
    refine ⟨?_, ?_, ?_⟩ <;> omega
  | r :: ns, cnt, n, nt, b, hn, hb => by
    have h0 := hn r (.head _)
    have e : leadL (r :: ns) ++ (List.replicate b.toNat 32 ++ rest) = List.replicate r.toNat 32 ++ (9 :: (leadL ns ++ (List.replicate b.toNat 32 ++ rest))) := by
      unfold leadL; simp
    rw [e, wsRun_sp, wsRun, if_neg (by decide), if_pos rfl]
    dsimp only
    have hb2 : (0 : Int) + (r.toNat : Int) = r := by omega
    rw [hb2, wsRun_lead rest hr ns _ _ _ b (fun q hq => hn q (.tail _ hq)) hb]
    simp only [WsSt.mk.injEq, List.foldl_cons, runsLen, List.length_cons, true_and]
    refine ⟨?_, ?_⟩ <;> omega
theorem leadL_runs : ∀ (ns : List Int), (∀ r ∈ ns, 0 ≤ r) → ((leadL ns).length : Int) = runsLen ns
  | [], _ => rfl
  | r :: ns, hn => by
    have ih := leadL_runs ns fun q hq => hn q (.tail _ hq)
    have e : leadL (r :: ns) = List.replicate r.toNat 32 ++ (9 :: leadL ns) := by unfold leadL; simp
    have hr := hn r (.head _)
    rw [e, List.length_append, List.length_replicate, List.length_cons, runsLen]
    omega
theorem end_run (k : Int) (st : WsSt) : wsRun st (endL k) = st := by
  unfold endL
  split
  · rfl
  split
  · rfl
  split
  · rfl
  · rfl
theorem bumps_len : ∀ (ns cnt : List Int), (∀ r ∈ ns, 0 ≤ r) → cnt.length ≤ (ns.foldl bump cnt).length ∧ (∀ r ∈ ns, r.toNat < (ns.foldl bump cnt).length) ∧ ((ns.foldl bump cnt).length = cnt.length ∨ ∃ r ∈ ns, (ns.foldl bump cnt).length = r.toNat + 1)
  | [], cnt, _ => ⟨Nat.le_refl _, (fun _ h => nomatch h), .inl rfl⟩
  | r :: ns, cnt, hn => by
    with_reducible refine Classical.byContradiction fun hZq => ?_
    obtain ⟨h1, h2, h3⟩ := bumps_len ns (bump cnt r) fun q hq => hn q (.tail _ hq)
    refine hZq ?_
    clear hZq
    have h4 := bump_len_eq cnt r (hn r (.head _))
    rw [h4] at h1 h3
    rw [List.foldl_cons]
    refine ⟨Nat.le_trans (Nat.le_max_left _ _) h1, fun q hq => ?_, ?_⟩
    · rcases List.mem_cons.mp hq with rfl | hq
      · exact Nat.le_trans (Nat.le_max_right _ _) h1
      · exact h2 q hq
    · rcases h3 with h3 | ⟨q, hq, h3⟩
      · rcases Nat.le_total cnt.length (r.toNat + 1) with hc | hc
        · exact .inr ⟨r, .head _, h3.trans (Nat.max_eq_right hc)⟩
        · exact .inl (h3.trans (Nat.max_eq_left hc))
      · exact .inr ⟨q, .tail _ hq, h3⟩
theorem bumps_count : ∀ (ns cnt : List Int), (∀ r ∈ ns, 0 ≤ r) → ∀ i : Nat, (ns.foldl bump cnt).getD i 0 = cnt.getD i 0 + (ns.count (i : Int) : Int)
  | [], cnt, _, i => by simp
  | r :: ns, cnt, hn, i => by
    have h0 := hn r (.head _)
    rw [List.foldl_cons, bumps_count ns _ (fun q hq => hn q (.tail _ hq)) i, bump_getD cnt r h0 i, List.count_cons]
    by_cases e : i = r.toNat
    · have : r = (i : Int) := by omega
      rw [if_pos e, if_pos (by simpa using this)]
      omega
    · have : ¬ r = (i : Int) := by omega
      rw [if_neg e, if_neg (by simpa using this)]
      omega
theorem list_getD_ext {a b : List Int} (hl : a.length = b.length) (h : ∀ i : Nat, a.getD i 0 = b.getD i 0) : a = b := by
  refine List.ext_getElem hl fun i h1 h2 => ?_
  have := h i
  simpa [List.getD, h1, h2] using this
theorem bumps_eq {ns ms : List Int} (hn : ∀ r ∈ ns, 0 ≤ r) (hm : ∀ r ∈ ms, 0 ≤ r) : ns.foldl bump [] = ms.foldl bump [] ↔ ns.Perm ms := by
  constructor
  · intro e
    refine List.perm_iff_count.mpr fun x => ?_
    by_cases hx : 0 ≤ x
    · have h1 := bumps_count ns [] hn x.toNat
      have h2 := bumps_count ms [] hm x.toNat
      rw [e, h2] at h1
      have h3 : ((x.toNat : Nat) : Int) = x := by omega
      rw [h3] at h1
      omega
    · rw [List.count_eq_zero.mpr fun h => hx (hn x h), List.count_eq_zero.mpr fun h => hx (hm x h)]
  · intro p
    refine p.foldl_eq' (fun x hx y hy z => ?_) []
    refine list_getD_ext ?_ fun i => ?_
    · rw [bump_len_eq _ _ (hn y hy), bump_len_eq _ _ (hn x hx), bump_len_eq _ _ (hn x hx), bump_len_eq _ _ (hn y hy)]
      exact Nat.max_right_comm _ _ _
    · rw [bump_getD _ _ (hn y hy), bump_getD _ _ (hn x hx), bump_getD _ _ (hn x hx), bump_getD _ _ (hn y hy)]
      exact Int.add_right_comm _ _ _
theorem ind_depth (ns : List Int) (tr size : Int) (hs : 1 ≤ size) (hs2 : size ≤ 20) (hn : ∀ r ∈ ns, 0 ≤ r ∧ r ≤ 16) : indP (ns.foldl bump []) tr ns.length size = depthP size 0 ns + tr := by
  have hb : ∀ r ∈ ns, 0 ≤ r ∧ r.toNat < 20 := fun r hr => ⟨(hn r hr).1, by have := hn r hr; omega⟩
  have hl := bumps_length ns [] 20 hb (by simp)
  unfold indP
  rw [ilP_all _ size hs 20 hl (by omega), psum_bumps size 20 ns [] hb, psum_zero (fun i _ => by simp), Int.zero_add]
  have := depth_mul size hs ns 0 fun r hr => (hn r hr).1
  rw [Int.mul_zero] at this
  rw [this]
  have e : (0 : Int) + fsum size ns + ns.length = fsum size ns + ns.length := by omega
  rw [e]
  omega
/-- a row's Whitespace -/
structure RowF (runs : List Int) (b : Int) (a : WsA) : Prop where
  cnt : a.cnt = runs.foldl bump []
  eb : a.b = b
  n : a.n = runsLen runs + b
  nt : a.nt = runs.length
  q : a.q = decide ((a.cnt.length : Int) ≤ 1)
  hr : ∀ r ∈ runs, 0 ≤ r ∧ r ≤ 16
  hb : 0 ≤ b ∧ b ≤ 18
  hl : runs.length ≤ 6
theorem runs_b (nd : Nat → Int) (i : Nat) : ∀ r ∈ runsP nd i, 0 ≤ r ∧ r ≤ 16 := dueL_b (ptsP nd i)
theorem word_run {nd : Nat → Int} (i : Nat) : wsRun ⟨[], 0, 0, 0⟩ (wordP nd i) = ⟨(runsP nd i).foldl bump [], behindP nd i, runsLen (runsP nd i) + behindP nd i, (runsP nd i).length⟩ := by
  have h := wsRun_lead (endL (endK nd i)) (end_run _) (runsP nd i) [] 0 0 (behindP nd i) (fun r hr => (runs_b nd i r hr).1) (behind_b nd i).1
  unfold wordP
  rw [h]
  simp
theorem row_f {nd : Nat → Int} (hnd : ∀ i, 0 ≤ nd i ∧ nd i < 1000000) (i : Nat) {a : WsA} (h : WsOf (wordP nd i) a) : RowF (runsP nd i) (behindP nd i) a := by
  obtain ⟨h1, ok⟩ := h
  rw [word_run] at h1
  injection h1 with e1 e2 e3 e4
  exact ⟨e1.symm, e2.symm, e3.symm, e4.symm, ok.hq, runs_b nd i, behind_b nd i, (lead_len nd i (pts_b hnd i).2).2⟩
theorem ws_bd {nd : Nat → Int} (hnd : ∀ i, 0 ≤ nd i ∧ nd i < 1000000) (i : Nat) : WsBd (wordP nd i) := by
  intro cnt b n nt h
  rw [word_run] at h
  injection h with e1 e2 e3 e4
  have hb := behind_b nd i
  have hl := (lead_len nd i (pts_b hnd i).2)
  have hl2 : (runsP nd i).length ≤ 6 := hl.2
  have h9 := leadL_runs (runsP nd i) fun r hr => (runs_b nd i r hr).1
  have h10 : (leadL (runsP nd i)).length ≤ 102 := hl.1
  refine ⟨fun c hc => ?_, by omega, by omega, by omega, by omega⟩
  with_reducible refine Classical.byContradiction fun hZq => ?_
  obtain ⟨k, hk, e⟩ := List.mem_iff_getElem.mp hc
  refine hZq ?_
  clear hZq
  have := bumps_b (runsP nd i) [] 0 (fun r hr => (runs_b nd i r hr).1) (fun j => by simp) k
  rw [e1] at this
  rw [show cnt.getD k 0 = c by simp [List.getD, hk, e]] at this
  omega
theorem row_q {w : World} {nd : Nat → Int} (i : Nat) {a : WsA} (h : RowF (runsP nd i) (behindP nd i) a) : (0 ≤ a.n ∧ a.n ≤ (wordP nd i).length) ∧ (wordP nd i).take a.n.toNat = leadL (runsP nd i) ++ List.replicate (behindP nd i).toNat 32 ∧ a.nt = ((runsP nd i).length : Int) := by
  have h9 := leadL_runs (runsP nd i) fun r hr => (h.hr r hr).1
  have hb := h.hb
  have hn := h.n
  have e : wordP nd i = (leadL (runsP nd i) ++ List.replicate (behindP nd i).toNat 32) ++ endL (endK nd i) := by unfold wordP; rw [List.append_assoc]
  have hl : ((leadL (runsP nd i) ++ List.replicate (behindP nd i).toNat 32).length : Int) = a.n := by
    rw [List.length_append, List.length_replicate]; omega
  refine ⟨⟨by omega, ?_⟩, ?_, h.nt⟩
  · rw [e, List.length_append]; omega
  · rw [e, show a.n.toNat = (leadL (runsP nd i) ++ List.replicate (behindP nd i).toNat 32).length by omega, List.take_left]

end partPu1
theorem off_Pm1 : (1 : Nat) = 1 := by
  w_top off
  first | walk1 | rfl
section partPm1
theorem fsum_one : ∀ ns : List Int, fsum 1 ns + ns.length = runsLen ns
  | [] => rfl
  | r :: ns => by
    have := fsum_one ns
    rw [fsum, runsLen, Int.fdiv_one, List.length_cons]
    omega
theorem fsum_big {size : Int} : ∀ ns : List Int, (∀ r ∈ ns, 0 ≤ r ∧ r < size) → fsum size ns = 0
  | [], _ => rfl
  | r :: ns, h => by
    obtain ⟨h1, h2⟩ := h r (.head _)
    rw [fsum, fsum_big ns fun q hq => h q (.tail _ hq), Int.fdiv_eq_ediv_of_nonneg _ (by omega), Int.ediv_eq_zero_of_lt h1 h2]
    rfl
theorem depth_one (ns : List Int) (h : ∀ r ∈ ns, 0 ≤ r) : depthP 1 0 ns = runsLen ns := by
  have := depth_mul 1 (by decide) ns 0 h
  rw [Int.mul_zero, Int.one_mul] at this
  rw [this, ← fsum_one]
  omega
theorem depth_big {size : Int} (ns : List Int) (h1 : 1 ≤ size) (h : ∀ r ∈ ns, 0 ≤ r ∧ r < size) : depthP size 0 ns = size * ns.length := by
  have := depth_mul size h1 ns 0 fun r hr => (h r hr).1
  rw [Int.mul_zero, fsum_big ns h, Int.zero_add, Int.zero_add] at this
  exact this
theorem grow {S T n1 n2 b1 b2 : Int} (hS : T ≤ S) (hn : n1 ≤ n2) (h : T * n1 + b1 < T * n2 + b2) : S * n1 + b1 < S * n2 + b2 := by
  obtain ⟨d, rfl⟩ : ∃ d, n2 = n1 + d := ⟨n2 - n1, by omega⟩
  have p : 0 ≤ (S - T) * d := Int.mul_nonneg (by omega) (by omega)
  rw [Int.sub_mul] at p
  rw [Int.mul_add] at h ⊢
  omega
theorem n_le {T n1 n2 b1 b2 : Int} (hT : 0 ≤ T) (h1 : 0 ≤ b1) (h2 : b2 < T) (h : T * n1 + b1 < T * n2 + b2) : n1 ≤ n2 := by
  refine Int.not_lt.mp fun hlt => ?_
  have p : T * (n2 + 1) ≤ T * n1 := Int.mul_le_mul_of_nonneg_left (by omega) hT
  rw [Int.mul_add, Int.mul_one] at p
  omega
/-- the longest run of a row -/
theorem RowF.lon {runs : List Int} {b : Int} {a : WsA} (h : RowF runs b a) : (0 ≤ lonP a ∧ lonP a ≤ 18) ∧ lonP a ∈ runs ++ [b] ∧ ∀ n ∈ runs ++ [b], n ≤ lonP a := by
  with_reducible refine Classical.byContradiction fun hZq => ?_
  obtain ⟨h1, h2, h3⟩ := bumps_len runs [] fun r hr => (h.hr r hr).1
  refine hZq ?_
  clear hZq
  rw [← h.cnt] at h2 h3
  have hb := h.hb
  have hall : ∀ n ∈ runs ++ [b], n ≤ lonP a := fun n hn => by
    unfold lonP
    rw [h.eb]
    rcases List.mem_append.mp hn with hn | hn
    · have := h2 n hn
      have := (h.hr n hn).1
      split <;> omega
    · rw [List.mem_singleton.mp hn]
      split <;> omega
  have hmem : lonP a ∈ runs ++ [b] := by
    unfold lonP
    rw [h.eb]
    split
    · exact List.mem_append.mpr (.inr (.head _))
    · rcases h3 with h3 | ⟨r, hr, h3⟩
      · have : a.cnt.length = 0 := h3
        omega
      · have := (h.hr r hr).1
        rw [show (a.cnt.length : Int) - 1 = r by omega]
        exact List.mem_append.mpr (.inl hr)
  refine ⟨⟨?_, ?_⟩, hmem, hall⟩
  · have := hall b (List.mem_append.mpr (.inr (.head _)))
    omega
  · rcases List.mem_append.mp hmem with q | q
    · have := h.hr _ q; omega
    · rw [List.mem_singleton.mp q]; omega
theorem RowF.ind {runs : List Int} {b : Int} {a : WsA} (h : RowF runs b a) {size : Int} (h1 : 1 ≤ size) (h2 : size ≤ 20) : indA a size = depthP size 0 runs + b := by
  unfold indA
  rw [h.cnt, h.eb, h.nt]
  exact ind_depth runs b size h1 h2 h.hr
theorem trip_nil (nd : Nat → Int) (i j k : Nat) : ((tripP nd i j k).filter fun r => decide (r.2.1 ≥ r.2.2)) = [] ↔ ∀ s : Nat, s < k → colQ nd i s < colQ nd j s := by
  rw [List.filter_eq_nil_iff]
  unfold tripP
  constructor
  · intro h s hs
    have := h _ (List.mem_map.mpr ⟨s, List.mem_range.mpr hs, rfl⟩)
    simpa using this
  · intro h r hr
    with_reducible refine Classical.byContradiction fun hZq => ?_
    obtain ⟨s, hs, rfl⟩ := List.mem_map.mp hr
    refine hZq ?_
    clear hZq
    have := h s (List.mem_range.mp hs)
    simpa using this
theorem less_eq {nd : Nat → Int} {i j : Nat} {a o : WsA} (ha : RowF (runsP nd i) (behindP nd i) a) (ho : RowF (runsP nd j) (behindP nd j) o) : lessP a o = decide (((tripP nd i j 20).filter fun r => decide (r.2.1 ≥ r.2.2)) = []) := by
  rw [Bool.eq_iff_iff, decide_eq_true_eq, trip_nil]
  with_reducible refine Classical.byContradiction fun hZq => ?_
  obtain ⟨⟨x1, x2⟩, x3, x4⟩ := ha.lon
  refine hZq ?_
  clear hZq
  with_reducible refine Classical.byContradiction fun hZq => ?_
  obtain ⟨⟨y1, y2⟩, y3, y4⟩ := ho.lon
  refine hZq ?_
  clear hZq
  have hb1 := ha.hb
  have hb2 := ho.hb
  have hn1 := ha.n
  have hn2 := ho.n
  have c0 : colQ nd i 0 = a.n := by
    show depthP (1 + ((0 : Nat) : Int)) 0 _ + _ = _
    rw [hn1, ← depth_one _ fun r hr => (ha.hr r hr).1]
    rfl
  have c1 : colQ nd j 0 = o.n := by
    show depthP (1 + ((0 : Nat) : Int)) 0 _ + _ = _
    rw [hn2, ← depth_one _ fun r hr => (ho.hr r hr).1]
    rfl
  unfold lessP
  by_cases hnn : a.n ≥ o.n
  · rw [if_pos hnn]
    refine ⟨fun e => (by cases e), fun h => ?_⟩
    have := h 0 (by decide)
    omega
  rw [if_neg hnn]
  by_cases hq : (a.q && o.q) = true
  · rw [if_pos hq, decide_eq_true_eq]
    rw [Bool.and_eq_true, ha.q, ho.q, decide_eq_true_eq, decide_eq_true_eq] at hq
    obtain ⟨q1, q2⟩ := hq
    have z1 : ∀ r ∈ runsP nd i, 0 ≤ r ∧ r < 1 := fun r hr => by
      have h2 := (bumps_len (runsP nd i) [] fun r hr => (ha.hr r hr).1).2.1 r hr
      have h3 := (ha.hr r hr).1
      rw [← ha.cnt] at h2
      omega
    have z2 : ∀ r ∈ runsP nd j, 0 ≤ r ∧ r < 1 := fun r hr => by
      have h2 := (bumps_len (runsP nd j) [] fun r hr => (ho.hr r hr).1).2.1 r hr
      have h3 := (ho.hr r hr).1
      rw [← ho.cnt] at h2
      omega
    have d1 : ∀ s : Nat, colQ nd i s = (1 + (s : Int)) * a.nt + behindP nd i := fun s => by
      show depthP _ 0 _ + _ = _
      rw [depth_big _ (by omega) fun r hr => ⟨(z1 r hr).1, by have := z1 r hr; omega⟩, ha.nt]
    have d2 : ∀ s : Nat, colQ nd j s = (1 + (s : Int)) * o.nt + behindP nd j := fun s => by
      show depthP _ 0 _ + _ = _
      rw [depth_big _ (by omega) fun r hr => ⟨(z2 r hr).1, by have := z2 r hr; omega⟩, ho.nt]
    have e0 := d1 0
    have e1 := d2 0
    rw [c0] at e0
    rw [c1] at e1
    constructor
    · intro h s hs
      rw [d1, d2]
      exact grow (T := 1 + ((0 : Nat) : Int)) (by omega) h (by rw [← e0, ← e1]; omega)
    · intro h
      have h9 := h 19 (by decide)
      rw [d1, d2] at h9
      exact n_le (by decide) hb1.1 (by show behindP nd j < 1 + ((19 : Nat) : Int); omega) h9
  rw [if_neg hq, List.all_eq_true]
  have hT : topP a o = (if lonP o > lonP a then lonP o else lonP a) + 1 := rfl
  have hT1 : 1 ≤ topP a o ∧ topP a o ≤ 19 ∧ lonP a < topP a o ∧ lonP o < topP a o := by rw [hT]; split <;> omega
  clear hT
  generalize topP a o = tp at *
  with_reducible refine Classical.byContradiction fun hZq => ?_
  obtain ⟨t1, t2, t3, t4⟩ := hT1
  refine hZq ?_
  clear hZq
  constructor
  · intro h
    have small : ∀ s : Nat, 1 + (s : Int) ≤ tp → colQ nd i s < colQ nd j s := fun s hs => by
      cases s with
      | zero => omega
      | succ s =>
        have h1 := h s (List.mem_range.mpr (by omega))
        rw [decide_eq_true_eq, ha.ind (by omega) (by omega), ho.ind (by omega) (by omega)] at h1
        show depthP (1 + ((s + 1 : Nat) : Int)) 0 _ + _ < depthP (1 + ((s + 1 : Nat) : Int)) 0 _ + _
        rw [show 1 + ((s + 1 : Nat) : Int) = 2 + (s : Int) by omega]
        exact h1
    intro s hs
    by_cases hst : 1 + (s : Int) ≤ tp
    · exact small s hst
    have r1 : ∀ r ∈ runsP nd i, 0 ≤ r ∧ r < tp := fun r hr => ⟨(ha.hr r hr).1, by have := x4 r (List.mem_append.mpr (.inl hr)); omega⟩
    have r2 : ∀ r ∈ runsP nd j, 0 ≤ r ∧ r < tp := fun r hr => ⟨(ho.hr r hr).1, by have := y4 r (List.mem_append.mpr (.inl hr)); omega⟩
    have hp := small (tp - 1).toNat (by omega)
    have b1 := x4 _ (List.mem_append.mpr (.inr (.head _)))
    have b2 := y4 _ (List.mem_append.mpr (.inr (.head _)))
    have hp2 : depthP tp 0 (runsP nd i) + behindP nd i < depthP tp 0 (runsP nd j) + behindP nd j := by
      have e : 1 + (((tp - 1).toNat : Nat) : Int) = tp := by omega
      have hp' : depthP (1 + (((tp - 1).toNat : Nat) : Int)) 0 (runsP nd i) + behindP nd i < depthP (1 + (((tp - 1).toNat : Nat) : Int)) 0 (runsP nd j) + behindP nd j := hp
      rw [e] at hp'
      exact hp'
    rw [depth_big _ t1 r1, depth_big _ t1 r2] at hp2
    show depthP (1 + (s : Int)) 0 _ + _ < depthP (1 + (s : Int)) 0 _ + _
    rw [depth_big _ (by omega) fun r hr => ⟨(r1 r hr).1, by have := r1 r hr; omega⟩, depth_big _ (by omega) fun r hr => ⟨(r2 r hr).1, by have := r2 r hr; omega⟩]
    exact grow (T := tp) (by omega) (n_le (by omega) hb1.1 (by omega) hp2) hp2
  · intro h k hk
    have hk2 := List.mem_range.mp hk
    have h1 := h (k + 1) (by omega)
    rw [decide_eq_true_eq, ha.ind (by omega) (by omega), ho.ind (by omega) (by omega)]
    have h2 : depthP (1 + ((k + 1 : Nat) : Int)) 0 (runsP nd i) + behindP nd i < depthP (1 + ((k + 1 : Nat) : Int)) 0 (runsP nd j) + behindP nd j := h1
    rw [show 1 + ((k + 1 : Nat) : Int) = 2 + (k : Int) by omega] at h2
    exact h2
theorem wits_eq {nd : Nat → Int} {i j : Nat} {a o : WsA} (ha : RowF (runsP nd i) (behindP nd i) a) (ho : RowF (runsP nd j) (behindP nd j) o) (p : Int → Int → Bool) {k : Nat} (hk : k ≤ 20) : witsP p a o k = ((tripP nd i j 20).take k).filter (fun r => p r.2.1 r.2.2) := by
  unfold witsP tripP
  rw [← List.map_take, List.take_range, Nat.min_eq_left hk, List.filter_map]
  have e : ∀ s : Nat, s < k → indA a (1 + (s : Int)) = colQ nd i s ∧ indA o (1 + (s : Int)) = colQ nd j s := fun s hs => ⟨ha.ind (by omega) (by omega), ho.ind (by omega) (by omega)⟩
  have e1 : (List.range k).filter (fun j : Nat => p (indA a (1 + (j : Int))) (indA o (1 + (j : Int)))) = (List.range k).filter ((fun r : Int × Int × Int => p r.2.1 r.2.2) ∘ fun s : Nat => (1 + (s : Int), colQ nd i s, colQ nd j s)) := by
    refine List.filter_congr fun s hs => ?_
    obtain ⟨q1, q2⟩ := e s (List.mem_range.mp hs)
    rw [q1, q2]
    rfl
  rw [e1]
  refine List.map_congr_left fun s hs => ?_
  obtain ⟨q1, q2⟩ := e s (List.mem_range.mp (List.mem_filter.mp hs).1)
  rw [q1, q2]
theorem pair_q {nd : Nat → Int} {i j : Nat} {a o : WsA} (ha : RowF (runsP nd i) (behindP nd i) a) (ho : RowF (runsP nd j) (behindP nd j) o) : PairQ nd a o i j := by
  with_reducible refine Classical.byContradiction fun hZq => ?_
  obtain ⟨⟨x1, x2⟩, x3, x4⟩ := ha.lon
  refine hZq ?_
  clear hZq
  with_reducible refine Classical.byContradiction fun hZq => ?_
  obtain ⟨⟨y1, y2⟩, y3, y4⟩ := ho.lon
  refine hZq ?_
  clear hZq
  have hT : topP a o = (if lonP o > lonP a then lonP o else lonP a) + 1 := rfl
  refine ⟨?_, less_eq ha ho, topP a o - 1, by rw [hT]; split <;> omega, ?_, ?_, ?_, ?_⟩
  · rw [ha.cnt, ho.cnt, ha.eb, ho.eb, bumps_eq (fun r hr => (ha.hr r hr).1) fun r hr => (ho.hr r hr).1]
  · rw [hT]
    split
    · rw [Int.add_sub_cancel]
      exact List.mem_append.mpr (.inr y3)
    · rw [Int.add_sub_cancel]
      exact List.mem_append.mpr (.inl x3)
  · intro n hn
    rw [hT]
    rcases List.mem_append.mp hn with hn | hn
    · have := x4 n hn
      split <;> omega
    · have := y4 n hn
      split <;> omega
  · rw [Int.sub_add_cancel]
    exact wits_eq ha ho p_neq (by rw [hT]; split <;> omega)
  · rw [Int.sub_add_cancel]
    exact wits_eq ha ho p_nls (by rw [hT]; split <;> omega)

end partPm1
theorem off_La1 : (1 : Nat) = 1 := by
  w_top off
  first | walk1 | rfl
section partLa1
theorem cutB {M : Model} {A : Around} {body : List Stmt} {env : Env} {Q : Flow → Shared → Prop} {E : Value → Shared → Prop} {s : Shared} (k n m : Nat) (hm : k + n = m) (Mid : Shared → Prop)
    (h1 : wpAny M A (execs ((body.drop k).take n) env) (Next Mid) E s) (h2 : ∀ s', Mid s' → wpAny M A (execs (body.drop m) env) Q E s') : wpAny M A (execs (body.drop k) env) Q E s :=
  cutN n Mid h1 fun s' h => by rw [List.drop_drop, hm]; exact h2 s' h
theorem sub_c {α : Type} {a : α} {l r : List α} (h : a ∈ r) (k : ∀ p ∈ l, p ∈ r) : ∀ p ∈ a :: l, p ∈ r := List.forall_mem_cons.mpr ⟨h, k⟩
theorem sh1 {α : Type} {wl dl pl nl l c3 c2 c1 t : α} {tl : List α} : ∀ p ∈ t :: wl :: dl :: pl :: nl :: c3 :: c2 :: c1 :: tl, p ∈ wl :: dl :: pl :: nl :: l :: ([c3, c2, c1, t] ++ tl) :=
  sub_c (.tail _ (.tail _ (.tail _ (.tail _ (.tail _ (.tail _ (.tail _ (.tail _ (.head _))))))))) (sub_c (.head _) (sub_c (.tail _ (.head _)) (sub_c (.tail _ (.tail _ (.head _))) (sub_c (.tail _ (.tail _ (.tail _ (.head _)))) (sub_c (.tail _ (.tail _ (.tail _ (.tail _ (.tail _ (.head _)))))) (sub_c (.tail _ (.tail _ (.tail _ (.tail _ (.tail _ (.tail _ (.head _))))))) (sub_c (.tail _ (.tail _ (.tail _ (.tail _ (.tail _ (.tail _ (.tail _ (.head _)))))))) (fun _ hp => .tail _ (.tail _ (.tail _ (.tail _ (.tail _ (.tail _ (.tail _ (.tail _ (.tail _ (hp)))))))))))))))))
theorem sh2 {α : Type} {ld td wl dl pl nl c3 c2 c1 t : α} {tl leds : List α} : ∀ p ∈ c1 :: ld :: td :: t :: wl :: dl :: pl :: nl :: c3 :: c2 :: (tl ++ leds), p ∈ ld :: td :: ((t :: wl :: dl :: pl :: nl :: c3 :: c2 :: c1 :: tl) ++ leds) :=
  sub_c (.tail _ (.tail _ (.tail _ (.tail _ (.tail _ (.tail _ (.tail _ (.tail _ (.tail _ (.head _)))))))))) (sub_c (.head _) (sub_c (.tail _ (.head _)) (sub_c (.tail _ (.tail _ (.head _))) (sub_c (.tail _ (.tail _ (.tail _ (.head _)))) (sub_c (.tail _ (.tail _ (.tail _ (.tail _ (.head _))))) (sub_c (.tail _ (.tail _ (.tail _ (.tail _ (.tail _ (.head _)))))) (sub_c (.tail _ (.tail _ (.tail _ (.tail _ (.tail _ (.tail _ (.head _))))))) (sub_c (.tail _ (.tail _ (.tail _ (.tail _ (.tail _ (.tail _ (.tail _ (.head _)))))))) (sub_c (.tail _ (.tail _ (.tail _ (.tail _ (.tail _ (.tail _ (.tail _ (.tail _ (.head _))))))))) (fun _ hp => .tail _ (.tail _ (.tail _ (.tail _ (.tail _ (.tail _ (.tail _ (.tail _ (.tail _ (.tail _ (hp))))))))))))))))))))
theorem sh3 {α : Type} {e0 ld td wl dl pl nl c3 c2 c1 t : α} {tl leds tle : List α} : ∀ p ∈ c2 :: e0 :: c1 :: ld :: td :: t :: wl :: dl :: pl :: nl :: c3 :: ((tl ++ leds) ++ tle), p ∈ e0 :: c1 :: ((ld :: td :: t :: wl :: dl :: pl :: nl :: c3 :: c2 :: (tl ++ leds)) ++ tle) :=
  sub_c (.tail _ (.tail _ (.tail _ (.tail _ (.tail _ (.tail _ (.tail _ (.tail _ (.tail _ (.tail _ (.head _))))))))))) (sub_c (.head _) (sub_c (.tail _ (.head _)) (sub_c (.tail _ (.tail _ (.head _))) (sub_c (.tail _ (.tail _ (.tail _ (.head _)))) (sub_c (.tail _ (.tail _ (.tail _ (.tail _ (.head _))))) (sub_c (.tail _ (.tail _ (.tail _ (.tail _ (.tail _ (.head _)))))) (sub_c (.tail _ (.tail _ (.tail _ (.tail _ (.tail _ (.tail _ (.head _))))))) (sub_c (.tail _ (.tail _ (.tail _ (.tail _ (.tail _ (.tail _ (.tail _ (.head _)))))))) (sub_c (.tail _ (.tail _ (.tail _ (.tail _ (.tail _ (.tail _ (.tail _ (.tail _ (.head _))))))))) (sub_c (.tail _ (.tail _ (.tail _ (.tail _ (.tail _ (.tail _ (.tail _ (.tail _ (.tail _ (.head _)))))))))) (fun _ hp => .tail _ (.tail _ (.tail _ (.tail _ (.tail _ (.tail _ (.tail _ (.tail _ (.tail _ (.tail _ (.tail _ (hp))))))))))))))))))))))
theorem sh4 {α : Type} {e0 ld td wl dl pl nl c3 c2 c1 t : α} {tl leds tle : List α} : ∀ p ∈ c1 :: c2 :: c3 :: e0 :: ld :: td :: t :: wl :: dl :: pl :: nl :: ((tl ++ leds) ++ tle), p ∈ c2 :: e0 :: c1 :: ld :: td :: t :: wl :: dl :: pl :: nl :: c3 :: ((tl ++ leds) ++ tle) :=
  sub_c (.tail _ (.tail _ (.head _))) (sub_c (.head _) (sub_c (.tail _ (.tail _ (.tail _ (.tail _ (.tail _ (.tail _ (.tail _ (.tail _ (.tail _ (.tail _ (.head _))))))))))) (sub_c (.tail _ (.head _)) (sub_c (.tail _ (.tail _ (.tail _ (.head _)))) (sub_c (.tail _ (.tail _ (.tail _ (.tail _ (.head _))))) (sub_c (.tail _ (.tail _ (.tail _ (.tail _ (.tail _ (.head _)))))) (sub_c (.tail _ (.tail _ (.tail _ (.tail _ (.tail _ (.tail _ (.head _))))))) (sub_c (.tail _ (.tail _ (.tail _ (.tail _ (.tail _ (.tail _ (.tail _ (.head _)))))))) (sub_c (.tail _ (.tail _ (.tail _ (.tail _ (.tail _ (.tail _ (.tail _ (.tail _ (.head _))))))))) (sub_c (.tail _ (.tail _ (.tail _ (.tail _ (.tail _ (.tail _ (.tail _ (.tail _ (.tail _ (.head _)))))))))) (fun _ hp => .tail _ (.tail _ (.tail _ (.tail _ (.tail _ (.tail _ (.tail _ (.tail _ (.tail _ (.tail _ (.tail _ (hp))))))))))))))))))))))
theorem law_body (w : World) (L fa : Addr) (cd : Value) (g h0 : Heap) (gn : Array GenState) (dr : Drawn) (tk : Nat) (os : OsState) (ax : Addr) (its : List Value) (script : List Int) (o1 o2 o3 : Obj) {pp : Program} {loose : List Str} {mean : ExcName → Option Value} {mg mb : Str → Option Value}
  (X : (K0 w.params).In g) (TT : Top pp loose mean mg mb g) (hL0 : g.IsList ax its.toArray) (hI0 : IntsAre its script) (hsl : script.length ≤ 63) (HC : Cells o1 o2 o3 none none none) (l145 : (145 : Nat) < L) (C0 : CodeHd g 149 145)
  (F0 : Fr g L h0 (over [((PySem.Str.ofString "script"), .ref ax)] fun _ => none)) (N0 : News g L h0 (cellsL L o1 o2 o3)) :
  wpAny (model prog w) (lawA L fa cd) (execs (lawBS.1.drop 0) (lawEnv L fa cd)) (fun fl s' => fl = .ret (.bool true) ∧ (∃ h tk' m, s' = ⟨h, gn, dr, tk', os⟩ ∧ Fr g L h m) ∧ ∃ ps, s'.heap.get? 145 = some (tabObj ps)) noE ⟨h0, gn, dr, tk, os⟩ := by
  refine cutB 0 1 1 rfl _ (blkA w L fa cd g h0 gn dr tk os ax its script o1 o2 o3 X TT hL0 hI0 hsl HC l145 F0 N0) ?_
  clear F0 N0 HC
  clear o1 o2 o3
  rintro s1 hPz1
  with_reducible refine Classical.byContradiction fun hZq => ?_
  obtain ⟨nd, vs, l, n, o1, o2, o3, hnd, hvl, hv, HC, h1, tk1, m1, rfl, F1, N1⟩ := hPz1
  refine hZq ?_
  clear hZq
  with_reducible_and_instances refine cutB 1 1 2 rfl _ (blkB w L fa cd g h1 m1 gn dr tk1 os l vs n o1 o2 o3 X TT HC l145 F1 N1) ?_
  clear F1 N1 HC
  clear o1 o2 o3
  rintro s2 hPz1
  with_reducible refine Classical.byContradiction fun hZq => ?_
  obtain ⟨wl, dl, pl, nl, tp0, o1, o2, o3, ⟨c1, c2, c3⟩, hap, h2, tk2, m2, rfl, F2, N2⟩ := hPz1
  refine hZq ?_
  clear hZq
  refine cutB 2 1 3 rfl _ (blkC w L fa cd g h2 m2 gn dr tk2 os l wl dl pl nl vs n nd tp0 o1 o2 o3 X TT l145 hnd hvl hv hap F2 N2) ?_
  clear F2 N2
  rintro s3 hPz1
  with_reducible refine Classical.byContradiction fun hZq => ?_
  obtain ⟨lo, nw, ⟨tp, ws, ds, ps, ls, wn, dn, pn, ln, tl, rfl, rfl, hws, hds, hps, hls, hoff⟩, h3, tk3, m3, rfl, F3, N3⟩ := hPz1
  refine hZq ?_
  clear hZq
  with_reducible refine Classical.byContradiction fun hZq => ?_
  obtain ⟨a1, a2, a3, a4, a5, a6, a7, a8, a9, a10, ⟨b1, b2, b3, b4, _⟩, ⟨b5, b6, b7, b8, _⟩, ⟨b9, b10, b11, b12, _⟩, ⟨b13, b14, b15, b16, _⟩⟩ := id hap
  refine hZq ?_
  clear hZq
  clear hap a1 a2 a3 a4 a5 a6 a7 a8 a9 a10
  with_reducible refine Classical.byContradiction fun hZq => ?_
  obtain ⟨_, _, _, _, t3, t2, t1, t0, _⟩ := id hoff
  refine hZq ?_
  clear hZq
  clear hoff
  have hptl : ∀ i, (ptsP nd i).length ≤ 2 := fun i => (pts_b hnd i).2
  have hpl := page_len nd hptl 3
  with_reducible refine Classical.byContradiction fun hZq => ?_
  obtain ⟨r1, r2, r3, r4, htoks⟩ := rs_page nd
  refine hZq ?_
  clear hZq
  clear r1 r2 r3 r4
  have htk := tk_ok nd
  generalize pageP nd 3 = pg at *
  have F3' : Fr g L h3 (over (lawF wl dl pl nl pg tp) (over (pgF L wl dl pl nl l nd pg tp) m3)) := by
    rw [over_self (by (first | focus ((repeat (first | exact True.intro | (refine AllAt.keep _ rfl ?_ ?_; (focus decide +kernel)) | (refine AllAt.skip _ rfl ?_ ?_; (focus decide +kernel)))); done) | ((repeat (refine And.intro ?_ ?_; (focus (first | walk_at "m_look" | rfl)))); exact True.intro)))]; exact F3
  have N4 : News g L h3 ((145, tabObj #[]) :: (wl, listOf ws.toArray wn) :: (dl, listOf ds.toArray dn) :: (pl, listOf ps.toArray pn) :: (nl, listOf ls.toArray ln) :: (L + 1 + 1 + 1, o3) :: (L + 1 + 1, o2) :: (L + 1, o1) :: tl) := fun p hp => N3 p (sh1 p hp)
  clear F3 N3
  have e1 : ∀ p ∈ (wl, listOf ws.toArray wn) :: (dl, listOf ds.toArray dn) :: (pl, listOf ps.toArray pn) :: (nl, listOf ls.toArray ln) :: (L + 1 + 1 + 1, o3) :: (L + 1 + 1, o2) :: (L + 1, o1) :: tl, p.1 ≠ 145 :=
    all_c (Nq.r b4) (all_c (Nq.r b8) (all_c (Nq.r b12) (all_c (Nq.r b16) (all_c (show @Ne Nat _ _ by omega) (all_c (show @Ne Nat _ _ by omega) (all_c (show @Ne Nat _ _ by omega) t0))))))
  refine cutB 3 1 4 rfl _ (blkF w L fa cd g h3 _ gn dr tk3 os pg (by omega) wl dl pl nl tp _ X TT l145 C0 e1 F3' N4) ?_
  clear F3' N4 e1
  rintro s4 hPz1
  with_reducible refine Classical.byContradiction fun hZq => ?_
  obtain ⟨cps, a, tl4, ys4, n4, ok4, hys4, hof4, h4, tk4, m4, rfl, F4, N4⟩ := hPz1
  refine hZq ?_
  clear hZq
  refine cutB 4 2 6 rfl _ (blkT w L fa cd g h4 m4 gn dr tk4 os nd pg (by omega) wl dl pl nl tp tl4 a ok4 ys4 ls n4 ln _ X TT l145 hys4 hof4 hls (.tail _ (.tail _ (.tail _ (.tail _ (.head _))))) htk F4 N4) ?_
  clear F4 N4 hof4 hys4 ok4
  rintro s5 hPz1
  with_reducible refine Classical.byContradiction fun hZq => ?_
  obtain ⟨td, tv, tn, htv, htd, h5, tk5, m5, rfl, F5, N5⟩ := hPz1
  refine hZq ?_
  clear hZq
  rw [htoks] at htv
  have hrl : ((List.range 3).map (wordP nd)).length = 3 := rfl
  have hws' : StrsAre ws (((List.range 3).map (wordP nd)).map T) := by rw [List.map_map]; exact hws
  refine cutB 6 1 7 rfl _ (blkU w L fa cd g h5 m5 gn dr tk5 os pg wl dl pl nl td tp tv ws tn wn _ (Nat.le_of_eq hrl) _ X TT htv hws' (.tail _ (.head _)) F5 N5) ?_
  clear F5 N5
  rintro s6 hPz1
  with_reducible refine Classical.byContradiction fun hZq => ?_
  obtain ⟨h6, tk6, m6, rfl, F6, N6⟩ := hPz1
  refine hZq ?_
  clear hZq
  have hrow : ∀ r ∈ (List.range 3).map (wordP nd), r.length ≤ 200 ∧ WsBd r := fun r hr => by
    with_reducible refine Classical.byContradiction fun hZq => ?_
    obtain ⟨i, _, rfl⟩ := List.mem_map.mp hr
    refine hZq ?_
    clear hZq
    have := word_len nd i (hptl i)
    exact ⟨by omega, ws_bd hnd i⟩
  refine cutB 7 1 8 rfl _ (blkV w L fa cd g h6 m6 gn dr tk6 os pg wl dl pl nl td tp tv tn _ hrl (fun r hr => (hrow r hr).1) (fun r hr => (hrow r hr).2) _ ⟨o3, .tail _ (.tail _ (.tail _ (.tail _ (.tail _ (.head _)))))⟩ ⟨o2, .tail _ (.tail _ (.tail _ (.tail _ (.tail _ (.tail _ (.head _))))))⟩ ⟨o1, .tail _ (.tail _ (.tail _ (.tail _ (.tail _ (.tail _ (.tail _ (.head _)))))))⟩ X TT htv F6 N6) ?_
  clear F6 N6
  rintro s7 hPz1
  with_reducible refine Classical.byContradiction fun hZq => ?_
  obtain ⟨ld, ldn, as, has, hasw, haso, ⟨u3, u2, u1⟩, h7, tk7, m7, rfl, F7, N7⟩ := hPz1
  refine hZq ?_
  clear hZq
  have N8 : News g L h7 ((L + 1, o1) :: (ld, listOf (as.map fun a => Value.ref a.x).toArray ldn) :: (td, listOf tv.toArray tn) :: (145, tabObj cps) :: (wl, listOf ws.toArray wn) :: (dl, listOf ds.toArray dn) :: (pl, listOf ps.toArray pn) :: (nl, listOf ls.toArray ln) :: (L + 1 + 1 + 1, o3) :: (L + 1 + 1, o2) :: (tl ++ (as.map fun a => a.led w).flatten)) := fun p hp => N7 p (sh2 p hp)
  clear N7
  have hleds : ∀ c : Addr, c ∈ [L + 1 + 1 + 1, L + 1 + 1, L + 1] → ∀ p ∈ (as.map fun a => a.led w).flatten, p.1 ≠ c := fun c hc p hp => by
    with_reducible refine Classical.byContradiction fun hZq => ?_
    obtain ⟨q, hq, hp⟩ := List.mem_flatten.mp hp
    refine hZq ?_
    clear hZq
    with_reducible refine Classical.byContradiction fun hZq => ?_
    obtain ⟨a, ha, rfl⟩ := List.mem_map.mp hq
    refine hZq ?_
    clear hZq
    exact (haso a ha).mem hc p hp
  have happ : ∀ {c : Addr} {x y : List (Addr × Obj)}, (∀ p ∈ x, p.1 ≠ c) → (∀ p ∈ y, p.1 ≠ c) → ∀ p ∈ x ++ y, p.1 ≠ c := fun h1 h2 p hp => (List.mem_append.mp hp).elim (h1 p) (h2 p)
  have d1 : L + 1 < td := htd (L + 1, o1) (.tail _ (.tail _ (.tail _ (.tail _ (.tail _ (.tail _ (.tail _ (.head _))))))))
  have d2 : L + 1 + 1 < td := htd (L + 1 + 1, o2) (.tail _ (.tail _ (.tail _ (.tail _ (.tail _ (.tail _ (.head _)))))))
  have d3 : L + 1 + 1 + 1 < td := htd (L + 1 + 1 + 1, o3) (.tail _ (.tail _ (.tail _ (.tail _ (.tail _ (.head _))))))
  have o8 : ∀ p ∈ (ld, listOf (as.map fun a => Value.ref a.x).toArray ldn) :: (td, listOf tv.toArray tn) :: (145, tabObj cps) :: (wl, listOf ws.toArray wn) :: (dl, listOf ds.toArray dn) :: (pl, listOf ps.toArray pn) :: (nl, listOf ls.toArray ln) :: (L + 1 + 1 + 1, o3) :: (L + 1 + 1, o2) :: (tl ++ (as.map fun a => a.led w).flatten), p.1 ≠ L + 1 :=
    all_c u1 (all_c (Nat.ne_of_gt d1) (all_c (show @Ne Nat _ _ by omega) (all_c (Nq.r b3) (all_c (Nq.r b7) (all_c (Nq.r b11) (all_c (Nq.r b15) (all_c (show @Ne Nat _ _ by omega) (all_c (show @Ne Nat _ _ by omega) (happ t1 (hleds _ (.tail _ (.tail _ (.head _))))))))))))) 
  refine cutB 8 1 9 rfl _ (blkW w L fa cd g h7 m7 gn dr tk7 os nd hnd pg wl dl pl nl td ld tp ds dn tl _ o1 [L + 1, L + 1 + 1, L + 1 + 1 + 1] X TT c1 hds (fun p hp => .tail _ (.tail _ (.tail _ (.tail _ (.tail _ (.tail _ (.tail _ (.tail _ (.tail _ (List.mem_append.mpr (.inl hp))))))))))) (.tail _ (.tail _ (.tail _ (.tail _ (.head _))))) o8 (fun c hc => ?_) (.head _) F7 N8) ?_
  · rcases List.mem_cons.mp hc with rfl | hc
    · exact ⟨o1, .head _⟩
    rcases List.mem_cons.mp hc with rfl | hc
    · exact ⟨o2, .tail _ (.tail _ (.tail _ (.tail _ (.tail _ (.tail _ (.tail _ (.tail _ (.tail _ (.head _)))))))))⟩
    rw [List.mem_singleton.mp hc]
    exact ⟨o3, .tail _ (.tail _ (.tail _ (.tail _ (.tail _ (.tail _ (.tail _ (.tail _ (.head _))))))))⟩
  clear F7 N8 o8
  rintro s8 hPz1
  with_reducible refine Classical.byContradiction fun hZq => ?_
  obtain ⟨e0, ev, en, tle, o1', c1', hev, hoe, he0, h8, tk8, m8, rfl, F8, N8⟩ := hPz1
  refine hZq ?_
  clear hZq
  have N9 : News g L h8 ((L + 1 + 1, o2) :: (e0, listOf ev.toArray en) :: (L + 1, o1') :: (ld, listOf (as.map fun a => Value.ref a.x).toArray ldn) :: (td, listOf tv.toArray tn) :: (145, tabObj cps) :: (wl, listOf ws.toArray wn) :: (dl, listOf ds.toArray dn) :: (pl, listOf ps.toArray pn) :: (nl, listOf ls.toArray ln) :: (L + 1 + 1 + 1, o3) :: ((tl ++ (as.map fun a => a.led w).flatten) ++ tle)) := fun p hp => N8 p (sh3 p hp)
  clear N8
  have o9 : ∀ p ∈ (e0, listOf ev.toArray en) :: (L + 1, o1') :: (ld, listOf (as.map fun a => Value.ref a.x).toArray ldn) :: (td, listOf tv.toArray tn) :: (145, tabObj cps) :: (wl, listOf ws.toArray wn) :: (dl, listOf ds.toArray dn) :: (pl, listOf ps.toArray pn) :: (nl, listOf ls.toArray ln) :: (L + 1 + 1 + 1, o3) :: ((tl ++ (as.map fun a => a.led w).flatten) ++ tle), p.1 ≠ L + 1 + 1 :=
    all_c (he0 _ (.tail _ (.head _))) (all_c (show @Ne Nat _ _ by omega) (all_c u2 (all_c (Nat.ne_of_gt d2) (all_c (show @Ne Nat _ _ by omega) (all_c (Nq.r b2) (all_c (Nq.r b6) (all_c (Nq.r b10) (all_c (Nq.r b14) (all_c (show @Ne Nat _ _ by omega) (happ (happ t2 (hleds _ (.tail _ (.head _)))) (hoe.mem (.tail _ (.head _))))))))))))) 
  obtain ⟨A, hA⟩ : ∃ A : Nat → WsA, ∀ r, r < 3 → as[r]? = some (A r) := ⟨fun r => as.getD r (as[0]'(by omega)), fun r hr => by
    have : r < as.length := by omega
    simp [List.getD, this]⟩
  have hAw : ∀ r, r < 3 → WsOf (wordP nd r) (A r) := fun r hr => by
    with_reducible refine Classical.byContradiction fun hZq => ?_
    obtain ⟨wd, q1, q2⟩ := hasw r (A r) (hA r hr)
    refine hZq ?_
    clear hZq
    rw [List.getElem?_map, List.getElem?_range hr] at q1
    have q3 : wordP nd r = wd := Option.some.inj q1
    rw [q3]
    exact q2
  have hRF : ∀ r, r < 3 → RowF (runsP nd r) (behindP nd r) (A r) := fun r hr => row_f hnd r (hAw r hr)
  have hAx : ∀ r, r < 3 → (as.map fun a => Value.ref a.x)[r]? = some (Value.ref (A r).x) := fun r hr => by rw [List.getElem?_map, hA r hr]; rfl
  have hAl : ∀ r, r < 3 → ∀ p ∈ (A r).led w, p ∈ (as.map fun a => a.led w).flatten := fun r hr p hp => List.mem_flatten.mpr ⟨_, List.mem_map.mpr ⟨A r, List.mem_of_getElem? (hA r hr), rfl⟩, hp⟩
  have htvl : tv.length = 4 := by
    have := htv.length
    rw [List.length_map, List.length_append, hrl] at this
    exact this
  refine cutB 9 1 10 rfl _ (blkY w L fa cd g h8 m8 gn dr tk8 os nd hnd pg wl dl pl nl td ld tp tv (as.map fun a => Value.ref a.x) ds ps tn ldn dn pn tl _ o2 none X TT c2 o9 (.tail _ (.tail _ (.tail _ (.head _)))) (.tail _ (.tail _ (.head _))) (.tail _ (.tail _ (.tail _ (.tail _ (.tail _ (.tail _ (.head _))))))) (.tail _ (.tail _ (.tail _ (.tail _ (.tail _ (.tail _ (.tail _ (.head _)))))))) (fun p hp => .tail _ (.tail _ (.tail _ (.tail _ (.tail _ (.tail _ (.tail _ (.tail _ (.tail _ (.tail _ (List.mem_append.mpr (.inl (List.mem_append.mpr (.inl hp))))))))))))))
    hds hps (fun r hr => ?_) (by omega) (by rw [List.length_map]; omega) F8 N9) ?_
  · obtain ⟨t, ht⟩ := strs_get htv (i := r) (c := wordP nd r) (by
      rw [List.getElem?_append_left (by rw [hrl]; exact hr), List.getElem?_map, List.getElem?_range hr]; rfl)
    exact ⟨A r, t, ht, hAx r hr, fun p hp => .tail _ (.tail _ (.tail _ (.tail _ (.tail _ (.tail _ (.tail _ (.tail _ (.tail _ (.tail _ (List.mem_append.mpr (.inl (List.mem_append.mpr (.inr (hAl r hr p hp)))))))))))))), row_q (w := w) r (hRF r hr)⟩
  clear F8 N9 o9
  rintro s9 hPz1
  with_reducible refine Classical.byContradiction fun hZq => ?_
  obtain ⟨lo9, nw9, ⟨o2', v2', rfl, rfl, c2'⟩, h9, tk9, m9, rfl, F9, N9⟩ := hPz1
  refine hZq ?_
  clear hZq
  have N10 : News g L h9 ((L + 1, o1') :: (L + 1 + 1, o2') :: (L + 1 + 1 + 1, o3) :: (e0, listOf ev.toArray en) :: (ld, listOf (as.map fun a => Value.ref a.x).toArray ldn) :: (td, listOf tv.toArray tn) :: (145, tabObj cps) :: (wl, listOf ws.toArray wn) :: (dl, listOf ds.toArray dn) :: (pl, listOf ps.toArray pn) :: (nl, listOf ls.toArray ln) :: ((tl ++ (as.map fun a => a.led w).flatten) ++ tle)) := fun p hp => N9 p (sh4 p hp)
  clear N9
  have z2 : ∀ p ∈ (e0, listOf ev.toArray en) :: (ld, listOf (as.map fun a => Value.ref a.x).toArray ldn) :: (td, listOf tv.toArray tn) :: (145, tabObj cps) :: (wl, listOf ws.toArray wn) :: (dl, listOf ds.toArray dn) :: (pl, listOf ps.toArray pn) :: (nl, listOf ls.toArray ln) :: ((tl ++ (as.map fun a => a.led w).flatten) ++ tle), p.1 ≠ L + 1 + 1 :=
    all_c (he0 _ (.tail _ (.head _))) (all_c u2 (all_c (Nat.ne_of_gt d2) (all_c (show @Ne Nat _ _ by omega) (all_c (Nq.r b2) (all_c (Nq.r b6) (all_c (Nq.r b10) (all_c (Nq.r b14) (happ (happ t2 (hleds _ (.tail _ (.head _)))) (hoe.mem (.tail _ (.head _)))))))))))
  have z3 : ∀ p ∈ (e0, listOf ev.toArray en) :: (ld, listOf (as.map fun a => Value.ref a.x).toArray ldn) :: (td, listOf tv.toArray tn) :: (145, tabObj cps) :: (wl, listOf ws.toArray wn) :: (dl, listOf ds.toArray dn) :: (pl, listOf ps.toArray pn) :: (nl, listOf ls.toArray ln) :: ((tl ++ (as.map fun a => a.led w).flatten) ++ tle), p.1 ≠ L + 1 + 1 + 1 :=
    all_c (he0 _ (.tail _ (.tail _ (.head _)))) (all_c u3 (all_c (Nat.ne_of_gt d3) (all_c (show @Ne Nat _ _ by omega) (all_c (Nq.r b1) (all_c (Nq.r b5) (all_c (Nq.r b9) (all_c (Nq.r b13) (happ (happ t3 (hleds _ (.head _))) (hoe.mem (.tail _ (.tail _ (.head _))))))))))))
  have hAo : ∀ r, r < 3 → (A r).Ok := fun r hr => (hAw r hr).2
  have hAlon : ∀ r, r < 3 → lonP (A r) ≤ 18 := fun r hr => (hRF r hr).lon.1.2
  have hlvs : (as.map fun a => Value.ref a.x).length ≤ 10 := by rw [List.length_map]; omega
  with_reducible_and_instances refine cutB 10 1 11 rfl _ (blkZ w L fa cd g h9 m9 gn dr tk9 os nd hnd pg wl dl pl nl td ld e0 tp ds (as.map fun a => Value.ref a.x) ev dn ldn en _ tl tle o1' o2' o3 v2' none A X TT c1' c2' c3 z2 z3 (.head _) hev (fun p hp => .tail _ (.tail _ (.tail _ (.tail _ (.tail _ (.tail _ (.tail _ (.tail _ (List.mem_append.mpr (.inr hp)))))))))) (.tail _ (.tail _ (.tail _ (.tail _ (.tail _ (.head _)))))) hds (fun p hp => .tail _ (.tail _ (.tail _ (.tail _ (.tail _ (.tail _ (.tail _ (.tail _ (List.mem_append.mpr (.inl (List.mem_append.mpr (.inl hp)))))))))))) (.tail _ (.head _)) hlvs
    (fun r hr => ⟨hAx r hr, fun p hp => .tail _ (.tail _ (.tail _ (.tail _ (.tail _ (.tail _ (.tail _ (.tail _ (List.mem_append.mpr (.inl (List.mem_append.mpr (.inr (hAl r hr p hp)))))))))))), hAo r hr, hAlon r hr⟩) (fun i j hi hj => pair_q (hRF i hi) (hRF j hj)) F9 N10) ?_
  clear F9 N10 z2 z3
  rintro s10 hPz1
  with_reducible refine Classical.byContradiction fun hZq => ?_
  obtain ⟨nw10, hk10, h10, tk10, m10, rfl, F10, N10⟩ := hPz1
  refine hZq ?_
  clear hZq
  have e145 : h10.get? 145 = some (tabObj cps) := (N10 _ (hk10 _ (.tail _ (.tail _ (.tail _ (.head _)))))).1
  have hr : wpAny (model prog w) (lawA L fa cd) (execs (lawBS.1.drop 11) (lawEnv L fa cd)) (fun fl s' => fl = .ret (.bool true) ∧ ∃ tk', s' = ⟨h10, gn, dr, tk', os⟩) noE ⟨h10, gn, dr, tk10, os⟩ := by
    have e9 : lawBS.1.drop 11 = [_] := rfl
    have e2 : lawBS.2 = ⟨_, _, _, _, _⟩ := rfl
    unfold lawA lawEnv
    rw [e9, e2]
    clear e9 e2
    have _kf : (PySem.Challenge.rw_pg0230_01, K0) = (PySem.Challenge.rw_pg0230_01, K0) := by k_fill; rfl
    k_steps
  refine wpAny_mono hr ?_ fun _ _ x => x
  rintro fl s11 hPz1
  with_reducible refine Classical.byContradiction fun hZq => ?_
  obtain ⟨rfl, tk11, rfl⟩ := hPz1
  refine hZq ?_
  clear hZq
  exact ⟨rfl, ⟨h10, tk11, _, rfl, F10⟩, cps, e145⟩
local macro_rules | `(tactic| walk_at "execs cons Assign cons") => `(tactic| refine stop_at ?_)
theorem law_holds : PySem.Challenge.rw_pg0230_01.Holds := by
  w_on
  refine holds_law said0 fun said => ?_
  refine holds_open (q := view0) (loose := [PySem.Str.ofString "Whitespace"]) (Xt := fun s => xlAt view0 [] s && recOk (RowW.records PySem.Challenge.rw_pg0230_01.row.toRowW) s) (XP := XL view0 []) (Yf := Hook.obs (kmHook K0 as0 as_ok [145])) (Ya := Hook.val (kmHook K0 as0 as_ok [145])) (YP := Hook.says (kmHook K0 as0 as_ok [145])) (N := 2454) left0 (Hook.of _) (Hook.keeps _) (fun s e => xl_of s (Bool.and_eq_true_iff.mp e).1) XL.keeps (by rfl) (by rfl) (by rfl) (fun s e => recFacts_of (Bool.and_eq_true_iff.mp e).2) (by rfl) (by first | assumption | decide +kernel) (by decide +kernel) ⟨rfl, rfl, rfl, rfl, rfl, by decide +kernel⟩ ?hw ?hc
  (case hw => w_witness2)
  k_go0
  all_goals try k_fold
  k_steps
  unfold Stop
  rename Fr _ _ _ _ => F0
  rename News _ _ _ _ => N0
  rename IntsAre _ _ => hI0
  rename Heap.IsList _ _ _ => hL0
  rename CodeHd _ _ _ => C0
  rename Frag.In _ _ => X
  rename Top _ _ _ _ _ _ => TT
  rename World => w
  rename List Int => script
  rename (145 : Nat) < _ => l145
  rename ¬ (_ : Int) < _ => hlen
  refine wpAny_mono (law_body w _ _ _ _ _ _ _ _ _ _ _ script _ _ _ X TT hL0 hI0 ?_ ⟨?_, ?_, ?_⟩ l145 C0 F0 N0) ?_ ?_
  · omega
  · assumption
  · assumption
  · assumption
  · rintro fl s' hPz1
    with_reducible refine Classical.byContradiction fun hZq => ?_
    obtain ⟨rfl, ⟨h, tk', m, rfl, F⟩, hps⟩ := hPz1
    refine hZq ?_
    clear hZq
    refine ⟨?_, hps, trivial⟩
    clear F0 N0
    dsimp only
    k_steps
  · exact fun _ _ x => x.elim

end partLa1
end walksB
end walks
end Mine
theorem PySem.Challenge.cw_pg0230_01_holds : PySem.Challenge.rw_pg0230_01.Holds := by
  exact Mine.law_holds
