import PyProof.Rows.All
import Wide.All
import OpenK.AllK
import Wide.FinOn
import Lean
import PySem.Challenge.RW_nb0220_01
set_option Elab.async false
set_option maxRecDepth 100000
set_option maxHeartbeats 8000000
set_option compiler.extract_closed false
open PySem PySem.W PyProof.Rows PySem.Calls

section
namespace Mine
section
-- k_head writes the objects at the top for us, as the constant k0.heap_1; the theorem itself is used nowhere
local macro_rules | `(tactic| o_head $_h:term) => `(tactic| exact False.elim (by assumption))
theorem k0 (hF : False) : PySem.Challenge.rw_nb0220_01.row.Holds := by
  k_head
end
end Mine
end
section
local macro_rules | `(tactic| k_all) => `(tactic| assumption)
local macro_rules | `(tactic| k_mem) => `(tactic| assumption)
local macro_rules | `(tactic| walk_at "my get") => `(tactic| first | assumption | exact News.get (by k_asm) (by k_mem) | exact Fr.keep (by k_asm) _ _ (by assumption))

section ST0
namespace Mine
/-- the objects at the top, and the two code tables that a generator expression may fill -/
noncomputable def topK (P : Params) : Frag := (63, { cls := .none, data := .fields #[] }) :: (70, { cls := .none, data := .fields #[] }) :: k0.heap_1 P
noncomputable def topA : List Addr := [63, 70, 2,3,15,17,18,20,21,22,25,30,31,32,34,35,37,38,39,41,42,44,45,46,47,49,50,52,53,54,55,57,58,60,61,62,64,65,67,68,69,71,72,74,75,76,77,79,80,82,83,84,86,87,89,90,91,92,94,95,97,98,99,100,101,102,103,106,108,109,111,112,113,115,116,118,119,120,122,123,125,126,127,129,130,132,133,134,136,137,139,140,141,143,144,146,147,148,150,151,153,154,155,157,158,160,161,162,164,165,167,168,169,170,173,174,175,177,178,180,181,182,184,185,187,188,189,192,193,194,196,197,199,200,201,204,205]
theorem topA_is : ∀ P, topA = (topK P).map (·.1) := fun _ => by kernel_rfl
/-- of the text's rows only the last, the law itself -/
noncomputable def lawProg : Program := { PySem.Challenge.pw_nb0220_01 with main := { PySem.Challenge.pw_nb0220_01.main with body := PySem.Challenge.pw_nb0220_01.main.body.drop 20 } }
noncomputable def lawLoose : List Str := ["EMPTYSTRING", "_Accumulator", "heappush", "heappop", "heapreplace", "_heapreplace_max", "_heapify_max", "_siftdown", "_siftup", "_siftdown_max", "_siftup_max", "nsmallest", "_law_rest", "_law_pieces", "_law_rows", "_law_least", "_wall", "__name__"]
/-- the run of the top, looked at once -/
theorem head_ok : LeftO PySem.Challenge.rw_nb0220_01.row.prog lawProg lawLoose (fun s => xlAt lawProg [] s && recOk (RowW.records (PySem.Challenge.rw_nb0220_01.row.toRowW)) s) (Hook.obs (kHook topK topA topA_is)) (Hook.val (kHook topK topA topA_is)) 2300 := by
  intro w
  kernel_rfl
theorem said_ok : PySem.Challenge.rw_nb0220_01.wellSaid = true := by kernel_rfl
end Mine
end ST0

section SB1
namespace Mine
open PySem.MeetsSeq PySem.MeetsSeq3
open AutoSeq1 (wpAny_loadPart')

noncomputable def sLt (x y : Str) : Bool := decide (x.cps.toList < y.cps.toList)
noncomputable def pLt (x : Str) (i : Int) (y : Str) (j : Int) : Bool := if x.cps.toList == y.cps.toList then (if i == j then false else decide (i < j)) else sLt x y

noncomputable abbrev lstO (items : Array Value) (n : Nat) : Obj := { cls := .type "list", dict := none, data := .seq items n, slots := #[] }

theorem lt_loop2 (l b : Addr) (its its2 : Array Value) (n n2 : Nat) (z1 : its[2]? = none) (z2 : its2[2]? = none) (e1 : its.size = 2) (e2 : its2.size = 2) :
    Meets (Builtin.«list.__eq__.loop» ⟨[.ref l, .ref b, rawInt 2, rawInt 0], []⟩)
      (fun _ R s => s.heap.get? l = some (lstO its n) ∧ s.heap.get? b = some (lstO its2 n2) ∧
        R (.ok (.ret (.bool false))) s) := by
  intro prog w A R s h
  obtain ⟨hp, g, d, tk, os⟩ := s; obtain ⟨hl, hb, h⟩ := h
  wp_walk using wpAny_loadPart' hl, wpAny_loadPart' hb
  rw [show Int.toNat 2 = 2 from rfl, z1, z2]
  wp_walk using wpAny_loadPart' hl, wpAny_loadPart' hb
  show R (.ok (.ret (.bool (decide (its.size < its2.size))))) _
  rw [e1, e2]
  exact h

theorem lt_loop1 (l b : Addr) (its its2 : Array Value) (i j : Int) (t u : Tok) (n n2 : Nat) (z1 : its[2]? = none) (z2 : its2[2]? = none) (e1 : its.size = 2) (e2 : its2.size = 2)
    (y1 : its[1]? = some (.int i t)) (y2 : its2[1]? = some (.int j u)) :
    Meets (Builtin.«list.__eq__.loop» ⟨[.ref l, .ref b, rawInt 1, rawInt 0], []⟩)
      (fun _ R s => s.heap.get? l = some (lstO its n) ∧ s.heap.get? b = some (lstO its2 n2) ∧
        R (.ok (.ret (.bool (if i == j then false else decide (i < j))))) s) := by
  intro prog w A R s h
  obtain ⟨hp, g, d, tk, os⟩ := s; obtain ⟨hl, hb, h⟩ := h
  wp_walk using wpAny_loadPart' hl, wpAny_loadPart' hb
  rw [show Int.toNat 1 = 1 from rfl, y1, y2]
  refine wpAny_bind (EqGives.int i j t u prog w _ _ _ _ ?_)
  cases hb' : i == j with
  | true =>
    rw [hb'] at h
    wp_walk
    exact ⟨plainId_quiet plain_eq_loop _, codeAny_builtin entry_eq_loop (by
        rw [Around.under_plainId plain_eq_loop _]
        exact lt_loop2 l b its its2 n n2 z1 z2 e1 e2 prog w A R _ ⟨hl, hb, h⟩)⟩
  | false =>
    rw [hb'] at h
    wp_walk using wpAny_loadPart' hl, wpAny_loadPart' hb
    rw [y1, y2]
    refine wpAny_bind (lt_int ?_)
    wp_walk
    simpa using h

theorem lt_loop0 (l b : Addr) (its its2 : Array Value) (x y : Str) (tx ty : Tok) (i j : Int) (t u : Tok) (n n2 : Nat) (z1 : its[2]? = none) (z2 : its2[2]? = none) (e1 : its.size = 2) (e2 : its2.size = 2)
    (y1 : its[1]? = some (.int i t)) (y2 : its2[1]? = some (.int j u)) (x1 : its[0]? = some (.str x tx)) (x2 : its2[0]? = some (.str y ty)) :
    Meets (Builtin.«list.__eq__.loop» ⟨[.ref l, .ref b, rawInt 0, rawInt 0], []⟩)
      (fun _ R s => s.heap.get? l = some (lstO its n) ∧ s.heap.get? b = some (lstO its2 n2) ∧
        R (.ok (.ret (.bool (pLt x i y j)))) s) := by
  intro prog w A R s h
  obtain ⟨hp, g, d, tk, os⟩ := s; obtain ⟨hl, hb, h⟩ := h
  wp_walk using wpAny_loadPart' hl, wpAny_loadPart' hb
  rw [show Int.toNat 0 = 0 from rfl, x1, x2]
  refine wpAny_bind (PySem.SeqRoads2.EqGives.str x y tx ty prog w _ _ _ _ ?_)
  unfold pLt at h
  cases hb' : x.cps.toList == y.cps.toList with
  | true =>
    rw [hb'] at h
    wp_walk
    exact ⟨plainId_quiet plain_eq_loop _, codeAny_builtin entry_eq_loop (by
        rw [Around.under_plainId plain_eq_loop _]
        exact lt_loop1 l b its its2 i j t u n n2 z1 z2 e1 e2 y1 y2 prog w A R _ ⟨hl, hb, h⟩)⟩
  | false =>
    rw [hb'] at h
    wp_walk using wpAny_loadPart' hl, wpAny_loadPart' hb
    rw [x1, x2]
    refine wpAny_bind (PyProof.Rows.lt_str ?_)
    wp_walk
    simpa [sLt] using h

theorem list_lt2 (l b : Addr) (x y : Str) (tx ty : Tok) (i j : Int) (t u : Tok) (n n2 : Nat) :
    Meets (Builtin.«list.__lt__» ⟨[.ref l, .ref b], []⟩)
      (fun _ R s => s.heap.get? l = some (lstO #[.str x tx, .int i t] n) ∧ s.heap.get? b = some (lstO #[.str y ty, .int j u] n2) ∧
        R (.ok (.ret (.bool (pLt x i y j)))) s) := by
  intro prog w A R s h
  obtain ⟨hp, g, d, tk, os⟩ := s; obtain ⟨hl, hb, h⟩ := h
  have f3 := AutoSeq1.sub_list_list
  wp_walk using wpAny_loadPart' hl, wpAny_loadPart' hb
  exact ⟨plainId_quiet plain_eq_loop _, codeAny_builtin entry_eq_loop (by
    rw [Around.under_plainId plain_eq_loop _]
    exact lt_loop0 l b _ _ x y tx ty i j t u n n2 rfl rfl rfl rfl rfl rfl rfl rfl prog w A R _ ⟨hl, hb, h⟩)⟩

theorem lt_pair {prog : Program} {w : World} {A : Around} {E : Value → Shared → Prop} {s : Shared} {Q : Value → Shared → Prop} {l b : Addr} {x y : Str} {tx ty : Tok} {i j : Int} {t u : Tok} {n n2 : Nat}
    (hl : s.heap.get? l = some (lstO #[.str x tx, .int i t] n)) (hb : s.heap.get? b = some (lstO #[.str y ty, .int j u] n2)) (hu : A.units < cLine)
    (h : Q (.bool (pLt x i y j)) s) : wpAny (model prog w) A (compareOp .Lt (.ref l) (.ref b)) Q E s :=
  richCompare_meets_room (op := .Lt) ⟨_, hl, rfl⟩ ⟨_, hb, rfl⟩ F.slot_list_lt F.entry_list_lt (F.args_list_lt_2 _ _) (list_lt2 l b x y tx ty i j t u n n2)
    ⟨hl, hb, show Value.bool (pLt x i y j) ≠ Value.notImplemented ∧ Q (.bool (pLt x i y j)) s from ⟨(fun x => nomatch x), h⟩⟩ hu
end Mine
end SB1

section SB2
namespace Mine

noncomputable abbrev PR : Program := PySem.Challenge.rw_nb0220_01.row.prog
noncomputable abbrev aT (dp un : Nat) (gd : Option (List Code)) (outer : List Env) : Around := { handled := none, depth := dp, frames := some outer, guards := gd, units := un }

structure Cx (p : Program) (loose : List Str) (mean : ExcName → Option Value) (mg mb : Str → Option Value) (w : World) (A : Around) (base : Heap) (outer : List Env) (H : Heap) : Prop where
  B : Below A base outer H
  X : (k0.heap_1 w.params).In H
  T : Top p loose mean mg mb H

/-- all that stands in h but at the addresses as stands in h' -/
noncomputable def ExtL (as : List Addr) (h h' : Heap) : Prop := ∀ b o, h.get? b = some o → b ∉ as → h'.get? b = some o
theorem ExtL.refl (as : List Addr) (h : Heap) : ExtL as h h := fun _ _ e _ => e
theorem ExtL.trans {as : List Addr} {h h' h'' : Heap} (x : ExtL as h h') (y : ExtL as h' h'') : ExtL as h h'' := fun b o e n => y b o (x b o e n) n
theorem ExtL.mono {as bs : List Addr} {h h' : Heap} (x : ExtL as h h') (hs : ∀ a ∈ as, a ∈ bs) : ExtL bs h h' := fun b o e n => x b o e fun q => n (hs b q)

theorem below_keeps {A : Around} {base H H' : Heap} {outer : List Env} (B : Below A base outer H) (st : H.StaysIn H') : Below A base outer H' :=
  ⟨B.stack, fun b o e => st b o (B.stays b o e), Heap.FunFrames.of_keeps (fun b o e _ => ⟨o, st b o e, rfl⟩) B.frames⟩

section
variable {p : Program} {loose : List Str} {mean : ExcName → Option Value} {mg mb : Str → Option Value} {w : World} {A : Around} {base : Heap} {outer : List Env} {H H' : Heap}
theorem Cx.keeps (C : Cx p loose mean mg mb w A base outer H) (st : H.StaysIn H') : Cx p loose mean mg mb w A base outer H' :=
  ⟨below_keeps C.B st, C.X.keeps st, C.T.keeps st⟩

theorem enter {prog : Program} {dp un : Nat} {gd : Option (List Code)} {s : Shared} {R : Result → Shared → Prop} {name qual : Str} {params : Arguments} {body : List Stmt} {scope : Scope} {cl : List (Str × Addr)} {dV kV doc pm cdv ct oc : Value} {an od : Option Addr} {osl : Array (Option Value)} {f : Addr} {args : Args} {binds : List (Str × Value)}
    {led : List (Addr × Obj)}
    (C : Cx p loose mean mg mb w (aT dp un gd outer) base outer H) (st : H.StaysIn s.heap) (hled : ∀ q ∈ led, s.heap.get? q.1 = some q.2 ∧ H.get? q.1 = none)
    (ho : (k0.heap_1 w.params).lookup f = some ⟨oc, od, .func (fnX name qual params body scope cl dV kV doc pm an cdv ct), osl⟩) (hcd : codeIn (k0.heap_1 w.params) cdv qual = true) (hroom : dp < recursionLimit)
    (hbind : BindsTo s (fnX name qual params body scope cl dV kV doc pm an cdv ct) args binds) (hloc : ∀ y ∈ binds, scope.names.lookup y.1 = some .local)
    (h : ∀ g L' h₁, Fr g L' h₁ (fun y => binds.reverse.lookup y) → News g L' h₁ led → Below (aT dp un gd outer) base outer g → (k0.heap_1 w.params).In g → Top p loose mean mg mb g →
      GSub s.heap g (led.map (·.1)) →
      wpAny (model prog w) ((aT dp un gd outer).deeper (envX qual scope L' f cdv cl)) (execs body (envX qual scope L' f cdv cl))
        (fun fl s' => R (.ok (.ret (match fl with | .ret v => v | _ => .none))) s')
        (fun e s' => wpAny (model prog w) ((aT dp un gd outer).deeper (envX qual scope L' f cdv cl)) (leaving (envX qual scope L' f cdv cl) e) (fun _ s'' => R (.error e) s'') (fun e' s'' => R (.error e') s'') s')
        { s with heap := h₁, toks := s.toks + binds.length })
    (hcell : ∀ x ∈ scope.names, x.2 ≠ .cell) (hco : scope.isCoroutine = false := by rfl) (hgen : scope.isGenerator = false := by rfl) (hk : scope.kind = .function := by rfl) :
    codeAny (model prog w) (aT dp un gd outer) (.call (.ref f) args) R s := by
  have st' : H.StaysIn (hideAll s.heap (led.map (·.1))) := fun b o e => hideAll_get _ (st b o e) fun q => by
    obtain ⟨x, hx, rfl⟩ := List.mem_map.mp q
    rw [(hled x hx).2] at e; cases e
  have C' := C.keeps st'
  refine codeAny_call_def (fd := fnX name qual params body scope cl dV kV doc pm an cdv ct) (body := body) (binds := binds) hroom ((C.X.keeps st) _ _ ho) rfl (C.T.nolimit.keeps st) (codeRec_of (C.X.keeps st) hcd) rfl hbind hcell hloc (fun h₁ hns hk₁ => ?_) hco hgen hk
  exact h _ s.heap.objs.size h₁ ⟨hns, fun b o e => hk₁ b o (of_hideAll _ e), Nat.le_of_eq (hideAll_size _ _)⟩
    (fun q hq => ⟨hk₁ _ _ (hled q hq).1, Nat.ne_of_lt (Heap.lt_size (hled q hq).1), hideAll_none _ (List.mem_map_of_mem hq)⟩) C'.B C'.X C'.T (fun b o e n => hideAll_get _ e n)

/-- at a call inside a walked body: the heap that the callee may lean on -/
theorem use {A₀ : Around} {s : Shared} {h₀ : Heap} {L : Addr} {m : Str → Option Value} {env : Env} {news : List (Addr × Obj)}
    (B : Below A₀ base outer h₀) (F : Fr h₀ L s.heap m) (N : News h₀ L s.heap news) (X : (k0.heap_1 w.params).In h₀) (T : Top p loose mean mg mb h₀)
    (hA : A.frames = some (env :: outer)) (hf : env.frame = some L) (hke : env.scope.kind = .function) :
    ∃ H, Cx p loose mean mg mb w A base (env :: outer) H ∧ H.StaysIn s.heap ∧ (∀ q ∈ news, H.get? q.1 = none) ∧ GSub s.heap H (news.map (·.1)) := by
  obtain ⟨FG, BG, st, _⟩ := groundX (R := fun _ _ => True) B F N hA hf hke
  exact ⟨_, ⟨BG, X.keeps st, T.keeps st⟩, fun b o e => of_hideAll _ e, fun q hq => hideAll_none _ (List.mem_map_of_mem hq), fun b o e n => hideAll_get _ e n⟩

theorem use_call {prog : Program} {A₀ : Around} {dp un : Nat} {gd : Option (List Code)} {s : Shared} {h₀ : Heap} {L : Addr} {m : Str → Option Value} {env : Env} {news : List (Addr × Obj)} {f : Value} {pos : List Value} {kw : List (Str × Value)} {Q E : Value → Shared → Prop}
    (B : Below A₀ base outer h₀) (F : Fr h₀ L s.heap m) (N : News h₀ L s.heap news) (X : (k0.heap_1 w.params).In h₀) (T : Top p loose mean mg mb h₀)
    (hf : env.frame = some L) (hke : env.scope.kind = .function)
    (h : ∀ H, Cx p loose mean mg mb w (aT (dp + 1) (un + 3) gd (env :: outer)) base (env :: outer) H → H.StaysIn s.heap → (∀ q ∈ news, H.get? q.1 = none) → GSub s.heap H (news.map (·.1)) →
      codeAny (model prog w) (aT (dp + 1) (un + 3) gd (env :: outer)) (.call f ⟨pos, kw⟩) (fun r s' => match r with | .ok (.ret v) => Q v s' | .ok _ => False | .error e => E e s') s) :
    wpAny (model prog w) ((aT dp un gd outer).deeper env) (call f pos kw) Q E s := by
  obtain ⟨H, C, st, f9, G⟩ := use (A := aT (dp + 1) (un + 3) gd (env :: outer)) B F N X T rfl hf hke
  exact wpAny_call (h H C st f9 G)

/-- behind it: one object of the ledger has turned -/
theorem back1 {h₀ h h' : Heap} {L d : Addr} {m : Str → Option Value} {news news' : List (Addr × Obj)} {o o' : Obj}
    (F : Fr h₀ L h m) (N : News h₀ L h news) (U : Upd d o o' news news') (hx : ExtL [d] h h') (ho : h'.get? d = some o') : Fr h₀ L h' m ∧ News h₀ L h' news' := by
  obtain ⟨pre, post, rfl, rfl, n1, n2⟩ := U.split
  have z := N (d, o) (by simp)
  obtain ⟨oL, es, ep, hL, r⟩ := F.ns
  refine ⟨⟨⟨oL, es, ep, hx L oL hL (by simpa using Ne.symm z.2.1), r⟩, fun b x q => hx b x (F.keep b x q) ?_, F.above⟩, fun q hq => ?_⟩
  · intro hb
    rw [List.mem_singleton.mp hb, z.2.2] at q; cases q
  · rcases List.mem_append.mp hq with q1 | q1
    · have P := N q (List.mem_append_left _ q1); exact ⟨hx _ _ P.1 (by simpa using n1 q q1), P.2⟩
    · rcases List.mem_cons.mp q1 with rfl | q1
      · exact ⟨ho, z.2⟩
      · have P := N q (List.mem_append_right _ (.tail _ q1)); exact ⟨hx _ _ P.1 (by simpa using n2 q q1), P.2⟩
theorem back0 {h₀ h h' : Heap} {L : Addr} {m : Str → Option Value} {news : List (Addr × Obj)}
    (F : Fr h₀ L h m) (N : News h₀ L h news) (hx : ExtL [] h h') : Fr h₀ L h' m ∧ News h₀ L h' news := by
  obtain ⟨oL, es, ep, hL, r⟩ := F.ns
  exact ⟨⟨⟨oL, es, ep, hx L oL hL (by simp), r⟩, fun b x q => hx b x (F.keep b x q) (by simp), F.above⟩, fun q hq => ⟨hx _ _ (N q hq).1 (by simp), (N q hq).2⟩⟩
/-- out of a callee: what stood, stands -/
theorem ext_of {s₀ g h' : Heap} {L : Addr} {m : Str → Option Value} {as : List Addr} (G : GSub s₀ g as) (F : Fr g L h' m) : ExtL as s₀ h' := fun b o e n => F.keep b o (G b o e n)
end
theorem room {a b n : Nat} (k : Nat) (h : b < n) (e : a + k = b := by rfl) : a < n := Nat.lt_of_le_of_lt (Nat.le_add_right a k) (e ▸ h)
theorem ex6 {A B C D E F : Type} {p : A → B → C → D → E → F → Prop} (a : A) (b : B) (c : C) (d : D) (e : E) (f : F) (h : p a b c d e f) : ∃ a b c d e f, p a b c d e f := ⟨a, b, c, d, e, f, h⟩
theorem ex7 {A B C D E F I : Type} {p : A → B → C → D → E → F → I → Prop} (a : A) (b : B) (c : C) (d : D) (e : E) (f : F) (i : I) (h : p a b c d e f i) : ∃ a b c d e f i, p a b c d e f i := ⟨a, b, c, d, e, f, i, h⟩
theorem ex9 {A B C D E F I J K : Type} {p : A → B → C → D → E → F → I → J → K → Prop} (a : A) (b : B) (c : C) (d : D) (e : E) (f : F) (i : I) (j : J) (k : K) (h : p a b c d e f i j k) : ∃ a b c d e f i j k, p a b c d e f i j k := ⟨a, b, c, d, e, f, i, j, k, h⟩
theorem if_skip {c : Prop} [Decidable c] {a b r : Option Value} (h : ¬ c) (e : b = r) : (if c then a else b) = r := (if_neg h).trans e
end Mine
end SB2

section SA1
namespace Mine
noncomputable abbrev accO (d : Addr) (vs : Array Value) (n : Nat) : Obj := { cls := .ref 101, dict := some d, data := .seq vs n, slots := #[] }
section
variable {prog : Program} {w : World} {A : Around} {E : Value → Shared → Prop} {s : Shared} {x d : Addr} {vs : Array Value} {n : Nat}
theorem acc_isList {M : Model} {h : Heap} (X : (k0.heap_1 w.params).In h) (hx : h.get? x = some (accO d vs n)) : Looks M h (isInstance (.ref x) (.type "list")) true := by
  have T : Looks M h (typeOf (.ref x)) (.ref 101) := (Looks.ld hx).andThen .now
  exact T.andThen (looks_mroIn X (by kernel_rfl))
theorem acc_entry {id nm : String} {B : Builtin} {rest : List Value} {Q : Value → Shared → Prop} (X : (k0.heap_1 w.params).In s.heap) (hx : s.heap.get? x = some (accO d vs n))
    (hsplit : splitId id = some ("list", nm)) (hkind : (Manifest.find? "list").bind (·.attrs.lookup nm) = some .slot ∨ (Manifest.find? "list").bind (·.attrs.lookup nm) = some .method)
    (hp : plainId id = true) (hb : entryFor table id = some B) (ha : argsOk id ⟨.ref x :: rest, []⟩)
    (hc : wpAny (model prog w) A.in1 (B ⟨.ref x :: rest, []⟩) (fun fin s' => ∃ v, fin = .done (.ret v) ∧ Q v s') E s) :
    wpAny (model prog w) A (call (.builtin id) (.ref x :: rest)) Q E s := by
  have hk : builtinKind id = (Manifest.find? "list").bind (·.attrs.lookup nm) := by simp only [builtinKind, hsplit]
  refine wpAny_call (codeAny_call_builtin hp hb ?_)
  have fin : wpAny (model prog w) A.in1 (B ⟨.ref x :: rest, []⟩) (fun fin s' => match fin with | .done f => (fun r s' => match r with | .ok (.ret v) => Q v s' | .ok _ => False | .error e => E e s') (Except.ok f) s' | .again c' => c'.quiet = true ∧ codeAny (model prog w) A c' (fun r s' => match r with | .ok (.ret v) => Q v s' | .ok _ => False | .error e => E e s') s') E s := by
    refine wpAny_mono hc (fun fin s' h' => ?_) fun _ _ h' => h'
    obtain ⟨v, rfl, hv⟩ := h'; exact hv
  rcases hkind with h | h
  all_goals
    simp only [checkBuiltinCall, hk, h, hsplit]
    refine wpAny_bind ((acc_isList X hx).here ?_)
    simp only [Bool.not_true, Bool.false_eq_true, if_false]
    cases hsig : Manifest.signature? id with
    | none => exact wpAny_pure fin
    | some sig =>
      simp only [argsOk, hsig] at ha
      have h2 : Bind.checkArgs id sig ⟨.ref x :: rest, []⟩ = pure () := ha
      show wpAny _ _ (Bind.checkArgs id sig ⟨.ref x :: rest, []⟩) _ E s
      rw [h2]; exact wpAny_pure fin

theorem acc_append {v : Value} {Q : Value → Shared → Prop} (X : (k0.heap_1 w.params).In s.heap) (hx : s.heap.get? x = some (accO d vs n))
    (h : ∀ h', Heap.SameBut x s.heap h' → h'.get? x = some (accO d (vs.push v) (n + 1)) → Q .none { s with heap := h' }) (hsz : vs.size ≤ sizeLine) :
    wpAny (model prog w) A (call (.builtin "list.append") [.ref x, v]) Q E s := by
  refine acc_entry X hx (nm := "append") (by decide +kernel) (by right; decide +kernel) (by decide +kernel) entry_list_append (args_list_append _ _) ?_
  show wpAny _ _ (updateSeq x (·.push v) >>= fun _ => ret .none) _ _ s
  refine wpAny_bind ?_
  refine wpAny_updateSeq hx rfl (wpAny_pure ⟨.none, rfl, h _ (Heap.SameBut.update ..) ?_⟩) hsz
  rw [Heap.get?_update_self _ hx]
  · simp [Obj.mapSeq]
  · simp [Obj.mapSeq]; rfl
end
theorem acc_ga {w : World} : findIn (k0.heap_1 w.params) (.ref 101) "__getattribute__" = some (some (.builtin "list.__getattribute__")) := by kernel_rfl
theorem acc_gt {w : World} : findIn (k0.heap_1 w.params) (.ref 101) "__getattr__" = some none := by kernel_rfl
theorem canon_lga : (Manifest.canonical "list.__getattribute__" != "object.__getattribute__") = false := by decide +kernel
theorem acc_method {prog : Program} {w : World} {A : Around} {E : Value → Shared → Prop} {s : Shared} {x d : Addr} {vs : Array Value} {n : Nat} {od : Obj} {name : Str} {f t : Value} {pl : Sem Bool} {Q : Value × List Value → Shared → Prop}
    (X : (k0.heap_1 w.params).In s.heap) (hx : s.heap.get? x = some (accO d vs n)) (hd : s.heap.get? d = some od) (hf : findIn (k0.heap_1 w.params) (.ref 101) name = some (some f)) (ht : typeIn (k0.heap_1 w.params) f = some t)
    (hk : (t != .type "function" && t != .type "method_descriptor" && t != .type "wrapper_descriptor") = false) (hno : lookIn name od = some none) (h : Q (f, [.ref x]) s) :
    wpAny (model prog w) A (getMethod (.ref x) name pl) Q E s := by
  have T : Looks (model prog w) s.heap (typeOf (.ref x)) (.ref 101) := (Looks.ld hx).andThen .now
  unfold getMethod specialOf
  refine wpAny_bind (wpAny_bind (T.here ((looks_findIn X acc_ga).here ?_)))
  dsimp only
  rw [canon_lga, if_neg (by decide)]
  refine wpAny_bind (wpAny_bind (T.here ((looks_findIn X acc_gt).here ?_)))
  refine wpAny_bind (wpAny_bind (T.here ((looks_findIn X hf).here (wpAny_bind ((looks_typeIn X ht).here ?_)))))
  rw [hk, if_neg (by decide)]
  refine wpAny_bind (wpAny_loadPart hx ?_)
  refine wpAny_bind (wpAny_bind (wpAny_loadPart hd ?_))
  rw [nsLook_of hno]
  exact wpAny_pure (wpAny_bind (wpAny_rule (wpAny_pure h)))
end Mine
end SA1

section SA3
namespace Mine
open PySem.Builtin
theorem slot_md_get : Slot "method_descriptor" "__get__" "method_descriptor.__get__" := .of (owner := "method_descriptor") (n := "__get__") (by rw [typeLookup_type, builtinLookup_eq_fast]; kernel_rfl) (by decide +kernel) (by decide +kernel) (by decide +kernel) (by left; decide +kernel) (by rw [isSubtype]; kernel_rfl)
theorem slot_wd_get : Slot "wrapper_descriptor" "__get__" "wrapper_descriptor.__get__" := .of (owner := "wrapper_descriptor") (n := "__get__") (by rw [typeLookup_type, builtinLookup_eq_fast]; kernel_rfl) (by decide +kernel) (by decide +kernel) (by decide +kernel) (by left; decide +kernel) (by rw [isSubtype]; kernel_rfl)
theorem entry_md_get : entryFor table "method_descriptor.__get__" = some Builtin.«method_descriptor.__get__» := entryFor_of_tree (by kernel_rfl)
theorem entry_wd_get : entryFor table "wrapper_descriptor.__get__" = some Builtin.«wrapper_descriptor.__get__» := entryFor_of_tree (by kernel_rfl)
theorem args_md (a b c : Value) : argsOk "method_descriptor.__get__" ⟨[a, b, c], []⟩ := by unfold argsOk; kernel_rfl
theorem args_wd (a b c : Value) : argsOk "wrapper_descriptor.__get__" ⟨[a, b, c], []⟩ := by unfold argsOk; kernel_rfl
section
variable {prog : Program} {w : World} {A : Around} {E : Value → Shared → Prop} {h : Heap} {g : Array GenState} {d : Drawn} {t : Nat} {os : OsState} {x da : Addr} {vs : Array Value} {n : Nat}
theorem wd_get {id : String} {Q : Fin → Shared → Prop} (X : (k0.heap_1 w.params).In h) (hx : h.get? x = some (accO da vs n)) (hid : id = "list.__len__" ∨ id = "list.__init__")
    (hq : Q (.done (.ret (.ref h.objs.size))) ⟨h.push { cls := .type "method-wrapper", data := .fields #[.builtin id, .ref x] }, g, d, t, os⟩) :
    wpAny (model prog w) A (Builtin.«wrapper_descriptor.__get__» ⟨[.builtin id, .ref x, .ref 101], []⟩) Q E ⟨h, g, d, t, os⟩ := by
  have hM : Looks (model prog w) h (isSubtype (.ref 101) (.type "list")) true := looks_mroIn X (by kernel_rfl)
  rcases hid with rfl | rfl
  · have e : ".".intercalate ("list.__len__".cutAt '.').dropLast = "list" := by decide +kernel
    unfold Builtin.«wrapper_descriptor.__get__»
    wp_walk using wpAny_loadPart (s := ⟨h, g, d, t, os⟩) hx
    rw [e]
    refine hM.at ?_
    wp_walk
    exact hq
  · have e : ".".intercalate ("list.__init__".cutAt '.').dropLast = "list" := by decide +kernel
    unfold Builtin.«wrapper_descriptor.__get__»
    wp_walk using wpAny_loadPart (s := ⟨h, g, d, t, os⟩) hx
    rw [e]
    refine hM.at ?_
    wp_walk
    exact hq
theorem md_get {Q : Fin → Shared → Prop} (X : (k0.heap_1 w.params).In h) (hx : h.get? x = some (accO da vs n))
    (hq : Q (.done (.ret (.ref h.objs.size))) ⟨h.push { cls := .type "builtin_function_or_method", data := .fields #[.builtin "list.pop", .ref x] }, g, d, t, os⟩) :
    wpAny (model prog w) A (Builtin.«method_descriptor.__get__» ⟨[.builtin "list.pop", .ref x, .ref 101], []⟩) Q E ⟨h, g, d, t, os⟩ := by
  have hM : Looks (model prog w) h (isSubtype (.ref 101) (.type "list")) true := looks_mroIn X (by kernel_rfl)
  have e : ".".intercalate ("list.pop".cutAt '.').dropLast = "list" := by decide +kernel
  have e2 : Manifest.toldItsClass.contains "list.pop" = false := by decide +kernel
  unfold Builtin.«method_descriptor.__get__»
  wp_walk using wpAny_loadPart (s := ⟨h, g, d, t, os⟩) hx
  (try rw [e])
  refine hM.at ?_
  wp_walk
  exact hq
theorem sup_ga {so : Addr} {name : Str} {id MT gid bt : String} {B : Builtin} {tk : Tok} {Q : Fin → Shared → Prop} (X : (k0.heap_1 w.params).In h) (hx : h.get? x = some (accO da vs n))
    (hso : h.get? so = some { cls := .type "super", dict := none, data := .fields #[.ref 101, .ref x, .ref 101], slots := #[] })
    (hf : alongIn (k0.heap_1 w.params) name [.type "list", .type "object"] = some (some (.builtin id))) (hty : typeOf (.builtin id) = pure (.type MT)) (slot : Slot MT "__get__" gid) (hb : entryFor table gid = some B) (ha : argsOk gid ⟨[.builtin id, .ref x, .ref 101], []⟩)
    (hB : ∀ A Q E, Q (.done (.ret (.ref h.objs.size))) ⟨h.push { cls := .type bt, data := .fields #[.builtin id, .ref x] }, g, d, t, os⟩ → wpAny (model prog w) A (B ⟨[.builtin id, .ref x, .ref 101], []⟩) Q E ⟨h, g, d, t, os⟩)
    (hn : (name == ("__class__" : Str)) = false)
    (hq : Q (.done (.ret (.ref h.objs.size))) ⟨h.push { cls := .type bt, data := .fields #[.builtin id, .ref x] }, g, d, t, os⟩) :
    wpAny (model prog w) A (Builtin.«super.__getattribute__» ⟨[.ref so, .str name tk], []⟩) Q E ⟨h, g, d, t, os⟩ := by
  have hlk := slot.lookup
  obtain ⟨cd, hcd, hmro⟩ : ∃ cd, clsIn (k0.heap_1 w.params) 101 = some cd ∧ cd.mro = [.ref 101, .type "list", .type "object"] := Option.map_eq_some_iff.mp (show (clsIn (k0.heap_1 w.params) 101).map (·.mro) = some [.ref 101, .type "list", .type "object"] by kernel_rfl)
  have hxC : x ≠ 101 := by
    rintro rfl
    unfold clsIn at hcd
    split at hcd
    · rename_i ho
      have := X _ _ ho
      rw [hx] at this
      cases this
    · cases hcd
  have hne : (Value.ref x == Value.ref 101) = false := by simp [hxC]
  have hTf : (⟨h, g, d, t, os⟩ : Shared).TypeIs (.builtin id) MT := hty
  have hno : Looks (model prog w) h (opaqueClassAbove (.ref 101)) none := looks_opaque X (by kernel_rfl)
  have hC : Looks (model prog w) h (mroOf (.ref 101)) [.ref 101, .type "list", .type "object"] := fun A Q E s k q => wpAny_bind ((looks_clsIn X hcd) A _ E s k (wpAny_pure (by rw [hmro]; exact q)))
  have hdt : ({ cls := .type "super", dict := none, data := .fields #[.ref 101, .ref x, .ref 101], slots := #[] } : Obj).data = .fields #[.ref 101, .ref x, .ref 101] := rfl
  have f0 : (#[.ref 101, .ref x, .ref 101] : Array Value)[0]? = some (.ref 101) := rfl
  have f1 : (#[.ref 101, .ref x, .ref 101] : Array Value)[1]? = some (.ref x) := rfl
  have f2 : (#[.ref 101, .ref x, .ref 101] : Array Value)[2]? = some (.ref 101) := rfl
  have hl : (([.ref 101, .type "list", .type "object"] : List Value).dropWhile (· != .ref 101)).drop 1 = [.type "list", .type "object"] := by decide +kernel
  unfold Builtin.«super.__getattribute__»
  repeat (first
    | (with_reducible refine wpAny_field hso hdt f0 ?_) | (with_reducible refine wpAny_field hso hdt f1 ?_) | (with_reducible refine wpAny_field hso hdt f2 ?_)
    | (with_reducible refine ks_wpAny_notOpaque hno ?_)
    | (with_reducible refine Looks.at hC ?_; rw [hl])
    | (refine ks_forIn_along X (fun _ _ => rfl) rfl ?_ hf)
    | (with_reducible refine wpAny_typeOf hTf ?_)
    | (with_reducible refine wpAny_call_entry slot hTf hb ?_ ha)
    | (with_reducible refine ⟨_, rfl, ?_⟩)
    | (simp only [hn, hne, Bool.or_false, Bool.false_eq_true, if_false])
    | wp_step
    | dsimp only)
  refine hB _ _ _ ⟨_, rfl, ?_⟩
  exact wpAny_bind (wpAny_pure (wpAny_pure (wpAny_pure hq)))
end
end Mine
end SA3

section SA4
namespace Mine
open PySem.Builtin
section
variable {prog : Program} {w : World} {A : Around} {E : Value → Shared → Prop} {h : Heap} {g : Array GenState} {d : Drawn} {t : Nat} {os : OsState} {x da : Addr} {vs : Array Value} {n : Nat}
theorem sup_method {so : Addr} {name : Str} {id MT gid bt : String} {B : Builtin} {pl : Sem Bool} {Q : Value × List Value → Shared → Prop} (X : (k0.heap_1 w.params).In h) (hx : h.get? x = some (accO da vs n))
    (hso : h.get? so = some { cls := .type "super", dict := none, data := .fields #[.ref 101, .ref x, .ref 101], slots := #[] })
    (hf : alongIn (k0.heap_1 w.params) name [.type "list", .type "object"] = some (some (.builtin id))) (hty : typeOf (.builtin id) = pure (.type MT)) (slot : Slot MT "__get__" gid) (hb : entryFor table gid = some B) (ha : argsOk gid ⟨[.builtin id, .ref x, .ref 101], []⟩)
    (hB : ∀ t A Q E, Q (.done (.ret (.ref h.objs.size))) ⟨h.push { cls := .type bt, data := .fields #[.builtin id, .ref x] }, g, d, t, os⟩ → wpAny (model prog w) A (B ⟨[.builtin id, .ref x, .ref 101], []⟩) Q E ⟨h, g, d, t, os⟩)
    (hn : (name == ("__class__" : Str)) = false)
    (hq : Q (.ref h.objs.size, []) ⟨h.push { cls := .type bt, data := .fields #[.builtin id, .ref x] }, g, d, t + 1, os⟩) :
    wpAny (model prog w) A (getMethod (.ref so) name pl) Q E ⟨h, g, d, t, os⟩ := by
  have hlk := F.ks_slot_super_ga.lookup
  have hcan := F.ks_canon_super_ga
  have hT : ∀ t', (⟨h, g, d, t', os⟩ : Shared).TypeIs (.ref so) "super" := fun _ => ⟨_, hso, rfl⟩
  unfold getMethod
  refine wpAny_bind (wpAny_specialOf (hT _) hlk ?_)
  show wpAny _ _ (if (Manifest.canonical "super.__getattribute__" != "object.__getattribute__") = true then _ else _) _ _ _
  rw [if_pos hcan]
  unfold getAttr getAttrBy
  refine wpAny_bind (wpAny_bind (wpAny_mkText (wpAny_holding (wpAny_bind (wpAny_typeOf (hT _) (wpAny_bind (wpAny_of_eq hlk ?_)))))))
  show wpAny _ _ (getAttrByItsOwn (.ref so) (.str name t) (.type "super") (.builtin "super.__getattribute__") true false) _ _ _
  unfold getAttrByItsOwn hookBefore callGetattribute boundAndCalled
  refine wpAny_bind (wpAny_of_eq (show (if onTheHeap (.type "super") then typeLookup (.type "super") "__getattr__" else pure none) = pure none from rfl) ?_)
  refine wpAny_bind (wpAny_attempt (wpAny_holding ?_))
  show wpAny _ _ (bindSpecial (.builtin "super.__getattribute__") (.ref so) >>= _) _ _ _
  refine wpAny_bind (wpAny_of_eq (F.ks_slot_super_ga.bind _) ?_)
  refine wpAny_mono (Q := fun v s' => v = .ref h.objs.size ∧ s' = ⟨h.push { cls := .type bt, data := .fields #[.builtin id, .ref x] }, g, d, t + 1, os⟩) (E := fun _ _ => False)
    (wpAny_call_entry F.ks_slot_super_ga (hT _) F.ks_entry_super_ga (sup_ga X hx hso hf hty slot hb ha (hB _) hn ⟨_, rfl, rfl, rfl⟩) (F.ks_gaArgs_super _ _)) (fun v s' hv => ?_) fun _ _ z => z.elim
  obtain ⟨rfl, rfl⟩ := hv
  exact wpAny_pure (wpAny_pure hq)
theorem bound_call {s : Shared} {q : Addr} {id bt : String} {B : Builtin} {Q : Value → Shared → Prop} (hq : s.heap.get? q = some { cls := .type bt, data := .fields #[.builtin id, .ref x] })
    (hbt : bt = "builtin_function_or_method" ∨ bt = "method-wrapper") (hc : Looks (model prog w) s.heap (checkBoundCall id ⟨[.ref x], []⟩) ()) (hp : plainId id = true) (hb : entryFor table id = some B)
    (h : wpAny (model prog w) A.in1 (B ⟨[.ref x], []⟩) (fun fin s' => ∃ v, fin = .done (.ret v) ∧ Q v s') E s) :
    wpAny (model prog w) A (call (.ref q) []) Q E s := by
  refine wpAny_call (codeAny_of_tree ?_)
  rw [Around.under_plain (by rfl) (by rfl)]
  show wpAny _ _ (callAny (.ref q) ⟨[], []⟩) _ _ _
  unfold callAny
  refine wpAny_bind (wpAny_load hq ?_)
  rcases hbt with rfl | rfl
  all_goals
    dsimp only
    rw [if_pos (by decide)]
    show wpAny _ _ (if _ then (do checkBoundCall id ⟨[.ref x], []⟩; again (Code.builtin id ⟨[.ref x], []⟩)) else _) _ _ _
    rw [if_pos (by decide)]
    refine wpAny_bind (hc.here (wpAny_pure ⟨plainId_quiet hp _, codeAny_builtin hb ?_⟩))
    rw [Around.under_plainId hp]
    refine wpAny_mono h (fun fin s' h' => ?_) fun _ _ h' => h'
    obtain ⟨v, rfl, hv⟩ := h'
    exact hv
theorem chk_len {M : Model} {h : Heap} : Looks M h (checkBoundCall "list.__len__" ⟨[.ref x], []⟩) () := Looks.of_pure (by kernel_rfl)
theorem chk_init {M : Model} {h : Heap} : Looks M h (checkBoundCall "list.__init__" ⟨[.ref x], []⟩) () := Looks.of_pure (by kernel_rfl)
theorem chk_pop {M : Model} {h : Heap} (X : (k0.heap_1 w.params).In h) (hx : h.get? x = some (accO da vs n)) : Looks M h (checkBoundCall "list.pop" ⟨[.ref x], []⟩) () := by
  have hT : Looks M h (typeOf (.ref x)) (.ref 101) := (Looks.ld hx).andThen .now
  have hM : Looks M h (isSubtype (.ref 101) (.type "module")) false := looks_mroIn X (by kernel_rfl)
  have hty : Looks M h (typeOf (.ref 101)) (.type "type") := looks_typeIn X (by kernel_rfl)
  obtain ⟨cd, hcd, hqn⟩ : ∃ cd, clsIn (k0.heap_1 w.params) 101 = some cd ∧ cd.qualname = Str.ofString "_Accumulator" := Option.map_eq_some_iff.mp (show (clsIn (k0.heap_1 w.params) 101).map (·.qualname) = some (Str.ofString "_Accumulator") by kernel_rfl)
  have hTy : Looks M h (isType (.ref x)) false := (Looks.ld hx).andThen .now
  have e1 : Manifest.signature? "list.pop" = some ((Manifest.signature? "list.pop").getD ⟨.hand, "", "", .none, []⟩) := by kernel_rfl
  have e2 : Bind.checkArgs "list.pop" { (Manifest.signature? "list.pop").getD ⟨.hand, "", "", .none, []⟩ with full := toString ((Str.ofString "_Accumulator").toString) ++ toString "." ++ toString (Bind.lastOf "list.pop") } ⟨[.ref x], []⟩ = pure () := by kernel_rfl
  have e3 : builtinKind "list.pop" = some .method := by decide +kernel
  have e4 : Manifest.varargsMethods.contains "list.pop" = false := by decide +kernel
  generalize (Manifest.signature? "list.pop").getD ⟨.hand, "", "", .none, []⟩ = sg at e1 e2
  intro A Q E s k q
  unfold checkBoundCall
  rw [e1]
  dsimp only
  rw [e3]
  dsimp only
  rw [if_neg (by decide)]
  refine wpAny_bind ((hT.andThen hM) A _ E s k ?_)
  rw [e4, if_neg (by decide)]
  refine wpAny_bind (hTy A _ E s k ?_)
  rw [if_neg (by decide)]
  refine wpAny_bind (hT A _ E s k ?_)
  refine wpAny_bind ((looks_clsIn X hcd) A _ E s k ?_)
  refine wpAny_bind (hty A _ E s k ?_)
  rw [if_pos (by decide), hqn]
  rw [e2]
  exact wpAny_pure q
end
end Mine
end SA4

section SA5
namespace Mine
open PySem.Builtin
noncomputable abbrev mwO (id : String) (x : Addr) : Obj := { cls := .type "method-wrapper", data := .fields #[.builtin id, .ref x] }
noncomputable abbrev bfO (id : String) (x : Addr) : Obj := { cls := .type "builtin_function_or_method", data := .fields #[.builtin id, .ref x] }
theorem ty_len : typeOf (.builtin "list.__len__") = pure (.type "wrapper_descriptor") := by kernel_rfl
theorem ty_init : typeOf (.builtin "list.__init__") = pure (.type "wrapper_descriptor") := by kernel_rfl
theorem ty_pop : typeOf (.builtin "list.pop") = pure (.type "method_descriptor") := by kernel_rfl
section
variable {prog : Program} {w : World} {A : Around} {E : Value → Shared → Prop} {s : Shared} {x da so q : Addr} {vs : Array Value} {n : Nat} {h₀ : Heap} {L : Addr} {m : Str → Option Value} {news news' : List (Addr × Obj)}
theorem sup_len_K {pl : Sem Bool} {Q : Value × List Value → Shared → Prop} (F : Fr h₀ L s.heap m) (N : News h₀ L s.heap news) (X : (k0.heap_1 w.params).In h₀) (hso : (so, ks_superObj 101 x 101) ∈ news) (hx : s.heap.get? x = some (accO da vs n))
    (h : ∀ q h', Fr h₀ L h' m → News h₀ L h' ((q, mwO "list.__len__" x) :: news) → (∀ p ∈ news, p.1 < q) → Q (.ref q, []) { s with heap := h', toks := s.toks + 1 }) : wpAny (model prog w) A (getMethod (.ref so) "__len__" pl) Q E s := by
  obtain ⟨hh, g, d, t, os⟩ := s
  refine sup_method (X.keeps F.keep) hx (N _ hso).1 (by kernel_rfl) ty_len slot_wd_get entry_wd_get (args_wd _ _ _) (fun _ _ _ _ hq => wd_get (X.keeps F.keep) hx (.inl rfl) hq) (by decide +kernel) ?_
  obtain ⟨F', N', l'⟩ := ks_newsPush (s := ⟨hh, g, d, t, os⟩) (o := mwO "list.__len__" x) F N rfl (Heap.get?_push_at rfl rfl) (fun b o e => Heap.get?_push_of_some _ e)
  exact h _ _ F' N' l'
theorem sup_init_K {pl : Sem Bool} {Q : Value × List Value → Shared → Prop} (F : Fr h₀ L s.heap m) (N : News h₀ L s.heap news) (X : (k0.heap_1 w.params).In h₀) (hso : (so, ks_superObj 101 x 101) ∈ news) (hx : s.heap.get? x = some (accO da vs n))
    (h : ∀ q h', Fr h₀ L h' m → News h₀ L h' ((q, mwO "list.__init__" x) :: news) → (∀ p ∈ news, p.1 < q) → Q (.ref q, []) { s with heap := h', toks := s.toks + 1 }) : wpAny (model prog w) A (getMethod (.ref so) "__init__" pl) Q E s := by
  obtain ⟨hh, g, d, t, os⟩ := s
  refine sup_method (X.keeps F.keep) hx (N _ hso).1 (by kernel_rfl) ty_init slot_wd_get entry_wd_get (args_wd _ _ _) (fun _ _ _ _ hq => wd_get (X.keeps F.keep) hx (.inr rfl) hq) (by decide +kernel) ?_
  obtain ⟨F', N', l'⟩ := ks_newsPush (s := ⟨hh, g, d, t, os⟩) (o := mwO "list.__init__" x) F N rfl (Heap.get?_push_at rfl rfl) (fun b o e => Heap.get?_push_of_some _ e)
  exact h _ _ F' N' l'
theorem sup_pop_K {pl : Sem Bool} {Q : Value × List Value → Shared → Prop} (F : Fr h₀ L s.heap m) (N : News h₀ L s.heap news) (X : (k0.heap_1 w.params).In h₀) (hso : (so, ks_superObj 101 x 101) ∈ news) (hx : s.heap.get? x = some (accO da vs n))
    (h : ∀ q h', Fr h₀ L h' m → News h₀ L h' ((q, bfO "list.pop" x) :: news) → (∀ p ∈ news, p.1 < q) → Q (.ref q, []) { s with heap := h', toks := s.toks + 1 }) : wpAny (model prog w) A (getMethod (.ref so) "pop" pl) Q E s := by
  obtain ⟨hh, g, d, t, os⟩ := s
  refine sup_method (X.keeps F.keep) hx (N _ hso).1 (by kernel_rfl) ty_pop slot_md_get entry_md_get (args_md _ _ _) (fun _ _ _ _ hq => md_get (X.keeps F.keep) hx hq) (by decide +kernel) ?_
  obtain ⟨F', N', l'⟩ := ks_newsPush (s := ⟨hh, g, d, t, os⟩) (o := bfO "list.pop" x) F N rfl (Heap.get?_push_at rfl rfl) (fun b o e => Heap.get?_push_of_some _ e)
  exact h _ _ F' N' l'
theorem bound_len_K {Q : Value → Shared → Prop} (N : News h₀ L s.heap news) (hq : (q, mwO "list.__len__" x) ∈ news) (hx : s.heap.get? x = some (accO da vs n))
    (h : Q (.int vs.size s.toks) { s with toks := s.toks + 1 }) : wpAny (model prog w) A (call (.ref q) []) Q E s := by
  refine bound_call (N _ hq).1 (.inr rfl) chk_len (by decide +kernel) (B := Builtin.«list.__len__») (entryFor_of_tree (by kernel_rfl)) ?_
  unfold Builtin.«list.__len__»
  wp_walk using wpAny_loadPart hx
  exact ⟨_, rfl, h⟩
theorem acc_upd {f : Obj → Obj} {o' : Obj} (F : Fr h₀ L s.heap m) (N : News h₀ L s.heap news) (U : Upd x (accO da vs n) o' news news') (e : f (accO da vs n) = o') (hf : o'.isFreed = false) :
    Fr h₀ L (s.heap.update x f) m ∧ News h₀ L (s.heap.update x f) news' := by
  obtain ⟨pre, post, rfl, rfl, a, b⟩ := U.split
  exact news_upd F N a b e hf
theorem bound_pop_K {v : Value} {Q : Value → Shared → Prop} (F : Fr h₀ L s.heap m) (N : News h₀ L s.heap news) (X : (k0.heap_1 w.params).In h₀) (hq : (q, bfO "list.pop" x) ∈ news) (hx : s.heap.get? x = some (accO da #[v] n)) (U : Upd x (accO da #[v] n) (accO da #[] (n + 1)) news news')
    (h : ∀ h', Fr h₀ L h' m → News h₀ L h' news' → Q v { s with heap := h' }) : wpAny (model prog w) A (call (.ref q) []) Q E s := by
  refine bound_call (N _ hq).1 (.inl rfl) (chk_pop (X.keeps F.keep) hx) (by decide +kernel) (B := Builtin.«list.pop») (entryFor_of_tree (by kernel_rfl)) ?_
  unfold Builtin.«list.pop»
  wp_walk using wpAny_loadPart hx, wpAny_updateSeq hx rfl
  have e : Obj.mapSeq (fun x => x.eraseIdxIfInBounds (if (-1 : Int) < 0 then -1 + ((#[v] : Array Value).size : Int) else -1).toNat) (accO da #[v] n) = accO da #[] (n + 1) := by
    have z : (#[v] : Array Value).eraseIdxIfInBounds (if (-1 : Int) < 0 then -1 + ((#[v] : Array Value).size : Int) else -1).toNat = #[] := by simp [Array.eraseIdxIfInBounds, Array.eraseIdx]
    simp only [Obj.mapSeq, z]; rfl
  rw [e, pastItsLine_seq (by simp [sizeLine_eq])]
  obtain ⟨F', N'⟩ := acc_upd F N U e rfl
  exact wpAny_pure (wpAny_pure ⟨_, rfl, h _ F' N'⟩)
theorem bound_init_K {Q : Value → Shared → Prop} (F : Fr h₀ L s.heap m) (N : News h₀ L s.heap news) (hq : (q, mwO "list.__init__" x) ∈ news) (hx : s.heap.get? x = some (accO da #[] n)) (U : Upd x (accO da #[] n) (accO da #[] n) news news')
    (h : ∀ h', Fr h₀ L h' m → News h₀ L h' news' → Q .none { s with heap := h' }) : wpAny (model prog w) A (call (.ref q) []) Q E s := by
  refine bound_call (N _ hq).1 (.inr rfl) chk_init (by decide +kernel) (B := Builtin.«list.__init__») (entryFor_of_tree (by kernel_rfl)) ?_
  unfold Builtin.«list.__init__»
  wp_walk using wpAny_loadPart hx, wpAny_updateSeq hx rfl
  obtain ⟨F', N'⟩ := acc_upd (f := Obj.mapSeq fun _ => #[]) F N U rfl rfl
  exact ⟨_, rfl, h _ F' N'⟩
end
end Mine
end SA5

section SG
namespace Mine
section
variable {p : Program} {loose : List Str} {mean : ExcName → Option Value} {mg mb : Str → Option Value} {w : World} {A : Around} {base : Heap} {outer : List Env} {H H' : Heap}
theorem enterAt {prog : Program} {dp un : Nat} {gd : Option (List Code)} {s : Shared} {R : Result → Shared → Prop} {name qual : Str} {params : Arguments} {body : List Stmt} {scope : Scope} {cl : List (Str × Addr)} {dV kV doc pm cdv ct oc : Value} {an od : Option Addr} {osl : Array (Option Value)} {f : Addr} {args : Args} {binds : List (Str × Value)}
    {led : List (Addr × Obj)}
    (C : Cx p loose mean mg mb w (aT dp un gd outer) base outer H) (st : H.StaysIn s.heap) (hled : ∀ q ∈ led, s.heap.get? q.1 = some q.2 ∧ H.get? q.1 = none)
    (ho : (k0.heap_1 w.params).lookup f = some ⟨oc, od, .func (fnX name qual params body scope cl dV kV doc pm an cdv ct), osl⟩) (hcd : codeIn (k0.heap_1 w.params) cdv qual = true) (hroom : dp < recursionLimit)
    (hbind : BindsTo s (fnX name qual params body scope cl dV kV doc pm an cdv ct) args binds) (hloc : ∀ y ∈ binds, scope.names.lookup y.1 = some .local)
    (h : ∀ g L' h₁, Fr g L' h₁ (fun y => binds.reverse.lookup y) → News g L' h₁ led → Below (aT dp un gd outer) base outer g → (k0.heap_1 w.params).In g → Top p loose mean mg mb g →
      GSub s.heap g (led.map (·.1)) → (∀ p ∈ led, p.1 < L') →
      _root_.PySem.wpAt (model prog w) ((aT dp un gd outer).deeper (envX qual scope L' f cdv cl)) (.func body (envX qual scope L' f cdv cl)) (execs body (envX qual scope L' f cdv cl))
        (fun fl s' => R (.ok (.ret (match fl with | .ret v => v | _ => .none))) s')
        (fun e s' => wpAny (model prog w) ((aT dp un gd outer).deeper (envX qual scope L' f cdv cl)) (leaving (envX qual scope L' f cdv cl) e) (fun _ s'' => R (.error e) s'') (fun e' s'' => R (.error e') s'') s')
        { s with heap := h₁, toks := s.toks + binds.length })
    (hcell : ∀ x ∈ scope.names, x.2 ≠ .cell) (hco : scope.isCoroutine = false := by rfl) (hgen : scope.isGenerator = false := by rfl) (hk : scope.kind = .function := by rfl) :
    codeAny (model prog w) (aT dp un gd outer) (.call (.ref f) args) R s := by
  have st' : H.StaysIn (hideAll s.heap (led.map (·.1))) := fun b o e => hideAll_get _ (st b o e) fun q => by
    obtain ⟨x, hx, rfl⟩ := List.mem_map.mp q
    rw [(hled x hx).2] at e; cases e
  have C' := C.keeps st'
  refine ks_codeAny_call_defAt (fd := fnX name qual params body scope cl dV kV doc pm an cdv ct) (body := body) (binds := binds) hroom ((C.X.keeps st) _ _ ho) rfl (C.T.nolimit.keeps st) (codeRec_of (C.X.keeps st) hcd) rfl hbind hcell hloc (fun h₁ hns hk₁ => ?_) hco hgen hk
  exact h _ s.heap.objs.size h₁ ⟨hns, fun b o e => hk₁ b o (of_hideAll _ e), Nat.le_of_eq (hideAll_size _ _)⟩
    (fun q hq => ⟨hk₁ _ _ (hled q hq).1, Nat.ne_of_lt (Heap.lt_size (hled q hq).1), hideAll_none _ (List.mem_map_of_mem hq)⟩) C'.B C'.X C'.T (fun b o e n => hideAll_get _ e n) (fun q hq => Heap.lt_size (hled q hq).1)
theorem fresh_of {s₀ g h' : Heap} {L t : Addr} {o : Obj} {as : List Addr} {news : List (Addr × Obj)} (G : GSub s₀ g as) (N : News g L h' news) (hm : (t, o) ∈ news) (hna : t ∉ as) : s₀.get? t = none := by
  cases e : s₀.get? t with
  | none => rfl
  | some o' => have := G _ _ e hna; rw [(N _ hm).2.2] at this; cases this
end
theorem callWith_bf {prog : Program} {w : World} {A : Around} {E : Value → Shared → Prop} {s : Shared} {pos : Pos} {q x : Addr} {id bt : String} {Q : Value → Shared → Prop} (hq : s.heap.get? q = some { cls := .type bt, data := .fields #[.builtin id, .ref x] })
    (hbt : bt = "builtin_function_or_method" ∨ bt = "method-wrapper") (h : wpAny (model prog w) A (call (.ref q) []) Q E s) : wpAny (model prog w) A (callWith pos (.ref q) [] [] []) Q E s := by
  have e : evalArgs (.ref q) true [] [] = pure ⟨[], []⟩ := rfl
  unfold callWith
  rw [e]
  refine wpAny_bind (wpAny_holding (wpAny_pure (wpAny_bind (wpAny_standAt ?_))))
  unfold keeperOf
  refine wpAny_bind (wpAny_bind (wpAny_load hq ?_))
  rcases hbt with rfl | rfl
  all_goals
    exact wpAny_pure (wpAny_bind (wpAny_mono h (fun v s' h' => wpAny_bind (wpAny_holding (wpAny_point (wpAny_pure h')))) fun _ _ h' => h'))
theorem inst_acc {h : Heap} {x d : Addr} {vs : Array Value} {n : Nat} {od : Obj} (h1 : h.get? x = some (accO d vs n)) (h2 : h.get? d = some od) : InstAt h x (accO d vs n) 101 (some od) := ⟨h1, rfl, rfl, h2⟩
local macro_rules | `(tactic| k_inst) => `(tactic| (refine' inst_acc ?z1 ?z2; (case z1 => walk_at "my get"); (case z2 => walk_at "my get")))
local macro_rules | `(tactic| walk_at "getMethod ref") => `(tactic| (k_here; k_dflt (refine' acc_method ?k1 ?k2 ?k3 ?k4 ?k5 ?k6 ?k7 ?_; (case k1 => k_in); (case k2 => walk_at "my get"); (case k3 => walk_at "my get"); (case k4 => k_is); (case k5 => k_is); (case k6 => decide +kernel); (case k7 => assumption); k_whole)))
local macro_rules | `(tactic| walk_at "getMethod ref") => `(tactic| (k_here; k_dflt ((first | refine' sup_len_K ?k1 ?k2 ?k3 ?k4 ?k5 ?_ | refine' sup_pop_K ?k1 ?k2 ?k3 ?k4 ?k5 ?_ | refine' sup_init_K ?k1 ?k2 ?k3 ?k4 ?k5 ?_); (case k1 => k_asm); (case k2 => k_asm); (case k3 => k_asm); (case k4 => k_mem); (case k5 => walk_at "my get"); k_whole); intro q' h' F' N' l1; (try k_lt l1)))
local macro_rules | `(tactic| walk_at "call ref") => `(tactic| (k_here; k_dflt (refine' bound_len_K ?k1 ?k2 ?k3 ?_; (case k1 => k_asm); (case k2 => k_mem); (case k3 => walk_at "my get"); k_whole)))
local macro_rules | `(tactic| walk_at "callWith ref") => `(tactic| (k_here; k_dflt (refine' callWith_bf ?k1 ?k2 ?_; (case k1 => walk_at "my get"); (case k2 => first | exact .inl rfl | exact .inr rfl); k_whole)))
local macro_rules | `(tactic| walk_at "callWith") => `(tactic| (k_here; k_dflt (refine' callWith_bf ?k1 ?k2 ?_; (case k1 => walk_at "my get"); (case k2 => first | exact .inl rfl | exact .inr rfl); k_whole)))
theorem part_count {p : Program} {loose : List Str} {mean : ExcName → Option Value} {mg mb : Str → Option Value} {w : World} {dp un : Nat} {gd : Option (List Code)} {outer : List Env} {base H : Heap} {s : Shared} {R : Result → Shared → Prop}
    {x d : Addr} {n : Nat} {vs : Array Value} {od : Obj}
    (C : Cx p loose mean mg mb w (aT dp un gd outer) base outer H) (st : H.StaysIn s.heap) (hd : dp + 2 < recursionLimit) (hu : un + 20 < cLine)
    {z : Int} (hz : (vs.size : Int) = z) (hl : s.heap.get? x = some (accO d vs n)) (hod : s.heap.get? d = some od)
    (k : ∀ h' tk' t, ExtL [] s.heap h' → R (.ok (.ret (.int z t))) { s with heap := h', toks := tk' }) :
    codeAny (model Challenge.rw_nb0220_01.row.prog w) (aT dp un gd outer) (.call (.ref 98) ⟨[.ref x], []⟩) R s := by
  w_on
  have hled : ∀ q ∈ ([] : List (Addr × Obj)), s.heap.get? q.1 = some q.2 ∧ H.get? q.1 = none := fun q hq => nomatch hq
  refine' enterAt (binds := [(Str.ofString "self", .ref x)]) C st hled ?k6 ?k7 ?k8 ?k9 ?kB ?_ ?c5 ?c2 ?c3 ?c4
  (((case k6 => k_is); (case k7 => k_is); (case k8 => exact Nat.lt_of_le_of_lt (Nat.le_add_right _ _) hd); (case k9 => exact BindsTo.of_eq rfl); (case kB => exact locs rfl); (case c5 => decide); (case c2 => exact rfl); (case c3 => exact rfl); (case c4 => exact rfl)))
  intro g' L' h' F' N' B' X' T' G' l1
  have gx := G' _ _ hl (by simp)
  have gd0 := G' _ _ hod (by simp)
  (try dsimp only)
  (try k_fold)
  k_steps
  rw [hz]
  exact k _ _ _ (ext_of G' (by k_asm))

local macro_rules | `(tactic| walk_at "call ref") => `(tactic| (k_here; k_dflt (refine' bound_pop_K ?k1 ?k2 ?k3 ?k4 ?k5 ?k6 ?_; (case k1 => k_asm); (case k2 => k_asm); (case k3 => k_asm); (case k4 => k_mem); (case k5 => walk_at "my get"); (case k6 => k_upd); k_whole); intro h' F' N'; (try k_sweep)))

theorem pop_one {p : Program} {loose : List Str} {mean : ExcName → Option Value} {mg mb : Str → Option Value} {w : World} {dp un : Nat} {gd : Option (List Code)} {outer : List Env} {base H : Heap} {s : Shared} {R : Result → Shared → Prop}
    {x d : Addr} {n : Nat} {v : Value} {od : Obj}
    (C : Cx p loose mean mg mb w (aT dp un gd outer) base outer H) (st : H.StaysIn s.heap) (hd : dp + 4 < recursionLimit) (hu : un + 40 < cLine)
    (hl : s.heap.get? x = some (accO d #[v] n)) (hf : H.get? x = none) (hod : s.heap.get? d = some od) (hdx : d ≠ x) (hno : lookIn "part_count" od = some none)
    (k : ∀ h' tk', ExtL [x] s.heap h' → h'.get? x = some (accO d #[] (n + 1)) → R (.ok (.ret v)) { s with heap := h', toks := tk' }) :
    codeAny (model Challenge.rw_nb0220_01.row.prog w) (aT dp un gd outer) (.call (.ref 61) ⟨[.ref x], []⟩) R s := by
  w_on
  have hled : ∀ q ∈ [(x, accO d #[v] n)], s.heap.get? q.1 = some q.2 ∧ H.get? q.1 = none := by
    intro q hq
    rw [List.mem_singleton.mp hq]
    exact ⟨hl, hf⟩
  refine' enterAt (binds := [(Str.ofString "self", .ref x)]) C st hled ?k6 ?k7 ?k8 ?k9 ?kB ?_ ?c5 ?c2 ?c3 ?c4
  (((case k6 => k_is); (case k7 => k_is); (case k8 => exact Nat.lt_of_le_of_lt (Nat.le_add_right _ _) hd); (case k9 => exact BindsTo.of_eq rfl); (case kB => exact locs rfl); (case c5 => decide); (case c2 => exact rfl); (case c3 => exact rfl); (case c4 => exact rfl)))
  intro g' L' h' F' N' B' X' T' G' l1
  have gd0 := G' _ _ hod (by simpa using hdx)
  (try dsimp only)
  (try k_fold)
  k_steps
  refine use_call B' (by k_asm) (by k_asm) X' T' rfl rfl ?_
  intro H9 C9 st9 f9 G9
  refine part_count C9 st9 (room 1 hd) (room 17 hu) (z := 1) rfl (News.get (by k_asm) (List.Mem.head _)) (Fr.keep (by k_asm) _ _ gd0) ?_
  intro h9 tk9 t9 hx9
  obtain ⟨F9, N9⟩ := back0 (by k_asm) (by k_asm) hx9
  (try dsimp only)
  walk1; walk1; walk1; walk1
  refine wpAt_of_wpAny (wpAny_execs_nil ?_)
  dsimp only
  refine ks_wpAt_execs_cons ?_
  refine ks_wpAt_Return_some ?_
  refine ks_wpAt_MethodCall ?_
  k_steps
  exact k _ _ (ext_of G' (by k_asm)) (News.get (by k_asm) (by k_mem))
theorem pop_zero {p : Program} {loose : List Str} {mean : ExcName → Option Value} {mg mb : Str → Option Value} {w : World} {dp un : Nat} {gd : Option (List Code)} {outer : List Env} {base H : Heap} {s : Shared} {R : Result → Shared → Prop}
    {x d : Addr} {n : Nat} {od : Obj}
    (C : Cx p loose mean mg mb w (aT dp un gd outer) base outer H) (st : H.StaysIn s.heap) (hd : dp + 4 < recursionLimit) (hu : un + 40 < cLine)
    (hl : s.heap.get? x = some (accO d #[] n)) (hod : s.heap.get? d = some od) (hno : lookIn "part_count" od = some none)
    (k : ∀ h' tk' t a b, ExtL [] s.heap h' → s.heap.get? t = none → h'.get? t = some { cls := .type "tuple", data := .seq #[.str "" a, .str "" b] } → R (.ok (.ret (.ref t))) { s with heap := h', toks := tk' }) :
    codeAny (model Challenge.rw_nb0220_01.row.prog w) (aT dp un gd outer) (.call (.ref 61) ⟨[.ref x], []⟩) R s := by
  w_on
  have hled : ∀ q ∈ ([] : List (Addr × Obj)), s.heap.get? q.1 = some q.2 ∧ H.get? q.1 = none := fun q hq => nomatch hq
  refine' enterAt (binds := [(Str.ofString "self", .ref x)]) C st hled ?k6 ?k7 ?k8 ?k9 ?kB ?_ ?c5 ?c2 ?c3 ?c4
  (((case k6 => k_is); (case k7 => k_is); (case k8 => exact Nat.lt_of_le_of_lt (Nat.le_add_right _ _) hd); (case k9 => exact BindsTo.of_eq rfl); (case kB => exact locs rfl); (case c5 => decide); (case c2 => exact rfl); (case c3 => exact rfl); (case c4 => exact rfl)))
  intro g' L' h' F' N' B' X' T' G' l1
  have gx := G' _ _ hl (by simp)
  have gd0 := G' _ _ hod (by simp)
  (try dsimp only)
  (try k_fold)
  k_steps
  refine use_call B' (by k_asm) (by k_asm) X' T' rfl rfl ?_
  intro H9 C9 st9 f9 G9
  refine part_count C9 st9 (room 1 hd) (room 17 hu) (z := 0) rfl (Fr.keep (by k_asm) _ _ gx) (Fr.keep (by k_asm) _ _ gd0) ?_
  intro h9 tk9 t9 hx9
  obtain ⟨F9, N9⟩ := back0 (by k_asm) (by k_asm) hx9
  (try dsimp only)
  k_steps
  exact k _ _ _ _ _ (ext_of G' (by k_asm)) (fresh_of G' (by k_asm) (List.Mem.head _) (by simp)) (News.get (by k_asm) (by k_mem))

section
variable {prog : Program} {w : World} {A : Around} {E : Value → Shared → Prop} {s : Shared} {x d : Addr} {vs : Array Value} {n : Nat}
theorem anyM_false {M : Model} {h : Heap} {f : String → Sem Bool} : ∀ (l : List String), (∀ y ∈ l, Looks M h (f y) false) → Looks M h (l.anyM f) false
  | [], _ => Looks.now
  | y :: l, hl => by
    rw [List.anyM_cons]
    exact (hl y (.head _)).andThen (anyM_false l fun z hz => hl z (.tail _ hz))
theorem acc_type {M : Model} {h : Heap} (hx : h.get? x = some (accO d vs n)) : Looks M h (typeOf (.ref x)) (.ref 101) := (Looks.ld hx).andThen .now
theorem acc_seqKey {M : Model} {h : Heap} {k : Value} {name : Str} (X : (k0.heap_1 w.params).In h) (hx : h.get? x = some (accO d vs n)) : Looks M h (sequenceKey (.ref x) k name) k := by
  unfold sequenceKey
  refine (acc_type hx).andThen ?_
  dsimp only
  refine (anyM_false seqItemTypes fun y hy => looks_mroIn X ?_).andThen ?_
  · have all : seqItemTypes.all (fun y => mroIn (k0.heap_1 w.params) 101 (.type y) == some false) = true := by kernel_rfl
    exact beq_iff_eq.mp (List.all_eq_true.mp all y hy)
  · rw [if_pos (by decide)]
    exact .now
theorem acc_special {name : Str} {id : String} {args : List Value} {Q : Option Value → Shared → Prop} (X : (k0.heap_1 w.params).In s.heap) (hx : s.heap.get? x = some (accO d vs n))
    (hf : findIn (k0.heap_1 w.params) (.ref 101) name = some (some (.builtin id))) (hb : ∀ self, bindSpecial (.builtin id) self = pure (.builtin id, [self]))
    (hc : wpAny (model prog w) A (call (.builtin id) (.ref x :: args)) (fun v => Q (some v)) E s) : wpAny (model prog w) A (callSpecial? (.ref x) name args) Q E s := by
  unfold callSpecial? specialOf
  refine wpAny_bind (wpAny_bind ((acc_type hx).here ((looks_findIn X hf).here ?_)))
  dsimp only
  rw [hb]
  exact wpAny_holding (wpAny_bind (wpAny_pure (wpAny_bind (wpAny_mono hc (fun v s' h' => wpAny_pure h') fun _ _ h' => h'))))

theorem acc_getitem_slice {sl : Addr} {vl vu vst : Value} {lo hi st : Option Int} {Q : Value → Shared → Prop} (X : (k0.heap_1 w.params).In s.heap) (hx : s.heap.get? x = some (accO d vs n))
    (hs : s.heap.IsSliceOf sl vl vu vst) (pl : IsPart vl lo) (pu : IsPart vu hi) (ps : IsPart vst st) (h0 : st ≠ some 0)
    (h : Q (.ref s.heap.objs.size) { s with heap := s.heap.push { cls := .type "list", data := .seq (slicePick vs lo hi st) } })
    (hsz : vs.size ≤ sizeLine) : wpAny (model prog w) A (getItem (.ref x) (.ref sl)) Q E s := by
  obtain ⟨os, hos, hcs, hds⟩ := id hs
  have hTs : s.TypeIs (.ref sl) "slice" := ⟨os, hos, hcs⟩
  unfold getItem
  refine wpAny_holding (wpAny_bind ((acc_seqKey X hx).here ?_))
  refine wpAny_bind (acc_special X hx (by kernel_rfl) slot_list_getitem.bind (acc_entry X hx (nm := "__getitem__") (by decide +kernel) (by first | (left; decide +kernel) | (right; decide +kernel)) (by decide +kernel) entry_list_getitem (args_list_getitem _ _) ?_))
  show wpAny _ _ (Builtin.List.listSubscript? (.ref sl) >>= _) _ _ s
  refine wpAny_bind ?_
  unfold Builtin.List.listSubscript?
  refine wpAny_bind (wpAny_specialOf hTs slice_no_index ?_)
  simp only [Option.isNone_none, if_true]
  refine wpAny_pure ?_
  show wpAny _ _ (typeOf (.ref sl) >>= _) _ _ s
  refine wpAny_bind (wpAny_typeOf hTs ?_)
  rw [if_neg (by decide)]
  rw [listSliceParts_eq]
  have hstep : ¬ ((rawPart st == rawInt 0) = true) := by
    cases st with
    | none => exact Bool.false_ne_true
    | some c =>
      intro hh
      have : c = 0 := by simpa [rawPart, rawInt] using hh
      exact h0 (by rw [this])
  refine wpAny_bind (wpAny_bind (wpAny_field hos hds (x := vst) rfl (wpAny_bind (wpAny_listPart ps ?_))))
  rw [if_neg hstep]
  refine wpAny_bind (wpAny_field hos hds (x := vl) rfl (wpAny_bind (wpAny_listPart pl ?_)))
  refine wpAny_bind (wpAny_field hos hds (x := vu) rfl (wpAny_bind (wpAny_listPart pu (wpAny_pure ?_))))
  refine wpAny_bind (m := Builtin.List.listItems (.ref x)) ?_
  unfold Builtin.List.listItems
  refine wpAny_bind (wpAny_seqItems hx rfl (wpAny_pure ?_))
  refine wpAny_bind (wpAny_of_eq (sliceIndices_raw lo hi st vs.size h0) ?_)
  exact wpAny_bind (wpAny_newObj_type (wpAny_pure ⟨_, rfl, wpAny_pure h⟩) (Nat.le_trans (slicePick_size_le vs lo hi st) hsz))

theorem acc_tail {value slice : Expr} {i : Value} {ops : List Value} {Q : Value → Shared → Prop} (X : (k0.heap_1 w.params).In s.heap) (hx : s.heap.get? x = some (accO d vs n))
    (hg : wpAny (model prog w) A (getItem (.ref x) i) Q E s) (hs : subscripted slice false (.ref x) i = operate ops (getItem (.ref x) i)) :
    wpAny (model prog w) A (subscriptTail value slice (.ref x) i) Q E s := by
  unfold subscriptTail getitemInPython specialOf
  refine wpAny_bind (wpAny_bind (wpAny_bind ((acc_type hx).here ((looks_findIn X (r := some (.builtin "list.__getitem__")) (by kernel_rfl)).here ?_))))
  dsimp only
  refine wpAny_pure (wpAny_bind ?_)
  rw [hs]
  exact wpAny_operating (wpAny_mono hg (fun r s₃ h₃ => wpAny_bind (wpAny_letTemporaryGo (wpAny_pure h₃))) fun _ _ x => x)

noncomputable def setPick (vs items : Array Value) (lo hi : Option Int) : Array Value :=
  vs.extract 0 (sliceBounds lo hi none vs.size).1.toNat ++ items ++ vs.extract (max (sliceBounds lo hi none vs.size).1 (sliceBounds lo hi none vs.size).2.1).toNat vs.size
theorem acc_setitem_slice {sl l : Addr} {items : Array Value} {k : Nat} {vl vu : Value} {lo hi : Option Int} {Q : Unit → Shared → Prop} (X : (k0.heap_1 w.params).In s.heap) (hx : s.heap.get? x = some (accO d vs n))
    (hs : s.heap.IsSliceOf sl vl vu .none) (pl : IsPart vl lo) (pu : IsPart vu hi) (hl : s.heap.get? l = some (lstO items k)) (hlx : x ≠ l)
    (hsz : vs.size + items.size ≤ sizeLine) (hz2 : (setPick vs items lo hi).size ≤ sizeLine)
    (h : ∀ h', Heap.SameBut x s.heap h' → h'.get? x = some (accO d (setPick vs items lo hi) (if ((setPick vs items lo hi).size == vs.size) = true then n else n + 1)) → Q () { s with heap := h' }) : wpAny (model prog w) A (setItem (.ref x) (.ref sl) (.ref l)) Q E s := by
  obtain ⟨os, hos, hcs, hds⟩ := id hs
  have hTs : s.TypeIs (.ref sl) "slice" := ⟨os, hos, hcs⟩
  have hTl : s.TypeIs (.ref l) "list" := ⟨_, hl, rfl⟩
  unfold setItem
  refine wpAny_holding (wpAny_bind ((acc_seqKey X hx).here ?_))
  refine wpAny_bind (acc_special X hx (by kernel_rfl) F.slot_list_setitem.bind (acc_entry X hx (nm := "__setitem__") (by decide +kernel) (by first | (left; decide +kernel) | (right; decide +kernel)) (by decide +kernel) (B := Builtin.«list.__setitem__») (entryFor_of_tree (by kernel_rfl)) (by unfold argsOk; kernel_rfl) ?_))
  show wpAny _ _ (Builtin.List.listSubscript? (.ref sl) >>= _) _ _ s
  refine wpAny_bind ?_
  unfold Builtin.List.listSubscript?
  refine wpAny_bind (wpAny_specialOf hTs slice_no_index ?_)
  simp only [Option.isNone_none, if_true]
  refine wpAny_pure ?_
  show wpAny _ _ (typeOf (.ref sl) >>= _) _ _ s
  refine wpAny_bind (wpAny_typeOf hTs ?_)
  rw [if_neg (by decide)]
  show wpAny _ _ (Builtin.List.listSliceParts (.ref sl) >>= _) _ _ s
  rw [listSliceParts_eq]
  refine wpAny_bind (wpAny_bind (wpAny_field hos hds (x := .none) rfl (wpAny_bind (wpAny_listPart .none ?_))))
  rw [if_neg (by decide)]
  refine wpAny_bind (wpAny_field hos hds (x := vl) rfl (wpAny_bind (wpAny_listPart pl ?_)))
  refine wpAny_bind (wpAny_field hos hds (x := vu) rfl (wpAny_bind (wpAny_listPart pu (wpAny_pure ?_))))
  dsimp only
  rw [if_neg (by simp [Builtin.List.listSameRef, hlx])]
  refine wpAny_bind (m := Builtin.List.listAllItems (.ref l) _) ?_
  unfold Builtin.List.listAllItems
  refine wpAny_bind (wpAny_typeOf hTl ?_)
  rw [if_pos (by decide)]
  unfold Builtin.List.listItems
  refine wpAny_bind (wpAny_seqItems hl rfl (wpAny_pure ?_))
  refine wpAny_bind (wpAny_bind (wpAny_seqItems hx rfl (wpAny_pure ?_)))
  refine wpAny_bind (wpAny_of_eq (sliceIndices_raw lo hi none vs.size (by simp)) ?_)
  rw [if_pos (show ((sliceBounds lo hi none vs.size).2.2 == 1) = true from rfl)]
  refine wpAny_bind (wpAny_rule ?_)
  rw [if_neg (by simp only [Builtin.List.listTooLong, decide_eq_true_eq]; omega)]
  refine wpAny_bind ?_
  unfold Builtin.List.listUpdate
  refine wpAny_updateSeq hx rfl ?_ (by omega) (Nat.le_succ_of_le hz2)
  refine wpAny_bind (wpAny_letGo (wpAny_pure ⟨_, rfl, wpAny_pure (h _ (Heap.SameBut.update ..) ?_)⟩))
  rw [Heap.get?_update_self _ hx rfl]
  rfl
end

theorem slicePick_from (vs : Array Value) (i : Nat) (hi : i ≤ vs.size) : slicePick vs (some (i : Int)) none none = (vs.toList.drop i).toArray := by
  have e1 : sliceBounds (some (i : Int)) none none vs.size = ((i : Int), (vs.size : Int), 1) := by
    simp only [sliceBounds, Option.getD_none]
    have : ¬ ((i : Int) < 0) := by omega
    simp only [this, if_false, show (1 : Int) > 0 by decide, if_true]
    congr 1
    omega
  unfold slicePick
  rw [e1]
  simp only [sliceRange_one, pick_run]
  congr 1
  apply List.take_of_length_le
  simp
theorem setPick_from (vs : Array Value) (i : Nat) (hi : i ≤ vs.size) : setPick vs #[] (some (i : Int)) none = (vs.toList.take i).toArray := by
  have e1 : sliceBounds (some (i : Int)) none none vs.size = ((i : Int), (vs.size : Int), 1) := by
    simp only [sliceBounds, Option.getD_none]
    have : ¬ ((i : Int) < 0) := by omega
    simp only [this, if_false, show (1 : Int) > 0 by decide, if_true]
    congr 1
    omega
  unfold setPick
  rw [e1]
  have e2 : (max (i : Int) (vs.size : Int)).toNat = vs.size := by omega
  simp only [e2, Int.toNat_natCast]
  apply Array.ext'
  simp
section
variable {prog : Program} {A : Around} {E : Value → Shared → Prop} {w : World} {s : Shared} {x d l : Addr} {vs items : Array Value} {n kk : Nat} {vl vu : Value} {lo hi : Option Int} {h₀ : Heap} {L : Addr} {m : Str → Option Value} {news news' : List (Addr × Obj)}
noncomputable abbrev slO (vl vu : Value) : Obj := { cls := .type "slice", data := .fields #[vl, vu, .none] }
theorem acc_slice_K {value slice : Expr} {ops : List Value} {its : Array Value} {Q : Value → Shared → Prop} (F : Fr h₀ L s.heap m) (N : News h₀ L s.heap news) (X : (k0.heap_1 w.params).In h₀) (hx : s.heap.get? x = some (accO d vs n))
    (pl : IsPart vl lo) (pu : IsPart vu hi) (hsz : vs.size ≤ sizeLine) (e : slicePick vs lo hi none = its)
    (hsub : subscripted slice false (.ref x) (.ref s.heap.objs.size) = operate ops (getItem (.ref x) (.ref s.heap.objs.size)))
    (h : ∀ l h', Fr h₀ L h' m → News h₀ L h' ((l, listOf its 0) :: news) → (∀ p ∈ news, p.1 < l) → Q (.ref l) { s with heap := h' }) :
    wpAny (model prog w) A (subscriptTail value slice (.ref x) (.ref s.heap.objs.size)) Q E { s with heap := s.heap.push (slO vl vu) } := by
  subst e
  obtain ⟨F1, N1, l1⟩ := ks_newsPush (s := s) (o := slO vl vu) F N rfl (Heap.get?_push_at rfl rfl) (fun b o e => Heap.get?_push_of_some _ e)
  refine acc_tail (s := { s with heap := s.heap.push (slO vl vu) }) (X.keeps F1.keep) (Heap.get?_push_of_some _ hx) (acc_getitem_slice (s := { s with heap := s.heap.push (slO vl vu) }) (X.keeps F1.keep) (Heap.get?_push_of_some _ hx) ⟨_, (N1 _ (.head _)).1, rfl, rfl⟩ pl pu .none (by simp) ?_ hsz) hsub
  obtain ⟨F', N', l'⟩ := ks_newsPush (s := { s with heap := s.heap.push (slO vl vu) }) (o := listOf (slicePick vs lo hi none) 0) F1 N1 rfl (Heap.get?_push_at rfl rfl) (fun b o e => Heap.get?_push_of_some _ e)
  exact h _ _ F' (fun p hp => N' p (by cases hp with | head => exact .head _ | tail _ hp => exact .tail _ (.tail _ hp))) (fun p hp => l' p (.tail _ hp))
theorem acc_setslice_K {Q : Unit → Shared → Prop} (F : Fr h₀ L s.heap m) (N : News h₀ L s.heap news) (X : (k0.heap_1 w.params).In h₀) (hx : (x, accO d vs n) ∈ news)
    (pl : IsPart vl lo) (pu : IsPart vu hi) (hl : s.heap.get? l = some (lstO items kk)) (hlx : x ≠ l) (hsz : vs.size + items.size ≤ sizeLine)
    {its : Array Value} (e : setPick vs items lo hi = its) (hz2 : its.size ≤ sizeLine)
    (U : Upd x (accO d vs n) (accO d its (if (its.size == vs.size) = true then n else n + 1)) news news')
    (h : ∀ h', Fr h₀ L h' m → News h₀ L h' news' → Q () { s with heap := h' }) :
    wpAny (model prog w) A (setItem (.ref x) (.ref s.heap.objs.size) (.ref l)) Q E { s with heap := s.heap.push (slO vl vu) } := by
  subst e
  obtain ⟨F1, N1, l1⟩ := ks_newsPush (s := s) (o := slO vl vu) F N rfl (Heap.get?_push_at rfl rfl) (fun b o e => Heap.get?_push_of_some _ e)
  have sl := (N1 _ (.head _)).1
  obtain ⟨pre, post, rfl, rfl, a, b⟩ := U.split
  have N2 : News h₀ L (s.heap.push (slO vl vu)) (pre ++ (x, accO d vs n) :: post) := fun p hp => N1 p (.tail _ hp)
  have z := N2 (x, accO d vs n) (List.mem_append.mpr (.inr (.head _)))
  exact acc_setitem_slice (s := { s with heap := s.heap.push (slO vl vu) }) (X.keeps F1.keep) z.1 ⟨_, sl, rfl, rfl⟩ pl pu (Heap.get?_push_of_some _ hl) hlx hsz hz2 fun h' hsb hg => h h' (F1.change hsb z.2.1 z.2.2) (news_set N2 a b hsb hg)
end
local macro_rules | `(tactic| walk_at "subscriptTail Name Slice ref ref") => `(tactic| (k_here; k_dflt (refine' acc_slice_K ?k1 ?k2 ?k3 ?k4 ?k6 ?k7 ?k8 ?ke ?k9 ?_; (case k1 => k_asm); (case k2 => k_asm); (case k3 => k_asm); (case k4 => walk_at "my get"); (case k6 => (first | exact IsPart.int _ _ | exact IsPart.none)); (case k7 => (first | exact IsPart.int _ _ | exact IsPart.none)); (case k8 => assumption); (case ke => first | assumption | exact rfl); (case k9 => with_unfolding_all rfl); k_whole); intro l' h' F' N' l1; (try k_lt l1); (try k_sweep)))
local macro_rules | `(tactic| walk_at "setItem ref ref") => `(tactic| (k_here; k_dflt (refine' acc_setslice_K ?k1 ?k2 ?k3 ?k4 ?k6 ?k7 ?k8 ?k9 ?ka ?ke ?kb ?kc ?_; (case k1 => k_asm); (case k2 => k_asm); (case k3 => k_asm); (case k4 => k_mem); (case k6 => (first | exact IsPart.int _ _ | exact IsPart.none)); (case k7 => (first | exact IsPart.int _ _ | exact IsPart.none)); (case k8 => walk_at "my get"); (case k9 => k_ne); (case ke => first | assumption | exact rfl); (case ka => first | assumption | (simp only [List.size_toArray, List.length_nil]; omega)); (case kb => assumption); (case kc => k_upd); k_whole); intro h' F' N'; (try k_sweep)))
theorem pop_from {p : Program} {loose : List Str} {mean : ExcName → Option Value} {mg mb : Str → Option Value} {w : World} {dp un : Nat} {gd : Option (List Code)} {outer : List Env} {base H : Heap} {s : Shared} {R : Result → Shared → Prop}
    {x d : Addr} {n i : Nat} {vs : Array Value} {od : Obj} {t : Tok}
    (C : Cx p loose mean mg mb w (aT dp un gd outer) base outer H) (st : H.StaysIn s.heap) (hd : dp + 4 < recursionLimit) (hu : un + 40 < cLine)
    (hl : s.heap.get? x = some (accO d vs n)) (hf : H.get? x = none) (hod : s.heap.get? d = some od) (hdx : d ≠ x) (hi : i ≤ vs.size) (hsz : vs.size ≤ sizeLine)
    (k : ∀ h' tk' l n', ExtL [x] s.heap h' → s.heap.get? l = none → h'.get? l = some (lstO (vs.toList.drop i).toArray 0) → h'.get? x = some (accO d (vs.toList.take i).toArray n') → R (.ok (.ret (.ref l))) { s with heap := h', toks := tk' }) :
    codeAny (model Challenge.rw_nb0220_01.row.prog w) (aT dp un gd outer) (.call (.ref 53) ⟨[.ref x, .int (i : Int) t], []⟩) R s := by
  w_on
  have hled : ∀ q ∈ [(x, accO d vs n)], s.heap.get? q.1 = some q.2 ∧ H.get? q.1 = none := by
    intro q hq
    rw [List.mem_singleton.mp hq]
    exact ⟨hl, hf⟩
  refine' enter (binds := [(Str.ofString "self", .ref x), (Str.ofString "i", .int (i : Int) t)]) C st hled ?k6 ?k7 ?k8 ?k9 ?kB ?_ ?c5 ?c2 ?c3 ?c4
  (((case k6 => k_is); (case k7 => k_is); (case k8 => exact Nat.lt_of_le_of_lt (Nat.le_add_right _ _) hd); (case k9 => exact kp_binds (Frag.In.keeps (Cx.X (by assumption)) (by assumption)) (fun _ => by kernel_rfl)); (case kB => exact locs rfl); (case c5 => decide); (case c2 => exact rfl); (case c3 => exact rfl); (case c4 => exact rfl)))
  intro g' L' h' F' N' B' X' T' G'
  have gd0 := G' _ _ hod (by simpa using hdx)
  have e1 := slicePick_from vs i hi
  have e2 := setPick_from vs i hi
  have e3 : ((vs.toList.take i).toArray).size ≤ sizeLine := by simp; omega
  (try dsimp only)
  (try k_fold)
  k_steps
  exact k _ _ _ _ (ext_of G' (by k_asm)) (fresh_of G' (by k_asm) (.tail _ (.head _)) (by simp only [List.map_cons, List.map_nil, List.mem_singleton]; exact neN (by omega))) (News.get (by k_asm) (.tail _ (.head _))) (News.get (by k_asm) (.tail _ (.tail _ (.head _))))
theorem pop_from0 {p : Program} {loose : List Str} {mean : ExcName → Option Value} {mg mb : Str → Option Value} {w : World} {dp un : Nat} {gd : Option (List Code)} {outer : List Env} {base H : Heap} {s : Shared} {R : Result → Shared → Prop}
    {x d : Addr} {n : Nat} {vs : Array Value} {od : Obj}
    (C : Cx p loose mean mg mb w (aT dp un gd outer) base outer H) (st : H.StaysIn s.heap) (hd : dp + 4 < recursionLimit) (hu : un + 40 < cLine)
    (hl : s.heap.get? x = some (accO d vs n)) (hf : H.get? x = none) (hod : s.heap.get? d = some od) (hdx : d ≠ x) (hsz : vs.size ≤ sizeLine)
    (k : ∀ h' tk' l n', ExtL [x] s.heap h' → s.heap.get? l = none → h'.get? l = some (lstO vs 0) → h'.get? x = some (accO d #[] n') → R (.ok (.ret (.ref l))) { s with heap := h', toks := tk' }) :
    codeAny (model Challenge.rw_nb0220_01.row.prog w) (aT dp un gd outer) (.call (.ref 53) ⟨[.ref x], []⟩) R s := by
  w_on
  have hled : ∀ q ∈ [(x, accO d vs n)], s.heap.get? q.1 = some q.2 ∧ H.get? q.1 = none := by
    intro q hq
    rw [List.mem_singleton.mp hq]
    exact ⟨hl, hf⟩
  refine' enter (binds := [(Str.ofString "self", .ref x), (Str.ofString "i", .int 0 229)]) C st hled ?k6 ?k7 ?k8 ?k9 ?kB ?_ ?c5 ?c2 ?c3 ?c4
  (((case k6 => k_is); (case k7 => k_is); (case k8 => exact Nat.lt_of_le_of_lt (Nat.le_add_right _ _) hd); (case k9 => exact kp_binds (Frag.In.keeps (Cx.X (by assumption)) (by assumption)) (fun _ => by kernel_rfl)); (case kB => exact locs rfl); (case c5 => decide); (case c2 => exact rfl); (case c3 => exact rfl); (case c4 => exact rfl)))
  intro g' L' h' F' N' B' X' T' G'
  have gd0 := G' _ _ hod (by simpa using hdx)
  have e1 : slicePick vs (some 0) none none = vs := (slicePick_from vs 0 (Nat.zero_le _)).trans (by simp)
  have e2 : setPick vs #[] (some 0) none = #[] := (setPick_from vs 0 (Nat.zero_le _)).trans (by simp)
  have e3 : (#[] : Array Value).size ≤ sizeLine := Nat.zero_le _
  (try dsimp only)
  (try k_fold)
  k_steps
  exact k _ _ _ _ (ext_of G' (by k_asm)) (fresh_of G' (by k_asm) (.tail _ (.head _)) (by simp only [List.map_cons, List.map_nil, List.mem_singleton]; exact neN (by omega))) (News.get (by k_asm) (.tail _ (.head _))) (News.get (by k_asm) (.tail _ (.tail _ (.head _))))

section SA10a
open PySem.Builtin PySem.Calls PySem.Builtin.ObjectAttr PySem.Builtin.Getset_descriptor
section
variable {prog : Program} {w : World} {A : Around} {E : Value → Shared → Prop} {s : Shared} {x d : Addr} {vs : Array Value} {k : Nat} {h₀ : Heap} {L : Addr} {m : Str → Option Value} {news news' : List (Addr × Obj)} {R : Result → Shared → Prop}
theorem acc_refuse (self : Value) : refuseLoop self "__setattr__" [.type "list", .type "object"] = pure () := by kernel_rfl
theorem acc_osa {name : Str} {tk : Tok} {v : Value} (X : (k0.heap_1 w.params).In s.heap) (hx : s.heap.get? x = some (accO d vs k)) (ht : takerIn (k0.heap_1 w.params) 101 name = some none)
    (h : ∀ b, wpAny (model prog w) A.in1 (storeInOwnDict (.ref x) (.ref 101) (.str name tk) name v b)
      (fun fin s' => match fin with | .done f => R (.ok f) s' | .again c' => c'.quiet = true ∧ codeAny (model prog w) A c' R s') (fun e s' => R (.error e) s') s) :
    codeAny (model prog w) A (.call (.builtin "object.__setattr__") ⟨[.ref x, .str name tk, v], []⟩) R s := by
  have SF := PySem.F.store_object
  obtain ⟨cd, hcd, hmro⟩ : ∃ cd, clsIn (k0.heap_1 w.params) 101 = some cd ∧ cd.mro = [.ref 101, .type "list", .type "object"] := Option.map_eq_some_iff.mp (show (clsIn (k0.heap_1 w.params) 101).map (·.mro) = some [.ref 101, .type "list", .type "object"] by kernel_rfl)
  have sub : Looks (model prog w) s.heap (isInstance (.ref x) (.type "object")) true := (acc_type hx).andThen (looks_mroIn X (by kernel_rfl))
  refine codeAny_call_builtin SF.slot.plain SF.entry (@check_slot (model prog w) _ _ s "object.__setattr__" "object" "__setattr__" (.ref x) [.str name tk, v] [] _ SF.kind SF.split sub (SF.args (.ref x) (.str name tk) v) ?_)
  obtain ⟨attr, ha, hr⟩ := Option.bind_eq_some_iff.mp ht
  have hm : Looks (model prog w) s.heap (mroOf (.ref 101)) cd.mro := (looks_clsIn X hcd).andThen .now
  have L3 : Looks (model prog w) s.heap (storeTaker? attr) none := by
    cases attr with
    | none => exact .now
    | some a =>
      obtain ⟨b, hb, hbe⟩ := Option.map_eq_some_iff.mp hr
      refine (looks_takesIn X hb).andThen ?_
      cases b with
      | true => simp at hbe
      | false => exact .now
  rw [osa_eq, refuse_eq]
  refine wpAny_bind (wpAny_bind ((acc_type hx).here (wpAny_bind (hm.here ?_))))
  rw [hmro, refuseLoop_ref, acc_refuse]
  refine wpAny_pure (wpAny_bind ((acc_type hx).here (wpAny_bind ((looks_findIn X ha).here (wpAny_bind (L3.here ?_))))))
  exact h _
theorem acc_setattr {name : Str} {v : Value} {es es' : List DictEntry} {n n' : Nat} {Q : Unit → Shared → Prop} (F : Fr h₀ L s.heap m) (X₀ : (k0.heap_1 w.params).In h₀) (N : News h₀ L s.heap news) (hx : s.heap.get? x = some (accO d vs k)) (_hdm : (d, dictOf es n) ∈ news)
    (hs : findIn (k0.heap_1 w.params) (.ref 101) "__setattr__" = some (some (.builtin "object.__setattr__"))) (ht : takerIn (k0.heap_1 w.params) 101 name = some none) (hl : (getL name es).isSome = true)
    (e : (putL name (PyData.keyHash w.params name) (.str name (s.toks + 1)) v es, putN name es n) = (es', n')) (U : Upd d (dictOf es n) (dictOf es' n') news news') (hz : es'.length ≤ 1000)
    (h : ∀ h', Fr h₀ L h' m → News h₀ L h' news' → Q () { s with heap := h', toks := s.toks + 2 }) :
    wpAny (model prog w) A (setAttr (.ref x) name v) Q E s := by
  obtain ⟨pre, post, rfl, rfl, a, b⟩ := U.split
  obtain ⟨e1, e2⟩ := Prod.mk.inj e
  have X := X₀.keeps F.keep
  have D := (N (d, dictOf es n) (by simp)).1
  have hh : (clsIn (k0.heap_1 w.params) 101).any (·.hasDict) = true := by kernel_rfl
  obtain ⟨cd, hc, hd'⟩ := any_some hh
  have I : InstAt s.heap x (accO d vs k) 101 (some (dictOf es n)) := ⟨hx, rfl, rfl, D⟩
  refine set_plain X I hs ?_
  refine acc_osa (s := { s with toks := s.toks + 1 }) X hx ht fun b' => ?_
  have eP : Obj.putName name (PyData.keyHash w.params name) (.str name (s.toks + 1)) v (dictOf es n) = dictOf es' n' := by rw [putName_dict, e1, e2]
  obtain ⟨U1, U2⟩ := news_upd (f := Obj.putName name (PyData.keyHash w.params name) (.str name (s.toks + 1)) v) F N a b eP rfl
  have D' := (U2 (d, dictOf es' n') (by simp)).1
  refine wpAny_bind (wpAny_pure (wpAny_bind (wpAny_bind (wpAny_loadPart (s := { s with toks := s.toks + 1 }) hx (wpAny_bind ((looks_clsIn (M := model prog w) X hc) _ _ _ _ (fun _ _ e => e) ?_))))))
  rw [hd']
  refine wpAny_pure (a := some d) (wpAny_bind (wpAny_pure (wpAny_bind ?_)))
  unfold nsSet
  refine wpAny_bind (wpAny_bind (wpAny_askSetting (wpAny_pure (wpAny_bind (wpAny_mkText (wpAny_bind (wpAny_loadPart (s := { s with toks := s.toks + 1 + 1 }) D ?_)))))))
  dsimp only
  have hl2 : (lookIn name (dictOf es n)).isSome = true := by rw [lookIn_dict]; exact hl
  have c : (!es.toArray.any (·.key.isStr name) && es.toArray.any (·.refKey)) = false := by
    rw [← Array.any_toList, ← Array.any_toList]
    have hl3 : (match es.toArray.toList.find? (·.key.isStr name) with | some e => some (some e.val) | none => if es.toArray.toList.any (·.refKey) then none else some none : Option (Option Value)).isSome = true := hl2
    split at hl3
    · rename_i en he
      rw [List.any_eq_true.mpr ⟨en, List.mem_of_find?_eq_some he, List.find?_some he⟩]; rfl
    · split at hl3
      · cases hl3
      · rename_i z; rw [Bool.not_eq_true] at z; rw [z, Bool.and_false]
  rw [aRefKeyMayBeTheName_at, c]
  refine wpAny_updatePart D ?_
  refine wpAny_bind (wpAny_lookBehind D' (pastItsLine_dict (by rw [List.size_toArray, sizeLine_eq]; omega)) ?_)
  exact wpAny_pure (h _ U1 U2)
end
end SA10a

noncomputable abbrev iniD (P : Params) (i : Int) (tk ti : Tok) : Obj := dictOf [⟨PyData.keyHash P (Str.ofString "_initial_size"), .str (Str.ofString "_initial_size") tk, .int i ti⟩] 1
theorem ltN2 {a b : Nat} (h : a < b ∨ b < a) : a < b ∨ b < a := h
theorem setPick_all (vs items : Array Value) : setPick vs items none none = items := by
  unfold setPick
  simp [sliceBounds]
local macro_rules | `(tactic| walk_at "setAttr ref") => `(tactic| (k_here; k_dflt (refine' acc_setattr ?k1 ?k2 ?k3 ?k4 ?km ?k5 ?k6 ?k7 ?k8 ?k9 ?ka ?_; (case k1 => k_asm); (case k2 => k_asm); (case k3 => k_asm); (case k4 => walk_at "my get"); (case km => k_mem); (case k5 => k_is); (case k6 => k_is); (case k7 => k_get); (case k8 => k_put); (case k9 => k_upd); (case ka => exact Nat.le_of_ble_eq_true rfl); k_whole); intro h' F' N'; (try k_sweep)))
theorem reset {p : Program} {loose : List Str} {mean : ExcName → Option Value} {mg mb : Str → Option Value} {w : World} {dp un : Nat} {gd : Option (List Code)} {outer : List Env} {base H : Heap} {s : Shared} {R : Result → Shared → Prop}
    {x d l : Addr} {n kk : Nat} {vs items : Array Value} {i0 : Int} {tk ti : Tok}
    (C : Cx p loose mean mg mb w (aT dp un gd outer) base outer H) (st : H.StaysIn s.heap) (hd : dp + 4 < recursionLimit) (hu : un + 40 < cLine)
    (hl : s.heap.get? x = some (accO d vs n)) (hf : H.get? x = none) (hod : s.heap.get? d = some (iniD w.params i0 tk ti)) (hfd : H.get? d = none) (hdx : x < d ∨ d < x)
    (hr : s.heap.get? l = some (lstO items kk)) (hlx : l ≠ x) (hld : l ≠ d) (hsz : vs.size + items.size ≤ sizeLine) (hz : items.size ≤ sizeLine)
    (k : ∀ h' tk' n' ti', ExtL [x, d] s.heap h' → h'.get? x = some (accO d items n') → h'.get? d = some (iniD w.params 0 tk ti') → R (.ok (.ret .none)) { s with heap := h', toks := tk' }) :
    codeAny (model Challenge.rw_nb0220_01.row.prog w) (aT dp un gd outer) (.call (.ref 83) ⟨[.ref x, .ref l], []⟩) R s := by
  w_on
  have hled : ∀ q ∈ [(x, accO d vs n), (d, iniD w.params i0 tk ti)], s.heap.get? q.1 = some q.2 ∧ H.get? q.1 = none := by
    intro q hq
    cases hq with
    | head => exact ⟨hl, hf⟩
    | tail _ hq =>
      rw [List.mem_singleton.mp hq]
      exact ⟨hod, hfd⟩
  refine' enter (binds := [(Str.ofString "self", .ref x), (Str.ofString "startval", .ref l)]) C st hled ?k6 ?k7 ?k8 ?k9 ?kB ?_ ?c5 ?c2 ?c3 ?c4
  (((case k6 => k_is); (case k7 => k_is); (case k8 => exact Nat.lt_of_le_of_lt (Nat.le_add_right _ _) hd); (case k9 => exact kp_binds (Frag.In.keeps (Cx.X (by assumption)) (by assumption)) (fun _ => by kernel_rfl)); (case kB => exact locs rfl); (case c5 => decide); (case c2 => exact rfl); (case c3 => exact rfl); (case c4 => exact rfl)))
  intro g' L' h' F' N' B' X' T' G'
  have gl0 := G' _ _ hr (by simp [hlx, hld])
  have e1 := setPick_all vs items
  have lxd := ltN2 hdx
  have n1 := neN (Ne.symm hlx)
  (try dsimp only)
  (try k_fold)
  k_steps
  exact k _ _ _ _ (ext_of G' (by k_asm)) (News.get (by k_asm) (.head _)) (News.get (by k_asm) (.tail _ (.head _)))

section SA11
open PySem.Calls PySem.Builtin PySem.Builtin.ObjectAttr PySem.Builtin.Getset_descriptor
section
variable {prog : Program} {w : World} {A : Around} {R : Result → Shared → Prop} {h : Heap} {g : Array GenState} {d : Drawn} {t : Nat} {os : OsState}
theorem acc_cls {P : Params} : ∃ oc od cd sl, (k0.heap_1 P).lookup 101 = some ⟨oc, od, .cls cd, sl⟩ ∧ cd.mro = [.ref 101, .type "list", .type "object"] ∧ cd.hasDel = false ∧ (sl.toList[4]?).join = some (.builtin "list.__new__") ∧ cd.abstract = false := by
  refine ⟨_, _, _, _, rfl, ?_, ?_, ?_, ?_⟩ <;> rfl
theorem acc_madeBy {M : Model} (X : (k0.heap_1 w.params).In h) : Looks M h (Bind.madeBy (.ref 101)) (some "list.__new__") := by
  obtain ⟨oc, od, cd, sl, ho, hm, _, e3, _⟩ := acc_cls (P := w.params)
  have hc : clsIn (k0.heap_1 w.params) 101 = some cd := by unfold clsIn; rw [ho]
  have hmr : Looks M h (mroOf (.ref 101)) cd.mro := (looks_clsIn X hc).andThen .now
  intro A Q E s k q
  unfold Bind.madeBy
  refine wpAny_bind (hmr A _ E s k ?_)
  rw [hm, List.forIn_cons]
  refine wpAny_bind (wpAny_bind (wpAny_bind (wpAny_bind (wpAny_loadPart (k _ _ (X _ _ ho)) (wpAny_pure ?_)))))
  dsimp only
  rw [← Array.getElem?_toList, e3]
  exact wpAny_pure (wpAny_pure (wpAny_pure q))
theorem acc_base {M : Model} (X : (k0.heap_1 w.params).In h) : Looks M h (Bind.staticBase (.ref 101)) (.ref 101) := by
  obtain ⟨oc, od, cd, sl, ho, hm, _, e3, _⟩ := acc_cls (P := w.params)
  have hc : clsIn (k0.heap_1 w.params) 101 = some cd := by unfold clsIn; rw [ho]
  have hmr : Looks M h (mroOf (.ref 101)) cd.mro := (looks_clsIn X hc).andThen .now
  intro A Q E s k q
  unfold Bind.staticBase
  refine wpAny_bind (hmr A _ E s k ?_)
  rw [hm, List.forIn_cons]
  exact wpAny_bind (wpAny_bind (wpAny_bind (acc_madeBy X A _ E s k (wpAny_pure (wpAny_pure (wpAny_pure q))))))
noncomputable abbrev accNew (dx : Addr) : Obj := { cls := .ref 101, dict := some dx, data := .seq #[] }
theorem acc_new {a : Value} (X : (k0.heap_1 w.params).In h)
    (hq : R (.ok (.ret (.ref (h.objs.size + 1)))) ⟨(h.push emptyDict).push (accNew h.objs.size), g, d, t, os⟩) :
    codeAny (model prog w) A (.call (.builtin "list.__new__") ⟨[.ref 101, a], []⟩) R ⟨h, g, d, t, os⟩ := by
  obtain ⟨oc, od, cd, sl, ho, hm, hdel, e3, hab⟩ := acc_cls (P := w.params)
  have hC := X _ _ ho
  refine codeAny_of_tree ?_
  show wpAny _ A.in1 (do checkBuiltinCall "list.__new__" ⟨[.ref 101, a], []⟩; again (.builtin "list.__new__" ⟨[.ref 101, a], []⟩)) _ _ _
  have hk : builtinKind "list.__new__" = some .builtinFn := by decide +kernel
  have hsp : splitId "list.__new__" = some ("list", "__new__") := by decide +kernel
  obtain ⟨sig, hrow, args⟩ : ∃ sig, Manifest.signature? "list.__new__" = some sig ∧ Bind.checkArgs "list.__new__" sig ⟨[.ref 101, a], []⟩ = pure () := by
    have h0 : ((Manifest.signature? "list.__new__").bind fun sg => pureOf (Bind.checkArgs "list.__new__" sg ⟨[.ref 101, a], []⟩)) = some () := by kernel_rfl
    obtain ⟨sg, h1, h2⟩ := Option.bind_eq_some_iff.mp h0
    exact ⟨sg, h1, of_pureOf h2⟩
  have here : Looks (model prog w) h (Bind.madeHere "list.__new__" (.ref 101)) () := (acc_base X).andThen ((acc_madeBy X).andThen (Looks.of_pure (by simp only [Option.map_some, bne_self_eq_false, Bool.false_eq_true, if_false])))
  have sub : Looks (model prog w) h (isSubtype (.ref 101) (.type "list")) true := looks_mroIn X (by kernel_rfl)
  have made := acc_madeBy (M := model prog w) X
  have base := acc_base (M := model prog w) X
  refine wpAny_bind ?_
  simp only [checkBuiltinCall, hk, hsp, hrow]
  rw [args]
  repeat (first | simp only [bne_self_eq_false, Bool.false_eq_true, if_false] | lk)
  refine And.intro (plainId_quiet F.plain_list_new _) ?_
  refine codeAny_builtin_stack F.entry_list_new rfl fun p st => ?_
  rw [Around.under_plainId F.plain_list_new _]
  have hown := owner_list_new
  simp only [hown]
  repeat (first | simp only [Bool.not_true, Bool.false_eq_true, if_false] | lk)
  refine nd_load (Heap.get?_push_of_some _ (Heap.get?_push_of_some _ hC)) (wpAny_pure ?_)
  dsimp only
  rw [hdel]
  refine wpAny_pure (wpAny_pure (wpAny_pure ?_))
  show R _ _
  rw [Heap.size_push]
  exact hq
theorem acc_make {a : Value} (X : (k0.heap_1 w.params).In h)
    (hq : codeAny (model prog w) (A.under (.builtin "type.__call__" ⟨[.ref 101, a], []⟩)) (.call (.ref 38) ⟨[.ref (h.objs.size + 1), a], []⟩) (InitBack (h.objs.size + 1) R) ⟨(h.push emptyDict).push (accNew h.objs.size), g, d, t, os⟩) :
    codeAny (model prog w) A (.call (.ref 101) ⟨[a], []⟩) R ⟨h, g, d, t, os⟩ := by
  obtain ⟨oc, od, cd, sl, ho, hmro, hdel, e3, hab⟩ := acc_cls (P := w.params)
  have hC := X _ _ ho
  have made := acc_madeBy (M := model prog w) X
  have base := acc_base (M := model prog w) X
  have call : Looks (model prog w) h (specialOf (.ref 101) "__call__") (some (.builtin "type.__call__")) := looks_specialIn X (by kernel_rfl)
  have typ : Looks (model prog w) h (isInstance (.ref 101) (.type "type")) true := looks_instIn X (by kernel_rfl)
  have self : Looks (model prog w) h (isSubtype (.ref 101) (.ref 101)) true := looks_mroIn X (by kernel_rfl)
  have hi : Looks (model prog w) h (typeLookup (.ref 101) "__init__") (some (.ref 38)) := looks_findIn X (by kernel_rfl)
  refine codeAny_of_tree ?_
  show wpAny _ _ (callAny (.ref 101) _) _ _ _
  refine nd_load hC ?_
  show wpAny _ _ (callAny.viaDunder (.ref 101) _) _ _ _
  unfold callAny.viaDunder
  refine wpAny_bind (call.at ?_)
  dsimp only
  rw [tc_bind]
  refine wpAny_bind (wpAny_pure (wpAny_bind (wpAny_pure ?_)))
  refine wpAny_pure (a := Fin.again (.call (.builtin "type.__call__") ⟨[.ref 101, a], []⟩)) (And.intro rfl ?_)
  refine codeAny_call_builtin_at (Code.quiet_builtin _ (by decide +kernel)) entry_typeCall (check_slot tc_kind tc_split typ (tc_args _ _ _) ?_)
  unfold Builtin.«type.__call__»
  have hm : Looks (model prog w) h (mroOf (.ref 101)) cd.mro := ((Looks.ld (part := none) hC).andThen .now).andThen .now
  rw [hmro] at hm
  repeat (first | simp only [List.isEmpty_cons, Bool.false_eq_true, if_false] | with_reducible refine wpAny_call ?_ | lk)
  refine acc_new X ?_
  have k : ∀ b o, h.get? b = some o → ((h.push emptyDict).push (accNew h.objs.size)).get? b = some o := fun b o e => Heap.get?_push_of_some _ (Heap.get?_push_of_some _ e)
  have hx : ((h.push emptyDict).push (accNew h.objs.size)).get? (h.objs.size + 1) = some (accNew h.objs.size) := by heap_get
  have t1 : Looks (model prog w) ((h.push emptyDict).push (accNew h.objs.size)) (typeOf (.ref (h.objs.size + 1))) (.ref 101) := (Looks.ld hx).andThen .now
  have s1 := self.keeps k
  have i1 := hi.keeps k
  have b1 := (bind_fn (M := model prog w) X (f := 38) (.ref (h.objs.size + 1)) (by kernel_rfl)).keeps k
  unfold isInstance callSpecial? specialOf
  repeat (first | with_reducible refine wpAny_call ?_ | lk)
  refine codeAny_mono hq fun r s' z => ?_
  rcases r with e | (v | _ | _ | _) <;> first | exact z | exact z.elim | skip
  obtain ⟨rfl, z⟩ := z
  exact wpAny_pure (wpAny_pure z)
end
end SA11

local macro_rules | `(tactic| walk_at "call ref") => `(tactic| (k_here; k_dflt (refine' bound_init_K ?k1 ?k2 ?k4 ?k5 ?k6 ?_; (case k1 => k_asm); (case k2 => k_asm); (case k4 => k_mem); (case k5 => walk_at "my get"); (case k6 => k_upd); k_whole); intro h' F' N'; (try k_sweep)))
theorem init_acc {p : Program} {loose : List Str} {mean : ExcName → Option Value} {mg mb : Str → Option Value} {w : World} {dp un : Nat} {gd : Option (List Code)} {outer : List Env} {base H : Heap} {s : Shared} {R : Result → Shared → Prop}
    {x d : Addr} {n : Nat} {i : Int} {ti : Tok}
    (C : Cx p loose mean mg mb w (aT dp un gd outer) base outer H) (st : H.StaysIn s.heap) (hd : dp + 4 < recursionLimit) (hu : un + 40 < cLine)
    (hl : s.heap.get? x = some (accO d #[] n)) (hf : H.get? x = none) (hod : s.heap.get? d = some (dictOf [] 0)) (hfd : H.get? d = none) (hdx : x < d ∨ d < x)
    (k : ∀ h' tk' tk, ExtL [x, d] s.heap h' → h'.get? x = some (accO d #[] n) → h'.get? d = some (iniD w.params i tk ti) → R (.ok (.ret .none)) { s with heap := h', toks := tk' }) :
    codeAny (model Challenge.rw_nb0220_01.row.prog w) (aT dp un gd outer) (.call (.ref 38) ⟨[.ref x, .int i ti], []⟩) R s := by
  w_on
  have hled : ∀ q ∈ [(x, accO d #[] n), (d, dictOf [] 0)], s.heap.get? q.1 = some q.2 ∧ H.get? q.1 = none := by
    intro q hq
    cases hq with
    | head => exact ⟨hl, hf⟩
    | tail _ hq =>
      rw [List.mem_singleton.mp hq]
      exact ⟨hod, hfd⟩
  refine' enterAt (binds := [(Str.ofString "self", .ref x), (Str.ofString "initial_size", .int i ti)]) C st hled ?k6 ?k7 ?k8 ?k9 ?kB ?_ ?c5 ?c2 ?c3 ?c4
  (((case k6 => k_is); (case k7 => k_is); (case k8 => exact Nat.lt_of_le_of_lt (Nat.le_add_right _ _) hd); (case k9 => exact kp_binds (Frag.In.keeps (Cx.X (by assumption)) (by assumption)) (fun _ => by kernel_rfl)); (case kB => exact locs rfl); (case c5 => decide); (case c2 => exact rfl); (case c3 => exact rfl); (case c4 => exact rfl)))
  intro g' L' h' F' N' B' X' T' G' l1
  have lxd := ltN2 hdx
  (try dsimp only)
  (try k_fold)
  walk1; walk1; walk1; walk1; walk1; walk1
  refine ks_wpAt_execs_cons ?_
  refine ks_wpAt_Expr_any ?_
  refine ks_wpAt_MethodCall ?_
  k_steps

  exact k _ _ _ (ext_of G' (by k_asm)) (News.get (by k_asm) (by k_mem)) (News.get (by k_asm) (by k_mem))
theorem aT_create {dp un : Nat} {gd : Option (List Code)} {outer : List Env} {a : Value} : (aT dp un gd outer).under (.builtin "type.__call__" ⟨[.ref 101, a], []⟩) = aT (dp + 1) (un + Code.cUnits (.builtin "type.__call__" ⟨[.ref 101, a], []⟩)) gd outer := by
  cases gd <;> rfl
theorem cu_create {a : Value} : Code.cUnits (.builtin "type.__call__" ⟨[.ref 101, a], []⟩) ≤ 3 := by show (_ : Nat) ≤ 3; exact Nat.le_of_ble_eq_true rfl
theorem aT_same {dp un un' dp' : Nat} {gd : Option (List Code)} {outer : List Env} {base H : Heap} (B : Below (aT dp un gd outer) base outer H) : Below (aT dp' un' gd outer) base outer H := ⟨B.stack, B.stays, B.frames⟩

theorem acc_append_K {prog : Program} {w : World} {A : Around} {E : Value → Shared → Prop} {s : Shared} {x d : Addr} {vs : Array Value} {n : Nat} {h₀ : Heap} {L : Addr} {m : Str → Option Value} {news news' : List (Addr × Obj)} {v : Value} {Q : Value → Shared → Prop} (F : Fr h₀ L s.heap m) (N : News h₀ L s.heap news) (X : (k0.heap_1 w.params).In h₀)
    (U : Upd x (accO d vs n) (accO d (vs.push v) (n + 1)) news news') (h : ∀ h', Fr h₀ L h' m → News h₀ L h' news' → Q .none { s with heap := h' }) (hsz : vs.size ≤ sizeLine) :
    wpAny (model prog w) A (call (.builtin "list.append") [.ref x, v]) Q E s := by
  obtain ⟨pre, post, rfl, rfl, a, b⟩ := U.split
  have z := N (x, accO d vs n) (List.mem_append.mpr (.inr (.head _)))
  exact acc_append (X.keeps F.keep) z.1 (fun h' hs ho' => h h' (F.change hs z.2.1 z.2.2) (news_set N a b hs ho')) hsz
local macro_rules | `(tactic| walk_at "call builtin:list.append") => `(tactic| (k_here; k_dflt (refine' acc_append_K ?k1 ?k2 ?k3 ?k4 ?_ ?k5; (case k1 => k_asm); (case k2 => k_asm); (case k3 => k_asm); (case k4 => k_upd); (case k5 => assumption); k_whole); intro h' F' N'; (try k_sweep)))
theorem push {p : Program} {loose : List Str} {mean : ExcName → Option Value} {mg mb : Str → Option Value} {w : World} {dp un : Nat} {gd : Option (List Code)} {outer : List Env} {base H : Heap} {s : Shared} {R : Result → Shared → Prop}
    {x d : Addr} {n : Nat} {vs : Array Value} {od : Obj} {v1 v2 : Value}
    (C : Cx p loose mean mg mb w (aT dp un gd outer) base outer H) (st : H.StaysIn s.heap) (hd : dp + 2 < recursionLimit) (hu : un + 20 < cLine)
    (hl : s.heap.get? x = some (accO d vs n)) (hf : H.get? x = none) (hod : s.heap.get? d = some od) (hdx : d ≠ x) (hno : lookIn "append" od = some none) (hsz : vs.size ≤ sizeLine)
    (k : ∀ h' tk' t, ExtL [x] s.heap h' → s.heap.get? t = none → h'.get? t = some { cls := .type "tuple", data := .seq #[v1, v2] } → h'.get? x = some (accO d (vs.push (.ref t)) (n + 1)) → R (.ok (.ret .none)) { s with heap := h', toks := tk' }) :
    codeAny (model Challenge.rw_nb0220_01.row.prog w) (aT dp un gd outer) (.call (.ref 45) ⟨[.ref x, v1, v2], []⟩) R s := by
  w_on
  have hled : ∀ q ∈ [(x, accO d vs n)], s.heap.get? q.1 = some q.2 ∧ H.get? q.1 = none := by
    intro q hq
    rw [List.mem_singleton.mp hq]
    exact ⟨hl, hf⟩
  refine' enter (binds := [(Str.ofString "self", .ref x), (Str.ofString "fws", v1), (Str.ofString "string", v2)]) C st hled ?k6 ?k7 ?k8 ?k9 ?kB ?_ ?c5 ?c2 ?c3 ?c4
  (((case k6 => k_is); (case k7 => k_is); (case k8 => exact Nat.lt_of_le_of_lt (Nat.le_add_right _ _) hd); (case k9 => exact BindsTo.of_eq rfl); (case kB => exact locs rfl); (case c5 => decide); (case c2 => exact rfl); (case c3 => exact rfl); (case c4 => exact rfl)))
  intro g' L' h' F' N' B' X' T' G'
  have gd0 := G' _ _ hod (by simpa using hdx)
  (try dsimp only)
  (try k_fold)
  k_steps
  exact k _ _ _ (ext_of G' (by k_asm)) (fresh_of G' (by k_asm) (List.Mem.head _) (by simp only [List.map_cons, List.map_nil, List.mem_singleton]; exact neN (by omega))) (News.get (by k_asm) (by k_mem)) (News.get (by k_asm) (by k_mem))

end Mine
end SG

section SA14
namespace Mine
section
variable {prog : Program} {w : World} {A : Around} {E : Value → Shared → Prop} {s : Shared} {x d : Addr} {vs : Array Value} {n : Nat}
noncomputable def IsAcc (h : Heap) (x : Addr) (vs : Array Value) : Prop := ∃ d n, h.get? x = some (accO d vs n)
theorem IsAcc.at {h h' : Heap} {x : Addr} {vs : Array Value} (X : IsAcc h x vs) (hk : ∀ o, h.get? x = some o → h'.get? x = some o) : IsAcc h' x vs := let ⟨d, n, e⟩ := X; ⟨d, n, hk _ e⟩

theorem acc_iter {Q : Value → Shared → Prop} (X : (k0.heap_1 w.params).In s.heap) (hx : s.heap.get? x = some (accO d vs n))
    (hQ : Q (.ref s.heap.objs.size) { s with heap := s.heap.push { cls := .type "list_iterator", data := .fields #[.ref x, .int 0 0] } }) :
    wpAny (model prog w) A (pyIter (.ref x)) Q E s := by
  have hf : findIn (k0.heap_1 w.params) (.ref 101) "__iter__" = some (some (.builtin "list.__iter__")) := by kernel_rfl
  have sp : Looks (model prog w) s.heap (specialOf (.ref x) "__iter__") (some (.builtin "list.__iter__")) := (acc_type hx).andThen (looks_findIn X hf)
  unfold pyIter
  refine wpAny_bind (sp.here ?_)
  dsimp only
  simp only [callSpecialIfBoundUnlessNone?, bindSpecialIfBound?]
  refine wpAny_bind (wpAny_holding (wpAny_bind (wpAny_bind (sp.here ?_))))
  simp only [slot_list_iter.bind]
  refine wpAny_bind (wpAny_askSetting (wpAny_ite ?_))
  have fin : wpAny (model prog w) A (if (Value.builtin "list.__iter__" == Value.none) = true then ((do rule "iter.none"; raiseError "TypeError" s!"'{← typeNameOf (.ref x)}' object is not iterable") >>= fun v => pure (some v)) else (call (.builtin "list.__iter__") [.ref x] >>= fun v => pure (some v)))
      (fun it s' => wpAny (model prog w) A (match it with
        | some it => do
          match ← specialOf it "__next__" with
          | none => rule "iter.non-iterator"; raiseError "TypeError" s!"iter() returned non-iterator of type '{← typeNameOf it}'"
          | some _ => pure it
        | none => do
          match ← bindSpecialIfBound? (.ref x) "__getitem__" with
          | none => rule "iter.not-iterable"; raiseError "TypeError" s!"'{← typeNameOf (.ref x)}' object is not iterable"
          | some _ => rule "iter.getitem-fallback"; newFields "iterator" [.ref x, ← mkInt 0]) Q E s') E s := by
    simp only [builtin_beq_none, Bool.false_eq_true, if_false]
    refine wpAny_bind (acc_entry X hx (nm := "__iter__") (by decide +kernel) (by first | (left; decide +kernel) | (right; decide +kernel)) (by decide +kernel) entry_list_iter (args_list_iter _) ?_)
    show wpAny _ _ (do ret (← newFields "list_iterator" [.ref x, rawInt 0])) _ _ s
    refine wpAny_bind (wpAny_newObj_type (wpAny_pure ⟨_, rfl, wpAny_pure ?_⟩))
    exact wpAny_bind (wpAny_specialOf (T := "list_iterator") ⟨_, Heap.get?_push_size _ rfl, rfl⟩ slot_listiter_next.lookup (wpAny_pure hQ))
  split
  · exact wpAny_bind (wpAny_pure (wpAny_pure fin))
  · exact wpAny_tryCatch (wpAny_bind (wpAny_pure (wpAny_pure fin)))

theorem acc_next_item {it : Addr} {i : Nat} {v : Value} {Q : Option Value → Shared → Prop} (hit : s.heap.IsListIter it x i)
    (hl : IsAcc s.heap x vs) (hx : vs[i]? = some v)
    (hQ : ∀ h', h'.IsListIter it x (i + 1) → Heap.SameBut it s.heap h' → Q (some v) { s with heap := h' }) :
    wpAny (model prog w) A (pyNext (.ref it)) Q E s := by
  obtain ⟨o, ho, hc, hd⟩ := id hit
  obtain ⟨dd, nl, hol⟩ := hl
  unfold pyNext
  refine wpAny_bind (wpAny_attempt (wpAny_callSpecial?_slot (name := Str.ofString "__next__") hit.typeIs slot_listiter_next
    (wpAny_call_entry slot_listiter_next hit.typeIs entry_listiter_next ?_ (args_listiter_next _))))
  show wpAny _ _ (field (.ref it) 0 >>= _) _ _ s
  refine wpAny_bind (wpAny_field ho hd (x := .ref x) rfl ?_)
  show wpAny _ _ (if (Value.ref x == Value.none) = true then _ else _) _ _ s
  rw [if_neg (show ¬ ((Value.ref x == Value.none) = true) from Bool.false_ne_true)]
  show wpAny _ _ (field (.ref it) 1 >>= _) _ _ s
  refine wpAny_bind (wpAny_field ho hd (x := .int i 0) rfl ?_)
  show wpAny _ _ (seqItems? (.ref x) >>= _) _ _ s
  refine wpAny_bind (wpAny_seqItems hol rfl ?_)
  simp only [Int.toNat_natCast, hx]
  refine wpAny_bind (wpAny_setField ho hd (by simp) (wpAny_pure ⟨v, rfl, wpAny_pure (hQ _ ?_ (Heap.SameBut.update ..))⟩))
  exact ⟨_, Heap.get?_update_self _ ho (Obj.isFreed_of_fields (Obj.data_mapFields hd _)), (Obj.cls_mapFields ..).trans hc, by
    rw [Obj.data_mapFields hd]; simp [rawInt]⟩

theorem acc_next_end {it : Addr} {i : Nat} {Q : Option Value → Shared → Prop} (hh : A.handled = none)
    (hit : s.heap.IsListIter it x i) (hl : IsAcc s.heap x vs) (hx : vs[i]? = none)
    (hQ : ∀ h', Heap.ExtBut it s.heap h' → Q none { s with heap := h' }) : wpAny (model prog w) A (pyNext (.ref it)) Q E s := by
  obtain ⟨o, ho, hc, hd⟩ := id hit
  obtain ⟨dd, nl, hol⟩ := hl
  unfold pyNext
  refine wpAny_bind (wpAny_attempt (wpAny_callSpecial?_slot (name := Str.ofString "__next__") hit.typeIs slot_listiter_next
    (wpAny_call_entry slot_listiter_next hit.typeIs entry_listiter_next ?_ (args_listiter_next _))))
  show wpAny _ _ (field (.ref it) 0 >>= _) _ _ s
  refine wpAny_bind (wpAny_field ho hd (x := .ref x) rfl ?_)
  show wpAny _ _ (if (Value.ref x == Value.none) = true then _ else _) _ _ s
  rw [if_neg (show ¬ ((Value.ref x == Value.none) = true) from Bool.false_ne_true)]
  show wpAny _ _ (field (.ref it) 1 >>= _) _ _ s
  refine wpAny_bind (wpAny_field ho hd (x := .int i 0) rfl ?_)
  show wpAny _ _ (seqItems? (.ref x) >>= _) _ _ s
  refine wpAny_bind (wpAny_seqItems hol rfl ?_)
  simp only [Int.toNat_natCast, hx]
  refine wpAny_bind (wpAny_rule (wpAny_bind (wpAny_setField ho hd (by simp) ?_)))
  show wpAny _ _ (newExc (.type "StopIteration") [] >>= _) _ _ _
  refine wpAny_bind ?_
  simp only [newExc, newTuple]
  refine wpAny_bind (wpAny_newObj_type ?_ (by size_fits))
  refine wpAny_bind (m := firstArgMember _ _) (wpAny_of_eq (a := Value.none) (by first | rfl | (simp only [firstArgMember]; rfl)) ?_)
  refine wpAny_newObj_type ?_ (by size_fits)
  simp only [raiseNew]
  refine wpAny_bind (wpAny_handled ?_)
  rw [show A.in1.handled = none from hh]
  refine wpAny_bind (wpAny_pure (wpAny_throw ?_))
  refine wpAny_bind (wpAny_isInstance (T := "StopIteration") (b := true) ⟨_, Heap.get?_push_size _ rfl, rfl⟩ isSubtype_stop ?_)
  exact wpAny_pure (hQ _ (((Heap.SameBut.update ..).extBut.push _).push _))

theorem acc_walks (hh : A.handled = none) (I ax : Addr) (hne : ax ≠ I) (items : Array Value) (Ts : Nat → Addr) (vals : Nat → Array Value)
    (hit : ∀ j, j < items.size → items[j]? = some (.ref (Ts j))) (hTI : ∀ j, j < items.size → Ts j ≠ I) :
    WalksU prog w A I (I :: ax :: (List.range items.size).map Ts) [I] items.size (fun j v => v = vals j)
      (fun j h => h.IsListIter I ax j ∧ IsAcc h ax items ∧ ∀ k, k < items.size → h.IsTuple (Ts k) (vals k))
      (fun j T h => (j < items.size ∧ T = Ts j) ∧ h.IsListIter I ax (j + 1) ∧ IsAcc h ax items ∧ ∀ k, k < items.size → h.IsTuple (Ts k) (vals k)) where
  sub := fun b hb => by simp at hb; simp [hb]
  frame := fun _ _ _ st hk => ⟨st.1.at fun o e => hk I (by simp) o e, st.2.1.at fun o e => hk ax (by simp) o e,
    fun k hk' => (st.2.2 k hk').at fun o e => hk (Ts k) (List.mem_cons_of_mem _ (List.mem_cons_of_mem _ (List.mem_map.mpr ⟨k, List.mem_range.mpr hk', rfl⟩))) o e⟩
  item := fun i s Q E hi st hQ => by
    refine acc_next_item st.1 st.2.1 (v := .ref (Ts i)) (hit i hi) fun h' hit' hs' => ?_
    have tup : ∀ k, k < items.size → h'.IsTuple (Ts k) (vals k) := fun k hk' => (st.2.2 k hk').extBut hs'.extBut (hTI k hk')
    exact hQ (Ts i) (vals i) h' s.toks rfl (tup i hi) ⟨⟨hi, rfl⟩, hit', st.2.1.at fun o e => hs'.extBut _ o hne e, tup⟩ fun b o hb e => hs'.extBut b o (fun h => hb (by simp [h])) e
  go := fun _ _ _ _ _ s Q _ hm hQ => wpAny_letOwnedTupleGo_listiter hm.2.1 (hQ s.heap hm.2 fun _ _ _ e => e)
  apart := fun j T _ hm hmem => by
    rcases List.mem_cons.mp hmem with e | e
    · exact hTI j hm.1.1 (hm.1.2 ▸ e)
    · cases e
  done := fun s Q E st hQ => acc_next_end hh st.1 st.2.1 (by simp) fun h' he' => hQ h' s.toks fun b o hb e => he' b o (fun h => hb (by simp [h])) e
  self := fun _ _ _ _ st hQ => wpAny_pyIter_listiter st.1 hQ
end

section
variable {prog : Program} {w : World} {A : Around} {I : Addr} {fp wr : List Addr} {G : Array GenState → Array GenState → Prop} {n : Nat} {P : Nat → Value → Prop} {St : Nat → Shared → Prop}
theorem walksS_shift (W : WalksS prog w A I fp wr G n P St) : WalksS prog w A I fp wr G (n + 1) (fun j v => match j with | 0 => False | j + 1 => P j v) (fun j s => match j with | 0 => False | j + 1 => St j s) where
  sub := W.sub
  grefl := W.grefl
  gtrans := W.gtrans
  frame := fun i s h' tk st htk hk => by
    cases i with
    | zero => exact st.elim
    | succ i => exact W.frame i s h' tk st htk hk
  item := fun i s Q E hi st hQ => by
    cases i with
    | zero => exact st.elim
    | succ i => exact W.item i s Q E (Nat.lt_of_succ_lt_succ hi) st fun v s' p st' m => hQ v s' p st' m
  done := fun s Q E st hQ => W.done s Q E st hQ
  self := fun i s Q E st hQ => by
    cases i with
    | zero => exact st.elim
    | succ i => exact W.self i s Q E st hQ
theorem preSum_shift (a : Int) (val : Nat → Int) : ∀ n, preSum (fun j => match j with | 0 => a | j + 1 => val j) (n + 1) = a + preSum val n
  | 0 => by simp [preSum]
  | n + 1 => by rw [preSum, preSum_shift a val n, preSum]; show a + preSum val n + val n = _; omega
theorem args_sum2 (a b : Value) : argsOk "sum" ⟨[a, b], []⟩ := by unfold argsOk; kernel_rfl
theorem sum_start {E : Value → Shared → Prop} {s : Shared} {a : Int} {ta : Tok} {Q : Value → Shared → Prop}
    (W : WalksS prog w A.in1 I fp wr G n P St) (hst : St 0 s) (hfp : ∀ b ∈ fp, b < s.heap.objs.size) (val : Nat → Int) (hval : ∀ i v, P i v → ∃ t, v = .int (val i) t)
    (hQ : ∀ s' t', Moved wr G s s' → Q (.int (a + preSum val n) t') s') :
    wpAny (model prog w) A (call (.builtin "sum") [.ref I, .int a ta]) Q E s := by
  refine call_function_tree F.kind_sum F.plain_sum F.entry_sum (args_sum2 _ _) ?_
  unfold Builtin.«sum»
  simp only [List.length_cons, List.length_nil]
  rw [if_neg (by decide)]
  refine wpAny_bind (wpAny_of_eq (show Builtin.Builtins.bindParams "sum" ["start"] 0 ⟨[.int a ta], []⟩ = pure [some (.int a ta)] from rfl) ?_)
  refine wpAny_bind (W.self 0 _ _ _ hst ?_)
  have fin : ∀ (t0 : Tok) (tk : Nat) (st : Int), (st = 0 ∨ st = 2) → s.toks ≤ tk → wpAny (model prog w) A.in1 (again (.builtin "sum.loop" ⟨[.ref I, .ref s.heap.objs.size, rawInt st, rawInt 0], []⟩))
      (fun fin s' => match fin with | .done f => wants Q E (.ok f) s' | .again c' => c'.quiet = true ∧ codeAny (model prog w) A c' (wants Q E) s') (fun e s' => wants Q E (.error e) s') { s with heap := s.heap.push { cls := .type "list", data := .seq #[.int a t0] }, toks := tk } := by
    intro t0 tk st hst2 htk
    have hSf : s.heap.objs.size ∉ fp := fun hm => Nat.lt_irrefl _ (hfp _ hm)
    refine wpAny_pure ⟨plainId_quiet F.plain_sum_loop _, codeAny_sum_loopAnyS (walksS_shift W) (fun j => match j with | 0 => a | j + 1 => val j) (fun i v hv => ?_) s.heap.objs.size hSf n 1 _ t0 0 st hst2 (by omega) (by omega)
      (W.frame 0 s _ _ hst htk fun b _ o e => Heap.get?_push_of_some _ e) ?_ fun s' t' hm => ?_⟩
    · cases i with
      | zero => exact hv.elim
      | succ i => exact hval i v hv
    · rw [show preSum (fun j => match j with | 0 => a | j + 1 => val j) 1 = a by rw [preSum, preSum]; show 0 + a = a; omega]
      exact Heap.get?_push_size _ rfl
    · rw [preSum_shift]
      exact hQ s' t' (hm.drop_new htk)
  dsimp only
  split
  all_goals
    repeat (first | refine wpAny_pure ?_ | with_reducible refine wpAny_bind ?_ | with_reducible refine wpAny_rule ?_ | refine wpAny_mkInt ?_)
    refine wpAny_newObj_type ?_
  · exact fin _ _ 0 (.inl rfl) (Nat.le_succ _)
  · exact fin _ _ 2 (.inr rfl) (Nat.le_refl _)
end
end Mine
end SA14

section SA15
namespace Mine
structure Pc where
  a : Addr
  x : Str
  tx : Tok
  y : Str
  ty : Tok
noncomputable def Pc.obj (q : Pc) : Obj := { cls := .type "tuple", data := .seq #[.str q.x q.tx, .str q.y q.ty] }
noncomputable def PcIn (h : Heap) (qs : List Pc) : Prop := ∀ q ∈ qs, h.get? q.a = some q.obj
noncomputable def vals (qs : List Pc) : Array Value := (qs.map fun q => Value.ref q.a).toArray
noncomputable abbrev tblO (ps : Array Value) : Obj := { cls := .none, data := .fields ps }
noncomputable def TabOk (pos : Pos) (ps : Array Value) : Prop := ps = #[] ∨ ∃ c', ps = #[rawInt pos.line, rawInt pos.col, .ref c']
noncomputable def Gs (s s' : Shared) : Prop := (AllBare s.gens → AllBare s'.gens) ∧ s'.os = s.os
noncomputable def lenSum (qs : List Pc) : Int := (qs.map fun q => (q.x.length : Int) + q.y.length).sum


theorem Gs.refl (s : Shared) : Gs s s := ⟨id, rfl⟩
theorem Gs.trans {s s' s'' : Shared} (x : Gs s s') (y : Gs s' s'') : Gs s s'' := ⟨fun h => y.1 (x.1 h), y.2.trans x.2⟩
theorem PcIn.keep {h h' : Heap} {qs : List Pc} (x : PcIn h qs) (hk : ∀ b o, h.get? b = some o → h'.get? b = some o) : PcIn h' qs := fun q hq => hk _ _ (x q hq)
theorem vals_size (qs : List Pc) : (vals qs).size = qs.length := by simp [vals]
theorem tabOk_hit {pos : Pos} {c' : Addr} : codeAmong pos (#[rawInt pos.line, rawInt pos.col, .ref c'] : Array Value).toList = some (.ref c') := by
  simp [codeAmong, rawInt]

/-- a generator that stands ready, all of whose own writes lie at Kb or above -/
inductive GenR (prog : Program) (w : World) (A : Around) (Kb a : Addr) (n : Nat) (F : Nat → Value → Prop) (s : Shared) : Prop
  | mk (fp wr : List Addr) (g : Nat) (St : Nat → Shared → Prop) (_ : WalksS prog w A.in4 a fp wr (GenOnlyQ g) n F St)
      (_ : St 0 s)
      (_ : (∀ i s', St i s' → s'.TypeIs (.ref a) "generator"))
      (_ : a ∈ fp)
      (_ : (∀ b ∈ fp, b < s.heap.objs.size))
      (_ : ∀ b ∈ wr, Kb ≤ b) : GenR prog w A Kb a n F s

section
variable {prog : Program} {w : World} {A : Around} {E : Value → Shared → Prop} {s : Shared} {h₀ : Heap} {c P L : Addr} {ps : Array Value} {m mg mb : Str → Option Value} {p : Program} {loose : List Str} {mean : ExcName → Option Value}
theorem gen_acc {env : Env} {elt iter : Expr} {xa xb : Str} {pa pb pt : Pos} {kt : Nat} {scope : Scope} {pos : Pos} {Q : Value → Shared → Prop} {x d : Addr} {n : Nat} {qs : List Pc} {Fv : Pc → Value → Prop}
    (hh : A.handled = none) (F₀ : Fr h₀ L s.heap m) (N₀ : News h₀ L s.heap [(P, tblO ps)]) (X : (k0.heap_1 w.params).In h₀) (T : Top p loose mean mg mb h₀)
    (hcode : env.code = .ref c) (hgl : env.globals = mainGlobals) (hic : ∀ (h : Heap) ps, (k0.heap_1 w.params).In h → h.get? P = some (tblO ps) → TriplesOk ps.toList → h.IsCode c P ps ∧ h.TableAt c P ps) (hps : TabOk pos ps)
    (hx : h₀.get? x = some (accO d (vals qs) n)) (hq : PcIn h₀ qs)
    (hco : scope.isCoroutine = false) (hclos : closureFor scope env = pure []) (hcell : ∀ y ∈ scope.names, y.2 ≠ .cell) (hdot : scope.names.lookup (".0" : Str) = some NameKind.local)
    (hxa : scope.names.lookup xa = some .local) (hxb : scope.names.lookup xb = some .local) (hab : xa ≠ xb) (hkind : scope.kind = .function) (hroom : A.depth < recursionLimit)
    (hit : wpAny (model prog w) A (eval iter env) (fun v s' => v = .ref x ∧ s' = s) E s) (hs : ∀ x, genFold iter env x = pure x)
    (helt : ∀ (code : Value) (C : Addr) (A' : Around) E' (q : Pc) (u : Shared) m₂, A'.handled = none → A'.depth ≤ A.depth + 1 → A'.units ≤ A.units + 8 → q ∈ qs → Fr h₀ C u.heap m₂ → m₂ xa = some (.str q.x q.tx) → m₂ xb = some (.str q.y q.ty) →
      wpAny (model prog w) A' (eval elt (genEnv scope [] C code builtinsNs env)) (fun y s₃ => Fv q y ∧ Keeps u s₃) E' u)
    (h : ∀ a ps' s₅, TabOk pos ps' → Fr h₀ L s₅.heap m → News h₀ L s₅.heap [(P, tblO ps')] → Gs s s₅ → s.heap.objs.size ≤ a → GenR prog w A s.heap.objs.size a qs.length (fun j y => ∃ q, qs[j]? = some q ∧ Fv q y) s₅ → Q (.ref a) s₅) :
    wpAny (model prog w) A (eval (.GeneratorExp elt [⟨.Tuple [.Name xa pa, .Name xb pb] kt pt, iter, [], 0⟩] scope pos) env) Q E s := by
  refine wpAny_GeneratorExp_walksQTD hh hco hclos hcell hdot hxa hxb hab hkind hroom (wpAny_mono hit (fun xv s₁ h₁' => ?_) fun _ _ e => e) hs
  obtain ⟨rfl, rfl⟩ := h₁'
  refine acc_iter (X.keeps F₀.keep) (F₀.keep _ _ hx) ?_
  have hPs : s₁.heap.get? P = some (tblO ps) := (N₀ _ (.head _)).1
  have hPL : P ≠ L := (N₀ _ (.head _)).2.1
  have hP0 : h₀.get? P = none := (N₀ _ (.head _)).2.2
  generalize hs₂ : ({ s₁ with heap := s₁.heap.push { cls := .type "list_iterator", data := .fields #[.ref x, .int 0 0] } } : Shared) = s₂
  have hk₂ : ∀ b o, s₁.heap.get? b = some o → s₂.heap.get? b = some o := fun b o e => by rw [← hs₂]; exact Heap.get?_push_of_some _ e
  have hz₂ : s₂.heap.objs.size = s₁.heap.objs.size + 1 := by rw [← hs₂]; exact Heap.size_push ..
  have hI₂ : s₂.heap.IsListIter s₁.heap.objs.size x 0 := by rw [← hs₂]; exact ⟨_, Heap.get?_push_size _ rfl, rfl, rfl⟩
  have g₂ : s₂.gens = s₁.gens ∧ s₂.os = s₁.os := by rw [← hs₂]; exact ⟨rfl, rfl⟩
  have F₂ : Fr h₀ L s₂.heap m := F₀.keeps hk₂
  have hPI : P ≠ s₁.heap.objs.size := Nat.ne_of_lt (Heap.lt_size hPs)
  refine ⟨T.nolimit.keeps F₂.keep, ?_⟩
  have main : ∀ (code : Value) (h₃ : Heap) (tk₃ : Nat) (ps' : Array Value), TabOk pos ps' → Heap.ExtBut P s₂.heap h₃ → s₂.heap.objs.size ≤ h₃.objs.size → h₃.get? P = some (tblO ps') →
      wpAny (model prog w) A (builtinsFor env.globals env.builtins) (fun bi s₄ =>
        ∃ I fp wr n₀ Pt St₀ Mid pz F, Value.ref s₁.heap.objs.size = .ref I ∧ (∀ A' : Around, A'.handled = none → WalksU prog w A' I fp wr n₀ Pt St₀ Mid) ∧ (∀ i vals, Pt i vals → ∃ va vb, vals = #[va, vb]) ∧ St₀ 0 s₄.heap ∧ (∀ b ∈ fp, b < s₄.heap.objs.size) ∧ s₄.heap.NoLimit ∧ cStatics ∉ wr ∧
          (∀ href : Heap, (∀ b o, s₄.heap.get? b = some o → href.get? b = some o) →
            QuietGenTD prog w (genEnv scope [] s₄.heap.objs.size code bi env) xa xb [] elt (List.range s₄.heap.objs.size) wr Pt pz F href (A.depth + 1) (A.units + 8)) ∧
          (∀ a h₅ tk gs, gs.bare = true → s₄.heap.objs.size < a → h₅.objs.size = a + 1 → (∀ b o, s₄.heap.get? b = some o → h₅.get? b = some o) →
            WalksS prog w A.in4 a (a :: s₄.heap.objs.size :: List.range s₄.heap.objs.size) (s₄.heap.objs.size :: wr) (GenOnlyQ s₄.gens.size) (passing pz n₀ 0).length
              (fun j y => ∃ i, (passing pz n₀ 0)[j]? = some i ∧ F i y) (GenAt prog w A.in4 a s₄.gens.size s₄.heap.objs.size (List.range s₄.heap.objs.size) wr pz n₀ F) →
            GenAt prog w A.in4 a s₄.gens.size s₄.heap.objs.size (List.range s₄.heap.objs.size) wr pz n₀ F 0 { s₄ with gens := s₄.gens.push gs, toks := tk, heap := h₅ } →
            Q (.ref a) { s₄ with gens := s₄.gens.push gs, toks := tk, heap := h₅ })) E { s₂ with heap := h₃, toks := tk₃ } := by
    intro code h₃ tk₃ ps' hps' hx₃ hsz hP₃
    have F₃ : Fr h₀ L h₃ m := by
      obtain ⟨o, es, ep, ho, r⟩ := F₂.ns
      exact ⟨⟨o, es, ep, hx₃ _ _ (Ne.symm hPL) ho, r⟩, fun b o e => hx₃ b o (fun q => by rw [q, hP0] at e; cases e) (F₂.keep b o e), F₂.above⟩
    obtain ⟨bm, ob, e1, e2, e3, e4, e5, e6⟩ := T.bmain
    refine wpAny_builtinsFor (m := mg) (by rw [hgl]; exact T.g.keeps F₃.keep) e1 e2 (F₃.keep _ _ e3) e4 e5 e6 ?_
    have hLlt : L < s₁.heap.objs.size := F₀.ns.lt
    refine ex9 _ _ _ _ _ _ _ (fun _ => true) (fun j y => ∃ q, qs[j]? = some q ∧ Fv q y) ⟨rfl, (fun A' hA => (acc_walks hA s₁.heap.objs.size x (Nat.ne_of_lt (Heap.lt_size (F₀.keep _ _ hx))) (vals qs) (fun j => (qs[j]?.map (·.a)).getD 0)
        (fun j => (qs[j]?.map fun q => #[Value.str q.x q.tx, Value.str q.y q.ty]).getD #[.none, .none]) ?_ ?_).bound), ?_, ?_, ?_, ?_, ?_, ?_, ?_⟩
    · intro j hj
      rw [vals_size] at hj
      simp [vals, List.getElem?_eq_getElem hj]
    · intro j hj
      rw [vals_size] at hj
      simp only [List.getElem?_eq_getElem hj, Option.map_some, Option.getD_some]
      exact Nat.ne_of_lt (Heap.lt_size (F₀.keep _ _ (hq _ (List.getElem_mem hj))))
    · intro i vs hv
      rw [hv.2]
      cases qs[i]? with
      | none => exact ⟨_, _, rfl⟩
      | some q => exact ⟨_, _, rfl⟩
    · refine ⟨hI₂.extBut hx₃ (Ne.symm hPI), ⟨_, _, F₃.keep _ _ hx⟩, fun k hk => ?_⟩
      rw [vals_size] at hk
      simp only [List.getElem?_eq_getElem hk, Option.map_some, Option.getD_some]
      exact ⟨_, F₃.keep _ _ (hq _ (List.getElem_mem hk)), rfl, _, rfl⟩
    · intro b hb
      refine Nat.lt_of_lt_of_le (m := s₂.heap.objs.size) ?_ hsz
      rw [hz₂]
      rcases List.mem_cons.mp hb with rfl | hb
      · exact Nat.lt_succ_self _
      · rcases List.mem_cons.mp hb with rfl | hb
        · exact Nat.lt_succ_of_lt (Heap.lt_size (F₀.keep _ _ hx))
        · obtain ⟨k, hk, rfl⟩ := List.mem_map.mp hb
          have hk' := List.mem_range.mp hk
          rw [vals_size] at hk'
          simp only [List.getElem?_eq_getElem hk', Option.map_some, Option.getD_some]
          exact Nat.lt_succ_of_lt (Heap.lt_size (F₀.keep _ _ (hq _ (List.getElem_mem hk'))))
    · exact T.nolimit.keeps F₃.keep
    · intro hm
      have e : cStatics = s₁.heap.objs.size := List.mem_singleton.mp hm
      obtain ⟨_, hns, _⟩ := T.nolimit
      exact Nat.lt_irrefl _ (Nat.lt_of_lt_of_le (e ▸ hns.lt) (Nat.le_trans F₀.above (Nat.le_of_lt hLlt)))
    · intro href hhref
      have inB : ∀ (t : Shared) m₂, t.heap.Ns h₃.objs.size m₂ → (∀ b ∈ List.range h₃.objs.size, b ∉ [s₁.heap.objs.size] → ∀ o, href.get? b = some o → t.heap.get? b = some o) → Fr h₀ h₃.objs.size t.heap m₂ := fun t m₂ hn hkp =>
        ⟨hn, fun b o e => hkp b (List.mem_range.mpr (Heap.lt_size (F₃.keep b o e))) (fun hm => by
          have e' : b = s₁.heap.objs.size := List.mem_singleton.mp hm
          exact Nat.lt_irrefl _ (Nat.lt_of_lt_of_le (e' ▸ Heap.lt_size e) (Nat.le_trans F₀.above (Nat.le_of_lt hLlt)))) o (hhref b o (F₃.keep b o e)), Nat.le_trans F₃.above (Nat.le_of_lt F₃.ns.lt)⟩
      refine ⟨fun A' E' i va vb t m₂ hA hD hU hP hn hma hmb hkp => wpAny_pure ⟨rfl, t.heap, t.toks, rfl, fun _ _ e => e⟩, fun A' E' i va vb t m₂ hA hD hU hP hp hn hma hmb hkp => ?_⟩
      cases hqi : qs[i]? with
      | none =>
        have := hP.1
        rw [vals_size] at this
        rw [List.getElem?_eq_getElem this] at hqi; cases hqi
      | some q =>
        have hP' : #[va, vb] = #[Value.str q.x q.tx, Value.str q.y q.ty] := by have hP2 := hP.2; rw [hqi] at hP2; exact hP2
        have e1 : va = .str q.x q.tx := by have := congrArg (fun z : Array Value => z[0]?) hP'; simpa using this
        have e2 : vb = .str q.y q.ty := by have := congrArg (fun z : Array Value => z[1]?) hP'; simpa using this
        subst e1 e2
        exact wpAny_mono (helt code _ A' E' q t m₂ hA hD hU (List.mem_of_getElem? hqi) (inB t m₂ hn hkp) hma hmb) (fun y s₃ r => ⟨⟨q, rfl, r.1⟩, r.2⟩) fun _ _ e => e
    · intro a h₅ tk gs hgb hag hsz₅ hk₅ W hat
      have hpass : passing (fun _ => true) (vals qs).size 0 = List.range qs.length := by rw [vals_size]; simp [passing]
      rw [hpass] at W
      have W' := W.imp (P' := fun j y => ∃ q, qs[j]? = some q ∧ Fv q y) (fun j v hv => by
        obtain ⟨i, hi, r⟩ := hv
        have : i = j := by
          obtain ⟨hlt, hv⟩ := List.getElem?_eq_some_iff.mp hi
          rw [List.getElem_range] at hv
          exact hv.symm
        rw [← this]; exact r)
      rw [List.length_range] at W'
      refine h a ps' _ hps' (F₃.keeps hk₅) ?_ ⟨?_, g₂.2⟩ ?_ ⟨_, _, _, _, W', hat, (fun i s' st => st.1.typeIs), List.mem_cons_self, ?_, ?_⟩
      · intro q' hq'
        rw [List.mem_singleton.mp hq']
        exact ⟨hk₅ _ _ hP₃, hPL, hP0⟩
      · intro ab
        show AllBare (s₂.gens.push gs)
        rw [g₂.1]; exact ab.push hgb
      · have hag' : h₃.objs.size < a := hag
        show s₁.heap.objs.size ≤ a
        exact Nat.le_of_lt (Nat.lt_of_le_of_lt (Nat.le_trans (Nat.le_succ _) (by rw [hz₂] at hsz; exact hsz)) hag')
      · intro b hb
        show b < h₅.objs.size
        rw [hsz₅]
        rcases List.mem_cons.mp hb with rfl | hb
        · exact Nat.lt_succ_self _
        · rcases List.mem_cons.mp hb with rfl | hb
          · exact Nat.lt_succ_of_lt hag
          · exact Nat.lt_succ_of_lt (Nat.lt_trans (List.mem_range.mp hb) hag)
      · intro b hb
        rcases List.mem_cons.mp hb with rfl | hb
        · show s₁.heap.objs.size ≤ h₃.objs.size
          exact Nat.le_trans (Nat.le_succ _) (by rw [hz₂] at hsz; exact hsz)
        · rw [List.mem_singleton.mp hb]; exact Nat.le_refl _
  rcases hps with rfl | ⟨c', rfl⟩
  · obtain ⟨hok, htab⟩ := hic s₂.heap #[] (X.keeps F₂.keep) (hk₂ _ _ hPs) trivial
    refine wpAny_genexprCodeX hcode hok htab rfl fun c' h₃ tk₃ hx₃ hge hlt hcode₃ _ htab₃ _ => ?_
    exact main (.ref c') h₃ tk₃ _ (.inr ⟨c', rfl⟩) hx₃ (Nat.le_trans hge (Nat.le_of_lt hlt)) htab₃.2
  · obtain ⟨hok, htab⟩ := hic s₂.heap _ (X.keeps F₂.keep) (hk₂ _ _ hPs) (by trivial)
    exact wpAny_genexprCode_hit hcode hok tabOk_hit (main (.ref c') s₂.heap s₂.toks _ (.inr ⟨c', rfl⟩) (fun b o _ e => e) (Nat.le_refl _) (hk₂ _ _ hPs))
end

end Mine
end SA15

section SA16
namespace Mine
section
variable {prog : Program} {w : World} {A : Around} {E : Value → Shared → Prop} {s : Shared} {x d : Addr} {vs : Array Value} {n : Nat}
theorem acc_get {expr : Bool} {Q : Value → Shared → Prop} {i : Int} {tk ti : Tok} (X : (k0.heap_1 w.params).In s.heap) (hx : s.heap.get? x = some (accO d vs n)) (hd : s.heap.get? d = some (iniD w.params i tk ti))
    (h : Q (.int i ti) { s with toks := s.toks + 1 }) : wpAny (model prog w) A (getAttr (.ref x) "_initial_size" expr) Q E s := by
  have I : InstAt s.heap x (accO d vs n) 101 (some (iniD w.params i tk ti)) := inst_acc hx hd
  have L1 : Looks (model prog w) s.heap (typeLookup (.ref 101) "__getattribute__") (some (.builtin "list.__getattribute__")) := looks_findIn X acc_ga
  have L2 : Looks (model prog w) s.heap (typeLookup (.ref 101) "__getattr__") none := looks_findIn X acc_gt
  have hfo : findObj (k0.heap_1 w.params) 101 (some (iniD w.params i tk ti)) "_initial_size" = some (.value (.int i ti)) := by kernel_rfl
  have L3 : Looks (model prog w) s.heap (Builtin.ObjectAttr.find (.ref x) (.ref 101) "_initial_size") (.value (.int i ti)) := looks_find X I hfo
  have L0 := I.type (M := model prog w)
  obtain ⟨hh, g, dr, t, os⟩ := s
  unfold getAttr getAttrBy
  refine wpAny_bind (wpAny_mkText (wpAny_holding (wpAny_bind (L0.at (wpAny_bind (L1.at ?_))))))
  show wpAny _ _ (getAttrByItsOwn _ _ _ _ _ _) _ _ _
  unfold getAttrByItsOwn
  refine wpAny_bind (L2.at ?_)
  refine wpAny_bind (wpAny_attempt (wpAny_holding ?_))
  have e : callGetattribute (.ref x) (.str "_initial_size" t) (.builtin "list.__getattribute__") expr = boundAndCalled (.builtin "list.__getattribute__") (.ref x) (.str "_initial_size" t) := by
    unfold callGetattribute
    rw [show onTheHeap (.builtin "list.__getattribute__") = false from rfl, Bool.and_false, if_neg (by decide)]
  rw [e]
  unfold boundAndCalled
  rw [F.slot_list_getattribute.bind]
  refine wpAny_bind (wpAny_pure ?_)
  refine acc_entry X hx (nm := "__getattribute__") (by decide +kernel) (by first | (left; decide +kernel) | (right; decide +kernel)) (by decide +kernel) am_entry_list_getattribute (F.args_list_getattribute_2 _ _) ?_
  unfold Builtin.«object.__getattribute__»
  refine wpAny_bind (wpAny_pure (wpAny_bind (wpAny_pure (wpAny_bind (L0.at (wpAny_bind (L3.at ?_)))))))
  exact wpAny_pure ⟨_, rfl, wpAny_pure h⟩
end
end Mine
end SA16

section SM0
namespace Mine
theorem join_nil_sep : ∀ ts : List Str, (Str.join "" ts).cps.toList = (ts.map fun t => t.cps.toList).flatten
  | [] => rfl
  | [x] => by simp [Str.join]
  | x :: y :: r => by
    have ih := join_nil_sep (y :: r)
    show (x ++ "" ++ Str.join "" (y :: r)).cps.toList = _
    have e : ∀ a b : Str, (a ++ b).cps = a.cps ++ b.cps := fun _ _ => rfl
    have e0 : (Str.ofString "").cps.toList = [] := rfl
    rw [e, e, Array.toList_append, Array.toList_append, ih, e0]
    simp
theorem cps_join (ts : List Str) : (Txt.join "" ts).cps.toList = (ts.map fun t => t.cps.toList).flatten := by
  unfold Txt.join
  rw [PySem.StrLaws.glued_eq_join]
  exact join_nil_sep ts
theorem len_cps (x : Str) : x.length = x.cps.toList.length := by simp [Str.length]
theorem str_ext {x y : Str} (h : x.cps.toList = y.cps.toList) : x = y := by
  cases x; cases y; simp at h; subst h; rfl
end Mine
end SM0

section SA17
namespace Mine
theorem notTbl {h : Heap} {x P : Addr} {o : Obj} {ps : Array Value} (hx : h.get? x = some o) (hP : h.get? P = some (tblO ps)) (hc : o.cls ≠ .none) : x ∉ List.map (fun x => x.fst) [(P, tblO ps)] := by
  intro hm
  have e : x = P := by simpa using hm
  rw [e, hP] at hx
  cases hx
  exact hc rfl
inductive CodeAt (K : Frag) (f P : Addr) : Prop
  | mk (o : Obj) (vs : Array Value) (file : Str) (tf : Tok) (flags : Int) (tg : Tok) (inF : Bool) (text : Int) (tt : Tok) (_ : K.lookup f = some o) (_ : o.data = .fields vs) (_ : vs.getD 11 .none = .ref P) (_ : vs.getD 18 .none = .str file tf)
      (_ : vs.getD 7 .none = .int flags tg) (_ : vs.getD 9 .none = .bool inF) (_ : vs.getD 10 .none = .int text tt) (_ : o.cls = .type "code") (_ : vs[11]? = some (.ref P)) : CodeAt K f P
theorem code_of {K : Frag} {f P : Addr} (c : CodeAt K f P) (h : Heap) (ps : Array Value) (X : K.In h) (hP : h.get? P = some (tblO ps)) (ht : TriplesOk ps.toList) (hne : f ≠ P) : h.IsCode f P ps ∧ h.TableAt f P ps := by
  obtain ⟨o, vs, file, tf, flags, tg, inF, text, tt, ho, hd, h11, h2, h7, h9, h10, hc, h11'⟩ := c
  exact ⟨⟨o, vs, file, tf, flags, tg, inF, text, tt, _, X _ _ ho, hd, h11, h2, h7, h9, h10, hP, rfl, ht, hne⟩, ⟨⟨o, vs, X _ _ ho, hc, hd, h11'⟩, hP⟩⟩
theorem code_len {w : World} (h : Heap) (ps : Array Value) (X : (k0.heap_1 w.params).In h) (hP : h.get? 63 = some (tblO ps)) (ht : TriplesOk ps.toList) : h.IsCode 67 63 ps ∧ h.TableAt 67 63 ps :=
  code_of ⟨_, _, _, _, _, _, _, _, _, rfl, rfl, rfl, rfl, rfl, rfl, rfl, rfl, rfl⟩ h ps X hP ht (by decide)
theorem code_str {w : World} (h : Heap) (ps : Array Value) (X : (k0.heap_1 w.params).In h) (hP : h.get? 70 = some (tblO ps)) (ht : TriplesOk ps.toList) : h.IsCode 74 70 ps ∧ h.TableAt 74 70 ps :=
  code_of ⟨_, _, _, _, _, _, _, _, _, rfl, rfl, rfl, rfl, rfl, rfl, rfl, rfl, rfl⟩ h ps X hP ht (by decide)

section
variable {M : Model} {A : Around} {E : Value → Shared → Prop} {s : Shared} {K : Frag} {h₀ : Heap} {L : Addr} {m mg mb : Str → Option Value} {p : Program} {loose : List Str} {mean : ExcName → Option Value} {x : Str} {v : Value} {pos : Pos} {Q : Value → Shared → Prop} {scope : Scope} {cl : List (Str × Addr)} {C : Addr} {code : Value} {env : Env}
theorem nameG_B (F : Fr h₀ C s.heap m) (X : K.In h₀) (T : Top p loose mean mg mb h₀) (e : nsIn K mainGlobals x = some none) (hv : bootBuiltins x = some v) (hn : x ≠ "__name__") (h : Q v s)
    (hk : scope.kind = .function) (hg : env.globals = mainGlobals) (hx : scope.names.lookup x = some .globalImplicit) (hd : (x == ("__debug__" : Str)) = false) :
    wpAny M A (eval (.Name x pos) (genEnv scope cl C code builtinsNs env)) Q E s :=
  Name_function_global hk hx (loadGlobal_builtin (env := genEnv scope cl C code builtinsNs env) (show s.heap.Ns env.globals mg from hg ▸ T.g.keeps F.keep) (mg_none_of X T.g e) (T.b.keeps F.keep) ((T.builtins x hn).trans hv) h) hd
theorem nameG_K (F : Fr h₀ C s.heap m) (X : K.In h₀) (T : Top p loose mean mg mb h₀) (e : nsIn K mainGlobals x = some (some v)) (h : Q v s)
    (hk : scope.kind = .function) (hg : env.globals = mainGlobals) (hx : scope.names.lookup x = some .globalImplicit) (hd : (x == ("__debug__" : Str)) = false) :
    wpAny M A (eval (.Name x pos) (genEnv scope cl C code builtinsNs env)) Q E s :=
  Name_function_global hk hx (loadGlobal_global (env := genEnv scope cl C code builtinsNs env) (show s.heap.Ns env.globals mg from hg ▸ T.g.keeps F.keep) (mg_of X T.g e) h) hd
theorem nameG_L (F : Fr h₀ C s.heap m) (hv : m x = some v) (h : Q v s) (hk : scope.kind = .function) (hx : scope.names.lookup x = some .local) (hd : (x == ("__debug__" : Str)) = false) :
    wpAny M A (eval (.Name x pos) (genEnv scope cl C code builtinsNs env)) Q E s := wpAny_Name (wpAny_loadName_local hk hx F.ns hv h) hd
end
local macro_rules | `(tactic| walk_at "eval Name") => `(tactic| ((with_reducible refine inGen ?_); (first
  | (refine' nameG_L ?F ?v ?_ ?a ?b ?c; (case F => k_asm); (case a => rfl); (case b => rfl); (case c => decide); (case v => assumption))
  | (refine' nameG_K ?F ?X ?T ?e ?_ ?a ?g ?b ?c; (case F => k_asm); (case X => k_asm); (case T => assumption); (case a => rfl); (case g => rfl); (case b => rfl); (case c => decide); (case e => k_is))
  | (refine' nameG_B ?F ?X ?T ?e ?v ?n ?_ ?a ?g ?b ?c; (case F => k_asm); (case X => k_asm); (case T => assumption); (case a => rfl); (case g => rfl); (case b => rfl); (case c => decide); (case e => k_is); (case v => boot_fast); (case n => decide)))))

noncomputable abbrev scLen : Scope := { kind := ScopeKind.function, names := [(Str.ofString ".0", NameKind.local), (Str.ofString "fws", NameKind.local), (Str.ofString "part", NameKind.local), (Str.ofString "len", NameKind.globalImplicit)], isGenerator := true, isCoroutine := false }
theorem elt_len {prog : Program} {w : World} {A : Around} {E : Value → Shared → Prop} {h₀ : Heap} {m mg mb : Str → Option Value} {p : Program} {loose : List Str} {mean : ExcName → Option Value} {C : Addr} {code : Value} {env : Env} {u : Shared} {x y : Str} {tx ty : Tok} {p1 p2 p3 p4 p5 p6 p7 : Pos}
    (F : Fr h₀ C u.heap m) (X : (k0.heap_1 w.params).In h₀) (T : Top p loose mean mg mb h₀) (hg : env.globals = mainGlobals) (hx : x.length ≤ 1) (hy : y.length ≤ 1) (e1 : m (Str.ofString "fws") = some (.str x tx)) (e2 : m (Str.ofString "part") = some (.str y ty)) :
    wpAny (model prog w) A (eval ((((Expr.Name (Str.ofString "len") p1).Call [Expr.Name (Str.ofString "fws") p2] [] p3).BinOp Operator.Add ((Expr.Name (Str.ofString "len") p4).Call [Expr.Name (Str.ofString "part") p5] [] p6) p7)) (genEnv scLen [] C code builtinsNs env))
      (fun v s₃ => (∃ t, v = .int ((x.length : Int) + y.length) t) ∧ Keeps u s₃) E u := by
  have bl : ∀ (pos : Pos) (s : Shared) (Q : Value → Shared → Prop), Fr h₀ C s.heap m → Q (.builtin "len") s → wpAny (model prog w) A (eval (.Name (Str.ofString "len") pos) (genEnv scLen [] C code builtinsNs env)) Q E s := fun pos s Q F' h =>
    nameG_B (v := .builtin "len") F' X T (by k_is) (by boot_fast) (by decide) h rfl hg rfl (by decide)
  walk1
  walk1
  refine bl _ _ _ F ?_
  walk1
  walk1
  refine nameG_L F e1 ?_ rfl rfl (by decide)
  (try dsimp only)
  walk1
  refine SBL.len (by omega) ?_
  walk1
  refine bl _ _ _ F ?_
  walk1
  walk1
  refine nameG_L F e2 ?_ rfl rfl (by decide)
  (try dsimp only)
  walk1
  refine SBL.len (by omega) ?_
  walk1
  exact ⟨⟨_, rfl⟩, _, _, rfl, fun _ _ e => e⟩

noncomputable abbrev scStr : Scope := { kind := ScopeKind.function, names := [(Str.ofString ".0", NameKind.local), (Str.ofString "fws", NameKind.local), (Str.ofString "part", NameKind.local), (Str.ofString "EMPTYSTRING", NameKind.globalImplicit)], isGenerator := true, isCoroutine := false }
theorem elt_str {prog : Program} {w : World} {A : Around} {E : Value → Shared → Prop} {h₀ : Heap} {m mg mb : Str → Option Value} {p : Program} {loose : List Str} {mean : ExcName → Option Value} {C : Addr} {code : Value} {env : Env} {u : Shared} {x y : Str} {tx ty : Tok}
    (F : Fr h₀ C u.heap m) (X : (k0.heap_1 w.params).In h₀) (T : Top p loose mean mg mb h₀) (hg : env.globals = mainGlobals) (hx : x.length ≤ 1) (hy : y.length ≤ 1) (e1 : m (Str.ofString "fws") = some (.str x tx)) (e2 : m (Str.ofString "part") = some (.str y ty)) :
    wpAny (model prog w) A (eval (((Expr.Name (Str.ofString "EMPTYSTRING") ⟨29, 33, 29, 44⟩).Attribute (Str.ofString "join") ⟨29, 33, 29, 49⟩).Call [Expr.Tuple [Expr.Name (Str.ofString "fws") ⟨29, 51, 29, 54⟩, Expr.Name (Str.ofString "part") ⟨29, 56, 29, 60⟩] 0 ⟨29, 50, 29, 61⟩] [] ⟨29, 33, 29, 62⟩) (genEnv scStr [] C code builtinsNs env))
      (fun v s₃ => (∃ t, v = .str (Txt.join "" [x, y]) t) ∧ Keeps u s₃) E u := by
  have N : News h₀ C u.heap [] := News.nil
  obtain ⟨te, he⟩ : ∃ te, nsIn (k0.heap_1 w.params) mainGlobals (Str.ofString "EMPTYSTRING") = some (some (.str "" te)) := ⟨_, by k_is⟩
  walk1
  refine nameG_K F X T he ?_ rfl hg rfl (by decide)
  walk1
  walk1
  walk1
  walk1
  walk1
  refine nameG_L F e1 ?_ rfl rfl (by decide)
  (try dsimp only)
  walk1
  refine nameG_L F e2 ?_ rfl rfl (by decide)
  (try dsimp only)
  walk1
  refine wpAny_newTuple ?_
  walk1
  refine join_tupleW (x := "") ⟨_, Heap.get?_push_size _ rfl, rfl, _, rfl⟩ (.cons _ _ (.cons _ _ .nil)) (by decide) (by simp; omega) fun t' k' => ?_
  exact ⟨⟨_, rfl⟩, _, _, rfl, fun _ _ e => Heap.get?_push_of_some _ e⟩
noncomputable abbrev posLen : Pos := { line := 26, col := 19, endLine := 26, endCol := 63 }
theorem sum_acc {prog : Program} {w : World} {A : Around} {E : Value → Shared → Prop} {s₅ s : Shared} {a Kb : Addr} {qs : List Pc} {i : Int} {ti : Tok} {Q : Value → Shared → Prop} (X : GenR prog w A Kb a qs.length (fun j y => ∃ q, qs[j]? = some q ∧ ∃ t, y = .int ((q.x.length : Int) + q.y.length) t) s₅)
    (hs : s₅.toks ≤ s.toks ∧ s = { s₅ with toks := s.toks })
    (h : ∀ s' t, (∀ b o, b < Kb → s₅.heap.get? b = some o → s'.heap.get? b = some o) → Gs s₅ s' → Q (.int (i + lenSum qs) t) s') : wpAny (model prog w) A (call (.builtin "sum") [.ref a, .int i ti]) Q E s := by
  obtain ⟨fp, wr, g, St, W, hst, hT, ha, hfp, hwr⟩ := X
  obtain ⟨htk, hs⟩ := hs
  rw [hs]
  have hst' := W.frame 0 s₅ s₅.heap s.toks hst htk (fun b _ o e => e)
  refine sum_start W.in4_1 hst' hfp (fun j => (qs[j]?.map fun q => (q.x.length : Int) + q.y.length).getD 0) (fun j v hv => ?_) (fun s' t' hm => ?_)
  · obtain ⟨q, hq, t, rfl⟩ := hv
    exact ⟨t, by rw [hq]; rfl⟩
  · have e : preSum (fun j => (qs[j]?.map fun q => (q.x.length : Int) + q.y.length).getD 0) qs.length = lenSum qs := by
      have e1 : (fun j => (qs[j]?.map fun q => (q.x.length : Int) + q.y.length).getD 0) = fun j => (qs.map fun q => (q.x.length : Int) + q.y.length).getD j 0 := by
        funext j
        rw [List.getD_eq_getElem?_getD, List.getElem?_map]
      rw [e1, preSum_getD, List.take_of_length_le (by simp)]
      rfl
    rw [e]
    refine h s' t' (fun b o hb e => hm.heap b o (fun hw => Nat.lt_irrefl _ (Nat.lt_of_lt_of_le hb (hwr b hw))) e) ⟨fun ab => ?_, hm.os⟩
    exact AllBare.movedS (s := { s₅ with toks := s.toks }) ab hm

local macro_rules | `(tactic| walk_at "getAttr ref") => `(tactic| (k_here; k_dflt (refine' acc_get ?k1 ?k2 ?k3 ?_; (case k1 => k_in); (case k2 => walk_at "my get"); (case k3 => walk_at "my get"); k_whole)))
theorem len_acc {p : Program} {loose : List Str} {mean : ExcName → Option Value} {mg mb : Str → Option Value} {w : World} {dp un : Nat} {gd : Option (List Code)} {outer : List Env} {base H : Heap} {s : Shared} {R : Result → Shared → Prop}
    {x d : Addr} {n : Nat} {qs : List Pc} {i : Int} {tk ti : Tok} {ps : Array Value}
    (C : Cx p loose mean mg mb w (aT dp un gd outer) base outer H) (st : H.StaysIn s.heap) (hd : dp + 4 < recursionLimit) (hu : un + 40 < cLine)
    (hl : s.heap.get? x = some (accO d (vals qs) n)) (hod : s.heap.get? d = some (iniD w.params i tk ti)) (hq : PcIn s.heap qs) (hsm : ∀ q ∈ qs, q.x.length ≤ 1 ∧ q.y.length ≤ 1)
    (ht : s.heap.get? 63 = some (tblO ps)) (hps : TabOk posLen ps) (hf : H.get? 63 = none)
    (k : ∀ s' t ps', ExtL [63] s.heap s'.heap → s'.heap.get? 63 = some (tblO ps') → TabOk posLen ps' → Gs s s' → R (.ok (.ret (.int (i + lenSum qs) t))) s') :
    codeAny (model Challenge.rw_nb0220_01.row.prog w) (aT dp un gd outer) (.call (.ref 68) ⟨[.ref x], []⟩) R s := by
  w_on
  have hled : ∀ q ∈ [(63, tblO ps)], s.heap.get? q.1 = some q.2 ∧ H.get? q.1 = none := by
    intro q hq
    rw [List.mem_singleton.mp hq]
    exact ⟨ht, hf⟩
  refine' enter (binds := [(Str.ofString "self", .ref x)]) C st hled ?k6 ?k7 ?k8 ?k9 ?kB ?_ ?c5 ?c2 ?c3 ?c4
  (((case k6 => k_is); (case k7 => k_is); (case k8 => exact Nat.lt_of_le_of_lt (Nat.le_add_right _ _) hd); (case k9 => exact BindsTo.of_eq rfl); (case kB => exact locs rfl); (case c5 => decide); (case c2 => exact rfl); (case c3 => exact rfl); (case c4 => exact rfl)))
  intro g' L' h' F' N' B' X' T' G'
  have gx := G' _ _ hl (notTbl hl ht (by simp))
  have gd0 := G' _ _ hod (notTbl hod ht (by simp))
  have gq : PcIn g' qs := fun q hq' => G' _ _ (hq q hq') (notTbl (hq q hq') ht (by simp [Pc.obj]))
  have kp : ∀ b o, s.heap.get? b = some o → b ∉ [63] → h'.get? b = some o := ext_of G' F'
  have k63 : (63 : Addr) < h'.objs.size := Heap.lt_size (N' _ (.head _)).1
  (try dsimp only)
  (try k_fold)
  k_steps
  refine gen_acc (Fv := fun q y => ∃ t, y = .int ((q.x.length : Int) + q.y.length) t) rfl F' N' X' T' (c := 67) rfl rfl code_len hps gx gq rfl rfl (by decide) rfl rfl rfl (by decide) rfl (by simp only [depth_deeper]; omega) ?_ (fun _ => rfl) ?_ ?_
  · k_steps
  · intro code C9 A9 E9 q u m₂ hA hD hU hq9 F9 e1 e2
    exact elt_len F9 X' T' rfl (hsm q hq9).1 (hsm q hq9).2 e1 e2
  · intro a ps' s₅ hps' F₅ N₅ g₅ ha R₅
    clear F' N'
    k_steps
    refine sum_acc R₅ ⟨Nat.le_succ _, rfl⟩ ?_
    intro s' t hk gs
    refine k s' t ps' (fun b o e hb => hk b o (Heap.lt_size (kp b o e hb)) (ext_of G' F₅ b o e hb)) (hk _ _ k63 (N₅ _ (.head _)).1) hps' (Gs.trans g₅ gs)

noncomputable abbrev posStr : Pos := { line := 29, col := 32, endLine := 29, endCol := 85 }
noncomputable def txtOf (qs : List Pc) : Str := Txt.join "" (qs.map fun q => Txt.join "" [q.x, q.y])
theorem join_acc {prog : Program} {w : World} {A : Around} {E : Value → Shared → Prop} {s₅ : Shared} {a Kb : Addr} {qs : List Pc} {te : Tok} {Q : Value → Shared → Prop} (X : GenR prog w A Kb a qs.length (fun j y => ∃ q, qs[j]? = some q ∧ ∃ t, y = .str (Txt.join "" [q.x, q.y]) t) s₅)
    (hsm : ∀ q ∈ qs, q.x.length ≤ 1 ∧ q.y.length ≤ 1) (hn : qs.length ≤ 100)
    (h : ∀ s' t, (∀ b o, b < Kb → s₅.heap.get? b = some o → s'.heap.get? b = some o) → Gs s₅ s' → Q (.str (txtOf qs) t) s') : wpAny (model prog w) A (call (.builtin "str.join") [.str "" te, .ref a]) Q E s₅ := by
  obtain ⟨fp, wr, g, St, W, hst, hT, ha, hfp, hwr⟩ := X
  refine SC.joinGen (x := "") W.in4_2 hT hst hfp ha (fun j v hv => ?_) (fun s' lt hm hacc => ?_) (by rw [sizeLine_eq]; omega)
  · obtain ⟨q, _, t, rfl⟩ := hv; exact ⟨_, t, rfl⟩
  have hl : lt.map (·.1) = qs.map fun q => Txt.join "" [q.x, q.y] := by
    have hsz : lt.length = qs.length := by simpa [strValues] using hacc.1
    apply List.ext_getElem?
    intro j
    by_cases hj : j < qs.length
    · have hj' : j < lt.length := hsz ▸ hj
      obtain ⟨q, hq, u, hv⟩ := hacc.2 j (.str lt[j].1 lt[j].2) (by simp [strValues, List.getElem?_eq_getElem hj'])
      injection hv with h1 _
      simp only [List.getElem?_map, List.getElem?_eq_getElem hj', hq, Option.map_some, h1]
    · rw [List.getElem?_eq_none (by simpa [hsz] using Nat.le_of_not_lt hj), List.getElem?_eq_none (by simpa using Nat.le_of_not_lt hj)]
  rw [hl]
  have gs : ∀ kk, Gs s₅ { s' with toks := kk } := fun kk => ⟨fun ab => (AllBare.movedS (s := s₅) (s' := s') ab hm : AllBare s'.gens), hm.os⟩
  refine ⟨joinOk_of_weight ?_ (by decide), fun t' kk => h { s' with toks := kk } t' (fun b o hb e => hm.heap b o (fun hw => Nat.lt_irrefl _ (Nat.lt_of_lt_of_le hb (hwr b hw))) e) (gs kk)⟩
  have hl2 : ∀ ys : List Pc, (∀ q ∈ ys, q.x.length ≤ 1 ∧ q.y.length ≤ 1) → ((ys.map fun q => Txt.join "" [q.x, q.y]).map (·.length)).sum ≤ 2 * ys.length := by
    intro ys
    induction ys with
    | nil => intro _; simp
    | cons q ys ih =>
      intro hy
      have h1 := hy q (.head _)
      have h2 := ih fun q' hq' => hy q' (.tail _ hq')
      have e : (Txt.join "" [q.x, q.y]).length = q.x.length + q.y.length := by rw [len_cps, cps_join]; simp [Str.length]
      simp only [List.map_cons, List.sum_cons, List.length_cons, e]
      omega
  have := hl2 qs hsm
  simp only [List.length_map]
  omega
theorem str_acc {p : Program} {loose : List Str} {mean : ExcName → Option Value} {mg mb : Str → Option Value} {w : World} {dp un : Nat} {gd : Option (List Code)} {outer : List Env} {base H : Heap} {s : Shared} {R : Result → Shared → Prop}
    {x d : Addr} {n : Nat} {qs : List Pc} {ps : Array Value}
    (C : Cx p loose mean mg mb w (aT dp un gd outer) base outer H) (st : H.StaysIn s.heap) (hd : dp + 4 < recursionLimit) (hu : un + 40 < cLine)
    (hl : s.heap.get? x = some (accO d (vals qs) n)) (hq : PcIn s.heap qs) (hsm : ∀ q ∈ qs, q.x.length ≤ 1 ∧ q.y.length ≤ 1) (hn : qs.length ≤ 100)
    (ht : s.heap.get? 70 = some (tblO ps)) (hps : TabOk posStr ps) (hf : H.get? 70 = none)
    (k : ∀ s' t ps', ExtL [70] s.heap s'.heap → s'.heap.get? 70 = some (tblO ps') → TabOk posStr ps' → Gs s s' → R (.ok (.ret (.str (txtOf qs) t))) s') :
    codeAny (model Challenge.rw_nb0220_01.row.prog w) (aT dp un gd outer) (.call (.ref 75) ⟨[.ref x], []⟩) R s := by
  w_on
  have hled : ∀ q ∈ [(70, tblO ps)], s.heap.get? q.1 = some q.2 ∧ H.get? q.1 = none := by
    intro q hq
    rw [List.mem_singleton.mp hq]
    exact ⟨ht, hf⟩
  refine' enter (binds := [(Str.ofString "self", .ref x)]) C st hled ?k6 ?k7 ?k8 ?k9 ?kB ?_ ?c5 ?c2 ?c3 ?c4
  (((case k6 => k_is); (case k7 => k_is); (case k8 => exact Nat.lt_of_le_of_lt (Nat.le_add_right _ _) hd); (case k9 => exact BindsTo.of_eq rfl); (case kB => exact locs rfl); (case c5 => decide); (case c2 => exact rfl); (case c3 => exact rfl); (case c4 => exact rfl)))
  intro g' L' h' F' N' B' X' T' G'
  have gx := G' _ _ hl (notTbl hl ht (by simp))
  have gq : PcIn g' qs := fun q hq' => G' _ _ (hq q hq') (notTbl (hq q hq') ht (by simp [Pc.obj]))
  have kp : ∀ b o, s.heap.get? b = some o → b ∉ [70] → h'.get? b = some o := ext_of G' F'
  have k70 : (70 : Addr) < h'.objs.size := Heap.lt_size (N' _ (.head _)).1
  (try dsimp only)
  (try k_fold)
  k_steps
  refine gen_acc (Fv := fun q y => ∃ t, y = .str (Txt.join "" [q.x, q.y]) t) rfl F' N' X' T' (c := 74) rfl rfl code_str hps gx gq rfl rfl (by decide) rfl rfl rfl (by decide) rfl (by simp only [depth_deeper]; omega) ?_ (fun _ => rfl) ?_ ?_
  · k_steps
  · intro code C9 A9 E9 q u m₂ hA hD hU hq9 F9 e1 e2
    exact elt_str F9 X' T' rfl (hsm q hq9).1 (hsm q hq9).2 e1 e2
  · intro a ps' s₅ hps' F₅ N₅ g₅ ha R₅
    clear F' N'
    k_steps
    refine join_acc R₅ hsm hn ?_
    intro s' t hk gs
    refine k s' t ps' (fun b o e hb => hk b o (Heap.lt_size (kp b o e hb)) (ext_of G' F₅ b o e hb)) (hk _ _ k70 (N₅ _ (.head _)).1) hps' (Gs.trans g₅ gs)
end Mine
end SA17

section SA18
namespace Mine
section
variable {p : Program} {loose : List Str} {mean : ExcName → Option Value} {mg mb : Str → Option Value} {w : World} {base : Heap} {outer : List Env}
theorem use_callA {prog : Program} {A₀ : Around} {dp un : Nat} {gd : Option (List Code)} {s : Shared} {h₀ : Heap} {L : Addr} {m : Str → Option Value} {env : Env} {news : List (Addr × Obj)} {f : Value} {pos : List Value} {kw : List (Str × Value)} {Q E : Value → Shared → Prop}
    (B : Below A₀ base outer h₀) (F : Fr h₀ L s.heap m) (N : News h₀ L s.heap news) (X : (k0.heap_1 w.params).In h₀) (T : Top p loose mean mg mb h₀)
    (hf : env.frame = some L) (hke : env.scope.kind = .function)
    (h : ∀ H, Cx p loose mean mg mb w (aT dp un gd (env :: outer)) base (env :: outer) H → H.StaysIn s.heap → (∀ q ∈ news, H.get? q.1 = none) → GSub s.heap H (news.map (·.1)) →
      codeAny (model prog w) (aT dp un gd (env :: outer)) (.call f ⟨pos, kw⟩) (fun r s' => match r with | .ok (.ret v) => Q v s' | .ok _ => False | .error e => E e s') s) :
    wpAny (model prog w) (aT dp un gd (env :: outer)) (call f pos kw) Q E s := by
  obtain ⟨H, C, st, f9, G⟩ := use (A := aT dp un gd (env :: outer)) B F N X T rfl hf hke
  exact wpAny_call (h H C st f9 G)
end
theorem txtOf_len {qs : List Pc} (hsm : ∀ q ∈ qs, q.x.length ≤ 1 ∧ q.y.length ≤ 1) : (txtOf qs).length ≤ 2 * qs.length := by
  rw [len_cps]
  unfold txtOf
  rw [cps_join]
  induction qs with
  | nil => simp
  | cons q ys ih =>
    have h1 := hsm q (.head _)
    have h2 := ih fun q' hq' => hsm q' (.tail _ hq')
    simp only [List.map_cons, List.flatten_cons, List.length_append, List.length_cons, cps_join, List.map_nil, List.flatten_nil, List.length_nil, ← len_cps]
    omega
theorem law_rest {p : Program} {loose : List Str} {mean : ExcName → Option Value} {mg mb : Str → Option Value} {w : World} {dp un : Nat} {gd : Option (List Code)} {outer : List Env} {base H : Heap} {s : Shared} {R : Result → Shared → Prop}
    {l x d : Addr} {n n1 : Nat} {qs : List Pc} {ps : Array Value} {od : Obj} {pv : Value}
    (C : Cx p loose mean mg mb w (aT dp un gd outer) base outer H) (st : H.StaysIn s.heap) (hd : dp + 6 < recursionLimit) (hu : un + 60 < cLine)
    (hpair : s.heap.get? l = some (lstO #[.ref x, pv] n1)) (hl : s.heap.get? x = some (accO d (vals qs) n)) (hod : s.heap.get? d = some od) (hdc : od.cls ≠ .none) (hq : PcIn s.heap qs) (hsm : ∀ q ∈ qs, q.x.length ≤ 1 ∧ q.y.length ≤ 1) (hn : qs.length ≤ 100)
    (ht : s.heap.get? 70 = some (tblO ps)) (hps : TabOk posStr ps) (hf : H.get? 70 = none)
    (k : ∀ s' t ps', ExtL [70] s.heap s'.heap → s'.heap.get? 70 = some (tblO ps') → TabOk posStr ps' → Gs s s' → R (.ok (.ret (.str (txtOf qs ++ "~") t))) s') :
    codeAny (model Challenge.rw_nb0220_01.row.prog w) (aT dp un gd outer) (.call (.ref 181) ⟨[.ref l], []⟩) R s := by
  w_on
  have hled : ∀ q ∈ [(70, tblO ps)], s.heap.get? q.1 = some q.2 ∧ H.get? q.1 = none := by
    intro q hq
    rw [List.mem_singleton.mp hq]
    exact ⟨ht, hf⟩
  refine' enter (binds := [(Str.ofString "pair", .ref l)]) C st hled ?k6 ?k7 ?k8 ?k9 ?kB ?_ ?c5 ?c2 ?c3 ?c4
  (((case k6 => k_is); (case k7 => k_is); (case k8 => exact Nat.lt_of_le_of_lt (Nat.le_add_right _ _) hd); (case k9 => exact BindsTo.of_eq rfl); (case kB => exact locs rfl); (case c5 => decide); (case c2 => exact rfl); (case c3 => exact rfl); (case c4 => exact rfl)))
  intro g' L' h' F' N' B' X' T' G'
  have gl := G' _ _ hpair (notTbl hpair ht (by simp))
  have gx := G' _ _ hl (notTbl hl ht (by simp))
  have gd0 := G' _ _ hod (notTbl hod ht hdc)
  have gq : PcIn g' qs := fun q hq' => G' _ _ (hq q hq') (notTbl (hq q hq') ht (by simp [Pc.obj]))
  have il : g'.IsList l #[.ref x, pv] := ⟨_, gl, rfl, _, rfl⟩
  (try dsimp only)
  (try k_fold)
  k_steps
  refine kso_call (f := 75) (by show un + 3 + 1 + 1 < cLine; omega) (X'.keeps F'.keep) (inst_acc (F'.keep _ _ gx) (F'.keep _ _ gd0)) (by k_is) (by k_is) ?_
  refine use_callA (dp := dp + 1) (un := un + 3 + 1 + 1) B' F' N' X' T' rfl rfl ?_
  intro H9 C9 st9 f9 G9
  refine str_acc C9 st9 (room 1 hd) (room 15 hu) (F'.keep _ _ gx) (gq.keep F'.keep) hsm hn (N' _ (.head _)).1 hps (f9 _ (.head _)) ?_
  intro s9 t9 ps9 hx9 ho9 hps9 gs9
  obtain ⟨F9, N9⟩ := back1 F' N' (by k_upd) hx9 ho9
  have F0 := F'
  clear F' N'
  dsimp only [StrBack]
  k_steps
  have hlt := txtOf_len hsm
  refine SBL.add (fun t' k' _ => ?_) (by rw [sizeLine_eq]; show _ + 1 ≤ _; omega)
  exact k _ _ ps9 (fun b o e hb => hx9 b o (ext_of G' F0 b o e hb) hb) ho9 hps9 (Gs.trans ⟨id, rfl⟩ (Gs.trans gs9 ⟨id, rfl⟩))
end Mine
end SA18

section SN0
namespace Mine
section
variable {p : Program} {loose : List Str} {mean : ExcName → Option Value} {mg mb : Str → Option Value} {w : World} {A : Around} {base : Heap} {outer : List Env} {H H' : Heap}
theorem enterC {prog : Program} {dp un : Nat} {gd : Option (List Code)} {s : Shared} {R : Result → Shared → Prop} {name qual : Str} {params : Arguments} {body : List Stmt} {scope : Scope} {dV kV doc pm cdv ct oc : Value} {an od : Option Addr} {osl : Array (Option Value)} {f : Addr} {args : Args} {binds : List (Str × Value)}
    {led : List (Addr × Obj)}
    (C : Cx p loose mean mg mb w (aT dp un gd outer) base outer H) (st : H.StaysIn s.heap) (hled : ∀ q ∈ led, s.heap.get? q.1 = some q.2 ∧ H.get? q.1 = none)
    (ho : (k0.heap_1 w.params).lookup f = some ⟨oc, od, .func (fnX name qual params body scope [] dV kV doc pm an cdv ct), osl⟩) (hcd : codeIn (k0.heap_1 w.params) cdv qual = true) (hroom : dp < recursionLimit)
    (hbind : BindsTo s (fnX name qual params body scope [] dV kV doc pm an cdv ct) args binds) (hkind : (binds.all fun y => scope.names.lookup y.1 == some .local || scope.names.lookup y.1 == some .cell) = true)
    (hnd : ((cellsFrom 0 scope.names []).map (·.1)).Nodup)
    (h : ∀ g L' h₁ tk cells, Fr g L' h₁ (bindL (envOfC qual scope L' f cdv).kindOf binds fun _ => none) → News g L' h₁ (cells ++ led) →
      CellsAre (bindC (envOfC qual scope L' f cdv).kindOf binds fun _ => none) (cellsFrom (L' + 1) scope.names []) cells → Below (aT dp un gd outer) base outer g → (k0.heap_1 w.params).In g → Top p loose mean mg mb g →
      GSub s.heap g (led.map (·.1)) → (∀ p ∈ led, p.1 < L') →
      wpAny (model prog w) ((aT dp un gd outer).deeper (envOfC qual scope L' f cdv)) (execs body (envOfC qual scope L' f cdv))
        (fun fl s' => R (.ok (.ret (match fl with | .ret v => v | _ => .none))) s')
        (fun e s' => wpAny (model prog w) ((aT dp un gd outer).deeper (envOfC qual scope L' f cdv)) (leaving (envOfC qual scope L' f cdv) e) (fun _ s'' => R (.error e) s'') (fun e' s'' => R (.error e') s'') s')
        { s with heap := h₁, toks := tk })
    (hco : scope.isCoroutine = false := by rfl) (hgen : scope.isGenerator = false := by rfl) (hk : scope.kind = .function := by rfl) :
    codeAny (model prog w) (aT dp un gd outer) (.call (.ref f) args) R s := by
  have st' : H.StaysIn (hideAll s.heap (led.map (·.1))) := fun b o e => hideAll_get _ (st b o e) fun q => by
    obtain ⟨x, hx, rfl⟩ := List.mem_map.mp q
    rw [(hled x hx).2] at e; cases e
  have C' := C.keeps st'
  refine codeAny_call_function hroom ((C.X.keeps st) _ _ ho) rfl hco hgen rfl (codeRec_of (C.X.keeps st) hcd) (hbind _ _ _ _ ?_)
  refine wpAny_newFunctionEnv_cells hk (kindsX hkind _) fun env' he s' x => ?_
  subst he
  refine ⟨(C.T.nolimit.keeps st).keeps x.toInCall.keep, codeAny_func ?_⟩
  obtain ⟨h₁, tk, rfl, _⟩ := x.done
  have hk₁ := x.toInCall.keep
  obtain ⟨cells, NC, Y⟩ := Cl.news (h₀ := s.heap) (Nat.le_refl _) fun n c hm => ⟨x.cell n c (lookup_of_mem_nodup (cellsFrom_names scope.names 0 (s.heap.objs.size + 1) [] [] rfl ▸ hnd) hm), x.above n c hm⟩
  refine h _ s.heap.objs.size h₁ tk cells ⟨x.toInCall.ns, fun b o e => hk₁ b o (of_hideAll _ e), Nat.le_of_eq (hideAll_size _ _)⟩ (fun p hp => ?_) Y C'.B C'.X C'.T (fun b o e n => hideAll_get _ e n) (fun q hq => Heap.lt_size (hled q hq).1)
  rcases List.mem_append.mp hp with hp | hp
  · refine ⟨(NC p hp).1, (NC p hp).2.1, ?_⟩
    cases q : (hideAll s.heap (led.map (·.1))).get? p.1 with
    | none => rfl
    | some o => have := of_hideAll _ q; rw [(NC p hp).2.2] at this; cases this
  · exact ⟨hk₁ _ _ (hled p hp).1, Nat.ne_of_lt (Heap.lt_size (hled p hp).1), hideAll_none _ (List.mem_map_of_mem hp)⟩
end

/-- a row of the law: the list [accumulator, place] and what hangs on it -/
structure Rw where
  l : Addr
  x : Addr
  d : Addr
  j : Int
  tj : Tok
  n1 : Nat
  n : Nat
  qs : List Pc
  od : Obj
noncomputable def Rw.In (r : Rw) (h : Heap) : Prop := h.get? r.l = some (lstO #[.ref r.x, .int r.j r.tj] r.n1) ∧ h.get? r.x = some (accO r.d (vals r.qs) r.n) ∧ h.get? r.d = some r.od ∧ r.od.cls ≠ .none ∧ PcIn h r.qs
noncomputable def Rw.Sm (r : Rw) : Prop := (∀ q ∈ r.qs, q.x.length ≤ 1 ∧ q.y.length ≤ 1) ∧ r.qs.length ≤ 100
noncomputable def Rw.key (r : Rw) : Str := txtOf r.qs ++ "~"
theorem Rw.In.keep {r : Rw} {h h' : Heap} (x : r.In h) (hk : ∀ b o, h.get? b = some o → h'.get? b = some o) : r.In h' := ⟨hk _ _ x.1, hk _ _ x.2.1, hk _ _ x.2.2.1, x.2.2.2.1, x.2.2.2.2.keep hk⟩
theorem ne_tbl {h : Heap} {x P : Addr} {o : Obj} {ps : Array Value} (hx : h.get? x = some o) (hP : h.get? P = some (tblO ps)) (hc : o.cls ≠ .none) : x ∉ [P] := by
  intro hm
  rw [List.mem_singleton.mp hm, hP] at hx
  cases hx
  exact hc rfl
theorem Rw.In.ext {r : Rw} {h h' : Heap} {P : Addr} {ps : Array Value} (x : r.In h) (hP : h.get? P = some (tblO ps)) (hx : ∀ b o, h.get? b = some o → b ∉ [P] → h'.get? b = some o) : r.In h' :=
  ⟨hx _ _ x.1 (ne_tbl x.1 hP (by simp)), hx _ _ x.2.1 (ne_tbl x.2.1 hP (by simp)), hx _ _ x.2.2.1 (ne_tbl x.2.2.1 hP x.2.2.2.1), x.2.2.2.1, fun q hq => hx _ _ (x.2.2.2.2 q hq) (ne_tbl (x.2.2.2.2 q hq) hP (by simp [Pc.obj]))⟩
theorem rest_row {p : Program} {loose : List Str} {mean : ExcName → Option Value} {mg mb : Str → Option Value} {w : World} {dp un : Nat} {gd : Option (List Code)} {outer : List Env} {base H : Heap} {s : Shared} {R : Result → Shared → Prop}
    {r : Rw} {ps : Array Value}
    (C : Cx p loose mean mg mb w (aT dp un gd outer) base outer H) (st : H.StaysIn s.heap) (hd : dp + 6 < recursionLimit) (hu : un + 60 < cLine)
    (hr : r.In s.heap) (hsm : r.Sm) (ht : s.heap.get? 70 = some (tblO ps)) (hps : TabOk posStr ps) (hf : H.get? 70 = none)
    (k : ∀ s' t ps', ExtL [70] s.heap s'.heap → s'.heap.get? 70 = some (tblO ps') → TabOk posStr ps' → Gs s s' → R (.ok (.ret (.str r.key t))) s') :
    codeAny (model Challenge.rw_nb0220_01.row.prog w) (aT dp un gd outer) (.call (.ref 181) ⟨[.ref r.l], []⟩) R s :=
  law_rest C st hd hu hr.1 hr.2.1 hr.2.2.1 hr.2.2.2.1 hr.2.2.2.2 hsm.1 hsm.2 ht hps hf k
end Mine
end SN0

section SN1
namespace Mine
section
variable {prog : Program} {w : World} {A : Around} {E : Value → Shared → Prop} {s : Shared} {h₀ : Heap} {L : Addr} {m : Str → Option Value} {news : List (Addr × Obj)} {v f : Value}
theorem one_key {a kS : Addr} {e1 : Nat} {P : PySem.Fin → Shared → Prop} (hk : s.heap.get? kS = some (seqObj "list" #[] 0))
    (h : wpAny (model prog w) A (call f [v]) (KatBack h₀ L m kS [] 0 (fun k c s' => KatFin h₀ L m kS a [k] c e1 [v] (fun s4 => P (.done (.ret .none)) s4) s')) (fun _ _ => False) s) :
    wpAny (model prog w) A (ksk_rest a f false #[v] e1 (.ref kS)) P E s := by
  unfold ksk_rest
  refine wpAny_bind (wpAny_rule ?_)
  rw [← Array.forIn_toList]
  show wpAny _ _ (forIn [v] PUnit.unit _ >>= _) _ _ _
  rw [List.forIn_cons]
  refine wpAny_bind (wpAny_bind (wpAny_bind (wpAny_attempt (wpAny_mono h (fun k s'' hk => ?_) fun _ _ hF => hF.elim))))
  obtain ⟨news', g, F', N', U, c⟩ := hk
  obtain ⟨pre, post, e0, hg, x1, x2⟩ := U.split
  rw [e0] at N'
  have nk := N' (kS, seqObj "list" (List.toArray []) 0) (List.mem_append_right _ (.head _))
  have s1 := Heap.SameBut.update s''.heap kS (Obj.mapSeq (·.push k))
  obtain ⟨c2, hc2⟩ : ∃ c2, (s''.heap.update kS (Obj.mapSeq (·.push k))).get? kS = some (seqObj "list" (List.toArray [k]) c2) := ⟨_, get?_update_seq nk.1 (·.push k)⟩
  (try dsimp only)
  refine wpAny_bind (listUpdate_at nk.1 rfl ?_ (by simp [sizeLine_eq]) (by simp [sizeLine_eq]))
  refine wpAny_pure ?_
  (try dsimp only)
  rw [List.forIn_nil]
  refine wpAny_pure ?_
  have fin := c _ c2 (kas_fr F' s1 nk.2.1 nk.2.2) (by rw [hg]; exact news_set N' x1 x2 s1 hc2)
  refine wpAny_bind (listItems_at hc2 rfl ?_)
  unfold ksk_end
  (try dsimp only)
  rw [if_neg (by decide)]
  refine wpAny_bind (wpAny_pure ?_)
  show wpAny _ _ (ksk_tail a false e1 (.ref kS) (SortSt.mk' general' ((List.toArray [k]).zip #[v]) #[] 7 none)) _ _ _
  have ea : arrOf (SortSt.mk' general' ((List.toArray [k]).zip #[v]) #[] 7 none) = (List.toArray [k]).zip #[v] := rfl
  refine kat_tail (b := false) (ks := [k]) (out := [v]) (by rw [ea]; simp) (by simp) (by simp) rfl fin
theorem sorted_one {l : Addr} {Q : Value → Shared → Prop} {q : Addr} (F : Fr h₀ L s.heap m) (N : News h₀ L s.heap news) (hl : s.heap.IsList l #[v])
    (h : ∀ D kS e1 h', Fr h₀ L h' m → News h₀ L h' ((kS, seqObj "list" #[] 0) :: (D, seqObj "list" #[] e1) :: news) → D < kS → (∀ q ∈ news, q.1 < D) →
      wpAny (model prog w) A.in1.in1 (call (.ref q) [v]) (KatBack h₀ L m kS [] 0 (fun k c s' => KatFin h₀ L m kS D [k] c e1 [v] (fun s4 => Q (.ref D) s4) s')) (fun _ _ => False) { s with heap := h' }) :
    wpAny (model prog w) A (call (.builtin "sorted") [.ref l] [(Str.ofString "key", .ref q)]) Q E s := by
  refine call_function_entry_kw kind_sorted plain_sorted entry_sorted (ksk_s1 _ _) ?_
  unfold Builtin.«sorted»
  refine wpAny_bind (m := checkCount "sorted" 1 1 _) (wpAny_pure ?_)
  have hl' : s.heap.IsList l [v].toArray := hl
  refine wpAny_bind (collect_list hl' ?_ (by simp [sizeLine_eq]))
  refine wpAny_bind (wpAny_newList ?_ (by simp [sizeLine_eq]))
  have hsz : ((s.heap.push (seqObj "list" #[] 0)).update s.heap.objs.size (Obj.mapSeq (· ++ [v].toArray))).objs.size = s.heap.objs.size + 1 := by
    rw [Heap.size_update, size_push']
  have hoL : (((s.heap.push (seqObj "list" #[] 0)).update s.heap.objs.size (Obj.mapSeq (· ++ [v].toArray))).push (seqObj "list" [v].toArray 0)).get? (s.heap.objs.size + 1) = some (seqObj "list" [v].toArray 0) := by
    rw [← hsz]; exact Heap.get?_push_size _ rfl
  have keep : ∀ b o, s.heap.get? b = some o → (((s.heap.push (seqObj "list" #[] 0)).update s.heap.objs.size (Obj.mapSeq (· ++ [v].toArray))).push (seqObj "list" [v].toArray 0)).get? b = some o := fun b o q => by
    have hlt : b < s.heap.objs.size := Heap.lt_size q
    rw [Heap.get?_push_ne _ _ _ (by rw [hsz]; exact Nat.ne_of_lt (Nat.lt_succ_of_lt hlt)), Heap.get?_update_ne _ _ _ _ (Nat.ne_of_lt hlt), Heap.get?_push_ne _ _ _ (Nat.ne_of_lt hlt)]
    exact q
  have hL : L < s.heap.objs.size := F.ns.lt
  show wpAny _ _ _ _ _ { s with heap := ((s.heap.push (seqObj "list" #[] 0)).update s.heap.objs.size (Obj.mapSeq (· ++ [v].toArray))).push (seqObj "list" [v].toArray 0) }
  rw [hsz]
  refine wpAny_bind (wpAny_holding (wpAny_call_entry_kw slot_list_sort ⟨_, hoL, rfl⟩ entry_list_sort ?body (ksk_l1 _ _)))
  case body =>
    show wpAny (model prog w) A.in1.in1 (Builtin.«list.sort» ⟨[.ref (s.heap.objs.size + 1)], [(Str.ofString "key", .ref q)]⟩) _ _ _
    rw [ksk_t1]
    generalize hH : ((s.heap.push (seqObj "list" #[] 0)).update s.heap.objs.size (Obj.mapSeq (· ++ [v].toArray))).push (seqObj "list" [v].toArray 0) = H at hoL keep ⊢
    have Fh : Fr h₀ L H m := F.kept keep
    have Nh : News h₀ L H news := N.grown keep
    have haL : s.heap.objs.size + 1 ≠ L := Nat.ne_of_gt (Nat.lt_succ_of_lt hL)
    have ha0 : h₀.get? (s.heap.objs.size + 1) = none := Heap.get?_none_of_le (Nat.le_trans F.above (Nat.le_succ_of_le (Nat.le_of_lt hL)))
    have hna : ∀ p ∈ news, p.1 ≠ s.heap.objs.size + 1 := fun p hp => Nat.ne_of_lt (Nat.lt_succ_of_lt (Heap.lt_size (N p hp).1))
    have ha : s.heap.objs.size + 1 < H.objs.size := Heap.lt_size hoL
    have s1 := Heap.SameBut.update H (s.heap.objs.size + 1) (Obj.mapSeq fun _ => (#[] : Array Value))
    obtain ⟨e1, ho1⟩ : ∃ e1, (H.update (s.heap.objs.size + 1) (Obj.mapSeq fun _ => (#[] : Array Value))).get? (s.heap.objs.size + 1) = some (seqObj "list" #[] e1) := ⟨_, get?_update_seq hoL fun _ => #[]⟩
    have F1 := kas_fr Fh s1 haL ha0
    have N1 := kas_news Nh s1 hna
    have hkS : ((H.update (s.heap.objs.size + 1) (Obj.mapSeq fun _ => (#[] : Array Value))).push (seqObj "tuple" [v].toArray 0)).objs.size = H.objs.size + 1 := by rw [size_push', Heap.size_update]
    have hLk : L < ((H.update (s.heap.objs.size + 1) (Obj.mapSeq fun _ => (#[] : Array Value))).push (seqObj "tuple" [v].toArray 0)).objs.size := (F1.push _).ns.lt
    unfold ksk_tree
    refine wpAny_bind (listItems_at hoL rfl ?_)
    refine wpAny_bind (listUpdate_at hoL rfl ?_ (by simp [sizeLine_eq]) (Nat.zero_le _))
    refine wpAny_bind (seqEpoch_at ho1 rfl ?_)
    refine wpAny_bind (wpAny_newTuple ?_ (by simp [sizeLine_eq]))
    refine wpAny_bind (wpAny_newList ?_ (Nat.zero_le _))
    refine wpAny_holding ?_
    refine one_key (h₀ := h₀) (L := L) (m := m) (s := { s with heap := ((H.update (s.heap.objs.size + 1) (Obj.mapSeq fun _ => (#[] : Array Value))).push (seqObj "tuple" [v].toArray 0)).push (seqObj "list" #[] 0) }) (kS := ((H.update (s.heap.objs.size + 1) (Obj.mapSeq fun _ => (#[] : Array Value))).push (seqObj "tuple" [v].toArray 0)).objs.size)
      (Heap.get?_push_size _ rfl) ?_
    refine wpAny_mono (h (s.heap.objs.size + 1) ((H.update (s.heap.objs.size + 1) (Obj.mapSeq fun _ => (#[] : Array Value))).push (seqObj "tuple" [v].toArray 0)).objs.size e1 _ ((F1.push _).push _) (fun p hp => ?_) (by rw [hkS]; exact Nat.lt_succ_of_lt ha) fun q hq => Nat.lt_succ_of_lt (Heap.lt_size (N q hq).1)) (fun k s' hb => ?_) fun _ _ x => x
    · rcases List.mem_cons.mp hp with rfl | hp
      · exact ⟨Heap.get?_push_size _ rfl, Nat.ne_of_gt hLk, Heap.get?_none_of_le (Nat.le_trans F.above (Nat.le_of_lt hLk))⟩
      · rcases List.mem_cons.mp hp with rfl | hp
        · exact ⟨Heap.get?_push_of_some _ (Heap.get?_push_of_some _ ho1), haL, ha0⟩
        · exact ⟨Heap.get?_push_of_some _ (Heap.get?_push_of_some _ (N1 p hp).1), (N1 p hp).2⟩
    · obtain ⟨news', g, F', N', U, c⟩ := hb
      exact ⟨news', g, F', N', U, fun h2 c2 F2 N2 => (c h2 c2 F2 N2).mono fun s4 hq => ⟨_, rfl, wpAny_pure ⟨_, rfl, hq⟩⟩⟩
end
end Mine
end SN1

section SN2
namespace Mine

local macro_rules | `(tactic| walk_at "ite") => `(tactic| first | refine W.ite_pos (by simp) ?_ | refine W.ite_neg (by simp) ?_)
theorem ns2 {p : Program} {loose : List Str} {mean : ExcName → Option Value} {mg mb : Str → Option Value} {w : World} {dp un : Nat} {gd : Option (List Code)} {outer : List Env} {base H : Heap} {s : Shared} {R : Result → Shared → Prop}
    {left : Addr} {r1 r2 : Rw} {nl : Nat} {ps : Array Value} {t2 : Tok}
    (C : Cx p loose mean mg mb w (aT dp un gd outer) base outer H) (st : H.StaysIn s.heap) (hd : dp + 20 < recursionLimit) (hu : un + 200 < cLine)
    (hleft : s.heap.get? left = some (lstO #[.ref r1.l, .ref r2.l] nl)) (h1 : r1.In s.heap) (h2 : r2.In s.heap) (m1 : r1.Sm) (m2 : r2.Sm)
    (ht : s.heap.get? 70 = some (tblO ps)) (hps : TabOk posStr ps) (hf : H.get? 70 = none)
    (k : ∀ s' D nD ps', ExtL [70] s.heap s'.heap → s'.heap.get? 70 = some (tblO ps') → TabOk posStr ps' → Gs s s' → s.heap.get? D = none →
      s'.heap.get? D = some (lstO (if sLt r2.key r1.key = true then #[.ref r2.l, .ref r1.l] else #[.ref r1.l, .ref r2.l]) nD) → R (.ok (.ret (.ref D))) s') :
    codeAny (model Challenge.rw_nb0220_01.row.prog w) (aT dp un gd outer) (.call (.ref 174) ⟨[.int 2 t2, .ref left], [("key", .ref 181)]⟩) R s := by
  w_on
  have hled : ∀ q ∈ [(70, tblO ps)], s.heap.get? q.1 = some q.2 ∧ H.get? q.1 = none := by
    intro q hq
    rw [List.mem_singleton.mp hq]
    exact ⟨ht, hf⟩
  refine' enterC (binds := [(Str.ofString "n", .int 2 t2), (Str.ofString "iterable", .ref left), (Str.ofString "key", .ref 181)]) C st hled ?k6 ?k7 ?k8 ?k9 ?kB ?kD ?_ ?c2 ?c3 ?c4
  (((case k6 => k_is); (case k7 => k_is); (case k8 => exact Nat.lt_of_le_of_lt (Nat.le_add_right _ _) hd); (case k9 => exact kp_binds (Frag.In.keeps (Cx.X (by assumption)) (by assumption)) (fun _ => by kernel_rfl)); (case kB => exact rfl); (case kD => decide +kernel); (case c2 => exact rfl); (case c3 => exact rfl); (case c4 => exact rfl)))
  intro g' L' h' tk' cells' F' N' Y' B' X' T' G' l1
  (try k_lt l1)
  k_cells Y'
  (try simp only [List.cons_append, List.nil_append] at N')
  have gl := G' _ _ hleft (notTbl hleft ht (by simp))
  have il : g'.IsList left #[.ref r1.l, .ref r2.l] := ⟨_, gl, rfl, _, rfl⟩
  have i1 : r1.In g' := h1.ext ht (fun b o e n => G' b o e (by simpa using n))
  have i2 : r2.In g' := h2.ext ht (fun b o e n => G' b o e (by simpa using n))
  (try dsimp only)
  (try k_fold)
  k_steps
  refine use_callA (dp := dp + 1) (un := un + 3 + 1 + 1) B' (by k_asm) (by k_asm) X' T' rfl rfl ?_
  intro H1 C1 st1 f1 G1
  refine rest_row C1 st1 (room 13 hd) (room 135 hu) (i1.keep (Fr.keep (by k_asm))) m1 (News.get (by k_asm) (by k_mem)) hps (f1 (70, tblO _) (by k_mem)) ?_
  intro s1 t1 ps1 hx1 ho1 hps1 gs1
  obtain ⟨F1, N1⟩ := back1 (by k_asm) (by k_asm) (by k_upd) hx1 ho1
  (try dsimp only)
  k_steps
  refine use_callA (dp := dp + 1) (un := un + 3 + 1 + 1) B' (by k_asm) (by k_asm) X' T' rfl rfl ?_
  intro H2 C2 st2 f2 G2
  refine rest_row C2 st2 (room 13 hd) (room 135 hu) (i2.keep (Fr.keep (by k_asm))) m2 (News.get (by k_asm) (by k_mem)) hps1 (f2 (70, tblO _) (by k_mem)) ?_
  intro s2 t2 ps2 hx2 ho2 hps2 gs2
  obtain ⟨F2, N2⟩ := back1 (by k_asm) (by k_asm) (by k_upd) hx2 ho2
  (try dsimp only)
  k_steps
  all_goals
    first
      | (have e : sLt r2.key r1.key = true := decide_eq_true ‹r2.key.cps.toList < r1.key.cps.toList›
         rw [e] at k)
      | (have e : sLt r2.key r1.key = false := decide_eq_false ‹¬ r2.key.cps.toList < r1.key.cps.toList›
         rw [e] at k)
    exact k _ _ _ ps2 (ext_of G' (by k_asm)) (News.get (by k_asm) (by k_mem)) hps2 ⟨fun ab => gs2.1 (gs1.1 ab), gs2.2.trans gs1.2⟩ (fresh_of G' (by k_asm) (List.Mem.head _) (by simp only [List.map_cons, List.map_nil, List.mem_singleton]; exact neN (by omega))) (News.get (by k_asm) (List.Mem.head _))
theorem ns1 {p : Program} {loose : List Str} {mean : ExcName → Option Value} {mg mb : Str → Option Value} {w : World} {dp un : Nat} {gd : Option (List Code)} {outer : List Env} {base H : Heap} {s : Shared} {R : Result → Shared → Prop}
    {left : Addr} {r1 : Rw} {nl : Nat} {ps : Array Value} {t2 : Tok}
    (C : Cx p loose mean mg mb w (aT dp un gd outer) base outer H) (st : H.StaysIn s.heap) (hd : dp + 20 < recursionLimit) (hu : un + 200 < cLine)
    (hleft : s.heap.get? left = some (lstO #[.ref r1.l] nl)) (h1 : r1.In s.heap) (m1 : r1.Sm)
    (ht : s.heap.get? 70 = some (tblO ps)) (hps : TabOk posStr ps) (hf : H.get? 70 = none)
    (k : ∀ s' D nD ps', ExtL [70] s.heap s'.heap → s'.heap.get? 70 = some (tblO ps') → TabOk posStr ps' → Gs s s' → s.heap.get? D = none →
      s'.heap.get? D = some (lstO #[.ref r1.l] nD) → R (.ok (.ret (.ref D))) s') :
    codeAny (model Challenge.rw_nb0220_01.row.prog w) (aT dp un gd outer) (.call (.ref 174) ⟨[.int 2 t2, .ref left], [("key", .ref 181)]⟩) R s := by
  w_on
  have hled : ∀ q ∈ [(70, tblO ps)], s.heap.get? q.1 = some q.2 ∧ H.get? q.1 = none := by
    intro q hq
    rw [List.mem_singleton.mp hq]
    exact ⟨ht, hf⟩
  refine' enterC (binds := [(Str.ofString "n", .int 2 t2), (Str.ofString "iterable", .ref left), (Str.ofString "key", .ref 181)]) C st hled ?k6 ?k7 ?k8 ?k9 ?kB ?kD ?_ ?c2 ?c3 ?c4
  (((case k6 => k_is); (case k7 => k_is); (case k8 => exact Nat.lt_of_le_of_lt (Nat.le_add_right _ _) hd); (case k9 => exact kp_binds (Frag.In.keeps (Cx.X (by assumption)) (by assumption)) (fun _ => by kernel_rfl)); (case kB => exact rfl); (case kD => decide +kernel); (case c2 => exact rfl); (case c3 => exact rfl); (case c4 => exact rfl)))
  intro g' L' h' tk' cells' F' N' Y' B' X' T' G' l1
  (try k_lt l1)
  k_cells Y'
  (try simp only [List.cons_append, List.nil_append] at N')
  have gl := G' _ _ hleft (notTbl hleft ht (by simp))
  have il : g'.IsList left #[.ref r1.l] := ⟨_, gl, rfl, _, rfl⟩
  have i1 : r1.In g' := h1.ext ht (fun b o e n => G' b o e (by simpa using n))
  (try dsimp only)
  (try k_fold)
  k_steps
  refine sorted_one (by k_asm) (by k_asm) ⟨_, Fr.keep (by k_asm) _ _ gl, rfl, _, rfl⟩ ?_
  intro D' kS' e' h' F' N' l0 l1
  (try k_lt l1)
  (try k_lt2 l0)
  refine use_callA (dp := dp + 1) (un := un + 3 + 1 + 1) B' (by k_asm) (by k_asm) X' T' rfl rfl ?_
  intro H1 C1 st1 f1 G1
  refine rest_row C1 st1 (room 13 hd) (room 135 hu) (i1.keep (Fr.keep (by k_asm))) m1 (News.get (by k_asm) (by k_mem)) hps (f1 (70, tblO _) (by k_mem)) ?_
  intro s1 t1 ps1 hx1 ho1 hps1 gs1
  obtain ⟨F1, N1⟩ := back1 (by k_asm) (by k_asm) (by k_upd) hx1 ho1
  (try dsimp only)
  k_steps
  exact k _ _ _ ps1 (ext_of G' (by k_asm)) (News.get (by k_asm) (by k_mem)) hps1 ⟨fun ab => gs1.1 ab, gs1.2⟩ (fresh_of G' (by k_asm) (List.Mem.head _) (by simp only [List.map_cons, List.map_nil, List.mem_singleton]; exact neN (by omega))) (News.get (by k_asm) (List.Mem.head _))
end Mine
end SN2

section SZ1
namespace Mine
section
variable {prog : Program} {w : World} {A : Around} {E : Value → Shared → Prop} {s : Shared}
theorem nextOf_range {it : Addr} {x left step : Int} {Q : Value → Shared → Prop} (hit : IsRangeIter s.heap it x left step) (hleft : 0 < left)
    (hQ : ∀ h', IsRangeIter h' it (x + step) (left - 1) step → Heap.SameBut it s.heap h' → Q (.int x s.toks) { s with heap := h', toks := s.toks + 1 }) :
    wpAny (model prog w) A (Builtin.SmallTypes.nextOf (.ref it)) Q E s := by
  have hT : s.TypeIs (.ref it) "range_iterator" := ⟨_, hit, rfl⟩
  unfold Builtin.SmallTypes.nextOf
  refine wpAny_bind (wpAny_callSpecial?_slot (name := Str.ofString "__next__") hT F.slot_range_iterator_next (wpAny_call_entry F.slot_range_iterator_next hT F.entry_range_iterator_next ?_ (F.args_range_iterator_next_1 _)))
  show wpAny _ _ (field (.ref it) 0 >>= _) _ _ s
  refine wpAny_bind (wpAny_field hit rfl (x := rawInt x) rfl ?_)
  show wpAny _ _ (field (.ref it) 1 >>= _) _ _ s
  refine wpAny_bind (wpAny_field hit rfl (x := rawInt left) rfl ?_)
  show wpAny _ _ (field (.ref it) 2 >>= _) _ _ s
  refine wpAny_bind (wpAny_field hit rfl (x := rawInt step) rfl ?_)
  show wpAny _ _ (if left ≤ 0 then _ else _) _ _ s
  rw [if_neg (by omega)]
  refine wpAny_bind (wpAny_setField_rec hit (by simp) fun h₁ h1 hs₁ => ?_)
  refine wpAny_bind (wpAny_setField_rec h1 (by simp) fun h₂ h2 hs₂ => ?_)
  refine wpAny_bind (wpAny_mkInt (wpAny_pure ⟨_, rfl, wpAny_pure (hQ h₂ h2 ?_)⟩))
  exact hs₁.trans hs₂
theorem nextOf_range_end {it : Addr} {x left step : Int} {Q : Value → Shared → Prop} (hh : A.handled = none) (hit : IsRangeIter s.heap it x left step) (hleft : left ≤ 0)
    (hE : ∀ h' e, Heap.ExtBut it s.heap h' → (∃ o, h'.get? e = some o ∧ o.cls = .type "StopIteration") → E (.ref e) { s with heap := h' }) :
    wpAny (model prog w) A (Builtin.SmallTypes.nextOf (.ref it)) Q E s := by
  have hT : s.TypeIs (.ref it) "range_iterator" := ⟨_, hit, rfl⟩
  unfold Builtin.SmallTypes.nextOf
  refine wpAny_bind (wpAny_callSpecial?_slot (name := Str.ofString "__next__") hT F.slot_range_iterator_next (wpAny_call_entry F.slot_range_iterator_next hT F.entry_range_iterator_next ?_ (F.args_range_iterator_next_1 _)))
  show wpAny _ _ (field (.ref it) 0 >>= _) _ _ s
  refine wpAny_bind (wpAny_field hit rfl (x := rawInt x) rfl ?_)
  show wpAny _ _ (field (.ref it) 1 >>= _) _ _ s
  refine wpAny_bind (wpAny_field hit rfl (x := rawInt left) rfl ?_)
  show wpAny _ _ (field (.ref it) 2 >>= _) _ _ s
  refine wpAny_bind (wpAny_field hit rfl (x := rawInt step) rfl ?_)
  show wpAny _ _ (if left ≤ 0 then _ else _) _ _ s
  rw [if_pos hleft]
  refine wpAny_bind (wpAny_rule ?_)
  refine wpAny_bind ?_
  show wpAny _ _ (newExc (.type "StopIteration") [] >>= _) _ _ _
  refine wpAny_bind ?_
  simp only [newExc, newTuple]
  refine wpAny_bind (wpAny_newObj_type ?_ (by size_fits))
  refine wpAny_bind (m := firstArgMember _ _) (wpAny_of_eq (a := Value.none) (by first | rfl | (simp only [firstArgMember]; rfl)) ?_)
  refine wpAny_newObj_type ?_ (by size_fits)
  simp only [raiseNew]
  refine wpAny_bind (wpAny_handled ?_)
  rw [show A.in1.handled = none from hh]
  refine wpAny_bind (wpAny_pure (wpAny_throw ?_))
  exact hE _ _ (fun b o _ e => Heap.get?_push_of_some _ (Heap.get?_push_of_some _ e)) ⟨_, Heap.get?_push_size _ rfl, rfl⟩

theorem nextOf_list {it l : Addr} {i : Nat} {items : Array Value} {x : Value} {Q : Value → Shared → Prop} (hit : s.heap.get? it = some { cls := .type "list_iterator", data := .fields #[.ref l, .int i 0] })
    (hl : s.heap.IsList l items) (hx : items[i]? = some x)
    (hQ : ∀ h', h'.get? it = some { cls := .type "list_iterator", data := .fields #[.ref l, .int (i + 1 : Nat) 0] } → Heap.SameBut it s.heap h' → Q x { s with heap := h' }) :
    wpAny (model prog w) A (Builtin.SmallTypes.nextOf (.ref it)) Q E s := by
  have hT : s.TypeIs (.ref it) "list_iterator" := ⟨_, hit, rfl⟩
  obtain ⟨ol, hol, _, nl, hdl⟩ := hl
  unfold Builtin.SmallTypes.nextOf
  refine wpAny_bind (wpAny_callSpecial?_slot (name := Str.ofString "__next__") hT slot_listiter_next (wpAny_call_entry slot_listiter_next hT entry_listiter_next ?_ (args_listiter_next _)))
  show wpAny _ _ (field (.ref it) 0 >>= _) _ _ s
  refine wpAny_bind (wpAny_field hit rfl (x := .ref l) rfl ?_)
  show wpAny _ _ (if (Value.ref l == Value.none) = true then _ else _) _ _ s
  rw [if_neg (show ¬ ((Value.ref l == Value.none) = true) from Bool.false_ne_true)]
  show wpAny _ _ (field (.ref it) 1 >>= _) _ _ s
  refine wpAny_bind (wpAny_field hit rfl (x := .int i 0) rfl ?_)
  show wpAny _ _ (seqItems? (.ref l) >>= _) _ _ s
  refine wpAny_bind (wpAny_seqItems hol hdl ?_)
  simp only [Int.toNat_natCast, hx]
  refine wpAny_bind (wpAny_setField_rec hit (by simp) fun h₁ h1 hs₁ => wpAny_pure ⟨_, rfl, wpAny_pure (hQ h₁ ?_ hs₁)⟩)
  rw [h1]; rfl

noncomputable abbrev zipO (f0 : Value) (TI TO : Addr) : Obj := { cls := .type "zip", dict := none, data := .fields #[f0, .bool false, .bool false, .ref TI, .ref TO], slots := #[] }
noncomputable abbrev pairO (a b : Value) : Obj := { cls := .type "tuple", data := .seq #[a, b] }
noncomputable abbrev ritO (x left step : Int) : Obj := { cls := .type "range_iterator", dict := none, data := .fields #[rawInt x, rawInt left, rawInt step], slots := #[] }
noncomputable abbrev litO (l : Addr) (k : Nat) : Obj := { cls := .type "list_iterator", data := .fields #[.ref l, .int k 0] }

theorem zip_item {z TI TO i1 i2 l2 : Addr} {k2 : Nat} {ys : Array Value} {y a b : Value} {x left step : Int} {Q : Option Value → Shared → Prop}
    (ne : (TI ≠ z ∧ TO ≠ z ∧ i1 ≠ z ∧ i2 ≠ z) ∧ (TI ≠ TO ∧ TI ≠ i1 ∧ TI ≠ i2) ∧ (TO ≠ i1 ∧ TO ≠ i2 ∧ i1 ≠ i2) ∧ (l2 ≠ z ∧ l2 ≠ TO ∧ l2 ≠ i1 ∧ l2 ≠ i2))
    (hz : s.heap.get? z = some (zipO .none TI TO)) (hTI : s.heap.get? TI = some (pairO (.ref i1) (.ref i2))) (hTO : s.heap.get? TO = some (pairO a b))
    (h1 : s.heap.get? i1 = some (ritO x left step)) (hleft : 0 < left) (h2 : s.heap.get? i2 = some (litO l2 k2)) (hl2 : s.heap.IsList l2 ys) (hy : ys[k2]? = some y)
    (hQ : ∀ h' tx, h'.get? z = some (zipO (rawInt s.heap.objs.size) TI TO) → h'.get? TO = some (pairO (.int x tx) y) → h'.get? i1 = some (ritO (x + step) (left - 1) step) → h'.get? i2 = some (litO l2 (k2 + 1)) →
      h'.get? s.heap.objs.size = some (pairO (.int x tx) y) → (∀ c o, c ≠ z → c ≠ TO → c ≠ i1 → c ≠ i2 → s.heap.get? c = some o → h'.get? c = some o) → Q (some (.ref s.heap.objs.size)) { s with heap := h', toks := s.toks + 1 }) :
    wpAny (model prog w) A (pyNext (.ref z)) Q E s := by
  obtain ⟨⟨nTIz, nTOz, n1z, n2z⟩, ⟨nTITO, nTI1, nTI2⟩, ⟨nTO1, nTO2, n12⟩, nlz, nlTO, nl1, nl2⟩ := ne
  have hT : s.TypeIs (.ref z) "zip" := ⟨_, hz, rfl⟩
  unfold pyNext
  refine wpAny_bind (wpAny_attempt (wpAny_callSpecial?_slot (name := Str.ofString "__next__") hT F.slot_zip_next (wpAny_call_entry F.slot_zip_next hT F.entry_zip_next ?_ (F.args_zip_next_1 _))))
  show wpAny _ _ (field (.ref z) 2 >>= _) _ _ _
  refine wpAny_bind (wpAny_field hz rfl (x := .bool false) rfl ?_)
  show wpAny _ _ (field (.ref z) 3 >>= _) _ _ _
  refine wpAny_bind (wpAny_field hz rfl (x := .ref TI) rfl ?_)
  refine wpAny_bind (wpAny_seqItems hTI rfl ?_)
  show wpAny _ _ (Builtin.SmallTypes.ownedTupleIsFree (.ref z) >>= _) _ _ _
  refine wpAny_bind ?_
  unfold Builtin.SmallTypes.ownedTupleIsFree
  refine wpAny_bind (wpAny_field hz rfl (x := .none) rfl (wpAny_pure ?_))
  simp only [if_true]
  refine wpAny_bind (wpAny_rule ?_)
  refine wpAny_bind (wpAny_field hz rfl (x := .ref TO) rfl ?_)
  refine wpAny_bind (wpAny_setField_rec hz (by simp) fun h₁ hz₁ hs₁ => ?_)
  replace hz₁ : IsZip h₁ z TI TO .ellipsis := hz₁
  refine wpAny_bind ?_
  simp only [List.zipIdx_cons, List.zipIdx_nil, List.forIn_cons, List.forIn_nil]
  refine wpAny_bind (wpAny_bind (wpAny_onRaise ?_))
  show wpAny _ _ (Builtin.SmallTypes.nextOf (.ref i1) >>= _) _ _ _
  refine wpAny_bind (nextOf_range (hs₁.extBut _ _ n1z h1) hleft fun h₂ h1₂ hs₂ => wpAny_pure ?_)
  have hTO₂ : IsPair h₂ TO a b := hs₂.extBut _ _ nTO1 (hs₁.extBut _ _ nTOz hTO)
  refine wpAny_bind (wpAny_seqItems hTO₂ rfl ?_)
  refine wpAny_bind (wpAny_updateSeq_pair hTO₂ fun h₃ hTO₃ hs₃ => ?_)
  replace hTO₃ : IsPair h₃ TO (.int x s.toks) b := hTO₃
  refine wpAny_bind (wpAny_letGo (wpAny_pure ?_))
  refine wpAny_bind (wpAny_bind (wpAny_onRaise ?_))
  show wpAny _ _ (Builtin.SmallTypes.nextOf (.ref i2) >>= _) _ _ _
  refine wpAny_bind (nextOf_list (hs₃.extBut _ _ nTO2.symm (hs₂.extBut _ _ n12.symm (hs₁.extBut _ _ n2z h2))) (((hl2.extBut hs₁.extBut nlz).extBut hs₂.extBut nl1).extBut hs₃.extBut nlTO) hy fun h₄ h2₄ hs₄ => wpAny_pure ?_)
  have hTO₄ : IsPair h₄ TO (.int x s.toks) b := hs₄.extBut _ _ nTO2 hTO₃
  refine wpAny_bind (wpAny_seqItems hTO₄ rfl ?_)
  refine wpAny_bind (wpAny_updateSeq_pair hTO₄ fun h₅ hTO₅ hs₅ => ?_)
  replace hTO₅ : IsPair h₅ TO (.int x s.toks) y := hTO₅
  refine wpAny_bind (wpAny_letGo (wpAny_pure (wpAny_pure ?_)))
  refine wpAny_bind (wpAny_seqItems hTO₅ rfl ?_)
  refine wpAny_bind (wpAny_newTuple ?_)
  have hsz : h₅.objs.size = s.heap.objs.size := by rw [hs₅.1, hs₄.1, hs₃.1, hs₂.1, hs₁.1]
  have hz₅ : IsZip h₅ z TI TO .ellipsis := hs₅.extBut _ _ nTOz.symm (hs₄.extBut _ _ n2z.symm (hs₃.extBut _ _ nTOz.symm (hs₂.extBut _ _ n1z.symm hz₁)))
  have hk₅ : ∀ c o, c ≠ z → c ≠ TO → c ≠ i1 → c ≠ i2 → s.heap.get? c = some o → h₅.get? c = some o := fun c o c1 c2 c3 c4 e =>
    hs₅.extBut _ _ c2 (hs₄.extBut _ _ c4 (hs₃.extBut _ _ c2 (hs₂.extBut _ _ c3 (hs₁.extBut _ _ c1 e))))
  have h1₅ : h₅.get? i1 = some (ritO (x + step) (left - 1) step) := hs₅.extBut _ _ nTO1.symm (hs₄.extBut _ _ n12 (hs₃.extBut _ _ nTO1.symm h1₂))
  have h2₅ : h₅.get? i2 = some (litO l2 (k2 + 1)) := hs₅.extBut _ _ nTO2.symm h2₄
  have hzlt : z < h₅.objs.size := Heap.lt_size hz₅
  show wpAny _ _ (Builtin.SmallTypes.ownedTupleHandOut (.ref z) (.ref h₅.objs.size) >>= _) _ _ _
  refine wpAny_bind ?_
  unfold Builtin.SmallTypes.ownedTupleHandOut
  have hz₆ : IsZip (h₅.push { cls := .type "tuple", data := .seq #[.int x s.toks, y] }) z TI TO .ellipsis := Heap.get?_push_of_some _ hz₅
  refine wpAny_bind (wpAny_setField_rec hz₆ (by simp) fun h₇ hz₇ hs₇ => ?_)
  replace hz₇ : IsZip h₇ z TI TO (rawInt h₅.objs.size) := hz₇
  refine wpAny_setField_rec hz₇ (by simp) fun h₈ hz₈ hs₈ => ?_
  replace hz₈ : IsZip h₈ z TI TO (rawInt h₅.objs.size) := hz₈
  have up : ∀ c o, c ≠ z → h₅.get? c = some o → h₈.get? c = some o := fun c o c1 e => hs₈.extBut _ _ c1 (hs₇.extBut _ _ c1 (Heap.get?_push_of_some _ e))
  have hT₈ : IsPair h₈ h₅.objs.size (.int x s.toks) y := hs₈.extBut _ _ (Nat.ne_of_gt hzlt) (hs₇.extBut _ _ (Nat.ne_of_gt hzlt) (Heap.get?_push_size _ rfl))
  rw [hsz] at hz₈ hT₈
  refine wpAny_pure ⟨_, rfl, wpAny_pure ?_⟩
  show Q (some (.ref h₅.objs.size)) _
  rw [hsz]
  exact hQ h₈ s.toks hz₈ (up _ _ nTOz hTO₅) (up _ _ n1z h1₅) (up _ _ n2z h2₅) hT₈ fun c o c1 c2 c3 c4 e => up c o c1 (hk₅ c o c1 c2 c3 c4 e)

theorem zip_end {z TI TO i1 i2 : Addr} {a b : Value} {x left step : Int} {Q : Option Value → Shared → Prop} (hh : A.handled = none) (n1z : i1 ≠ z)
    (hz : s.heap.get? z = some (zipO .none TI TO)) (hTI : s.heap.get? TI = some (pairO (.ref i1) (.ref i2))) (_hTO : s.heap.get? TO = some (pairO a b))
    (h1 : s.heap.get? i1 = some (ritO x left step)) (hleft : left ≤ 0)
    (hQ : ∀ h', (∀ c o, c ≠ z → c ≠ i1 → s.heap.get? c = some o → h'.get? c = some o) → Q none { s with heap := h' }) :
    wpAny (model prog w) A (pyNext (.ref z)) Q E s := by
  have hT : s.TypeIs (.ref z) "zip" := ⟨_, hz, rfl⟩
  unfold pyNext
  refine wpAny_bind (wpAny_attempt (wpAny_callSpecial?_slot (name := Str.ofString "__next__") hT F.slot_zip_next (wpAny_call_entry F.slot_zip_next hT F.entry_zip_next ?_ (F.args_zip_next_1 _))))
  show wpAny _ _ (field (.ref z) 2 >>= _) _ _ _
  refine wpAny_bind (wpAny_field hz rfl (x := .bool false) rfl ?_)
  show wpAny _ _ (field (.ref z) 3 >>= _) _ _ _
  refine wpAny_bind (wpAny_field hz rfl (x := .ref TI) rfl ?_)
  refine wpAny_bind (wpAny_seqItems hTI rfl ?_)
  show wpAny _ _ (Builtin.SmallTypes.ownedTupleIsFree (.ref z) >>= _) _ _ _
  refine wpAny_bind ?_
  unfold Builtin.SmallTypes.ownedTupleIsFree
  refine wpAny_bind (wpAny_field hz rfl (x := .none) rfl (wpAny_pure ?_))
  simp only [if_true]
  refine wpAny_bind (wpAny_rule ?_)
  refine wpAny_bind (wpAny_field hz rfl (x := .ref TO) rfl ?_)
  refine wpAny_bind (wpAny_setField_rec hz (by simp) fun h₁ hz₁ hs₁ => ?_)
  replace hz₁ : IsZip h₁ z TI TO .ellipsis := hz₁
  refine wpAny_bind ?_
  simp only [List.zipIdx_cons, List.zipIdx_nil, List.forIn_cons, List.forIn_nil]
  refine wpAny_bind (wpAny_bind (wpAny_onRaise ?_))
  show wpAny _ _ (Builtin.SmallTypes.nextOf (.ref i1) >>= _) _ _ _
  refine wpAny_bind (nextOf_range_end hh (hs₁.extBut _ _ n1z h1) hleft fun h₂ e hs₂ he => ?_)
  obtain ⟨oe, hoe, hce⟩ := he
  have hz₂ : IsZip h₂ z TI TO .ellipsis := hs₂ _ _ n1z.symm hz₁
  have hez : e ≠ z := fun x => by subst x; rw [hz₂] at hoe; cases hoe; simp at hce
  refine wpAny_setField_rec hz₂ (by simp) fun h₃ _ hs₃ => ?_
  refine wpAny_bind (wpAny_isInstance (T := "StopIteration") (b := true) ⟨oe, hs₃.extBut _ _ hez hoe, hce⟩ isSubtype_stop ?_)
  exact wpAny_pure (hQ h₃ fun c o c1 c3 x => hs₃.extBut _ _ c1 (hs₂ _ _ c3 (hs₁.extBut _ _ c1 x)))
end
end Mine
end SZ1

section SZ2
namespace Mine
noncomputable abbrev zH1 (h : Heap) (a b c : Int) : Heap := h.push (ritO a (Builtin.Range.rangeSize a b c) c)
noncomputable abbrev zH2 (h : Heap) (a b c : Int) (I : Addr) : Heap := (zH1 h a b c).push (pairO (.ref h.objs.size) (.ref I))
noncomputable abbrev zH3 (h : Heap) (a b c : Int) (I : Addr) : Heap := (zH2 h a b c I).push (pairO .none .none)
noncomputable abbrev zH4 (h : Heap) (a b c : Int) (I : Addr) : Heap := (zH3 h a b c I).push (zipO .none (zH1 h a b c).objs.size (zH2 h a b c I).objs.size)
theorem lt_push (h : Heap) (o : Obj) : h.objs.size < (h.push o).objs.size := by rw [Heap.size_push]; exact Nat.lt_succ_self _
theorem meets_zip (r I l : Addr) (a b c : Int) (t u v : Tok) (k : Nat) (hsmall : Builtin.Range.small a b c = true) :
    Meets (Builtin.«zip.__new__» ⟨[.type "zip", .ref r, .ref I], []⟩) (fun _ R s => IsRange s.heap r a b c t u v ∧ s.heap.IsListIter I l k ∧
      R (.ok (.ret (.ref (zH3 s.heap a b c I).objs.size))) { s with heap := zH4 s.heap a b c I }) :=
  .of_wp fun prog w A R s h => by
    obtain ⟨hp, g, d, tk, os⟩ := s; obtain ⟨hl1, hl2, h⟩ := h
    have hsub := sub_zip
    have hL1 : IsRange (Shared.heap ⟨hp, g, d, tk, os⟩) r a b c t u v := hl1
    have hL2 : Heap.IsListIter (Shared.heap ⟨zH1 hp a b c, g, d, tk, os⟩) I l k := let ⟨o, ho, q⟩ := hl2; ⟨o, Heap.get?_push_of_some _ ho, q⟩
    wp_walk using wpAny_pyIter_range hL1 hsmall, wpAny_pyIter_listiter hL2
    exact ⟨_, rfl, h⟩
section
variable {prog : Program} {w : World} {A : Around} {E : Value → Shared → Prop} {s : Shared} {h₀ : Heap} {L : Addr} {m : Str → Option Value} {news : List (Addr × Obj)}
theorem zip_new {r I l : Addr} {a b c : Int} {t u v : Tok} {k : Nat} {Q : Value → Shared → Prop} (hsmall : Builtin.Range.small a b c = true) (F : Fr h₀ L s.heap m) (N : News h₀ L s.heap news) (hr : IsRange s.heap r a b c t u v) (hI : s.heap.IsListIter I l k)
    (h : ∀ Z TO TI RI h', Fr h₀ L h' m → News h₀ L h' ((Z, zipO .none TI TO) :: (TO, pairO .none .none) :: (TI, pairO (.ref RI) (.ref I)) :: (RI, ritO a (Builtin.Range.rangeSize a b c) c) :: news) → (∀ p ∈ news, p.1 < RI) → RI < TI → TI < TO → TO < Z → I < RI → Q (.ref Z) { s with heap := h' }) :
    wpAny (model prog w) A (call (.type "zip") [.ref r, .ref I]) Q E s := by
  refine callType_new PySem.F.called_zip (by decide) (PySem.F.typeCall_zip_2 _ _) (PySem.F.newCall_zip_2 _ _) (fun obj => PySem.F.args_object_init_3 obj _ _) PySem.F.entry_zip_new (meets_zip r I l a b c t u v k hsmall) ⟨hr, hI, ?_⟩
  have N1 := N.push F (ritO a (Builtin.Range.rangeSize a b c) c)
  have F1 := F.push (ritO a (Builtin.Range.rangeSize a b c) c)
  have N2 := N1.push F1 (pairO (.ref s.heap.objs.size) (.ref I))
  have F2 := F1.push (pairO (.ref s.heap.objs.size) (.ref I))
  have N3 := N2.push F2 (pairO .none .none)
  have F3 := F2.push (pairO .none .none)
  have N4 := N3.push F3 (zipO .none (zH1 s.heap a b c).objs.size (zH2 s.heap a b c I).objs.size)
  have F4 := F3.push (zipO .none (zH1 s.heap a b c).objs.size (zH2 s.heap a b c I).objs.size)
  refine ⟨⟨_, (N4 _ (.head _)).1, rfl⟩, h _ _ _ _ _ F4 N4 (fun p hp => Heap.lt_size (N p hp).1) ?_ ?_ ?_ ?_⟩
  · exact lt_push _ _
  · exact lt_push (zH1 s.heap a b c) _
  · exact lt_push (zH2 s.heap a b c I) _
  · obtain ⟨o, ho, _⟩ := hI; exact Heap.lt_size ho
theorem iter_list {l : Addr} {its : Array Value} {Q : Value → Shared → Prop} (F : Fr h₀ L s.heap m) (N : News h₀ L s.heap news) (hl : s.heap.IsList l its)
    (h : ∀ I h', Fr h₀ L h' m → News h₀ L h' ((I, litO l 0) :: news) → (∀ p ∈ news, p.1 < I) → Q (.ref I) { s with heap := h' }) :
    wpAny (model prog w) A (call (.builtin "iter") [.ref l]) Q E s := by
  refine call_function_tree (id := "iter") (b := Builtin.«iter») (by decide +kernel) (by decide +kernel) (entryFor_of_tree (by kernel_rfl)) (by unfold argsOk; kernel_rfl) ?_
  unfold Builtin.«iter»
  refine wpAny_bind (m := someArgs "iter" 1 2 _) (wpAny_pure ?_)
  refine wpAny_bind (wpAny_pyIter_list hl (wpAny_pure ?_))
  exact h _ _ (F.push _) (N.push F _) fun p hp => Heap.lt_size (N p hp).1
end
end Mine
end SZ2

section SB3
namespace Mine
/-- a list of numbers that goes up -/
noncomputable def Up : List Nat → Prop
  | a :: b :: r => a < b ∧ Up (b :: r)
  | _ => True
theorem Up.pair : ∀ {l : List Nat}, Up l → l.Pairwise (· < ·)
  | [], _ => .nil
  | [a], _ => List.pairwise_singleton _ a
  | a :: b :: r, h => by
    have p := Up.pair h.2
    refine List.pairwise_cons.mpr ⟨fun c hc => ?_, p⟩
    rcases List.mem_cons.mp hc with rfl | hc
    · exact h.1
    · exact Nat.lt_trans h.1 ((List.pairwise_cons.mp p).1 c hc)
theorem nodup_idx {c : List Nat} (h : Up c) (idx : List Nat) (hi : idx.Nodup) : (idx.filterMap fun i => c[i]?).Nodup := by
  have p := h.pair
  refine List.Pairwise.filterMap (S := (· ≠ ·)) _ (fun i j hij b hb b' hb' e => ?_) hi
  subst e
  obtain ⟨i1, rfl⟩ := List.getElem?_eq_some_iff.mp hb
  obtain ⟨j1, e⟩ := List.getElem?_eq_some_iff.mp hb'
  rcases Nat.lt_trichotomy i j with h1 | h1 | h1
  · exact Nat.ne_of_lt (List.pairwise_iff_getElem.mp p i j i1 j1 h1) e.symm
  · exact hij h1
  · exact Nat.ne_of_lt (List.pairwise_iff_getElem.mp p j i j1 i1 h1) e
theorem mem_idx {α : Type} {l : List α} {idx : List Nat} {a : α} (h : a ∈ idx.filterMap fun i => l[i]?) : a ∈ l := by
  obtain ⟨i, _, hi⟩ := List.mem_filterMap.mp h
  exact List.mem_of_getElem? hi
theorem news_idx {g h : Heap} {L : Addr} {l : List (Addr × Obj)} (N : News g L h l) (idx : List Nat) : News g L h (idx.filterMap fun i => l[i]?) := fun q hq => N q (mem_idx hq)
theorem news_cat {g h : Heap} {L : Addr} {a b : List (Addr × Obj)} (N : News g L h a) (M : News g L h b) : News g L h (a ++ b) := fun q hq => (List.mem_append.mp hq).elim (N q) (M q)
theorem news_l {g h : Heap} {L : Addr} {a b : List (Addr × Obj)} (N : News g L h (a ++ b)) : News g L h a := fun q hq => N q (List.mem_append_left _ hq)
theorem news_r {g h : Heap} {L : Addr} {a b : List (Addr × Obj)} (N : News g L h (a ++ b)) : News g L h b := fun q hq => N q (List.mem_append_right _ hq)
theorem off_nd {a : Addr} {l : List (Addr × Obj)} (h : (a :: l.map (·.1)).Nodup) : ∀ q ∈ l, q.1 ≠ a := fun _ hq e => (List.nodup_cons.mp h).1 (e ▸ List.mem_map_of_mem hq)
theorem nodup_sub {α : Type} {c : List α} (h : c.Nodup) (idx : List Nat) (hi : idx.Nodup) : (idx.filterMap fun i => c[i]?).Nodup := by
  refine List.Pairwise.filterMap (S := (· ≠ ·)) _ (fun i j hij b hb b' hb' e => ?_) hi
  subst e
  obtain ⟨i1, e1⟩ := List.getElem?_eq_some_iff.mp hb
  obtain ⟨j1, e2⟩ := List.getElem?_eq_some_iff.mp hb'
  exact hij ((List.getElem_inj (xs := c) h (h₀ := i1) (h₁ := j1)).mp (e1.trans e2.symm))
theorem all_nil {α : Type} {P : α → Prop} : ∀ a ∈ ([] : List α), P a := fun _ h => nomatch h
theorem all_cons {α : Type} {P : α → Prop} {x : α} {l : List α} (h : P x) (t : ∀ a ∈ l, P a) : ∀ a ∈ x :: l, P a := fun a ha => by
  rcases List.mem_cons.mp ha with e | ha
  · exact e ▸ h
  · exact t a ha
theorem all_app {α : Type} {P : α → Prop} {l r : List α} (h : ∀ a ∈ l, P a) (t : ∀ a ∈ r, P a) : ∀ a ∈ l ++ r, P a := fun a ha => (List.mem_append.mp ha).elim (h a) (t a)
/-- what the heap at the top tells of a function -/
noncomputable def fnAt (K : Frag) (f : Addr) : FuncData := match K.lookup f with
  | some ⟨_, _, .func fd, _⟩ => fd
  | _ => default
noncomputable def fnBody (K : Frag) (f : Addr) : List Stmt := match (fnAt K f).body with
  | .stmts b => b
  | _ => []
theorem fn_at {K : Frag} {f : Addr} {name qual : Str} {params : Arguments} {body : List Stmt} {scope : Scope} {cl : List (Str × Addr)} {dV kV doc pm cdv ct oc : Value} {an od : Option Addr} {osl : Array (Option Value)}
    (ho : K.lookup f = some ⟨oc, od, .func (fnX name qual params body scope cl dV kV doc pm an cdv ct), osl⟩) : fnX name qual params body scope cl dV kV doc pm an cdv ct = fnAt K f := by
  unfold fnAt
  rw [ho]
theorem fn_eq {K : Frag} {f : Addr} {name qual : Str} {params : Arguments} {body : List Stmt} {scope : Scope} {cl : List (Str × Addr)} {dV kV doc pm cdv ct oc : Value} {an od : Option Addr} {osl : Array (Option Value)}
    (ho : K.lookup f = some ⟨oc, od, .func (fnX name qual params body scope cl dV kV doc pm an cdv ct), osl⟩) {q' : Str} {c' : List (Str × Addr)} {v' : Value} (h1 : (fnAt K f).qualname = q') (h2 : (fnAt K f).closure = c') (h3 : (fnAt K f).code = v') :
    qual = q' ∧ scope = (fnAt K f).scope ∧ cl = c' ∧ cdv = v' ∧ body = fnBody K f :=
  have e := fn_at ho
  ⟨(congrArg FuncData.qualname e).trans h1, congrArg FuncData.scope e, (congrArg FuncData.closure e).trans h2, (congrArg FuncData.code e).trans h3, by unfold fnBody; rw [← e]⟩
theorem fn_exec {prog : Program} {w : World} {A : Around} {L f : Addr} {Q : Flow → Shared → Prop} {E : Value → Shared → Prop} {s : Shared} {qual q' : Str} {scope s' : Scope} {cl c' : List (Str × Addr)} {cdv v' : Value} {body b' : List Stmt} (F : List Stmt → Stmt) {S : Stmt} (hS : S = F body) (e : qual = q' ∧ scope = s' ∧ cl = c' ∧ cdv = v' ∧ body = b')
    (h : wpAny (model prog w) (A.deeper (envX q' s' L f v' c')) (exec (F b') (envX q' s' L f v' c')) Q E s) : wpAny (model prog w) (A.deeper (envX qual scope L f cdv cl)) (exec S (envX qual scope L f cdv cl)) Q E s := by
  obtain ⟨rfl, rfl, rfl, rfl, rfl⟩ := e
  subst hS
  exact h
theorem fn_execs {prog : Program} {w : World} {A : Around} {L f : Addr} {Q : Flow → Shared → Prop} {E : Value → Shared → Prop} {s : Shared} {qual q' : Str} {scope s' : Scope} {cl c' : List (Str × Addr)} {cdv v' : Value} {body b' : List Stmt} (F : List Stmt → List Stmt) {S : List Stmt} (hS : S = F body) (e : qual = q' ∧ scope = s' ∧ cl = c' ∧ cdv = v' ∧ body = b')
    (h : wpAny (model prog w) (A.deeper (envX q' s' L f v' c')) (execs (F b') (envX q' s' L f v' c')) Q E s) : wpAny (model prog w) (A.deeper (envX qual scope L f cdv cl)) (execs S (envX qual scope L f cdv cl)) Q E s := by
  obtain ⟨rfl, rfl, rfl, rfl, rfl⟩ := e
  subst hS
  exact h
theorem fn_ho {K : Frag} {f : Addr} {name qual q' : Str} {params : Arguments} {body b' : List Stmt} {scope s' : Scope} {cl c' : List (Str × Addr)} {dV kV doc pm cdv v' ct oc : Value} {an od : Option Addr} {osl : Array (Option Value)} (e : qual = q' ∧ scope = s' ∧ cl = c' ∧ cdv = v' ∧ body = b')
    (ho : K.lookup f = some ⟨oc, od, .func (fnX name qual params body scope cl dV kV doc pm an cdv ct), osl⟩) : K.lookup f = some ⟨oc, od, .func (fnX name q' params b' s' c' dV kV doc pm an v' ct), osl⟩ := by
  obtain ⟨rfl, rfl, rfl, rfl, rfl⟩ := e
  exact ho
theorem news_cons {g h : Heap} {L : Addr} {l : List (Addr × Obj)} {a : Addr} {o : Obj} (x : h.get? a = some o ∧ a ≠ L ∧ g.get? a = none) (N : News g L h l) : News g L h ((a, o) :: l) := fun q hq => by
  rcases List.mem_cons.mp hq with rfl | hq
  · exact x
  · exact N q hq
theorem news_nil {g h : Heap} {L : Addr} : News g L h [] := fun _ hq => nomatch hq
theorem all_map {α β : Type} {P : β → Prop} {f : α → β} {l : List α} (h : ∀ x ∈ l, P (f x)) : ∀ q ∈ l.map f, P q := fun q hq => by
  obtain ⟨x, hx, rfl⟩ := List.mem_map.mp hq
  exact h x hx
theorem cons_of {α : Type} {l : List α} {n : Nat} (h : l.length = n + 1) : ∃ a t, l = a :: t ∧ t.length = n := by
  cases l with
  | nil => exact nomatch h
  | cons a t => exact ⟨a, t, rfl, Nat.succ.inj h⟩
theorem nil_of {α : Type} {l : List α} (h : l.length = 0) : l = [] := List.length_eq_zero_iff.mp h
theorem split2 {α : Type} {l r : List α} (h : l.length + r.length = 2) {G : Prop} (k0 : ∀ x y, l = [] → r = [x, y] → G) (k1 : ∀ x y, l = [x] → r = [y] → G) (k2 : ∀ x y, l = [x, y] → r = [] → G) : G := by
  cases l with
  | nil =>
    obtain ⟨x, t, e, ht⟩ := cons_of (n := 1) ((Nat.zero_add _).symm.trans h)
    obtain ⟨y, u, e', hu⟩ := cons_of (n := 0) ht
    exact k0 x y rfl (by rw [e, e', nil_of hu])
  | cons x l =>
    have h1 : l.length + r.length = 1 := Nat.succ.inj ((Nat.succ_add _ _).symm.trans h)
    cases l with
    | nil =>
      obtain ⟨y, u, e', hu⟩ := cons_of (n := 0) ((Nat.zero_add _).symm.trans h1)
      exact k1 x y rfl (by rw [e', nil_of hu])
    | cons y l =>
      have h2 : l.length + r.length = 0 := Nat.succ.inj ((Nat.succ_add _ _).symm.trans h1)
      exact k2 x y (by rw [nil_of (Nat.eq_zero_of_add_eq_zero_right h2)]) (nil_of (Nat.eq_zero_of_add_eq_zero_left h2))
theorem item_at {prog : Program} {w : World} {A : Around} {E : Value → Shared → Prop} {s : Shared} {value slice : PySem.Expr} {l : Addr} {vs : Array Value} {n : Nat} {k : Int} {u : Tok} {v : Value} {Q : Value → Shared → Prop}
    (hl : s.heap.get? l = some (lstO vs n)) (h0 : 0 ≤ k) (hhi : k < 2 ^ 63) (hx : vs[k.toNat]? = some v) (h : Q v s)
    (hs : subscripted slice false (.ref l) (.int k u) = operate [.ref l, .int k u] (getItem (.ref l) (.int k u)) := by with_unfolding_all rfl) :
    wpAny (model prog w) A (subscriptTail value slice (.ref l) (.int k u)) Q E s :=
  tail_any (T := "list") ⟨_, hl, rfl⟩ slot_list_getitem.lookup (wpAny_getItem_list ⟨_, hl, rfl, _, rfl⟩ h0 hhi hx h) hs
theorem tup_at {prog : Program} {w : World} {A : Around} {E : Value → Shared → Prop} {s : Shared} {value slice : PySem.Expr} {l : Addr} {vs : Array Value} {k : Int} {u : Tok} {v : Value} {Q : Value → Shared → Prop}
    (hl : s.heap.get? l = some { cls := .type "tuple", data := .seq vs }) (h0 : 0 ≤ k) (hhi : k < 2 ^ 63) (hx : vs[k.toNat]? = some v) (h : Q v s)
    (hs : subscripted slice false (.ref l) (.int k u) = operate [.ref l, .int k u] (getItem (.ref l) (.int k u)) := by with_unfolding_all rfl) :
    wpAny (model prog w) A (subscriptTail value slice (.ref l) (.int k u)) Q E s :=
  tail_any (T := "tuple") ⟨_, hl, rfl⟩ slot_tuple_getitem.lookup (PyProof.Rows.getItem_tuple (items := vs) ⟨_, hl, rfl, _, rfl⟩ (by omega) hhi (seqIndex_of h0 (by
    have := (Array.getElem?_eq_some_iff.mp hx).1
    omega)) hx h) hs
end Mine
end SB3

section SZ3
namespace Mine
open PyProof.Rows.LCg (NsObj ns_obj lst)
section
variable {prog : Program} {w : World} {A : Around} {E : Value → Shared → Prop} {s : Shared} {h₀ : Heap} {L : Addr} {m : Str → Option Value} {R : Result → Shared → Prop}
theorem comp_turn2 {elt iter : Expr} {elts : List Expr} {x1} {tp : Pos} {scope : Scope} {pos : Pos} {it acc : Value} {cenv : Env}
    (h : wpAny (model prog w) A (pyNext it) (fun r s₁ => match r with
      | none => R (.ok .next) s₁
      | some v => wpAny (model prog w) A (letOwnedTupleGo (.Tuple elts x1 tp) it v) (fun _ s₁' => wpAny (model prog w) A (assign (.Tuple elts x1 tp) cenv v) (fun _ s₂ =>
          wpAny (model prog w) A (eval elt cenv) (fun x s₄ =>
              wpAny (model prog w) A (call (.builtin "list.append") [acc, x]) (fun _ s₅ => codeAny (model prog w) A (.compLoop (.ListComp elt [⟨.Tuple elts x1 tp, iter, [], 0⟩] scope pos) 0 it acc cenv) R s₅) (notedBy (model prog w) A cenv fun e s' => R (.error e) s') s₄) (notedBy (model prog w) A cenv fun e s' => R (.error e) s') s₂)
          (notedBy (model prog w) A cenv fun e s' => R (.error e) s') s₁') (notedBy (model prog w) A cenv fun e s' => R (.error e) s') s₁) (notedBy (model prog w) A cenv fun e s' => R (.error e) s') s) :
    codeAny (model prog w) A (.compLoop (.ListComp elt [⟨.Tuple elts x1 tp, iter, [], 0⟩] scope pos) 0 it acc cenv) R s := by
  refine codeAny_of_tree ?_
  show wpAny _ A ((compTurn (.ListComp elt [⟨.Tuple elts x1 tp, iter, [], 0⟩] scope pos) 0 it acc cenv).onRaise (fun x => do noteFrame x cenv; theTreesLotGoes x)) _ _ s
  refine wpAny_noted ?_
  rw [compTurn_list]
  refine wpAny_bind (wpAny_standAt (wpAny_bind (wpAny_mono h (fun r s₁ h₁ => ?_) fun _ _ h' => h')))
  cases r with
  | none => exact wpAny_pure h₁
  | some v =>
    refine wpAny_bind (wpAny_mono h₁ (fun _ s₁' h₁' => ?_) fun _ _ h' => h')
    refine wpAny_bind (wpAny_mono h₁' (fun _ s₂ h₂ => wpAny_bind (wpAny_mono (wpAny_tests_nil (Q := fun ok s₃ => ok = true ∧ s₃ = s₂) ⟨rfl, rfl⟩) (fun ok s₃ h₃ => ?_) fun _ _ h' => h')) fun _ _ h' => h')
    obtain ⟨rfl, rfl⟩ := h₃
    exact wpAny_bind (wpAny_bind (wpAny_mono h₂ (fun x s₄ h₄ => wpAny_bind (wpAny_mono h₄ (fun _ s₅ h₅ => wpAny_pure (wpAny_pure ⟨rfl, h₅⟩)) fun _ _ h' => h')) fun _ _ h' => h'))

theorem zip_turn {elt iter : Expr} {xa xb : Str} {pa pb tp : Pos} {kt : Nat} {scope : Scope} {pos : Pos} {cl : List (Str × Addr)} {env : Env} {C D Z TO TI RI I l : Addr} {oC : Obj} {a b y : Value} {x left : Int} {k : Nat} {items : Array Value} {rest : List (Addr × Obj)} {m₂ : Str → Option Value}
    (hh : A.handled = none) (F : Fr h₀ L s.heap m) (N : News h₀ L s.heap ((Z, zipO .none TI TO) :: (TO, pairO a b) :: (RI, ritO x left 1) :: (I, litO l k) :: (C, oC) :: rest)) (hTI : (TI, pairO (.ref RI) (.ref I)) ∈ rest) (hoC : NsObj oC m₂)
    (nd : (Z :: TO :: RI :: I :: C :: rest.map (·.1)).Nodup) (hl : h₀.IsList l items) (hy : items[k]? = some y) (hleft : 0 < left)
    (hxa : scope.names.lookup xa = some .local) (hxb : scope.names.lookup xb = some .local) (hab : xa ≠ xb) (hkind : scope.kind = .function)
    (helt : ∀ h' tk tx T oC' m₂', Fr h₀ L h' m → News h₀ L h' ((T, pairO (.int x tx) y) :: (Z, zipO .none TI TO) :: (TO, pairO (.int x tx) y) :: (RI, ritO (x + 1) (left - 1) 1) :: (I, litO l (k + 1)) :: (C, oC') :: rest) → NsObj oC' m₂' → m₂' xa = some (.int x tx) → m₂' xb = some y → s.heap.objs.size ≤ T →
      wpAny (model prog w) A (eval elt (compEnvC scope cl C env)) (fun v s₄ => wpAny (model prog w) A (call (.builtin "list.append") [.ref D, v]) (fun _ s₅ => codeAny (model prog w) A (.compLoop (.ListComp elt [⟨.Tuple [.Name xa pa, .Name xb pb] kt tp, iter, [], 0⟩] scope pos) 0 (.ref Z) (.ref D) (compEnvC scope cl C env)) R s₅)
        (notedBy (model prog w) A (compEnvC scope cl C env) fun e s' => R (.error e) s') s₄) (notedBy (model prog w) A (compEnvC scope cl C env) fun e s' => R (.error e) s') { s with heap := h', toks := tk }) :
    codeAny (model prog w) A (.compLoop (.ListComp elt [⟨.Tuple [.Name xa pa, .Name xb pb] kt tp, iter, [], 0⟩] scope pos) 0 (.ref Z) (.ref D) (compEnvC scope cl C env)) R s := by
  have zZ := N _ (.head _)
  have zTO := N _ (.tail _ (.head _))
  have zRI := N _ (.tail _ (.tail _ (.head _)))
  have zI := N _ (.tail _ (.tail _ (.tail _ (.head _))))
  have zC := N _ (.tail _ (.tail _ (.tail _ (.tail _ (.head _)))))
  have zR : ∀ p ∈ rest, s.heap.get? p.1 = some p.2 ∧ p.1 ≠ L ∧ h₀.get? p.1 = none := fun p hp => N p (.tail _ (.tail _ (.tail _ (.tail _ (.tail _ hp)))))
  simp only [List.nodup_cons, List.mem_cons, not_or] at nd
  obtain ⟨⟨nZTO, nZRI, nZI, nZC, nZr⟩, ⟨nTORI, nTOI, nTOC, nTOr⟩, ⟨nRII, nRIC, nRIr⟩, ⟨nIC, nIr⟩, nCr, _⟩ := nd
  have off : ∀ {q : Addr}, q ∉ rest.map (·.1) → ∀ p ∈ rest, p.1 ≠ q := fun hq p hp e => hq (e ▸ List.mem_map_of_mem hp)
  have hTI0 := zR _ hTI
  obtain ⟨ol, hol, hcl, hdl⟩ := id hl
  have nel : ∀ {q : Addr}, h₀.get? q = none → l ≠ q := fun hq e => by rw [e, hq] at hol; cases hol
  refine comp_turn2 (zip_item (k2 := k) (y := y) ⟨⟨off nZr _ hTI, Ne.symm nZTO, Ne.symm nZRI, Ne.symm nZI⟩, ⟨off nTOr _ hTI, off nRIr _ hTI, off nIr _ hTI⟩, ⟨nTORI, nTOI, nRII⟩, nel zZ.2.2, nel zTO.2.2, nel zRI.2.2, nel zI.2.2⟩
    zZ.1 hTI0.1 zTO.1 zRI.1 hleft zI.1 ⟨ol, F.keep _ _ hol, hcl, hdl⟩ hy fun h₁ tx e1 e2 e3 e4 e5 hk₁ => ?_)
  have hT0 : h₀.get? s.heap.objs.size = none := by
    cases e : h₀.get? s.heap.objs.size with
    | none => rfl
    | some o => exact absurd (Heap.lt_size (F.keep _ _ e)) (Nat.lt_irrefl _)
  have nT : ∀ {q : Addr} {o : Obj}, s.heap.get? q = some o → s.heap.objs.size ≠ q := fun e => Nat.ne_of_gt (Heap.lt_size e)
  have hnL : s.heap.objs.size ≠ L := Nat.ne_of_gt F.ns.lt
  refine wpAny_letOwnedTupleGo_zip e1 fun h₂ hz₂ hs₂ => ?_
  have up₂ : ∀ c o, c ≠ Z → c ≠ TO → c ≠ RI → c ≠ I → s.heap.get? c = some o → h₂.get? c = some o := fun c o c1 c2 c3 c4 e => hs₂.extBut _ _ c1 (hk₁ c o c1 c2 c3 c4 e)
  have t₂ : h₂.get? s.heap.objs.size = some (pairO (.int x tx) y) := hs₂.extBut _ _ (nT zZ.1) e5
  refine wpAny_assign_Tuple hh (items := #[.int x tx, y]) ⟨_, t₂, rfl, _, rfl⟩ rfl rfl fun h₃ hx₃ => ?_
  have up₃ : ∀ c o, h₂.get? c = some o → h₃.get? c = some o := fun c o e => hx₃ c o (Nat.ne_of_lt (Heap.lt_size e)) e
  show wpAny _ _ (do holding [y] (assign (.Name xa pa) (compEnvC scope cl C env) (.int x tx)); do holding [] (assign (.Name xb pb) (compEnvC scope cl C env) y); pure ()) _ _ _
  have hC₃ : h₃.Ns C m₂ := hoC.ns (up₃ _ _ (up₂ _ _ (Ne.symm nZC) (Ne.symm nTOC) (Ne.symm nRIC) (Ne.symm nIC) zC.1))
  refine wpAny_bind (wpAny_holding (wpAny_assign_Name (wpAny_storeName_local (env := compEnvC scope cl C env) (lookup_relabel_local hxa) hC₃ (fun h₄ hn₄ hs₄ => ?_) (by simp [compEnvC, relabel, hkind]))))
  refine wpAny_bind (wpAny_holding (wpAny_assign_Name (wpAny_storeName_local (env := compEnvC scope cl C env) (lookup_relabel_local hxb) hn₄ (fun h₅ hn₅ hs₅ => ?_) (by simp [compEnvC, relabel, hkind]))))
  refine wpAny_pure ?_
  obtain ⟨oC', heC, hoC'⟩ := ns_obj hn₅
  have up₅ : ∀ c o, c ≠ C → h₃.get? c = some o → h₅.get? c = some o := fun c o hc e => hs₅.extBut _ _ hc (hs₄.extBut _ _ hc e)
  have all : ∀ c o, c ≠ Z → c ≠ TO → c ≠ RI → c ≠ I → c ≠ C → s.heap.get? c = some o → h₅.get? c = some o := fun c o c1 c2 c3 c4 c5 e => up₅ c o c5 (up₃ c o (up₂ c o c1 c2 c3 c4 e))
  have none0 : ∀ {c o}, h₀.get? c = some o → ∀ {q : Addr}, h₀.get? q = none → c ≠ q := fun e q hq e' => by rw [e', hq] at e; cases e
  refine helt h₅ _ tx s.heap.objs.size oC' _ ⟨?_, ?_, F.above⟩ ?_ hoC' (by simp [hab]) (by simp) (Nat.le_refl _)
  · obtain ⟨o, es, ep, ho, r⟩ := F.ns
    exact ⟨o, es, ep, all L o (Ne.symm zZ.2.1) (Ne.symm zTO.2.1) (Ne.symm zRI.2.1) (Ne.symm zI.2.1) (Ne.symm zC.2.1) ho, r⟩
  · exact fun c o e => all c o (none0 e zZ.2.2) (none0 e zTO.2.2) (none0 e zRI.2.2) (none0 e zI.2.2) (none0 e zC.2.2) (F.keep c o e)
  · refine all_cons (⟨up₅ _ _ (nT zC.1) (up₃ _ _ t₂), hnL, hT0⟩) (all_cons (⟨up₅ _ _ nZC (up₃ _ _ hz₂), zZ.2⟩) (all_cons (⟨up₅ _ _ nTOC (up₃ _ _ (hs₂.extBut _ _ (Ne.symm nZTO) e2)), zTO.2⟩) (all_cons (⟨up₅ _ _ nRIC (up₃ _ _ (hs₂.extBut _ _ (Ne.symm nZRI) e3)), zRI.2⟩) (all_cons (⟨up₅ _ _ nIC (up₃ _ _ (hs₂.extBut _ _ (Ne.symm nZI) e4)), zI.2⟩) (all_cons (⟨heC, zC.2⟩) fun p hp => ?_)))))
    · exact ⟨all _ _ (off nZr p hp) (off nTOr p hp) (off nRIr p hp) (off nIr p hp) (off nCr p hp) (zR p hp).1, (zR p hp).2⟩

theorem zip_over {elt iter : Expr} {xa xb : Str} {pa pb tp : Pos} {kt : Nat} {scope : Scope} {pos : Pos} {cenv : Env} {D Z TO TI RI I : Addr} {a b : Value} {x left : Int} {rest : List (Addr × Obj)}
    (hh : A.handled = none) (F : Fr h₀ L s.heap m) (N : News h₀ L s.heap ((Z, zipO .none TI TO) :: (RI, ritO x left 1) :: rest)) (hTI : (TI, pairO (.ref RI) (.ref I)) ∈ rest) (hTO : (TO, pairO a b) ∈ rest)
    (nd : (Z :: RI :: rest.map (·.1)).Nodup) (hleft : left ≤ 0)
    (h : ∀ h', Fr h₀ L h' m → News h₀ L h' rest → R (.ok .next) { s with heap := h' }) :
    codeAny (model prog w) A (.compLoop (.ListComp elt [⟨.Tuple [.Name xa pa, .Name xb pb] kt tp, iter, [], 0⟩] scope pos) 0 (.ref Z) (.ref D) cenv) R s := by
  have zZ := N _ (.head _)
  have zRI := N _ (.tail _ (.head _))
  have zR : ∀ p ∈ rest, s.heap.get? p.1 = some p.2 ∧ p.1 ≠ L ∧ h₀.get? p.1 = none := fun p hp => N p (.tail _ (.tail _ hp))
  simp only [List.nodup_cons, List.mem_cons, not_or] at nd
  obtain ⟨⟨nZRI, nZr⟩, nRIr, _⟩ := nd
  have off : ∀ {q : Addr}, q ∉ rest.map (·.1) → ∀ p ∈ rest, p.1 ≠ q := fun hq p hp e => hq (e ▸ List.mem_map_of_mem hp)
  have none0 : ∀ {c o}, h₀.get? c = some o → ∀ {q : Addr}, h₀.get? q = none → c ≠ q := fun e q hq e' => by rw [e', hq] at e; cases e
  refine comp_turn2 (zip_end hh (Ne.symm nZRI) zZ.1 (zR _ hTI).1 (zR _ hTO).1 zRI.1 hleft fun h' hk => h h' ⟨?_, fun c o e => hk c o (none0 e zZ.2.2) (none0 e zRI.2.2) (F.keep c o e), F.above⟩ fun p hp => ⟨hk _ _ (off nZr p hp) (off nRIr p hp) (zR p hp).1, (zR p hp).2⟩)
  obtain ⟨o, es, ep, ho, r⟩ := F.ns
  exact ⟨o, es, ep, hk L o (Ne.symm zZ.2.1) (Ne.symm zRI.2.1) ho, r⟩

theorem comp_open {scope : Scope} {cl : List (Str × Addr)} {env : Env} {news : List (Addr × Obj)} {P : Value → Env → Shared → Prop} (F : Fr h₀ L s.heap m) (N : News h₀ L s.heap news) (hcell : ∀ y ∈ scope.names, y.2 ≠ .cell) (hkind : scope.kind = .function)
    (h : ∀ D C oC m₂ h' tk, Fr h₀ L h' m → News h₀ L h' ((C, oC) :: (D, lst []) :: news) → NsObj oC m₂ → (∀ p ∈ news, p.1 < D) → D < C → P (.ref D) { scope, locals := C, globals := env.globals, cells := cl, qual := env.qual, func := none, code := env.code, frame := env.frame, builtins := env.builtins } { s with heap := h', toks := tk }) :
    wpAny (model prog w) A (newList []) (fun acc s₃ => wpAny (model prog w) A (newFunctionEnv scope env.globals cl [] env.qual none .none (some env)) (fun cenv s₄ => P acc cenv s₄) E s₃) E s := by
  refine wpAny_newObj_type (wpAny_newFunctionEnv hcell (by intro y hy; simp at hy) (fun h₁ hns₁ hsb₁ => ?_) hkind)
  dsimp only at hns₁ hsb₁ ⊢
  generalize hH2 : s.heap.push { cls := .type "list", dict := none, data := .seq ([] : List Value).toArray } = H2 at hns₁ hsb₁ ⊢
  have F2 : Fr h₀ L H2 m := by rw [← hH2]; exact F.push _
  have N2 : News h₀ L H2 ((s.heap.objs.size, lst []) :: news) := by rw [← hH2]; exact N.push F _
  have hz : s.heap.objs.size < H2.objs.size := by rw [← hH2]; exact lt_push _ _
  have up : ∀ b o, H2.get? b = some o → h₁.get? b = some o := fun b o e => hsb₁.extBut b o (Nat.ne_of_lt (Heap.lt_size e)) (Heap.get?_push_of_some _ e)
  obtain ⟨oC, heC, hoC⟩ := ns_obj hns₁
  have hC0 : h₀.get? H2.objs.size = none := by
    cases e : h₀.get? H2.objs.size with
    | none => rfl
    | some o => exact absurd (Heap.lt_size (F2.keep _ _ e)) (Nat.lt_irrefl _)
  refine h s.heap.objs.size H2.objs.size oC _ h₁ _ (F2.keeps up) (fun p hp => ?_) hoC (fun p hp => Heap.lt_size (N p hp).1) hz
  rcases List.mem_cons.mp hp with rfl | hp
  · exact ⟨heC, Nat.ne_of_gt F2.ns.lt, hC0⟩
  · exact ⟨up _ _ (N2 p hp).1, (N2 p hp).2⟩

theorem assign_comp2 {elt iter : Expr} {tgt : Expr} {y : Str} {py : Pos} {scope : Scope} {cl : List (Str × Addr)} {pos spos : Pos} {env : Env} {Q : Flow → Shared → Prop}
    (hsw : swapsWith (.ListComp elt [⟨tgt, iter, [], 0⟩] scope pos) (some (.Name y py)) spos.line env = pure true)
    (hclos : closureFor scope env = pure cl) (hkind : scope.kind = .function)
    (hnames : ∀ z ∈ scope.names, z.2 = .local → scope.names.lookup z.1 = some .local)
    (h : wpAny (model prog w) A (eval iter env) (fun xv s₁ => wpAny (model prog w) A (pyIter xv) (fun it s₂ => wpAny (model prog w) A (newList []) (fun acc s₃ =>
      wpAny (model prog w) A (newFunctionEnv scope env.globals cl [] env.qual none .none (some env)) (fun cenv s₄ =>
        codeAny (model prog w) A (.compStart (.ListComp elt [⟨tgt, iter, [], 0⟩] scope pos) 0 it acc { cenv with scope := relabel scope env }) (compPost (model prog w) A E (some (assign (.Name y py) env)) (fun _ s' => Q .next s') acc cenv.locals) s₄) E s₃) E s₂) E s₁) E s)
    (hs : ∀ x, foldedSetIterable iter env x = pure x := by intro _; rfl) :
    wpAny (model prog w) A (exec (.Assign [.Name y py] (.ListComp elt [⟨tgt, iter, [], 0⟩] scope pos) spos) env) Q E s := by
  rw [exec_Assign_Name_used _ _ _ _ hsw]
  refine wpAny_bind (wpAny_standAt (wpAny_bind ?_))
  show wpAny _ A (do let _ ← comprehension (.ListComp elt [⟨tgt, iter, [], 0⟩] scope pos) scope env _ (newList []) false (eval iter env) (some (assign (.Name y py) env))) _ _ s
  exact wpAny_bind (wpAny_mono (wpAny_comprehension_free (use := some (assign (.Name y py) env)) (Q := fun _ s' => Q .next s') rfl hs hclos hkind hnames h) (fun _ s' hq => wpAny_pure (wpAny_pure hq)) fun _ _ e => e)

theorem comp_done {env : Env} {y : Str} {py : Pos} {P : Shared → Prop} {C D : Addr} {oC : Obj} {m₂ : Str → Option Value} {ys : List Value} {rest : List (Addr × Obj)} (hLe : env.locals = L) (F : Fr h₀ L s.heap m) (N : News h₀ L s.heap ((C, oC) :: (D, lst ys) :: rest)) (hoC : NsObj oC m₂) (off : ∀ p ∈ (D, lst ys) :: rest, p.1 ≠ C)
    (hy : env.kindOf y = some .local) (hp : (env.scope.kind == .class || (env.scope.kind == .module && env.locals != env.globals)) = false)
    (h : ∀ h' tk, Fr h₀ L h' (fun z => if z = y then some (.ref D) else m z) → News h₀ L h' ((D, lst ys) :: rest) → P { s with heap := h', toks := tk }) :
    compPost (model prog w) A E (some (assign (.Name y py) env)) (fun _ s' => P s') (.ref D) C (.ok .next) s := by
  subst hLe
  show wpAny _ A (assign (.Name y py) env (.ref D)) _ _ _
  refine wpAny_assign_Name (wpAny_storeName_local hy F.ns (fun h₂ hn₂ hs₂ => ?_) hp)
  have zC := N _ (.head _)
  have hL₀ : h₀.get? env.locals = none := Heap.get?_none_of_le F.above
  have F₂ : Fr h₀ env.locals h₂ (fun z => if z = y then some (.ref D) else m z) := ⟨hn₂, fun b o e => hs₂.extBut b o (fun q => by rw [q, hL₀] at e; cases e) (F.keep b o e), F.above⟩
  refine ⟨m₂, (hoC.ns zC.1).sameBut hs₂ zC.2.1, fun h'' hs'' => h h'' _ (F₂.change hs'' zC.2.1 zC.2.2) (fun p hp => ?_)⟩
  have z := N p (.tail _ hp)
  exact ⟨hs''.extBut _ _ (off p hp) (hs₂.extBut _ _ z.2.1 z.1), z.2⟩
end
end Mine
end SZ3

section SZ4
namespace Mine
open PyProof.Rows.LCg (NsObj ns_obj lst)
noncomputable abbrev scNs : Scope := { kind := ScopeKind.function, names := [(Str.ofString ".0", NameKind.local), (Str.ofString "i", NameKind.local), (Str.ofString "elem", NameKind.local), (Str.ofString "key", NameKind.free)], isGenerator := false, isCoroutine := false }
noncomputable abbrev trO (a b c : Value) : Obj := { cls := .type "tuple", data := .seq #[a, b, c] }
theorem ns_elt {p : Program} {loose : List Str} {mean : ExcName → Option Value} {mg mb : Str → Option Value} {w : World} {A₀ : Around} {dp un : Nat} {gd : Option (List Code)} {outer : List Env} {base h₀ : Heap} {L : Addr} {m : Str → Option Value} {s : Shared} {P : Shared → Prop} {E : Value → Shared → Prop}
    {env : Env} {C D cA : Addr} {oC oc : Obj} {m₂ : Str → Option Value} {i : Int} {ti : Tok} {r : Rw} {ps : Array Value} {ys : List Value} {rest : List (Addr × Obj)}
    (B : Below A₀ base outer h₀) (F : Fr h₀ L s.heap m) (N : News h₀ L s.heap ((C, oC) :: (D, lst ys) :: (cA, oc) :: (70, tblO ps) :: rest)) (X : (k0.heap_1 w.params).In h₀) (T : Top p loose mean mg mb h₀)
    (hfr : env.frame = some L) (hke : env.scope.kind = .function) (hkk : env.kindOf (Str.ofString "key") = some .cell)
    (hoC : NsObj oC m₂) (e1 : m₂ (Str.ofString "i") = some (.int i ti)) (e2 : m₂ (Str.ofString "elem") = some (.ref r.l)) (hoc : oc.data = .cell (some (.ref 181)))
    (hr : r.In h₀) (hsm : r.Sm) (hps : TabOk posStr ps) (nd : List.Nodup (C :: D :: cA :: (70 : Addr) :: rest.map (·.1))) (hys : ys.length ≤ 10)
    (hd : dp + 8 < recursionLimit) (hu : un + 100 < cLine)
    (h : ∀ s' tA tk ps', Fr h₀ L s'.heap m → News h₀ L s'.heap ((tA, trO (.str r.key tk) (.int i ti) (.ref r.l)) :: (C, oC) :: (D, lst (ys ++ [.ref tA])) :: (cA, oc) :: (70, tblO ps') :: rest) → TabOk posStr ps' → Gs s s' → (∀ q ∈ (C, oC) :: (D, lst ys) :: (cA, oc) :: (70, tblO ps) :: rest, q.1 < tA) → P s') :
    wpAny (model Challenge.rw_nb0220_01.row.prog w) (aT dp un gd (env :: outer))
      (eval (Expr.Tuple
        [(Expr.Name (Str.ofString "key") { line := 148, col := 15, endLine := 148, endCol := 18 }).Call
            [Expr.Name (Str.ofString "elem") { line := 148, col := 19, endLine := 148, endCol := 23 }] []
            { line := 148, col := 15, endLine := 148, endCol := 24 },
          Expr.Name (Str.ofString "i") { line := 148, col := 26, endLine := 148, endCol := 27 },
          Expr.Name (Str.ofString "elem") { line := 148, col := 29, endLine := 148, endCol := 33 }]
        0 { line := 148, col := 14, endLine := 148, endCol := 34 }) (compEnvC scNs [(Str.ofString "key", cA)] C env))
      (fun v s₄ => wpAny (model Challenge.rw_nb0220_01.row.prog w) (aT dp un gd (env :: outer)) (call (.builtin "list.append") [.ref D, v]) (fun _ s₅ => P s₅) E s₄) E s := by
  have kk : (compEnvC scNs [(Str.ofString "key", cA)] C env).kindOf (Str.ofString "key") = some .cell := by
    show (relabel scNs env).names.lookup (Str.ofString "key") = some .cell
    simp only [relabel, scNs, List.map_cons, List.map_nil, hke, hkk]
    rfl
  have ki : (compEnvC scNs [(Str.ofString "key", cA)] C env).kindOf (Str.ofString "i") = some .local := lookup_relabel_local rfl
  have ke : (compEnvC scNs [(Str.ofString "key", cA)] C env).kindOf (Str.ofString "elem") = some .local := lookup_relabel_local rfl
  have nm : ∀ (x : Str) (v : Value) (pos : Pos) (s : Shared) (Q : Value → Shared → Prop), (compEnvC scNs [(Str.ofString "key", cA)] C env).kindOf x = some .local → m₂ x = some v → (x == ("__debug__" : Str)) = false → s.heap.get? C = some oC → Q v s → wpAny (model Challenge.rw_nb0220_01.row.prog w) (aT dp un gd (env :: outer)) (eval (.Name x pos) (compEnvC scNs [(Str.ofString "key", cA)] C env)) Q E s :=
    fun x v pos s Q hk hv hdb hC hQ => wpAny_Name (wpAny_loadName_local (env := compEnvC scNs [(Str.ofString "key", cA)] C env) rfl hk (hoC.ns hC) hv hQ) hdb
  walk1
  walk1
  walk1
  walk1
  refine wpAny_Name (wpAny_loadName_cell (env := compEnvC scNs [(Str.ofString "key", cA)] C env) (c := cA) rfl kk rfl ⟨_, (N _ (.tail _ (.tail _ (.head _)))).1, hoc⟩ ?_) (by decide)
  walk1
  walk1
  refine nm _ _ _ _ _ ke e2 (by decide) (N _ (.head _)).1 ?_
  (try dsimp only)
  walk1
  refine ⟨X.keeps F.keep, ?_⟩
  refine use_callA B F N X T hfr hke ?_
  intro H9 C9 st9 f9 G9
  refine rest_row C9 st9 (by omega) (by omega) (hr.keep F.keep) hsm (N _ (.tail _ (.tail _ (.tail _ (.head _))))).1 hps (f9 _ (.tail _ (.tail _ (.tail _ (.head _))))) ?_
  intro s9 t9 ps9 hx9 ho9 hps9 gs9
  (try dsimp only)
  simp only [List.nodup_cons, List.mem_cons, not_or] at nd
  obtain ⟨⟨nCD, nCc, nC7, nCr⟩, ⟨nDc, nD7, nDr⟩, ⟨nc7, ncr⟩, n7r, _⟩ := nd
  have offr : ∀ {q : Addr}, q ∉ rest.map (·.1) → ∀ p ∈ rest, p.1 ≠ q := fun hq p hp e => hq (e ▸ List.mem_map_of_mem hp)
  have z7 := N (70, tblO ps) (.tail _ (.tail _ (.tail _ (.head _))))
  have F9 : Fr h₀ L s9.heap m := by
    obtain ⟨oL, es, ep, hL, rr⟩ := F.ns
    exact ⟨⟨oL, es, ep, hx9 L oL hL (by simpa using Ne.symm z7.2.1), rr⟩, fun b x q => hx9 b x (F.keep b x q) (fun hb => by rw [List.mem_singleton.mp hb, z7.2.2] at q; cases q), F.above⟩
  have N9 : News h₀ L s9.heap ((C, oC) :: (D, lst ys) :: (cA, oc) :: (70, tblO ps9) :: rest) := by
    intro q hq
    rcases List.mem_cons.mp hq with rfl | hq
    · have z := N _ (.head _); exact ⟨hx9 _ _ z.1 (by simpa using nC7), z.2⟩
    rcases List.mem_cons.mp hq with rfl | hq
    · have z := N _ (.tail _ (.head _)); exact ⟨hx9 _ _ z.1 (by simpa using nD7), z.2⟩
    rcases List.mem_cons.mp hq with rfl | hq
    · have z := N _ (.tail _ (.tail _ (.head _))); exact ⟨hx9 _ _ z.1 (by simpa using nc7), z.2⟩
    rcases List.mem_cons.mp hq with rfl | hq
    · exact ⟨ho9, z7.2⟩
    · have z := N _ (.tail _ (.tail _ (.tail _ (.tail _ hq)))); exact ⟨hx9 _ _ z.1 (by simpa using offr n7r q hq), z.2⟩
  walk1
  refine nm _ _ _ _ _ ki e1 (by decide) (N9 _ (.head _)).1 ?_
  (try dsimp only)
  walk1
  refine nm _ _ _ _ _ ke e2 (by decide) (N9 _ (.head _)).1 ?_
  (try dsimp only)
  walk1
  refine wpAny_newTuple ?_
  have FT := F9.push (trO (.str r.key t9) (.int i ti) (.ref r.l))
  have NT := N9.push F9 (trO (.str r.key t9) (.int i ti) (.ref r.l))
  have zD := NT (D, lst ys) (.tail _ (.tail _ (.head _)))
  have lt9 : ∀ q ∈ (C, oC) :: (D, lst ys) :: (cA, oc) :: (70, tblO ps9) :: rest, q.1 < s9.heap.objs.size := fun q hq => Heap.lt_size (N9 q hq).1
  have ltall : ∀ q ∈ (C, oC) :: (D, lst ys) :: (cA, oc) :: (70, tblO ps) :: rest, q.1 < s9.heap.objs.size := by
    refine all_cons (lt9 _ (.head _)) (all_cons (lt9 _ (.tail _ (.head _))) (all_cons (lt9 _ (.tail _ (.tail _ (.head _)))) (all_cons (lt9 (70, tblO ps9) (.tail _ (.tail _ (.tail _ (.head _))))) fun q hq => ?_)))
    · exact lt9 q (.tail _ (.tail _ (.tail _ (.tail _ hq))))
  refine append_at (hsz := by simp [sizeLine_eq]; omega) zD.1 fun h₅ hs₅ hD₅ => ?_
  have nD : s9.heap.objs.size ≠ D := Nat.ne_of_gt (lt9 (D, lst ys) (.tail _ (.head _)))
  refine h _ s9.heap.objs.size t9 ps9 (FT.change hs₅ zD.2.1 zD.2.2) ?_ hps9 ⟨fun ab => gs9.1 ab, gs9.2⟩ ltall
  intro q hq
  rcases List.mem_cons.mp hq with rfl | hq
  · have z := NT _ (.head _); exact ⟨hs₅.extBut _ _ nD z.1, z.2⟩
  rcases List.mem_cons.mp hq with rfl | hq
  · have z := NT _ (.tail _ (.head _)); exact ⟨hs₅.extBut _ _ nCD z.1, z.2⟩
  rcases List.mem_cons.mp hq with rfl | hq
  · exact ⟨hD₅.trans (congrArg some (LCg.lst_snoc ys _)), zD.2⟩
  rcases List.mem_cons.mp hq with rfl | hq
  · have z := NT _ (.tail _ (.tail _ (.tail _ (.head _)))); exact ⟨hs₅.extBut _ _ (Ne.symm nDc) z.1, z.2⟩
  rcases List.mem_cons.mp hq with rfl | hq
  · have z := NT _ (.tail _ (.tail _ (.tail _ (.tail _ (.head _))))); exact ⟨hs₅.extBut _ _ (Ne.symm nD7) z.1, z.2⟩
  · have z := NT _ (.tail _ (.tail _ (.tail _ (.tail _ (.tail _ hq))))); exact ⟨hs₅.extBut _ _ (offr nDr q hq) z.1, z.2⟩
end Mine
end SZ4

section SZ5
namespace Mine
open PySem.MeetsSeq PySem.MeetsSeq3
open AutoSeq1 (wpAny_loadPart')
theorem rc_lt_int {prog : Program} {w : World} {A : Around} {E : Value → Shared → Prop} {s : Shared} {a b : Int} {t u : Tok} {Q : Value → Shared → Prop} (h : Q (.bool (decide (a < b))) s) : wpAny (model prog w) A (richCompare .Lt (.int a t) (.int b u)) Q E s := PyProof.Rows.lt_int h
theorem rc_lt_str {prog : Program} {w : World} {A : Around} {E : Value → Shared → Prop} {s : Shared} {x y : Str} {t u : Tok} {Q : Value → Shared → Prop} (h : Q (.bool (decide (x.cps.toList < y.cps.toList))) s) : wpAny (model prog w) A (richCompare .Lt (.str x t) (.str y u)) Q E s := PyProof.Rows.lt_str h
theorem tup_lt3 (l b : Addr) (x y : Str) (tx ty : Tok) (i j : Int) (t u : Tok) (v1 v2 : Value) (hij : i ≠ j) :
    Meets (Builtin.«tuple.__lt__» ⟨[.ref l, .ref b], []⟩)
      (fun _ R s => s.heap.get? l = some (trO (.str x tx) (.int i t) v1) ∧ s.heap.get? b = some (trO (.str y ty) (.int j u) v2) ∧
        R (.ok (.ret (.bool (pLt x i y j)))) s) :=
  .of_wp fun prog w A R s h => by
    obtain ⟨hp, g, d, tk, os⟩ := s; obtain ⟨hl, hb, h⟩ := h
    have hsub : isSubtype (.type "tuple") (.type "tuple") = pure true := by rw [isSubtype_type]; kernel_rfl
    unfold Builtin.«tuple.__lt__»
    wp_walk using wpAny_loadPart' hl, wpAny_loadPart' hb, wpAny_eqBool_str, wpAny_eqBool_int
    unfold pLt at h
    by_cases hxy : x = y
    · subst hxy
      have hb1 : (x.cps.toList == x.cps.toList) = true := beq_self_eq_true _
      have hb2 : (i == j) = false := by simpa using hij
      rw [hb1, hb2] at h
      simp only [decide_true, Bool.not_true, Bool.false_eq_true, if_false, if_true] at h ⊢
      wp_walk using wpAny_eqBool_str, wpAny_eqBool_int, rc_lt_int
      exact ⟨_, rfl, h⟩
    · have hb1 : (x.cps.toList == y.cps.toList) = false := by
        rw [beq_eq_false_iff_ne]
        exact fun e => hxy (str_ext e)
      rw [hb1] at h
      have hd : decide (x = y) = false := decide_eq_false hxy
      rw [hd]
      simp only [Bool.not_false, Bool.false_eq_true, if_false, if_true] at h ⊢
      wp_walk using rc_lt_str
      exact ⟨_, rfl, h⟩
theorem lt_tri {prog : Program} {w : World} {A : Around} {E : Value → Shared → Prop} {s : Shared} {Q : Value → Shared → Prop} {l b : Addr} {x y : Str} {tx ty : Tok} {i j : Int} {t u : Tok} {v1 v2 : Value} (hij : i ≠ j)
    (hl : s.heap.get? l = some (trO (.str x tx) (.int i t) v1)) (hb : s.heap.get? b = some (trO (.str y ty) (.int j u) v2)) (hu : A.units < cLine)
    (h : Q (.bool (pLt x i y j)) s) : wpAny (model prog w) A (compareOp .Lt (.ref l) (.ref b)) Q E s :=
  richCompare_meets_room (op := .Lt) ⟨_, hl, rfl⟩ ⟨_, hb, rfl⟩ F.slot_tuple_lt F.entry_tuple_lt (F.args_tuple_lt_2 _ _) (tup_lt3 l b x y tx ty i j t u v1 v2 hij)
    ⟨hl, hb, show Value.bool (pLt x i y j) ≠ Value.notImplemented ∧ Q (.bool (pLt x i y j)) s from ⟨(fun x => nomatch x), h⟩⟩ hu
end Mine
end SZ5

section SG
namespace Mine
local macro_rules | `(tactic| walk_at "compareOp Lt ref ref") => `(tactic| (k_here; k_dflt (refine' lt_tri ?k0 (Fr.keep ?k1 _ _ ?k2) (Fr.keep ?k3 _ _ ?k4) ?k5 ?_; (case k1 => k_asm); (case k3 => k_asm); (case k2 => assumption); (case k4 => assumption); (case k0 => first | assumption | exact Ne.symm (by assumption)); (case k5 => ktr_units); k_whole)))
theorem sdm {p : Program} {loose : List Str} {mean : ExcName → Option Value} {mg mb : Str → Option Value} {w : World} {dp un : Nat} {gd : Option (List Code)} {outer : List Env} {base H : Heap} {s : Shared} {R : Result → Shared → Prop}
    {lp : Addr} {n : Nat} {r0 : Addr} {x0 : Str} {i0 : Int} {a0 b0 : Tok} {v0 : Value} {r1 : Addr} {x1 : Str} {i1 : Int} {a1 b1 : Tok} {v1 : Value} {ta tb : Tok}
    (C : Cx p loose mean mg mb w (aT dp un gd outer) base outer H) (st : H.StaysIn s.heap) (hd : dp + 2 < recursionLimit) (hu : un + 20 < cLine) (hij : i0 ≠ i1)
    (hl : s.heap.get? lp = some (lstO #[.ref r0, .ref r1] n)) (hf : H.get? lp = none) (e0 : s.heap.get? r0 = some (trO (.str x0 a0) (.int i0 b0) v0)) (q0 : r0 ≠ lp) (e1 : s.heap.get? r1 = some (trO (.str x1 a1) (.int i1 b1) v1)) (q1 : r1 ≠ lp)
    (k : ∀ h' tk', ExtL [lp] s.heap h' → h'.get? lp = some (lstO (if pLt x0 i0 x1 i1 then #[.ref r1, .ref r0] else #[.ref r0, .ref r1]) n) → R (.ok (.ret .none)) { s with heap := h', toks := tk' }) :
    codeAny (model Challenge.rw_nb0220_01.row.prog w) (aT dp un gd outer) (.call (.ref 161) ⟨[.ref lp, .int 0 ta, .int 1 tb], []⟩) R s := by
  w_on
  have hled : ∀ q ∈ [(lp, listOf #[.ref r0, .ref r1] n)], s.heap.get? q.1 = some q.2 ∧ H.get? q.1 = none := by
    intro q hq
    rw [List.mem_singleton.mp hq]
    exact ⟨hl, hf⟩
  refine' enter (binds := [(Str.ofString "heap", .ref lp), (Str.ofString "startpos", .int 0 ta), (Str.ofString "pos", .int 1 tb)]) C st hled ?k6 ?k7 ?k8 ?k9 ?kB ?_ ?c5 ?c2 ?c3 ?c4
  (((case k6 => k_is); (case k7 => k_is); (case k8 => exact Nat.lt_of_le_of_lt (Nat.le_add_right _ _) hd); (case k9 => exact BindsTo.of_eq rfl); (case kB => exact locs rfl); (case c5 => decide); (case c2 => exact rfl); (case c3 => exact rfl); (case c4 => exact rfl)))
  intro g' L' h' F' N' B' X' T' G'
  have g0 := G' _ _ e0 (by simpa using q0)
  have g1 := G' _ _ e1 (by simpa using q1)
  (try dsimp only)
  (try k_fold)
  k_steps
  all_goals (refine k _ _ (ext_of G' (by k_asm)) ?_)
  all_goals (first | rw [if_pos (by assumption)] | rw [if_neg (by simp [*])])
  all_goals exact News.get (by k_asm) (List.Mem.head _)

theorem sum2 {p : Program} {loose : List Str} {mean : ExcName → Option Value} {mg mb : Str → Option Value} {w : World} {dp un : Nat} {gd : Option (List Code)} {outer : List Env} {base H : Heap} {s : Shared} {R : Result → Shared → Prop}
    {lp : Addr} {n : Nat} {r0 : Addr} {x0 : Str} {i0 : Int} {a0 b0 : Tok} {v0 : Value} {r1 : Addr} {x1 : Str} {i1 : Int} {a1 b1 : Tok} {v1 : Value} {ta : Tok}
    (C : Cx p loose mean mg mb w (aT dp un gd outer) base outer H) (st : H.StaysIn s.heap) (hd : dp + 4 < recursionLimit) (hu : un + 40 < cLine) (hij : i0 ≠ i1)
    (hl : s.heap.get? lp = some (lstO #[.ref r0, .ref r1] n)) (hf : H.get? lp = none) (e0 : s.heap.get? r0 = some (trO (.str x0 a0) (.int i0 b0) v0)) (q0 : r0 ≠ lp) (e1 : s.heap.get? r1 = some (trO (.str x1 a1) (.int i1 b1) v1)) (q1 : r1 ≠ lp)
    (k : ∀ h' tk', ExtL [lp] s.heap h' → h'.get? lp = some (lstO (if pLt x1 i1 x0 i0 then #[.ref r0, .ref r1] else #[.ref r1, .ref r0]) n) → R (.ok (.ret .none)) { s with heap := h', toks := tk' }) :
    codeAny (model Challenge.rw_nb0220_01.row.prog w) (aT dp un gd outer) (.call (.ref 168) ⟨[.ref lp, .int 0 ta], []⟩) R s := by
  w_on
  have hled : ∀ q ∈ [(lp, listOf #[.ref r0, .ref r1] n)], s.heap.get? q.1 = some q.2 ∧ H.get? q.1 = none := by
    intro q hq
    rw [List.mem_singleton.mp hq]
    exact ⟨hl, hf⟩
  refine' enter (binds := [(Str.ofString "heap", .ref lp), (Str.ofString "pos", .int 0 ta)]) C st hled ?k6 ?k7 ?k8 ?k9 ?kB ?_ ?c5 ?c2 ?c3 ?c4
  (((case k6 => k_is); (case k7 => k_is); (case k8 => exact Nat.lt_of_le_of_lt (Nat.le_add_right _ _) hd); (case k9 => exact BindsTo.of_eq rfl); (case kB => exact locs rfl); (case c5 => decide); (case c2 => exact rfl); (case c3 => exact rfl); (case c4 => exact rfl)))
  intro g' L' h' F' N' B' X' T' G'
  have g0 := G' _ _ e0 (by simpa using q0)
  have g1 := G' _ _ e1 (by simpa using q1)
  (try dsimp only)
  (try k_fold)
  k_steps
  refine use_call B' (by k_asm) (by k_asm) X' T' rfl rfl ?_
  intro H9 C9 st9 f9 G9
  refine sdm C9 st9 (room 1 hd) (room 17 hu) (Ne.symm hij) (News.get (by k_asm) (List.Mem.head _)) (f9 _ (List.Mem.head _)) (Fr.keep (by k_asm) _ _ g1) q1 (Fr.keep (by k_asm) _ _ g0) q0 ?_
  intro h9 tk9 hx9 ho9
  obtain ⟨F9, N9⟩ := back1 (by k_asm) (by k_asm) (by k_upd) hx9 ho9
  (try dsimp only)
  k_steps
  exact k _ _ (ext_of G' F9) ho9
theorem hrm2 {p : Program} {loose : List Str} {mean : ExcName → Option Value} {mg mb : Str → Option Value} {w : World} {dp un : Nat} {gd : Option (List Code)} {outer : List Env} {base H : Heap} {s : Shared} {R : Result → Shared → Prop}
    {lp : Addr} {n : Nat} {rz r0 : Addr} {x0 : Str} {i0 : Int} {a0 b0 : Tok} {v0 : Value} {r1 : Addr} {x1 : Str} {i1 : Int} {a1 b1 : Tok} {v1 : Value}
    (C : Cx p loose mean mg mb w (aT dp un gd outer) base outer H) (st : H.StaysIn s.heap) (hd : dp + 6 < recursionLimit) (hu : un + 60 < cLine) (hij : i0 ≠ i1)
    (hl : s.heap.get? lp = some (lstO #[.ref rz, .ref r1] n)) (hf : H.get? lp = none) (e0 : s.heap.get? r0 = some (trO (.str x0 a0) (.int i0 b0) v0)) (q0 : r0 ≠ lp) (e1 : s.heap.get? r1 = some (trO (.str x1 a1) (.int i1 b1) v1)) (q1 : r1 ≠ lp)
    (k : ∀ h' tk', ExtL [lp] s.heap h' → h'.get? lp = some (lstO (if pLt x1 i1 x0 i0 then #[.ref r0, .ref r1] else #[.ref r1, .ref r0]) n) → R (.ok (.ret (.ref rz))) { s with heap := h', toks := tk' }) :
    codeAny (model Challenge.rw_nb0220_01.row.prog w) (aT dp un gd outer) (.call (.ref 133) ⟨[.ref lp, .ref r0], []⟩) R s := by
  w_on
  have hled : ∀ q ∈ [(lp, listOf #[.ref rz, .ref r1] n)], s.heap.get? q.1 = some q.2 ∧ H.get? q.1 = none := by
    intro q hq
    rw [List.mem_singleton.mp hq]
    exact ⟨hl, hf⟩
  refine' enter (binds := [(Str.ofString "heap", .ref lp), (Str.ofString "item", .ref r0)]) C st hled ?k6 ?k7 ?k8 ?k9 ?kB ?_ ?c5 ?c2 ?c3 ?c4
  (((case k6 => k_is); (case k7 => k_is); (case k8 => exact Nat.lt_of_le_of_lt (Nat.le_add_right _ _) hd); (case k9 => exact BindsTo.of_eq rfl); (case kB => exact locs rfl); (case c5 => decide); (case c2 => exact rfl); (case c3 => exact rfl); (case c4 => exact rfl)))
  intro g' L' h' F' N' B' X' T' G'
  have g0 := G' _ _ e0 (by simpa using q0)
  have g1 := G' _ _ e1 (by simpa using q1)
  (try dsimp only)
  (try k_fold)
  k_steps
  refine use_call B' (by k_asm) (by k_asm) X' T' rfl rfl ?_
  intro H9 C9 st9 f9 G9
  refine sum2 C9 st9 (room 1 hd) (room 17 hu) hij (News.get (by k_asm) (List.Mem.head _)) (f9 _ (List.Mem.head _)) (Fr.keep (by k_asm) _ _ g0) q0 (Fr.keep (by k_asm) _ _ g1) q1 ?_
  intro h9 tk9 hx9 ho9
  obtain ⟨F9, N9⟩ := back1 (by k_asm) (by k_asm) (by k_upd) hx9 ho9
  (try dsimp only)
  k_steps
  exact k _ _ (ext_of G' F9) ho9

theorem mro_rev : mroOf (.type "reversed") = pure [.type "reversed", .type "object"] := by rw [mroOf_type]; kernel_rfl
theorem lookup_rev_new : typeLookup (.type "reversed") "__new__" = pure (some (.builtin "reversed.__new__")) := by rw [typeLookup_type, builtinLookup_eq_fast]; kernel_rfl
theorem made_rev : Bind.madeBy (.type "reversed") = pure (some "reversed.__new__") := madeBy_type mro_rev lookup_rev_new (by decide +kernel)
theorem typeCall_rev (a : Value) : checkTypeCall "reversed" ⟨[a], []⟩ = pure () := by kernel_rfl
theorem newCall_rev (a : Value) : checkBuiltinCall "reversed.__new__" ⟨[.type "reversed", a], []⟩ = pure () := by kernel_rfl
theorem entry_rev_new : entryFor table "reversed.__new__" = some Builtin.«reversed.__new__» := entryFor_of_tree (by kernel_rfl)
theorem entry_range_rev : entryFor table "range.__reversed__" = some Builtin.«range.__reversed__» := entryFor_of_tree (by kernel_rfl)
theorem args_range_rev (a : Value) : argsOk "range.__reversed__" ⟨[a], []⟩ := by unfold argsOk; kernel_rfl
theorem sub_ri_rev : isSubtype (.type "range_iterator") (.type "reversed") = pure false := by rw [isSubtype_type]; kernel_rfl
section
variable {prog : Program} {w : World} {A : Around} {E : Value → Shared → Prop} {s : Shared}
theorem range_rev {r : Addr} {t u v : Tok} {R : Result → Shared → Prop} (hr : IsRange s.heap r 0 1 1 t u v)
    (h : R (.ok (.ret (.ref s.heap.objs.size))) { s with heap := s.heap.push (ritO 0 1 (-1)) }) :
    codeAny (model prog w) A (.call (.builtin "range.__reversed__") ⟨[.ref r], []⟩) R s := by
  have hT : s.TypeIs (.ref r) "range" := ⟨_, hr, rfl⟩
  refine codeAny_call_builtin F.slot_range_reversed.plain entry_range_rev (F.slot_range_reversed.check _ _ _ _ _ _ _ _ hT (args_range_rev _) ?_)
  unfold Builtin.«range.__reversed__»
  obtain ⟨hp, g, d, tk, os⟩ := s
  wp_walk using wpAny_loadPart hr
  rw [if_pos (by decide), show Builtin.Range.rangeSize 0 1 1 = 1 by decide]
  exact h
theorem reversed_range {r : Addr} {t u v : Tok} {Q : Value → Shared → Prop} (hr : IsRange s.heap r 0 1 1 t u v)
    (h : Q (.ref s.heap.objs.size) { s with heap := s.heap.push (ritO 0 1 (-1)) }) :
    wpAny (model prog w) A (call (.type "reversed") [.ref r]) Q E s := by
  have hT : s.TypeIs (.ref r) "range" := ⟨_, hr, rfl⟩
  have hmro := mro_rev
  have hmade := made_rev
  have h1 : (Value.type "reversed" == Value.type "type") = false := by decide +kernel
  have h2 : ((Manifest.find? "reversed").bind (·.mro.findSome? fun t => (Manifest.find? t).bind fun b => if b.noNew then some true else if b.attrs.any (·.1 == "__new__") then some false else none)).getD false = false := by decide +kernel
  have hct := typeCall_rev (.ref r)
  refine wpAny_call (codeAny_of_tree ?_)
  show wpAny _ _ (callAny (.type "reversed") _) _ _ _
  refine wpAny_pure ⟨Code.quiet_builtin _ (by decide +kernel), codeAny_builtin F.entry_type_call ?_⟩
  rw [Around.under_plain (weight_type_call_type "reversed" [.ref r] []) rfl]
  repeat (any_goals (first | assumption | wp_step))
  have hplain : plainId "reversed.__new__" = true := by decide +kernel
  refine codeAny_of_tree ?_
  show wpAny _ A.in1.in1 (do checkBuiltinCall "reversed.__new__" ⟨[.type "reversed", .ref r], []⟩; again (.builtin "reversed.__new__" ⟨[.type "reversed", .ref r], []⟩)) _ _ s
  refine wpAny_bind (wpAny_of_eq (newCall_rev _) (wpAny_pure ⟨plainId_quiet hplain _, codeAny_builtin entry_rev_new ?_⟩))
  rw [Around.under_plainId hplain _]
  unfold Builtin.«reversed.__new__»
  have hsl := F.slot_range_reversed.lookup
  have hbs := F.slot_range_reversed.bind (.ref r)
  have hsub : isSubtype (.type "reversed") (.type "reversed") = pure true := by rw [isSubtype_type]; kernel_rfl
  repeat (any_goals (first | assumption | wp_step))
  refine range_rev hr ?_
  refine wpAny_pure ?_
  refine wpAny_bind (wpAny_isInstance (T := "range_iterator") (b := false) ⟨_, Heap.get?_push_size _ rfl, rfl⟩ sub_ri_rev ?_)
  simp only [Bool.not_false, if_true]
  exact wpAny_bind (wpAny_rule (wpAny_pure h))
theorem reversed_K {h₀ : Heap} {L : Addr} {m : Str → Option Value} {news : List (Addr × Obj)} {r : Addr} {t u v : Tok} {Q : Value → Shared → Prop} (F : Fr h₀ L s.heap m) (N : News h₀ L s.heap news) (hr : IsRange s.heap r 0 1 1 t u v)
    (h : ∀ I h', Fr h₀ L h' m → News h₀ L h' ((I, ritO 0 1 (-1)) :: news) → (∀ p ∈ news, p.1 < I) → Q (.ref I) { s with heap := h' }) :
    wpAny (model prog w) A (call (.type "reversed") [.ref r]) Q E s :=
  reversed_range hr (h _ _ (F.push _) (N.push F _) fun p hp => Heap.lt_size (N p hp).1)
end

section
variable {prog : Program} {w : World} {A : Around} {E : Value → Shared → Prop} {s : Shared} {R : Result → Shared → Prop}
/-- one turn of a for, unrolled -/
theorem for_turn {target : Expr} {it : Value} {body : List Stmt} {env : Env}
    (h : wpAny (model prog w) A (pyNext it) (fun r s₁ => match r with
      | none => R (.ok .next) s₁
      | some v => wpAny (model prog w) A (letOwnedTupleGo target it v) (fun _ s₁' => wpAny (model prog w) A (assign target env v) (fun _ s₂ => wpAny (model prog w) A (execs body env) (fun f s₃ => match f with
          | .next | .cont => codeAny (model prog w) A (.forLoop target it body [] env) R s₃
          | .brk => R (.ok .next) s₃
          | .ret v => R (.ok (.ret v)) s₃) (notedBy (model prog w) A env fun e s' => R (.error e) s') s₂) (notedBy (model prog w) A env fun e s' => R (.error e) s') s₁') (notedBy (model prog w) A env fun e s' => R (.error e) s') s₁) (notedBy (model prog w) A env fun e s' => R (.error e) s') s) :
    codeAny (model prog w) A (.forLoop target it body [] env) R s := by
  refine codeAny_of_tree ?_
  show wpAny _ _ ((forTurn target it body [] env).onRaise (fun x => do noteFrame x env; theTreesLotGoes x)) _ _ s
  refine wpAny_noted ?_
  simp only [forTurn]
  refine wpAny_bind (wpAny_standAt (wpAny_bind (wpAny_onRaise (wpAny_mono h (fun r s₁ h₁ => ?_) fun _ _ h' => wpAny_standAt h'))))
  cases r with
  | none => exact wpAny_pure ⟨rfl, codeAny_block (wpAny_execs_nil h₁)⟩
  | some v =>
    refine wpAny_bind (wpAny_mono h₁ (fun _ s₁' h₁' => ?_) fun _ _ h' => h')
    refine wpAny_bind (wpAny_mono h₁' (fun _ s₂ h₂ => wpAny_bind (wpAny_mono h₂ (fun f s₃ h₃ => ?_) fun _ _ h' => h')) fun _ _ h' => h')
    cases f with
    | next => exact wpAny_pure ⟨rfl, h₃⟩
    | cont => exact wpAny_pure ⟨rfl, h₃⟩
    | brk => exact wpAny_pure h₃
    | ret v => exact wpAny_pure h₃
end

local macro_rules | `(tactic| walk_at "exec For Name Call cons nil") => `(tactic| (refine wpAny_For ?_))
theorem hfy2 {p : Program} {loose : List Str} {mean : ExcName → Option Value} {mg mb : Str → Option Value} {w : World} {dp un : Nat} {gd : Option (List Code)} {outer : List Env} {base H : Heap} {s : Shared} {R : Result → Shared → Prop}
    {lp : Addr} {n : Nat} {r0 : Addr} {x0 : Str} {i0 : Int} {a0 b0 : Tok} {v0 : Value} {r1 : Addr} {x1 : Str} {i1 : Int} {a1 b1 : Tok} {v1 : Value}
    (C : Cx p loose mean mg mb w (aT dp un gd outer) base outer H) (st : H.StaysIn s.heap) (hd : dp + 6 < recursionLimit) (hu : un + 60 < cLine) (hij : i0 ≠ i1)
    (hl : s.heap.get? lp = some (lstO #[.ref r0, .ref r1] n)) (hf : H.get? lp = none) (e0 : s.heap.get? r0 = some (trO (.str x0 a0) (.int i0 b0) v0)) (q0 : r0 ≠ lp) (e1 : s.heap.get? r1 = some (trO (.str x1 a1) (.int i1 b1) v1)) (q1 : r1 ≠ lp)
    (k : ∀ h' tk', ExtL [lp] s.heap h' → h'.get? lp = some (lstO (if pLt x1 i1 x0 i0 then #[.ref r0, .ref r1] else #[.ref r1, .ref r0]) n) → R (.ok (.ret .none)) { s with heap := h', toks := tk' }) :
    codeAny (model Challenge.rw_nb0220_01.row.prog w) (aT dp un gd outer) (.call (.ref 140) ⟨[.ref lp], []⟩) R s := by
  w_on
  have hled : ∀ q ∈ [(lp, listOf #[.ref r0, .ref r1] n)], s.heap.get? q.1 = some q.2 ∧ H.get? q.1 = none := by
    intro q hq
    rw [List.mem_singleton.mp hq]
    exact ⟨hl, hf⟩
  refine' enter (binds := [(Str.ofString "x", .ref lp)]) C st hled ?k6 ?k7 ?k8 ?k9 ?kB ?_ ?c5 ?c2 ?c3 ?c4
  (((case k6 => k_is); (case k7 => k_is); (case k8 => exact Nat.lt_of_le_of_lt (Nat.le_add_right _ _) hd); (case k9 => exact BindsTo.of_eq rfl); (case kB => exact locs rfl); (case c5 => decide); (case c2 => exact rfl); (case c3 => exact rfl); (case c4 => exact rfl)))
  intro g' L' h' F' N' B' X' T' G'
  have g0 := G' _ _ e0 (by simpa using q0)
  have g1 := G' _ _ e1 (by simpa using q1)
  (try dsimp only)
  (try k_fold)
  iterate 11 walk1
  refine wpAny_For ?_
  k_steps
  refine reversed_K (by k_asm) (by k_asm) (by assumption) ?_
  intro I h1 F1 N1 l1
  (try k_lt l1)
  refine wpAny_pyIter_rangeiter (News.get N1 (.head _)) ?_
  refine for_turn ?_
  refine wpAny_pyNext_range_item (News.get N1 (.head _)) (by decide) fun h2 e2 s2 => ?_
  (try dsimp only)
  obtain ⟨F2, N2⟩ := back1 F1 N1 (by k_upd) (fun b o e hb => s2.extBut b o (by simpa using hb) e) e2
  refine wpAny_of_eq rfl ?_
  refine wpAny_assign_Name ?_
  clear F1 N1
  k_steps
  refine use_call B' (by k_asm) (by k_asm) X' T' rfl rfl ?_
  intro H9 C9 st9 f9 G9
  refine sum2 C9 st9 (room 1 hd) (room 17 hu) hij (News.get (by k_asm) (by k_mem)) (f9 (lp, _) (by k_mem)) (Fr.keep (by k_asm) _ _ g0) q0 (Fr.keep (by k_asm) _ _ g1) q1 ?_
  intro h9 tk9 hx9 ho9
  obtain ⟨F9, N9⟩ := back1 (by k_asm) (by k_asm) (by k_upd) hx9 ho9
  (try dsimp only)
  k_steps
  refine for_turn ?_
  refine wpAny_pyNext_range_end rfl (News.get N9 (by k_mem)) (by decide) fun h3 e3 => ?_
  (try dsimp only)
  k_steps
  have hIlp : lp ≠ I := neN (by omega)
  have hI0 : ∀ b o, s.heap.get? b = some o → b ≠ I := fun b o e q => by
    have n0 := (N9 (I, _) (by k_mem)).2.2
    by_cases hb : b = lp
    · exact hIlp (hb ▸ q)
    · have := G' b o e (by simpa using hb)
      rw [q, n0] at this; cases this
  exact k _ _ (fun b o e hb => e3 b o (hI0 b o e) (ext_of G' F9 b o e hb)) (e3 _ _ hIlp (News.get N9 (by k_mem)))

end Mine
end SG

section SZ8
namespace Mine
section
variable {prog : Program} {w : World} {A : Around} {E : Value → Shared → Prop} {s : Shared}
theorem next_list {it l : Addr} {i : Nat} {items : Array Value} {x : Value} {Q : Option Value → Shared → Prop} (hit : s.heap.get? it = some (litO l i))
    (hl : s.heap.IsList l items) (hx : items[i]? = some x)
    (hQ : ∀ h', h'.get? it = some (litO l (i + 1)) → Heap.SameBut it s.heap h' → Q (some x) { s with heap := h' }) :
    wpAny (model prog w) A (pyNext (.ref it)) Q E s := by
  have hT : s.TypeIs (.ref it) "list_iterator" := ⟨_, hit, rfl⟩
  obtain ⟨ol, hol, _, nl, hdl⟩ := hl
  unfold pyNext
  refine wpAny_bind (wpAny_attempt (wpAny_callSpecial?_slot (name := Str.ofString "__next__") hT slot_listiter_next (wpAny_call_entry slot_listiter_next hT entry_listiter_next ?_ (args_listiter_next _))))
  show wpAny _ _ (field (.ref it) 0 >>= _) _ _ s
  refine wpAny_bind (wpAny_field hit rfl (x := .ref l) rfl ?_)
  show wpAny _ _ (if (Value.ref l == Value.none) = true then _ else _) _ _ s
  rw [if_neg (show ¬ ((Value.ref l == Value.none) = true) from Bool.false_ne_true)]
  show wpAny _ _ (field (.ref it) 1 >>= _) _ _ s
  refine wpAny_bind (wpAny_field hit rfl (x := .int i 0) rfl ?_)
  show wpAny _ _ (seqItems? (.ref l) >>= _) _ _ s
  refine wpAny_bind (wpAny_seqItems hol hdl ?_)
  simp only [Int.toNat_natCast, hx]
  refine wpAny_bind (wpAny_setField_rec hit (by simp) fun h₁ h1 hs₁ => wpAny_pure ⟨_, rfl, wpAny_pure (hQ h₁ ?_ hs₁)⟩)
  rw [h1]; rfl
end
end Mine
end SZ8

section SM1
namespace Mine
theorem l_trans {a b c : List Nat} (h : a < b) (h' : b < c) : a < c := List.lt_trans h h'
theorem l_irr (a : List Nat) : ¬ a < a := List.lt_irrefl a
theorem l_tri (a b : List Nat) : a < b ∨ a = b ∨ b < a := by
  by_cases h : a < b
  · exact .inl h
  · by_cases h' : b < a
    · exact .inr (.inr h')
    · exact .inr (.inl (List.le_antisymm (List.not_lt.mp h') (List.not_lt.mp h)))
theorem pLt_iff {x : Str} {i : Int} {y : Str} {j : Int} : pLt x i y j = true ↔ (x.cps.toList < y.cps.toList ∨ (x.cps.toList = y.cps.toList ∧ i < j)) := by
  unfold pLt sLt
  generalize x.cps.toList = a
  generalize y.cps.toList = b
  by_cases h : a = b
  · subst h
    rw [beq_self_eq_true, if_pos rfl]
    have hn := l_irr a
    by_cases hij : i = j
    · subst hij; simp [hn]
    · have hb : (i == j) = false := by simpa using hij
      rw [hb]; simp [hn]
  · have hb : (a == b) = false := by simpa using h
    rw [hb]; simp [h]
theorem pLt_trans {x y z : Str} {i j k : Int} (h : pLt x i y j = true) (h' : pLt y j z k = true) : pLt x i z k = true := by
  rw [pLt_iff] at *
  rcases h with h | ⟨h, hi⟩ <;> rcases h' with h' | ⟨h', hj⟩
  · exact .inl (l_trans h h')
  · exact .inl (h' ▸ h)
  · exact .inl (h ▸ h')
  · exact .inr ⟨h.trans h', by omega⟩
theorem pLt_irr (x : Str) (i : Int) : pLt x i x i = false := by
  cases h : pLt x i x i with
  | false => rfl
  | true =>
    rw [pLt_iff] at h
    rcases h with h | ⟨_, h⟩
    · exact absurd h (l_irr _)
    · omega
theorem pLt_total {x y : Str} {i j : Int} (hij : i ≠ j) (h : pLt x i y j = false) : pLt y j x i = true := by
  have h' : ¬ (pLt x i y j = true) := by rw [h]; decide
  rw [pLt_iff] at *
  rcases l_tri x.cps.toList y.cps.toList with h1 | h1 | h1
  · exact absurd (.inl h1) h'
  · refine .inr ⟨h1.symm, ?_⟩
    have : ¬ i < j := fun q => h' (.inr ⟨h1, q⟩)
    omega
  · exact .inl h1
theorem pLt_asymm {x y : Str} {i j : Int} (h : pLt x i y j = true) : pLt y j x i = false := by
  cases h' : pLt y j x i with
  | false => rfl
  | true => have := pLt_trans h h'; rw [pLt_irr] at this; cases this
end Mine
end SM1

section SZ9
namespace Mine
/-- between nsmallest's loop and its sort: the list holds the two least (with their numbers) of the three rows -/
noncomputable def Two3 (r1 r2 r3 xa xb : Rw) (ia ib : Int) : Prop := ∃ xc ic, [(xa, ia), (xb, ib), (xc, ic)].Perm [(r1, (0 : Int)), (r2, 1), (r3, 2)] ∧ pLt xa.key ia xc.key ic = true ∧ pLt xb.key ib xc.key ic = true ∧ ia ≠ ib
inductive NsMid (g : Heap) (L D cA : Addr) (oc : Obj) (s0 : Shared) (r1 r2 r3 : Rw) (s' : Shared) : Prop
  | mk (m : Str → Option Value) (u v : Addr) (xa xb : Rw) (ta tb : Tok) (ia ib : Int) (tia tib : Tok) (n : Nat) (ps : Array Value) (_ : Fr g L s'.heap m)
      (_ : m (Str.ofString "result") = some (.ref D))
      (_ : News g L s'.heap [(D, lstO #[.ref u, .ref v] n), (u, trO (.str xa.key ta) (.int ia tia) (.ref xa.l)), (v, trO (.str xb.key tb) (.int ib tib) (.ref xb.l)), (cA, oc), (70, tblO ps)])
      (_ : TabOk posStr ps)
      (_ : Gs s0 s')
      (_ : (@Ne Nat u v ∧ @LT.lt Nat _ D u ∧ @LT.lt Nat _ D v))
      (_ : Two3 r1 r2 r3 xa xb ia ib) : NsMid g L D cA oc s0 r1 r2 r3 s'
theorem two3_keep {r1 r2 r3 ra rb : Rw} {ia ib : Int} (hwho : (ra = r1 ∧ rb = r2 ∧ ia = 0 ∧ ib = 1 ∧ pLt r2.key 1 r1.key 0 = true) ∨ (ra = r2 ∧ rb = r1 ∧ ia = 1 ∧ ib = 0 ∧ pLt r2.key 1 r1.key 0 = false)) (h : ¬ r3.key.cps.toList < ra.key.cps.toList) : Two3 r1 r2 r3 ra rb ia ib := by
  have hra : pLt ra.key ia r3.key 2 = true := by
    rw [pLt_iff]
    rcases l_tri ra.key.cps.toList r3.key.cps.toList with h1 | h1 | h1
    · exact .inl h1
    · exact .inr ⟨h1, by rcases hwho with ⟨_, _, rfl, _⟩ | ⟨_, _, rfl, _⟩ <;> decide⟩
    · exact absurd h1 h
  rcases hwho with ⟨rfl, rfl, rfl, rfl, hp⟩ | ⟨rfl, rfl, rfl, rfl, hp⟩
  · exact ⟨r3, 2, List.Perm.refl _, hra, pLt_trans hp hra, by decide⟩
  · exact ⟨r3, 2, List.Perm.swap _ _ _, hra, pLt_trans (pLt_total (by decide) hp) hra, by decide⟩
theorem two3_new {r1 r2 r3 ra rb : Rw} {ia ib : Int} (hwho : (ra = r1 ∧ rb = r2 ∧ ia = 0 ∧ ib = 1 ∧ pLt r2.key 1 r1.key 0 = true) ∨ (ra = r2 ∧ rb = r1 ∧ ia = 1 ∧ ib = 0 ∧ pLt r2.key 1 r1.key 0 = false)) (h : r3.key.cps.toList < ra.key.cps.toList) : Two3 r1 r2 r3 r3 rb 2 ib := by
  have hra : pLt r3.key 2 ra.key ia = true := by rw [pLt_iff]; exact .inl h
  rcases hwho with ⟨rfl, rfl, rfl, rfl, hp⟩ | ⟨rfl, rfl, rfl, rfl, hp⟩
  · refine ⟨ra, 0, ?_, hra, hp, by decide⟩
    exact ((List.Perm.swap _ _ _).trans (List.Perm.cons _ (List.Perm.swap _ _ _))).trans (List.Perm.swap _ _ _)
  · refine ⟨ra, 1, ?_, hra, pLt_total (by decide) hp, by decide⟩
    exact (List.Perm.swap _ _ _).trans (List.Perm.cons _ (List.Perm.swap _ _ _))
theorem two3_swap {r1 r2 r3 xa xb : Rw} {ia ib : Int} (h : Two3 r1 r2 r3 xa xb ia ib) : Two3 r1 r2 r3 xb xa ib ia :=
  let ⟨xc, ic, p, a, b, n⟩ := h; ⟨xc, ic, (List.Perm.swap _ _ _).trans p, b, a, n.symm⟩
end Mine
end SZ9

section SZA
namespace Mine
open PyProof.Rows.LCg (NsObj ns_obj lst)
section
variable {prog : Program} {w : World} {A : Around} {E : Value → Shared → Prop} {s : Shared} {h₀ : Heap} {L : Addr} {m : Str → Option Value} {R : Result → Shared → Prop}
theorem tri_turn {iter : Expr} {xa xb xc : Str} {pa pb pc pe tp : Pos} {kt : Nat} {scope : Scope} {pos : Pos} {cl : List (Str × Addr)} {env : Env} {C D I l u : Addr} {oC : Obj} {a b c : Value} {k n : Nat} {items : Array Value} {ys : List Value} {rest : List (Addr × Obj)} {m₂ : Str → Option Value}
    (hh : A.handled = none) (F : Fr h₀ L s.heap m) (N : News h₀ L s.heap ((I, litO l k) :: (C, oC) :: (D, lst ys) :: rest)) (hoC : NsObj oC m₂)
    (nd : (I :: C :: D :: rest.map (·.1)).Nodup) (hl : (l, lstO items n) ∈ rest) (hu : (u, trO a b c) ∈ rest) (hy : items[k]? = some (.ref u)) (hys : ys.length ≤ 10)
    (hxa : scope.names.lookup xa = some .local) (hxb : scope.names.lookup xb = some .local) (hxc : scope.names.lookup xc = some .local) (hkind : scope.kind = .function) (hdb : (xc == ("__debug__" : Str)) = false)
    (h : ∀ h' tk oC' m₂', Fr h₀ L h' m → News h₀ L h' ((I, litO l (k + 1)) :: (C, oC') :: (D, lst (ys ++ [c])) :: rest) → NsObj oC' m₂' →
      codeAny (model prog w) A (.compLoop (.ListComp (.Name xc pe) [⟨.Tuple [.Name xa pa, .Name xb pb, .Name xc pc] kt tp, iter, [], 0⟩] scope pos) 0 (.ref I) (.ref D) (compEnvC scope cl C env)) R { s with heap := h', toks := tk }) :
    codeAny (model prog w) A (.compLoop (.ListComp (.Name xc pe) [⟨.Tuple [.Name xa pa, .Name xb pb, .Name xc pc] kt tp, iter, [], 0⟩] scope pos) 0 (.ref I) (.ref D) (compEnvC scope cl C env)) R s := by
  have zI := N _ (.head _)
  have zC := N _ (.tail _ (.head _))
  have zD := N _ (.tail _ (.tail _ (.head _)))
  have zR : ∀ p ∈ rest, s.heap.get? p.1 = some p.2 ∧ p.1 ≠ L ∧ h₀.get? p.1 = none := fun p hp => N p (.tail _ (.tail _ (.tail _ hp)))
  simp only [List.nodup_cons, List.mem_cons, not_or] at nd
  obtain ⟨⟨nIC, nID, nIr⟩, ⟨nCD, nCr⟩, nDr, _⟩ := nd
  have off : ∀ {q : Addr}, q ∉ rest.map (·.1) → ∀ p ∈ rest, p.1 ≠ q := fun hq p hp e => hq (e ▸ List.mem_map_of_mem hp)
  have none0 : ∀ {c o}, h₀.get? c = some o → ∀ {q : Addr}, h₀.get? q = none → c ≠ q := fun e q hq e' => by rw [e', hq] at e; cases e
  refine comp_turn2 (next_list zI.1 ⟨_, (zR _ hl).1, rfl, _, rfl⟩ hy fun h₁ e₁ s₁ => ?_)
  refine wpAny_letOwnedTupleGo_listiter (l := l) (i := k + 1) ⟨_, e₁, rfl, rfl⟩ ?_
  have uu : h₁.get? u = some (trO a b c) := s₁.extBut _ _ (off nIr _ hu) (zR _ hu).1
  refine wpAny_assign_Tuple hh (items := #[a, b, c]) ⟨_, uu, rfl, _, rfl⟩ rfl rfl fun h₃ hx₃ => ?_
  have up₃ : ∀ c o, h₁.get? c = some o → h₃.get? c = some o := fun c o e => hx₃ c o (Nat.ne_of_lt (Heap.lt_size e)) e
  show wpAny _ _ (do holding [b, c] (assign (.Name xa pa) (compEnvC scope cl C env) a); do holding [c] (assign (.Name xb pb) (compEnvC scope cl C env) b); do holding [] (assign (.Name xc pc) (compEnvC scope cl C env) c); pure ()) _ _ _
  have hC₃ : h₃.Ns C m₂ := hoC.ns (up₃ _ _ (s₁.extBut _ _ (Ne.symm nIC) zC.1))
  refine wpAny_bind (wpAny_holding (wpAny_assign_Name (wpAny_storeName_local (env := compEnvC scope cl C env) (lookup_relabel_local hxa) hC₃ (fun h₄ hn₄ hs₄ => ?_) (by simp [compEnvC, relabel, hkind]))))
  refine wpAny_bind (wpAny_holding (wpAny_assign_Name (wpAny_storeName_local (env := compEnvC scope cl C env) (lookup_relabel_local hxb) hn₄ (fun h₅ hn₅ hs₅ => ?_) (by simp [compEnvC, relabel, hkind]))))
  refine wpAny_bind (wpAny_holding (wpAny_assign_Name (wpAny_storeName_local (env := compEnvC scope cl C env) (lookup_relabel_local hxc) hn₅ (fun h₆ hn₆ hs₆ => ?_) (by simp [compEnvC, relabel, hkind]))))
  refine wpAny_pure ?_
  refine wpAny_Name (wpAny_loadName_local (env := compEnvC scope cl C env) hkind (lookup_relabel_local hxc) hn₆ (if_pos rfl) ?_) hdb
  have up₆ : ∀ q o, q ≠ I → q ≠ C → s.heap.get? q = some o → h₆.get? q = some o := fun q o q1 q2 e => hs₆.extBut _ _ q2 (hs₅.extBut _ _ q2 (hs₄.extBut _ _ q2 (up₃ _ _ (s₁.extBut _ _ q1 e))))
  refine append_at (hsz := by simp [sizeLine_eq]; omega) (up₆ _ _ (Ne.symm nID) (Ne.symm nCD) zD.1) fun h₇ hs₇ hD₇ => ?_
  obtain ⟨oC', heC, hoC'⟩ := ns_obj hn₆
  have all : ∀ q o, q ≠ I → q ≠ C → q ≠ D → s.heap.get? q = some o → h₇.get? q = some o := fun q o q1 q2 q3 e => hs₇.extBut _ _ q3 (up₆ q o q1 q2 e)
  refine h h₇ _ oC' _ ⟨?_, fun q o e => all q o (none0 e zI.2.2) (none0 e zC.2.2) (none0 e zD.2.2) (F.keep q o e), F.above⟩ ?_ hoC'
  · obtain ⟨o, es, ep, ho, r⟩ := F.ns
    exact ⟨o, es, ep, all L o (Ne.symm zI.2.1) (Ne.symm zC.2.1) (Ne.symm zD.2.1) ho, r⟩
  · refine all_cons (⟨hs₇.extBut _ _ nID (hs₆.extBut _ _ nIC (hs₅.extBut _ _ nIC (hs₄.extBut _ _ nIC (up₃ _ _ e₁)))), zI.2⟩) (all_cons (⟨hs₇.extBut _ _ nCD heC, zC.2⟩) (all_cons (⟨hD₇.trans (congrArg some (LCg.lst_snoc ys _)), zD.2⟩) fun p hp => ?_))
    · exact ⟨all _ _ (off nIr p hp) (off nCr p hp) (off nDr p hp) (zR p hp).1, (zR p hp).2⟩
theorem tri_over {elt iter : Expr} {elts : List Expr} {tp : Pos} {kt : Nat} {scope : Scope} {pos : Pos} {cenv : Env} {D I l : Addr} {k n : Nat} {items : Array Value} {rest : List (Addr × Obj)}
    (hh : A.handled = none) (F : Fr h₀ L s.heap m) (N : News h₀ L s.heap ((I, litO l k) :: rest)) (hl : (l, lstO items n) ∈ rest) (nd : (I :: rest.map (·.1)).Nodup) (hy : items[k]? = none)
    (h : ∀ h', Fr h₀ L h' m → News h₀ L h' rest → R (.ok .next) { s with heap := h' }) :
    codeAny (model prog w) A (.compLoop (.ListComp elt [⟨.Tuple elts kt tp, iter, [], 0⟩] scope pos) 0 (.ref I) (.ref D) cenv) R s := by
  have zI := N _ (.head _)
  have zR : ∀ p ∈ rest, s.heap.get? p.1 = some p.2 ∧ p.1 ≠ L ∧ h₀.get? p.1 = none := fun p hp => N p (.tail _ hp)
  simp only [List.nodup_cons] at nd
  have off : ∀ p ∈ rest, p.1 ≠ I := fun p hp e => nd.1 (e ▸ List.mem_map_of_mem hp)
  have none0 : ∀ {c o}, h₀.get? c = some o → c ≠ I := fun e e' => by rw [e', zI.2.2] at e; cases e
  refine comp_turn2 (wpAny_pyNext_list_end hh ⟨_, zI.1, rfl, rfl⟩ ⟨_, (zR _ hl).1, rfl, _, rfl⟩ hy fun h' hk => h h' ⟨?_, fun c o e => hk c o (none0 e) (F.keep c o e), F.above⟩ fun p hp => ⟨hk _ _ (off p hp) (zR p hp).1, (zR p hp).2⟩)
  obtain ⟨o, es, ep, ho, r⟩ := F.ns
  exact ⟨o, es, ep, hk L o (Ne.symm zI.2.1) ho, r⟩
/-- a list comprehension as an expression -/
theorem eval_comp2 {elt iter : Expr} {tgt : Expr} {ifs : List Expr} {scope : Scope} {cl : List (Str × Addr)} {pos : Pos} {env : Env} {Q : Value → Shared → Prop}
    (hclos : closureFor scope env = pure cl) (hkind : scope.kind = .function) (hnames : ∀ z ∈ scope.names, z.2 = .local → scope.names.lookup z.1 = some .local)
    (h : wpAny (model prog w) A (eval iter env) (fun xv s₁ => wpAny (model prog w) A (pyIter xv) (fun it s₂ => wpAny (model prog w) A (newList []) (fun acc s₃ =>
      wpAny (model prog w) A (newFunctionEnv scope env.globals cl [] env.qual none .none (some env)) (fun cenv s₄ =>
        codeAny (model prog w) A (.compStart (.ListComp elt [⟨tgt, iter, ifs, 0⟩] scope pos) 0 it acc { cenv with scope := relabel scope env }) (compPost (model prog w) A E none Q acc cenv.locals) s₄) E s₃) E s₂) E s₁) E s)
    (hs : ∀ x, foldedSetIterable iter env x = pure x := by intro _; rfl) :
    wpAny (model prog w) A (eval (.ListComp elt [⟨tgt, iter, ifs, 0⟩] scope pos) env) Q E s := by
  rw [eval_ListComp]
  exact wpAny_comprehension_free (use := none) rfl hs hclos hkind hnames h
theorem comp_doneE {Q : Value → Shared → Prop} {C D : Addr} {oC : Obj} {m₂ : Str → Option Value} {ys : List Value} {rest : List (Addr × Obj)} (F : Fr h₀ L s.heap m) (N : News h₀ L s.heap ((C, oC) :: (D, lst ys) :: rest)) (hoC : NsObj oC m₂) (off : ∀ p ∈ (D, lst ys) :: rest, p.1 ≠ C)
    (h : ∀ h', Fr h₀ L h' m → News h₀ L h' ((D, lst ys) :: rest) → Q (.ref D) { s with heap := h' }) :
    compPost (model prog w) A E none Q (.ref D) C (.ok .next) s := by
  have zC := N _ (.head _)
  refine ⟨m₂, hoC.ns zC.1, fun h'' hs'' => h h'' (F.change hs'' zC.2.1 zC.2.2) (fun p hp => ?_)⟩
  have z := N p (.tail _ hp)
  exact ⟨hs''.extBut _ _ (off p hp) z.1, z.2⟩
end
end Mine
end SZA

section SL1
namespace Mine
section
variable {prog : Program} {w : World} {A : Around} {E : Value → Shared → Prop} {s : Shared} {R : Result → Shared → Prop}
/-- a for over a list, by an invariant over the number of turns done -/
theorem for_list {target : Expr} {body : List Stmt} {env : Env} {I l : Addr} (items : Array Value) (J : Nat → Shared → Prop) (hh : A.handled = none)
    (hI : ∀ k s, J k s → s.heap.get? I = some (litO l k) ∧ s.heap.IsList l items)
    (turn : ∀ k v s h', items[k]? = some v → J k s → h'.get? I = some (litO l (k + 1)) → Heap.SameBut I s.heap h' →
      wpAny (model prog w) A (letOwnedTupleGo target (.ref I) v) (fun _ s₁' => wpAny (model prog w) A (assign target env v) (fun _ s₂ => wpAny (model prog w) A (execs body env) (fun f s₃ => (match f with | .next | .cont => J (k + 1) s₃ | .brk => R (.ok .next) s₃ | .ret v => R (.ok (.ret v)) s₃))
        (notedBy (model prog w) A env fun e s' => R (.error e) s') s₂) (notedBy (model prog w) A env fun e s' => R (.error e) s') s₁') (notedBy (model prog w) A env fun e s' => R (.error e) s') { s with heap := h' })
    (done : ∀ s h', J items.size s → Heap.ExtBut I s.heap h' → R (.ok .next) { s with heap := h' }) :
    ∀ (n k : Nat) (s : Shared), k + n = items.size → J k s → codeAny (model prog w) A (.forLoop target (.ref I) body [] env) R s
  | 0, k, s, e, j => by
    obtain ⟨i1, i2⟩ := hI k s j
    have ek : k = items.size := by omega
    subst ek
    refine for_turn (wpAny_pyNext_list_end hh ⟨_, i1, rfl, rfl⟩ i2 (by simp) fun h' e' => done s h' j e')
  | n + 1, k, s, e, j => by
    obtain ⟨i1, i2⟩ := hI k s j
    have hk : k < items.size := by omega
    refine for_turn (next_list i1 i2 (Array.getElem?_eq_getElem hk) fun h' e' sb => ?_)
    refine wpAny_mono (turn k _ s h' (Array.getElem?_eq_getElem hk) j e' sb) (fun _ s₁ h₁ => wpAny_mono h₁ (fun _ s₂ h₂ => wpAny_mono h₂ (fun f s₃ h₃ => ?_) fun _ _ x => x) fun _ _ x => x) fun _ _ x => x
    cases f with
    | next => exact for_list items J hh hI turn done n (k + 1) s₃ (by omega) h₃
    | cont => exact for_list items J hh hI turn done n (k + 1) s₃ (by omega) h₃
    | brk => exact h₃
    | ret v => exact h₃
end
end Mine
end SL1

section SL2
namespace Mine
theorem fmod3 (x : Int) : x.fmod 3 = 0 ∨ x.fmod 3 = 1 ∨ x.fmod 3 = 2 := by
  rw [Int.fmod_eq_emod_of_nonneg _ (by decide)]
  omega
noncomputable def abcI (k : Int) : Str := Txt.item (Str.ofString "abc") k
theorem abc_ok {k : Int} (h : k = 0 ∨ k = 1 ∨ k = 2) : (abcI k).cps.toList.length = 1 ∧ ∀ c ∈ (abcI k).cps.toList, c < 126 := by
  rcases h with rfl | rfl | rfl <;> decide +kernel
theorem append_K {prog : Program} {w : World} {A : Around} {E : Value → Shared → Prop} {s : Shared} {x : Addr} {vs : Array Value} {n : Nat} {h₀ : Heap} {L : Addr} {m : Str → Option Value} {news news' : List (Addr × Obj)} {v : Value} {Q : Value → Shared → Prop} (F : Fr h₀ L s.heap m) (N : News h₀ L s.heap news)
    (U : Upd x (lstO vs n) (lstO (vs.push v) (n + 1)) news news') (hsz : vs.size ≤ sizeLine) (h : ∀ h', Fr h₀ L h' m → News h₀ L h' news' → Q .none { s with heap := h' }) :
    wpAny (model prog w) A (call (.builtin "list.append") [.ref x, v]) Q E s := by
  obtain ⟨pre, post, rfl, rfl, a, b⟩ := U.split
  have z := N (x, lstO vs n) (List.mem_append.mpr (.inr (.head _)))
  exact append_at (hsz := hsz) z.1 fun h' hs ho' => h h' (F.change hs z.2.1 z.2.2) (news_set N a b hs ho')
noncomputable def IntsL (items : Array Value) (ns : List Int) : Prop := items.size = ns.length ∧ ∀ (i : Nat) (v : Value), items[i]? = some v → ∃ (k : Int) (t : Tok), ns[i]? = some k ∧ v = .int k t
noncomputable def pcs (qs : List Pc) : List (Addr × Obj) := qs.map fun q => (q.a, q.obj)
noncomputable def Pc.ok (q : Pc) : Prop := (q.x.cps.toList ++ q.y.cps.toList).length = 1 ∧ ∀ c ∈ q.x.cps.toList ++ q.y.cps.toList, c < 126
noncomputable def cnt (i : Int) (ns : List Int) : Nat := (ns.filter fun x => x % 3 == i).length
theorem e_cps : (Str.ofString "").cps.toList = [] := rfl
theorem ok_l {T : Addr} {x : Str} {t1 t2 : Tok} (h : x.cps.toList.length = 1 ∧ ∀ c ∈ x.cps.toList, c < 126) : Pc.ok ⟨T, x, t1, Str.ofString "", t2⟩ := by
  unfold Pc.ok
  rw [e_cps, List.append_nil]; exact h
theorem ok_r {T : Addr} {x : Str} {t1 t2 : Tok} (h : x.cps.toList.length = 1 ∧ ∀ c ∈ x.cps.toList, c < 126) : Pc.ok ⟨T, Str.ofString "", t1, x, t2⟩ := by
  unfold Pc.ok
  rw [e_cps, List.nil_append]; exact h
theorem sub0 {a b c : List Pc} {q : Pc} : ∀ p ∈ (a ++ [q]) ++ b ++ c, p = q ∨ p ∈ a ++ b ++ c := by
  intro p hp
  simp only [List.mem_append, List.mem_cons, List.not_mem_nil, or_false] at hp ⊢
  rcases hp with ((h | h) | h) | h <;> simp [h]
theorem sub1 {a b c : List Pc} {q : Pc} : ∀ p ∈ a ++ (b ++ [q]) ++ c, p = q ∨ p ∈ a ++ b ++ c := by
  intro p hp
  simp only [List.mem_append, List.mem_cons, List.not_mem_nil, or_false] at hp ⊢
  rcases hp with (h | h | h) | h <;> simp [h]
theorem sub2 {a b c : List Pc} {q : Pc} : ∀ p ∈ a ++ b ++ (c ++ [q]), p = q ∨ p ∈ a ++ b ++ c := by
  intro p hp
  simp only [List.mem_append, List.mem_cons, List.not_mem_nil, or_false] at hp ⊢
  rcases hp with (h | h) | h | h <;> simp [h]
theorem itEnd {g h h' : Heap} {L I : Addr} {m : Str → Option Value} {o : Obj} (F : Fr g L h m) (_ : h.get? I = some o) (z : h.get? I = some o ∧ I ≠ L ∧ g.get? I = none) (e : Heap.ExtBut I h h') : Fr g L h' m := by
  obtain ⟨oL, es, ep, hL, rr⟩ := F.ns
  exact ⟨⟨oL, es, ep, e L oL (Ne.symm z.2.1) hL, rr⟩, fun b x q => e b x (fun hb => by rw [hb, z.2.2] at q; cases q) (F.keep b x q), F.above⟩
theorem itEndN {g h h' : Heap} {L I : Addr} {news news' : List (Addr × Obj)} (N : News g L h news) (e : Heap.ExtBut I h h') (hs : ∀ p ∈ news', p ∈ news) (hI : ∀ p ∈ news', p.1 ≠ I) : News g L h' news' :=
  fun p hp => ⟨e _ _ (hI p hp) (N p (hs p hp)).1, (N p (hs p hp)).2⟩
theorem mem_pcs {qs : List Pc} {q : Pc} (h : q ∈ qs) : (q.a, q.obj) ∈ pcs qs := List.mem_map_of_mem (f := fun q : Pc => (q.a, q.obj)) h
theorem fr_at {g h : Heap} {L : Addr} {m : Str → Option Value} {x : Str} {v : Value} (F : Fr g L h m) (e : m x = some v) : Fr g L h (fun y => if y = x then some v else m y) := by
  have : m = fun y => if y = x then some v else m y := by
    funext y
    by_cases hy : y = x
    · rw [if_pos hy, hy]; exact e
    · rw [if_neg hy]
  exact this ▸ F
theorem vals_snoc (qs : List Pc) (q : Pc) : vals (qs ++ [q]) = (vals qs).push (.ref q.a) := by simp [vals]
theorem cnt_le (i : Int) (ns : List Int) : cnt i ns ≤ ns.length := List.length_filter_le _ _
theorem cnt_take (i : Int) {ns : List Int} {k : Nat} {x : Int} (hx : ns[k]? = some x) : cnt i (ns.take (k + 1)) = cnt i (ns.take k) + (if x.fmod 3 = i then 1 else 0) := by
  unfold cnt
  rw [List.take_add_one, hx, List.filter_append, List.length_append, Int.fmod_eq_emod_of_nonneg _ (by decide)]
  by_cases h : x % 3 = i
  · simp [h]
  · simp [h]
inductive PiecesJ (g : Heap) (L P0 P1 P2 PA I NA : Addr) (ns : List Int) (s : Shared) (k : Nat) (s' : Shared) : Prop
  | mk (h : Heap) (tk : Nat) (q0 q1 q2 : List Pc) (n0 n1 n2 : Nat) (m : Str → Option Value) (_ : s' = { s with heap := h, toks := tk })
      (_ : Fr g L h m)
      (_ : m (Str.ofString "pieces") = some (.ref PA))
      (_ : News g L h ((P0, lstO (vals q0) n0) :: (P1, lstO (vals q1) n1) :: (P2, lstO (vals q2) n2) :: (PA, lstO #[.ref P0, .ref P1, .ref P2] 0) :: (I, litO NA k) :: pcs (q0 ++ q1 ++ q2)))
      (_ : (∀ q ∈ q0 ++ q1 ++ q2, q.ok ∧ @LT.lt Nat _ I q.a))
      (_ : q0.length = cnt 0 (ns.take k))
      (_ : q1.length = cnt 1 (ns.take k))
      (_ : q2.length = cnt 2 (ns.take k)) : PiecesJ g L P0 P1 P2 PA I NA ns s k s'
theorem pj_in {a b : List Pc} {q q' : Pc} (h : q' ∈ a ++ [q] ++ b) : q' = q ∨ q' ∈ a ++ b := by
  simp only [List.append_assoc, List.mem_append, List.mem_cons, List.not_mem_nil, or_false] at h ⊢
  rcases h with h | h | h
  · exact .inr (.inl h)
  · exact .inl h
  · exact .inr (.inr h)
section
variable {g h : Heap} {L P0 P1 P2 PA I NA : Addr} {ns : List Int} {s : Shared} {k tk : Nat} {x : Int} {q0 q1 q2 : List Pc} {q : Pc} {n0 n1 n2 : Nat} {m : Str → Option Value}
theorem pj_fin {q0' q1' q2' : List Pc} (F : Fr g L h m) (e : m (Str.ofString "pieces") = some (.ref PA)) (hq : ∀ q ∈ q0 ++ q1 ++ q2, q.ok ∧ @LT.lt Nat _ I q.a) (hok : q.ok) (hI : @LT.lt Nat _ I q.a)
    (hs : ∀ p ∈ q0' ++ q1' ++ q2', p = q ∨ p ∈ q0 ++ q1 ++ q2)
    {v0 v1 v2 : Array Value} (N : News g L h ((q.a, q.obj) :: (P0, lstO v0 n0) :: (P1, lstO v1 n1) :: (P2, lstO v2 n2) :: (PA, lstO #[.ref P0, .ref P1, .ref P2] 0) :: (I, litO NA (k + 1)) :: pcs (q0 ++ q1 ++ q2)))
    (e0 : v0 = vals q0') (e1 : v1 = vals q1') (e2 : v2 = vals q2')
    (c0 : q0'.length = cnt 0 (ns.take (k + 1))) (c1 : q1'.length = cnt 1 (ns.take (k + 1))) (c2 : q2'.length = cnt 2 (ns.take (k + 1))) : PiecesJ g L P0 P1 P2 PA I NA ns s (k + 1) { s with heap := h, toks := tk } := by
  subst e0 e1 e2
  refine ⟨h, tk, q0', q1', q2', n0, n1, n2, m, rfl, F, e, fun p hp => N p ?_, fun p hp => ?_, c0, c1, c2⟩
  · simp only [List.mem_cons] at hp ⊢
    rcases hp with hp | hp | hp | hp | hp | hp
    · exact .inr (.inl hp)
    · exact .inr (.inr (.inl hp))
    · exact .inr (.inr (.inr (.inl hp)))
    · exact .inr (.inr (.inr (.inr (.inl hp))))
    · exact .inr (.inr (.inr (.inr (.inr (.inl hp)))))
    · obtain ⟨q', hq', rfl⟩ := List.mem_map.mp hp
      rcases hs q' hq' with rfl | h'
      · exact .inl rfl
      · exact .inr (.inr (.inr (.inr (.inr (.inr (List.mem_map_of_mem h'))))))
  · rcases hs p hp with rfl | h'
    · exact ⟨hok, hI⟩
    · exact hq p h'
end
theorem cnt_yes {i x : Int} {ns : List Int} {k : Nat} {q : List Pc} {y : Pc} (hx : ns[k]? = some x) (e : x.fmod 3 = i) (c : q.length = cnt i (ns.take k)) : (q ++ [y]).length = cnt i (ns.take (k + 1)) := by
  rw [cnt_take i hx, if_pos e, List.length_append, c]; rfl
theorem cnt_no {i j x : Int} {ns : List Int} {k : Nat} {q : List Pc} (hx : ns[k]? = some x) (e : x.fmod 3 = j) (hj : ¬ j = i) (c : q.length = cnt i (ns.take k)) : q.length = cnt i (ns.take (k + 1)) := by
  rw [cnt_take i hx, if_neg (by rw [e]; exact hj), c]; rfl
inductive Pick (g : Heap) (L P0 P1 P2 PA I NA : Addr) (ns : List Int) (s : Shared) (k : Nat) (x : Int) (Z : List (Addr × Obj)) : Prop
  | mk (P : Addr) (qi : List Pc) (ni : Nat) (hit : (#[.ref P0, .ref P1, .ref P2] : Array Value)[(x.fmod 3).toNat]? = some (.ref P)) (hm : (P, lstO (vals qi) ni) ∈ Z) (b : (vals qi).size ≤ sizeLine)
      (up : ∀ q : Pc, ∃ Z', Upd P (lstO (vals qi) ni) (lstO ((vals qi).push (.ref q.a)) (ni + 1)) Z Z' ∧ (q.ok → @LT.lt Nat _ I q.a → ∀ h tk m, Fr g L h m → m (Str.ofString "pieces") = some (.ref PA) → News g L h ((q.a, q.obj) :: Z') → PiecesJ g L P0 P1 P2 PA I NA ns s (k + 1) { s with heap := h, toks := tk })) : Pick g L P0 P1 P2 PA I NA ns s k x Z
theorem pick {g : Heap} {L P0 P1 P2 PA I NA : Addr} {ns : List Int} {s : Shared} {k : Nat} {x : Int} {q0 q1 q2 : List Pc} {n0 n1 n2 : Nat} {Z : List (Addr × Obj)} (up : Up [P0, P1, P2, PA, I]) (hq : ∀ q ∈ q0 ++ q1 ++ q2, q.ok ∧ @LT.lt Nat _ I q.a) (hx : ns[k]? = some x)
    (b0 : q0.length ≤ 12) (b1 : q1.length ≤ 12) (b2 : q2.length ≤ 12) (c0 : q0.length = cnt 0 (ns.take k)) (c1 : q1.length = cnt 1 (ns.take k)) (c2 : q2.length = cnt 2 (ns.take k))
    (hZ : (P0, lstO (vals q0) n0) :: (P1, lstO (vals q1) n1) :: (P2, lstO (vals q2) n2) :: (PA, lstO #[.ref P0, .ref P1, .ref P2] 0) :: (I, litO NA (k + 1)) :: pcs (q0 ++ q1 ++ q2) = Z) : Pick g L P0 P1 P2 PA I NA ns s k x Z := by
  subst hZ
  have sz : ∀ {q : List Pc}, q.length ≤ 12 → (vals q).size ≤ sizeLine := fun h => by rw [vals_size, sizeLine_eq]; omega
  have l0I : P0 < I := Nat.lt_trans up.1 (Nat.lt_trans up.2.1 (Nat.lt_trans up.2.2.1 up.2.2.2.1))
  have l1I : P1 < I := Nat.lt_trans up.2.1 (Nat.lt_trans up.2.2.1 up.2.2.2.1)
  have l2I : P2 < I := Nat.lt_trans up.2.2.1 up.2.2.2.1
  have off : ∀ {P : Addr}, @LT.lt Nat _ P I → ∀ p ∈ (I, litO NA (k + 1)) :: pcs (q0 ++ q1 ++ q2), p.1 ≠ P := fun h => all_cons (Nat.ne_of_gt h) (all_map fun q hq' => Nat.ne_of_gt (Nat.lt_trans h (hq q hq').2))
  have u2 := all_cons (x := (PA, lstO #[.ref P0, .ref P1, .ref P2] 0)) (P := fun p : Addr × Obj => p.1 ≠ P2) (Nat.ne_of_gt up.2.2.1) (off l2I)
  have u1 := all_cons (x := (P2, lstO (vals q2) n2)) (P := fun p : Addr × Obj => p.1 ≠ P1) (Nat.ne_of_gt up.2.1) (all_cons (x := (PA, lstO #[.ref P0, .ref P1, .ref P2] 0)) (Nat.ne_of_gt (Nat.lt_trans up.2.1 up.2.2.1)) (off l1I))
  have u0 := all_cons (x := (P1, lstO (vals q1) n1)) (P := fun p : Addr × Obj => p.1 ≠ P0) (Nat.ne_of_gt up.1) (all_cons (x := (P2, lstO (vals q2) n2)) (Nat.ne_of_gt (Nat.lt_trans up.1 up.2.1)) (all_cons (x := (PA, lstO #[.ref P0, .ref P1, .ref P2] 0)) (Nat.ne_of_gt (Nat.lt_trans up.1 (Nat.lt_trans up.2.1 up.2.2.1))) (off l0I)))
  rcases fmod3 x with e | e | e
  · exact ⟨P0, q0, n0, by rw [e]; rfl, .head _, sz b0, fun q => ⟨_, .head u0, fun hok hI h tk m F em N => pj_fin F em hq hok hI sub0 N (vals_snoc _ _).symm rfl rfl (cnt_yes hx e c0) (cnt_no hx e (by decide) c1) (cnt_no hx e (by decide) c2)⟩⟩
  · exact ⟨P1, q1, n1, by rw [e]; rfl, .tail _ (.head _), sz b1, fun q => ⟨_, .tail (Nat.ne_of_lt up.1) (.head u1), fun hok hI h tk m F em N => pj_fin F em hq hok hI sub1 N rfl (vals_snoc _ _).symm rfl (cnt_no hx e (by decide) c0) (cnt_yes hx e c1) (cnt_no hx e (by decide) c2)⟩⟩
  · exact ⟨P2, q2, n2, by rw [e]; rfl, .tail _ (.tail _ (.head _)), sz b2, fun q => ⟨_, .tail (Nat.ne_of_lt (Nat.lt_trans up.1 up.2.1)) (.tail (Nat.ne_of_lt up.2.1) (.head u2)), fun hok hI h tk m F em N => pj_fin F em hq hok hI sub2 N rfl rfl (vals_snoc _ _).symm (cnt_no hx e (by decide) c0) (cnt_no hx e (by decide) c1) (cnt_yes hx e c2)⟩⟩
theorem law_pieces {p : Program} {loose : List Str} {mean : ExcName → Option Value} {mg mb : Str → Option Value} {w : World} {dp un : Nat} {gd : Option (List Code)} {outer : List Env} {base H : Heap} {s : Shared} {R : Result → Shared → Prop}
    {NA : Addr} {nn : Nat} {items : Array Value} {ns : List Int}
    (C : Cx p loose mean mg mb w (aT dp un gd outer) base outer H) (st : H.StaysIn s.heap) (hd : dp + 4 < recursionLimit) (hu : un + 40 < cLine)
    (hN : s.heap.get? NA = some (lstO items nn)) (hi : IntsL items ns) (hn : items.size ≤ 12)
    (k : ∀ h' tk' P0 P1 P2 PA q0 q1 q2 n0 n1 n2, ExtL [] s.heap h' → (∀ a, a ∈ [P0, P1, P2, PA] ∨ a ∈ (q0 ++ q1 ++ q2).map (·.a) → s.heap.get? a = none) → @LT.lt Nat _ P0 P1 ∧ @LT.lt Nat _ P1 P2 ∧ @LT.lt Nat _ P2 PA ∧ (∀ q ∈ q0 ++ q1 ++ q2, @LT.lt Nat _ PA q.a) →
      h'.get? P0 = some (lstO (vals q0) n0) → h'.get? P1 = some (lstO (vals q1) n1) → h'.get? P2 = some (lstO (vals q2) n2) → h'.get? PA = some (lstO #[.ref P0, .ref P1, .ref P2] 0) → PcIn h' (q0 ++ q1 ++ q2) →
      (∀ q ∈ q0 ++ q1 ++ q2, q.ok) → q0.length = cnt 0 ns → q1.length = cnt 1 ns → q2.length = cnt 2 ns → R (.ok (.ret (.ref PA))) { s with heap := h', toks := tk' }) :
    codeAny (model Challenge.rw_nb0220_01.row.prog w) (aT dp un gd outer) (.call (.ref 188) ⟨[.ref NA], []⟩) R s := by
  w_on
  have hled : ∀ q ∈ ([] : List (Addr × Obj)), s.heap.get? q.1 = some q.2 ∧ H.get? q.1 = none := fun q hq => nomatch hq
  refine' enter (binds := [(Str.ofString "numbers", .ref NA)]) C st hled ?k6 ?k7 ?k8 ?k9 ?kB ?_ ?c5 ?c2 ?c3 ?c4
  (((case k6 => k_is); (case k7 => k_is); (case k8 => exact Nat.lt_of_le_of_lt (Nat.le_add_right _ _) hd); (case k9 => exact BindsTo.of_eq rfl); (case kB => exact locs rfl); (case c5 => decide); (case c2 => exact rfl); (case c3 => exact rfl); (case c4 => exact rfl)))
  intro g' L' h' F' N' B' X' T' G'
  have gN := G' _ _ hN (by simp)
  (try dsimp only)
  (try k_fold)
  iterate 19 walk1
  refine wpAny_For ?_
  k_steps
  rename_i P0 h0' l0 P1 h1' l1 P2 h2' l2 PA h3' l3 h4' F4 N4
  refine wpAny_pyIter_list ⟨_, Fr.keep F4 _ _ gN, rfl, _, rfl⟩ ?_
  obtain ⟨F5, N5, l5⟩ := ks_newsPush (s := { s with heap := h4', toks := s.toks }) (o := litO NA 0) F4 N4 rfl (Heap.get?_push_at rfl rfl) (fun b o e => Heap.get?_push_of_some _ e)
  clear F4 N4
  (try k_lt l5)
  generalize hI : h4'.objs.size = I at *
  have l01 : @LT.lt Nat _ P0 P1 := by omega
  have l12 : @LT.lt Nat _ P1 P2 := by omega
  have l2A : @LT.lt Nat _ P2 PA := by omega
  have lAI : @LT.lt Nat _ PA I := by omega
  have l2I := Nat.lt_trans l2A lAI
  have l1I := Nat.lt_trans l12 l2I
  have l0I := Nat.lt_trans l01 l1I
  have l1A := Nat.lt_trans l12 l2A
  have l0A := Nat.lt_trans l01 l1A
  have l02 := Nat.lt_trans l01 l12
  refine for_list (l := NA) items (PiecesJ g' L' P0 P1 P2 PA I NA ns s) rfl ?hI ?turn ?done items.size 0 _ (by simp) ?h0
  case hI =>
    intro k s' hJ
    obtain ⟨h, tk, q0, q1, q2, n0, n1, n2, m, rfl, F, _, N, _⟩ := hJ
    exact ⟨News.get N (by k_mem), ⟨_, F.keep _ _ gN, rfl, _, rfl⟩⟩
  case h0 =>
    refine ⟨_, _, [], [], [], 0, 0, 0, _, rfl, F5, rfl, ?_, (fun _ h => nomatch h), rfl, rfl, rfl⟩
    intro p hp
    refine N5 p ?_
    simp only [pcs, List.append_nil, List.map_nil, List.mem_cons, List.not_mem_nil, or_false] at hp ⊢
    rcases hp with rfl | rfl | rfl | rfl | rfl
    all_goals simp [vals]
  case done =>
    intro s' h' hJ e
    obtain ⟨h, tk, q0, q1, q2, n0, n1, n2, m, rfl, F, em, N, hq, c0, c1, c2⟩ := hJ
    replace F := fr_at F em
    have ht : ns.take items.size = ns := List.take_of_length_le (Nat.le_of_eq hi.1.symm)
    rw [ht] at c0 c1 c2
    have zI := N (I, litO NA items.size) (by k_mem)
    have F8 := itEnd F zI.1 zI e
    have N8 := itEndN (news' := (P0, lstO (vals q0) n0) :: (P1, lstO (vals q1) n1) :: (P2, lstO (vals q2) n2) :: (PA, lstO #[.ref P0, .ref P1, .ref P2] 0) :: pcs (q0 ++ q1 ++ q2)) N (I := I) e
      (all_cons (.head _) (all_cons (.tail _ (.head _)) (all_cons (.tail _ (.tail _ (.head _))) (all_cons (.tail _ (.tail _ (.tail _ (.head _)))) fun p hp => .tail _ (.tail _ (.tail _ (.tail _ (.tail _ hp))))))))
      (all_cons (Nat.ne_of_lt l0I) (all_cons (Nat.ne_of_lt l1I) (all_cons (Nat.ne_of_lt l2I) (all_cons (Nat.ne_of_lt lAI) (all_map fun q hq' => Nat.ne_of_gt (hq q hq').2)))))
    clear F N
    dsimp only
    k_steps
    refine k h' _ P0 P1 P2 PA q0 q1 q2 n0 n1 n2 (ext_of G' F8) (fun a ha => ?_) ⟨l01, l12, l2A, fun q hq' => Nat.lt_trans lAI (hq q hq').2⟩ (News.get N8 (by k_mem)) (News.get N8 (by k_mem)) (News.get N8 (by k_mem)) (News.get N8 (by k_mem)) (fun q hq' => News.get N8 (.tail _ (.tail _ (.tail _ (.tail _ (mem_pcs hq')))))) (fun q hq' => (hq q hq').1) c0 c1 c2
    have fr : ∀ {a : Addr} {o : Obj}, (a, o) ∈ (P0, lstO (vals q0) n0) :: (P1, lstO (vals q1) n1) :: (P2, lstO (vals q2) n2) :: (PA, lstO #[.ref P0, .ref P1, .ref P2] 0) :: pcs (q0 ++ q1 ++ q2) → s.heap.get? a = none := fun hm => fresh_of G' N8 hm (by simp)
    rcases ha with ha | ha
    · exact all_cons (P := fun a => s.heap.get? a = none) (fr (.head _)) (all_cons (fr (o := lstO (vals q1) n1) (.tail _ (.head _))) (all_cons (fr (o := lstO (vals q2) n2) (.tail _ (.tail _ (.head _)))) (all_cons (fr (o := lstO #[.ref P0, .ref P1, .ref P2] 0) (.tail _ (.tail _ (.tail _ (.head _))))) all_nil))) a ha
    · exact all_map (P := fun a => s.heap.get? a = none) (fun q hq' => fr (o := q.obj) (.tail _ (.tail _ (.tail _ (.tail _ (mem_pcs hq')))))) a ha
  case turn =>
    intro k v s' h' hv hJ eI sb
    obtain ⟨h, tk, q0, q1, q2, n0, n1, n2, m, rfl, F, em, N, hq, c0, c1, c2⟩ := hJ
    replace F := fr_at F em
    have hlen := hi.1
    have b0 : q0.length ≤ 12 := by have := cnt_le 0 (ns.take k); rw [List.length_take] at this; omega
    have b1 : q1.length ≤ 12 := by have := cnt_le 1 (ns.take k); rw [List.length_take] at this; omega
    have b2 : q2.length ≤ 12 := by have := cnt_le 2 (ns.take k); rw [List.length_take] at this; omega
    obtain ⟨x, tx, hx, rfl⟩ := hi.2 k v hv
    refine wpAny_of_eq rfl ?_
    refine wpAny_assign_Name ?_
    have oI : ∀ p ∈ pcs (q0 ++ q1 ++ q2), p.1 ≠ I := all_map fun q hq' => Nat.ne_of_gt (hq q hq').2
    obtain ⟨F6, N6⟩ := back1 F N (.tail (Nat.ne_of_lt l0I) (.tail (Nat.ne_of_lt l1I) (.tail (Nat.ne_of_lt l2I) (.tail (Nat.ne_of_lt lAI) (.head oI))))) (fun b o e hb => sb.extBut b o (by simpa using hb) e) eI
    clear F N F5 N5
    have hab := abc_ok (fmod3 (x.fdiv 3))
    have ok0 : ∀ {T9 : Addr} {t1 t2 : Tok}, Pc.ok ⟨T9, abcI ((x.fdiv 3).fmod 3), t1, Str.ofString "", t2⟩ := fun {_ _ _} => ok_l hab
    have ok1 : ∀ {T9 : Addr} {t1 t2 : Tok}, Pc.ok ⟨T9, Str.ofString "", t1, abcI ((x.fdiv 3).fmod 3), t2⟩ := fun {_ _ _} => ok_r hab
    generalize hZ : (P0, lstO (vals q0) n0) :: (P1, lstO (vals q1) n1) :: (P2, lstO (vals q2) n2) :: (PA, lstO #[.ref P0, .ref P1, .ref P2] 0) :: (I, litO NA (k + 1)) :: pcs (q0 ++ q1 ++ q2) = Z at N6
    have mPA : (PA, lstO #[.ref P0, .ref P1, .ref P2] 0) ∈ Z := hZ ▸ .tail _ (.tail _ (.tail _ (.head _)))
    have mI : (I, litO NA (k + 1)) ∈ Z := hZ ▸ .tail _ (.tail _ (.tail _ (.tail _ (.head _))))
    obtain ⟨P, qi, ni, hit, hm, hb, up⟩ := pick (g := g') (L := L') (s := s) ⟨l01, l12, l2A, lAI, trivial⟩ hq hx b0 b1 b2 c0 c1 c2 hZ
    have h3 := fmod3 x
    clear hZ hq c0 c1 c2 b0 b1 b2 oI
    k_steps
    · refine item_at (v := .ref P) (News.get (by k_asm) (by k_mem)) (by omega) (by omega) hit ?_
      k_steps
      rename_i T9 h9 F9 N9 l9
      obtain ⟨Z', U, fin⟩ := up ⟨T9, abcI ((x.fdiv 3).fmod 3), _, Str.ofString "", _⟩
      refine append_K F9 N9 (.tail (Nat.ne_of_gt (l9 _ hm)) U) hb ?_
      intro h7 F7 N7
      k_steps
      dsimp only
      exact fin ok0 (l9 _ mI) _ _ _ F7 rfl N7
    · refine item_at (v := .ref P) (News.get (by k_asm) (by k_mem)) (by omega) (by omega) hit ?_
      k_steps
      rename_i T9 h9 F9 N9 l9
      obtain ⟨Z', U, fin⟩ := up ⟨T9, Str.ofString "", _, abcI ((x.fdiv 3).fmod 3), _⟩
      refine append_K F9 N9 (.tail (Nat.ne_of_gt (l9 _ hm)) U) hb ?_
      intro h7 F7 N7
      k_steps
      dsimp only
      exact fin ok1 (l9 _ mI) _ _ _ F7 rfl N7
end Mine
end SL2

section SL3
namespace Mine
local macro_rules | `(tactic| k_inst) => `(tactic| (refine' inst_acc ?z1 ?z2; (case z1 => walk_at "my get"); (case z2 => walk_at "my get")))
local macro_rules | `(tactic| walk_at "getMethod ref") => `(tactic| (k_here; k_dflt (refine' acc_method ?k1 ?k2 ?k3 ?k4 ?k5 ?k6 ?k7 ?_; (case k1 => k_in); (case k2 => walk_at "my get"); (case k3 => walk_at "my get"); (case k4 => k_is); (case k5 => k_is); (case k6 => decide +kernel); (case k7 => first | assumption | rfl); k_whole)))
theorem with_fn {K : Frag} {f : Addr} {G : Prop} {name qual name' qual' : Str} {params params' : Arguments} {body body' : List Stmt} {scope scope' : Scope} {cl cl' : List (Str × Addr)} {dV kV doc pm cdv ct oc dV' kV' doc' pm' cdv' ct' oc' : Value} {an od an' od' : Option Addr} {osl osl' : Array (Option Value)}
    (ho : K.lookup f = some ⟨oc, od, .func (fnX name qual params body scope cl dV kV doc pm an cdv ct), osl⟩) (ho' : K.lookup f = some ⟨oc', od', .func (fnX name' qual' params' body' scope' cl' dV' kV' doc' pm' an' cdv' ct'), osl'⟩)
    (h : (⟨oc, od, .func (fnX name qual params body scope cl dV kV doc pm an cdv ct), osl⟩ : Obj) = ⟨oc', od', .func (fnX name' qual' params' body' scope' cl' dV' kV' doc' pm' an' cdv' ct'), osl'⟩ → G) : G := h (Option.some.inj (ho.symm.trans ho'))
noncomputable def forBody : List Stmt → Nat → List Stmt
  | .For _ _ b _ _ :: _, 0 => b
  | _ :: r, n + 1 => forBody r n
  | _, _ => []
theorem fresh_add {g h h' : Heap} {L t : Addr} {m : Str → Option Value} {o : Obj} (F : Fr g L h m) (h0 : h.get? t = none) (h1 : h'.get? t = some o) : h'.get? t = some o ∧ t ≠ L ∧ g.get? t = none := by
  refine ⟨h1, fun e => ?_, ?_⟩
  · obtain ⟨oL, _, _, hL, _⟩ := F.ns
    rw [e, hL] at h0; cases h0
  · cases e : g.get? t with
    | none => rfl
    | some o' => rw [F.keep _ _ e] at h0; cases h0
noncomputable def Pc.t2 (q : Pc) : Str × Str := (q.x, q.y)
inductive RowsJ (g : Heap) (L x d I P : Addr) (m : Str → Option Value) (fz : List (Addr × Obj)) (ps : List Pc) (s : Shared) (k : Nat) (s' : Shared) : Prop
  | mk (h : Heap) (tk : Nat) (qs : List Pc) (n : Nat) (u : Str → Option Value) (_ : s' = { s with heap := h, toks := tk })
      (_ : Fr g L h u)
      (_ : (∀ y, y ≠ Str.ofString "one" → u y = m y))
      (_ : News g L h ((x, accO d (vals qs) n) :: (I, litO P k) :: (pcs qs ++ fz)))
      (_ : qs.map Pc.t2 = (ps.take k).map Pc.t2)
      (_ : (∀ q ∈ qs, q.a ≠ I ∧ q.a ≠ x ∧ ∀ p ∈ fz, p.1 ≠ q.a)) : RowsJ g L x d I P m fz ps s k s'
theorem rows_eq {w : World} {name qual : Str} {params : Arguments} {body : List Stmt} {scope : Scope} {cl : List (Str × Addr)} {dV kV doc pm cdv ct oc : Value} {an od : Option Addr} {osl : Array (Option Value)}
    (ho : (k0.heap_1 w.params).lookup 193 = some ⟨oc, od, .func (fnX name qual params body scope cl dV kV doc pm an cdv ct), osl⟩) : qual = Str.ofString "_law_rows" ∧ scope = (fnAt (k0.heap_1 w.params) 193).scope ∧ cl = [] ∧ cdv = .ref 192 ∧ body = fnBody (k0.heap_1 w.params) 193 := fn_eq ho (by kernel_rfl) (by kernel_rfl) (by kernel_rfl)
theorem rows_turn {p : Program} {loose : List Str} {mean : ExcName → Option Value} {mg mb : Str → Option Value} {w : World} {dp un : Nat} {gd : Option (List Code)} {outer : List Env} {base g : Heap} {s : Shared} {E : Value → Shared → Prop} {Q : Flow → Shared → Prop}
    {name qual : Str} {params : Arguments} {body B : List Stmt} {scope : Scope} {cl : List (Str × Addr)} {dV kV doc pm cdv ct oc : Value} {an od : Option Addr} {osl : Array (Option Value)} {L : Addr}
    (ho : (k0.heap_1 w.params).lookup 193 = some ⟨oc, od, .func (fnX name qual params body scope cl dV kV doc pm an cdv ct), osl⟩) (hB : B = forBody body 1)
    {m : Str → Option Value} {x d PA P : Addr} {n np pn : Nat} {j i0 : Int} {tj tk0 ti : Tok} {ps : List Pc} {pa : Array Value} {fz : List (Addr × Obj)}
    (Bl : Below (aT dp un gd outer) base outer g) (X : (k0.heap_1 w.params).In g) (T : Top p loose mean mg mb g) (hd : dp + 8 < recursionLimit) (hu : un + 80 < cLine)
    (F : Fr g L s.heap m) (N : News g L s.heap ((x, accO d (vals []) n) :: fz)) (hfz : ∀ q ∈ fz, q.1 ≠ x) (hdd : (d, iniD w.params i0 tk0 ti) ∈ fz)
    (e1 : m (Str.ofString "row") = some (.ref x)) (e2 : m (Str.ofString "place") = some (.int j tj)) (e3 : m (Str.ofString "pieces") = some (.ref PA))
    (gPA : g.get? PA = some (lstO pa np)) (hj0 : 0 ≤ j) (hj2 : j ≤ 2) (hP : pa[j.toNat]? = some (.ref P)) (gP : g.get? P = some (lstO (vals ps) pn)) (gq : PcIn g ps) (hps : ps.length ≤ 12)
    (k : ∀ h tk qs n u, Fr g L h u → (∀ y, y ≠ Str.ofString "one" → u y = m y) → News g L h ((x, accO d (vals qs) n) :: (pcs qs ++ fz)) → qs.map Pc.t2 = ps.map Pc.t2 → (∀ q ∈ qs, q.a ≠ x ∧ ∀ p ∈ fz, p.1 ≠ q.a) → Q .next { s with heap := h, toks := tk }) :
    wpAny (model Challenge.rw_nb0220_01.row.prog w) ((aT dp un gd outer).deeper (envX qual scope L 193 cdv cl)) (execs B (envX qual scope L 193 cdv cl)) Q E s := by
  w_on
  refine fn_execs (fun b => forBody b 1) hB (rows_eq ho) ?_
  conv in (forBody _ _) => whnf
  conv in (FuncData.scope _) => whnf
  replace F := fr_at (fr_at (fr_at F e1) (x := Str.ofString "place") (v := .int j tj) (if_skip (by decide) e2)) (x := Str.ofString "pieces") (v := .ref PA) (if_skip (by decide) (if_skip (by decide) e3))
  refine wpAny_execs_cons ?_
  refine wpAny_For ?_
  k_steps
  refine item_at (v := .ref P) (Fr.keep (by k_asm) _ _ gPA) hj0 (by omega) hP ?_
  refine wpAny_pyIter_list ⟨_, Fr.keep (by k_asm) _ _ gP, rfl, _, rfl⟩ ?_
  obtain ⟨F5, N5, l5⟩ := ks_newsPush (o := litO P 0) F N rfl (Heap.get?_push_at rfl rfl) (fun b o e => Heap.get?_push_of_some _ e)
  generalize hI : s.heap.objs.size = I at *
  have sx : s.heap.get? x = some (accO d (vals []) n) := News.get N (.head _)
  have xI : x ≠ I := Nat.ne_of_lt (l5 _ (.head _))
  have fI : ∀ q ∈ fz, q.1 ≠ I := fun q hq => Nat.ne_of_lt (l5 q (.tail _ hq))
  have I0 : s.heap.get? I = none := by rw [← hI]; exact Heap.get?_none_of_le (Nat.le_refl _)
  have sI : ∀ b o, s.heap.get? b = some o → b ≠ I := fun b o e q => by rw [q, I0] at e; cases e
  refine for_list (l := P) (vals ps) (RowsJ g L x d I P m fz ps s) rfl ?hI ?turn ?done (vals ps).size 0 _ (by simp) ?h0
  case hI =>
    intro k s' hJ
    obtain ⟨h, tk, qs, n, u, rfl, F, _, N, _⟩ := hJ
    exact ⟨News.get N (.tail _ (.head _)), ⟨_, F.keep _ _ gP, rfl, _, rfl⟩⟩
  case h0 =>
    refine ⟨_, _, [], n, _, rfl, F5, ?_, ?_, rfl, (fun _ h => nomatch h)⟩
    · intro y hy
      by_cases h1 : y = Str.ofString "pieces"
      · rw [if_pos h1, h1, e3]
      · rw [if_neg h1]
        by_cases h2 : y = Str.ofString "place"
        · rw [if_pos h2, h2, e2]
        · rw [if_neg h2]
          by_cases h3 : y = Str.ofString "row"
          · rw [if_pos h3, h3, e1]
          · rw [if_neg h3]
    · intro p hp
      refine N5 p ?_
      simp only [pcs, List.map_nil, List.nil_append, List.mem_cons] at hp ⊢
      rcases hp with hp | hp | hp
      · exact .inr (.inl hp)
      · exact .inl hp
      · exact .inr (.inr hp)
  case done =>
    intro s' h' hJ e
    obtain ⟨h, tk, qs, n, u, rfl, F, hu', N, ht, hq⟩ := hJ
    have zI := N (I, litO P (vals ps).size) (.tail _ (.head _))
    refine wpAny_execs_nil (k h' _ qs n u (itEnd F zI.1 zI e) hu' (itEndN N (I := I) e (fun p hp => ?_) fun p hp => ?_) ?_ fun q hq' => (hq q hq').2)
    · rcases List.mem_cons.mp hp with rfl | hp
      · exact .head _
      · exact .tail _ (.tail _ hp)
    · rcases List.mem_cons.mp hp with rfl | hp
      · exact xI
      · rcases List.mem_append.mp hp with hp | hp
        · obtain ⟨q, hq', rfl⟩ := List.mem_map.mp hp
          exact (hq q hq').1
        · exact fI p hp
    · rw [ht, vals_size, List.take_length]
  case turn =>
    intro k v s' h' hv hJ eI sb
    obtain ⟨h, tk, qs, n, u, rfl, F, hu', N, ht, hq⟩ := hJ
    have hk : k < ps.length := by
      have := (Array.getElem?_eq_some_iff.mp hv).1
      rwa [vals_size] at this
    have hv' : v = .ref ps[k].a := by
      have := hv
      simp only [vals, List.getElem?_toArray, List.getElem?_map, List.getElem?_eq_getElem hk, Option.map_some, Option.some.injEq] at this
      exact this.symm
    subst hv'
    have gq1 := gq _ (List.getElem_mem hk)
    generalize hqk : ps[k] = q at *
    replace F := fr_at (fr_at F ((hu' _ (by decide)).trans e1)) (x := Str.ofString "place") (v := .int j tj) (if_skip (by decide) ((hu' _ (by decide)).trans e2))
    refine wpAny_of_eq rfl ?_
    refine wpAny_assign_Name ?_
    have oI : ∀ p ∈ pcs qs ++ fz, p.1 ≠ I := fun p hp => by
      rcases List.mem_append.mp hp with hp | hp
      · obtain ⟨q, hq', rfl⟩ := List.mem_map.mp hp
        exact (hq q hq').1
      · exact fI p hp
    have ox : ∀ p ∈ pcs qs ++ fz, p.1 ≠ x := fun p hp => by
      rcases List.mem_append.mp hp with hp | hp
      · obtain ⟨q, hq', rfl⟩ := List.mem_map.mp hp
        exact (hq q hq').2.1
      · exact hfz p hp
    obtain ⟨F6, N6⟩ := back1 F N (.tail xI (.head oI)) (fun b o e hb => sb.extBut b o (by simpa using hb) e) eI
    clear F N F5 N5
    have hm : (d, iniD w.params i0 tk0 ti) ∈ pcs qs ++ fz := List.mem_append_right _ hdd
    have dI : d ≠ I := fI _ hdd
    have gq2 : g.get? q.a = some { cls := .type "tuple", data := .seq #[.str q.x q.tx, .str q.y q.ty] } := gq1
    have bq : qs.length ≤ 12 := by have := congrArg List.length ht; simp only [List.length_map, List.length_take] at this; omega
    have nx : ∀ b o, h.get? b = some o → b ≠ I → h'.get? b = some o := fun b o e n => sb.extBut b o n e
    k_steps
    refine tup_at (v := .str q.x q.tx) (Fr.keep (by k_asm) _ _ gq2) (by decide) (by decide) rfl ?_
    k_steps
    refine tup_at (v := .str q.y q.ty) (Fr.keep (by k_asm) _ _ gq2) (by decide) (by decide) rfl ?_
    k_steps
    rename_i h7 F7 N7
    refine use_call Bl F7 N7 X T rfl rfl ?_
    intro H9 C9 st9 f9 G9
    refine push C9 st9 (room 5 hd) (room 57 hu) (News.get N7 (.head _)) (f9 _ (.head _)) (News.get N7 (.tail _ (.tail _ hm))) (hfz _ hdd) rfl (by rw [vals_size, sizeLine_eq]; omega) ?_
    intro h9 tk9 t9 hx9 z0 z1 z2
    have oxI : ∀ p ∈ (I, litO P (k + 1)) :: (pcs qs ++ fz), p.1 ≠ x := by
      refine all_cons (Ne.symm xI) fun p hp => ?_
      · exact ox p hp
    obtain ⟨F9, N9⟩ := back1 F7 N7 (.head oxI) hx9 z2
    have n9 : ∀ p ∈ (x, accO d (vals qs) n) :: (I, litO P (k + 1)) :: (pcs qs ++ fz), p.1 ≠ t9 := fun p hp e => by
      have := (N7 p hp).1
      rw [e] at this
      exact absurd (z0.symm.trans this) (by simp)
    have z9 := fresh_add F7 z0 z1
    dsimp only
    refine wpAny_execs_nil ?_
    dsimp only
    refine ⟨h9, _, qs ++ [⟨t9, q.x, q.tx, q.y, q.ty⟩], n + 1, _, rfl, F9, ?_, ?_, ?_, ?_⟩
    · intro y hy
      rw [if_neg hy]
      by_cases h2 : y = Str.ofString "place"
      · rw [if_pos h2, h2, e2]
      · rw [if_neg h2]
        by_cases h3 : y = Str.ofString "row"
        · rw [if_pos h3, h3, e1]
        · rw [if_neg h3]; exact hu' y hy
    · intro p hp
      rcases List.mem_cons.mp hp with rfl | hp
      · have := N9 _ (.head _)
        rw [vals_snoc]; exact this
      rcases List.mem_cons.mp hp with rfl | hp
      · exact N9 _ (.tail _ (.head _))
      rcases List.mem_append.mp hp with hp | hp
      · obtain ⟨q', hq', rfl⟩ := List.mem_map.mp hp
        rcases List.mem_append.mp hq' with hq' | hq'
        · exact N9 _ (.tail _ (.tail _ (List.mem_append_left _ (mem_pcs hq'))))
        · rw [List.mem_singleton.mp hq']; exact z9
      · exact N9 p (.tail _ (.tail _ (List.mem_append_right _ hp)))
    · rw [List.map_append, ht, List.take_add_one, List.map_append, List.getElem?_eq_getElem hk, hqk]
      rfl
    · intro q' hq'
      rcases List.mem_append.mp hq' with hq' | hq'
      · exact hq q' hq'
      · rw [List.mem_singleton.mp hq']
        exact ⟨Ne.symm (n9 _ (.tail _ (.head _))), Ne.symm (n9 _ (.head _)), fun p hp => n9 p (.tail _ (.tail _ (List.mem_append_right _ hp)))⟩
end Mine
end SL3

section SL4
namespace Mine
open PyProof.Rows.LCg (NsObj ns_obj lst)
section
variable {prog : Program} {w : World} {A : Around} {E : Value → Shared → Prop} {s : Shared} {h₀ : Heap} {L : Addr} {m : Str → Option Value} {R : Result → Shared → Prop}
theorem comp_turnG {elt iter tgt : Expr} {scope : Scope} {pos : Pos} {it acc : Value} {cenv : Env}
    (h : wpAny (model prog w) A (pyNext it) (fun r s₁ => match r with
      | none => R (.ok .next) s₁
      | some v => wpAny (model prog w) A (letOwnedTupleGo tgt it v) (fun _ s₁' => wpAny (model prog w) A (assign tgt cenv v) (fun _ s₂ =>
          wpAny (model prog w) A (eval elt cenv) (fun x s₄ =>
              wpAny (model prog w) A (call (.builtin "list.append") [acc, x]) (fun _ s₅ => codeAny (model prog w) A (.compLoop (.ListComp elt [⟨tgt, iter, [], 0⟩] scope pos) 0 it acc cenv) R s₅) (notedBy (model prog w) A cenv fun e s' => R (.error e) s') s₄) (notedBy (model prog w) A cenv fun e s' => R (.error e) s') s₂)
          (notedBy (model prog w) A cenv fun e s' => R (.error e) s') s₁') (notedBy (model prog w) A cenv fun e s' => R (.error e) s') s₁) (notedBy (model prog w) A cenv fun e s' => R (.error e) s') s) :
    codeAny (model prog w) A (.compLoop (.ListComp elt [⟨tgt, iter, [], 0⟩] scope pos) 0 it acc cenv) R s := by
  refine codeAny_of_tree ?_
  show wpAny _ A ((compTurn (.ListComp elt [⟨tgt, iter, [], 0⟩] scope pos) 0 it acc cenv).onRaise (fun x => do noteFrame x cenv; theTreesLotGoes x)) _ _ s
  refine wpAny_noted ?_
  rw [compTurn_list]
  refine wpAny_bind (wpAny_standAt (wpAny_bind (wpAny_mono h (fun r s₁ h₁ => ?_) fun _ _ h' => h')))
  cases r with
  | none => exact wpAny_pure h₁
  | some v =>
    refine wpAny_bind (wpAny_mono h₁ (fun _ s₁' h₁' => ?_) fun _ _ h' => h')
    refine wpAny_bind (wpAny_mono h₁' (fun _ s₂ h₂ => wpAny_bind (wpAny_mono (wpAny_tests_nil (Q := fun ok s₃ => ok = true ∧ s₃ = s₂) ⟨rfl, rfl⟩) (fun ok s₃ h₃ => ?_) fun _ _ h' => h')) fun _ _ h' => h')
    obtain ⟨rfl, rfl⟩ := h₃
    exact wpAny_bind (wpAny_bind (wpAny_mono h₂ (fun x s₄ h₄ => wpAny_bind (wpAny_mono h₄ (fun _ s₅ h₅ => wpAny_pure (wpAny_pure ⟨rfl, h₅⟩)) fun _ _ h' => h')) fun _ _ h' => h'))
end
section
variable {M : Model} {A : Around} {E : Value → Shared → Prop} {s : Shared} {env : Env} {scope : Scope} {cl : List (Str × Addr)} {C : Addr} {h₀ : Heap} {L : Addr} {m mg mb : Str → Option Value} {K : Frag} {p : Program} {loose : List Str} {mean : ExcName → Option Value} {x : Str} {v : Value} {pos : Pos} {Q : Value → Shared → Prop}
theorem nameC_K (F : Fr h₀ L s.heap m) (X : K.In h₀) (T : Top p loose mean mg mb h₀) (e : nsIn K mainGlobals x = some (some v)) (h : Q v s)
    (hk : scope.kind = .function) (hg : env.globals = mainGlobals) (hx : (relabel scope env).names.lookup x = some .globalImplicit) (hd : (x == ("__debug__" : Str)) = false) :
    wpAny M A (eval (.Name x pos) (compEnvC scope cl C env)) Q E s :=
  Name_function_global (env := compEnvC scope cl C env) hk hx (loadGlobal_global (env := compEnvC scope cl C env) (show s.heap.Ns env.globals mg from hg ▸ T.g.keeps F.keep) (mg_of X T.g e) h) hd
theorem nameC_L {m₂ : Str → Option Value} (hn : s.heap.Ns C m₂) (hv : m₂ x = some v) (h : Q v s) (hk : scope.kind = .function) (hx : scope.names.lookup x = some .local) (hd : (x == ("__debug__" : Str)) = false) :
    wpAny M A (eval (.Name x pos) (compEnvC scope cl C env)) Q E s := wpAny_Name (wpAny_loadName_local (env := compEnvC scope cl C env) hk (lookup_relabel_local hx) hn hv h) hd
end
theorem mk_acc2 {p : Program} {loose : List Str} {mean : ExcName → Option Value} {mg mb : Str → Option Value} {w : World} {dp un : Nat} {gd : Option (List Code)} {outer : List Env} {base H : Heap} {s : Shared} {R : Result → Shared → Prop}
    {i : Int} {ti : Tok}
    (C : Cx p loose mean mg mb w (aT dp un gd outer) base outer H) (st : H.StaysIn s.heap) (hd : dp + 6 < recursionLimit) (hu : un + 60 < cLine)
    (k : ∀ h' tk' x d tk, ExtL [] s.heap h' → s.heap.get? x = none → s.heap.get? d = none → @LT.lt Nat _ d x ∧ @LE.le Nat _ s.heap.objs.size d → h'.get? x = some (accO d #[] 0) → h'.get? d = some (iniD w.params i tk ti) → R (.ok (.ret (.ref x))) { s with heap := h', toks := tk' }) :
    codeAny (model Challenge.rw_nb0220_01.row.prog w) (aT dp un gd outer) (.call (.ref 101) ⟨[.int i ti], []⟩) R s := by
  obtain ⟨h, g, d, t, os⟩ := s
  refine acc_make (C.X.keeps st) ?_
  rw [aT_create]
  have hc := cu_create (a := .int i ti)
  have stp : ∀ b o, h.get? b = some o → ((h.push emptyDict).push (accNew h.objs.size)).get? b = some o := fun b o e => Heap.get?_push_of_some _ (Heap.get?_push_of_some _ e)
  have e0 : ∀ b, h.objs.size ≤ b → h.get? b = none := fun b hb => by
    cases e : h.get? b with
    | none => rfl
    | some o => exact absurd (Heap.lt_size e) (Nat.not_lt.mpr hb)
  have e1 : h.get? h.objs.size = none := e0 _ (Nat.le_refl _)
  have e2 : h.get? (h.objs.size + 1) = none := e0 _ (Nat.le_succ _)
  have C' : Cx p loose mean mg mb w (aT (dp + 1) (un + Code.cUnits (.builtin "type.__call__" ⟨[.ref 101, .int i ti], []⟩)) gd outer) base outer h := ⟨aT_same (below_keeps C.B st), C.X.keeps st, C.T.keeps st⟩
  have hx : ((h.push emptyDict).push (accNew h.objs.size)).get? (h.objs.size + 1) = some (accO h.objs.size #[] 0) := by heap_get
  have hdd : ((h.push emptyDict).push (accNew h.objs.size)).get? h.objs.size = some (dictOf [] 0) := by heap_get
  refine init_acc C' stp (by omega) (by omega) hx e2 hdd e1 (.inr (Nat.lt_succ_self _)) ?_
  intro h' tk' tk hx' z1 z2
  refine ⟨rfl, k _ _ _ _ _ (fun b o e _ => hx' b o (stp b o e) ?_) e2 e1 ⟨Nat.lt_succ_self _, Nat.le_refl _⟩ z1 z2⟩
  intro hm
  simp only [List.mem_cons, List.not_mem_nil, or_false] at hm
  rcases hm with rfl | rfl
  · rw [e2] at e; cases e
  · rw [e1] at e; cases e
noncomputable abbrev scRow : Scope := { kind := ScopeKind.function, names := [(Str.ofString ".0", NameKind.local), (Str.ofString "place", NameKind.local), (Str.ofString "_Accumulator", NameKind.globalImplicit)], isGenerator := false, isCoroutine := false }
theorem row_turn {p : Program} {loose : List Str} {mean : ExcName → Option Value} {mg mb : Str → Option Value} {w : World} {A₀ : Around} {dp un : Nat} {gd : Option (List Code)} {outer : List Env} {base h₀ : Heap} {L : Addr} {m : Str → Option Value} {s : Shared} {R : Result → Shared → Prop}
    {env : Env} {C D I : Addr} {oC : Obj} {m₂ : Str → Option Value} {i left : Int} {ys : List Value} {rest : List (Addr × Obj)} {iter : Expr} {pos p0 p1 p2 p3 p4 p5 : Pos}
    (B : Below A₀ base outer h₀) (F : Fr h₀ L s.heap m) (N : News h₀ L s.heap ((I, ritO i left 1) :: (C, oC) :: (D, lst ys) :: rest)) (X : (k0.heap_1 w.params).In h₀) (T : Top p loose mean mg mb h₀)
    (hfr : env.frame = some L) (hke : env.scope.kind = .function) (hg : env.globals = mainGlobals)
    (hoC : NsObj oC m₂) (nd : List.Nodup (I :: C :: D :: rest.map (·.1))) (hys : ys.length ≤ 10) (hleft : 0 < left)
    (hd : dp + 8 < recursionLimit) (hu : un + 100 < cLine)
    (h : ∀ h' tk' l x d tk ti t oC' m₂', Fr h₀ L h' m → News h₀ L h' ((I, ritO (i + 1) (left - 1) 1) :: (C, oC') :: (D, lst (ys ++ [.ref l])) :: (l, lstO #[.ref x, .int i t] 0) :: (x, accO d #[] 0) :: (d, iniD w.params i tk ti) :: rest) → NsObj oC' m₂' →
      List.Nodup (I :: C :: D :: l :: x :: d :: rest.map (·.1)) → ((∀ p ∈ (I, ritO i left 1) :: (C, oC) :: (D, lst ys) :: rest, @LT.lt Nat _ p.1 d) ∧ @LT.lt Nat _ d x ∧ @LT.lt Nat _ x l) →
      codeAny (model Challenge.rw_nb0220_01.row.prog w) (aT dp un gd (env :: outer)) (.compLoop (.ListComp (.List [.Call (.Name (Str.ofString "_Accumulator") p1) [.Name (Str.ofString "place") p2] [] p3, .Name (Str.ofString "place") p4] p5) [⟨.Name (Str.ofString "place") p0, iter, [], 0⟩] scRow pos) 0 (.ref I) (.ref D) (compEnvC scRow [] C env)) R { s with heap := h', toks := tk' }) :
    codeAny (model Challenge.rw_nb0220_01.row.prog w) (aT dp un gd (env :: outer)) (.compLoop (.ListComp (.List [.Call (.Name (Str.ofString "_Accumulator") p1) [.Name (Str.ofString "place") p2] [] p3, .Name (Str.ofString "place") p4] p5) [⟨.Name (Str.ofString "place") p0, iter, [], 0⟩] scRow pos) 0 (.ref I) (.ref D) (compEnvC scRow [] C env)) R s := by
  w_on
  have zI := N _ (.head _)
  have zC := N _ (.tail _ (.head _))
  have zD := N _ (.tail _ (.tail _ (.head _)))
  have zR : ∀ p ∈ rest, s.heap.get? p.1 = some p.2 ∧ p.1 ≠ L ∧ h₀.get? p.1 = none := fun p hp => N p (.tail _ (.tail _ (.tail _ hp)))
  simp only [List.nodup_cons, List.mem_cons, not_or] at nd
  obtain ⟨⟨nIC, nID, nIr⟩, ⟨nCD, nCr⟩, nDr, ndr⟩ := nd
  have off : ∀ {q : Addr}, q ∉ rest.map (·.1) → ∀ p ∈ rest, p.1 ≠ q := fun hq p hp e => hq (e ▸ List.mem_map_of_mem hp)
  refine comp_turnG (wpAny_pyNext_range_item zI.1 hleft fun h₁ e₁ s₁ => ?_)
  refine wpAny_of_eq rfl ?_
  have hC₁ : h₁.Ns C m₂ := hoC.ns (s₁.extBut _ _ (Ne.symm nIC) zC.1)
  refine wpAny_assign_Name (wpAny_storeName_local (env := compEnvC scRow [] C env) (lookup_relabel_local rfl) hC₁ (fun h₂ hn₂ hs₂ => ?_) (by simp [compEnvC, relabel]))
  obtain ⟨oC2, heC, hoC2⟩ := ns_obj hn₂
  have up : ∀ b o, b ≠ I → b ≠ C → s.heap.get? b = some o → h₂.get? b = some o := fun b o b1 b2 e => hs₂.extBut _ _ b2 (s₁.extBut _ _ b1 e)
  have none0 : ∀ {c o}, h₀.get? c = some o → ∀ {q : Addr}, h₀.get? q = none → c ≠ q := fun e q hq e' => by rw [e', hq] at e; cases e
  have F2 : Fr h₀ L h₂ m := by
    obtain ⟨o, es, ep, hL, r⟩ := F.ns
    exact ⟨⟨o, es, ep, up L o (Ne.symm zI.2.1) (Ne.symm zC.2.1) hL, r⟩, fun c o e => up c o (none0 e zI.2.2) (none0 e zC.2.2) (F.keep c o e), F.above⟩
  have N2 : News h₀ L h₂ ((I, ritO (i + 1) (left - 1) 1) :: (C, oC2) :: (D, lst ys) :: rest) := by
    refine all_cons (⟨hs₂.extBut _ _ nIC e₁, zI.2⟩) (all_cons (⟨heC, zC.2⟩) (all_cons (⟨up _ _ (Ne.symm nID) (Ne.symm nCD) zD.1, zD.2⟩) fun q hq => ?_))
    · exact ⟨up _ _ (off nIr q hq) (off nCr q hq) (zR q hq).1, (zR q hq).2⟩
  walk1
  walk1
  walk1
  walk1
  refine nameC_K (v := .ref 101) F2 X T (by k_is) ?_ rfl hg rfl (by decide)
  walk1
  walk1
  refine nameC_L (v := .int i s.toks) (hoC2.ns (N2 _ (.tail _ (.head _))).1) (if_pos rfl) ?_ rfl rfl (by decide)
  (try dsimp only)
  walk1
  refine ⟨X.keeps F2.keep, ?_⟩
  refine use_callA B F2 N2 X T hfr hke ?_
  intro H9 C9 st9 f9 G9
  refine mk_acc2 C9 st9 (by omega) (by omega) ?_
  intro h3 tk3 x d tk hx3 x0 d0 ⟨dx, d00⟩ x1 d1
  obtain ⟨F3, N3⟩ := back0 F2 N2 hx3
  have zx := fresh_add F2 x0 x1
  have zd := fresh_add F2 d0 d1
  have nx : ∀ p ∈ (I, ritO (i + 1) (left - 1) 1) :: (C, oC2) :: (D, lst ys) :: rest, p.1 ≠ x := fun p hp e => by
    have := (N2 p hp).1
    rw [e] at this
    exact absurd (x0.symm.trans this) (by simp)
  have nd' : ∀ p ∈ (I, ritO (i + 1) (left - 1) 1) :: (C, oC2) :: (D, lst ys) :: rest, p.1 ≠ d := fun p hp e => by
    have := (N2 p hp).1
    rw [e] at this
    exact absurd (d0.symm.trans this) (by simp)
  have N4 : News h₀ L h3 ((I, ritO (i + 1) (left - 1) 1) :: (C, oC2) :: (D, lst ys) :: (x, accO d #[] 0) :: (d, iniD w.params i tk s.toks) :: rest) := by
    refine all_cons (N3 _ (.head _)) (all_cons (N3 _ (.tail _ (.head _))) (all_cons (N3 _ (.tail _ (.tail _ (.head _)))) (all_cons (zx) (all_cons (zd) fun q hq => ?_))))
    · exact N3 _ (.tail _ (.tail _ (.tail _ hq)))
  clear N3
  (try dsimp only)
  walk1
  refine nameC_L (v := .int i s.toks) (hoC2.ns (N4 _ (.tail _ (.head _))).1) (if_pos rfl) ?_ rfl rfl (by decide)
  (try dsimp only)
  walk1
  refine wpAny_newList ?_
  have F5 := F3.push (lstO #[.ref x, .int i s.toks] 0)
  have N5 := N4.push F3 (lstO #[.ref x, .int i s.toks] 0)
  have l5 : ∀ q ∈ (I, ritO (i + 1) (left - 1) 1) :: (C, oC2) :: (D, lst ys) :: (x, accO d #[] 0) :: (d, iniD w.params i tk s.toks) :: rest, q.1 < h3.objs.size := fun q hq => Heap.lt_size (N4 q hq).1
  have zD5 := N5 (D, lst ys) (.tail _ (.tail _ (.tail _ (.head _))))
  refine append_at (hsz := by simp [sizeLine_eq]; omega) zD5.1 fun h6 hs6 hD6 => ?_
  have ndx : d ≠ x := Nat.ne_of_lt dx
  have lD : h3.objs.size ≠ D := Nat.ne_of_gt (l5 _ (.tail _ (.tail _ (.head _))))
  refine h h6 _ h3.objs.size x d tk s.toks s.toks oC2 _ (F5.change hs6 zD5.2.1 zD5.2.2) ?_ hoC2 ?_ ⟨fun q hq => Nat.lt_of_lt_of_le ?_ d00, dx, l5 (x, accO d #[] 0) (.tail _ (.tail _ (.tail _ (.head _))))⟩
  · intro q hq
    rcases List.mem_cons.mp hq with rfl | hq
    · have z := N5 _ (.tail _ (.head _)); exact ⟨hs6.extBut _ _ nID z.1, z.2⟩
    rcases List.mem_cons.mp hq with rfl | hq
    · have z := N5 _ (.tail _ (.tail _ (.head _))); exact ⟨hs6.extBut _ _ nCD z.1, z.2⟩
    rcases List.mem_cons.mp hq with rfl | hq
    · exact ⟨hD6.trans (congrArg some (LCg.lst_snoc ys _)), zD5.2⟩
    rcases List.mem_cons.mp hq with rfl | hq
    · have z := N5 _ (.head _); exact ⟨hs6.extBut _ _ lD z.1, z.2⟩
    rcases List.mem_cons.mp hq with rfl | hq
    · have z := N5 (x, accO d #[] 0) (.tail _ (.tail _ (.tail _ (.tail _ (.head _))))); exact ⟨hs6.extBut _ _ (Ne.symm (nx _ (.tail _ (.tail _ (.head _))))) z.1, z.2⟩
    rcases List.mem_cons.mp hq with rfl | hq
    · have z := N5 (d, iniD w.params i tk s.toks) (.tail _ (.tail _ (.tail _ (.tail _ (.tail _ (.head _)))))); exact ⟨hs6.extBut _ _ (Ne.symm (nd' _ (.tail _ (.tail _ (.head _))))) z.1, z.2⟩
    · have z := N5 q (.tail _ (.tail _ (.tail _ (.tail _ (.tail _ (.tail _ hq)))))); exact ⟨hs6.extBut _ _ (off nDr q hq) z.1, z.2⟩
  · have nr : ∀ {z : Addr}, (∀ p ∈ rest, p.1 ≠ z) → z ∉ rest.map (·.1) := fun hz hm => by
      obtain ⟨p, hp, e⟩ := List.mem_map.mp hm
      exact hz p hp e
    simp only [List.nodup_cons, List.mem_cons, not_or]
    refine ⟨⟨nIC, nID, Nat.ne_of_lt (l5 _ (.head _)), nx _ (.head _), nd' _ (.head _), nIr⟩, ⟨nCD, Nat.ne_of_lt (l5 _ (.tail _ (.head _))), nx _ (.tail _ (.head _)), nd' _ (.tail _ (.head _)), nCr⟩,
      ⟨Ne.symm lD, nx _ (.tail _ (.tail _ (.head _))), nd' _ (.tail _ (.tail _ (.head _))), nDr⟩,
      ⟨Nat.ne_of_gt (l5 _ (.tail _ (.tail _ (.tail _ (.head _))))), Nat.ne_of_gt (l5 _ (.tail _ (.tail _ (.tail _ (.tail _ (.head _)))))), nr fun p hp => Nat.ne_of_lt (l5 p (.tail _ (.tail _ (.tail _ (.tail _ (.tail _ hp))))))⟩,
      ⟨Ne.symm ndx, nr fun p hp => nx p (.tail _ (.tail _ (.tail _ hp)))⟩, nr fun p hp => nd' p (.tail _ (.tail _ (.tail _ hp))), ndr⟩
  · show q.1 < h₂.objs.size
    rcases List.mem_cons.mp hq with rfl | hq
    · exact Heap.lt_size (N2 (I, _) (.head _)).1
    rcases List.mem_cons.mp hq with rfl | hq
    · exact Heap.lt_size (N2 (C, _) (.tail _ (.head _))).1
    · exact Heap.lt_size (N2 q (.tail _ (.tail _ hq))).1
end Mine
end SL4

section SL5
namespace Mine
section
variable {prog : Program} {w : World} {A : Around} {E : Value → Shared → Prop} {s : Shared}
theorem unpack2 {t : Addr} {n : Nat} {a b : Value} {Q : List Value → Shared → Prop} (hh : A.handled = none) (ht : s.heap.get? t = some (lstO #[a, b] n))
    (hQ : ∀ h', Heap.ExtBut s.heap.objs.size s.heap h' → Q [a, b] { s with heap := h' }) : wpAny (model prog w) A (unpackItems (.ref t) 2 none) Q E s := by
  have hlt : t ≠ s.heap.objs.size := Nat.ne_of_lt (Heap.lt_size ht)
  have hl : s.heap.IsList t #[a, b] := ⟨_, ht, rfl, _, rfl⟩
  unfold unpackItems
  refine wpAny_bind ?_
  unfold notIterableAtAll
  refine wpAny_bind (wpAny_specialOf (T := "list") ⟨_, ht, rfl⟩ slot_list_iter.lookup ?_)
  refine wpAny_pure ?_
  simp only [Bool.false_eq_true, if_false]
  refine wpAny_bind (wpAny_holding (wpAny_pyIter_list hl ?_))
  generalize hI : s.heap.objs.size = I at hlt hQ ⊢
  generalize hH : s.heap.push { cls := .type "list_iterator", data := .fields #[.ref t, .int 0 0] } = H
  have h0 : H.get? I = some (litO t 0) := by rw [← hH, ← hI]; exact Heap.get?_push_size _ rfl
  have k0 : ∀ b o, s.heap.get? b = some o → H.get? b = some o := fun b o e => by rw [← hH]; exact Heap.get?_push_of_some _ e
  refine wpAny_bind (wpAny_holding ?_)
  unfold draw
  refine wpAny_bind (next_list h0 ⟨_, k0 _ _ ht, rfl, _, rfl⟩ (x := a) rfl fun h1 e1 s1 => ?_)
  dsimp only
  have t1 : h1.get? t = some (lstO #[a, b] n) := s1.extBut _ _ hlt (k0 _ _ ht)
  refine wpAny_bind (wpAny_holding ?_)
  unfold draw
  refine wpAny_bind (next_list e1 ⟨_, t1, rfl, _, rfl⟩ (x := b) rfl fun h2 e2 s2 => ?_)
  dsimp only
  refine wpAny_bind (wpAny_holding ?_)
  unfold draw
  refine wpAny_pure (wpAny_pure (wpAny_pure ?_))
  have t2 : h2.get? t = some (lstO #[a, b] n) := s2.extBut _ _ hlt t1
  rw [if_neg (by simp)]
  refine wpAny_bind (wpAny_holding (wpAny_pyNext_list_end (items := #[a, b]) hh ⟨_, e2, rfl, rfl⟩ ⟨_, t2, rfl, _, rfl⟩ rfl fun h3 e3 => ?_))
  simp only [Option.isSome_none, Bool.false_eq_true, if_false]
  exact wpAny_pure (hQ h3 fun b o hb e => e3 b o hb (s2.extBut b o hb (s1.extBut b o hb (k0 b o e))))
theorem assign2L {env : Env} {xa xb : Str} {pa pb pos : Pos} {kt : Nat} {t : Addr} {n : Nat} {a b : Value} {Q : Unit → Shared → Prop} {h₀ : Heap} {L : Addr} {m : Str → Option Value} {news : List (Addr × Obj)} (hh : A.handled = none) (F : Fr h₀ L s.heap m) (N : News h₀ L s.heap news)
    (ht : s.heap.get? t = some (lstO #[a, b] n)) (hL : env.locals = L) (ka : env.kindOf xa = some .local) (kb : env.kindOf xb = some .local) (hp : (env.scope.kind == .class || (env.scope.kind == .module && env.locals != env.globals)) = false)
    (h : ∀ h' tk, Fr h₀ L h' (fun y => if y = xb then some b else if y = xa then some a else m y) → News h₀ L h' news → Q () { s with heap := h', toks := tk }) :
    wpAny (model prog w) A (assign (.Tuple [.Name xa pa, .Name xb pb] kt pos) env (.ref t)) Q E s := by
  subst hL
  rw [PyProof.Rows.assign_Tuple]
  refine wpAny_bind (wpAny_standAt ?_)
  unfold unpack
  show wpAny _ _ (do assignInOrder ((assignEach [.Name xa pa, .Name xb pb] env).map (·.2)) (← holding [.ref t] (unpackItems (.ref t) 2 none))) _ _ _
  refine wpAny_bind (wpAny_holding (unpack2 hh ht fun h1 e1 => ?_))
  have up : ∀ b o, s.heap.get? b = some o → h1.get? b = some o := fun b o e => e1 b o (Nat.ne_of_lt (Heap.lt_size e)) e
  have F1 : Fr h₀ env.locals h1 m := F.kept up
  have N1 : News h₀ env.locals h1 news := N.grown up
  show wpAny _ _ (do holding [b] (assign (.Name xa pa) env a); do holding [] (assign (.Name xb pb) env b); pure ()) _ _ _
  refine wpAny_bind (wpAny_holding (wpAny_assign_Name (wpAny_storeName_local ka F1.ns (fun h₂ hn₂ hs₂ => ?_) hp)))
  have F2 := F1.set hn₂ hs₂
  have N2 := N1.set hs₂
  refine wpAny_bind (wpAny_holding (wpAny_assign_Name (wpAny_storeName_local kb F2.ns (fun h₃ hn₃ hs₃ => ?_) hp)))
  exact wpAny_pure (h h₃ _ (F2.set hn₃ hs₃) (N2.set hs₃))
end
end Mine
end SL5

section SW1
namespace Mine
section
variable {prog : Program} {w : World} {A : Around} {E : Value → Shared → Prop} {s : Shared} {h₀ : Heap} {L l : Addr} {m : Str → Option Value} {news : List (Addr × Obj)} {vs : Array Value} {nl : Nat} {env : Env} {scope : Scope} {cl : List (Str × Addr)} {x y : Str} {ifs : List Expr} {elt : Expr}
theorem comp_quiet (p : Value → Bool) (G : Value → Value → Prop) (F : Fr h₀ L s.heap m) (N : News h₀ L s.heap news) (hl : s.heap.get? l = some (lstO vs nl))
    (htest : ∀ C v s₃ m₃ E', v ∈ vs.toList → s₃.heap.Ns C m₃ → m₃ x = some v → Fr h₀ L s₃.heap m → News h₀ L s₃.heap news → s₃.gens = s₃.gens →
      wpAny (model prog w) A (forIn ifs true fun c r => if r = true then do let ok ← isTrue c (compEnvC scope cl C env) (eval c (compEnvC scope cl C env)); pure (ForInStep.yield ok) else pure (ForInStep.yield r)) (fun ok s₄ => ok = p v ∧ Keeps s₃ s₄) E' s₃)
    (helt : ∀ C v s₃ m₃ E', v ∈ vs.toList → p v = true → s₃.heap.Ns C m₃ → m₃ x = some v → Fr h₀ L s₃.heap m → News h₀ L s₃.heap news →
      wpAny (model prog w) A (eval elt (compEnvC scope cl C env)) (fun z s₄ => G v z ∧ Keeps s₃ s₄) E' s₃) :
    QuietOnC prog w A env scope cl x ifs elt [s.heap.objs.size] (fun i v => vs[i]? = some v) p G { s with heap := s.heap.push (litO l 0) } := by
  have up : ∀ {h3 : Heap}, (∀ b o, b ∉ [s.heap.objs.size] → (s.heap.push (litO l 0)).get? b = some o → h3.get? b = some o) → ∀ b o, s.heap.get? b = some o → h3.get? b = some o := fun hk b o e =>
    hk b o (fun hm => by rw [List.mem_singleton.mp hm] at e; exact Nat.lt_irrefl _ (Heap.lt_size e)) (Heap.get?_push_of_some _ e)
  refine ⟨fun C i v s₃ m₃ E' _ hv hn hm hk _ => ?_, fun C i v s₃ m₃ E' _ hv hp hn hm hk _ => ?_⟩
  · exact htest C v s₃ m₃ E' (by simpa using Array.mem_of_getElem? hv) hn hm (F.kept (up hk)) (N.grown (up hk)) rfl
  · exact helt C v s₃ m₃ E' (by simpa using Array.mem_of_getElem? hv) hp hn hm (F.kept (up hk)) (N.grown (up hk))
theorem vs_of {vs : Array Value} {us : List Value} (h : us.length = vs.size) (hj : ∀ (j : Nat) (v : Value), us[j]? = some v → vs[j]? = some v) : us = vs.toList := by
  apply List.ext_getElem?
  intro j
  by_cases hlt : j < us.length
  · have := hj j us[j] (List.getElem?_eq_getElem hlt)
    rw [List.getElem?_eq_getElem hlt, Array.getElem?_toList, this]
  · rw [List.getElem?_eq_none (Nat.le_of_not_lt hlt), List.getElem?_eq_none (by simpa [← h] using hlt)]
/-- the walk of a comprehension over a list: as a name's value -/
theorem compA {Q : Flow → Shared → Prop} (p : Value → Bool) (G : Value → Value → Prop) (hh : A.handled = none) (hLe : env.locals = L) (F : Fr h₀ L s.heap m) (N : News h₀ L s.heap news) (hl : s.heap.get? l = some (lstO vs nl)) (hsz : vs.size ≤ sizeLine)
    (hq : QuietOnC prog w A env scope cl x ifs elt [s.heap.objs.size] (fun i v => vs[i]? = some v) p G { s with heap := s.heap.push (litO l 0) })
    (hQ : ∀ D h' tk ys n', Fr h₀ L h' (fun z => if z = y then some (.ref D) else m z) → News h₀ L h' ((D, lstO ys n') :: news) → (∀ q ∈ news, q.1 ≠ D) → Paired G (vs.toList.filter p) ys.toList → Q .next { s with heap := h', toks := tk }) :
    wpAny (model prog w) A (pyIter (.ref l)) (fun it s₂ => ∃ I fp wr n P St m, it = .ref I ∧ Walks prog w A I fp wr n P St ∧ n ≤ sizeLine ∧ St 0 s₂.heap ∧ (∀ b ∈ fp, b < s₂.heap.objs.size) ∧
      env.locals ∉ wr ∧ s₂.heap.Ns env.locals m ∧ QuietOnC prog w A env scope cl x ifs elt wr P p G s₂ ∧
      (∀ D h' tk ys (vs : List Value), s₂.heap.get? D = none → h'.IsList D ys → h'.PlainList D ys → vs.length = n → (∀ j v, vs[j]? = some v → P j v) → Paired G (vs.filter p) ys.toList →
        h'.Ns env.locals (fun z => if z = y then some (.ref D) else m z) → (∀ b o, b ≠ env.locals → b ∉ wr → s₂.heap.get? b = some o → h'.get? b = some o) → Q .next { s₂ with heap := h', toks := tk })) E s := by
  have hlt : l < s.heap.objs.size := Heap.lt_size hl
  subst hLe
  have hL : env.locals < s.heap.objs.size := F.ns.lt
  refine wpAny_pyIter_list ⟨_, hl, rfl, _, rfl⟩ ?_
  refine ex7 s.heap.objs.size _ _ _ _ _ m ⟨rfl, Walks.list hh s.heap.objs.size l (Nat.ne_of_lt hlt) vs, hsz, ⟨⟨_, Heap.get?_push_size _ rfl, rfl, rfl⟩, ⟨_, Heap.get?_push_of_some _ hl, rfl, _, rfl⟩⟩, ?_, fun hm => ?_, (F.push _).ns, hq, ?_⟩
  · intro b hb
    show b < (s.heap.push _).objs.size
    rw [Heap.size_push]
    rcases List.mem_cons.mp hb with rfl | hb
    · exact Nat.lt_succ_self _
    · rw [List.mem_singleton.mp hb]; exact Nat.lt_succ_of_lt hlt
  · exact absurd (List.mem_singleton.mp hm) (Nat.ne_of_lt hL)
  · intro D h' tk ys us hD _ hpl hlen hP hF hn hk
    have hk0 : ∀ b o, b ≠ env.locals → s.heap.get? b = some o → h'.get? b = some o := fun b o hb e => hk b o hb (fun hm => by rw [List.mem_singleton.mp hm] at e; exact Nat.lt_irrefl _ (Heap.lt_size e)) (Heap.get?_push_of_some _ e)
    have hD0 : s.heap.get? D = none := by
      cases e : s.heap.get? D with
      | none => rfl
      | some o => have := Heap.get?_push_of_some (litO l 0) e; rw [show (s.heap.push (litO l 0)).get? D = none from hD] at this; cases this
    obtain ⟨n', hDn⟩ := hpl
    have hb0 : ∀ b o, h₀.get? b = some o → b ≠ env.locals := fun b o e q => by
      rw [q] at e
      exact Nat.lt_irrefl _ (Nat.lt_of_lt_of_le (Heap.lt_size e) F.above)
    have us_eq : us = vs.toList := vs_of hlen hP
    subst us_eq
    refine hQ D h' tk ys n' ⟨hn, fun b o e => hk0 b o (hb0 b o e) (F.keep b o e), F.above⟩ (fun q hq => ?_) (fun q hq e => by have := (N q hq).1; rw [e, hD0] at this; cases this) hF
    rcases List.mem_cons.mp hq with rfl | hq
    · refine ⟨hDn, fun e => ?_, ?_⟩
      · obtain ⟨oL, _, _, hoL, _⟩ := F.ns
        rw [show D = env.locals from e, hoL] at hD0; cases hD0
      · cases e : h₀.get? D with
        | none => rfl
        | some o => rw [F.keep _ _ e] at hD0; cases hD0
    · exact ⟨hk0 _ _ (N q hq).2.1 (N q hq).1, (N q hq).2⟩
/-- the walk of a comprehension over a list: as an expression -/
theorem compV {Q : Value → Shared → Prop} (p : Value → Bool) (G : Value → Value → Prop) (hh : A.handled = none) (F : Fr h₀ L s.heap m) (N : News h₀ L s.heap news) (hl : s.heap.get? l = some (lstO vs nl)) (hsz : vs.size ≤ sizeLine)
    (hq : QuietOnC prog w A env scope cl x ifs elt [s.heap.objs.size] (fun i v => vs[i]? = some v) p G { s with heap := s.heap.push (litO l 0) })
    (hQ : ∀ D h' tk ys n', Fr h₀ L h' m → News h₀ L h' ((D, lstO ys n') :: news) → (∀ q ∈ news, q.1 ≠ D) → Paired G (vs.toList.filter p) ys.toList → Q (.ref D) { s with heap := h', toks := tk }) :
    wpAny (model prog w) A (pyIter (.ref l)) (fun it s₂ => ∃ I fp wr n P St, it = .ref I ∧ Walks prog w A I fp wr n P St ∧ n ≤ sizeLine ∧ St 0 s₂.heap ∧ (∀ b ∈ fp, b < s₂.heap.objs.size) ∧
      QuietOnC prog w A env scope cl x ifs elt wr P p G s₂ ∧
      (∀ D h' tk ys (vs : List Value), s₂.heap.get? D = none → h'.IsList D ys → h'.PlainList D ys → vs.length = n → (∀ j v, vs[j]? = some v → P j v) → Paired G (vs.filter p) ys.toList →
        (∀ b o, b ∉ wr → s₂.heap.get? b = some o → h'.get? b = some o) → Q (.ref D) { s₂ with heap := h', toks := tk })) E s := by
  have hlt : l < s.heap.objs.size := Heap.lt_size hl
  refine wpAny_pyIter_list ⟨_, hl, rfl, _, rfl⟩ ?_
  refine ex6 s.heap.objs.size _ _ _ _ _ ⟨rfl, Walks.list hh s.heap.objs.size l (Nat.ne_of_lt hlt) vs, hsz, ⟨⟨_, Heap.get?_push_size _ rfl, rfl, rfl⟩, ⟨_, Heap.get?_push_of_some _ hl, rfl, _, rfl⟩⟩, ?_, hq, ?_⟩
  · intro b hb
    show b < (s.heap.push _).objs.size
    rw [Heap.size_push]
    rcases List.mem_cons.mp hb with rfl | hb
    · exact Nat.lt_succ_self _
    · rw [List.mem_singleton.mp hb]; exact Nat.lt_succ_of_lt hlt
  · intro D h' tk ys us hD _ hpl hlen hP hF hk
    have hk0 : ∀ b o, s.heap.get? b = some o → h'.get? b = some o := fun b o e => hk b o (fun hm => by rw [List.mem_singleton.mp hm] at e; exact Nat.lt_irrefl _ (Heap.lt_size e)) (Heap.get?_push_of_some _ e)
    have hD0 : s.heap.get? D = none := by
      cases e : s.heap.get? D with
      | none => rfl
      | some o => have := Heap.get?_push_of_some (litO l 0) e; rw [show (s.heap.push (litO l 0)).get? D = none from hD] at this; cases this
    obtain ⟨n', hDn⟩ := hpl
    have us_eq : us = vs.toList := vs_of hlen hP
    subst us_eq
    refine hQ D h' tk ys n' (F.kept hk0) (fun q hq => ?_) (fun q hq e => by have := (N q hq).1; rw [e, hD0] at this; cases this) hF
    rcases List.mem_cons.mp hq with rfl | hq
    · exact fresh_add F hD0 hDn
    · exact N.grown hk0 q hq
end
end Mine
end SW1

section SN3
namespace Mine

theorem ite_no {c : Prop} [Decidable c] {a b : Prop} (hc : ¬c) (h : b) : if c then a else b := by rw [if_neg hc]; exact h
local macro_rules | `(tactic| walk_at "ite") => `(tactic| (refine' ite_no ?hc ?_; (case hc => simp; done)))
theorem ns_end {g h h' : Heap} {L I : Addr} {m : Str → Option Value} {o : Obj} (F : Fr g L h m) (_ : h.get? I = some o) (z : h.get? I = some o ∧ I ≠ L ∧ g.get? I = none) (e : Heap.ExtBut I h h') : Fr g L h' m := by
  obtain ⟨oL, es, ep, hL, rr⟩ := F.ns
  exact ⟨⟨oL, es, ep, e L oL (Ne.symm z.2.1) hL, rr⟩, fun b x q => e b x (fun hb => by rw [hb, z.2.2] at q; cases q) (F.keep b x q), F.above⟩
theorem ns_endN {g h h' : Heap} {L I : Addr} {news news' : List (Addr × Obj)} (N : News g L h news) (e : Heap.ExtBut I h h') (hs : ∀ p ∈ news', p ∈ news) (hI : ∀ p ∈ news', p.1 ≠ I) : News g L h' news' :=
  fun p hp => ⟨e _ _ (hI p hp) (N p (hs p hp)).1, (N p (hs p hp)).2⟩
inductive NsMid2 (g : Heap) (L D cA : Addr) (oc : Obj) (s0 : Shared) (r1 r2 r3 : Rw) (s' : Shared) : Prop
  | mk (m : Str → Option Value) (u v : Addr) (xa xb : Rw) (ta tb : Tok) (ia ib : Int) (tia tib : Tok) (n : Nat) (ps : Array Value) (_ : Fr g L s'.heap m)
      (_ : m (Str.ofString "result") = some (.ref D))
      (_ : News g L s'.heap [(D, lstO #[.ref u, .ref v] n), (u, trO (.str xa.key ta) (.int ia tia) (.ref xa.l)), (v, trO (.str xb.key tb) (.int ib tib) (.ref xb.l)), (cA, oc), (70, tblO ps)])
      (_ : TabOk posStr ps)
      (_ : Gs s0 s')
      (_ : (@Ne Nat u v ∧ @LT.lt Nat _ D u ∧ @LT.lt Nat _ D v))
      (_ : Two3 r1 r2 r3 xa xb ia ib)
      (_ : pLt xa.key ia xb.key ib = true) : NsMid2 g L D cA oc s0 r1 r2 r3 s'
theorem ns3 {p : Program} {loose : List Str} {mean : ExcName → Option Value} {mg mb : Str → Option Value} {w : World} {dp un : Nat} {gd : Option (List Code)} {outer : List Env} {base H : Heap} {s : Shared} {R : Result → Shared → Prop}
    {left : Addr} {r1 r2 r3 : Rw} {nl : Nat} {ps : Array Value} {t2 : Tok}
    (C : Cx p loose mean mg mb w (aT dp un gd outer) base outer H) (st : H.StaysIn s.heap) (hd : dp + 20 < recursionLimit) (hu : un + 200 < cLine)
    (hleft : s.heap.get? left = some (lstO #[.ref r1.l, .ref r2.l, .ref r3.l] nl)) (h1 : r1.In s.heap) (h2 : r2.In s.heap) (h3 : r3.In s.heap) (m1 : r1.Sm) (m2 : r2.Sm) (m3 : r3.Sm)
    (ht : s.heap.get? 70 = some (tblO ps)) (hps : TabOk posStr ps) (hf : H.get? 70 = none)
    (k : ∀ s' D nD ps' xa xb ia ib, ExtL [70] s.heap s'.heap → s'.heap.get? 70 = some (tblO ps') → TabOk posStr ps' → Gs s s' → s.heap.get? D = none →
      s'.heap.get? D = some (lstO #[.ref xa.l, .ref xb.l] nD) → Two3 r1 r2 r3 xa xb ia ib → pLt xa.key ia xb.key ib = true → R (.ok (.ret (.ref D))) s') :
    codeAny (model Challenge.rw_nb0220_01.row.prog w) (aT dp un gd outer) (.call (.ref 174) ⟨[.int 2 t2, .ref left], [("key", .ref 181)]⟩) R s := by
  w_on
  have hled : ∀ q ∈ [(70, tblO ps)], s.heap.get? q.1 = some q.2 ∧ H.get? q.1 = none := by
    intro q hq
    rw [List.mem_singleton.mp hq]
    exact ⟨ht, hf⟩
  refine' enterC (binds := [(Str.ofString "n", .int 2 t2), (Str.ofString "iterable", .ref left), (Str.ofString "key", .ref 181)]) C st hled ?k6 ?k7 ?k8 ?k9 ?kB ?kD ?_ ?c2 ?c3 ?c4
  (((case k6 => k_is); (case k7 => k_is); (case k8 => exact Nat.lt_of_le_of_lt (Nat.le_add_right _ _) hd); (case k9 => exact kp_binds (Frag.In.keeps (Cx.X (by assumption)) (by assumption)) (fun _ => by kernel_rfl)); (case kB => exact rfl); (case kD => decide +kernel); (case c2 => exact rfl); (case c3 => exact rfl); (case c4 => exact rfl)))
  intro g' L' h' tk' cells' F' N' Y' B' X' T' G' l1
  (try k_lt l1)
  k_cells Y'
  rename_i oc hoc
  (try simp only [List.cons_append, List.nil_append] at N')
  have gl := G' _ _ hleft (notTbl hleft ht (by simp))
  have il : g'.IsList left #[.ref r1.l, .ref r2.l, .ref r3.l] := ⟨_, gl, rfl, _, rfl⟩
  have i1 : r1.In g' := h1.ext ht (fun b o e n => G' b o e (by simpa using n))
  have i2 : r2.In g' := h2.ext ht (fun b o e n => G' b o e (by simpa using n))
  have i3 : r3.In g' := h3.ext ht (fun b o e n => G' b o e (by simpa using n))
  (try dsimp only)
  (try k_fold)
  iterate 51 walk1
  refine iter_list (by k_asm) (by k_asm) ⟨_, Fr.keep (by k_asm) _ _ gl, rfl, _, rfl⟩ ?_
  intro I h1' F1 N1 l2
  (try k_lt l2)
  walk1
  walk1
  refine assign_comp2 (by with_unfolding_all rfl) (by with_unfolding_all rfl) rfl (by decide) ?_
  iterate 14 walk1
  refine zip_new (a := 0) (b := 2) (c := 1) (k := 0) (by decide) (by k_asm) (by k_asm) (by assumption) ⟨_, News.get (by k_asm) (.head _), rfl, rfl⟩ ?_
  intro Z TO TI RI h2' F2 N2 q1 q2 q3 q4 q5
  (try k_lt q1)
  replace q2 := ltN q2
  replace q3 := ltN q3
  replace q4 := ltN q4
  replace q5 := ltN q5
  refine wpAny_pyIter_zip (News.get N2 (.head _)) ?_
  refine comp_open F2 N2 (by decide) rfl ?_
  intro D C9 oC m2' h3' tk3 F3 N3 hoC q6 q7
  (try k_lt q6)
  replace q7 := ltN q7
  dsimp only
  refine (fun loop => codeAny_compStart_list loop (wpAny_pyIter_zip (News.get N3 (by k_mem)) loop)) ?_
  have hrs : Builtin.Range.rangeSize 0 2 1 = 2 := by decide
  rw [hrs] at N3
  have hoc' : oc.data = .cell (some (.ref 181)) := hoc
  have N4 : News g' L' h3' [(Z, zipO .none TI TO), (TO, pairO .none .none), (RI, ritO 0 2 1), (I, litO left 0), (C9, oC), (D, LCg.lst []), (TI, pairO (.ref RI) (.ref I)), (L' + 1, oc), (70, tblO ps)] := news_idx N3 [2, 3, 5, 6, 0, 1, 4, 7, 8]
  have u4 : Up [70, L' + 1, I, RI, TI, TO, Z, D, C9] := ⟨by omega, by omega, q5, q2, q3, q4, q6.1, q7, trivial⟩
  have hID : @LT.lt Nat _ I D := Nat.lt_trans q5 (Nat.lt_trans q2 (Nat.lt_trans q3 (Nat.lt_trans q4 q6.1)))
  have nd : List.Nodup (α := Nat) [Z, TO, RI, I, C9, D, TI, L' + 1, 70] := nodup_idx u4 [6, 5, 3, 2, 8, 7, 4, 1, 0] (by decide)
  have nd5 : List.Nodup (α := Nat) [C9, D, L' + 1, 70, Z, TO, RI, I, TI] := nodup_idx u4 [8, 7, 1, 0, 6, 5, 3, 2, 4] (by decide)
  refine zip_turn (y := .ref r1.l) rfl F3 N4 (by k_mem) hoC nd il rfl (by decide) rfl rfl (by decide) rfl ?_
  intro h4 tk4 tx4 T4 oC4 m4 F4 N4' hoC4 e41 e42 lT4
  have N5 : News g' L' h4 [(C9, oC4), (D, LCg.lst []), (L' + 1, oc), (70, tblO ps), (Z, zipO .none TI TO), (TO, pairO (.int 0 tx4) (.ref r1.l)), (RI, ritO (0 + 1) (2 - 1) 1), (I, litO left (0 + 1)), (TI, pairO (.ref RI) (.ref I))] := news_idx N4' [5, 6, 8, 9, 1, 2, 3, 4, 7]
  refine ns_elt (dp := dp + 1) (un := un + 3) B' F4 N5 X' T' rfl rfl rfl hoC4 e41 e42 hoc' i1 m1 hps nd5 (by simp) (room 11 hd) (room 97 hu) ?_
  intro s5 tA5 tk5 ps5 F5 N5' hps5 gs5 lt5
  (try k_lt lt5)
  have N6 : News g' L' s5.heap [(Z, zipO .none TI TO), (TO, pairO (.int 0 tx4) (.ref r1.l)), (RI, ritO (0 + 1) (2 - 1) 1), (I, litO left (0 + 1)), (C9, oC4), (D, LCg.lst ([] ++ [.ref tA5])), (TI, pairO (.ref RI) (.ref I)), (L' + 1, oc), (70, tblO ps5), (tA5, trO (.str r1.key tk5) (.int 0 tx4) (.ref r1.l))] := news_idx N5' [5, 6, 7, 8, 1, 2, 9, 3, 4, 0]
  have u5 : Up [70, L' + 1, I, RI, TI, TO, Z, D, C9, tA5] := ⟨u4.1, u4.2.1, q5, q2, q3, q4, q6.1, q7, lt5.1, trivial⟩
  have nd6 : List.Nodup (α := Nat) [Z, TO, RI, I, C9, D, TI, L' + 1, 70, tA5] := nodup_idx u5 [6, 5, 3, 2, 8, 7, 4, 1, 0, 9] (by decide)
  have nd7 : List.Nodup (α := Nat) [C9, D, L' + 1, 70, Z, TO, RI, I, TI, tA5] := nodup_idx u5 [8, 7, 1, 0, 6, 5, 3, 2, 4, 9] (by decide)
  refine zip_turn (y := .ref r2.l) rfl F5 N6 (by k_mem) hoC4 nd6 il rfl (by decide) rfl rfl (by decide) rfl ?_
  intro h6 tk6 tx6 T6 oC6 m6 F6 N6' hoC6 e61 e62 lT6
  have N7 : News g' L' h6 [(C9, oC6), (D, LCg.lst ([] ++ [.ref tA5])), (L' + 1, oc), (70, tblO ps5), (Z, zipO .none TI TO), (TO, pairO (.int (0 + 1) tx6) (.ref r2.l)), (RI, ritO (0 + 1 + 1) (2 - 1 - 1) 1), (I, litO left (0 + 1 + 1)), (TI, pairO (.ref RI) (.ref I)), (tA5, trO (.str r1.key tk5) (.int 0 tx4) (.ref r1.l))] := news_idx N6' [5, 6, 8, 9, 1, 2, 3, 4, 7, 10]
  refine ns_elt (dp := dp + 1) (un := un + 3) B' F6 N7 X' T' rfl rfl rfl hoC6 e61 e62 hoc' i2 m2 hps5 nd7 (by simp) (room 11 hd) (room 97 hu) ?_
  intro s7 tA7 tk7 ps7 F7 N7' hps7 gs7 lt7
  (try k_lt lt7)
  have N8 : News g' L' s7.heap [(Z, zipO .none TI TO), (RI, ritO (0 + 1 + 1) (2 - 1 - 1) 1), (TO, pairO (.int (0 + 1) tx6) (.ref r2.l)), (TI, pairO (.ref RI) (.ref I)), (C9, oC6), (D, LCg.lst ([] ++ [.ref tA5] ++ [.ref tA7])), (I, litO left (0 + 1 + 1)), (L' + 1, oc), (70, tblO ps7), (tA5, trO (.str r1.key tk5) (.int 0 tx4) (.ref r1.l)), (tA7, trO (.str r2.key tk7) (.int (0 + 1) tx6) (.ref r2.l))] := news_idx N7' [5, 7, 6, 9, 1, 2, 8, 3, 4, 10, 0]
  have u7 : Up [70, L' + 1, I, RI, TI, TO, Z, D, C9, tA5, tA7] := ⟨u4.1, u4.2.1, q5, q2, q3, q4, q6.1, q7, lt5.1, by omega, trivial⟩
  have nd8 : List.Nodup (α := Nat) [Z, RI, TO, TI, C9, D, I, L' + 1, 70, tA5, tA7] := nodup_idx u7 [6, 3, 5, 4, 8, 7, 2, 1, 0, 9, 10] (by decide)
  refine zip_over rfl F7 N8 (by k_mem) (by k_mem) nd8 (by decide) ?_
  intro h8 F8 N8'
  have N9 : News g' L' h8 [(C9, oC6), (D, LCg.lst [.ref tA5, .ref tA7]), (I, litO left 2), (L' + 1, oc), (70, tblO ps7), (tA5, trO (.str r1.key tk5) (.int 0 tx4) (.ref r1.l)), (tA7, trO (.str r2.key tk7) (.int 1 tx6) (.ref r2.l))] := fun p hp => N8' p (.tail _ (.tail _ hp))
  have off9 : ∀ q ∈ [(D, LCg.lst [.ref tA5, .ref tA7]), (I, litO left 2), (L' + 1, oc), (70, tblO ps7), (tA5, trO (.str r1.key tk5) (.int 0 tx4) (.ref r1.l)), (tA7, trO (.str r2.key tk7) (.int 1 tx6) (.ref r2.l))], q.1 ≠ C9 := off_nd (nodup_idx u7 [8, 7, 2, 1, 0, 9, 10] (by decide))
  refine' comp_done (s := { s7 with heap := h8 }) ?a F8 N9 hoC6 off9 ?b ?c ?_
  case a => rfl
  case b => rfl
  case c => rfl
  intro h9 tk9 F9 N10
  clear F2 N2 F3 N3 N4 F4 N4' N5 F5 N5' N6 F6 N6' N7 F7 N7' N8 F8 N8' N9
  iterate 18 walk1
  refine use_call B' F9 N10 X' T' rfl rfl ?_
  intro H11 C11 st11 f11 G11
  refine hfy2 C11 st11 (room 13 hd) (room 137 hu) (i0 := 0) (i1 := 1) (by decide) (News.get N10 (.head _)) (f11 (D, _) (.head _)) (News.get N10 (by k_mem)) (neN (by omega)) (News.get N10 (by k_mem)) (neN (by omega)) ?_
  intro h11 tk11 hx11 ho11
  obtain ⟨F11, N11⟩ := back1 F9 N10 (by k_upd) hx11 ho11
  clear F9 N10
  have gen : ∃ (ta tb : Addr) (ra rb : Rw) (tka tkb : Tok) (ia ib : Int) (tia tib : Tok) (nD : Nat), News g' L' h11 [(D, lstO #[.ref ta, .ref tb] nD), (ta, trO (.str ra.key tka) (.int ia tia) (.ref ra.l)), (tb, trO (.str rb.key tkb) (.int ib tib) (.ref rb.l)), (I, litO left 2), (L' + 1, oc), (70, tblO ps7)] ∧
      ((@Ne Nat ta tb ∧ @LT.lt Nat _ D ta ∧ @LT.lt Nat _ D tb) ∧ ia ≠ 2 ∧ ib ≠ 2 ∧ ia ≠ ib) ∧ ((ra = r1 ∧ rb = r2 ∧ ia = 0 ∧ ib = 1 ∧ pLt r2.key 1 r1.key 0 = true) ∨ (ra = r2 ∧ rb = r1 ∧ ia = 1 ∧ ib = 0 ∧ pLt r2.key 1 r1.key 0 = false)) := by
    cases hc : pLt r2.key 1 r1.key 0 with
    | true =>
      rw [hc, if_pos rfl] at N11
      refine ⟨tA5, tA7, r1, r2, tk5, tk7, 0, 1, tx4, tx6, 2, (news_idx N11 [0, 4, 5, 1, 2, 3]), ⟨⟨by omega, by omega, by omega⟩, by decide, by decide, by decide⟩, .inl ⟨rfl, rfl, rfl, rfl, rfl⟩⟩
    | false =>
      rw [hc, if_neg (by decide)] at N11
      refine ⟨tA7, tA5, r2, r1, tk7, tk5, 1, 0, tx6, tx4, 2, (news_idx N11 [0, 5, 4, 1, 2, 3]), ⟨⟨by omega, by omega, by omega⟩, by decide, by decide, by decide⟩, .inr ⟨rfl, rfl, rfl, rfl, rfl⟩⟩
  obtain ⟨ta, tb, ra, rb, tka, tkb, ia, ib, tia, tib, nD, N12, ⟨⟨nab, lDa, lDb⟩, nia, nib, niab⟩, hwho⟩ := gen
  clear N11
  (try dsimp only)
  iterate 8 walk1
  refine tup_at (v := .str ra.key tka) (News.get (by k_asm) (by k_mem)) (by decide) (by decide) rfl ?_
  iterate 10 walk1
  refine wpAny_mono (Q := fun f s' => f = .next ∧ NsMid g' L' D (L' + 1) oc s r1 r2 r3 s') ?loop ?tail (fun _ _ h => h)
  case tail =>
    intro f s' hf
    obtain ⟨rfl, m, u, v, xa, xb, ta', tb', ia', ib', tia', tib', n', ps', F9, hres, N9, hps9, gs9, ⟨nuv, lDu, lDv⟩, two⟩ := hf
    have em : m = fun y => if y = Str.ofString "result" then some (.ref D) else m y := by
      funext y
      by_cases hy : y = Str.ofString "result"
      · rw [if_pos hy, hy]; exact hres
      · rw [if_neg hy]
    rw [em] at F9
    dsimp only
    walk1
    refine wpAny_mono (Q := fun f s'' => f = .next ∧ NsMid2 g' L' D (L' + 1) oc s r1 r2 r3 s'') ?sort ?ret (fun _ _ h => h)
    case ret =>
      intro f s3 hf3
      obtain ⟨rfl, m3, u3, v3, xa3, xb3, ta3, tb3, ia3, ib3, tia3, tib3, n3, ps3, F3, hres3, N3, hps3, gs3, ⟨nuv3, lDu3, lDv3⟩, two3, hlt3⟩ := hf3
      have em3 : m3 = fun y => if y = Str.ofString "result" then some (.ref D) else m3 y := by
        funext y
        by_cases hy : y = Str.ofString "result"
        · rw [if_pos hy, hy]; exact hres3
        · rw [if_neg hy]
      rw [em3] at F3
      clear F9 N9
      dsimp only
      refine wpAny_execs_cons ?_
      refine wpAny_Return_some ?_
      refine eval_comp2 (by with_unfolding_all rfl) rfl (by decide) ?_
      walk1
      refine wpAny_pyIter_list ⟨_, News.get N3 (.head _), rfl, _, rfl⟩ ?_
      obtain ⟨F4, N4, l4⟩ := ks_newsPush (s := s3) (o := litO D 0) F3 N3 rfl (Heap.get?_push_at rfl rfl) (fun b o e => Heap.get?_push_of_some _ e)
      refine comp_open F4 N4 (by decide) rfl ?_
      intro D5 C5 oC5 m5 h5 tk5 F5 N5 hoC5 l5 l5'
      dsimp only
      have N6 : News g' L' h5 [(s3.heap.objs.size, litO D 0), (C5, oC5), (D5, LCg.lst []), (D, lstO #[.ref u3, .ref v3] n3), (u3, trO (.str xa3.key ta3) (.int ia3 tia3) (.ref xa3.l)), (v3, trO (.str xb3.key tb3) (.int ib3 tib3) (.ref xb3.l)), (L' + 1, oc), (70, tblO ps3)] := news_idx N5 [2, 0, 1, 3, 4, 5, 6, 7]
      (try k_lt l4)
      (try k_lt l5)
      replace l5' := ltN l5'
      have nd6 : List.Nodup (α := Nat) [s3.heap.objs.size, C5, D5, D, u3, v3, L' + 1, 70] := by
        have w1 : (70 : Nat) < L' + 1 := u4.1
        have w2 : L' + 1 < D := Nat.lt_trans u4.2.1 (Nat.lt_trans u4.2.2.1 (Nat.lt_trans u4.2.2.2.1 (Nat.lt_trans u4.2.2.2.2.1 (Nat.lt_trans u4.2.2.2.2.2.1 u4.2.2.2.2.2.2.1))))
        have w3 : @LT.lt Nat _ u3 s3.heap.objs.size := by omega
        have w4 : @LT.lt Nat _ v3 s3.heap.objs.size := by omega
        have w5 : @LT.lt Nat _ s3.heap.objs.size D5 := by omega
        rcases Nat.lt_or_gt_of_ne nuv3 with h | h
        · exact nodup_idx (c := [70, L' + 1, D, u3, v3, s3.heap.objs.size, D5, C5]) ⟨w1, w2, lDu3, h, w4, w5, l5', trivial⟩ [5, 7, 6, 2, 3, 4, 1, 0] (by decide)
        · exact nodup_idx (c := [70, L' + 1, D, v3, u3, s3.heap.objs.size, D5, C5]) ⟨w1, w2, lDv3, h, w3, w5, l5', trivial⟩ [5, 7, 6, 2, 4, 3, 1, 0] (by decide)
      refine (fun loop => codeAny_compStart_list loop (wpAny_pyIter_listiter ⟨_, News.get N6 (.head _), rfl, rfl⟩ loop)) ?_
      refine tri_turn (u := u3) (l := D) rfl F5 N6 hoC5 nd6 (by k_mem) (by k_mem) rfl (by simp) rfl rfl rfl rfl (by decide) ?_
      intro h6 tk6 oC6 m6 F6 N7 hoC6
      refine tri_turn (u := v3) (l := D) rfl F6 N7 hoC6 nd6 (by k_mem) (by k_mem) rfl (by simp) rfl rfl rfl rfl (by decide) ?_
      intro h7 tk7 oC7 m7 F7 N8 hoC7
      refine tri_over (l := D) rfl F7 N8 (by k_mem) nd6 rfl ?_
      intro h8 F8 N9
      have off9 : ∀ q ∈ [(D5, LCg.lst [.ref xa3.l, .ref xb3.l]), (D, lstO #[.ref u3, .ref v3] n3), (u3, trO (.str xa3.key ta3) (.int ia3 tia3) (.ref xa3.l)), (v3, trO (.str xb3.key tb3) (.int ib3 tib3) (.ref xb3.l)), (L' + 1, oc), (70, tblO ps3)], q.1 ≠ C5 := off_nd (nodup_sub nd6 [1, 2, 3, 4, 5, 6, 7] (by decide))
      refine comp_doneE F8 N9 hoC7 off9 ?_
      intro h9 F10 N10
      dsimp only
      exact k _ D5 _ ps3 xa3 xb3 ia3 ib3 (ext_of G' F10) (News.get N10 (by k_mem)) hps3 gs3 (fresh_of G' N10 (List.Mem.head _) (by simp only [List.map_cons, List.map_nil, List.mem_singleton]; exact neN (by omega))) (News.get N10 (List.Mem.head _)) two3 hlt3
    k_steps
    · rename_i hk
      exact absurd hk.symm two.choose_spec.choose_spec.2.2.2
    · rename_i e1 e2 e3 h9 c9 F9' N9'
      refine ⟨_, v, u, xb, xa, tb', ta', ib', ia', tib', tia', c9, ps', F9', rfl, (news_idx N9' [0, 2, 1, 3, 4]), hps9, gs9, ⟨nuv.symm, lDv, lDu⟩, two3_swap two, pLt_iff.mpr (.inr ⟨congrArg (fun z => z.cps.toList) e1, e3⟩)⟩
    · rename_i e1 e2 e3 h9 c9 F9' N9'
      refine ⟨_, u, v, xa, xb, ta', tb', ia', ib', tia', tib', c9, ps', F9', rfl, N9', hps9, gs9, ⟨nuv, lDu, lDv⟩, two, pLt_iff.mpr (.inr ⟨(congrArg (fun z => z.cps.toList) e1).symm, by omega⟩)⟩
    · rename_i e2 e3 h9 c9 F9' N9'
      refine ⟨_, v, u, xb, xa, tb', ta', ib', ia', tib', tia', c9, ps', F9', rfl, (news_idx N9' [0, 2, 1, 3, 4]), hps9, gs9, ⟨nuv.symm, lDv, lDu⟩, two3_swap two, pLt_iff.mpr (.inl e3)⟩
    · rename_i e2 e3 h9 c9 F9' N9'
      refine ⟨_, u, v, xa, xb, ta', tb', ia', ib', tia', tib', c9, ps', F9', rfl, N9', hps9, gs9, ⟨nuv, lDu, lDv⟩, two, pLt_iff.mpr (.inl ((l_tri xa.key.cps.toList xb.key.cps.toList).resolve_right (fun q => q.elim (fun q => e2 (str_ext q.symm)) e3)))⟩
  refine wpAny_For ?_
  iterate 1 walk1
  refine wpAny_pyIter_listiter ⟨_, News.get (by k_asm) (by k_mem), rfl, rfl⟩ ?_
  refine for_turn ?_
  refine next_list (x := .ref r3.l) (News.get (by k_asm) (by k_mem)) ⟨_, Fr.keep (by k_asm) _ _ gl, rfl, _, rfl⟩ rfl fun h13 e13 s13 => ?_
  (try dsimp only)
  obtain ⟨F13, N13⟩ := back1 (by k_asm) (by k_asm) (by k_upd) (fun b o e hb => s13.extBut b o (by simpa using hb) e) e13
  refine wpAny_of_eq rfl ?_
  refine wpAny_assign_Name ?_
  iterate 11 walk1
  refine use_call B' (by k_asm) (by k_asm) X' T' rfl rfl ?_
  intro H15 C15 st15 f15 G15
  refine rest_row C15 st15 (room 13 hd) (room 137 hu) (i3.keep (Fr.keep (by k_asm))) m3 (News.get (by k_asm) (by k_mem)) hps7 (f15 (70, tblO _) (by k_mem)) ?_
  intro s15 t15 ps15 hx15 ho15 hps15 gs15
  obtain ⟨F15, N15⟩ := back1 (by k_asm) (by k_asm) (by k_upd) hx15 ho15
  (try dsimp only)
  k_steps
  · rename_i hlt D17 h17 F17 N17 l17
    have hDn : @LT.lt Nat _ D D17 := by omega
    refine use_call B' F17 N17 X' T' rfl rfl ?_
    intro H19 C19 st19 f19 G19
    refine hrm2 C19 st19 (room 13 hd) (room 137 hu) (i0 := 2) (i1 := ib) (Ne.symm nib) (News.get N17 (by k_mem)) (f19 (D, lstO _ _) (by k_mem)) (News.get N17 (.head _)) (neN (by omega)) (News.get N17 (by k_mem)) (neN (by omega)) ?_
    intro h19 tk19 hx19 ho19
    obtain ⟨F19, N19⟩ := back1 F17 N17 (by k_upd) hx19 ho19
    clear F17 N17
    (try dsimp only)
    have gsA : Gs s s15 := ⟨fun ab => gs15.1 (gs7.1 (gs5.1 ab)), gs15.2.trans (gs7.2.trans gs5.2)⟩
    cases hc : pLt rb.key ib r3.key 2 with
    | true =>
      rw [hc, if_pos rfl] at N19
      iterate 5 walk1
      refine item_at (v := .ref D17) (News.get (by k_asm) (by k_mem)) (by decide) (by decide) rfl ?_
      iterate 19 walk1
      rename_i h21 F21 N21
      dsimp only
      refine for_turn ?_
      refine wpAny_pyNext_list_end (items := #[.ref r1.l, .ref r2.l, .ref r3.l]) rfl ⟨_, News.get N21 (by k_mem), rfl, rfl⟩ ⟨_, Fr.keep F21 _ _ gl, rfl, _, rfl⟩ rfl fun h23 e23 => ?_
      refine ⟨rfl, _, D17, tb, r3, rb, _, _, 2, ib, _, _, _, _, ns_end F21 (News.get N21 (by k_mem)) (N21 (I, _) (by k_mem)) e23, rfl, ns_endN (news' := [(D, lstO #[.ref D17, .ref tb] nD), (D17, trO (.str r3.key t15) (.int 2 t2) (.ref r3.l)), (tb, trO (.str rb.key tkb) (.int ib tib) (.ref rb.l)), (L' + 1, oc), (70, tblO ps15)]) N21 (I := I) e23 ?_ ?_, hps15, gsA, ⟨by omega, by omega, by omega⟩, two3_new hwho hlt⟩
      · exact fun p hp => mem_idx (idx := [1, 0, 3, 5, 6]) hp
      · exact all_cons (Nat.ne_of_gt hID) (all_cons (Nat.ne_of_gt (Nat.lt_trans hID hDn)) (all_cons (Nat.ne_of_gt (Nat.lt_trans hID lDb)) (all_cons (Nat.ne_of_lt u4.2.1) (all_cons (Nat.ne_of_lt (Nat.lt_trans u4.1 u4.2.1)) all_nil))))
    | false =>
      rw [hc, if_neg (by decide)] at N19
      iterate 5 walk1
      refine item_at (v := .ref tb) (News.get (by k_asm) (by k_mem)) (by decide) (by decide) rfl ?_
      iterate 19 walk1
      rename_i h21 F21 N21
      dsimp only
      refine for_turn ?_
      refine wpAny_pyNext_list_end (items := #[.ref r1.l, .ref r2.l, .ref r3.l]) rfl ⟨_, News.get N21 (by k_mem), rfl, rfl⟩ ⟨_, Fr.keep F21 _ _ gl, rfl, _, rfl⟩ rfl fun h23 e23 => ?_
      refine ⟨rfl, _, tb, D17, rb, r3, _, _, ib, 2, _, _, _, _, ns_end F21 (News.get N21 (by k_mem)) (N21 (I, _) (by k_mem)) e23, rfl, ns_endN (news' := [(D, lstO #[.ref tb, .ref D17] nD), (tb, trO (.str rb.key tkb) (.int ib tib) (.ref rb.l)), (D17, trO (.str r3.key t15) (.int 2 t2) (.ref r3.l)), (L' + 1, oc), (70, tblO ps15)]) N21 (I := I) e23 ?_ ?_, hps15, gsA, ⟨by omega, by omega, by omega⟩, two3_swap (two3_new hwho hlt)⟩
      · exact fun p hp => mem_idx (idx := [1, 3, 0, 5, 6]) hp
      · exact all_cons (Nat.ne_of_gt hID) (all_cons (Nat.ne_of_gt (Nat.lt_trans hID lDb)) (all_cons (Nat.ne_of_gt (Nat.lt_trans hID hDn)) (all_cons (Nat.ne_of_lt u4.2.1) (all_cons (Nat.ne_of_lt (Nat.lt_trans u4.1 u4.2.1)) all_nil))))
  · rename_i h21 F21 N21 hlt
    have gsA : Gs s s15 := ⟨fun ab => gs15.1 (gs7.1 (gs5.1 ab)), gs15.2.trans (gs7.2.trans gs5.2)⟩
    dsimp only
    refine for_turn ?_
    refine wpAny_pyNext_list_end (items := #[.ref r1.l, .ref r2.l, .ref r3.l]) rfl ⟨_, News.get N21 (by k_mem), rfl, rfl⟩ ⟨_, Fr.keep F21 _ _ gl, rfl, _, rfl⟩ rfl fun h23 e23 => ?_
    refine ⟨rfl, _, ta, tb, ra, rb, _, _, ia, ib, _, _, _, _, ns_end F21 (News.get N21 (by k_mem)) (N21 (I, _) (by k_mem)) e23, rfl, ns_endN (news' := [(D, lstO #[.ref ta, .ref tb] nD), (ta, trO (.str ra.key tka) (.int ia tia) (.ref ra.l)), (tb, trO (.str rb.key tkb) (.int ib tib) (.ref rb.l)), (L' + 1, oc), (70, tblO ps15)]) N21 (I := I) e23 ?_ ?_, hps15, gsA, ⟨by omega, by omega, by omega⟩, two3_keep hwho hlt⟩
    · exact fun p hp => mem_idx (idx := [0, 1, 2, 4, 5]) hp
    · exact all_cons (Nat.ne_of_gt hID) (all_cons (Nat.ne_of_gt (Nat.lt_trans hID lDa)) (all_cons (Nat.ne_of_gt (Nat.lt_trans hID lDb)) (all_cons (Nat.ne_of_lt u4.2.1) (all_cons (Nat.ne_of_lt (Nat.lt_trans u4.1 u4.2.1)) all_nil))))
end Mine
end SN3

section SM4
namespace Mine
noncomputable abbrev KP := Str × Int
noncomputable def kLt (a b : KP) : Prop := pLt a.1 a.2 b.1 b.2 = true
theorem kLt_tr {a b c : KP} (h : kLt a b) (h' : kLt b c) : kLt a c := pLt_trans h h'
theorem kLt_irr {a : KP} (h : kLt a a) : False := by unfold kLt at h; rw [pLt_irr] at h; cases h
/-- the two least (or the only one), in their order -/
noncomputable def Fst2 (ws all : List KP) : Prop := ∃ rest, (ws ++ rest).Perm all ∧ ws.length = min 2 all.length ∧ ws.Pairwise kLt ∧ ∀ a ∈ ws, ∀ b ∈ rest, kLt a b
theorem first_uniq : ∀ {ws ws' rest rest' : List KP}, (ws ++ rest).Perm (ws' ++ rest') → ws.length = ws'.length → ws.Pairwise kLt → ws'.Pairwise kLt → (∀ a ∈ ws, ∀ b ∈ rest, kLt a b) → (∀ a ∈ ws', ∀ b ∈ rest', kLt a b) → ws = ws'
  | [], [], _, _, _, _, _, _, _, _ => rfl
  | [], _ :: _, _, _, _, h, _, _, _, _ => by simp at h
  | _ :: _, [], _, _, _, h, _, _, _, _ => by simp at h
  | a :: ws, a' :: ws', rest, rest', hp, hl, p, p', q, q' => by
    have lo : ∀ b ∈ ws ++ rest, kLt a b := fun b hb => (List.mem_append.mp hb).elim (fun h => (List.pairwise_cons.mp p).1 b h) fun h => q a (.head _) b h
    have lo' : ∀ b ∈ ws' ++ rest', kLt a' b := fun b hb => (List.mem_append.mp hb).elim (fun h => (List.pairwise_cons.mp p').1 b h) fun h => q' a' (.head _) b h
    have e : a = a' := by
      have h1 : a ∈ a' :: (ws' ++ rest') := hp.subset (.head _)
      have h2 : a' ∈ a :: (ws ++ rest) := hp.symm.subset (.head _)
      rcases List.mem_cons.mp h1 with h1 | h1
      · exact h1
      · rcases List.mem_cons.mp h2 with h2 | h2
        · exact h2.symm
        · exact (kLt_irr (kLt_tr (lo' _ h1) (lo _ h2))).elim
    subst e
    have := first_uniq (ws := ws) (ws' := ws') (rest := rest) (rest' := rest') (List.Perm.cons_inv hp) (by simpa using hl) (List.pairwise_cons.mp p).2 (List.pairwise_cons.mp p').2 (fun a ha => q a (.tail _ ha)) (fun a ha => q' a (.tail _ ha))
    rw [this]
theorem Fst2.uniq {ws ws' all all' : List KP} (h : Fst2 ws all) (h' : Fst2 ws' all') (hp : all.Perm all') : ws = ws' := by
  obtain ⟨r, p, l, s, q⟩ := h
  obtain ⟨r', p', l', s', q'⟩ := h'
  exact first_uniq (p.trans (hp.trans p'.symm)) (by rw [l, l', hp.length_eq]) s s' q q'
/-- the first two of a sorted list -/
theorem Fst2.take {so all : List KP} (hp : so.Perm all) (hs : so.Pairwise kLt) : Fst2 (so.take 2) all := by
  refine ⟨so.drop 2, by rw [List.take_append_drop]; exact hp, by rw [List.length_take, hp.length_eq], hs.sublist (List.take_sublist _ _), ?_⟩
  intro a ha b hb
  have := hs
  rw [← List.take_append_drop 2 so, List.pairwise_append] at this
  exact this.2.2 a ha b hb
/-- the first one is the least -/
theorem Fst2.head {a : KP} {ws all : List KP} (h : Fst2 (a :: ws) all) {b : KP} (hb : b ∈ all) : b = a ∨ kLt a b := by
  obtain ⟨r, p, _, s, q⟩ := h
  rcases List.mem_cons.mp (p.symm.subset hb) with h | h
  · exact .inl h
  · rcases List.mem_append.mp h with h | h
    · exact .inr ((List.pairwise_cons.mp s).1 b h)
    · exact .inr (q a (.head _) b h)
theorem fst2_one (a : KP) : Fst2 [a] [a] := ⟨[], List.Perm.refl _, rfl, List.pairwise_singleton _ _, fun _ _ _ h => nomatch h⟩
theorem fst2_two {a b : KP} (h : kLt a b) {all : List KP} (hp : [a, b].Perm all) : Fst2 [a, b] all := by
  refine ⟨[], by simpa using hp, by rw [← hp.length_eq]; rfl, ?_, fun _ _ _ h => nomatch h⟩
  refine List.pairwise_cons.mpr ⟨fun c hc => ?_, List.pairwise_singleton _ _⟩
  rw [List.mem_singleton.mp hc]; exact h
theorem fst2_three {a b c : KP} (h : kLt a b) (h2 : kLt b c) {all : List KP} (hp : [a, b, c].Perm all) : Fst2 [a, b] all := by
  refine ⟨[c], by simpa using hp, by rw [← hp.length_eq]; rfl, ?_, ?_⟩
  · refine List.pairwise_cons.mpr ⟨fun c hc => ?_, List.pairwise_singleton _ _⟩
    rw [List.mem_singleton.mp hc]; exact h
  · intro x hx y hy
    rw [List.mem_singleton.mp hy]
    rcases List.mem_cons.mp hx with rfl | hx
    · exact kLt_tr h h2
    · rw [List.mem_singleton.mp hx]; exact h2
theorem pLt_mono {x y : Str} {i j i' j' : Int} (h : pLt x i y j = true) (hm : i < j → i' < j') : pLt x i' y j' = true := by
  rw [pLt_iff] at *
  rcases h with h | ⟨h, q⟩
  · exact .inl h
  · exact .inr ⟨h, hm q⟩
end Mine
end SM4

section SU2
namespace Mine
noncomputable def Rw.kp (r : Rw) : KP := (r.key, r.j)
noncomputable def refsR (rs : List Rw) : Array Value := (rs.map fun r => Value.ref r.l).toArray
theorem three_mono {a b c r r' : Rw} {i i' : Int} (hab : a.j < b.j) (hac : a.j < c.j) (hbc : b.j < c.j) (m1 : (r, i) ∈ [(a, (0 : Int)), (b, 1), (c, 2)]) (m2 : (r', i') ∈ [(a, (0 : Int)), (b, 1), (c, 2)]) (hlt : i < i') : r.j < r'.j := by
  simp only [List.mem_cons, Prod.mk.injEq, List.not_mem_nil, or_false] at m1 m2
  rcases m1 with ⟨e, f⟩ | ⟨e, f⟩ | ⟨e, f⟩ <;> rcases m2 with ⟨e', f'⟩ | ⟨e', f'⟩ | ⟨e', f'⟩ <;> rw [e, e'] <;> rw [f, f'] at hlt <;> first | exact absurd hlt (by decide) | assumption
theorem nsm {p : Program} {loose : List Str} {mean : ExcName → Option Value} {mg mb : Str → Option Value} {w : World} {dp un : Nat} {gd : Option (List Code)} {outer : List Env} {base H : Heap} {s : Shared} {R : Result → Shared → Prop}
    {left : Addr} {rs : List Rw} {nl : Nat} {ps : Array Value} {t2 : Tok}
    (C : Cx p loose mean mg mb w (aT dp un gd outer) base outer H) (st : H.StaysIn s.heap) (hd : dp + 20 < recursionLimit) (hu : un + 200 < cLine)
    (hleft : s.heap.get? left = some (lstO (refsR rs) nl)) (hr : ∀ r ∈ rs, r.In s.heap) (hm : ∀ r ∈ rs, r.Sm) (h1 : 1 ≤ rs.length) (h3 : rs.length ≤ 3) (hj : (rs.map (·.j)).Pairwise (· < ·))
    (ht : s.heap.get? 70 = some (tblO ps)) (hps : TabOk posStr ps) (hf : H.get? 70 = none)
    (k : ∀ s' D nD ps' ws, ExtL [70] s.heap s'.heap → s'.heap.get? 70 = some (tblO ps') → TabOk posStr ps' → Gs s s' → s.heap.get? D = none →
      s'.heap.get? D = some (lstO (refsR ws) nD) → (∀ r ∈ ws, r ∈ rs) → Fst2 (ws.map Rw.kp) (rs.map Rw.kp) → R (.ok (.ret (.ref D))) s') :
    codeAny (model Challenge.rw_nb0220_01.row.prog w) (aT dp un gd outer) (.call (.ref 174) ⟨[.int 2 t2, .ref left], [("key", .ref 181)]⟩) R s := by
  rcases rs with _ | ⟨a, _ | ⟨b, _ | ⟨c, _ | ⟨d, es⟩⟩⟩⟩
  · simp at h1
  · exact ns1 C st hd hu hleft (hr a (by simp)) (hm a (by simp)) ht hps hf fun s' D nD ps' x1 x2 x3 x4 x5 x6 => k s' D nD ps' [a] x1 x2 x3 x4 x5 x6 (fun _ h => h) (fst2_one _)
  · have hab : a.j < b.j := by simp only [List.map_cons, List.map_nil, List.pairwise_cons, List.mem_singleton, forall_eq] at hj; exact hj.1
    refine ns2 C st hd hu hleft (hr a (by simp)) (hr b (by simp)) (hm a (by simp)) (hm b (by simp)) ht hps hf fun s' D nD ps' x1 x2 x3 x4 x5 x6 => ?_
    cases hc : sLt b.key a.key with
    | true =>
      rw [hc, if_pos rfl] at x6
      refine k s' D nD ps' [b, a] x1 x2 x3 x4 x5 x6 (fun r h => ?_) (fst2_two ?_ (List.Perm.swap _ _ _))
      · simp only [List.mem_cons, List.not_mem_nil, or_false] at h ⊢; exact h.symm
      · exact pLt_iff.mpr (.inl (of_decide_eq_true hc))
    | false =>
      rw [hc, if_neg (by decide)] at x6
      refine k s' D nD ps' [a, b] x1 x2 x3 x4 x5 x6 (fun r h => h) (fst2_two ?_ (List.Perm.refl _))
      have hn : ¬ b.key.cps.toList < a.key.cps.toList := of_decide_eq_false hc
      refine pLt_iff.mpr ?_
      rcases l_tri a.key.cps.toList b.key.cps.toList with q | q | q
      · exact .inl q
      · exact .inr ⟨q, hab⟩
      · exact absurd q hn
  · simp only [List.map_cons, List.map_nil, List.pairwise_cons, List.mem_cons, List.not_mem_nil, or_false, forall_eq_or_imp, forall_eq] at hj
    obtain ⟨⟨hab, hac⟩, hbc, _⟩ := hj
    refine ns3 C st hd hu hleft (hr a (by simp)) (hr b (by simp)) (hr c (by simp)) (hm a (by simp)) (hm b (by simp)) (hm c (by simp)) ht hps hf fun s' D nD ps' xa xb ia ib x1 x2 x3 x4 x5 x6 two hlt => ?_
    obtain ⟨xc, ic, hp, hac', hbc', hne⟩ := two
    have ma : (xa, ia) ∈ [(a, (0 : Int)), (b, 1), (c, 2)] := hp.subset (by simp)
    have mb' : (xb, ib) ∈ [(a, (0 : Int)), (b, 1), (c, 2)] := hp.subset (by simp)
    have mc : (xc, ic) ∈ [(a, (0 : Int)), (b, 1), (c, 2)] := hp.subset (by simp)
    have hp' : [xa.kp, xb.kp, xc.kp].Perm [a.kp, b.kp, c.kp] := by
      have := hp.map (fun q : Rw × Int => q.1.kp)
      simpa using this
    refine k s' D nD ps' [xa, xb] x1 x2 x3 x4 x5 x6 (fun r h => ?_) (fst2_three (c := xc.kp) (pLt_mono hlt (three_mono hab hac hbc ma mb')) (pLt_mono hbc' (three_mono hab hac hbc mb' mc)) hp')
    exact all_cons (List.mem_map_of_mem (f := Prod.fst) ma) (all_cons (List.mem_map_of_mem (f := Prod.fst) mb') all_nil) r h
  · simp only [List.length_cons] at h3; omega
end Mine
end SU2

section SB4
namespace Mine
noncomputable def lawBody (P : Params) : List Stmt := fnBody (k0.heap_1 P) 205
noncomputable def lawScope (P : Params) : Scope := (fnAt (k0.heap_1 P) 205).scope
theorem law_eq {w : World} {name qual : Str} {params : Arguments} {body : List Stmt} {scope : Scope} {cl : List (Str × Addr)} {dV kV doc pm cdv ct oc : Value} {an od : Option Addr} {osl : Array (Option Value)}
    (ho : (k0.heap_1 w.params).lookup 205 = some ⟨oc, od, .func (fnX name qual params body scope cl dV kV doc pm an cdv ct), osl⟩) : qual = Str.ofString "law" ∧ scope = lawScope w.params ∧ cl = [] ∧ cdv = .ref 204 ∧ body = lawBody w.params := fn_eq ho (by kernel_rfl) (by kernel_rfl) (by kernel_rfl)
end Mine
end SB4

section SW2
namespace Mine
noncomputable def whileBody : List Stmt → Nat → List Stmt
  | .While _ b _ _ :: _, 0 => b
  | _ :: r, n + 1 => whileBody r n
  | _, _ => []
noncomputable def stAt : List Stmt → Nat → Stmt
  | a :: _, 0 => a
  | _ :: r, n + 1 => stAt r n
  | [], _ => .Pass default
/-- a row as the ledger bears it -/
noncomputable def RwN (news : List (Addr × Obj)) (r : Rw) : Prop := (r.l, lstO #[.ref r.x, .int r.j r.tj] r.n1) ∈ news ∧ (r.x, accO r.d (vals r.qs) r.n) ∈ news ∧ (r.d, r.od) ∈ news ∧ r.od.cls ≠ .none ∧ ∀ q ∈ r.qs, (q.a, q.obj) ∈ news
theorem RwN.in {g h : Heap} {L : Addr} {news : List (Addr × Obj)} {r : Rw} (x : RwN news r) (N : News g L h news) : r.In h := ⟨N.get x.1, N.get x.2.1, N.get x.2.2.1, x.2.2.2.1, fun q hq => N.get (x.2.2.2.2 q hq)⟩
theorem refsR_mem {rs : List Rw} {v : Value} (h : v ∈ (refsR rs).toList) : ∃ r ∈ rs, v = .ref r.l := by
  simp only [refsR, List.mem_map] at h
  obtain ⟨r, hr, e⟩ := h
  exact ⟨r, hr, e.symm⟩
noncomputable def pLeft (rs : List Rw) (v : Value) : Bool := rs.any fun r => v == .ref r.l && !r.qs.isEmpty
theorem pLeft_of {rs : List Rw} {r : Rw} (hr : r ∈ rs) (hn : (rs.map (·.l)).Nodup) : pLeft rs (.ref r.l) = !r.qs.isEmpty := by
  unfold pLeft
  cases hq : r.qs.isEmpty with
  | false =>
    rw [List.any_eq_true.mpr ⟨r, hr, by simp [hq]⟩]; rfl
  | true =>
    rw [Bool.not_true, Bool.eq_false_iff]
    intro h
    obtain ⟨r', hr', e⟩ := List.any_eq_true.mp h
    simp only [Bool.and_eq_true, beq_iff_eq, Value.ref.injEq, Bool.not_eq_true'] at e
    have : r = r' := by
      obtain ⟨i, hi, rfl⟩ := List.mem_iff_getElem.mp hr
      obtain ⟨j, hj, rfl⟩ := List.mem_iff_getElem.mp hr'
      have := (List.getElem_inj (xs := rs.map (·.l)) hn (h₀ := by simpa using hi) (h₁ := by simpa using hj)).mp (by simpa using e.1)
      subst this; rfl
    subst this
    rw [hq] at e; cases e.2
theorem paired_eq {a b : List Value} (h : Paired (fun v y => y = v) a b) : b = a := by
  induction h with
  | nil => rfl
  | cons e _ ih => rw [e, ih]
theorem refsR_filter {rs : List Rw} (hn : (rs.map (·.l)).Nodup) : (refsR rs).toList.filter (pLeft rs) = (refsR (rs.filter fun r => !r.qs.isEmpty)).toList := by
  simp only [refsR]
  rw [List.filter_map]
  congr 1
  apply List.filter_congr
  intro r hr
  exact pLeft_of hr hn
theorem left_ok {p : Program} {loose : List Str} {mean : ExcName → Option Value} {mg mb : Str → Option Value} {w : World} {dp un : Nat} {gd : Option (List Code)} {outer : List Env} {base g : Heap} {s : Shared} {E : Value → Shared → Prop} {Q : Flow → Shared → Prop}
    {name qual : Str} {params : Arguments} {body : List Stmt} {S : Stmt} {scope : Scope} {cl : List (Str × Addr)} {dV kV doc pm cdv ct oc : Value} {an od : Option Addr} {osl : Array (Option Value)} {L : Addr}
    (ho : (k0.heap_1 w.params).lookup 205 = some ⟨oc, od, .func (fnX name qual params body scope cl dV kV doc pm an cdv ct), osl⟩) (hS : S = stAt (whileBody body 8) 1)
    {m : Str → Option Value} {RA : Addr} {nr : Nat} {rs : List Rw} {news : List (Addr × Obj)}
    (Bl : Below (aT dp un gd outer) base outer g) (X : (k0.heap_1 w.params).In g) (T : Top p loose mean mg mb g) (hd : dp + 8 < recursionLimit) (hu : un + 80 < cLine)
    (F : Fr g L s.heap m) (N : News g L s.heap news) (e1 : m (Str.ofString "rows") = some (.ref RA)) (hRA : (RA, lstO (refsR rs) nr) ∈ news) (hlen : rs.length ≤ 3) (hr : ∀ r ∈ rs, RwN news r) (hno : ∀ r ∈ rs, lookIn "part_count" r.od = some none) (hn : (rs.map (·.l)).Nodup)
    (kont : ∀ D h tk n', Fr g L h (fun z => if z = Str.ofString "left" then some (.ref D) else m z) → News g L h ((D, lstO (refsR (rs.filter fun r => !r.qs.isEmpty)) n') :: news) → (∀ q ∈ news, q.1 ≠ D) → Q .next { s with heap := h, toks := tk }) :
    wpAny (model Challenge.rw_nb0220_01.row.prog w) ((aT dp un gd outer).deeper (envX qual scope L 205 cdv cl)) (exec S (envX qual scope L 205 cdv cl)) Q E s := by
  w_on
  refine fn_exec (fun b => stAt (whileBody b 8) 1) hS (law_eq ho) ?_
  conv in (stAt _ _) => whnf
  conv in (lawScope _) => whnf
  replace F := fr_at F e1
  refine wpAny_Assign_ListComp_free (pLeft rs) (fun v y => y = v) (by with_unfolding_all rfl) (by with_unfolding_all rfl) (by decide) rfl (by decide) rfl rfl rfl ?_
  walk1
  refine compA (pLeft rs) (fun v y => y = v) rfl rfl F N (News.get N hRA) (by simp [refsR, sizeLine_eq]; omega) (comp_quiet (pLeft rs) _ F N (News.get N hRA) ?test ?elt) ?_
  case elt =>
    intro C v s₃ m₃ E' hv hp hn3 hm3 F3 N3
    exact nameC_L hn3 hm3 ⟨rfl, s₃.heap, s₃.toks, rfl, fun _ _ e => e⟩ rfl rfl (by decide)
  case test =>
    intro C v s₃ m₃ E' hv hn3 hm3 F3 N3 _
    obtain ⟨r, hr', rfl⟩ := refsR_mem hv
    refine wpAny_tests_one ?_
    iterate 3 walk1
    have hrN := hr r hr'
    walk1
    refine nameC_L hn3 hm3 ?_ rfl rfl (by decide)
    walk1
    refine item_at (v := .ref r.x) (News.get N3 hrN.1) (by decide) (by decide) rfl ?_
    refine' acc_method (X.keeps F3.keep) (News.get N3 hrN.2.1) (News.get N3 hrN.2.2.1) ?k4 ?k5 ?k7 (hno r hr') ?_
    case k4 => k_is
    case k5 => k_is
    case k7 => decide +kernel
    walk1
    refine use_callA (dp := dp + 1) (un := un + 3) Bl F3 N3 X T rfl rfl ?_
    intro H9 C9 st9 f9 G9
    refine part_count C9 st9 (room 5 hd) (room 57 hu) (z := r.qs.length) (by rw [vals_size]) (News.get N3 hrN.2.1) (News.get N3 hrN.2.2.1) ?_
    intro h9 tk9 t9 hx9
    (try dsimp only)
    k_steps
    · rw [pLeft_of hr' hn]
      cases r.qs <;> simp
    · exact ⟨h9, _, rfl, fun b o e => hx9 b o e (by simp)⟩
  intro D h' tk ys n' F5 N5 hD hP
  have ey : ys = refsR (rs.filter fun r => !r.qs.isEmpty) := by
    apply Array.ext'
    rw [paired_eq hP, refsR_filter hn]
  subst ey
  have F6 : Fr g L h' (fun z => if z = Str.ofString "left" then some (.ref D) else m z) := by
    have e : (fun z => if z = Str.ofString "left" then some (.ref D) else if z = Str.ofString "rows" then some (.ref RA) else m z) = (fun z => if z = Str.ofString "left" then some (.ref D) else m z) := by
      funext z
      by_cases h1 : z = Str.ofString "left"
      · rw [if_pos h1, if_pos h1]
      · rw [if_neg h1, if_neg h1]
        by_cases h2 : z = Str.ofString "rows"
        · rw [if_pos h2, h2, e1]
        · rw [if_neg h2]
    rw [← e]; exact F5
  exact kont D h' tk n' F6 N5 hD
noncomputable def jsV (ws : List Rw) : Array Value := (ws.map fun r => Value.int r.j r.tj).toArray
theorem paired_js {ws rs : List Rw} (hw : ∀ r ∈ ws, r ∈ rs) (hn : (rs.map (·.l)).Nodup) : ∀ {b : List Value}, Paired (fun v y => ∃ r ∈ rs, v = .ref r.l ∧ y = .int r.j r.tj) (ws.map fun r => Value.ref r.l) b → b = ws.map fun r => Value.int r.j r.tj := by
  induction ws with
  | nil => intro b h; cases h; rfl
  | cons r ws ih =>
    intro b h
    rw [List.map_cons] at h
    cases h with
    | cons e h =>
      obtain ⟨r', hr', e1, e2⟩ := e
      have hrr : r = r' := by
        have hr := hw r (.head _)
        obtain ⟨i, hi, rfl⟩ := List.mem_iff_getElem.mp hr
        obtain ⟨j, hj, rfl⟩ := List.mem_iff_getElem.mp hr'
        have := (List.getElem_inj (xs := rs.map (·.l)) hn (h₀ := by simpa using hi) (h₁ := by simpa using hj)).mp (by simpa using e1)
        subst this; rfl
      subst hrr
      rw [e2, ih (fun q hq => hw q (.tail _ hq)) h]
      rfl
theorem first_ok {p : Program} {loose : List Str} {mean : ExcName → Option Value} {mg mb : Str → Option Value} {w : World} {dp un : Nat} {gd : Option (List Code)} {outer : List Env} {base g : Heap} {s : Shared} {E : Value → Shared → Prop} {Q : Flow → Shared → Prop}
    {name qual : Str} {params : Arguments} {body : List Stmt} {S : Stmt} {scope : Scope} {cl : List (Str × Addr)} {dV kV doc pm cdv ct oc : Value} {an od : Option Addr} {osl : Array (Option Value)} {L : Addr}
    (ho : (k0.heap_1 w.params).lookup 205 = some ⟨oc, od, .func (fnX name qual params body scope cl dV kV doc pm an cdv ct), osl⟩) (hS : S = stAt (whileBody body 8) 2)
    {m : Str → Option Value} {LA : Addr} {nl : Nat} {rs : List Rw} {news : List (Addr × Obj)} {ps : Array Value}
    (Bl : Below (aT dp un gd outer) base outer g) (X : (k0.heap_1 w.params).In g) (T : Top p loose mean mg mb g) (hd : dp + 28 < recursionLimit) (hu : un + 280 < cLine)
    (F : Fr g L s.heap m) (N : News g L s.heap ((70, tblO ps) :: news)) (h70 : ∀ q ∈ news, q.1 ≠ 70) (hps : TabOk posStr ps) (e1 : m (Str.ofString "left") = some (.ref LA)) (hLA : (LA, lstO (refsR rs) nl) ∈ news) (h1 : 1 ≤ rs.length) (h3 : rs.length ≤ 3) (hr : ∀ r ∈ rs, RwN news r) (hsm : ∀ r ∈ rs, r.Sm)
    (hn : (rs.map (·.l)).Nodup) (hj : (rs.map (·.j)).Pairwise (· < ·))
    (kont : ∀ s' D n' ws ps', Fr g L s'.heap (fun z => if z = Str.ofString "first" then some (.ref D) else m z) → News g L s'.heap ((D, lstO (jsV ws) n') :: (70, tblO ps') :: news) → TabOk posStr ps' → Gs s s' → (∀ q ∈ (70, tblO ps') :: news, q.1 ≠ D) → (∀ r ∈ ws, r ∈ rs) → Fst2 (ws.map Rw.kp) (rs.map Rw.kp) → Q .next s') :
    wpAny (model Challenge.rw_nb0220_01.row.prog w) ((aT dp un gd outer).deeper (envX qual scope L 205 cdv cl)) (exec S (envX qual scope L 205 cdv cl)) Q E s := by
  w_on
  refine fn_exec (fun b => stAt (whileBody b 8) 2) hS (law_eq ho) ?_
  conv in (stAt _ _) => whnf
  conv in (lawScope _) => whnf
  replace F := fr_at F e1
  refine wpAny_Assign_ListComp_free (fun _ => true) (fun v y => ∃ r ∈ rs, v = .ref r.l ∧ y = .int r.j r.tj) (by with_unfolding_all rfl) (by with_unfolding_all rfl) (by decide) rfl (by decide) rfl rfl rfl ?_
  iterate 11 walk1
  refine ⟨X.keeps F.keep, ?_⟩
  refine use_call Bl F N X T rfl rfl ?_
  intro H9 C9 st9 f9 G9
  refine nsm C9 st9 (room 7 hd) (room 77 hu) (News.get N (.tail _ hLA)) (fun r hr' => ⟨N.get (.tail _ (hr r hr').1), N.get (.tail _ (hr r hr').2.1), N.get (.tail _ (hr r hr').2.2.1), (hr r hr').2.2.2.1, fun q hq => N.get (.tail _ ((hr r hr').2.2.2.2 q hq))⟩) hsm h1 h3 hj (News.get N (.head _)) hps (f9 _ (.head _)) ?_
  intro s' D nD ps' ws hx9 ho9 hps9 gs9 hD0 hD1 hws hF2
  obtain ⟨F7, N7⟩ := back1 F N (.head h70) hx9 ho9
  have zD := fresh_add F hD0 hD1
  have N8 : News g L s'.heap ((D, lstO (refsR ws) nD) :: (70, tblO ps') :: news) := by
    refine all_cons (zD) fun q hq => ?_
    · exact N7 q hq
  change wpAny _ _ (pyIter (Value.ref D)) _ _ s'
  have hwl : ws.length ≤ 3 := by
    obtain ⟨rest, pm, hl, _⟩ := hF2
    rw [List.length_map, List.length_map] at hl
    omega
  refine compA (s := s') (fun _ => true) (fun v y => ∃ r ∈ rs, v = .ref r.l ∧ y = .int r.j r.tj) rfl (by rfl) F7 N8 hD1 (by simp [refsR, sizeLine_eq]; omega) (comp_quiet (fun _ => true) _ F7 N8 hD1 ?test ?elt) ?_
  case test =>
    intro C v s₃ m₃ E' hv hn3 hm3 F3 N3 _
    exact wpAny_tests_nil ⟨rfl, s₃.heap, s₃.toks, rfl, fun _ _ e => e⟩
  case elt =>
    intro C v s₃ m₃ E' hv hp hn3 hm3 F3 N3
    obtain ⟨r, hr', rfl⟩ := refsR_mem hv
    walk1
    refine nameC_L hn3 hm3 ?_ rfl rfl (by decide)
    walk1
    refine item_at (v := .int r.j r.tj) (News.get N3 (.tail _ (.tail _ (hr r (hws r hr')).1))) (by decide) (by decide) rfl ?_
    exact ⟨⟨r, hws r hr', rfl, rfl⟩, s₃.heap, _, rfl, fun _ _ e => e⟩
  intro D2 h2 tk2 ys n2 F9 N9 hD2 hP
  have ey : ys = jsV ws := by
    apply Array.ext'
    have ef : (refsR ws).toList.filter (fun _ => true) = ws.map fun r => Value.ref r.l := by
      rw [List.filter_eq_self.mpr (fun _ _ => rfl)]
      rfl
    rw [ef] at hP
    rw [paired_js hws hn hP]
    rfl
  subst ey
  have F10 : Fr g L h2 (fun z => if z = Str.ofString "first" then some (.ref D2) else m z) := by
    have e : (fun z => if z = Str.ofString "first" then some (.ref D2) else if z = Str.ofString "left" then some (.ref LA) else m z) = (fun z => if z = Str.ofString "first" then some (.ref D2) else m z) := by
      funext z
      by_cases q1 : z = Str.ofString "first"
      · rw [if_pos q1, if_pos q1]
      · rw [if_neg q1, if_neg q1]
        by_cases q2 : z = Str.ofString "left"
        · rw [if_pos q2, q2, e1]
        · rw [if_neg q2]
    rw [← e]; exact F9
  exact kont _ D2 n2 ws ps' F10 (fun q hq => N9 q (by
    rcases List.mem_cons.mp hq with rfl | hq
    · exact .head _
    · exact .tail _ (.tail _ hq))) hps9 ⟨gs9.1, gs9.2⟩ (fun q hq => hD2 q (.tail _ hq)) hws hF2
end Mine
end SW2

section SH1
namespace Mine
local macro_rules | `(tactic| walk_at "compareOp Lt ref ref") => `(tactic| (k_here; k_dflt (refine' lt_pair (Fr.keep ?k1 _ _ ?k2) (Fr.keep ?k3 _ _ ?k4) ?k5 ?_; (case k1 => k_asm); (case k3 => k_asm); (case k2 => assumption); (case k4 => assumption); (case k5 => ktr_units); k_whole)))

theorem sd10 {p : Program} {loose : List Str} {mean : ExcName → Option Value} {mg mb : Str → Option Value} {w : World} {dp un : Nat} {gd : Option (List Code)} {outer : List Env} {base H : Heap} {s : Shared} {R : Result → Shared → Prop}
    {lp : Addr} {n : Nat}  {r0 : Addr} {ta tb : Tok}
    (C : Cx p loose mean mg mb w (aT dp un gd outer) base outer H) (st : H.StaysIn s.heap) (hd : dp + 2 < recursionLimit) (hu : un + 20 < cLine)
    (hl : s.heap.get? lp = some (lstO #[.ref r0] n)) (hf : H.get? lp = none) 
    (k : ∀ h' tk', ExtL [lp] s.heap h' → h'.get? lp = some (lstO #[.ref r0] n) → R (.ok (.ret .none)) { s with heap := h', toks := tk' }) :
    codeAny (model Challenge.rw_nb0220_01.row.prog w) (aT dp un gd outer) (.call (.ref 147) ⟨[.ref lp, .int 0 ta, .int 0 tb], []⟩) R s := by
  w_on
  have hled : ∀ q ∈ [(lp, listOf #[.ref r0] n)], s.heap.get? q.1 = some q.2 ∧ H.get? q.1 = none := by
    intro q hq
    rw [List.mem_singleton.mp hq]
    exact ⟨hl, hf⟩
  refine' enter (binds := [(Str.ofString "heap", .ref lp), (Str.ofString "startpos", .int 0 ta), (Str.ofString "pos", .int 0 tb)]) C st hled ?k6 ?k7 ?k8 ?k9 ?kB ?_ ?c5 ?c2 ?c3 ?c4
  (((case k6 => k_is); (case k7 => k_is); (case k8 => exact Nat.lt_of_le_of_lt (Nat.le_add_right _ _) hd); (case k9 => exact BindsTo.of_eq rfl); (case kB => exact locs rfl); (case c5 => decide); (case c2 => exact rfl); (case c3 => exact rfl); (case c4 => exact rfl)))
  intro g' L' h' F' N' B' X' T' G'
  (try dsimp only)
  (try k_fold)
  k_steps
  all_goals (refine k _ _ (ext_of G' (by k_asm)) ?_)
  all_goals exact News.get (by k_asm) (List.Mem.head _)

theorem sd21 {p : Program} {loose : List Str} {mean : ExcName → Option Value} {mg mb : Str → Option Value} {w : World} {dp un : Nat} {gd : Option (List Code)} {outer : List Env} {base H : Heap} {s : Shared} {R : Result → Shared → Prop}
    {lp : Addr} {n : Nat} {r0 : Addr} {x0 : Str} {i0 : Int} {a0 b0 : Tok} {n0 : Nat} {r1 : Addr} {x1 : Str} {i1 : Int} {a1 b1 : Tok} {n1 : Nat}  {ta tb : Tok}
    (C : Cx p loose mean mg mb w (aT dp un gd outer) base outer H) (st : H.StaysIn s.heap) (hd : dp + 2 < recursionLimit) (hu : un + 20 < cLine)
    (hl : s.heap.get? lp = some (lstO #[.ref r0, .ref r1] n)) (hf : H.get? lp = none) (e0 : s.heap.get? r0 = some (lstO #[.str x0 a0, .int i0 b0] n0)) (q0 : r0 ≠ lp) (e1 : s.heap.get? r1 = some (lstO #[.str x1 a1, .int i1 b1] n1)) (q1 : r1 ≠ lp)
    (k : ∀ h' tk', ExtL [lp] s.heap h' → h'.get? lp = some (lstO (if pLt x1 i1 x0 i0 then #[.ref r1, .ref r0] else #[.ref r0, .ref r1]) n) → R (.ok (.ret .none)) { s with heap := h', toks := tk' }) :
    codeAny (model Challenge.rw_nb0220_01.row.prog w) (aT dp un gd outer) (.call (.ref 147) ⟨[.ref lp, .int 0 ta, .int 1 tb], []⟩) R s := by
  w_on
  have hled : ∀ q ∈ [(lp, listOf #[.ref r0, .ref r1] n)], s.heap.get? q.1 = some q.2 ∧ H.get? q.1 = none := by
    intro q hq
    rw [List.mem_singleton.mp hq]
    exact ⟨hl, hf⟩
  refine' enter (binds := [(Str.ofString "heap", .ref lp), (Str.ofString "startpos", .int 0 ta), (Str.ofString "pos", .int 1 tb)]) C st hled ?k6 ?k7 ?k8 ?k9 ?kB ?_ ?c5 ?c2 ?c3 ?c4
  (((case k6 => k_is); (case k7 => k_is); (case k8 => exact Nat.lt_of_le_of_lt (Nat.le_add_right _ _) hd); (case k9 => exact BindsTo.of_eq rfl); (case kB => exact locs rfl); (case c5 => decide); (case c2 => exact rfl); (case c3 => exact rfl); (case c4 => exact rfl)))
  intro g' L' h' F' N' B' X' T' G'
  have g0 := G' _ _ e0 (by simpa using q0)
  have g1 := G' _ _ e1 (by simpa using q1)
  (try dsimp only)
  (try k_fold)
  k_steps
  all_goals (refine k _ _ (ext_of G' (by k_asm)) ?_)
  all_goals (first | rw [if_pos (by assumption)] | rw [if_neg (by simp [*])])
  all_goals exact News.get (by k_asm) (List.Mem.head _)

theorem sd31 {p : Program} {loose : List Str} {mean : ExcName → Option Value} {mg mb : Str → Option Value} {w : World} {dp un : Nat} {gd : Option (List Code)} {outer : List Env} {base H : Heap} {s : Shared} {R : Result → Shared → Prop}
    {lp : Addr} {n : Nat} {r0 : Addr} {x0 : Str} {i0 : Int} {a0 b0 : Tok} {n0 : Nat} {r1 : Addr} {x1 : Str} {i1 : Int} {a1 b1 : Tok} {n1 : Nat} {r2 : Addr} {ta tb : Tok}
    (C : Cx p loose mean mg mb w (aT dp un gd outer) base outer H) (st : H.StaysIn s.heap) (hd : dp + 2 < recursionLimit) (hu : un + 20 < cLine)
    (hl : s.heap.get? lp = some (lstO #[.ref r0, .ref r1, .ref r2] n)) (hf : H.get? lp = none) (e0 : s.heap.get? r0 = some (lstO #[.str x0 a0, .int i0 b0] n0)) (q0 : r0 ≠ lp) (e1 : s.heap.get? r1 = some (lstO #[.str x1 a1, .int i1 b1] n1)) (q1 : r1 ≠ lp)
    (k : ∀ h' tk', ExtL [lp] s.heap h' → h'.get? lp = some (lstO (if pLt x1 i1 x0 i0 then #[.ref r1, .ref r0, .ref r2] else #[.ref r0, .ref r1, .ref r2]) n) → R (.ok (.ret .none)) { s with heap := h', toks := tk' }) :
    codeAny (model Challenge.rw_nb0220_01.row.prog w) (aT dp un gd outer) (.call (.ref 147) ⟨[.ref lp, .int 0 ta, .int 1 tb], []⟩) R s := by
  w_on
  have hled : ∀ q ∈ [(lp, listOf #[.ref r0, .ref r1, .ref r2] n)], s.heap.get? q.1 = some q.2 ∧ H.get? q.1 = none := by
    intro q hq
    rw [List.mem_singleton.mp hq]
    exact ⟨hl, hf⟩
  refine' enter (binds := [(Str.ofString "heap", .ref lp), (Str.ofString "startpos", .int 0 ta), (Str.ofString "pos", .int 1 tb)]) C st hled ?k6 ?k7 ?k8 ?k9 ?kB ?_ ?c5 ?c2 ?c3 ?c4
  (((case k6 => k_is); (case k7 => k_is); (case k8 => exact Nat.lt_of_le_of_lt (Nat.le_add_right _ _) hd); (case k9 => exact BindsTo.of_eq rfl); (case kB => exact locs rfl); (case c5 => decide); (case c2 => exact rfl); (case c3 => exact rfl); (case c4 => exact rfl)))
  intro g' L' h' F' N' B' X' T' G'
  have g0 := G' _ _ e0 (by simpa using q0)
  have g1 := G' _ _ e1 (by simpa using q1)
  (try dsimp only)
  (try k_fold)
  k_steps
  all_goals (refine k _ _ (ext_of G' (by k_asm)) ?_)
  all_goals (first | rw [if_pos (by assumption)] | rw [if_neg (by simp [*])])
  all_goals exact News.get (by k_asm) (List.Mem.head _)

theorem sd32 {p : Program} {loose : List Str} {mean : ExcName → Option Value} {mg mb : Str → Option Value} {w : World} {dp un : Nat} {gd : Option (List Code)} {outer : List Env} {base H : Heap} {s : Shared} {R : Result → Shared → Prop}
    {lp : Addr} {n : Nat} {r0 : Addr} {x0 : Str} {i0 : Int} {a0 b0 : Tok} {n0 : Nat} {r2 : Addr} {x2 : Str} {i2 : Int} {a2 b2 : Tok} {n2 : Nat} {r1 : Addr} {ta tb : Tok}
    (C : Cx p loose mean mg mb w (aT dp un gd outer) base outer H) (st : H.StaysIn s.heap) (hd : dp + 2 < recursionLimit) (hu : un + 20 < cLine)
    (hl : s.heap.get? lp = some (lstO #[.ref r0, .ref r1, .ref r2] n)) (hf : H.get? lp = none) (e0 : s.heap.get? r0 = some (lstO #[.str x0 a0, .int i0 b0] n0)) (q0 : r0 ≠ lp) (e2 : s.heap.get? r2 = some (lstO #[.str x2 a2, .int i2 b2] n2)) (q2 : r2 ≠ lp)
    (k : ∀ h' tk', ExtL [lp] s.heap h' → h'.get? lp = some (lstO (if pLt x2 i2 x0 i0 then #[.ref r2, .ref r1, .ref r0] else #[.ref r0, .ref r1, .ref r2]) n) → R (.ok (.ret .none)) { s with heap := h', toks := tk' }) :
    codeAny (model Challenge.rw_nb0220_01.row.prog w) (aT dp un gd outer) (.call (.ref 147) ⟨[.ref lp, .int 0 ta, .int 2 tb], []⟩) R s := by
  w_on
  have hled : ∀ q ∈ [(lp, listOf #[.ref r0, .ref r1, .ref r2] n)], s.heap.get? q.1 = some q.2 ∧ H.get? q.1 = none := by
    intro q hq
    rw [List.mem_singleton.mp hq]
    exact ⟨hl, hf⟩
  refine' enter (binds := [(Str.ofString "heap", .ref lp), (Str.ofString "startpos", .int 0 ta), (Str.ofString "pos", .int 2 tb)]) C st hled ?k6 ?k7 ?k8 ?k9 ?kB ?_ ?c5 ?c2 ?c3 ?c4
  (((case k6 => k_is); (case k7 => k_is); (case k8 => exact Nat.lt_of_le_of_lt (Nat.le_add_right _ _) hd); (case k9 => exact BindsTo.of_eq rfl); (case kB => exact locs rfl); (case c5 => decide); (case c2 => exact rfl); (case c3 => exact rfl); (case c4 => exact rfl)))
  intro g' L' h' F' N' B' X' T' G'
  have g0 := G' _ _ e0 (by simpa using q0)
  have g2 := G' _ _ e2 (by simpa using q2)
  (try dsimp only)
  (try k_fold)
  k_steps
  all_goals (refine k _ _ (ext_of G' (by k_asm)) ?_)
  all_goals (first | rw [if_pos (by assumption)] | rw [if_neg (by simp [*])])
  all_goals exact News.get (by k_asm) (List.Mem.head _)

theorem su1 {p : Program} {loose : List Str} {mean : ExcName → Option Value} {mg mb : Str → Option Value} {w : World} {dp un : Nat} {gd : Option (List Code)} {outer : List Env} {base H : Heap} {s : Shared} {R : Result → Shared → Prop}
    {lp : Addr} {n : Nat} {r0 : Addr} {ta : Tok}
    (C : Cx p loose mean mg mb w (aT dp un gd outer) base outer H) (st : H.StaysIn s.heap) (hd : dp + 4 < recursionLimit) (hu : un + 40 < cLine)
    (hl : s.heap.get? lp = some (lstO #[.ref r0] n)) (hf : H.get? lp = none) 
    (k : ∀ h' tk', ExtL [lp] s.heap h' → h'.get? lp = some (lstO #[.ref r0] n) → R (.ok (.ret .none)) { s with heap := h', toks := tk' }) :
    codeAny (model Challenge.rw_nb0220_01.row.prog w) (aT dp un gd outer) (.call (.ref 154) ⟨[.ref lp, .int 0 ta], []⟩) R s := by
  w_on
  have hled : ∀ q ∈ [(lp, listOf #[.ref r0] n)], s.heap.get? q.1 = some q.2 ∧ H.get? q.1 = none := by
    intro q hq
    rw [List.mem_singleton.mp hq]
    exact ⟨hl, hf⟩
  refine' enter (binds := [(Str.ofString "heap", .ref lp), (Str.ofString "pos", .int 0 ta)]) C st hled ?k6 ?k7 ?k8 ?k9 ?kB ?_ ?c5 ?c2 ?c3 ?c4
  (((case k6 => k_is); (case k7 => k_is); (case k8 => exact Nat.lt_of_le_of_lt (Nat.le_add_right _ _) hd); (case k9 => exact BindsTo.of_eq rfl); (case kB => exact locs rfl); (case c5 => decide); (case c2 => exact rfl); (case c3 => exact rfl); (case c4 => exact rfl)))
  intro g' L' h' F' N' B' X' T' G'
  (try dsimp only)
  (try k_fold)
  k_steps
  refine use_call B' (by k_asm) (by k_asm) X' T' rfl rfl ?_
  intro H9 C9 st9 f9 G9
  refine sd10 C9 st9 (room 1 hd) (room 17 hu) (News.get (by k_asm) (List.Mem.head _)) (f9 _ (List.Mem.head _))  ?_
  intro h9 tk9 hx9 ho9
  obtain ⟨F9, N9⟩ := back1 (by k_asm) (by k_asm) (by k_upd) hx9 ho9
  (try dsimp only)
  k_steps
  exact k _ _ (ext_of G' F9) ho9

theorem su2 {p : Program} {loose : List Str} {mean : ExcName → Option Value} {mg mb : Str → Option Value} {w : World} {dp un : Nat} {gd : Option (List Code)} {outer : List Env} {base H : Heap} {s : Shared} {R : Result → Shared → Prop}
    {lp : Addr} {n : Nat} {r0 : Addr} {x0 : Str} {i0 : Int} {a0 b0 : Tok} {n0 : Nat} {r1 : Addr} {x1 : Str} {i1 : Int} {a1 b1 : Tok} {n1 : Nat} {ta : Tok}
    (C : Cx p loose mean mg mb w (aT dp un gd outer) base outer H) (st : H.StaysIn s.heap) (hd : dp + 4 < recursionLimit) (hu : un + 40 < cLine)
    (hl : s.heap.get? lp = some (lstO #[.ref r0, .ref r1] n)) (hf : H.get? lp = none) (e0 : s.heap.get? r0 = some (lstO #[.str x0 a0, .int i0 b0] n0)) (q0 : r0 ≠ lp) (e1 : s.heap.get? r1 = some (lstO #[.str x1 a1, .int i1 b1] n1)) (q1 : r1 ≠ lp)
    (k : ∀ h' tk', ExtL [lp] s.heap h' → h'.get? lp = some (lstO (if pLt x0 i0 x1 i1 then #[.ref r0, .ref r1] else #[.ref r1, .ref r0]) n) → R (.ok (.ret .none)) { s with heap := h', toks := tk' }) :
    codeAny (model Challenge.rw_nb0220_01.row.prog w) (aT dp un gd outer) (.call (.ref 154) ⟨[.ref lp, .int 0 ta], []⟩) R s := by
  w_on
  have hled : ∀ q ∈ [(lp, listOf #[.ref r0, .ref r1] n)], s.heap.get? q.1 = some q.2 ∧ H.get? q.1 = none := by
    intro q hq
    rw [List.mem_singleton.mp hq]
    exact ⟨hl, hf⟩
  refine' enter (binds := [(Str.ofString "heap", .ref lp), (Str.ofString "pos", .int 0 ta)]) C st hled ?k6 ?k7 ?k8 ?k9 ?kB ?_ ?c5 ?c2 ?c3 ?c4
  (((case k6 => k_is); (case k7 => k_is); (case k8 => exact Nat.lt_of_le_of_lt (Nat.le_add_right _ _) hd); (case k9 => exact BindsTo.of_eq rfl); (case kB => exact locs rfl); (case c5 => decide); (case c2 => exact rfl); (case c3 => exact rfl); (case c4 => exact rfl)))
  intro g' L' h' F' N' B' X' T' G'
  have g0 := G' _ _ e0 (by simpa using q0)
  have g1 := G' _ _ e1 (by simpa using q1)
  (try dsimp only)
  (try k_fold)
  k_steps
  refine use_call B' (by k_asm) (by k_asm) X' T' rfl rfl ?_
  intro H9 C9 st9 f9 G9
  refine sd21 C9 st9 (room 1 hd) (room 17 hu) (News.get (by k_asm) (List.Mem.head _)) (f9 _ (List.Mem.head _)) (Fr.keep (by k_asm) _ _ g1) q1 (Fr.keep (by k_asm) _ _ g0) q0 ?_
  intro h9 tk9 hx9 ho9
  obtain ⟨F9, N9⟩ := back1 (by k_asm) (by k_asm) (by k_upd) hx9 ho9
  (try dsimp only)
  k_steps
  exact k _ _ (ext_of G' F9) ho9

theorem su3 {p : Program} {loose : List Str} {mean : ExcName → Option Value} {mg mb : Str → Option Value} {w : World} {dp un : Nat} {gd : Option (List Code)} {outer : List Env} {base H : Heap} {s : Shared} {R : Result → Shared → Prop}
    {lp : Addr} {n : Nat} {r0 : Addr} {x0 : Str} {i0 : Int} {a0 b0 : Tok} {n0 : Nat} {r1 : Addr} {x1 : Str} {i1 : Int} {a1 b1 : Tok} {n1 : Nat} {r2 : Addr} {x2 : Str} {i2 : Int} {a2 b2 : Tok} {n2 : Nat} {ta : Tok}
    (C : Cx p loose mean mg mb w (aT dp un gd outer) base outer H) (st : H.StaysIn s.heap) (hd : dp + 4 < recursionLimit) (hu : un + 40 < cLine)
    (hl : s.heap.get? lp = some (lstO #[.ref r0, .ref r1, .ref r2] n)) (hf : H.get? lp = none) (e0 : s.heap.get? r0 = some (lstO #[.str x0 a0, .int i0 b0] n0)) (q0 : r0 ≠ lp) (e1 : s.heap.get? r1 = some (lstO #[.str x1 a1, .int i1 b1] n1)) (q1 : r1 ≠ lp) (e2 : s.heap.get? r2 = some (lstO #[.str x2 a2, .int i2 b2] n2)) (q2 : r2 ≠ lp)
    (k : ∀ h' tk', ExtL [lp] s.heap h' → h'.get? lp = some (lstO (if pLt x1 i1 x2 i2 then (if pLt x0 i0 x1 i1 then #[.ref r0, .ref r1, .ref r2] else #[.ref r1, .ref r0, .ref r2]) else (if pLt x0 i0 x2 i2 then #[.ref r0, .ref r1, .ref r2] else #[.ref r2, .ref r1, .ref r0])) n) → R (.ok (.ret .none)) { s with heap := h', toks := tk' }) :
    codeAny (model Challenge.rw_nb0220_01.row.prog w) (aT dp un gd outer) (.call (.ref 154) ⟨[.ref lp, .int 0 ta], []⟩) R s := by
  w_on
  have hled : ∀ q ∈ [(lp, listOf #[.ref r0, .ref r1, .ref r2] n)], s.heap.get? q.1 = some q.2 ∧ H.get? q.1 = none := by
    intro q hq
    rw [List.mem_singleton.mp hq]
    exact ⟨hl, hf⟩
  refine' enter (binds := [(Str.ofString "heap", .ref lp), (Str.ofString "pos", .int 0 ta)]) C st hled ?k6 ?k7 ?k8 ?k9 ?kB ?_ ?c5 ?c2 ?c3 ?c4
  (((case k6 => k_is); (case k7 => k_is); (case k8 => exact Nat.lt_of_le_of_lt (Nat.le_add_right _ _) hd); (case k9 => exact BindsTo.of_eq rfl); (case kB => exact locs rfl); (case c5 => decide); (case c2 => exact rfl); (case c3 => exact rfl); (case c4 => exact rfl)))
  intro g' L' h' F' N' B' X' T' G'
  have g0 := G' _ _ e0 (by simpa using q0)
  have g1 := G' _ _ e1 (by simpa using q1)
  have g2 := G' _ _ e2 (by simpa using q2)
  (try dsimp only)
  (try k_fold)
  k_steps
  · refine use_call B' (by k_asm) (by k_asm) X' T' rfl rfl ?_
    intro H9 C9 st9 f9 G9
    refine sd31 C9 st9 (room 1 hd) (room 17 hu) (News.get (by k_asm) (List.Mem.head _)) (f9 _ (List.Mem.head _)) (Fr.keep (by k_asm) _ _ g1) q1 (Fr.keep (by k_asm) _ _ g0) q0 ?_
    intro h9 tk9 hx9 ho9
    obtain ⟨F9, N9⟩ := back1 (by k_asm) (by k_asm) (by k_upd) hx9 ho9
    (try dsimp only)
    k_steps
    rw [← if_pos (c := pLt x1 i1 x2 i2 = true) (by assumption) (t := if pLt x0 i0 x1 i1 = true then _ else _)] at ho9
    exact k _ _ (ext_of G' F9) ho9
  · refine use_call B' (by k_asm) (by k_asm) X' T' rfl rfl ?_
    intro H9 C9 st9 f9 G9
    refine sd32 C9 st9 (room 1 hd) (room 17 hu) (News.get (by k_asm) (List.Mem.head _)) (f9 _ (List.Mem.head _)) (Fr.keep (by k_asm) _ _ g2) q2 (Fr.keep (by k_asm) _ _ g0) q0 ?_
    intro h9 tk9 hx9 ho9
    obtain ⟨F9, N9⟩ := back1 (by k_asm) (by k_asm) (by k_upd) hx9 ho9
    (try dsimp only)
    k_steps
    rw [← if_neg (c := pLt x1 i1 x2 i2 = true) (by simp [*]) (e := if pLt x0 i0 x2 i2 = true then _ else _)] at ho9
    exact k _ _ (ext_of G' F9) ho9

theorem push0 {p : Program} {loose : List Str} {mean : ExcName → Option Value} {mg mb : Str → Option Value} {w : World} {dp un : Nat} {gd : Option (List Code)} {outer : List Env} {base H : Heap} {s : Shared} {R : Result → Shared → Prop}
    {lp : Addr} {n : Nat}  {r0 : Addr}
    (C : Cx p loose mean mg mb w (aT dp un gd outer) base outer H) (st : H.StaysIn s.heap) (hd : dp + 4 < recursionLimit) (hu : un + 40 < cLine)
    (hl : s.heap.get? lp = some (lstO #[] n)) (hf : H.get? lp = none) 
    (k : ∀ h' tk', ExtL [lp] s.heap h' → h'.get? lp = some (lstO #[.ref r0] (n + 1)) → R (.ok (.ret .none)) { s with heap := h', toks := tk' }) :
    codeAny (model Challenge.rw_nb0220_01.row.prog w) (aT dp un gd outer) (.call (.ref 112) ⟨[.ref lp, .ref r0], []⟩) R s := by
  w_on
  have hled : ∀ q ∈ [(lp, listOf #[] n)], s.heap.get? q.1 = some q.2 ∧ H.get? q.1 = none := by
    intro q hq
    rw [List.mem_singleton.mp hq]
    exact ⟨hl, hf⟩
  refine' enter (binds := [(Str.ofString "heap", .ref lp), (Str.ofString "item", .ref r0)]) C st hled ?k6 ?k7 ?k8 ?k9 ?kB ?_ ?c5 ?c2 ?c3 ?c4
  (((case k6 => k_is); (case k7 => k_is); (case k8 => exact Nat.lt_of_le_of_lt (Nat.le_add_right _ _) hd); (case k9 => exact BindsTo.of_eq rfl); (case kB => exact locs rfl); (case c5 => decide); (case c2 => exact rfl); (case c3 => exact rfl); (case c4 => exact rfl)))
  intro g' L' h' F' N' B' X' T' G'
  (try dsimp only)
  (try k_fold)
  k_steps
  refine use_call B' (by k_asm) (by k_asm) X' T' rfl rfl ?_
  intro H9 C9 st9 f9 G9
  refine sd10 C9 st9 (room 1 hd) (room 17 hu) (News.get (by k_asm) (List.Mem.head _)) (f9 _ (List.Mem.head _))  ?_
  intro h9 tk9 hx9 ho9
  obtain ⟨F9, N9⟩ := back1 (by k_asm) (by k_asm) (by k_upd) hx9 ho9
  (try dsimp only)
  k_steps
  exact k _ _ (ext_of G' F9) ho9

theorem push1 {p : Program} {loose : List Str} {mean : ExcName → Option Value} {mg mb : Str → Option Value} {w : World} {dp un : Nat} {gd : Option (List Code)} {outer : List Env} {base H : Heap} {s : Shared} {R : Result → Shared → Prop}
    {lp : Addr} {n : Nat} {r0 : Addr} {x0 : Str} {i0 : Int} {a0 b0 : Tok} {n0 : Nat} {r1 : Addr} {x1 : Str} {i1 : Int} {a1 b1 : Tok} {n1 : Nat} 
    (C : Cx p loose mean mg mb w (aT dp un gd outer) base outer H) (st : H.StaysIn s.heap) (hd : dp + 4 < recursionLimit) (hu : un + 40 < cLine)
    (hl : s.heap.get? lp = some (lstO #[.ref r0] n)) (hf : H.get? lp = none) (e0 : s.heap.get? r0 = some (lstO #[.str x0 a0, .int i0 b0] n0)) (q0 : r0 ≠ lp) (e1 : s.heap.get? r1 = some (lstO #[.str x1 a1, .int i1 b1] n1)) (q1 : r1 ≠ lp)
    (k : ∀ h' tk', ExtL [lp] s.heap h' → h'.get? lp = some (lstO (if pLt x1 i1 x0 i0 then #[.ref r1, .ref r0] else #[.ref r0, .ref r1]) (n + 1)) → R (.ok (.ret .none)) { s with heap := h', toks := tk' }) :
    codeAny (model Challenge.rw_nb0220_01.row.prog w) (aT dp un gd outer) (.call (.ref 112) ⟨[.ref lp, .ref r1], []⟩) R s := by
  w_on
  have hled : ∀ q ∈ [(lp, listOf #[.ref r0] n)], s.heap.get? q.1 = some q.2 ∧ H.get? q.1 = none := by
    intro q hq
    rw [List.mem_singleton.mp hq]
    exact ⟨hl, hf⟩
  refine' enter (binds := [(Str.ofString "heap", .ref lp), (Str.ofString "item", .ref r1)]) C st hled ?k6 ?k7 ?k8 ?k9 ?kB ?_ ?c5 ?c2 ?c3 ?c4
  (((case k6 => k_is); (case k7 => k_is); (case k8 => exact Nat.lt_of_le_of_lt (Nat.le_add_right _ _) hd); (case k9 => exact BindsTo.of_eq rfl); (case kB => exact locs rfl); (case c5 => decide); (case c2 => exact rfl); (case c3 => exact rfl); (case c4 => exact rfl)))
  intro g' L' h' F' N' B' X' T' G'
  have g0 := G' _ _ e0 (by simpa using q0)
  have g1 := G' _ _ e1 (by simpa using q1)
  (try dsimp only)
  (try k_fold)
  k_steps
  refine use_call B' (by k_asm) (by k_asm) X' T' rfl rfl ?_
  intro H9 C9 st9 f9 G9
  refine sd21 C9 st9 (room 1 hd) (room 17 hu) (News.get (by k_asm) (List.Mem.head _)) (f9 _ (List.Mem.head _)) (Fr.keep (by k_asm) _ _ g0) q0 (Fr.keep (by k_asm) _ _ g1) q1 ?_
  intro h9 tk9 hx9 ho9
  obtain ⟨F9, N9⟩ := back1 (by k_asm) (by k_asm) (by k_upd) hx9 ho9
  (try dsimp only)
  k_steps
  exact k _ _ (ext_of G' F9) ho9

theorem push2 {p : Program} {loose : List Str} {mean : ExcName → Option Value} {mg mb : Str → Option Value} {w : World} {dp un : Nat} {gd : Option (List Code)} {outer : List Env} {base H : Heap} {s : Shared} {R : Result → Shared → Prop}
    {lp : Addr} {n : Nat} {r0 : Addr} {x0 : Str} {i0 : Int} {a0 b0 : Tok} {n0 : Nat} {r2 : Addr} {x2 : Str} {i2 : Int} {a2 b2 : Tok} {n2 : Nat} {r1 : Addr}
    (C : Cx p loose mean mg mb w (aT dp un gd outer) base outer H) (st : H.StaysIn s.heap) (hd : dp + 4 < recursionLimit) (hu : un + 40 < cLine)
    (hl : s.heap.get? lp = some (lstO #[.ref r0, .ref r1] n)) (hf : H.get? lp = none) (e0 : s.heap.get? r0 = some (lstO #[.str x0 a0, .int i0 b0] n0)) (q0 : r0 ≠ lp) (e2 : s.heap.get? r2 = some (lstO #[.str x2 a2, .int i2 b2] n2)) (q2 : r2 ≠ lp)
    (k : ∀ h' tk', ExtL [lp] s.heap h' → h'.get? lp = some (lstO (if pLt x2 i2 x0 i0 then #[.ref r2, .ref r1, .ref r0] else #[.ref r0, .ref r1, .ref r2]) (n + 1)) → R (.ok (.ret .none)) { s with heap := h', toks := tk' }) :
    codeAny (model Challenge.rw_nb0220_01.row.prog w) (aT dp un gd outer) (.call (.ref 112) ⟨[.ref lp, .ref r2], []⟩) R s := by
  w_on
  have hled : ∀ q ∈ [(lp, listOf #[.ref r0, .ref r1] n)], s.heap.get? q.1 = some q.2 ∧ H.get? q.1 = none := by
    intro q hq
    rw [List.mem_singleton.mp hq]
    exact ⟨hl, hf⟩
  refine' enter (binds := [(Str.ofString "heap", .ref lp), (Str.ofString "item", .ref r2)]) C st hled ?k6 ?k7 ?k8 ?k9 ?kB ?_ ?c5 ?c2 ?c3 ?c4
  (((case k6 => k_is); (case k7 => k_is); (case k8 => exact Nat.lt_of_le_of_lt (Nat.le_add_right _ _) hd); (case k9 => exact BindsTo.of_eq rfl); (case kB => exact locs rfl); (case c5 => decide); (case c2 => exact rfl); (case c3 => exact rfl); (case c4 => exact rfl)))
  intro g' L' h' F' N' B' X' T' G'
  have g0 := G' _ _ e0 (by simpa using q0)
  have g2 := G' _ _ e2 (by simpa using q2)
  (try dsimp only)
  (try k_fold)
  k_steps
  refine use_call B' (by k_asm) (by k_asm) X' T' rfl rfl ?_
  intro H9 C9 st9 f9 G9
  refine sd32 C9 st9 (room 1 hd) (room 17 hu) (News.get (by k_asm) (List.Mem.head _)) (f9 _ (List.Mem.head _)) (Fr.keep (by k_asm) _ _ g0) q0 (Fr.keep (by k_asm) _ _ g2) q2 ?_
  intro h9 tk9 hx9 ho9
  obtain ⟨F9, N9⟩ := back1 (by k_asm) (by k_asm) (by k_upd) hx9 ho9
  (try dsimp only)
  k_steps
  exact k _ _ (ext_of G' F9) ho9

theorem repl1 {p : Program} {loose : List Str} {mean : ExcName → Option Value} {mg mb : Str → Option Value} {w : World} {dp un : Nat} {gd : Option (List Code)} {outer : List Env} {base H : Heap} {s : Shared} {R : Result → Shared → Prop}
    {lp : Addr} {n : Nat} {r9 : Addr} {r0 : Addr}
    (C : Cx p loose mean mg mb w (aT dp un gd outer) base outer H) (st : H.StaysIn s.heap) (hd : dp + 6 < recursionLimit) (hu : un + 60 < cLine)
    (hl : s.heap.get? lp = some (lstO #[.ref r0] n)) (hf : H.get? lp = none) 
    (k : ∀ h' tk', ExtL [lp] s.heap h' → h'.get? lp = some (lstO #[.ref r9] n) → R (.ok (.ret (.ref r0))) { s with heap := h', toks := tk' }) :
    codeAny (model Challenge.rw_nb0220_01.row.prog w) (aT dp un gd outer) (.call (.ref 126) ⟨[.ref lp, .ref r9], []⟩) R s := by
  w_on
  have hled : ∀ q ∈ [(lp, listOf #[.ref r0] n)], s.heap.get? q.1 = some q.2 ∧ H.get? q.1 = none := by
    intro q hq
    rw [List.mem_singleton.mp hq]
    exact ⟨hl, hf⟩
  refine' enter (binds := [(Str.ofString "heap", .ref lp), (Str.ofString "item", .ref r9)]) C st hled ?k6 ?k7 ?k8 ?k9 ?kB ?_ ?c5 ?c2 ?c3 ?c4
  (((case k6 => k_is); (case k7 => k_is); (case k8 => exact Nat.lt_of_le_of_lt (Nat.le_add_right _ _) hd); (case k9 => exact BindsTo.of_eq rfl); (case kB => exact locs rfl); (case c5 => decide); (case c2 => exact rfl); (case c3 => exact rfl); (case c4 => exact rfl)))
  intro g' L' h' F' N' B' X' T' G'
  (try dsimp only)
  (try k_fold)
  k_steps
  refine use_call B' (by k_asm) (by k_asm) X' T' rfl rfl ?_
  intro H9 C9 st9 f9 G9
  refine su1 C9 st9 (room 1 hd) (room 17 hu) (News.get (by k_asm) (List.Mem.head _)) (f9 _ (List.Mem.head _))  ?_
  intro h9 tk9 hx9 ho9
  obtain ⟨F9, N9⟩ := back1 (by k_asm) (by k_asm) (by k_upd) hx9 ho9
  (try dsimp only)
  k_steps
  exact k _ _ (ext_of G' F9) ho9

theorem repl2 {p : Program} {loose : List Str} {mean : ExcName → Option Value} {mg mb : Str → Option Value} {w : World} {dp un : Nat} {gd : Option (List Code)} {outer : List Env} {base H : Heap} {s : Shared} {R : Result → Shared → Prop}
    {lp : Addr} {n : Nat} {r9 : Addr} {x9 : Str} {i9 : Int} {a9 b9 : Tok} {n9 : Nat} {r1 : Addr} {x1 : Str} {i1 : Int} {a1 b1 : Tok} {n1 : Nat} {r0 : Addr}
    (C : Cx p loose mean mg mb w (aT dp un gd outer) base outer H) (st : H.StaysIn s.heap) (hd : dp + 6 < recursionLimit) (hu : un + 60 < cLine)
    (hl : s.heap.get? lp = some (lstO #[.ref r0, .ref r1] n)) (hf : H.get? lp = none) (e9 : s.heap.get? r9 = some (lstO #[.str x9 a9, .int i9 b9] n9)) (q9 : r9 ≠ lp) (e1 : s.heap.get? r1 = some (lstO #[.str x1 a1, .int i1 b1] n1)) (q1 : r1 ≠ lp)
    (k : ∀ h' tk', ExtL [lp] s.heap h' → h'.get? lp = some (lstO (if pLt x9 i9 x1 i1 then #[.ref r9, .ref r1] else #[.ref r1, .ref r9]) n) → R (.ok (.ret (.ref r0))) { s with heap := h', toks := tk' }) :
    codeAny (model Challenge.rw_nb0220_01.row.prog w) (aT dp un gd outer) (.call (.ref 126) ⟨[.ref lp, .ref r9], []⟩) R s := by
  w_on
  have hled : ∀ q ∈ [(lp, listOf #[.ref r0, .ref r1] n)], s.heap.get? q.1 = some q.2 ∧ H.get? q.1 = none := by
    intro q hq
    rw [List.mem_singleton.mp hq]
    exact ⟨hl, hf⟩
  refine' enter (binds := [(Str.ofString "heap", .ref lp), (Str.ofString "item", .ref r9)]) C st hled ?k6 ?k7 ?k8 ?k9 ?kB ?_ ?c5 ?c2 ?c3 ?c4
  (((case k6 => k_is); (case k7 => k_is); (case k8 => exact Nat.lt_of_le_of_lt (Nat.le_add_right _ _) hd); (case k9 => exact BindsTo.of_eq rfl); (case kB => exact locs rfl); (case c5 => decide); (case c2 => exact rfl); (case c3 => exact rfl); (case c4 => exact rfl)))
  intro g' L' h' F' N' B' X' T' G'
  have g9 := G' _ _ e9 (by simpa using q9)
  have g1 := G' _ _ e1 (by simpa using q1)
  (try dsimp only)
  (try k_fold)
  k_steps
  refine use_call B' (by k_asm) (by k_asm) X' T' rfl rfl ?_
  intro H9 C9 st9 f9 G9
  refine su2 C9 st9 (room 1 hd) (room 17 hu) (News.get (by k_asm) (List.Mem.head _)) (f9 _ (List.Mem.head _)) (Fr.keep (by k_asm) _ _ g9) q9 (Fr.keep (by k_asm) _ _ g1) q1 ?_
  intro h9 tk9 hx9 ho9
  obtain ⟨F9, N9⟩ := back1 (by k_asm) (by k_asm) (by k_upd) hx9 ho9
  (try dsimp only)
  k_steps
  exact k _ _ (ext_of G' F9) ho9

theorem repl3 {p : Program} {loose : List Str} {mean : ExcName → Option Value} {mg mb : Str → Option Value} {w : World} {dp un : Nat} {gd : Option (List Code)} {outer : List Env} {base H : Heap} {s : Shared} {R : Result → Shared → Prop}
    {lp : Addr} {n : Nat} {r9 : Addr} {x9 : Str} {i9 : Int} {a9 b9 : Tok} {n9 : Nat} {r1 : Addr} {x1 : Str} {i1 : Int} {a1 b1 : Tok} {n1 : Nat} {r2 : Addr} {x2 : Str} {i2 : Int} {a2 b2 : Tok} {n2 : Nat} {r0 : Addr}
    (C : Cx p loose mean mg mb w (aT dp un gd outer) base outer H) (st : H.StaysIn s.heap) (hd : dp + 6 < recursionLimit) (hu : un + 60 < cLine)
    (hl : s.heap.get? lp = some (lstO #[.ref r0, .ref r1, .ref r2] n)) (hf : H.get? lp = none) (e9 : s.heap.get? r9 = some (lstO #[.str x9 a9, .int i9 b9] n9)) (q9 : r9 ≠ lp) (e1 : s.heap.get? r1 = some (lstO #[.str x1 a1, .int i1 b1] n1)) (q1 : r1 ≠ lp) (e2 : s.heap.get? r2 = some (lstO #[.str x2 a2, .int i2 b2] n2)) (q2 : r2 ≠ lp)
    (k : ∀ h' tk', ExtL [lp] s.heap h' → h'.get? lp = some (lstO (if pLt x1 i1 x2 i2 then (if pLt x9 i9 x1 i1 then #[.ref r9, .ref r1, .ref r2] else #[.ref r1, .ref r9, .ref r2]) else (if pLt x9 i9 x2 i2 then #[.ref r9, .ref r1, .ref r2] else #[.ref r2, .ref r1, .ref r9])) n) → R (.ok (.ret (.ref r0))) { s with heap := h', toks := tk' }) :
    codeAny (model Challenge.rw_nb0220_01.row.prog w) (aT dp un gd outer) (.call (.ref 126) ⟨[.ref lp, .ref r9], []⟩) R s := by
  w_on
  have hled : ∀ q ∈ [(lp, listOf #[.ref r0, .ref r1, .ref r2] n)], s.heap.get? q.1 = some q.2 ∧ H.get? q.1 = none := by
    intro q hq
    rw [List.mem_singleton.mp hq]
    exact ⟨hl, hf⟩
  refine' enter (binds := [(Str.ofString "heap", .ref lp), (Str.ofString "item", .ref r9)]) C st hled ?k6 ?k7 ?k8 ?k9 ?kB ?_ ?c5 ?c2 ?c3 ?c4
  (((case k6 => k_is); (case k7 => k_is); (case k8 => exact Nat.lt_of_le_of_lt (Nat.le_add_right _ _) hd); (case k9 => exact BindsTo.of_eq rfl); (case kB => exact locs rfl); (case c5 => decide); (case c2 => exact rfl); (case c3 => exact rfl); (case c4 => exact rfl)))
  intro g' L' h' F' N' B' X' T' G'
  have g9 := G' _ _ e9 (by simpa using q9)
  have g1 := G' _ _ e1 (by simpa using q1)
  have g2 := G' _ _ e2 (by simpa using q2)
  (try dsimp only)
  (try k_fold)
  k_steps
  refine use_call B' (by k_asm) (by k_asm) X' T' rfl rfl ?_
  intro H9 C9 st9 f9 G9
  refine su3 C9 st9 (room 1 hd) (room 17 hu) (News.get (by k_asm) (List.Mem.head _)) (f9 _ (List.Mem.head _)) (Fr.keep (by k_asm) _ _ g9) q9 (Fr.keep (by k_asm) _ _ g1) q1 (Fr.keep (by k_asm) _ _ g2) q2 ?_
  intro h9 tk9 hx9 ho9
  obtain ⟨F9, N9⟩ := back1 (by k_asm) (by k_asm) (by k_upd) hx9 ho9
  (try dsimp only)
  k_steps
  exact k _ _ (ext_of G' F9) ho9

theorem pop1 {p : Program} {loose : List Str} {mean : ExcName → Option Value} {mg mb : Str → Option Value} {w : World} {dp un : Nat} {gd : Option (List Code)} {outer : List Env} {base H : Heap} {s : Shared} {R : Result → Shared → Prop}
    {lp : Addr} {n : Nat}  {r0 : Addr}
    (C : Cx p loose mean mg mb w (aT dp un gd outer) base outer H) (st : H.StaysIn s.heap) (hd : dp + 6 < recursionLimit) (hu : un + 60 < cLine)
    (hl : s.heap.get? lp = some (lstO #[.ref r0] n)) (hf : H.get? lp = none) 
    (k : ∀ h' tk', ExtL [lp] s.heap h' → h'.get? lp = some (lstO #[] (n + 1)) → R (.ok (.ret (.ref r0))) { s with heap := h', toks := tk' }) :
    codeAny (model Challenge.rw_nb0220_01.row.prog w) (aT dp un gd outer) (.call (.ref 119) ⟨[.ref lp], []⟩) R s := by
  w_on
  have hled : ∀ q ∈ [(lp, listOf #[.ref r0] n)], s.heap.get? q.1 = some q.2 ∧ H.get? q.1 = none := by
    intro q hq
    rw [List.mem_singleton.mp hq]
    exact ⟨hl, hf⟩
  refine' enter (binds := [(Str.ofString "heap", .ref lp)]) C st hled ?k6 ?k7 ?k8 ?k9 ?kB ?_ ?c5 ?c2 ?c3 ?c4
  (((case k6 => k_is); (case k7 => k_is); (case k8 => exact Nat.lt_of_le_of_lt (Nat.le_add_right _ _) hd); (case k9 => exact BindsTo.of_eq rfl); (case kB => exact locs rfl); (case c5 => decide); (case c2 => exact rfl); (case c3 => exact rfl); (case c4 => exact rfl)))
  intro g' L' h' F' N' B' X' T' G'
  (try dsimp only)
  (try k_fold)
  k_steps
  exact k _ _ (ext_of G' (by k_asm)) (News.get (by k_asm) (List.Mem.head _))

theorem pop2 {p : Program} {loose : List Str} {mean : ExcName → Option Value} {mg mb : Str → Option Value} {w : World} {dp un : Nat} {gd : Option (List Code)} {outer : List Env} {base H : Heap} {s : Shared} {R : Result → Shared → Prop}
    {lp : Addr} {n : Nat}  {r0 : Addr} {r1 : Addr}
    (C : Cx p loose mean mg mb w (aT dp un gd outer) base outer H) (st : H.StaysIn s.heap) (hd : dp + 6 < recursionLimit) (hu : un + 60 < cLine)
    (hl : s.heap.get? lp = some (lstO #[.ref r0, .ref r1] n)) (hf : H.get? lp = none) 
    (k : ∀ h' tk', ExtL [lp] s.heap h' → h'.get? lp = some (lstO #[.ref r1] (n + 1)) → R (.ok (.ret (.ref r0))) { s with heap := h', toks := tk' }) :
    codeAny (model Challenge.rw_nb0220_01.row.prog w) (aT dp un gd outer) (.call (.ref 119) ⟨[.ref lp], []⟩) R s := by
  w_on
  have hled : ∀ q ∈ [(lp, listOf #[.ref r0, .ref r1] n)], s.heap.get? q.1 = some q.2 ∧ H.get? q.1 = none := by
    intro q hq
    rw [List.mem_singleton.mp hq]
    exact ⟨hl, hf⟩
  refine' enter (binds := [(Str.ofString "heap", .ref lp)]) C st hled ?k6 ?k7 ?k8 ?k9 ?kB ?_ ?c5 ?c2 ?c3 ?c4
  (((case k6 => k_is); (case k7 => k_is); (case k8 => exact Nat.lt_of_le_of_lt (Nat.le_add_right _ _) hd); (case k9 => exact BindsTo.of_eq rfl); (case kB => exact locs rfl); (case c5 => decide); (case c2 => exact rfl); (case c3 => exact rfl); (case c4 => exact rfl)))
  intro g' L' h' F' N' B' X' T' G'
  (try dsimp only)
  (try k_fold)
  k_steps
  refine use_call B' (by k_asm) (by k_asm) X' T' rfl rfl ?_
  intro H9 C9 st9 f9 G9
  refine su1 C9 st9 (room 1 hd) (room 17 hu) (News.get (by k_asm) (List.Mem.head _)) (f9 _ (List.Mem.head _))  ?_
  intro h9 tk9 hx9 ho9
  obtain ⟨F9, N9⟩ := back1 (by k_asm) (by k_asm) (by k_upd) hx9 ho9
  (try dsimp only)
  k_steps
  exact k _ _ (ext_of G' F9) ho9

theorem pop3 {p : Program} {loose : List Str} {mean : ExcName → Option Value} {mg mb : Str → Option Value} {w : World} {dp un : Nat} {gd : Option (List Code)} {outer : List Env} {base H : Heap} {s : Shared} {R : Result → Shared → Prop}
    {lp : Addr} {n : Nat} {r2 : Addr} {x2 : Str} {i2 : Int} {a2 b2 : Tok} {n2 : Nat} {r1 : Addr} {x1 : Str} {i1 : Int} {a1 b1 : Tok} {n1 : Nat} {r0 : Addr}
    (C : Cx p loose mean mg mb w (aT dp un gd outer) base outer H) (st : H.StaysIn s.heap) (hd : dp + 6 < recursionLimit) (hu : un + 60 < cLine)
    (hl : s.heap.get? lp = some (lstO #[.ref r0, .ref r1, .ref r2] n)) (hf : H.get? lp = none) (e2 : s.heap.get? r2 = some (lstO #[.str x2 a2, .int i2 b2] n2)) (q2 : r2 ≠ lp) (e1 : s.heap.get? r1 = some (lstO #[.str x1 a1, .int i1 b1] n1)) (q1 : r1 ≠ lp)
    (k : ∀ h' tk', ExtL [lp] s.heap h' → h'.get? lp = some (lstO (if pLt x2 i2 x1 i1 then #[.ref r2, .ref r1] else #[.ref r1, .ref r2]) (n + 1)) → R (.ok (.ret (.ref r0))) { s with heap := h', toks := tk' }) :
    codeAny (model Challenge.rw_nb0220_01.row.prog w) (aT dp un gd outer) (.call (.ref 119) ⟨[.ref lp], []⟩) R s := by
  w_on
  have hled : ∀ q ∈ [(lp, listOf #[.ref r0, .ref r1, .ref r2] n)], s.heap.get? q.1 = some q.2 ∧ H.get? q.1 = none := by
    intro q hq
    rw [List.mem_singleton.mp hq]
    exact ⟨hl, hf⟩
  refine' enter (binds := [(Str.ofString "heap", .ref lp)]) C st hled ?k6 ?k7 ?k8 ?k9 ?kB ?_ ?c5 ?c2 ?c3 ?c4
  (((case k6 => k_is); (case k7 => k_is); (case k8 => exact Nat.lt_of_le_of_lt (Nat.le_add_right _ _) hd); (case k9 => exact BindsTo.of_eq rfl); (case kB => exact locs rfl); (case c5 => decide); (case c2 => exact rfl); (case c3 => exact rfl); (case c4 => exact rfl)))
  intro g' L' h' F' N' B' X' T' G'
  have g2 := G' _ _ e2 (by simpa using q2)
  have g1 := G' _ _ e1 (by simpa using q1)
  (try dsimp only)
  (try k_fold)
  k_steps
  refine use_call B' (by k_asm) (by k_asm) X' T' rfl rfl ?_
  intro H9 C9 st9 f9 G9
  refine su2 C9 st9 (room 1 hd) (room 17 hu) (News.get (by k_asm) (List.Mem.head _)) (f9 _ (List.Mem.head _)) (Fr.keep (by k_asm) _ _ g2) q2 (Fr.keep (by k_asm) _ _ g1) q1 ?_
  intro h9 tk9 hx9 ho9
  obtain ⟨F9, N9⟩ := back1 (by k_asm) (by k_asm) (by k_upd) hx9 ho9
  (try dsimp only)
  k_steps
  exact k _ _ (ext_of G' F9) ho9

end Mine
end SH1

section SU1
namespace Mine
/-- an entry of the heap: the list [text, place] -/
structure En where
  a : Addr
  x : Str
  tx : Tok
  j : Int
  tj : Tok
  n : Nat
noncomputable def En.obj (e : En) : Obj := lstO #[.str e.x e.tx, .int e.j e.tj] e.n
noncomputable def refsE (es : List En) : Array Value := (es.map fun e => Value.ref e.a).toArray
noncomputable def EnIn (h : Heap) (es : List En) : Prop := ∀ e ∈ es, h.get? e.a = some e.obj
noncomputable def eLt (a b : En) : Bool := pLt a.x a.j b.x b.j
/-- the first one is the least -/
noncomputable def Hp : List En → Prop
  | [] => True
  | e :: r => ∀ f ∈ r, eLt e f = true
theorem eLt_tr {a b c : En} (h : eLt a b = true) (h' : eLt b c = true) : eLt a c = true := pLt_trans h h'
theorem eLt_tot {a b : En} (hj : a.j ≠ b.j) (h : eLt a b = false) : eLt b a = true := pLt_total hj h
theorem Hp.one (a : En) : Hp [a] := fun _ h => nomatch h
theorem Hp.two {a b : En} (h : eLt a b = true) : Hp [a, b] := fun f hf => by rw [List.mem_singleton.mp hf]; exact h
theorem Hp.three {a b c : En} (h : eLt a b = true) (h' : eLt a c = true) : Hp [a, b, c] := by
  refine all_cons (h) fun f hf => ?_
  · rw [List.mem_singleton.mp hf]; exact h'
section
variable {p : Program} {loose : List Str} {mean : ExcName → Option Value} {mg mb : Str → Option Value} {w : World} {dp un : Nat} {gd : Option (List Code)} {outer : List Env} {base H : Heap} {s : Shared} {R : Result → Shared → Prop} {lp : Addr} {n : Nat}
theorem hp_push {es : List En} {e : En} (C : Cx p loose mean mg mb w (aT dp un gd outer) base outer H) (st : H.StaysIn s.heap) (hd : dp + 4 < recursionLimit) (hu : un + 40 < cLine)
    (hl : s.heap.get? lp = some (lstO (refsE es) n)) (hf : H.get? lp = none) (he : EnIn s.heap (e :: es)) (hne : ∀ f ∈ e :: es, f.a ≠ lp) (hlen : es.length ≤ 2) (hH : Hp es) (hj : ((e :: es).map (·.j)).Nodup)
    (k : ∀ h' tk' es' n', ExtL [lp] s.heap h' → h'.get? lp = some (lstO (refsE es') n') → es'.Perm (e :: es) → Hp es' → R (.ok (.ret .none)) { s with heap := h', toks := tk' }) :
    codeAny (model Challenge.rw_nb0220_01.row.prog w) (aT dp un gd outer) (.call (.ref 112) ⟨[.ref lp, .ref e.a], []⟩) R s := by
  rcases es with _ | ⟨a, _ | ⟨b, _ | ⟨c, t⟩⟩⟩
  · exact push0 C st hd hu hl hf fun h' tk' x o => k h' tk' [e] _ x o (List.Perm.refl _) (Hp.one _)
  ·
    have hja : e.j ≠ a.j := by simp only [List.map_cons, List.map_nil, List.nodup_cons, List.mem_singleton] at hj; exact hj.1
    refine push1 C st hd hu hl hf (he a (by simp)) (hne a (by simp)) (he e (by simp)) (hne e (by simp)) fun h' tk' x o => ?_
    cases hc : pLt e.x e.j a.x a.j with
    | true => rw [hc, if_pos rfl] at o; exact k h' tk' [e, a] _ x o (List.Perm.refl _) (Hp.two hc)
    | false => rw [hc, if_neg (by decide)] at o; exact k h' tk' [a, e] _ x o (List.Perm.swap _ _ _) (Hp.two (eLt_tot hja hc))
  ·
    have hja : e.j ≠ a.j ∧ e.j ≠ b.j := by simp only [List.map_cons, List.map_nil, List.nodup_cons, List.mem_cons, List.not_mem_nil, or_false, not_or] at hj; exact hj.1
    have hab : eLt a b = true := hH b (by simp)
    refine push2 C st hd hu hl hf (he a (by simp)) (hne a (by simp)) (he e (by simp)) (hne e (by simp)) fun h' tk' x o => ?_
    cases hc : pLt e.x e.j a.x a.j with
    | true => rw [hc, if_pos rfl] at o; exact k h' tk' [e, b, a] _ x o (List.Perm.cons _ (List.Perm.swap _ _ _)) (Hp.three (eLt_tr hc hab) hc)
    | false => rw [hc, if_neg (by decide)] at o; exact k h' tk' [a, b, e] _ x o (((List.Perm.swap _ _ _).cons _).trans (List.Perm.swap _ _ _)) (Hp.three hab (eLt_tot hja.1 hc))
  · exact absurd hlen (Nat.not_le_of_gt (Nat.le_add_left 3 t.length))
theorem hp_repl {es : List En} {e0 e : En} (C : Cx p loose mean mg mb w (aT dp un gd outer) base outer H) (st : H.StaysIn s.heap) (hd : dp + 6 < recursionLimit) (hu : un + 60 < cLine)
    (hl : s.heap.get? lp = some (lstO (refsE (e0 :: es)) n)) (hf : H.get? lp = none) (he : EnIn s.heap (e :: es)) (hne : ∀ f ∈ e :: es, f.a ≠ lp) (hlen : es.length ≤ 2) (hj : ((e :: es).map (·.j)).Nodup)
    (k : ∀ h' tk' es' n', ExtL [lp] s.heap h' → h'.get? lp = some (lstO (refsE es') n') → es'.Perm (e :: es) → Hp es' → R (.ok (.ret (.ref e0.a))) { s with heap := h', toks := tk' }) :
    codeAny (model Challenge.rw_nb0220_01.row.prog w) (aT dp un gd outer) (.call (.ref 126) ⟨[.ref lp, .ref e.a], []⟩) R s := by
  rcases es with _ | ⟨a, _ | ⟨b, _ | ⟨c, t⟩⟩⟩
  · exact repl1 C st hd hu hl hf fun h' tk' x o => k h' tk' [e] _ x o (List.Perm.refl _) (Hp.one _)
  ·
    have hja : e.j ≠ a.j := by simp only [List.map_cons, List.map_nil, List.nodup_cons, List.mem_singleton] at hj; exact hj.1
    refine repl2 C st hd hu hl hf (he e (by simp)) (hne e (by simp)) (he a (by simp)) (hne a (by simp)) fun h' tk' x o => ?_
    cases hc : pLt e.x e.j a.x a.j with
    | true => rw [hc, if_pos rfl] at o; exact k h' tk' [e, a] _ x o (List.Perm.refl _) (Hp.two hc)
    | false => rw [hc, if_neg (by decide)] at o; exact k h' tk' [a, e] _ x o (List.Perm.swap _ _ _) (Hp.two (eLt_tot hja hc))
  ·
    simp only [List.map_cons, List.map_nil, List.nodup_cons, List.mem_cons, List.not_mem_nil, or_false, not_or] at hj
    obtain ⟨⟨hea, heb⟩, hab, _⟩ := hj
    refine repl3 C st hd hu hl hf (he e (by simp)) (hne e (by simp)) (he a (by simp)) (hne a (by simp)) (he b (by simp)) (hne b (by simp)) fun h' tk' x o => ?_
    cases h1 : pLt a.x a.j b.x b.j with
    | true =>
      rw [h1, if_pos rfl] at o
      cases h2 : pLt e.x e.j a.x a.j with
      | true => rw [h2, if_pos rfl] at o; exact k h' tk' [e, a, b] _ x o (List.Perm.refl _) (Hp.three h2 (eLt_tr h2 h1))
      | false => rw [h2, if_neg (by decide)] at o; exact k h' tk' [a, e, b] _ x o (List.Perm.swap _ _ _) (Hp.three (eLt_tot hea h2) h1)
    | false =>
      rw [h1, if_neg (by decide)] at o
      have hba : eLt b a = true := eLt_tot hab h1
      cases h2 : pLt e.x e.j b.x b.j with
      | true => rw [h2, if_pos rfl] at o; exact k h' tk' [e, a, b] _ x o (List.Perm.refl _) (Hp.three (eLt_tr h2 hba) h2)
      | false => rw [h2, if_neg (by decide)] at o; exact k h' tk' [b, a, e] _ x o (((List.Perm.swap _ _ _).trans ((List.Perm.swap _ _ _).cons _)).trans (List.Perm.swap _ _ _)) (Hp.three hba (eLt_tot heb h2))
  · exact absurd hlen (Nat.not_le_of_gt (Nat.le_add_left 3 t.length))
theorem hp_pop {es : List En} {e0 : En} (C : Cx p loose mean mg mb w (aT dp un gd outer) base outer H) (st : H.StaysIn s.heap) (hd : dp + 6 < recursionLimit) (hu : un + 60 < cLine)
    (hl : s.heap.get? lp = some (lstO (refsE (e0 :: es)) n)) (hf : H.get? lp = none) (he : EnIn s.heap es) (hne : ∀ f ∈ es, f.a ≠ lp) (hlen : es.length ≤ 2) (hj : (es.map (·.j)).Nodup)
    (k : ∀ h' tk' es' n', ExtL [lp] s.heap h' → h'.get? lp = some (lstO (refsE es') n') → es'.Perm es → Hp es' → R (.ok (.ret (.ref e0.a))) { s with heap := h', toks := tk' }) :
    codeAny (model Challenge.rw_nb0220_01.row.prog w) (aT dp un gd outer) (.call (.ref 119) ⟨[.ref lp], []⟩) R s := by
  rcases es with _ | ⟨a, _ | ⟨b, _ | ⟨c, t⟩⟩⟩
  · exact pop1 C st hd hu hl hf fun h' tk' x o => k h' tk' [] _ x o (List.Perm.refl _) trivial
  · exact pop2 C st hd hu hl hf fun h' tk' x o => k h' tk' [a] _ x o (List.Perm.refl _) (Hp.one _)
  ·
    have hja : a.j ≠ b.j := by simp only [List.map_cons, List.map_nil, List.nodup_cons, List.mem_singleton] at hj; exact hj.1
    refine pop3 C st hd hu hl hf (he b (by simp)) (hne b (by simp)) (he a (by simp)) (hne a (by simp)) fun h' tk' x o => ?_
    cases hc : pLt b.x b.j a.x a.j with
    | true => rw [hc, if_pos rfl] at o; exact k h' tk' [b, a] _ x o (List.Perm.swap _ _ _) (Hp.two hc)
    | false => rw [hc, if_neg (by decide)] at o; exact k h' tk' [a, b] _ x o (List.Perm.refl _) (Hp.two (eLt_tot (Ne.symm hja) hc))
  · exact absurd hlen (Nat.not_le_of_gt (Nat.le_add_left 3 t.length))
end
end Mine
end SU1

section SU3
namespace Mine
section
variable {prog : Program} {w : World} {A : Around} {E : Value → Shared → Prop} {s : Shared} {h₀ : Heap} {L : Addr} {m : Str → Option Value} {news : List (Addr × Obj)}
theorem key_lt_pair {l b : Addr} {x y : Str} {tx ty : Tok} {i j : Int} {t u : Tok} {n n2 : Nat} {Q : Bool → Shared → Prop}
    (hl : s.heap.get? l = some (lstO #[.str x tx, .int i t] n)) (hb : s.heap.get? b = some (lstO #[.str y ty, .int j u] n2)) (hu : A.units < cLine) (h : Q (pLt x i y j) s) :
    wpAny (model prog w) A (keyLt' oneType' (.ref l) (.ref b)) Q E s := by
  rw [keyLt'_oneType, oneLt'_eq]
  simp only [if_true]
  refine wpAny_bind (wpAny_cRoomFor hu ?_)
  refine wpAny_bind (wpAny_callSpecialIfBound?_slot ⟨_, hl, rfl⟩ F.slot_list_lt (call_meets F.slot_list_lt ⟨_, hl, rfl⟩ F.entry_list_lt (F.args_list_lt_2 _ _) (list_lt2 l b x y tx ty i j t u n n2) ⟨hl, hb, ?_⟩))
  exact wpAny_truthy_bool h
theorem sorted_one0 {l : Addr} {v : Value} {Q : Value → Shared → Prop} (F : Fr h₀ L s.heap m) (N : News h₀ L s.heap news) (hl : s.heap.IsList l #[v])
    (h : ∀ D n h', Fr h₀ L h' m → News h₀ L h' ((D, seqObj "list" #[v] n) :: news) → (∀ q ∈ news, q.1 < D) → Q (.ref D) { s with heap := h' }) :
    wpAny (model prog w) A (call (.builtin "sorted") [.ref l]) Q E s := by
  refine Calls.call_function_entry kind_sorted plain_sorted entry_sorted (args_sorted1 _) ?_
  unfold Builtin.«sorted»
  refine wpAny_bind (m := checkCount "sorted" 1 1 _) (wpAny_pure ?_)
  have hl' : s.heap.IsList l [v].toArray := hl
  refine wpAny_bind (collect_list hl' ?_ (by simp [sizeLine_eq]))
  refine wpAny_bind (wpAny_newList ?_ (by simp [sizeLine_eq]))
  have hsz : ((s.heap.push (seqObj "list" #[] 0)).update s.heap.objs.size (Obj.mapSeq (· ++ [v].toArray))).objs.size = s.heap.objs.size + 1 := by
    rw [Heap.size_update, size_push']
  have hoL : (((s.heap.push (seqObj "list" #[] 0)).update s.heap.objs.size (Obj.mapSeq (· ++ [v].toArray))).push (seqObj "list" [v].toArray 0)).get? (s.heap.objs.size + 1) = some (seqObj "list" [v].toArray 0) := by
    rw [← hsz]; exact Heap.get?_push_size _ rfl
  have keep : ∀ b o, s.heap.get? b = some o → (((s.heap.push (seqObj "list" #[] 0)).update s.heap.objs.size (Obj.mapSeq (· ++ [v].toArray))).push (seqObj "list" [v].toArray 0)).get? b = some o := fun b o q => by
    have hlt : b < s.heap.objs.size := Heap.lt_size q
    rw [Heap.get?_push_ne _ _ _ (by rw [hsz]; exact Nat.ne_of_lt (Nat.lt_succ_of_lt hlt)), Heap.get?_update_ne _ _ _ _ (Nat.ne_of_lt hlt), Heap.get?_push_ne _ _ _ (Nat.ne_of_lt hlt)]
    exact q
  have hL : L < s.heap.objs.size := F.ns.lt
  show wpAny _ _ _ _ _ { s with heap := ((s.heap.push (seqObj "list" #[] 0)).update s.heap.objs.size (Obj.mapSeq (· ++ [v].toArray))).push (seqObj "list" [v].toArray 0) }
  rw [hsz]
  refine wpAny_bind (wpAny_holding (wpAny_call_entry slot_list_sort ⟨_, hoL, rfl⟩ entry_list_sort ?body (args_list_sort _)))
  case body =>
    show wpAny (model prog w) A.in1.in1 (Builtin.«list.sort» ⟨[.ref (s.heap.objs.size + 1)], []⟩) _ _ _
    rw [list_sort_plain]
    generalize hH : ((s.heap.push (seqObj "list" #[] 0)).update s.heap.objs.size (Obj.mapSeq (· ++ [v].toArray))).push (seqObj "list" [v].toArray 0) = H at hoL keep ⊢
    have Fh : Fr h₀ L H m := F.kept keep
    have Nh : News h₀ L H news := N.grown keep
    have haL : s.heap.objs.size + 1 ≠ L := Nat.ne_of_gt (Nat.lt_succ_of_lt hL)
    have ha0 : h₀.get? (s.heap.objs.size + 1) = none := Heap.get?_none_of_le (Nat.le_trans F.above (Nat.le_succ_of_le (Nat.le_of_lt hL)))
    have hna : ∀ p ∈ news, p.1 ≠ s.heap.objs.size + 1 := fun p hp => Nat.ne_of_lt (Nat.lt_succ_of_lt (Heap.lt_size (N p hp).1))
    have ha : s.heap.objs.size + 1 < H.objs.size := Heap.lt_size hoL
    have s1 := Heap.SameBut.update H (s.heap.objs.size + 1) (Obj.mapSeq fun _ => (#[] : Array Value))
    obtain ⟨e1, ho1⟩ : ∃ e1, (H.update (s.heap.objs.size + 1) (Obj.mapSeq fun _ => (#[] : Array Value))).get? (s.heap.objs.size + 1) = some (seqObj "list" #[] e1) := ⟨_, get?_update_seq hoL fun _ => #[]⟩
    refine wpAny_bind (listItems_at hoL rfl ?_)
    refine wpAny_bind (listUpdate_at hoL rfl ?_ (by simp [sizeLine_eq]) (Nat.zero_le _))
    refine wpAny_bind (seqEpoch_at ho1 rfl ?_)
    refine wpAny_bind (wpAny_newTuple ?_)
    refine wpAny_bind (wpAny_newList ?_)
    refine wpAny_holding ?_
    have F1 := kas_fr Fh s1 haL ha0
    have N1 := kas_news Nh s1 hna
    generalize hG : H.update (s.heap.objs.size + 1) (Obj.mapSeq fun _ => (#[] : Array Value)) = G at ho1 s1 F1 N1 ⊢
    have keep2 : ∀ b o, G.get? b = some o → ((G.push (seqObj "tuple" [v].toArray 0)).push (seqObj "list" #[] 0)).get? b = some o := fun b o e => Heap.get?_push_of_some _ (Heap.get?_push_of_some _ e)
    have ho6 := keep2 _ _ ho1
    show wpAny (model prog w) _ _ _ _ { s with heap := (G.push (seqObj "tuple" [v].toArray 0)).push (seqObj "list" #[] 0) }
    generalize hI : (G.push (seqObj "tuple" [v].toArray 0)).push (seqObj "list" #[] 0) = I at keep2 ho6 ⊢
    have F2 := F1.kept keep2
    have N2 := N1.grown keep2
    dsimp only
    rw [if_pos (by simp), if_pos (by simp)]
    refine wpAny_bind (wpAny_pure ?_)
    rw [StateT.run_pure]
    refine wpAny_bind (wpAny_pure ?_)
    dsimp only
    refine wpAny_bind (seqEpoch_at ho6 rfl ?_)
    have ea : Array.map (fun x => x.2) (arrOf (SortSt.mk' general' (#[v].zip #[v]) #[] 7 none)) = #[v] := by
      show Array.map (fun x => x.2) (#[v].zip #[v]) = _
      simp
    rw [ea]
    refine wpAny_bind (listUpdate_at ho6 rfl ?_ (Nat.zero_le _) (hsz2 := by simp [sizeLine_eq]))
    simp only [bne_self_eq_false, Bool.false_eq_true, if_false]
    have s3 := Heap.SameBut.update I (s.heap.objs.size + 1) (Obj.mapSeq fun _ => (#[v] : Array Value))
    obtain ⟨e3, ho3⟩ : ∃ e3, (I.update (s.heap.objs.size + 1) (Obj.mapSeq fun _ => (#[v] : Array Value))).get? (s.heap.objs.size + 1) = some (seqObj "list" #[v] e3) := ⟨_, get?_update_seq ho6 fun _ => #[v]⟩
    refine wpAny_pure ⟨_, rfl, wpAny_pure ⟨_, rfl, h _ e3 _ (kas_fr F2 s3 haL ha0) ?_ (fun q hq => Nat.lt_succ_of_lt (Heap.lt_size (N q hq).1))⟩⟩
    refine all_cons (⟨ho3, haL, ha0⟩) fun p hp => ?_
    · exact kas_news N2 s3 hna p hp
end
end Mine
end SU3

section SU4
namespace Mine
section
variable {prog : Program} {w : World} {A : Around} {E : Value → Shared → Prop} {s : Shared} {h₀ : Heap} {L : Addr} {m : Str → Option Value} {news : List (Addr × Obj)}
theorem look_list {M : Model} {h : Heap} {l : Addr} {vs : Array Value} {n : Nat} (hl : h.get? l = some (lstO vs n)) : Looks M h (typeOf (.ref l)) (.type "list") := (Looks.ld hl).andThen .now
theorem fin_en {D : Addr} {e1 : Nat} {es : List En} {out : List Value} {C : Shared → Prop} (F : Fr h₀ L s.heap m) (N : News h₀ L s.heap ((D, seqObj "list" #[] e1) :: news)) (hl : ∀ q ∈ news, q.1 < D) (ho : out = (refsE es).toList)
    (k : ∀ h' n, Fr h₀ L h' m → News h₀ L h' ((D, listOf (refsE es) n) :: news) → C { s with heap := h' }) : KasFin h₀ L m D e1 out C s := by
  subst ho
  refine KasFin.intro F N (.head fun p hp => Nat.ne_of_lt (hl p hp)) fun h' c F' N' => k h' c F' ?_
  simpa using N'
theorem pLt_both {x y : Str} {i j : Int} (hij : i ≠ j) (h : pLt x i y j = false) (h' : pLt y j x i = false) : False := by
  rw [pLt_total hij h] at h'; cases h'
theorem pw2 {x y : En} (h : pLt x.x x.j y.x y.j = true) : [x, y].Pairwise (fun x y => eLt x y = true) := by
  simp only [List.pairwise_cons, List.mem_singleton, forall_eq, List.not_mem_nil, false_implies, implies_true, List.Pairwise.nil, and_true]
  exact h
theorem pw3 {x y z : En} (h : pLt x.x x.j y.x y.j = true) (h' : pLt y.x y.j z.x z.j = true) : [x, y, z].Pairwise (fun x y => eLt x y = true) := by
  refine List.pairwise_cons.mpr ⟨fun q hq => ?_, pw2 h'⟩
  rcases List.mem_cons.mp hq with rfl | hq
  · exact h
  · rw [List.mem_singleton.mp hq]; exact eLt_tr (b := y) h h'
theorem sorted_two {l : Addr} {a b : En} {Q : Value → Shared → Prop} (F : Fr h₀ L s.heap m) (N : News h₀ L s.heap news) (hl : s.heap.IsList l (refsE [a, b])) (ha : (a.a, a.obj) ∈ news) (hb : (b.a, b.obj) ∈ news) (hu : A.in1.in1.units < cLine) (hj : a.j ≠ b.j)
    (h : ∀ D n h' es', Fr h₀ L h' m → News h₀ L h' ((D, listOf (refsE es') n) :: news) → (∀ q ∈ news, q.1 < D) → es'.Perm [a, b] → es'.Pairwise (fun x y => eLt x y = true) → Q (.ref D) { s with heap := h' }) :
    wpAny (model prog w) A (call (.builtin "sorted") [.ref l]) Q E s := by
  refine kat_sorted (vs := [.ref a.a, .ref b.a]) F N hl (by simp) (by simp) fun D e1 h' F' N' l => ?_
  have ga : h'.get? a.a = some (lstO #[.str a.x a.tx, .int a.j a.tj] a.n) := News.get N' (.tail _ ha)
  have gb : h'.get? b.a = some (lstO #[.str b.x b.tx, .int b.j b.tj] b.n) := News.get N' (.tail _ hb)
  refine kas_kind (T := .type "list") (by simp) (fun v hv => by
    simp only [List.mem_cons, List.not_mem_nil, or_false] at hv
    rcases hv with rfl | rfl
    · exact look_list ga
    · exact look_list gb) rfl rfl ?_
  kat_step
  refine key_lt_pair gb ga hu ?_
  refine kas_split (fun h1 => ?_) (fun h1 => ?_)
  all_goals (unfold KasNext; kat_step)
  · exact fin_en (es := [b, a]) F' N' l rfl fun h9 n F9 N9 => h D n h9 _ F9 N9 l (List.Perm.swap _ _ _) (pw2 h1)
  · exact fin_en (es := [a, b]) F' N' l rfl fun h9 n F9 N9 => h D n h9 _ F9 N9 l (List.Perm.refl _) (pw2 (pLt_total (Ne.symm hj) h1))
theorem sorted_three {l : Addr} {a b c : En} {Q : Value → Shared → Prop} (F : Fr h₀ L s.heap m) (N : News h₀ L s.heap news) (hl : s.heap.IsList l (refsE [a, b, c])) (ha : (a.a, a.obj) ∈ news) (hb : (b.a, b.obj) ∈ news) (hc : (c.a, c.obj) ∈ news) (hu : A.in1.in1.units < cLine) (hab : a.j ≠ b.j) (hac : a.j ≠ c.j) (hbc : b.j ≠ c.j)
    (h : ∀ D n h' es', Fr h₀ L h' m → News h₀ L h' ((D, listOf (refsE es') n) :: news) → (∀ q ∈ news, q.1 < D) → es'.Perm [a, b, c] → es'.Pairwise (fun x y => eLt x y = true) → Q (.ref D) { s with heap := h' }) :
    wpAny (model prog w) A (call (.builtin "sorted") [.ref l]) Q E s := by
  refine kat_sorted (vs := [.ref a.a, .ref b.a, .ref c.a]) F N hl (by simp) (by simp) fun D e1 h' F' N' l => ?_
  have ga : h'.get? a.a = some (lstO #[.str a.x a.tx, .int a.j a.tj] a.n) := News.get N' (.tail _ ha)
  have gb : h'.get? b.a = some (lstO #[.str b.x b.tx, .int b.j b.tj] b.n) := News.get N' (.tail _ hb)
  have gc : h'.get? c.a = some (lstO #[.str c.x c.tx, .int c.j c.tj] c.n) := News.get N' (.tail _ hc)
  have hba := Ne.symm hab
  have hca := Ne.symm hac
  have hcb := Ne.symm hbc
  have leaf : ∀ (x y z : En) (out : List Value), out = [.ref x.a, .ref y.a, .ref z.a] → [x, y, z].Perm [a, b, c] → pLt x.x x.j y.x y.j = true → pLt y.x y.j z.x z.j = true →
      KasFin h₀ L m D e1 out (fun s3 => Q (.ref D) s3) { s with heap := h' } := fun x y z out ho hp h1 h2 =>
    fin_en (es := [x, y, z]) F' N' l ho fun h9 n F9 N9 => h D n h9 _ F9 N9 l hp (pw3 h1 h2)
  refine kas_kind (T := .type "list") (by simp) (fun v hv => by
    simp only [List.mem_cons, List.not_mem_nil, or_false] at hv
    rcases hv with rfl | rfl | rfl
    · exact look_list ga
    · exact look_list gb
    · exact look_list gc) rfl rfl ?_
  clear h F N hl F' N'
  repeat' (first
    | kat_step
    | (refine key_lt_pair (by first | exact ga | exact gb | exact gc) (by first | exact ga | exact gb | exact gc) hu ?_)
    | (with_reducible refine kas_split (fun _ => ?_) (fun _ => ?_)) <;> unfold KasNext)
  all_goals first
    | exact leaf a b c _ rfl (List.Perm.refl _) (by first | assumption | exact pLt_total (by assumption) (by assumption)) (by first | assumption | exact pLt_total (by assumption) (by assumption))
    | exact leaf a c b _ rfl ((List.Perm.swap _ _ _).cons _) (by first | assumption | exact pLt_total (by assumption) (by assumption)) (by first | assumption | exact pLt_total (by assumption) (by assumption))
    | exact leaf b a c _ rfl (List.Perm.swap _ _ _) (by first | assumption | exact pLt_total (by assumption) (by assumption)) (by first | assumption | exact pLt_total (by assumption) (by assumption))
    | exact leaf b c a _ rfl (((List.Perm.swap _ _ _).cons _).trans (List.Perm.swap _ _ _)) (by first | assumption | exact pLt_total (by assumption) (by assumption)) (by first | assumption | exact pLt_total (by assumption) (by assumption))
    | exact leaf c a b _ rfl ((List.Perm.swap _ _ _).trans ((List.Perm.swap _ _ _).cons _)) (by first | assumption | exact pLt_total (by assumption) (by assumption)) (by first | assumption | exact pLt_total (by assumption) (by assumption))
    | exact leaf c b a _ rfl (((List.Perm.swap _ _ _).trans ((List.Perm.swap _ _ _).cons _)).trans (List.Perm.swap _ _ _)) (by first | assumption | exact pLt_total (by assumption) (by assumption)) (by first | assumption | exact pLt_total (by assumption) (by assumption))
    | exact (pLt_both hbc (by assumption) (by assumption)).elim
    | exact (pLt_both hab (by assumption) (by assumption)).elim
    | exact (pLt_both hac (by assumption) (by assumption)).elim
/-- sorted(heap) -/
theorem sorted_en {l : Addr} {es : List En} {Q : Value → Shared → Prop} (F : Fr h₀ L s.heap m) (N : News h₀ L s.heap news) (hl : s.heap.IsList l (refsE es)) (he : ∀ e ∈ es, (e.a, e.obj) ∈ news) (hu : A.in1.in1.units < cLine) (h1 : 1 ≤ es.length) (h3 : es.length ≤ 3) (hj : (es.map (·.j)).Nodup)
    (h : ∀ D n h' es', Fr h₀ L h' m → News h₀ L h' ((D, listOf (refsE es') n) :: news) → (∀ q ∈ news, q.1 < D) → es'.Perm es → es'.Pairwise (fun x y => eLt x y = true) → Q (.ref D) { s with heap := h' }) :
    wpAny (model prog w) A (call (.builtin "sorted") [.ref l]) Q E s := by
  rcases es with _ | ⟨a, _ | ⟨b, _ | ⟨c, _ | ⟨d, es⟩⟩⟩⟩
  · simp at h1
  · exact sorted_one0 F N hl fun D n h' F' N' l => h D n h' [a] F' N' l (List.Perm.refl _) (List.pairwise_singleton _ _)
  · have hja : a.j ≠ b.j := by simp only [List.map_cons, List.map_nil, List.nodup_cons, List.mem_singleton] at hj; exact hj.1
    exact sorted_two F N hl (he a (by simp)) (he b (by simp)) hu hja h
  · simp only [List.map_cons, List.map_nil, List.nodup_cons, List.mem_cons, List.not_mem_nil, or_false, not_or] at hj
    exact sorted_three F N hl (he a (by simp)) (he b (by simp)) (he c (by simp)) hu hj.1.1 hj.1.2 hj.2.1 h
  · simp only [List.length_cons] at h3; omega
end
end Mine
end SU4

section SM2
namespace Mine
/-- w is a way to play x, y and z into each other -/
inductive Mx : List Nat → List Nat → List Nat → List Nat → Prop
  | nil : Mx [] [] [] []
  | a {c x y z w} : Mx x y z w → Mx (c :: x) y z (c :: w)
  | b {c x y z w} : Mx x y z w → Mx x (c :: y) z (c :: w)
  | c {c x y z w} : Mx x y z w → Mx x y (c :: z) (c :: w)
theorem Mx.ab {x y z w} (h : Mx x y z w) : Mx y x z w := by induction h with
  | nil => exact .nil
  | a _ ih => exact .b ih
  | b _ ih => exact .a ih
  | c _ ih => exact .c ih
theorem Mx.bc {x y z w} (h : Mx x y z w) : Mx x z y w := by induction h with
  | nil => exact .nil
  | a _ ih => exact .a ih
  | b _ ih => exact .c ih
  | c _ ih => exact .b ih
theorem Mx.any : ∀ x y z, ∃ w, Mx x y z w
  | [], [], [] => ⟨_, .nil⟩
  | [], [], k :: z => let ⟨_, h⟩ := Mx.any [] [] z; ⟨_, .c h⟩
  | [], k :: y, z => let ⟨_, h⟩ := Mx.any [] y z; ⟨_, .b h⟩
  | k :: x, y, z => let ⟨_, h⟩ := Mx.any x y z; ⟨_, .a h⟩
theorem cons_lt {a b : Nat} {x y : List Nat} : a :: x < b :: y ↔ a < b ∨ (a = b ∧ x < y) := List.cons_lt_cons_iff
noncomputable abbrev le (x y : List Nat) : Prop := ¬ y < x
theorem le.refl (x : List Nat) : le x x := l_irr x
theorem le.trans {x y z : List Nat} (h : le x y) (h' : le y z) : le x z := fun q => by
  rcases l_tri x y with h1 | h1 | h1
  · exact h' (l_trans q h1)
  · subst h1; exact h' q
  · exact h h1
theorem le_of_lt {x y : List Nat} (h : x < y) : le x y := fun q => l_irr _ (l_trans h q)
theorem le.anti {x y : List Nat} (h : le x y) (h' : le y x) : x = y := by
  rcases l_tri x y with h1 | h1 | h1
  · exact absurd h1 h'
  · exact h1
  · exact absurd h1 h
theorem le.cons {c : Nat} {x y : List Nat} (h : le x y) : le (c :: x) (c :: y) := fun q => by
  rw [cons_lt] at q
  rcases q with q | ⟨_, q⟩
  · exact Nat.lt_irrefl _ q
  · exact h q
theorem le.uncons {c : Nat} {x y : List Nat} (h : le (c :: x) (c :: y)) : le x y := fun q => h (cons_lt.mpr (.inr ⟨rfl, q⟩))
theorem le_head {a b : Nat} {x y : List Nat} (h : a < b) : le (a :: x) (b :: y) := le_of_lt (cons_lt.mpr (.inl h))

theorem exch {t2 s2 : List Nat} (hd : t2 = [] ∨ ∃ l s3 k t3, s2 = l :: s3 ∧ t2 = k :: t3 ∧ l < k) :
    ∀ (w X Y r d g : List Nat), Mx X Y r w → X = d ++ (g ++ s2) → Y = g ++ t2 → ∃ w', Mx (d ++ (g ++ t2)) (g ++ s2) r w' ∧ le w' w := by
  intro w X Y r d g h
  induction h generalizing d g with
  | nil =>
    intro e1 e2
    have e1 := e1.symm; have e2 := e2.symm
    simp only [List.append_eq_nil_iff] at e1 e2
    obtain ⟨rfl, rfl, rfl⟩ := e1
    obtain ⟨_, rfl⟩ := e2
    exact ⟨[], .nil, le.refl _⟩
  | @a c x y z w h ih =>
    intro e1 e2
    cases d with
    | nil =>
      subst e2
      rw [List.nil_append] at e1 ⊢
      exact ⟨c :: w, (e1 ▸ Mx.a h).ab, le.refl _⟩
    | cons e d =>
      rw [List.cons_append] at e1
      injection e1 with e1 e3
      subst e1
      obtain ⟨w', m, l⟩ := ih d g e3 e2
      exact ⟨c :: w', .a m, l.cons⟩
  | @b c x y z w h ih =>
    intro e1 e2
    cases g with
    | nil =>
      rw [List.nil_append] at e2
      rcases hd with rfl | ⟨l, s3, k, t3, rfl, rfl, hlk⟩
      · cases e2
      · injection e2 with e2 e3
        subst e2
        obtain ⟨w', hw'⟩ := Mx.any (d ++ ([] ++ c :: t3)) s3 z
        exact ⟨l :: w', .b hw', le_head hlk⟩
    | cons e g =>
      rw [List.cons_append] at e2
      injection e2 with e2 e3
      subst e2
      obtain ⟨w', m, l⟩ := ih (d ++ [c]) g (by rw [e1]; simp) e3
      refine ⟨c :: w', ?_, l.cons⟩
      have m' : Mx (d ++ (c :: g ++ t2)) (g ++ s2) z w' := by
        have : d ++ [c] ++ (g ++ t2) = d ++ (c :: g ++ t2) := by simp
        rw [← this]; exact m
      exact Mx.b m'
  | @c c x y z w h ih =>
    intro e1 e2
    obtain ⟨w', m, l⟩ := ih d g e1 e2
    exact ⟨c :: w', .c m, l.cons⟩

theorem split_at : ∀ (s t : List Nat), (∀ c ∈ s, c < 126) → (∀ c ∈ t, c < 126) → le (s ++ [126]) (t ++ [126]) →
    ∃ g s2 t2, s = g ++ s2 ∧ t = g ++ t2 ∧ (t2 = [] ∨ ∃ l s3 k t3, s2 = l :: s3 ∧ t2 = k :: t3 ∧ l < k)
  | [], [], _, _, _ => ⟨[], [], [], rfl, rfl, .inl rfl⟩
  | [], k :: t, _, ht, h => absurd (cons_lt.mpr (.inl (ht k (.head _)))) h
  | l :: s, [], _, _, _ => ⟨[], l :: s, [], rfl, rfl, .inl rfl⟩
  | l :: s, k :: t, hs, ht, h => by
    rcases Nat.lt_trichotomy l k with q | rfl | q
    · exact ⟨[], l :: s, k :: t, rfl, rfl, .inr ⟨l, s, k, t, rfl, rfl, q⟩⟩
    · obtain ⟨g, s2, t2, e1, e2, e3⟩ := split_at s t (fun c hc => hs c (.tail _ hc)) (fun c hc => ht c (.tail _ hc)) (le.uncons h)
      exact ⟨l :: g, s2, t2, by rw [e1]; rfl, by rw [e2]; rfl, e3⟩
    · exact absurd (cons_lt.mpr (.inl q)) h

/-- a way that begins with the second row is no better than one that begins with the first, if the first is the lesser -/
theorem greedy2 {c k : Nat} {s t r w : List Nat} (hs : ∀ x ∈ c :: s, x < 126) (ht : ∀ x ∈ k :: t, x < 126) (h : le (c :: s ++ [126]) (k :: t ++ [126])) (m : Mx (c :: s) t r w) :
    ∃ w', Mx s (k :: t) r w' ∧ le (c :: w') (k :: w) := by
  rcases Nat.lt_trichotomy c k with q | rfl | q
  · obtain ⟨w', hw'⟩ := Mx.any s (k :: t) r
    exact ⟨w', hw', le_head q⟩
  · obtain ⟨g, s2, t2, rfl, rfl, e3⟩ := split_at s t (fun x hx => hs x (.tail _ hx)) (fun x hx => ht x (.tail _ hx)) (le.uncons h)
    obtain ⟨w', m', l'⟩ := exch e3 w (c :: (g ++ s2)) (g ++ t2) r [c] g m rfl rfl
    exact ⟨w', m'.ab, l'.cons⟩
  · exact absurd (cons_lt.mpr (.inl q)) h

noncomputable def Lst (x y z w : List Nat) : Prop := Mx x y z w ∧ ∀ w', Mx x y z w' → le w w'
theorem Lst.uniq {x y z w w' : List Nat} (h : Lst x y z w) (h' : Lst x y z w') : w = w' := le.anti (h.2 _ h'.1) (h'.2 _ h.1)
theorem Lst.ab {x y z w : List Nat} (h : Lst x y z w) : Lst y x z w := ⟨h.1.ab, fun w' m => h.2 w' m.ab⟩
theorem Lst.bc {x y z w : List Nat} (h : Lst x y z w) : Lst x z y w := ⟨h.1.bc, fun w' m => h.2 w' m.bc⟩
/-- the step of the greedy merge -/
theorem Lst.step {c : Nat} {x y z w : List Nat} (hx : ∀ q ∈ c :: x, q < 126) (hy : ∀ q ∈ y, q < 126) (hz : ∀ q ∈ z, q < 126) (h1 : y ≠ [] → le (c :: x ++ [126]) (y ++ [126])) (h2 : z ≠ [] → le (c :: x ++ [126]) (z ++ [126]))
    (h : Lst x y z w) : Lst (c :: x) y z (c :: w) := by
  refine ⟨.a h.1, fun w' m => ?_⟩
  cases m with
  | a m => exact (h.2 _ m).cons
  | b m =>
    obtain ⟨w2, m2, l2⟩ := greedy2 hx hy (h1 (by simp)) m
    exact le.trans (h.2 _ m2).cons l2
  | c m =>
    obtain ⟨w2, m2, l2⟩ := greedy2 hx hz (h2 (by simp)) m.bc
    exact le.trans (h.2 _ m2.bc).cons l2
theorem Lst.nil : Lst [] [] [] [] := ⟨.nil, fun w' m => by cases m; exact le.refl _⟩
end Mine
end SM2

section SM3
namespace Mine
theorem Lst.of_ways {x y z v : List Nat} {ws : List (List Nat)} (hv : v ∈ ws) (hmin : ∀ u ∈ ws, le v u) (hmem : ∀ u ∈ ws, Mx x y z u)
    (hx : ∀ c x', x = c :: x' → ∃ w, Lst x' y z w ∧ c :: w ∈ ws) (hy : ∀ c y', y = c :: y' → ∃ w, Lst x y' z w ∧ c :: w ∈ ws) (hz : ∀ c z', z = c :: z' → ∃ w, Lst x y z' w ∧ c :: w ∈ ws) : Lst x y z v := by
  refine ⟨hmem v hv, fun w' m => ?_⟩
  cases m with
  | nil =>
    have := hmem v hv
    cases this
    exact le.refl _
  | a m => obtain ⟨w, l, hw⟩ := hx _ _ rfl; exact le.trans (hmin _ hw) (l.2 _ m).cons
  | b m => obtain ⟨w, l, hw⟩ := hy _ _ rfl; exact le.trans (hmin _ hw) (l.2 _ m).cons
  | c m => obtain ⟨w, l, hw⟩ := hz _ _ rfl; exact le.trans (hmin _ hw) (l.2 _ m).cons
end Mine
end SM3

section SJ1
namespace Mine
noncomputable def strVs (xs : List (Str × Tok)) : Array Value := (xs.map fun p => Value.str p.1 p.2).toArray
theorem strVs_size (xs : List (Str × Tok)) : (strVs xs).size = xs.length := by simp [strVs]
theorem strVs_at {xs : List (Str × Tok)} {i : Nat} {v : Value} (h : (strVs xs)[i]? = some v) : ∃ p, xs[i]? = some p ∧ v = .str p.1 p.2 := by
  simp only [strVs, List.getElem?_toArray, List.getElem?_map, Option.map_eq_some_iff] at h
  obtain ⟨p, h1, h2⟩ := h
  exact ⟨p, h1, h2.symm⟩
noncomputable def cpsAt (xs : List (Str × Tok)) (i : Nat) : List Nat := (xs[i]?.map fun p => p.1.cps.toList).getD []
theorem argBest_le (bt : Nat → Nat → Bool) : ∀ k, argBest bt k ≤ k
  | 0 => Nat.le_refl _
  | k + 1 => by
    unfold argBest
    split
    · exact Nat.le_refl _
    · exact Nat.le_succ_of_le (argBest_le bt k)
theorem argBest_min (f : Nat → List Nat) : ∀ k i, i ≤ k → le (f (argBest (fun i j => decide (f i < f j)) k)) (f i)
  | 0, i, h => by rw [Nat.le_zero.mp h]; exact le.refl _
  | k + 1, i, h => by
    unfold argBest
    split
    · rename_i hc
      have hc := of_decide_eq_true hc
      rcases Nat.lt_or_eq_of_le h with h | rfl
      · exact le.trans (le_of_lt hc) (argBest_min f k i (Nat.le_of_lt_succ h))
      · exact le.refl _
    · rename_i hc
      have hc : ¬ f (k + 1) < f (argBest (fun i j => decide (f i < f j)) k) := fun q => hc (decide_eq_true q)
      rcases Nat.lt_or_eq_of_le h with h | rfl
      · exact argBest_min f k i (Nat.le_of_lt_succ h)
      · exact hc
section
variable {prog : Program} {w : World} {A : Around} {E : Value → Shared → Prop} {s : Shared}
theorem min_strs {l : Addr} {n : Nat} {xs : List (Str × Tok)} {Q : Value → Shared → Prop} (hh : A.handled = none) (hl : s.heap.get? l = some (lstO (strVs xs) n)) (hne : xs ≠ [])
    (h : ∀ p h' tk, p ∈ xs → (∀ q ∈ xs, le p.1.cps.toList q.1.cps.toList) → (∀ b o, s.heap.get? b = some o → h'.get? b = some o) → Q (.str p.1 p.2) { s with heap := h', toks := tk }) :
    wpAny (model prog w) A (call (.builtin "min") [.ref l]) Q E s := by
  have hlt : l < s.heap.objs.size := Heap.lt_size hl
  have hlen : 0 < xs.length := List.length_pos_iff.mpr hne
  refine call_min_walk (wpAny_pyIter_list ⟨_, hl, rfl, _, rfl⟩ ?_)
  refine ex7 s.heap.objs.size _ _ _ _ _ (fun i j => decide (cpsAt xs i < cpsAt xs j)) ⟨rfl, Walks.list (A := A.in1) hh s.heap.objs.size l (Nat.ne_of_lt hlt) (strVs xs), ⟨⟨_, Heap.get?_push_size _ rfl, rfl, rfl⟩, ⟨_, Heap.get?_push_of_some _ hl, rfl, _, rfl⟩⟩, ?_, by rw [strVs_size]; exact hlen, ?_, ?_⟩
  · intro b hb
    show b < (s.heap.push _).objs.size
    rw [Heap.size_push]
    rcases List.mem_cons.mp hb with rfl | hb
    · exact Nat.lt_succ_self _
    · rw [List.mem_singleton.mp hb]; exact Nat.lt_succ_of_lt hlt
  · intro i j vi vj s' Q' E' hi hj hQ
    obtain ⟨p, hp, rfl⟩ := strVs_at hi
    obtain ⟨q, hq, rfl⟩ := strVs_at hj
    refine rc_lt_str ?_
    simpa [cpsAt, hp, hq] using hQ
  · intro v h' tk hv hk
    rw [strVs_size] at hv
    obtain ⟨p, hp, rfl⟩ := strVs_at hv
    refine h p h' tk (List.mem_of_getElem? hp) (fun q hq => ?_) (fun b o e => hk b o (fun hm => ?_) (Heap.get?_push_of_some _ e))
    · obtain ⟨i, hi, hq⟩ := List.mem_iff_getElem.mp hq
      have := argBest_min (cpsAt xs) (xs.length - 1) i (by omega)
      have e1 : cpsAt xs (argBest (fun i j => decide (cpsAt xs i < cpsAt xs j)) (xs.length - 1)) = p.1.cps.toList := by
        unfold cpsAt at hp ⊢; rw [hp]; rfl
      have e2 : cpsAt xs i = q.1.cps.toList := by simp [cpsAt, List.getElem?_eq_getElem hi, hq]
      rwa [e1, e2] at this
    · rw [List.mem_singleton.mp hm] at e
      exact Nat.lt_irrefl _ (Heap.lt_size e)
/-- a for over a range, by an invariant over the number of turns done -/
theorem for_rng {target : Expr} {body : List Stmt} {env : Env} {R : Result → Shared → Prop} {I : Addr} (a c : Int) (N : Nat) (J : Nat → Shared → Prop) (hh : A.handled = none)
    (hI : ∀ k s, J k s → s.heap.get? I = some (ritO (a + c * k) ((N : Int) - k) c))
    (turn : ∀ k s h', k < N → J k s → h'.get? I = some (ritO (a + c * (k + 1 : Nat)) ((N : Int) - (k + 1 : Nat)) c) → Heap.SameBut I s.heap h' →
      wpAny (model prog w) A (letOwnedTupleGo target (.ref I) (.int (a + c * k) s.toks)) (fun _ s₁' => wpAny (model prog w) A (assign target env (.int (a + c * k) s.toks)) (fun _ s₂ => wpAny (model prog w) A (execs body env) (fun f s₃ => (match f with | .next | .cont => J (k + 1) s₃ | .brk => R (.ok .next) s₃ | .ret v => R (.ok (.ret v)) s₃))
        (notedBy (model prog w) A env fun e s' => R (.error e) s') s₂) (notedBy (model prog w) A env fun e s' => R (.error e) s') s₁') (notedBy (model prog w) A env fun e s' => R (.error e) s') { s with heap := h', toks := s.toks + 1 })
    (done : ∀ s h', J N s → Heap.ExtBut I s.heap h' → R (.ok .next) { s with heap := h' }) :
    ∀ (n k : Nat) (s : Shared), k + n = N → J k s → codeAny (model prog w) A (.forLoop target (.ref I) body [] env) R s
  | 0, k, s, e, j => by
    have i1 := hI k s j
    have ek : k = N := by omega
    subst ek
    refine for_turn (wpAny_pyNext_range_end hh i1 (by omega) fun h' e' => done s h' j e')
  | n + 1, k, s, e, j => by
    have i1 := hI k s j
    have hk : k < N := by omega
    refine for_turn (wpAny_pyNext_range_item i1 (by omega) fun h' e' sb => ?_)
    have e1 : a + c * (k : Int) + c = a + c * ((k + 1 : Nat) : Int) := by push_cast; rw [Int.mul_add]; omega
    have e2 : (N : Int) - k - 1 = (N : Int) - ((k + 1 : Nat) : Int) := by push_cast; omega
    rw [e1, e2] at e'
    refine wpAny_mono (turn k s h' hk j e' sb) (fun _ s₁ h₁ => wpAny_mono h₁ (fun _ s₂ h₂ => wpAny_mono h₂ (fun f s₃ h₃ => ?_) fun _ _ x => x) fun _ _ x => x) fun _ _ x => x
    cases f with
    | next => exact for_rng a c N J hh hI turn done n (k + 1) s₃ (by omega) h₃
    | cont => exact for_rng a c N J hh hI turn done n (k + 1) s₃ (by omega) h₃
    | brk => exact h₃
    | ret v => exact h₃
theorem ne_nilK {l e : Addr} {vs : Array Value} {n k : Nat} {Q : Value → Shared → Prop} (hl : s.heap.get? l = some (lstO vs n)) (he : s.heap.get? e = some (lstO #[] k)) (hu : A.units < cLine) (h : Q (.bool (!vs.isEmpty)) s) :
    wpAny (model prog w) A (compareOp .NotEq (.ref l) (.ref e)) Q E s := by
  by_cases hv : vs.size = 0
  · have hv' : vs = #[] := Array.eq_empty_of_size_eq_zero hv
    subst hv'
    exact PySem.SeqAt.RcNeAt.lists (items := #[]) (items2 := #[]) (e := fun _ => true) ⟨_, hl, rfl, _, rfl⟩ ⟨_, he, rfl, _, rfl⟩ rfl hu (fun j h1 => absurd h1 (Nat.not_lt_zero _)) prog w E Q h
  · have hb : (!vs.isEmpty) = true := by simp [Array.isEmpty, hv]
    rw [hb] at h
    exact PySem.SeqAt.RcNeAt.lists_lengths (items := vs) (items2 := #[]) ⟨_, hl, rfl, _, rfl⟩ ⟨_, he, rfl, _, rfl⟩ (by simpa using hv) hu prog w E Q h
end
end Mine
end SJ1

section SW3
namespace Mine
theorem slicePick_to (vs : Array Value) (i : Nat) : slicePick vs none (some (i : Int)) none = (vs.toList.take i).toArray := by
  have e1 : sliceBounds none (some (i : Int)) none vs.size = (((0 : Nat) : Int), ((min i vs.size : Nat) : Int), 1) := by
    simp only [sliceBounds, Option.getD_none]
    have : ¬ ((i : Int) < 0) := by omega
    simp only [this, if_false, show (1 : Int) > 0 by decide, if_true]
    congr 2
    omega
  unfold slicePick
  rw [e1]
  simp only [sliceRange_one, pick_run, List.drop_zero, Nat.sub_zero]
  congr 1
  rw [show vs.size = vs.toList.length from (by simp), ← List.take_eq_take_min]
section
variable {prog : Program} {A : Around} {E : Value → Shared → Prop} {w : World} {s : Shared} {x : Addr} {vs : Array Value} {n : Nat} {vl vu : Value} {lo hi : Option Int} {h₀ : Heap} {L : Addr} {m : Str → Option Value} {news : List (Addr × Obj)}
theorem lst_slice_K {value slice : Expr} {ops : List Value} {its : Array Value} {Q : Value → Shared → Prop} (F : Fr h₀ L s.heap m) (N : News h₀ L s.heap news) (hx : s.heap.get? x = some (lstO vs n))
    (pl : IsPart vl lo) (pu : IsPart vu hi) (hsz : vs.size ≤ sizeLine) (e : slicePick vs lo hi none = its)
    (hsub : subscripted slice false (.ref x) (.ref s.heap.objs.size) = operate ops (getItem (.ref x) (.ref s.heap.objs.size)))
    (h : ∀ l h', Fr h₀ L h' m → News h₀ L h' ((l, listOf its 0) :: news) → (∀ p ∈ news, p.1 < l) → Q (.ref l) { s with heap := h' }) :
    wpAny (model prog w) A (subscriptTail value slice (.ref x) (.ref s.heap.objs.size)) Q E { s with heap := s.heap.push (slO vl vu) } := by
  subst e
  obtain ⟨F1, N1, l1⟩ := ks_newsPush (s := s) (o := slO vl vu) F N rfl (Heap.get?_push_at rfl rfl) (fun b o e => Heap.get?_push_of_some _ e)
  refine tail_any (s := { s with heap := s.heap.push (slO vl vu) }) (T := "list") ⟨_, Heap.get?_push_of_some _ hx, rfl⟩ slot_list_getitem.lookup (wpAny_getItem_list_slice (s := { s with heap := s.heap.push (slO vl vu) }) (items := vs) ⟨_, Heap.get?_push_of_some _ hx, rfl, _, rfl⟩ ⟨_, (N1 _ (.head _)).1, rfl, rfl⟩ pl pu .none (by simp) ?_ hsz) hsub
  obtain ⟨F', N', l'⟩ := ks_newsPush (s := { s with heap := s.heap.push (slO vl vu) }) (o := listOf (slicePick vs lo hi none) 0) F1 N1 rfl (Heap.get?_push_at rfl rfl) (fun b o e => Heap.get?_push_of_some _ e)
  exact h _ _ F' (fun p hp => N' p (by cases hp with | head => exact .head _ | tail _ hp => exact .tail _ (.tail _ hp))) (fun p hp => l' p (.tail _ hp))
end
section
variable {prog : Program} {w : World} {A : Around} {E : Value → Shared → Prop} {s : Shared} {h₀ : Heap} {L l : Addr} {m : Str → Option Value} {news : List (Addr × Obj)} {vs : Array Value} {nl : Nat} {env : Env} {scope : Scope} {cl : List (Str × Addr)} {x y : Str} {ifs : List Expr} {elt : Expr}
noncomputable def CompGo (prog : Program) (w : World) (A : Around) (env : Env) (scope : Scope) (cl : List (Str × Addr)) (x : Str) (ifs : List Expr) (elt : Expr) (p : Value → Bool) (G : Value → Value → Prop) (Q : Value → Shared → Prop) (E : Value → Shared → Prop) (xv : Value) (s : Shared) : Prop :=
  wpAny (model prog w) A (pyIter xv) (fun it s₂ => ∃ I fp wr n P St, it = .ref I ∧ Walks prog w A I fp wr n P St ∧ n ≤ sizeLine ∧ St 0 s₂.heap ∧ (∀ b ∈ fp, b < s₂.heap.objs.size) ∧
      QuietOnC prog w A env scope cl x ifs elt wr P p G s₂ ∧
      (∀ D h' tk ys (vs : List Value), s₂.heap.get? D = none → h'.IsList D ys → h'.PlainList D ys → vs.length = n → (∀ j v, vs[j]? = some v → P j v) → Paired G (vs.filter p) ys.toList →
        (∀ b o, b ∉ wr → s₂.heap.get? b = some o → h'.get? b = some o) → Q (.ref D) { s₂ with heap := h', toks := tk })) E s
theorem comp_go {iter : Expr} {px pos : Pos} {Q : Value → Shared → Prop} (p : Value → Bool) (G : Value → Value → Prop)
    (hclos : closureFor scope env = pure cl) (hcell : ∀ y ∈ scope.names, y.2 ≠ .cell) (hkind : scope.kind = .function)
    (hnames : ∀ y ∈ scope.names, y.2 = .local → scope.names.lookup y.1 = some .local) (hx : scope.names.lookup x = some .local)
    (h : wpAny (model prog w) A (eval iter env) (fun xv s₁ => CompGo prog w A env scope cl x ifs elt p G Q E xv s₁) E s) (hs : ∀ x, foldedSetIterable iter env x = pure x := by intro _; rfl) :
    wpAny (model prog w) A (eval (.ListComp elt [⟨.Name x px, iter, ifs, 0⟩] scope pos) env) Q E s := wpAny_ListComp_free p G hclos hcell hkind hnames hx h hs
theorem comp_gone {Q : Value → Shared → Prop} (p : Value → Bool) (G : Value → Value → Prop) (hh : A.handled = none) (F : Fr h₀ L s.heap m) (N : News h₀ L s.heap news) (hl : s.heap.get? l = some (lstO vs nl)) (hsz : vs.size ≤ sizeLine)
    (hq : QuietOnC prog w A env scope cl x ifs elt [s.heap.objs.size] (fun i v => vs[i]? = some v) p G { s with heap := s.heap.push (litO l 0) })
    (hQ : ∀ D h' tk ys n', Fr h₀ L h' m → News h₀ L h' ((D, lstO ys n') :: news) → (∀ q ∈ news, q.1 ≠ D) → Paired G (vs.toList.filter p) ys.toList → Q (.ref D) { s with heap := h', toks := tk }) :
    CompGo prog w A env scope cl x ifs elt p G Q E (.ref l) s := compV p G hh F N hl hsz hq hQ
end
theorem fr_back {g h : Heap} {L : Addr} {m : Str → Option Value} {x : Str} {v : Value} (F : Fr g L h (fun y => if y = x then some v else m y)) (e : m x = some v) : Fr g L h m := by
  have : (fun y => if y = x then some v else m y) = m := by
    funext y
    by_cases hy : y = x
    · rw [if_pos hy, hy]; exact e.symm
    · rw [if_neg hy]
  exact this ▸ F
noncomputable def En.kp (e : En) : KP := (e.x, e.j)
theorem head_eq {ws : List Rw} {e0 : En} {es : List En} {K : List KP} (hF : Fst2 (ws.map Rw.kp) K) (hp : ((e0 :: es).map En.kp).Perm K) (hH : Hp (e0 :: es)) : ∃ r0 ws', ws = r0 :: ws' ∧ r0.kp = e0.kp := by
  have hK : 0 < K.length := by rw [← hp.length_eq]; simp
  match ws, hF with
  | [], hF =>
    obtain ⟨_, _, hl, _⟩ := hF
    simp only [List.map_nil, List.length_nil] at hl
    omega
  | r0 :: ws', hF =>
    refine ⟨r0, ws', rfl, ?_⟩
    have h0 : e0.kp ∈ K := hp.subset (.head _)
    rw [List.map_cons] at hF
    rcases hF.head h0 with h | h
    · exact h.symm
    · have hr : r0.kp ∈ K := by
        obtain ⟨rest, pm, _⟩ := hF
        exact pm.subset (.head _)
      rcases List.mem_cons.mp (hp.symm.subset hr) with h' | h'
      · exact h'
      · obtain ⟨f, hf, e⟩ := List.mem_map.mp h'
        have : kLt e0.kp r0.kp := by rw [← e]; exact hH f hf
        exact (kLt_irr (kLt_tr h this)).elim
theorem second_eq {ws : List Rw} {es so : List En} {K : List KP} (hF : Fst2 (ws.map Rw.kp) K) (hp : (es.map En.kp).Perm K) (hs : so.Perm es) (ho : so.Pairwise (fun x y => eLt x y = true)) : ws.map Rw.kp = (so.take 2).map En.kp := by
  have h2 : Fst2 ((so.map En.kp).take 2) K := Fst2.take ((hs.map En.kp).trans hp) (List.pairwise_map.mpr (ho.imp fun h => h))
  rw [hF.uniq h2 (List.Perm.refl _), List.map_take]
noncomputable def jsE (es : List En) : Array Value := (es.map fun e => Value.int e.j e.tj).toArray
theorem paired_jsE {xs es : List En} (hw : ∀ e ∈ xs, e ∈ es) (hn : (es.map (·.a)).Nodup) : ∀ {b : List Value}, Paired (fun v y => ∃ e ∈ es, v = .ref e.a ∧ y = .int e.j e.tj) (xs.map fun e => Value.ref e.a) b → b = xs.map fun e => Value.int e.j e.tj := by
  induction xs with
  | nil => intro b h; cases h; rfl
  | cons r ws ih =>
    intro b h
    rw [List.map_cons] at h
    cases h with
    | cons e h =>
      obtain ⟨r', hr', e1, e2⟩ := e
      have hrr : r = r' := by
        have hr := hw r (.head _)
        obtain ⟨i, hi, rfl⟩ := List.mem_iff_getElem.mp hr
        obtain ⟨j, hj, rfl⟩ := List.mem_iff_getElem.mp hr'
        have := (List.getElem_inj (xs := es.map (·.a)) hn (h₀ := by simpa using hi) (h₁ := by simpa using hj)).mp (by simpa using e1)
        subst this; rfl
      subst hrr
      rw [e2, ih (fun q hq => hw q (.tail _ hq)) h]
      rfl
theorem ne_ints {prog : Program} {w : World} {A : Around} {E : Value → Shared → Prop} {s : Shared} {l b : Addr} {xs : List Rw} {ys : List En} {n k : Nat} {Q : Value → Shared → Prop} (hl : s.heap.get? l = some (lstO (jsV xs) n)) (hb : s.heap.get? b = some (lstO (jsE ys) k)) (hu : A.units < cLine)
    (he : xs.map (·.j) = ys.map (·.j)) (h : Q (.bool false) s) : wpAny (model prog w) A (compareOp .NotEq (.ref l) (.ref b)) Q E s := by
  have hlen : xs.length = ys.length := by simpa using congrArg List.length he
  have e1 : (jsV xs).size = xs.length := by simp [jsV]
  have e2 : (jsE ys).size = ys.length := by simp [jsE]
  have := PySem.SeqAt.RcNeAt.lists (A := A) (s := s) (items := jsV xs) (items2 := jsE ys) (e := fun _ => true) ⟨_, hl, rfl, _, rfl⟩ ⟨_, hb, rfl, _, rfl⟩ (by rw [e1, e2, hlen]) hu (fun j h1 h2 => by
    have h1' : j < xs.length := by omega
    have h2' : j < ys.length := by omega
    have g1 : (jsV xs)[j] = .int xs[j].j xs[j].tj := by simp [jsV]
    have g2 : (jsE ys)[j] = .int ys[j].j ys[j].tj := by simp [jsE]
    rw [g1, g2]
    have hj : xs[j].j = ys[j].j := by
      have := congrArg (fun z => z[j]?) he
      simpa [List.getElem?_eq_getElem h1', List.getElem?_eq_getElem h2'] using this
    have := (PySem.MeetsSeq.EqGives.int xs[j].j ys[j].j xs[j].tj ys[j].tj).at A.in1 s
    rw [hj] at this ⊢
    simpa using this) prog w E Q
  refine this ?_
  have ea : ((List.range (jsV xs).size).all fun _ => true) = true := by simp
  rw [ea]; exact h
theorem check_ok {p : Program} {loose : List Str} {mean : ExcName → Option Value} {mg mb : Str → Option Value} {w : World} {dp un : Nat} {gd : Option (List Code)} {outer : List Env} {base g : Heap} {s : Shared} {E : Value → Shared → Prop} {Q : Flow → Shared → Prop}
    {name qual : Str} {params : Arguments} {body : List Stmt} {S : Stmt} {scope : Scope} {cl : List (Str × Addr)} {dV kV doc pm cdv ct oc : Value} {an od : Option Addr} {osl : Array (Option Value)} {L : Addr}
    (ho : (k0.heap_1 w.params).lookup 205 = some ⟨oc, od, .func (fnX name qual params body scope cl dV kV doc pm an cdv ct), osl⟩) (hS : S = stAt (whileBody body 8) 3)
    {m : Str → Option Value} {D hA : Addr} {nD nh : Nat} {ws : List Rw} {e0 : En} {es : List En} {K : List KP} {news : List (Addr × Obj)}
    (Bl : Below (aT dp un gd outer) base outer g) (X : (k0.heap_1 w.params).In g) (T : Top p loose mean mg mb g) (hd : dp + 28 < recursionLimit) (hu : un + 280 < cLine)
    (F : Fr g L s.heap m) (N : News g L s.heap news) (e1 : m (Str.ofString "first") = some (.ref D)) (e2 : m (Str.ofString "place") = some (.int e0.j e0.tj)) (e3 : m (Str.ofString "heap") = some (.ref hA))
    (hD : (D, lstO (jsV ws) nD) ∈ news) (hh : (hA, lstO (refsE (e0 :: es)) nh) ∈ news) (he : ∀ e ∈ e0 :: es, (e.a, e.obj) ∈ news) (h3 : es.length ≤ 2) (hH : Hp (e0 :: es)) (hj : ((e0 :: es).map (·.j)).Nodup) (hea : ((e0 :: es).map (·.a)).Nodup)
    (hF : Fst2 (ws.map Rw.kp) K) (hp : ((e0 :: es).map En.kp).Perm K)
    (kont : ∀ h tk, Fr g L h m → News g L h news → Q .next { s with heap := h, toks := tk }) :
    wpAny (model Challenge.rw_nb0220_01.row.prog w) ((aT dp un gd outer).deeper (envX qual scope L 205 cdv cl)) (exec S (envX qual scope L 205 cdv cl)) Q E s := by
  w_on
  refine fn_exec (fun b => stAt (whileBody b 8) 3) hS (law_eq ho) ?_
  conv in (stAt _ _) => whnf
  conv in (lawScope _) => whnf
  have F0 := F
  obtain ⟨r0, ws', rfl, hk0⟩ := head_eq hF hp hH
  have hj0 : r0.j = e0.j := congrArg Prod.snd hk0
  replace F := fr_at F e1
  replace F := fr_at F (x := Str.ofString "place") (v := .int e0.j e0.tj) (if_skip (by decide) e2)
  replace F := fr_at F (x := Str.ofString "heap") (v := .ref hA) (if_skip (by decide) (if_skip (by decide) e3))
  clear F0
  iterate 6 walk1
  refine item_at (v := .int r0.j r0.tj) (News.get N hD) (by decide) (by decide) rfl ?_
  rw [hj0]
  iterate 5 walk1
  · exact absurd (rfl : e0.j = e0.j) (by assumption)
  iterate 3 walk1
  refine comp_go (fun _ => true) (fun v y => ∃ e ∈ e0 :: es, v = .ref e.a ∧ y = .int e.j e.tj) (by with_unfolding_all rfl) (by decide) rfl (by decide) rfl ?_
  iterate 7 walk1
  refine sorted_en F N ⟨_, News.get N hh, rfl, _, rfl⟩ he (by show un + 3 + 1 + 1 < cLine; omega) (by simp) (by simp; omega) hj ?_
  intro S9 n9 h9 so F9 N9 l9 hp9 hs9
  have hsl : so.length = es.length + 1 := by simpa using hp9.length_eq
  have hsz : (refsE so).size ≤ sizeLine := by
    rw [show (refsE so).size = so.length by simp [refsE], sizeLine_eq]
    omega
  have hsz2 : (refsE (so.take 2)).size ≤ sizeLine := by
    rw [show (refsE (so.take 2)).size = (so.take 2).length by simp [refsE], sizeLine_eq, List.length_take]
    omega
  clear F N
  iterate 5 walk1
  refine lst_slice_K (x := S9) (vs := refsE so) (news := (S9, listOf (refsE so) n9) :: news) (by exact F9) (by exact N9) (News.get N9 (.head _)) IsPart.none (IsPart.int _ _) hsz (slicePick_to (refsE so) 2) (by with_unfolding_all rfl) ?_
  intro S10 h10 F10 N10 l10
  clear F9 N9
  have e10 : ((refsE so).toList.take 2).toArray = refsE (so.take 2) := by simp [refsE, List.map_take]
  rw [e10] at N10
  have N11 : News g L h10 ((S10, lstO (refsE (so.take 2)) 0) :: news) := fun q hq => N10 q (by
    rcases List.mem_cons.mp hq with rfl | hq
    · exact .head _
    · exact .tail _ (.tail _ hq))
  have hso : ∀ e ∈ so.take 2, e ∈ e0 :: es := fun e he' => hp9.subset (List.mem_of_mem_take he')
  refine comp_gone (vs := refsE (so.take 2)) (nl := 0) (news := (S10, lstO (refsE (so.take 2)) 0) :: news) (fun _ => true) (fun v y => ∃ e ∈ e0 :: es, v = .ref e.a ∧ y = .int e.j e.tj) rfl (by exact F10) (by exact N11) (by exact News.get N11 (.head _)) hsz2 (comp_quiet (nl := 0) (news := (S10, lstO (refsE (so.take 2)) 0) :: news) (fun _ => true) _ (by exact F10) (by exact N11) (by exact News.get N11 (.head _)) ?test ?elt) ?_
  case test =>
    intro C v s₃ m₃ E' hv hn3 hm3 F3 N3 _
    exact wpAny_tests_nil ⟨rfl, s₃.heap, s₃.toks, rfl, fun _ _ e => e⟩
  case elt =>
    intro C v s₃ m₃ E' hv hp' hn3 hm3 F3 N3
    simp only [refsE, List.mem_map] at hv
    obtain ⟨e, he', rfl⟩ := hv
    walk1
    refine nameC_L hn3 hm3 ?_ rfl rfl (by decide)
    walk1
    refine item_at (v := .int e.j e.tj) (n := e.n) (vs := #[.str e.x e.tx, .int e.j e.tj]) (News.get N3 (.tail _ (he e (hso e he')))) (by decide) (by decide) rfl ?_
    exact ⟨⟨e, hso e he', rfl, rfl⟩, s₃.heap, _, rfl, fun _ _ e => e⟩
  intro D2 h11 tk11 ys n11 F12 N12 hD2 hP
  have ey : ys = jsE (so.take 2) := by
    apply Array.ext'
    have ef : (refsE (so.take 2)).toList.filter (fun _ => true) = (so.take 2).map fun e => Value.ref e.a := by
      rw [List.filter_eq_self.mpr (fun _ _ => rfl)]
      rfl
    rw [ef] at hP
    rw [paired_jsE hso hea hP]
    rfl
  subst ey
  have hjj : (r0 :: ws').map (·.j) = (so.take 2).map (·.j) := by
    have := congrArg (List.map Prod.snd) (second_eq hF hp hp9 hs9)
    rw [List.map_map, List.map_map] at this
    exact this
  refine ne_ints (News.get N12 (.tail _ (.tail _ hD))) (News.get N12 (.head _)) (by show un + 3 < cLine; omega) hjj ?_
  k_steps
  refine kont h11 _ (fr_back (fr_back (fr_back F12 ?_) ?_) e1) (fun q hq => N12 q (.tail _ (.tail _ hq)))
  · exact if_skip (by decide) (if_skip (by decide) e3)
  · exact if_skip (by decide) e2
end Mine
end SW3

section SW4
namespace Mine
section
variable {prog : Program} {w : World} {A : Around} {E : Value → Shared → Prop} {s : Shared} {h₀ : Heap} {L l : Addr} {m : Str → Option Value} {news news' : List (Addr × Obj)}
theorem pop0_K {v : Value} {vs : List Value} {n : Nat} {u : Tok} {Q : Value → Shared → Prop} (F0 : Fr h₀ L s.heap m) (N : News h₀ L s.heap news) (U : Upd l (lstO (v :: vs).toArray n) (lstO vs.toArray (n + 1)) news news') (hsz : vs.length ≤ 1000)
    (h : ∀ h', Fr h₀ L h' m → News h₀ L h' news' → Q v { s with heap := h' }) : wpAny (model prog w) A (call (.builtin "list.pop") [.ref l, .int 0 u]) Q E s := by
  obtain ⟨pre, post, rfl, rfl, a, b⟩ := U.split
  have z := N (l, lstO (v :: vs).toArray n) (List.mem_append.mpr (.inr (.head _)))
  refine call_meets F.slot_list_pop ⟨_, z.1, rfl⟩ F.entry_list_pop (F.args_list_pop_2 _ _) (MeetsSeq.list_pop_at l (v :: vs).toArray n 0 u 0 v rfl (seqIndex_of (by decide) (by simp)) (by simp) (by simp [sizeLine_eq]; omega)) ?_
  refine ⟨z.1, h _ (F0.change (Heap.SameBut.update ..) z.2.1 z.2.2) (news_set N a b (Heap.SameBut.update ..) ?_)⟩
  have e : Obj.mapSeq (fun xs => xs.eraseIdxIfInBounds 0) (lstO (v :: vs).toArray n) = lstO vs.toArray (n + 1) := by
    have z1 : (v :: vs).toArray.eraseIdxIfInBounds 0 = vs.toArray := by simp [Array.eraseIdxIfInBounds]
    simp only [Obj.mapSeq, z1]
    simp
  rw [Heap.get?_update_self _ z.1 (by rw [e]; rfl), e]
/-- two lists of pieces, compared -/
theorem eq_pc (q q' : Pc) (hne : q.a ≠ q'.a) (h1 : s.heap.get? q.a = some q.obj) (h2 : s.heap.get? q'.a = some q'.obj) (ht : q.t2 = q'.t2) (hu : A.units < cLine) : PySem.SeqAt.RcAt A s (.ref q.a) (.ref q'.a) true := by
  have e1 : q.x = q'.x := congrArg Prod.fst ht
  have e2 : q.y = q'.y := congrArg Prod.snd ht
  have := PySem.SeqAt.RcAt.tuples (A := A) (s := s) (items := #[.str q.x q.tx, .str q.y q.ty]) (items2 := #[.str q'.x q'.tx, .str q'.y q'.ty]) (e := fun _ => true) ⟨_, h1, rfl, _, rfl⟩ ⟨_, h2, rfl, _, rfl⟩ hu (fun j j1 j2 => by
    have hj : j = 0 ∨ j = 1 := by simp at j1; omega
    rcases hj with rfl | rfl
    · have := (PySem.SeqRoads2.EqGives.str q.x q'.x q.tx q'.tx).at A.in1 s
      rw [e1] at this ⊢
      simpa using this
    · have := (PySem.SeqRoads2.EqGives.str q.y q'.y q.ty q'.ty).at A.in1 s
      rw [e2] at this ⊢
      simpa using this)
  have e9 : ((List.range (min 2 2)).all (fun _ => true) && (2 : Nat) == 2) = true := by decide
  rw [← e9]; exact this
theorem ne_pc {q q' : Pc} {Q : Value → Shared → Prop} (h1 : s.heap.get? q.a = some q.obj) (h2 : s.heap.get? q'.a = some q'.obj) (ht : q.t2 = q'.t2) (hu : A.units < cLine) (h : Q (.bool false) s) :
    wpAny (model prog w) A (compareOp .NotEq (.ref q.a) (.ref q'.a)) Q E s := by
  have e1 : q.x = q'.x := congrArg Prod.fst ht
  have e2 : q.y = q'.y := congrArg Prod.snd ht
  have := PySem.SeqAt.RcNeAt.tuples (A := A) (s := s) (items := #[.str q.x q.tx, .str q.y q.ty]) (items2 := #[.str q'.x q'.tx, .str q'.y q'.ty]) (e := fun _ => true) ⟨_, h1, rfl, _, rfl⟩ ⟨_, h2, rfl, _, rfl⟩ hu (fun j j1 j2 => by
    have hj : j = 0 ∨ j = 1 := by simp at j1; omega
    rcases hj with rfl | rfl
    · have := (PySem.SeqRoads2.EqGives.str q.x q'.x q.tx q'.tx).at A.in1 s
      rw [e1] at this ⊢
      simpa using this
    · have := (PySem.SeqRoads2.EqGives.str q.y q'.y q.ty q'.ty).at A.in1 s
      rw [e2] at this ⊢
      simpa using this) prog w E Q
  refine this ?_
  have e9 : (!((List.range (min 2 2)).all (fun _ => true) && (2 : Nat) == 2)) = false := by decide
  rw [← e9] at h; exact h
theorem eq_elem {qs ps : List Pc} (h1 : PcIn s.heap qs) (h2 : PcIn s.heap ps) (ht : qs.map Pc.t2 = ps.map Pc.t2) (hne : ∀ q ∈ qs, ∀ p ∈ ps, q.a ≠ p.a) (hu : A.units + 1 < cLine) :
    ∀ j (j1 : j < (vals qs).size) (j2 : j < (vals ps).size), PySem.SeqAt.EqAt A.in1 s (vals qs)[j] (vals ps)[j] ((fun _ => true) j) := fun j j1 j2 => by
  have j1' : j < qs.length := by rwa [vals_size] at j1
  have j2' : j < ps.length := by rwa [vals_size] at j2
  have g1 : (vals qs)[j] = .ref qs[j].a := by simp [vals]
  have g2 : (vals ps)[j] = .ref ps[j].a := by simp [vals]
  rw [g1, g2]
  have htj : qs[j].t2 = ps[j].t2 := by
    have := congrArg (fun z => z[j]?) ht
    simpa [List.getElem?_eq_getElem j1', List.getElem?_eq_getElem j2'] using this
  exact PySem.SeqAt.EqAt.of_refs (hne _ (List.getElem_mem j1') _ (List.getElem_mem j2')) (eq_pc _ _ (hne _ (List.getElem_mem j1') _ (List.getElem_mem j2')) (h1 _ (List.getElem_mem j1')) (h2 _ (List.getElem_mem j2')) htj (by show A.units + 1 < cLine; exact hu))
theorem ne_pcs {l b : Addr} {qs ps : List Pc} {n k : Nat} {Q : Value → Shared → Prop} (hl : s.heap.get? l = some (lstO (vals qs) n)) (hb : s.heap.get? b = some (lstO (vals ps) k)) (h1 : PcIn s.heap qs) (h2 : PcIn s.heap ps) (ht : qs.map Pc.t2 = ps.map Pc.t2)
    (hne : ∀ q ∈ qs, ∀ p ∈ ps, q.a ≠ p.a) (hu : A.units + 1 < cLine) (h : Q (.bool false) s) : wpAny (model prog w) A (compareOp .NotEq (.ref l) (.ref b)) Q E s := by
  have hlen : qs.length = ps.length := by simpa using congrArg List.length ht
  refine PySem.SeqAt.RcNeAt.lists (A := A) (s := s) (items := vals qs) (items2 := vals ps) (e := fun _ => true) ⟨_, hl, rfl, _, rfl⟩ ⟨_, hb, rfl, _, rfl⟩ (by rw [vals_size, vals_size, hlen]) (by omega) (eq_elem h1 h2 ht hne hu) prog w E Q ?_
  have ea : ((List.range (vals qs).size).all fun _ => true) = true := by simp
  rw [ea]; exact h
theorem eq_pcs {l b : Addr} {qs ps : List Pc} {n k : Nat} {Q : Value → Shared → Prop} (hl : s.heap.get? l = some (lstO (vals qs) n)) (hb : s.heap.get? b = some (lstO (vals ps) k)) (h1 : PcIn s.heap qs) (h2 : PcIn s.heap ps) (ht : qs.map Pc.t2 = ps.map Pc.t2)
    (hne : ∀ q ∈ qs, ∀ p ∈ ps, q.a ≠ p.a) (hu : A.units + 1 < cLine) (h : Q (.bool true) s) : wpAny (model prog w) A (compareOp .Eq (.ref l) (.ref b)) Q E s := by
  have hlen : qs.length = ps.length := by simpa using congrArg List.length ht
  refine PySem.SeqAt.RcAt.lists (A := A) (s := s) (items := vals qs) (items2 := vals ps) (e := fun _ => true) ⟨_, hl, rfl, _, rfl⟩ ⟨_, hb, rfl, _, rfl⟩ (by rw [vals_size, vals_size, hlen]) (by omega) (eq_elem h1 h2 ht hne hu) prog w E Q ?_
  have ea : ((List.range (vals qs).size).all fun _ => true) = true := by simp
  rw [ea]; exact h
end
end Mine
end SW4

section SW5
namespace Mine
theorem take_ok {p : Program} {loose : List Str} {mean : ExcName → Option Value} {mg mb : Str → Option Value} {w : World} {dp un : Nat} {gd : Option (List Code)} {outer : List Env} {base g : Heap} {s : Shared} {E : Value → Shared → Prop} {Q : Flow → Shared → Prop}
    {name qual : Str} {params : Arguments} {body B : List Stmt} {scope : Scope} {cl : List (Str × Addr)} {dV kV doc pm cdv ct oc : Value} {an od : Option Addr} {osl : Array (Option Value)} {L : Addr}
    (ho : (k0.heap_1 w.params).lookup 205 = some ⟨oc, od, .func (fnX name qual params body scope cl dV kV doc pm an cdv ct), osl⟩) (hB : B = ((whileBody body 8).drop 4).take 4)
    {m : Str → Option Value} {RA PA x d P l : Addr} {nr np n pn n1 : Nat} {ra pa : Array Value} {j i0 : Int} {tj tj' tk0 ti : Tok} {q0 p0 : Pc} {qs ps : List Pc} {fz : List (Addr × Obj)}
    (Bl : Below (aT dp un gd outer) base outer g) (X : (k0.heap_1 w.params).In g) (T : Top p loose mean mg mb g) (hd : dp + 28 < recursionLimit) (hu : un + 280 < cLine)
    (F : Fr g L s.heap m) (N : News g L s.heap ((x, accO d (vals (q0 :: qs)) n) :: (P, lstO (vals (p0 :: ps)) pn) :: fz)) (hxP : x ≠ P) (hfx : ∀ q ∈ fz, q.1 ≠ x) (hfP : ∀ q ∈ fz, q.1 ≠ P)
    (e1 : m (Str.ofString "rows") = some (.ref RA)) (e2 : m (Str.ofString "place") = some (.int j tj')) (e3 : m (Str.ofString "pieces") = some (.ref PA))
    (hRA : (RA, lstO ra nr) ∈ fz) (hra : ra[j.toNat]? = some (.ref l)) (hl : (l, lstO #[.ref x, .int j tj] n1) ∈ fz) (hPA : (PA, lstO pa np) ∈ fz) (hpa : pa[j.toNat]? = some (.ref P)) (hj0 : 0 ≤ j) (hj2 : j ≤ 2)
    (hdd : (d, iniD w.params i0 tk0 ti) ∈ fz) (hq : ∀ q ∈ q0 :: qs, (q.a, q.obj) ∈ fz) (hp : ∀ q ∈ p0 :: ps, (q.a, q.obj) ∈ fz) (ht : (q0 :: qs).map Pc.t2 = (p0 :: ps).map Pc.t2) (hne : ∀ q ∈ q0 :: qs, ∀ p ∈ p0 :: ps, q.a ≠ p.a) (hsz : qs.length ≤ 12)
    (kont : ∀ h tk u RL n' pn', Fr g L h u → (∀ y, y ≠ Str.ofString "row" → y ≠ Str.ofString "rest" → y ≠ Str.ofString "piece" → u y = m y) → u (Str.ofString "row") = some (.ref x) → u (Str.ofString "rest") = some (.ref RL) → u (Str.ofString "piece") = some (.ref q0.a) →
      News g L h ((x, accO d #[] n') :: (P, lstO (vals ps) pn') :: (RL, lstO (vals qs) 0) :: fz) → x ≠ RL → P ≠ RL → (∀ q ∈ fz, q.1 ≠ RL) → Q .next { s with heap := h, toks := tk }) :
    wpAny (model Challenge.rw_nb0220_01.row.prog w) ((aT dp un gd outer).deeper (envX qual scope L 205 cdv cl)) (execs B (envX qual scope L 205 cdv cl)) Q E s := by
  w_on
  refine fn_execs (fun b => ((whileBody b 8).drop 4).take 4) hB (law_eq ho) ?_
  conv in (whileBody _ _) => whnf
  dsimp only [List.drop, List.take]
  conv in (lawScope _) => whnf
  replace F := fr_at F e1
  replace F := fr_at F (x := Str.ofString "place") (v := .int j tj') (if_skip (by decide) e2)
  replace F := fr_at F (x := Str.ofString "pieces") (v := .ref PA) (if_skip (by decide) (if_skip (by decide) e3))
  have gl := fun {q : Addr × Obj} (hm : q ∈ fz) => (N q (.tail _ (.tail _ hm))).1
  iterate 6 walk1
  refine item_at (v := .ref l) (gl hRA) hj0 (by omega) hra ?_
  walk1
  refine item_at (v := .ref x) (gl hl) (by decide) (by decide) rfl ?_
  iterate 5 walk1
  rename_i h2 F2 N2
  refine' acc_method (X.keeps F2.keep) (News.get N2 (.head _)) (News.get N2 (.tail _ (.tail _ hdd))) ?a4 ?a5 ?a7 rfl ?_
  case a4 => k_is
  case a5 => k_is
  case a7 => decide +kernel
  iterate 4 walk1
  refine ⟨X.keeps F2.keep, ?_⟩
  refine use_call Bl F2 N2 X T rfl rfl ?_
  intro H9 C9 st9 f9 G9
  refine pop_from (i := 1) C9 st9 (room 23 hd) (room 237 hu) (News.get N2 (.head _)) (f9 _ (.head _)) (News.get N2 (.tail _ (.tail _ hdd))) (hfx _ hdd) (by rw [vals_size]; simp) (by rw [vals_size, sizeLine_eq]; simp; omega) ?_
  intro h3 tk3 RL n3 hx3 r0 r1 r2
  have ev1 : ((vals (q0 :: qs)).toList.drop 1).toArray = vals qs := by simp [vals]
  have ev2 : ((vals (q0 :: qs)).toList.take 1).toArray = #[.ref q0.a] := by simp [vals]
  rw [ev1] at r1
  rw [ev2] at r2
  have oxx : ∀ q ∈ (P, lstO (vals (p0 :: ps)) pn) :: fz, q.1 ≠ x := by
    refine all_cons (Ne.symm hxP) fun q hq => ?_
    · exact hfx q hq
  obtain ⟨F3, N3⟩ := back1 F2 N2 (.head oxx) hx3 r2
  have zR := fresh_add F2 r0 r1
  have nR : ∀ q ∈ (x, accO d (vals (q0 :: qs)) n) :: (P, lstO (vals (p0 :: ps)) pn) :: fz, q.1 ≠ RL := fun q hq e => by
    have := (N2 q hq).1
    rw [e] at this
    exact absurd (r0.symm.trans this) (by simp)
  have N4 : News g L h3 ((x, accO d #[.ref q0.a] n3) :: (P, lstO (vals (p0 :: ps)) pn) :: (RL, lstO (vals qs) 0) :: fz) := by
    refine all_cons (N3 _ (.head _)) (all_cons (N3 _ (.tail _ (.head _))) (all_cons (zR) fun q hq => ?_))
    · exact N3 _ (.tail _ (.tail _ hq))
  clear F2 N2 N3 C9 st9 f9 G9
  have F4 := F3
  clear F3
  (try dsimp only)
  iterate 6 walk1
  rename_i h5 F5 N5
  refine' acc_method (X.keeps F5.keep) (News.get N5 (.head _)) (News.get N5 (.tail _ (.tail _ (.tail _ hdd)))) ?a4 ?a5 ?a7 rfl ?_
  case a4 => k_is
  case a5 => k_is
  case a7 => decide +kernel
  iterate 1 walk1
  refine use_call Bl F5 N5 X T rfl rfl ?_
  intro H9 C9 st9 f9 G9
  refine pop_one (v := .ref q0.a) C9 st9 (room 23 hd) (room 237 hu) (News.get N5 (.head _)) (f9 _ (.head _)) (News.get N5 (.tail _ (.tail _ (.tail _ hdd)))) (hfx _ hdd) rfl ?_
  intro h6 tk6 hx6 z6
  have oxx2 : ∀ q ∈ (P, lstO (vals (p0 :: ps)) pn) :: (RL, lstO (vals qs) 0) :: fz, q.1 ≠ x := by
    refine all_cons (Ne.symm hxP) (all_cons (Ne.symm (nR _ (.head _))) fun q hq => ?_)
    · exact hfx q hq
  obtain ⟨F6, N6⟩ := back1 F5 N5 (.head oxx2) hx6 z6
  clear F5 N5 C9 st9 f9 G9
  (try dsimp only)
  iterate 11 walk1
  rename_i h7 F7 N7
  refine item_at (v := .ref P) (News.get N7 (.tail _ (.tail _ (.tail _ hPA)))) hj0 (by omega) hpa ?_
  iterate 5 walk1
  have oP : ∀ q ∈ (RL, lstO (vals qs) 0) :: fz, q.1 ≠ P := by
    refine all_cons (Ne.symm (nR _ (.tail _ (.head _)))) fun q hq => ?_
    · exact hfP q hq
  have hpl : ps.length ≤ 12 := by
    have := congrArg List.length ht
    simp only [List.map_cons, List.length_cons, List.length_map] at this
    omega
  refine pop0_K (v := .ref p0.a) (vs := ps.map fun q => Value.ref q.a) (news := (x, accO d #[] (n3 + 1)) :: (P, lstO (vals (p0 :: ps)) pn) :: (RL, lstO (vals qs) 0) :: fz) (by exact F7) (by exact N7) (.tail hxP (.head oP)) (by simp; omega) ?_
  intro h8 F8 N8
  clear F7 N7
  have N9 : News g L h8 ((x, accO d #[] (n3 + 1)) :: (P, lstO (vals ps) (pn + 1)) :: (RL, lstO (vals qs) 0) :: fz) := N8
  clear N8
  have gl9 := fun {q : Addr × Obj} (hm : q ∈ fz) => (N9 q (.tail _ (.tail _ (.tail _ hm)))).1
  simp only [List.map_cons, List.cons.injEq] at ht
  refine ne_pc (gl9 (hq q0 (.head _))) (gl9 (hp p0 (.head _))) ht.1 (by show un + 3 < cLine; omega) ?_
  iterate 8 walk1
  refine item_at (v := .ref P) (gl9 hPA) hj0 (by omega) hpa ?_
  refine ne_pcs (qs := qs) (ps := ps) (News.get N9 (.tail _ (.tail _ (.head _)))) (News.get N9 (.tail _ (.head _))) (fun q hq' => gl9 (hq q (.tail _ hq'))) (fun q hq' => gl9 (hp q (.tail _ hq'))) ht.2 (fun q hq' p hp' => hne q (.tail _ hq') p (.tail _ hp')) (by show un + 3 + 1 < cLine; omega) ?_
  k_steps
  refine kont h8 _ _ RL (n3 + 1) (pn + 1) F8 (fun y y1 y2 y3 => ?_) rfl rfl rfl N9 (nR _ (.head _)) (nR _ (.tail _ (.head _))) (fun q hq' => nR q (.tail _ (.tail _ hq')))
  rw [if_neg y3, if_neg y2, if_neg y1]
  by_cases k1 : y = Str.ofString "pieces"
  · rw [if_pos k1, k1, e3]
  rw [if_neg k1]
  by_cases k2 : y = Str.ofString "place"
  · rw [if_pos k2, k2, e2]
  rw [if_neg k2]
  by_cases k3 : y = Str.ofString "rows"
  · rw [if_pos k3, k3, e1]
  rw [if_neg k3]
end Mine
end SW5

section SW6
namespace Mine
theorem backL {h₀ h h' : Heap} {L : Addr} {m : Str → Option Value} {news news' : List (Addr × Obj)} {as : List Addr} (F : Fr h₀ L h m) (N : News h₀ L h news) (hx : ExtL as h h') (has : ∀ a ∈ as, ∃ o, (a, o) ∈ news)
    (hn : ∀ q ∈ news', (q ∈ news ∧ q.1 ∉ as) ∨ (q.1 ∈ as ∧ h'.get? q.1 = some q.2)) : Fr h₀ L h' m ∧ News h₀ L h' news' := by
  have hz : ∀ a ∈ as, a ≠ L ∧ h₀.get? a = none := fun a ha => by
    obtain ⟨o, hm⟩ := has a ha
    exact (N _ hm).2
  obtain ⟨oL, es, ep, hL, r⟩ := F.ns
  refine ⟨⟨⟨oL, es, ep, hx L oL hL (fun hm => (hz L hm).1 rfl), r⟩, fun b o e => hx b o (F.keep b o e) (fun hm => by rw [(hz b hm).2] at e; cases e), F.above⟩, fun q hq => ?_⟩
  rcases hn q hq with ⟨h1, h2⟩ | ⟨h1, h2⟩
  · exact ⟨hx _ _ (N q h1).1 h2, (N q h1).2⟩
  · exact ⟨h2, hz _ h1⟩
theorem give_ok {p : Program} {loose : List Str} {mean : ExcName → Option Value} {mg mb : Str → Option Value} {w : World} {dp un : Nat} {gd : Option (List Code)} {outer : List Env} {base g : Heap} {s : Shared} {E : Value → Shared → Prop} {Q : Flow → Shared → Prop}
    {name qual : Str} {params : Arguments} {body B : List Stmt} {scope : Scope} {cl : List (Str × Addr)} {dV kV doc pm cdv ct oc : Value} {an od : Option Addr} {osl : Array (Option Value)} {L : Addr}
    (ho : (k0.heap_1 w.params).lookup 205 = some ⟨oc, od, .func (fnX name qual params body scope cl dV kV doc pm an cdv ct), osl⟩) (hB : B = ((whileBody body 8).drop 8).take 3)
    {m : Str → Option Value} {x d xt dt tA RL : Addr} {n ntd nt : Nat} {i0 i4 : Int} {tk0 ti tk4 ti4 : Tok} {q0 : Pc} {qs told tkn : List Pc} {fz : List (Addr × Obj)}
    (Bl : Below (aT dp un gd outer) base outer g) (X : (k0.heap_1 w.params).In g) (T : Top p loose mean mg mb g) (hd : dp + 28 < recursionLimit) (hu : un + 280 < cLine)
    (F : Fr g L s.heap m) (N : News g L s.heap ((x, accO d #[] n) :: (d, iniD w.params i0 tk0 ti) :: (xt, accO dt (vals told) ntd) :: (tA, lstO (vals tkn) nt) :: (RL, lstO (vals qs) 0) :: fz))
    (n1 : x ≠ d) (n2 : x ≠ xt) (n3 : x ≠ tA) (n4 : x ≠ RL) (n5 : d ≠ xt) (n6 : d ≠ tA) (n7 : d ≠ RL) (n8 : xt ≠ tA) (n9 : xt ≠ RL) (n10 : tA ≠ RL) (hfx : ∀ q ∈ fz, q.1 ≠ x) (hfd : ∀ q ∈ fz, q.1 ≠ d) (hfxt : ∀ q ∈ fz, q.1 ≠ xt) (hftA : ∀ q ∈ fz, q.1 ≠ tA)
    (e1 : m (Str.ofString "row") = some (.ref x)) (e2 : m (Str.ofString "rest") = some (.ref RL)) (e3 : m (Str.ofString "told") = some (.ref xt)) (e4 : m (Str.ofString "piece") = some (.ref q0.a)) (e5 : m (Str.ofString "taken") = some (.ref tA))
    (hdt : (dt, iniD w.params i4 tk4 ti4) ∈ fz) (hq0 : (q0.a, q0.obj) ∈ fz) (hsz : qs.length ≤ 12) (hst : told.length ≤ 12) (hsk : tkn.length ≤ 12)
    (kont : ∀ h tk n' ti' ntd' nt' qn, Fr g L h m → qn.t2 = q0.t2 → (x ≠ qn.a ∧ d ≠ qn.a ∧ xt ≠ qn.a ∧ tA ≠ qn.a) → (∀ q ∈ fz, q.1 ≠ qn.a) →
      News g L h ((x, accO d (vals qs) n') :: (d, iniD w.params 0 tk0 ti') :: (xt, accO dt (vals (told ++ [qn])) ntd') :: (tA, lstO (vals (tkn ++ [q0])) nt') :: (qn.a, qn.obj) :: fz) → Q .next { s with heap := h, toks := tk }) :
    wpAny (model Challenge.rw_nb0220_01.row.prog w) ((aT dp un gd outer).deeper (envX qual scope L 205 cdv cl)) (execs B (envX qual scope L 205 cdv cl)) Q E s := by
  w_on
  refine fn_execs (fun b => ((whileBody b 8).drop 8).take 3) hB (law_eq ho) ?_
  conv in (whileBody _ _) => whnf
  dsimp only [List.drop, List.take]
  conv in (lawScope _) => whnf
  replace F := fr_at F e1
  replace F := fr_at F (x := Str.ofString "rest") (v := .ref RL) (if_skip (by decide) e2)
  replace F := fr_at F (x := Str.ofString "told") (v := .ref xt) (if_skip (by decide) (if_skip (by decide) e3))
  replace F := fr_at F (x := Str.ofString "piece") (v := .ref q0.a) (if_skip (by decide) (if_skip (by decide) (if_skip (by decide) e4)))
  replace F := fr_at F (x := Str.ofString "taken") (v := .ref tA) (if_skip (by decide) (if_skip (by decide) (if_skip (by decide) (if_skip (by decide) e5))))
  iterate 4 walk1
  refine' acc_method (X.keeps F.keep) (News.get N (.head _)) (News.get N (.tail _ (.head _))) ?a4 ?a5 ?a7 rfl ?_
  case a4 => k_is
  case a5 => k_is
  case a7 => decide +kernel
  iterate 4 walk1
  refine ⟨X.keeps F.keep, ?_⟩
  refine use_call Bl F N X T rfl rfl ?_
  intro H9 C9 st9 f9 G9
  refine reset C9 st9 (room 23 hd) (room 237 hu) (News.get N (.head _)) (f9 (x, _) (.head _)) (News.get N (.tail _ (.head _))) (f9 (d, _) (.tail _ (.head _))) (Nat.lt_or_gt_of_ne n1) (News.get N (.tail _ (.tail _ (.tail _ (.tail _ (.head _)))))) (Ne.symm n4) (Ne.symm n7) (by rw [vals_size, sizeLine_eq]; simp; omega) (by rw [vals_size, sizeLine_eq]; omega) ?_
  intro h2 tk2 n' ti' hx2 z1 z2
  obtain ⟨F2, N2⟩ := backL (news' := (x, accO d (vals qs) n') :: (d, iniD w.params 0 tk0 ti') :: (xt, accO dt (vals told) ntd) :: (tA, lstO (vals tkn) nt) :: fz) F N hx2 (by
    intro a ha
    simp only [List.mem_cons, List.not_mem_nil, or_false] at ha
    rcases ha with rfl | rfl
    · exact ⟨_, .head _⟩
    · exact ⟨_, .tail _ (.head _)⟩) (by
    intro q hq
    simp only [List.mem_cons, List.not_mem_nil, or_false, not_or]
    rcases List.mem_cons.mp hq with rfl | hq
    · exact .inr ⟨.inl rfl, z1⟩
    rcases List.mem_cons.mp hq with rfl | hq
    · exact .inr ⟨.inr rfl, z2⟩
    rcases List.mem_cons.mp hq with rfl | hq
    · exact .inl ⟨.inr (.inr (.inl rfl)), Ne.symm n2, Ne.symm n5⟩
    rcases List.mem_cons.mp hq with rfl | hq
    · exact .inl ⟨.inr (.inr (.inr (.inl rfl))), Ne.symm n3, Ne.symm n6⟩
    · exact .inl ⟨.inr (.inr (.inr (.inr (.inr hq)))), hfx q hq, hfd q hq⟩)
  clear F N C9 st9 f9 G9
  (try dsimp only)
  iterate 4 walk1
  refine' acc_method (X.keeps F2.keep) (News.get N2 (.tail _ (.tail _ (.head _)))) (News.get N2 (.tail _ (.tail _ (.tail _ (.tail _ hdt))))) ?a4 ?a5 ?a7 rfl ?_
  case a4 => k_is
  case a5 => k_is
  case a7 => decide +kernel
  have gq : h2.get? q0.a = some { cls := .type "tuple", data := .seq #[.str q0.x q0.tx, .str q0.y q0.ty] } := News.get N2 (.tail _ (.tail _ (.tail _ (.tail _ hq0))))
  iterate 5 walk1
  refine tup_at (v := .str q0.x q0.tx) gq (by decide) (by decide) rfl ?_
  iterate 4 walk1
  refine tup_at (v := .str q0.y q0.ty) gq (by decide) (by decide) rfl ?_
  walk1
  refine ⟨X.keeps F2.keep, ?_⟩
  refine use_call Bl F2 N2 X T rfl rfl ?_
  intro H9 C9 st9 f9 G9
  refine push C9 st9 (room 25 hd) (room 257 hu) (News.get N2 (.tail _ (.tail _ (.head _)))) (f9 (xt, _) (.tail _ (.tail _ (.head _)))) (News.get N2 (.tail _ (.tail _ (.tail _ (.tail _ hdt))))) (hfxt _ hdt) rfl (by rw [vals_size, sizeLine_eq]; omega) ?_
  intro h3 tk3 t3 hx3 y0 y1 y2
  have nq : ∀ q ∈ (x, accO d (vals qs) n') :: (d, iniD w.params 0 tk0 ti') :: (xt, accO dt (vals told) ntd) :: (tA, lstO (vals tkn) nt) :: fz, q.1 ≠ t3 := fun q hq e => by
    have := (N2 q hq).1
    rw [e] at this
    exact absurd (y0.symm.trans this) (by simp)
  have zt := fresh_add F2 y0 y1
  obtain ⟨F3, N3⟩ := backL (news' := (x, accO d (vals qs) n') :: (d, iniD w.params 0 tk0 ti') :: (xt, accO dt ((vals told).push (.ref t3)) (ntd + 1)) :: (tA, lstO (vals tkn) nt) :: fz) F2 N2 hx3 (by
    intro a ha
    rw [List.mem_singleton.mp ha]
    exact ⟨_, .tail _ (.tail _ (.head _))⟩) (by
    intro q hq
    simp only [List.mem_cons, List.not_mem_nil, or_false]
    rcases List.mem_cons.mp hq with rfl | hq
    · exact .inl ⟨.inl rfl, n2⟩
    rcases List.mem_cons.mp hq with rfl | hq
    · exact .inl ⟨.inr (.inl rfl), n5⟩
    rcases List.mem_cons.mp hq with rfl | hq
    · exact .inr ⟨rfl, y2⟩
    rcases List.mem_cons.mp hq with rfl | hq
    · exact .inl ⟨.inr (.inr (.inr (.inl rfl))), Ne.symm n8⟩
    · exact .inl ⟨.inr (.inr (.inr (.inr hq))), hfxt q hq⟩)
  clear F2 N2 C9 st9 f9 G9
  (try dsimp only)
  iterate 9 walk1
  have N4 : News g L h3 ((x, accO d (vals qs) n') :: (d, iniD w.params 0 tk0 ti') :: (xt, accO dt ((vals told).push (.ref t3)) (ntd + 1)) :: (tA, lstO (vals tkn) nt) :: (t3, { cls := .type "tuple", data := .seq #[.str q0.x q0.tx, .str q0.y q0.ty] }) :: fz) := by
    refine all_cons (N3 _ (.head _)) (all_cons (N3 _ (.tail _ (.head _))) (all_cons (N3 _ (.tail _ (.tail _ (.head _)))) (all_cons (N3 _ (.tail _ (.tail _ (.tail _ (.head _))))) (all_cons (zt) fun q hq => ?_))))
    · exact N3 _ (.tail _ (.tail _ (.tail _ (.tail _ hq))))
  have otA : ∀ q ∈ (t3, ({ cls := .type "tuple", data := .seq #[.str q0.x q0.tx, .str q0.y q0.ty] } : Obj)) :: fz, q.1 ≠ tA := by
    refine all_cons (Ne.symm (nq _ (.tail _ (.tail _ (.tail _ (.head _)))))) fun q hq => ?_
    · exact hftA q hq
  refine append_K (news := (x, accO d (vals qs) n') :: (d, iniD w.params 0 tk0 ti') :: (xt, accO dt ((vals told).push (.ref t3)) (ntd + 1)) :: (tA, lstO (vals tkn) nt) :: (t3, { cls := .type "tuple", data := .seq #[.str q0.x q0.tx, .str q0.y q0.ty] }) :: fz) (by exact F3) (by exact N4) (.tail n3 (.tail n6 (.tail n8 (.head otA)))) (by have := vals_size tkn; rw [this, sizeLine_eq]; omega) ?_
  intro h5 F5 N5
  k_steps
  refine kont h5 _ n' ti' (ntd + 1) (nt + 1) ⟨t3, q0.x, q0.tx, q0.y, q0.ty⟩ (fr_back (fr_back (fr_back (fr_back (fr_back F5 ?_) ?_) ?_) ?_) e1) rfl ⟨nq _ (.head _), nq _ (.tail _ (.head _)), nq _ (.tail _ (.tail _ (.head _))), nq _ (.tail _ (.tail _ (.tail _ (.head _))))⟩ (fun q hq => nq q (.tail _ (.tail _ (.tail _ (.tail _ hq))))) ?_
  · exact if_skip (by decide) (if_skip (by decide) (if_skip (by decide) (if_skip (by decide) e5)))
  · exact if_skip (by decide) (if_skip (by decide) (if_skip (by decide) e4))
  · exact if_skip (by decide) (if_skip (by decide) e3)
  · exact if_skip (by decide) e2
  · rw [vals_snoc, vals_snoc]; exact N5
end Mine
end SW6

section SJ2
namespace Mine
noncomputable def kk (i j k : Int) : Int := i * 400 + j * 20 + k
noncomputable def lcp (x : Str) (i : Nat) : List Nat := x.cps.toList.drop i
noncomputable def Done (i j k i' j' k' : Nat) : Prop := i < i' ∨ (i = i' ∧ (j < j' ∨ (j = j' ∧ k < k')))
noncomputable def CellAt (w0 w1 w2 : Str) (kvs : List (Int × Value)) (i j k : Nat) : Prop := ∃ v t, valueAt kvs (kk i j k) = some (.str v t) ∧ Lst (lcp w0 i) (lcp w1 j) (lcp w2 k) v.cps.toList
theorem Mx.len {x y z w : List Nat} (h : Mx x y z w) : w.length = x.length + y.length + z.length := by
  induction h with
  | nil => rfl
  | a _ ih => simp only [List.length_cons]; omega
  | b _ ih => simp only [List.length_cons]; omega
  | c _ ih => simp only [List.length_cons]; omega
theorem lcp_len (x : Str) (i : Nat) : (lcp x i).length ≤ x.length := by
  unfold lcp
  rw [List.length_drop, ← len_cps]
  omega
theorem lst_len {w0 w1 w2 v : Str} {i j k : Nat} (h : Lst (lcp w0 i) (lcp w1 j) (lcp w2 k) v.cps.toList) (b0 : w0.length ≤ 12) (b1 : w1.length ≤ 12) (b2 : w2.length ≤ 12) : v.length ≤ 36 := by
  have := h.1.len
  have l0 := lcp_len w0 i
  have l1 := lcp_len w1 j
  have l2 := lcp_len w2 k
  rw [len_cps]; omega
theorem lcp_cons {x : Str} {i : Nat} (h : i < x.length) : lcp x i = (x.cps.getD i 0) :: lcp x (i + 1) := by
  unfold lcp
  have h' : i < x.cps.toList.length := by rw [← len_cps]; exact h
  rw [List.drop_eq_getElem_cons h']
  congr 1
  have h2 : i < x.cps.size := by simpa using h'
  simp [Array.getD, h2]
theorem lcp_nil {x : Str} {i : Nat} (h : ¬ i < x.length) : lcp x i = [] := by
  unfold lcp
  apply List.drop_of_length_le
  rw [← len_cps]; omega
theorem item_add {x v : Str} {i : Nat} (h : i < x.length) : (Txt.item x (i : Int) ++ v).cps.toList = (x.cps.getD i 0) :: v.cps.toList := by
  have e : ∀ a b : Str, (a ++ b).cps = a.cps ++ b.cps := fun _ _ => rfl
  rw [item_meets ⟨by omega, by omega⟩, e, Array.toList_append]
  rfl
theorem allLt_ne {d : Nat} : ∀ {l : List (Addr × Obj)}, AllLt d l → ∀ q ∈ l, q.1 ≠ d
  | [], _, _, h => nomatch h
  | p :: r, h, q, hq => by
    rcases List.mem_cons.mp hq with rfl | hq
    · exact Nat.ne_of_lt h.1
    · exact allLt_ne h.2 q hq
theorem strVs_snoc (xs : List (Str × Tok)) (p : Str × Tok) : strVs (xs ++ [p]) = (strVs xs).push (.str p.1 p.2) := by simp [strVs]
noncomputable abbrev cellM (m : Str → Option Value) (W td : Addr) (w0 w1 w2 : Str) (t0 t1 t2 ti tj tk0 : Tok) (i j k : Nat) : Str → Option Value := fun y =>
    if y = Str.ofString "ways" then some (Value.ref W)
    else if y = Str.ofString "k" then some (Value.int k tk0)
    else if y = Str.ofString "j" then some (Value.int j tj)
    else if y = Str.ofString "i" then some (Value.int i ti)
    else if y = Str.ofString "table" then some (Value.ref td)
    else if y = Str.ofString "third" then some (Value.str w2 t2)
    else if y = Str.ofString "second" then some (Value.str w1 t1)
    else if y = Str.ofString "first" then some (Value.str w0 t0) else m y
inductive CellJ (g : Heap) (L W td : Addr) (o : Obj) (fz : List (Addr × Obj)) (s : Shared) (M : Str → Option Value) (P : List (Str × Tok) → Prop) (f : Flow) (s' : Shared) : Prop
  | mk (_ : f = .next) (h : Heap) (tk : Nat) (n : Nat) (ws : List (Str × Tok)) (_ : s' = { s with heap := h, toks := tk })
      (_ : Fr g L h M)
      (_ : News g L h ((W, lstO (strVs ws) n) :: (td, o) :: fz))
      (_ : P ws) : CellJ g L W td o fz s M P f s'
theorem least_eq {w : World} {name qual : Str} {params : Arguments} {body : List Stmt} {scope : Scope} {cl : List (Str × Addr)} {dV kV doc pm cdv ct oc : Value} {an od : Option Addr} {osl : Array (Option Value)}
    (ho : (k0.heap_1 w.params).lookup 200 = some ⟨oc, od, .func (fnX name qual params body scope cl dV kV doc pm an cdv ct), osl⟩) : qual = Str.ofString "_law_least" ∧ scope = (fnAt (k0.heap_1 w.params) 200).scope ∧ cl = [] ∧ cdv = .ref 199 ∧ body = fnBody (k0.heap_1 w.params) 200 := fn_eq ho (by kernel_rfl) (by kernel_rfl) (by kernel_rfl)
theorem least_cell {p : Program} {loose : List Str} {mean : ExcName → Option Value} {mg mb : Str → Option Value} {w : World} {dp un : Nat} {gd : Option (List Code)} {outer : List Env} {base g : Heap} {s : Shared} {E : Value → Shared → Prop} {Q : Flow → Shared → Prop}
    {name qual : Str} {params : Arguments} {body B : List Stmt} {scope : Scope} {cl : List (Str × Addr)} {dV kV doc pm cdv ct oc : Value} {an od : Option Addr} {osl : Array (Option Value)} {L : Addr}
    (ho : (k0.heap_1 w.params).lookup 200 = some ⟨oc, od, .func (fnX name qual params body scope cl dV kV doc pm an cdv ct), osl⟩) (hB : B = forBody (forBody (forBody body 2) 0) 0)
    {m : Str → Option Value} {td : Addr} {w0 w1 w2 : Str} {t0 t1 t2 ti tj tk0 : Tok} {i j k : Nat} {o : Obj} {kvs : List (Int × Value)} {fz : List (Addr × Obj)}
    (Bl : Below (aT dp un gd outer) base outer g) (X : (k0.heap_1 w.params).In g) (T : Top p loose mean mg mb g) (hd : dp + 8 < recursionLimit) (hu : un + 80 < cLine)
    (F : Fr g L s.heap m) (N : News g L s.heap ((td, o) :: fz)) (hfz : ∀ q ∈ fz, q.1 ≠ td) (hdo : o.IsDictOf (PySem.intKind Challenge.rw_nb0220_01.row.prog w) kvs) (hkl : kvs.length ≤ 9000)
    (e1 : m (Str.ofString "first") = some (.str w0 t0)) (e2 : m (Str.ofString "second") = some (.str w1 t1)) (e3 : m (Str.ofString "third") = some (.str w2 t2)) (e4 : m (Str.ofString "table") = some (.ref td))
    (e5 : m (Str.ofString "i") = some (.int i ti)) (e6 : m (Str.ofString "j") = some (.int j tj)) (e7 : m (Str.ofString "k") = some (.int k tk0))
    (b0 : w0.length ≤ 12) (b1 : w1.length ≤ 12) (b2 : w2.length ≤ 12) (hi : i ≤ w0.length) (hj : j ≤ w1.length) (hk : k ≤ w2.length)
    (hT : ∀ i' j' k', i' ≤ w0.length → j' ≤ w1.length → k' ≤ w2.length → Done i j k i' j' k' → CellAt w0 w1 w2 kvs i' j' k')
    (kont : ∀ h tk v t o' u, Fr g L h u → (∀ y, y ≠ Str.ofString "ways" → u y = m y) → News g L h ((td, o') :: fz) → o'.IsDictOf (PySem.intKind Challenge.rw_nb0220_01.row.prog w) (stored kvs (kk i j k) (.str v t)) → Lst (lcp w0 i) (lcp w1 j) (lcp w2 k) v.cps.toList → Q .next { s with heap := h, toks := tk }) :
    wpAny (model Challenge.rw_nb0220_01.row.prog w) ((aT dp un gd outer).deeper (envX qual scope L 200 cdv cl)) (execs B (envX qual scope L 200 cdv cl)) Q E s := by
  w_on
  refine fn_execs (fun b => forBody (forBody (forBody b 2) 0) 0) hB (least_eq ho) ?_
  conv in (forBody _ _) => whnf
  conv in (FuncData.scope _) => whnf
  replace F := fr_at F e1
  replace F := fr_at F (x := Str.ofString "second") (v := .str w1 t1) (if_skip (by decide) e2)
  replace F := fr_at F (x := Str.ofString "third") (v := .str w2 t2) (if_skip (by decide) (if_skip (by decide) e3))
  replace F := fr_at F (x := Str.ofString "table") (v := .ref td) (if_skip (by decide) (if_skip (by decide) (if_skip (by decide) e4)))
  replace F := fr_at F (x := Str.ofString "i") (v := .int i ti) (if_skip (by decide) (if_skip (by decide) (if_skip (by decide) (if_skip (by decide) e5))))
  replace F := fr_at F (x := Str.ofString "j") (v := .int j tj) (if_skip (by decide) (if_skip (by decide) (if_skip (by decide) (if_skip (by decide) (if_skip (by decide) e6)))))
  replace F := fr_at F (x := Str.ofString "k") (v := .int k tk0) (if_skip (by decide) (if_skip (by decide) (if_skip (by decide) (if_skip (by decide) (if_skip (by decide) (if_skip (by decide) e7))))))
  iterate 6 walk1
  rename_i W h1 l1 h2 F2 N2
  have F3 := F2
  have N3 : News g L h2 ((W, lstO (strVs []) 0) :: (td, o) :: fz) := N2
  have oW : ∀ q ∈ fz, q.1 ≠ W := allLt_ne l1.2
  have oW' : ∀ q ∈ (td, o) :: fz, q.1 ≠ W := by
    refine all_cons (Nat.ne_of_lt l1.1) fun q hq => ?_
    · exact oW q hq
  clear F2 N2
  dsimp only
  walk1
  refine wpAny_mono (Q := CellJ g L W td o fz s (cellM m W td w0 w1 w2 t0 t1 t2 ti tj tk0 i j k) (fun ws => ws.length ≤ 1 ∧ (∀ u ∈ ws, Mx (lcp w0 i) (lcp w1 j) (lcp w2 k) u.1.cps.toList) ∧ (∀ c x', lcp w0 i = c :: x' → ∃ u, Lst x' (lcp w1 j) (lcp w2 k) u ∧ ∃ q ∈ ws, q.1.cps.toList = c :: u))) ?if1 ?rest1 (fun _ _ h => h)
  case if1 =>
    iterate 44 walk1
    · rename_i hlt hit
      obtain ⟨v, tv, hv, hL⟩ := hT (i + 1) j k (by omega) hj hk (.inl (Nat.lt_succ_self _))
      refine kda_item (knd := PySem.intKind _ _) N3 (.tail _ (.head _)) hdo (intKind_is _ _ _ _) (v := .str v tv) (by simpa [kk] using hv) ?_
      have hvl := lst_len hL b0 b1 b2
      have hlt' : i < w0.length := by omega
      refine SBL.add (fun t' k' _ => ?_) (by rw [sizeLine_eq]; omega)
      (try dsimp only)
      walk1
      refine append_K (vs := strVs []) (news := (W, lstO (strVs []) 0) :: (td, o) :: fz) (by exact F3) (by exact N3) (.head oW') (by have := strVs_size []; rw [this, sizeLine_eq]; simp) ?_
      intro h9 F9 N9
      k_steps
      exact ⟨rfl, h9, _, 1, [(Txt.item w0 (i : Int) ++ v, t')], rfl, F9, N9, by simp, (fun u hu => by rw [List.mem_singleton.mp hu, item_add hlt', lcp_cons hlt']; exact .a hL.1),
        fun c x' hc => by rw [lcp_cons hlt'] at hc; injection hc with c1 c2; subst c1 c2; exact ⟨_, hL, _, List.mem_singleton.mpr rfl, item_add hlt'⟩⟩
    · k_steps
      rename_i hlt
      have hlt' : ¬ i < w0.length := by omega
      exact ⟨rfl, h2, _, 0, [], rfl, F3, N3, by simp, (fun u hu => nomatch hu), fun c x' hc => by rw [lcp_nil hlt'] at hc; cases hc⟩
  case rest1 =>
    intro f s1 hJ1
    obtain ⟨rfl, h3, tk3, n3, ws1, rfl, F4, N4, hl1, hm1, hx1⟩ := hJ1
    clear F3 N3
    dsimp only
    walk1
    refine wpAny_mono (Q := CellJ g L W td o fz s (cellM m W td w0 w1 w2 t0 t1 t2 ti tj tk0 i j k) (fun ws => ws.length ≤ 2 ∧ (∀ u ∈ ws, Mx (lcp w0 i) (lcp w1 j) (lcp w2 k) u.1.cps.toList) ∧ (∀ c x', lcp w0 i = c :: x' → ∃ u, Lst x' (lcp w1 j) (lcp w2 k) u ∧ ∃ q ∈ ws, q.1.cps.toList = c :: u) ∧ (∀ c y', lcp w1 j = c :: y' → ∃ u, Lst (lcp w0 i) y' (lcp w2 k) u ∧ ∃ q ∈ ws, q.1.cps.toList = c :: u))) ?if2 ?rest2 (fun _ _ h => h)
    case if2 =>
      iterate 44 walk1
      · rename_i hlt hit
        obtain ⟨v, tv, hv, hL⟩ := hT i (j + 1) k hi (by omega) hk (.inr ⟨rfl, .inl (Nat.lt_succ_self _)⟩)
        refine kda_item (knd := PySem.intKind _ _) N4 (.tail _ (.head _)) hdo (intKind_is _ _ _ _) (v := .str v tv) (by simpa [kk] using hv) ?_
        have hvl := lst_len hL b0 b1 b2
        have hlt' : j < w1.length := by omega
        refine SBL.add (fun t' k' _ => ?_) (by rw [sizeLine_eq]; omega)
        (try dsimp only)
        walk1
        refine append_K (vs := strVs ws1) (news := (W, lstO (strVs ws1) n3) :: (td, o) :: fz) (by exact F4) (by exact N4) (.head oW') (by have := strVs_size ws1; rw [this, sizeLine_eq]; omega) ?_
        intro h9 F9 N9
        k_steps
        refine ⟨rfl, h9, _, n3 + 1, ws1 ++ [(Txt.item w1 (j : Int) ++ v, t')], rfl, F9, (by rw [strVs_snoc]; exact N9), (by simp; omega), (fun u hu => ?_), (fun c x' hc => ?_), fun c x' hc => ?_⟩
        · rcases List.mem_append.mp hu with hu | hu
          · exact hm1 u hu
          · rw [List.mem_singleton.mp hu, item_add hlt', lcp_cons hlt']; exact .b hL.1
        · obtain ⟨u, l, q, hq, e⟩ := hx1 c x' hc
          exact ⟨u, l, q, List.mem_append_left _ hq, e⟩
        · rw [lcp_cons hlt'] at hc
          injection hc with c1 c2
          subst c1 c2
          exact ⟨_, hL, _, List.mem_append_right _ (List.mem_singleton.mpr rfl), item_add hlt'⟩
      · k_steps
        rename_i hlt
        have hlt' : ¬ j < w1.length := by omega
        exact ⟨rfl, h3, _, n3, ws1, rfl, F4, N4, by omega, hm1, hx1, fun c x' hc => by rw [lcp_nil hlt'] at hc; cases hc⟩
    case rest2 =>
      intro f s2 hJ2
      obtain ⟨rfl, h5, tk5, n5, ws2, rfl, F6, N6, hl2, hm2, hx2, hy2⟩ := hJ2
      clear F4 N4
      dsimp only
      walk1
      refine wpAny_mono (Q := CellJ g L W td o fz s (cellM m W td w0 w1 w2 t0 t1 t2 ti tj tk0 i j k) (fun ws => ws.length ≤ 3 ∧ (∀ u ∈ ws, Mx (lcp w0 i) (lcp w1 j) (lcp w2 k) u.1.cps.toList) ∧ (∀ c x', lcp w0 i = c :: x' → ∃ u, Lst x' (lcp w1 j) (lcp w2 k) u ∧ ∃ q ∈ ws, q.1.cps.toList = c :: u) ∧ (∀ c y', lcp w1 j = c :: y' → ∃ u, Lst (lcp w0 i) y' (lcp w2 k) u ∧ ∃ q ∈ ws, q.1.cps.toList = c :: u) ∧ (∀ c z', lcp w2 k = c :: z' → ∃ u, Lst (lcp w0 i) (lcp w1 j) z' u ∧ ∃ q ∈ ws, q.1.cps.toList = c :: u))) ?if3 ?rest3 (fun _ _ h => h)
      case if3 =>
        iterate 44 walk1
        · rename_i hlt hit
          obtain ⟨v, tv, hv, hL⟩ := hT i j (k + 1) hi hj (by omega) (.inr ⟨rfl, .inr ⟨rfl, Nat.lt_succ_self _⟩⟩)
          refine kda_item (knd := PySem.intKind _ _) N6 (.tail _ (.head _)) hdo (intKind_is _ _ _ _) (v := .str v tv) (by simp only [kk] at hv; rw [← hv]; congr 1) ?_
          have hvl := lst_len hL b0 b1 b2
          have hlt' : k < w2.length := by omega
          refine SBL.add (fun t' k' _ => ?_) (by rw [sizeLine_eq]; omega)
          (try dsimp only)
          walk1
          refine append_K (vs := strVs ws2) (news := (W, lstO (strVs ws2) n5) :: (td, o) :: fz) (by exact F6) (by exact N6) (.head oW') (by have := strVs_size ws2; rw [this, sizeLine_eq]; omega) ?_
          intro h9 F9 N9
          k_steps
          refine ⟨rfl, h9, _, n5 + 1, ws2 ++ [(Txt.item w2 (k : Int) ++ v, t')], rfl, F9, (by rw [strVs_snoc]; exact N9), (by simp; omega), (fun u hu => ?_), (fun c x' hc => ?_), (fun c x' hc => ?_), fun c x' hc => ?_⟩
          · rcases List.mem_append.mp hu with hu | hu
            · exact hm2 u hu
            · rw [List.mem_singleton.mp hu, item_add hlt', lcp_cons hlt']; exact .c hL.1
          · obtain ⟨u, l, q, hq, e⟩ := hx2 c x' hc
            exact ⟨u, l, q, List.mem_append_left _ hq, e⟩
          · obtain ⟨u, l, q, hq, e⟩ := hy2 c x' hc
            exact ⟨u, l, q, List.mem_append_left _ hq, e⟩
          · rw [lcp_cons hlt'] at hc
            injection hc with c1 c2
            subst c1 c2
            exact ⟨_, hL, _, List.mem_append_right _ (List.mem_singleton.mpr rfl), item_add hlt'⟩
        · k_steps
          rename_i hlt
          have hlt' : ¬ k < w2.length := by omega
          exact ⟨rfl, h5, _, n5, ws2, rfl, F6, N6, by omega, hm2, hx2, hy2, fun c x' hc => by rw [lcp_nil hlt'] at hc; cases hc⟩
      case rest3 =>
        intro f s3 hJ3
        obtain ⟨rfl, h7, tk7, n7, ws, rfl, F8, N8, hl3, hm3, hx3, hy3, hz3⟩ := hJ3
        clear F6 N6
        dsimp only
        iterate 2 walk1
        refine wpAny_mono (Q := fun v s' => ∃ x t h tk, v = .str x t ∧ s' = { s with heap := h, toks := tk } ∧ Fr g L h (cellM m W td w0 w1 w2 t0 t1 t2 ti tj tk0 i j k) ∧ News g L h ((W, lstO (strVs ws) n7) :: (td, o) :: fz) ∧ Lst (lcp w0 i) (lcp w1 j) (lcp w2 k) x.cps.toList) ?val ?store (fun _ _ h => h)
        case val =>
          iterate 6 walk1
          rename_i EL h8 F9 N9 l9
          refine ne_nilK (vs := strVs ws) (News.get N9 (.tail _ (.head _))) (News.get N9 (.head _)) (by show un + 3 < cLine; omega) ?_
          have N10 : News g L h8 ((W, lstO (strVs ws) n7) :: (td, o) :: fz) := fun q hq => N9 q (.tail _ hq)
          have F10 := F9
          clear F9 N9
          refine wpAny_truthy_bool ?_
          rcases ws with _ | ⟨p0, ws⟩
          · rw [if_neg (by simp [strVs])]
            walk1
            refine ⟨_, _, _, _, rfl, rfl, F10, N10, ?_⟩
            have z0 : lcp w0 i = [] := by
              cases e : lcp w0 i with
              | nil => rfl
              | cons c x' => obtain ⟨u, _, q, hq, _⟩ := hx3 c x' e; exact nomatch hq
            have z1 : lcp w1 j = [] := by
              cases e : lcp w1 j with
              | nil => rfl
              | cons c x' => obtain ⟨u, _, q, hq, _⟩ := hy3 c x' e; exact nomatch hq
            have z2 : lcp w2 k = [] := by
              cases e : lcp w2 k with
              | nil => rfl
              | cons c x' => obtain ⟨u, _, q, hq, _⟩ := hz3 c x' e; exact nomatch hq
            rw [z0, z1, z2]
            exact Lst.nil
          · rw [if_pos (by simp [strVs])]
            iterate 6 walk1
            refine min_strs rfl (News.get N10 (.head _)) (by simp) ?_
            intro q h9 tk9 hq hmin hkp
            refine ⟨q.1, q.2, h9, tk9, rfl, rfl, F10.kept hkp, N10.grown hkp, ?_⟩
            refine Lst.of_ways (ws := (p0 :: ws).map fun q => q.1.cps.toList) (List.mem_map_of_mem (f := fun q : Str × Tok => q.1.cps.toList) hq) (fun u hu => ?_) (fun u hu => ?_) (fun c x' e => ?_) (fun c x' e => ?_) (fun c x' e => ?_)
            · obtain ⟨z, hz, rfl⟩ := List.mem_map.mp hu
              exact hmin z hz
            · obtain ⟨z, hz, rfl⟩ := List.mem_map.mp hu
              exact hm3 z hz
            · obtain ⟨u, l, z, hz, e'⟩ := hx3 c x' e
              exact ⟨u, l, e' ▸ List.mem_map_of_mem (f := fun q : Str × Tok => q.1.cps.toList) hz⟩
            · obtain ⟨u, l, z, hz, e'⟩ := hy3 c x' e
              exact ⟨u, l, e' ▸ List.mem_map_of_mem (f := fun q : Str × Tok => q.1.cps.toList) hz⟩
            · obtain ⟨u, l, z, hz, e'⟩ := hz3 c x' e
              exact ⟨u, l, e' ▸ List.mem_map_of_mem (f := fun q : Str × Tok => q.1.cps.toList) hz⟩
        case store =>
          intro v9 s9 hv9
          obtain ⟨x, tx, h9, tk9, rfl, rfl, F9, N9, hLx⟩ := hv9
          clear F8 N8
          iterate 14 walk1
          refine kda_set (knd := PySem.intKind _ _) (k := kk i j k) (g := fun o' => (W, lstO (strVs ws) n7) :: (td, o') :: fz) (by exact F9) (by exact N9) (.tail (Nat.ne_of_gt l1.1) (.head hfz)) hdo (intKind_is _ _ _ _) (by rw [sizeLine_eq]; omega) ?_
          intro h10 o' F10 N10 hd10
          k_steps
          refine kont h10 _ x tx o' _ F10 (fun y hy => ?_) (fun q hq => N10 q (.tail _ hq)) hd10 hLx
          show (if y = _ then _ else _) = _
          rw [if_neg hy]
          by_cases h7 : y = Str.ofString "k"
          · rw [if_pos h7, h7, e7]
          rw [if_neg h7]
          by_cases h6 : y = Str.ofString "j"
          · rw [if_pos h6, h6, e6]
          rw [if_neg h6]
          by_cases h5 : y = Str.ofString "i"
          · rw [if_pos h5, h5, e5]
          rw [if_neg h5]
          by_cases h4 : y = Str.ofString "table"
          · rw [if_pos h4, h4, e4]
          rw [if_neg h4]
          by_cases h3 : y = Str.ofString "third"
          · rw [if_pos h3, h3, e3]
          rw [if_neg h3]
          by_cases h2 : y = Str.ofString "second"
          · rw [if_pos h2, h2, e2]
          rw [if_neg h2]
          by_cases h1 : y = Str.ofString "first"
          · rw [if_pos h1, h1, e1]
          rw [if_neg h1]
end Mine
end SJ2

section SL6
namespace Mine
open PyProof.Rows.LCg (NsObj ns_obj lst)
theorem pushIt {h₀ h : Heap} {L : Addr} {m : Str → Option Value} {news : List (Addr × Obj)} (F : Fr h₀ L h m) (N : News h₀ L h news) (o : Obj) (hf : o.isFreed = false := by rfl) :
    Fr h₀ L (h.push o) m ∧ News h₀ L (h.push o) ((h.objs.size, o) :: news) ∧ ∀ p ∈ news, p.1 < h.objs.size := ⟨F.push o, N.push F o hf, fun p hp => Heap.lt_size (N p hp).1⟩
theorem rng_over {prog : Program} {w : World} {A : Around} {s : Shared} {h₀ : Heap} {L : Addr} {m : Str → Option Value} {R : Result → Shared → Prop} {elt iter tgt : Expr} {scope : Scope} {pos : Pos} {cenv : Env} {D I : Addr} {i left : Int} {rest : List (Addr × Obj)}
    (hh : A.handled = none) (F : Fr h₀ L s.heap m) (N : News h₀ L s.heap ((I, ritO i left 1) :: rest)) (nd : (I :: rest.map (·.1)).Nodup) (hy : left ≤ 0)
    (h : ∀ h', Fr h₀ L h' m → News h₀ L h' rest → R (.ok .next) { s with heap := h' }) :
    codeAny (model prog w) A (.compLoop (.ListComp elt [⟨tgt, iter, [], 0⟩] scope pos) 0 (.ref I) (.ref D) cenv) R s := by
  have zI := N _ (.head _)
  simp only [List.nodup_cons] at nd
  have off : ∀ p ∈ rest, p.1 ≠ I := fun p hp e => nd.1 (e ▸ List.mem_map_of_mem hp)
  exact comp_turnG (wpAny_pyNext_range_end hh zI.1 hy fun h' hk => h h' (itEnd F zI.1 zI hk) (itEndN N hk (fun p hp => .tail _ hp) off))
theorem rows_outer {p : Program} {loose : List Str} {mean : ExcName → Option Value} {mg mb : Str → Option Value} {w : World} {dp un : Nat} {gd : Option (List Code)} {outer : List Env} {base g : Heap} {s : Shared} {R : Result → Shared → Prop}
    {name qual : Str} {params : Arguments} {body B : List Stmt} {scope : Scope} {cl : List (Str × Addr)} {dV kV doc pm cdv ct oc : Value} {an od : Option Addr} {osl : Array (Option Value)} {L : Addr} {pa pb pt : Pos} {kt : Nat}
    (ho : (k0.heap_1 w.params).lookup 193 = some ⟨oc, od, .func (fnX name qual params body scope cl dV kV doc pm an cdv ct), osl⟩) (hB : B = forBody body 1) (hk : scope.kind = .function) (k1 : scope.names.lookup (Str.ofString "row") = some .local) (k2 : scope.names.lookup (Str.ofString "place") = some .local)
    {m : Str → Option Value} {x d PA P D J l : Addr} {n np pn nD n1 ki : Nat} {j i0 : Int} {tj tk0 ti : Tok} {ps : List Pc} {pa' items : Array Value} {fz : List (Addr × Obj)}
    (Bl : Below (aT dp un gd outer) base outer g) (X : (k0.heap_1 w.params).In g) (T : Top p loose mean mg mb g) (hd : dp + 8 < recursionLimit) (hu : un + 80 < cLine)
    (F : Fr g L s.heap m) (N : News g L s.heap ((J, litO D ki) :: (x, accO d (vals []) n) :: fz)) (hJx : x ≠ J) (hfz : ∀ q ∈ fz, q.1 ≠ x) (hfJ : ∀ q ∈ fz, q.1 ≠ J) (hdd : (d, iniD w.params i0 tk0 ti) ∈ fz)
    (hD : (D, lstO items nD) ∈ fz) (hl : (l, lstO #[.ref x, .int j tj] n1) ∈ fz) (hi : items[ki]? = some (.ref l))
    (e3 : m (Str.ofString "pieces") = some (.ref PA))
    (gPA : g.get? PA = some (lstO pa' np)) (hj0 : 0 ≤ j) (hj2 : j ≤ 2) (hP : pa'[j.toNat]? = some (.ref P)) (gP : g.get? P = some (lstO (vals ps) pn)) (gq : PcIn g ps) (hps : ps.length ≤ 12)
    (k : ∀ h tk qs n u, Fr g L h u → (∀ y, y ≠ Str.ofString "one" → y ≠ Str.ofString "row" → y ≠ Str.ofString "place" → u y = m y) → News g L h ((J, litO D (ki + 1)) :: (x, accO d (vals qs) n) :: (pcs qs ++ fz)) → qs.map Pc.t2 = ps.map Pc.t2 → (∀ q ∈ qs, q.a ≠ J ∧ q.a ≠ x ∧ ∀ p ∈ fz, p.1 ≠ q.a) →
      codeAny (model Challenge.rw_nb0220_01.row.prog w) ((aT dp un gd outer).deeper (envX qual scope L 193 cdv cl)) (.forLoop (.Tuple [.Name (Str.ofString "row") pa, .Name (Str.ofString "place") pb] kt pt) (.ref J) B [] (envX qual scope L 193 cdv cl)) R { s with heap := h, toks := tk }) :
    codeAny (model Challenge.rw_nb0220_01.row.prog w) ((aT dp un gd outer).deeper (envX qual scope L 193 cdv cl)) (.forLoop (.Tuple [.Name (Str.ofString "row") pa, .Name (Str.ofString "place") pb] kt pt) (.ref J) B [] (envX qual scope L 193 cdv cl)) R s := by
  refine for_turn (next_list (News.get N (.head _)) ⟨_, News.get N (.tail _ (.tail _ hD)), rfl, _, rfl⟩ hi fun h1 e1 s1 => ?_)
  dsimp only
  have oJ : ∀ q ∈ (x, accO d (vals []) n) :: fz, q.1 ≠ J := by
    refine all_cons (hJx) fun q hq => ?_
    · exact hfJ q hq
  obtain ⟨F1, N1⟩ := back1 F N (.head oJ) (fun b o e hb => s1.extBut b o (by simpa using hb) e) e1
  refine wpAny_letOwnedTupleGo_listiter (l := D) (i := ki + 1) ⟨_, e1, rfl, rfl⟩ ?_
  refine assign2L rfl F1 N1 (News.get N1 (.tail _ (.tail _ hl))) rfl (by exact k1) (by exact k2) (by show (scope.kind == .class || (scope.kind == .module && _)) = false; rw [hk]; rfl) ?_
  intro h2 tk2 F2 N2
  have N3 : News g L h2 ((x, accO d (vals []) n) :: ((J, litO D (ki + 1)) :: fz)) := fun q hq => N2 q (by
    rcases List.mem_cons.mp hq with rfl | hq
    · exact .tail _ (.head _)
    · rcases List.mem_cons.mp hq with rfl | hq
      · exact .head _
      · exact .tail _ (.tail _ hq))
  refine rows_turn (s := { s with heap := h2, toks := tk2 }) (j := j) (tj := tj) (x := x) ho hB Bl X T hd hu F2 N3 (fun q hq => ?_) (.tail _ hdd) ?_ ?_ ?_ gPA hj0 hj2 hP gP gq hps ?_
  · rcases List.mem_cons.mp hq with rfl | hq
    · exact Ne.symm hJx
    · exact hfz q hq
  · exact if_skip (by decide) (if_pos rfl)
  · rw [if_pos rfl]
  · exact if_skip (by decide) (if_skip (by decide) e3)
  intro h tk qs n' u Fu hu' Nu ht hq
  dsimp only
  refine k h tk qs n' u Fu (fun y y1 y2 y3 => by rw [hu' y y1, if_neg y3, if_neg y2]) (fun q hq' => Nu q ?_) ht (fun q hq' => ⟨Ne.symm ((hq q hq').2 _ (.head _)), (hq q hq').1, fun p hp => (hq q hq').2 p (.tail _ hp)⟩)
  rcases List.mem_cons.mp hq' with rfl | hq'
  · exact .tail _ (List.mem_append_right _ (.head _))
  rcases List.mem_cons.mp hq' with rfl | hq'
  · exact .head _
  rcases List.mem_append.mp hq' with hq' | hq'
  · exact .tail _ (List.mem_append_left _ hq')
  · exact .tail _ (List.mem_append_right _ (.tail _ hq'))
noncomputable def IniRow (w : World) (r : Rw) (j : Int) : Prop := r.j = j ∧ ∃ tk ti, r.od = iniD w.params j tk ti
noncomputable def RowsOk (w : World) (h0 h : Heap) (RA : Addr) (nr : Nat) (r0 r1 r2 : Rw) : Prop :=
  h.get? RA = some (lstO #[.ref r0.l, .ref r1.l, .ref r2.l] nr) ∧ (r0.In h ∧ r1.In h ∧ r2.In h) ∧ (IniRow w r0 0 ∧ IniRow w r1 1 ∧ IniRow w r2 2) ∧
  (@LT.lt Nat _ RA r0.d ∧ @LT.lt Nat _ r0.d r0.x ∧ @LT.lt Nat _ r0.x r0.l ∧ @LT.lt Nat _ r0.l r1.d ∧ @LT.lt Nat _ r1.d r1.x ∧ @LT.lt Nat _ r1.x r1.l ∧ @LT.lt Nat _ r1.l r2.d ∧ @LT.lt Nat _ r2.d r2.x ∧ @LT.lt Nat _ r2.x r2.l) ∧
  (∀ q ∈ r0.qs ++ r1.qs ++ r2.qs, ∀ a ∈ [r0.d, r0.x, r1.d, r1.x, r2.d, r2.x], a ≠ q.a) ∧
  (∀ a ∈ [RA, r0.l, r0.x, r0.d, r1.l, r1.x, r1.d, r2.l, r2.x, r2.d], h0.get? a = none) ∧ (∀ q ∈ r0.qs ++ r1.qs ++ r2.qs, h0.get? q.a = none)
theorem law_rows {p : Program} {loose : List Str} {mean : ExcName → Option Value} {mg mb : Str → Option Value} {w : World} {dp un : Nat} {gd : Option (List Code)} {outer : List Env} {base H : Heap} {s : Shared} {R : Result → Shared → Prop}
    {PA P0 P1 P2 : Addr} {np pn0 pn1 pn2 : Nat} {ps0 ps1 ps2 : List Pc}
    (C : Cx p loose mean mg mb w (aT dp un gd outer) base outer H) (st : H.StaysIn s.heap) (hd : dp + 12 < recursionLimit) (hu : un + 120 < cLine)
    (hPA : s.heap.get? PA = some (lstO #[.ref P0, .ref P1, .ref P2] np)) (h0 : s.heap.get? P0 = some (lstO (vals ps0) pn0)) (h1 : s.heap.get? P1 = some (lstO (vals ps1) pn1)) (h2 : s.heap.get? P2 = some (lstO (vals ps2) pn2))
    (q0 : PcIn s.heap ps0) (q1 : PcIn s.heap ps1) (q2 : PcIn s.heap ps2) (b0 : ps0.length ≤ 12) (b1 : ps1.length ≤ 12) (b2 : ps2.length ≤ 12)
    (k : ∀ h' tk' RA nr r0 r1 r2, ExtL [] s.heap h' → RowsOk w s.heap h' RA nr r0 r1 r2 → r0.qs.map Pc.t2 = ps0.map Pc.t2 → r1.qs.map Pc.t2 = ps1.map Pc.t2 → r2.qs.map Pc.t2 = ps2.map Pc.t2 → R (.ok (.ret (.ref RA))) { s with heap := h', toks := tk' }) :
    codeAny (model Challenge.rw_nb0220_01.row.prog w) (aT dp un gd outer) (.call (.ref 193) ⟨[.ref PA], []⟩) R s := by
  w_on
  have hled : ∀ q ∈ ([] : List (Addr × Obj)), s.heap.get? q.1 = some q.2 ∧ H.get? q.1 = none := fun q hq => nomatch hq
  refine' enter (binds := [(Str.ofString "pieces", .ref PA)]) C st hled ?k6 ?k7 ?k8 ?k9 ?kB ?_ ?c5 ?c2 ?c3 ?c4
  (((case k6 => k_is); (case k7 => k_is); (case k8 => exact Nat.lt_of_le_of_lt (Nat.le_add_right _ _) hd); (case k9 => exact BindsTo.of_eq rfl); (case kB => exact locs rfl); (case c5 => decide); (case c2 => exact rfl); (case c3 => exact rfl); (case c4 => exact rfl)))
  intro g' L' h' F' N' B' X' T' G'
  have gPA := G' _ _ hPA (by simp)
  have g0 := G' _ _ h0 (by simp)
  have g1 := G' _ _ h1 (by simp)
  have g2 := G' _ _ h2 (by simp)
  have gq0 : PcIn g' ps0 := fun q hq => G' _ _ (q0 q hq) (by simp)
  have gq1 : PcIn g' ps1 := fun q hq => G' _ _ (q1 q hq) (by simp)
  have gq2 : PcIn g' ps2 := fun q hq => G' _ _ (q2 q hq) (by simp)
  (try dsimp only)
  (try k_fold)
  refine wpAny_execs_cons ?_
  refine assign_comp2 (by with_unfolding_all rfl) (by with_unfolding_all rfl) rfl (by decide) ?_
  k_steps
  rename_i hh _ _ _ _ hR FR NR _
  refine wpAny_pyIter_range hR (by decide) ?_
  have hrs : Builtin.Range.rangeSize 0 3 1 = 3 := by decide
  rw [hrs]
  obtain ⟨F2, N2, l2⟩ := pushIt FR NR (ritO 0 3 1)
  refine comp_open F2 N2 (by decide) rfl ?_
  intro D C9 oC m2' h3' tk3 F3 N3 hoC q6 q7
  dsimp only
  generalize hI : hh.objs.size = I at *
  have N4 : News g' L' h3' [(I, ritO 0 3 1), (C9, oC), (D, lst [])] := fun p hp => N3 p (by
    simp only [List.mem_cons, List.not_mem_nil, or_false] at hp ⊢
    rcases hp with rfl | rfl | rfl <;> simp)
  have l6 := q6 _ (.head _)
  have nd4 : List.Nodup (α := Addr) [I, C9, D] := by
    simp only [List.nodup_cons, List.mem_cons, List.not_mem_nil, or_false, not_or, List.nodup_nil, and_true, not_false_eq_true]
    exact ⟨⟨Nat.ne_of_lt (Nat.lt_trans l6 q7), Nat.ne_of_lt l6⟩, Nat.ne_of_gt q7⟩
  clear F2 N2 N3 FR NR
  refine (fun loop => codeAny_compStart_list loop (wpAny_pyIter_rangeiter (News.get N4 (.head _)) loop)) ?_
  refine row_turn (dp := dp + 1) (un := un + 3) B' F3 N4 X' T' rfl rfl rfl hoC nd4 (by simp) (by decide) (room 3 hd) (room 17 hu) ?_
  intro h5 tk5 l0 x0 d0 tka tia t0 oC5 m5 F5 N5 hoC5 nd5 ⟨oa, oa1, oa2⟩
  refine row_turn (dp := dp + 1) (un := un + 3) B' F5 N5 X' T' rfl rfl rfl hoC5 nd5 (by simp) (by decide) (room 3 hd) (room 17 hu) ?_
  intro h6 tk6 l1 x1 d1 tkb tib t1 oC6 m6 F6 N6 hoC6 nd6 ⟨ob, ob1, ob2⟩
  refine row_turn (dp := dp + 1) (un := un + 3) B' F6 N6 X' T' rfl rfl rfl hoC6 nd6 (by simp) (by decide) (room 3 hd) (room 17 hu) ?_
  intro h7 tk7 l2' x2 d2 tkc tic t2 oC7 m7 F7 N7 hoC7 nd7 ⟨oc, oc1, oc2⟩
  refine rng_over rfl F7 N7 nd7 (by decide) ?_
  intro h8 F8 N8
  refine' comp_done (s := { s with heap := h8, toks := tk7 }) ?a F8 N8 hoC7 ?o ?b ?c ?_
  case a => rfl
  case b => rfl
  case c => rfl
  case o =>
    intro q hq e
    exact (List.nodup_cons.mp (List.nodup_cons.mp nd7).2).1 (e ▸ List.mem_map_of_mem (f := (·.1)) hq)
  intro h9 tk9 F9 N9
  clear F8 N8 F7 N7 F6 N6 F5 N5 N4 F3
  dsimp only
  refine wpAny_execs_cons ?_
  refine wpAny_For ?_
  walk1
  refine wpAny_pyIter_list ⟨_, News.get N9 (.head _), rfl, _, rfl⟩ ?_
  obtain ⟨F10, N10, l10⟩ := pushIt F9 N9 (litO D 0)
  generalize hJ : h9.objs.size = J at *
  have up : Up [D, d0, x0, l0, d1, x1, l1, d2, x2, l2', J] := ⟨oa (D, lst []) (.tail _ (.tail _ (.head _))), oa1, oa2, ob (l0, lstO #[.ref x0, .int 0 t0] 0) (.tail _ (.tail _ (.tail _ (.head _)))), ob1, ob2, oc (l1, lstO #[.ref x1, .int 1 t1] 0) (.tail _ (.tail _ (.tail _ (.head _)))), oc1, oc2, l10 (l2', lstO #[.ref x2, .int 2 t2] 0) (.tail _ (.head _)), trivial⟩
  have N11 : News g' L' (h9.push (litO D 0)) ((J, litO D 0) :: (x0, accO d0 (vals []) 0) :: [(D, lstO #[.ref l0, .ref l1, .ref l2'] 3), (l2', lstO #[.ref x2, .int 2 t2] 0), (x2, accO d2 (vals []) 0), (d2, iniD w.params 2 tkc tic), (l1, lstO #[.ref x1, .int 1 t1] 0), (x1, accO d1 (vals []) 0), (d1, iniD w.params 1 tkb tib), (l0, lstO #[.ref x0, .int 0 t0] 0), (d0, iniD w.params 0 tka tia)]) := news_idx N10 [0, 9, 1, 2, 3, 4, 5, 6, 7, 8, 10]
  clear N9 F9 N10
  refine' rows_outer ?k6 ?hB rfl rfl rfl B' X' T' (room 4 hd) (room 40 hu) F10 N11 (j := 0) (fun e => (List.nodup_cons.mp (nodup_idx up [2, 10] (by decide))).1 (e ▸ .head _)) (off_nd (nodup_idx up [2, 0, 9, 8, 7, 6, 5, 4, 3, 1] (by decide))) (off_nd (nodup_idx up [10, 0, 9, 8, 7, 6, 5, 4, 3, 1] (by decide))) (by k_mem) (by k_mem) (by k_mem) rfl rfl gPA (by decide) (by decide) rfl g0 gq0 b0 ?_
  case k6 => k_is
  case hB => rfl
  intro h11 tk11 qs0 n0 u0 F11 hu11 N11' ht0 hq0
  clear F10 N11
  have N12 : News g' L' h11 ((J, litO D 1) :: (x1, accO d1 (vals []) 0) :: (pcs qs0 ++ [(D, lstO #[.ref l0, .ref l1, .ref l2'] 3), (l2', lstO #[.ref x2, .int 2 t2] 0), (x2, accO d2 (vals []) 0), (d2, iniD w.params 2 tkc tic), (l1, lstO #[.ref x1, .int 1 t1] 0), (d1, iniD w.params 1 tkb tib), (l0, lstO #[.ref x0, .int 0 t0] 0), (d0, iniD w.params 0 tka tia), (x0, accO d0 (vals qs0) n0)])) := by
    have E11 : News g' L' h11 ([(J, litO D 1), (x0, accO d0 (vals qs0) n0)] ++ (pcs qs0 ++ [(D, lstO #[.ref l0, .ref l1, .ref l2'] 3), (l2', lstO #[.ref x2, .int 2 t2] 0), (x2, accO d2 (vals []) 0), (d2, iniD w.params 2 tkc tic), (l1, lstO #[.ref x1, .int 1 t1] 0), (x1, accO d1 (vals []) 0), (d1, iniD w.params 1 tkb tib), (l0, lstO #[.ref x0, .int 0 t0] 0), (d0, iniD w.params 0 tka tia)])) := N11'
    have E := news_cat (news_l E11) (news_r (news_r E11))
    exact news_cat (a := [_, _]) (news_idx E [0, 7]) (news_cat (news_l (news_r E11)) (news_idx E [2, 3, 4, 5, 6, 8, 9, 10, 1]))
  have a0 : ∀ q ∈ qs0, q.a ≠ J ∧ q.a ≠ x0 ∧ q.a ≠ D ∧ q.a ≠ l2' ∧ q.a ≠ x2 ∧ q.a ≠ d2 ∧ q.a ≠ l1 ∧ q.a ≠ x1 ∧ q.a ≠ d1 ∧ q.a ≠ l0 ∧ q.a ≠ d0 := fun q hq => by
    obtain ⟨z1, z2, z3⟩ := hq0 q hq
    exact ⟨z1, z2, Ne.symm (z3 (D, _) (by k_mem)), Ne.symm (z3 (l2', _) (by k_mem)), Ne.symm (z3 (x2, _) (by k_mem)), Ne.symm (z3 (d2, _) (by k_mem)), Ne.symm (z3 (l1, _) (by k_mem)), Ne.symm (z3 (x1, _) (by k_mem)), Ne.symm (z3 (d1, _) (by k_mem)), Ne.symm (z3 (l0, _) (by k_mem)), Ne.symm (z3 (d0, _) (by k_mem))⟩
  clear N11' hq0
  refine' rows_outer ?k6 ?hB rfl rfl rfl B' X' T' (room 4 hd) (room 40 hu) F11 N12 (j := 1) (fun e => (List.nodup_cons.mp (nodup_idx up [5, 10] (by decide))).1 (e ▸ .head _)) ?f1 ?f2 (List.mem_append_right _ (by k_mem)) (List.mem_append_right _ (by k_mem)) (List.mem_append_right _ (by k_mem)) rfl ((hu11 _ (by decide) (by decide) (by decide)).trans rfl) gPA (by decide) (by decide) rfl g1 gq1 b1 ?_
  case k6 => k_is
  case hB => rfl
  case f1 =>
    intro q hq
    rcases List.mem_append.mp hq with hq | hq
    · obtain ⟨q', hq', rfl⟩ := List.mem_map.mp hq
      exact (a0 q' hq').2.2.2.2.2.2.2.1
    exact off_nd (by exact nodup_idx up [5, 0, 9, 8, 7, 6, 4, 3, 1, 2] (by decide)) q hq
  case f2 =>
    intro q hq
    rcases List.mem_append.mp hq with hq | hq
    · obtain ⟨q', hq', rfl⟩ := List.mem_map.mp hq
      exact (a0 q' hq').1
    exact off_nd (by exact nodup_idx up [10, 0, 9, 8, 7, 6, 4, 3, 1, 2] (by decide)) q hq
  intro h13 tk13 qs1 n1 u1 F13 hu13 N13' ht1 hq1
  have N14 : News g' L' h13 ((J, litO D 2) :: (x2, accO d2 (vals []) 0) :: (pcs qs1 ++ (pcs qs0 ++ [(D, lstO #[.ref l0, .ref l1, .ref l2'] 3), (l2', lstO #[.ref x2, .int 2 t2] 0), (d2, iniD w.params 2 tkc tic), (l1, lstO #[.ref x1, .int 1 t1] 0), (d1, iniD w.params 1 tkb tib), (l0, lstO #[.ref x0, .int 0 t0] 0), (d0, iniD w.params 0 tka tia), (x0, accO d0 (vals qs0) n0), (x1, accO d1 (vals qs1) n1)]))) := by
    have E13 : News g' L' h13 ([(J, litO D 2), (x1, accO d1 (vals qs1) n1)] ++ (pcs qs1 ++ (pcs qs0 ++ [(D, lstO #[.ref l0, .ref l1, .ref l2'] 3), (l2', lstO #[.ref x2, .int 2 t2] 0), (x2, accO d2 (vals []) 0), (d2, iniD w.params 2 tkc tic), (l1, lstO #[.ref x1, .int 1 t1] 0), (d1, iniD w.params 1 tkb tib), (l0, lstO #[.ref x0, .int 0 t0] 0), (d0, iniD w.params 0 tka tia), (x0, accO d0 (vals qs0) n0)]))) := N13'
    have E := news_cat (news_l E13) (news_r (news_r (news_r E13)))
    exact news_cat (a := [_, _]) (news_idx E [0, 4]) (news_cat (news_l (news_r E13)) (news_cat (news_l (news_r (news_r E13))) (news_idx E [2, 3, 5, 6, 7, 8, 9, 10, 1])))
  have a1 : ∀ q ∈ qs1, q.a ≠ J ∧ q.a ≠ x1 ∧ q.a ≠ D ∧ q.a ≠ l2' ∧ q.a ≠ x2 ∧ q.a ≠ d2 ∧ q.a ≠ l1 ∧ q.a ≠ x0 ∧ q.a ≠ d1 ∧ q.a ≠ l0 ∧ q.a ≠ d0 := fun q hq => by
    obtain ⟨z1, z2, z3⟩ := hq1 q hq
    have z4 : ∀ p ∈ [(D, lstO #[.ref l0, .ref l1, .ref l2'] 3), (l2', lstO #[.ref x2, .int 2 t2] 0), (x2, accO d2 (vals []) 0), (d2, iniD w.params 2 tkc tic), (l1, lstO #[.ref x1, .int 1 t1] 0), (d1, iniD w.params 1 tkb tib), (l0, lstO #[.ref x0, .int 0 t0] 0), (d0, iniD w.params 0 tka tia), (x0, accO d0 (vals qs0) n0)], p.1 ≠ q.a := fun p hp => z3 p (List.mem_append_right _ hp)
    exact ⟨z1, z2, Ne.symm (z4 (D, _) (by k_mem)), Ne.symm (z4 (l2', _) (by k_mem)), Ne.symm (z4 (x2, _) (by k_mem)), Ne.symm (z4 (d2, _) (by k_mem)), Ne.symm (z4 (l1, _) (by k_mem)), Ne.symm (z4 (x0, _) (by k_mem)), Ne.symm (z4 (d1, _) (by k_mem)), Ne.symm (z4 (l0, _) (by k_mem)), Ne.symm (z4 (d0, _) (by k_mem))⟩
  clear N13' hq1 F11 N12
  refine' rows_outer ?k6 ?hB rfl rfl rfl B' X' T' (room 4 hd) (room 40 hu) F13 N14 (j := 2) (fun e => (List.nodup_cons.mp (nodup_idx up [8, 10] (by decide))).1 (e ▸ .head _)) ?f1 ?f2 (List.mem_append_right _ (List.mem_append_right _ (by k_mem))) (List.mem_append_right _ (List.mem_append_right _ (by k_mem))) (List.mem_append_right _ (List.mem_append_right _ (by k_mem))) rfl ((hu13 _ (by decide) (by decide) (by decide)).trans ((hu11 _ (by decide) (by decide) (by decide)).trans rfl)) gPA (by decide) (by decide) rfl g2 gq2 b2 ?_
  case k6 => k_is
  case hB => rfl
  case f1 =>
    intro q hq
    rcases List.mem_append.mp hq with hq | hq
    · obtain ⟨q', hq', rfl⟩ := List.mem_map.mp hq
      exact (a1 q' hq').2.2.2.2.1
    rcases List.mem_append.mp hq with hq | hq
    · obtain ⟨q', hq', rfl⟩ := List.mem_map.mp hq
      exact (a0 q' hq').2.2.2.2.1
    exact off_nd (by exact nodup_idx up [8, 0, 9, 7, 6, 4, 3, 1, 2, 5] (by decide)) q hq
  case f2 =>
    intro q hq
    rcases List.mem_append.mp hq with hq | hq
    · obtain ⟨q', hq', rfl⟩ := List.mem_map.mp hq
      exact (a1 q' hq').1
    rcases List.mem_append.mp hq with hq | hq
    · obtain ⟨q', hq', rfl⟩ := List.mem_map.mp hq
      exact (a0 q' hq').1
    exact off_nd (by exact nodup_idx up [10, 0, 9, 7, 6, 4, 3, 1, 2, 5] (by decide)) q hq
  intro h15 tk15 qs2 n2 u2 F15 hu15 N15' ht2 hq2
  have eR : u2 (Str.ofString "rows") = some (.ref D) := (hu15 _ (by decide) (by decide) (by decide)).trans ((hu13 _ (by decide) (by decide) (by decide)).trans ((hu11 _ (by decide) (by decide) (by decide)).trans rfl))
  replace F15 := fr_at F15 eR
  clear F13 N14
  refine for_turn ?_
  refine wpAny_pyNext_list_end (items := #[.ref l0, .ref l1, .ref l2']) rfl ⟨_, News.get N15' (.head _), rfl, rfl⟩ ⟨_, News.get N15' (.tail _ (.tail _ (List.mem_append_right _ (List.mem_append_right _ (List.mem_append_right _ (.head _)))))), rfl, _, rfl⟩ rfl fun h17 e17 => ?_
  have zJ := N15' _ (.head _)
  have F17 := itEnd F15 zJ.1 zJ e17
  have a2 : ∀ q ∈ qs2, q.a ≠ J ∧ q.a ≠ x2 ∧ q.a ≠ x1 ∧ q.a ≠ x0 ∧ q.a ≠ d0 ∧ q.a ≠ d1 ∧ q.a ≠ d2 := fun q hq => by
    obtain ⟨z1, z2, z3⟩ := hq2 q hq
    have z4 : ∀ p ∈ [(D, lstO #[.ref l0, .ref l1, .ref l2'] 3), (l2', lstO #[.ref x2, .int 2 t2] 0), (d2, iniD w.params 2 tkc tic), (l1, lstO #[.ref x1, .int 1 t1] 0), (d1, iniD w.params 1 tkb tib), (l0, lstO #[.ref x0, .int 0 t0] 0), (d0, iniD w.params 0 tka tia), (x0, accO d0 (vals qs0) n0), (x1, accO d1 (vals qs1) n1)], p.1 ≠ q.a := fun p hp => z3 p (List.mem_append_right _ (List.mem_append_right _ hp))
    exact ⟨z1, z2, Ne.symm (z4 (x1, _) (by k_mem)), Ne.symm (z4 (x0, _) (by k_mem)), Ne.symm (z4 (d0, _) (by k_mem)), Ne.symm (z4 (d1, _) (by k_mem)), Ne.symm (z4 (d2, _) (by k_mem))⟩
  have N17 := itEndN (news' := (x2, accO d2 (vals qs2) n2) :: (pcs qs2 ++ (pcs qs1 ++ (pcs qs0 ++ [(D, lstO #[.ref l0, .ref l1, .ref l2'] 3), (l2', lstO #[.ref x2, .int 2 t2] 0), (d2, iniD w.params 2 tkc tic), (l1, lstO #[.ref x1, .int 1 t1] 0), (d1, iniD w.params 1 tkb tib), (l0, lstO #[.ref x0, .int 0 t0] 0), (d0, iniD w.params 0 tka tia), (x0, accO d0 (vals qs0) n0), (x1, accO d1 (vals qs1) n1)])))) N15' (I := J) e17 (fun p hp => .tail _ hp) (by
    refine all_cons (fun e => (List.nodup_cons.mp (nodup_idx up [8, 10] (by decide))).1 (e ▸ .head _)) fun q hq => ?_
    rcases List.mem_append.mp hq with hq | hq
    · obtain ⟨q', hq', rfl⟩ := List.mem_map.mp hq
      exact (a2 q' hq').1
    rcases List.mem_append.mp hq with hq | hq
    · obtain ⟨q', hq', rfl⟩ := List.mem_map.mp hq
      exact (a1 q' hq').1
    rcases List.mem_append.mp hq with hq | hq
    · obtain ⟨q', hq', rfl⟩ := List.mem_map.mp hq
      exact (a0 q' hq').1
    exact off_nd (by exact nodup_idx up [10, 0, 9, 7, 6, 4, 3, 1, 2, 5] (by decide)) q hq)
  clear F15 N15'
  dsimp only
  k_steps
  have mm : ∀ {p}, p ∈ [(D, lstO #[.ref l0, .ref l1, .ref l2'] 3), (l2', lstO #[.ref x2, .int 2 t2] 0), (d2, iniD w.params 2 tkc tic), (l1, lstO #[.ref x1, .int 1 t1] 0), (d1, iniD w.params 1 tkb tib), (l0, lstO #[.ref x0, .int 0 t0] 0), (d0, iniD w.params 0 tka tia), (x0, accO d0 (vals qs0) n0), (x1, accO d1 (vals qs1) n1)] → p ∈ (x2, accO d2 (vals qs2) n2) :: (pcs qs2 ++ (pcs qs1 ++ (pcs qs0 ++ [(D, lstO #[.ref l0, .ref l1, .ref l2'] 3), (l2', lstO #[.ref x2, .int 2 t2] 0), (d2, iniD w.params 2 tkc tic), (l1, lstO #[.ref x1, .int 1 t1] 0), (d1, iniD w.params 1 tkb tib), (l0, lstO #[.ref x0, .int 0 t0] 0), (d0, iniD w.params 0 tka tia), (x0, accO d0 (vals qs0) n0), (x1, accO d1 (vals qs1) n1)]))) := fun hp => .tail _ (List.mem_append_right _ (List.mem_append_right _ (List.mem_append_right _ hp)))
  have fr : ∀ {a : Addr} {o : Obj}, (a, o) ∈ (x2, accO d2 (vals qs2) n2) :: (pcs qs2 ++ (pcs qs1 ++ (pcs qs0 ++ [(D, lstO #[.ref l0, .ref l1, .ref l2'] 3), (l2', lstO #[.ref x2, .int 2 t2] 0), (d2, iniD w.params 2 tkc tic), (l1, lstO #[.ref x1, .int 1 t1] 0), (d1, iniD w.params 1 tkb tib), (l0, lstO #[.ref x0, .int 0 t0] 0), (d0, iniD w.params 0 tka tia), (x0, accO d0 (vals qs0) n0), (x1, accO d1 (vals qs1) n1)]))) → s.heap.get? a = none := fun hm => fresh_of G' N17 hm (by simp)
  have i0 : PcIn h17 qs0 := fun q hq => News.get N17 (.tail _ (List.mem_append_right _ (List.mem_append_right _ (List.mem_append_left _ (mem_pcs hq)))))
  have i1 : PcIn h17 qs1 := fun q hq => News.get N17 (.tail _ (List.mem_append_right _ (List.mem_append_left _ (mem_pcs hq))))
  have i2 : PcIn h17 qs2 := fun q hq => News.get N17 (.tail _ (List.mem_append_left _ (mem_pcs hq)))
  refine k h17 _ D 3 ⟨l0, x0, d0, 0, t0, 0, n0, qs0, iniD w.params 0 tka tia⟩ ⟨l1, x1, d1, 1, t1, 0, n1, qs1, iniD w.params 1 tkb tib⟩ ⟨l2', x2, d2, 2, t2, 0, n2, qs2, iniD w.params 2 tkc tic⟩ (ext_of G' F17)
    ⟨News.get N17 (mm (.head _)), ⟨⟨News.get N17 (mm (by k_mem)), News.get N17 (mm (by k_mem)), News.get N17 (mm (by k_mem)), by simp, i0⟩, ⟨News.get N17 (mm (by k_mem)), News.get N17 (mm (by k_mem)), News.get N17 (mm (by k_mem)), by simp, i1⟩, ⟨News.get N17 (mm (by k_mem)), News.get N17 (.head _), News.get N17 (mm (by k_mem)), by simp, i2⟩⟩,
      ⟨⟨rfl, _, _, rfl⟩, ⟨rfl, _, _, rfl⟩, ⟨rfl, _, _, rfl⟩⟩, ⟨up.1, up.2.1, up.2.2.1, up.2.2.2.1, up.2.2.2.2.1, up.2.2.2.2.2.1, up.2.2.2.2.2.2.1, up.2.2.2.2.2.2.2.1, up.2.2.2.2.2.2.2.2.1⟩, ?_, ?_, ?_⟩ ht0 ht1 ht2
  · exact all_app (all_app (fun q hq => have z := a0 q hq; all_cons (Ne.symm z.2.2.2.2.2.2.2.2.2.2) (all_cons (Ne.symm z.2.1) (all_cons (Ne.symm z.2.2.2.2.2.2.2.2.1) (all_cons (Ne.symm z.2.2.2.2.2.2.2.1) (all_cons (Ne.symm z.2.2.2.2.2.1) (all_cons (Ne.symm z.2.2.2.2.1) all_nil)))))) (fun q hq => have z := a1 q hq; all_cons (Ne.symm z.2.2.2.2.2.2.2.2.2.2) (all_cons (Ne.symm z.2.2.2.2.2.2.2.1) (all_cons (Ne.symm z.2.2.2.2.2.2.2.2.1) (all_cons (Ne.symm z.2.1) (all_cons (Ne.symm z.2.2.2.2.2.1) (all_cons (Ne.symm z.2.2.2.2.1) all_nil))))))) (fun q hq => have z := a2 q hq; all_cons (Ne.symm z.2.2.2.2.1) (all_cons (Ne.symm z.2.2.2.1) (all_cons (Ne.symm z.2.2.2.2.2.1) (all_cons (Ne.symm z.2.2.1) (all_cons (Ne.symm z.2.2.2.2.2.2) (all_cons (Ne.symm z.2.1) all_nil))))))
  · exact all_cons (fr (mm (.head _))) (all_cons (fr (o := lstO #[.ref x0, .int 0 t0] 0) (mm (by k_mem))) (all_cons (fr (o := accO d0 (vals qs0) n0) (mm (by k_mem))) (all_cons (fr (o := iniD w.params 0 tka tia) (mm (by k_mem))) (all_cons (fr (o := lstO #[.ref x1, .int 1 t1] 0) (mm (by k_mem))) (all_cons (fr (o := accO d1 (vals qs1) n1) (mm (by k_mem))) (all_cons (fr (o := iniD w.params 1 tkb tib) (mm (by k_mem))) (all_cons (fr (o := lstO #[.ref x2, .int 2 t2] 0) (mm (by k_mem))) (all_cons (fr (o := accO d2 (vals qs2) n2) (.head _)) (all_cons (fr (o := iniD w.params 2 tkc tic) (mm (by k_mem))) all_nil)))))))))
  · exact all_app (all_app (fun _ hq => fr (.tail _ (List.mem_append_right _ (List.mem_append_right _ (List.mem_append_left _ (mem_pcs hq)))))) (fun _ hq => fr (.tail _ (List.mem_append_right _ (List.mem_append_left _ (mem_pcs hq)))))) (fun _ hq => fr (.tail _ (List.mem_append_left _ (mem_pcs hq))))
end Mine
end SL6

section SJ3
namespace Mine
theorem small_down {a : Nat} (h : a ≤ 12) : Builtin.Range.small (a : Int) (-1) (-1) = true ∧ Builtin.Range.rangeSize (a : Int) (-1) (-1) = ((a + 1 : Nat) : Int) :=
  (by decide +kernel : ∀ a : Fin 13, Builtin.Range.small ((a.val : Nat) : Int) (-1) (-1) = true ∧ Builtin.Range.rangeSize ((a.val : Nat) : Int) (-1) (-1) = ((a.val + 1 : Nat) : Int)) ⟨a, Nat.lt_succ_of_le h⟩
noncomputable def Tab (w0 w1 w2 : Str) (kvs : List (Int × Value)) (D : Nat → Nat → Nat → Prop) : Prop := ∀ i' j' k', i' ≤ w0.length → j' ≤ w1.length → k' ≤ w2.length → D i' j' k' → CellAt w0 w1 w2 kvs i' j' k'
theorem valueAt_cons (a : Int) (b : Value) (kvs : List (Int × Value)) (k' : Int) : valueAt ((a, b) :: kvs) k' = if a = k' then some b else valueAt kvs k' := by
  unfold valueAt
  rw [List.find?_cons]
  by_cases h : a = k'
  · simp [h]
  · simp [h]
theorem valueAt_map (k k' : Int) (v : Value) : ∀ kvs : List (Int × Value), kvs.any (fun kv => kv.1 = k) = true → valueAt (kvs.map (fun kv => if kv.1 = k then (kv.1, v) else kv)) k' = if k' = k then some v else valueAt kvs k'
  | [], h => by simp at h
  | (a, b) :: kvs, h => by
    rw [List.map_cons]
    by_cases hak : a = k
    · subst hak
      simp only [if_true]
      rw [valueAt_cons, valueAt_cons]
      by_cases h1 : a = k'
      · simp [h1]
      · rw [if_neg h1, if_neg h1, if_neg (Ne.symm h1)]
        by_cases h2 : kvs.any (fun kv => kv.1 = a) = true
        · have := valueAt_map a k' v kvs h2
          rw [if_neg (Ne.symm h1)] at this
          exact this
        · have e : kvs.map (fun kv => if kv.1 = a then (kv.1, v) else kv) = kvs := by
            refine (List.map_congr_left (g := id) fun kv hkv => ?_).trans (List.map_id _)
            have : ¬ kv.1 = a := fun q => h2 (List.any_eq_true.mpr ⟨kv, hkv, decide_eq_true q⟩)
            simp [this]
          rw [e]
    · simp only [if_neg hak]
      have h2 : kvs.any (fun kv => kv.1 = k) = true := by simpa [hak] using h
      rw [valueAt_cons, valueAt_cons, valueAt_map k k' v kvs h2]
      by_cases h1 : a = k'
      · subst h1; simp [hak]
      · rw [if_neg h1, if_neg h1]
theorem valueAt_snoc (k k' : Int) (v : Value) : ∀ kvs : List (Int × Value), ¬ kvs.any (fun kv => kv.1 = k) = true → valueAt (kvs ++ [(k, v)]) k' = if k' = k then some v else valueAt kvs k'
  | [], _ => by
    rw [List.nil_append, valueAt_cons]
    by_cases h : k = k'
    · simp [h]
    · rw [if_neg h, if_neg (Ne.symm h)]
  | (a, b) :: kvs, h => by
    have h1 : ¬ a = k := fun q => h (by simp [q])
    have h2 : ¬ kvs.any (fun kv => kv.1 = k) = true := fun q => h (by rw [List.any_cons, q, Bool.or_true])
    rw [List.cons_append, valueAt_cons, valueAt_cons, valueAt_snoc k k' v kvs h2]
    by_cases h3 : a = k'
    · subst h3; simp [h1]
    · rw [if_neg h3, if_neg h3]
theorem valueAt_stored (kvs : List (Int × Value)) (k k' : Int) (v : Value) : valueAt (stored kvs k v) k' = if k' = k then some v else valueAt kvs k' := by
  unfold stored
  split
  · rename_i h; exact valueAt_map k k' v kvs h
  · rename_i h; exact valueAt_snoc k k' v kvs h
theorem stored_len (kvs : List (Int × Value)) (k : Int) (v : Value) : (stored kvs k v).length ≤ kvs.length + 1 := by
  unfold stored
  split <;> simp
theorem kk_inj {i j k i' j' k' : Nat} (hj : j ≤ 12) (hk : k ≤ 12) (hj' : j' ≤ 12) (hk' : k' ≤ 12) (h : kk i j k = kk i' j' k') : i = i' ∧ j = j' ∧ k = k' := by
  unfold kk at h
  omega
theorem tab_store {w0 w1 w2 : Str} {kvs : List (Int × Value)} {D D' : Nat → Nat → Nat → Prop} {i j k : Nat} {v : Str} {t : Tok} (b1 : w1.length ≤ 12) (b2 : w2.length ≤ 12) (hj : j ≤ w1.length) (hk : k ≤ w2.length)
    (h : Tab w0 w1 w2 kvs D) (hv : Lst (lcp w0 i) (lcp w1 j) (lcp w2 k) v.cps.toList) (hD : ∀ i' j' k', i' ≤ w0.length → j' ≤ w1.length → k' ≤ w2.length → D' i' j' k' → (i' = i ∧ j' = j ∧ k' = k) ∨ D i' j' k') : Tab w0 w1 w2 (stored kvs (kk i j k) (.str v t)) D' := by
  intro i' j' k' a b c d
  by_cases e : i' = i ∧ j' = j ∧ k' = k
  · obtain ⟨rfl, rfl, rfl⟩ := e
    exact ⟨v, t, by rw [valueAt_stored, if_pos rfl], hv⟩
  · obtain ⟨v', t', h1, h2⟩ := h i' j' k' a b c ((hD i' j' k' a b c d).resolve_left e)
    refine ⟨v', t', ?_, h2⟩
    rw [valueAt_stored, if_neg (fun q => e (kk_inj (by omega) (by omega) (by omega) (by omega) q)), h1]
inductive KJ (w : World) (g : Heap) (L td I : Addr) (fz : List (Addr × Obj)) (w0 w1 w2 : Str) (m : Str → Option Value) (kl i j : Nat) (s : Shared) (t : Nat) (s' : Shared) : Prop
  | mk (h : Heap) (tk : Nat) (o : Obj) (kvs : List (Int × Value)) (u : Str → Option Value) (_ : s' = { s with heap := h, toks := tk })
      (_ : Fr g L h u)
      (_ : (∀ y, y ≠ Str.ofString "ways" → y ≠ Str.ofString "k" → u y = m y))
      (_ : News g L h ((td, o) :: (I, ritO ((w2.length : Int) + (-1) * t) (((w2.length + 1 : Nat) : Int) - t) (-1)) :: fz))
      (_ : o.IsDictOf (PySem.intKind Challenge.rw_nb0220_01.row.prog w) kvs)
      (_ : kvs.length ≤ kl + t)
      (_ : Tab w0 w1 w2 kvs (fun i' j' k' => i < i' ∨ (i = i' ∧ (j < j' ∨ (j = j' ∧ w2.length < k' + t))))) : KJ w g L td I fz w0 w1 w2 m kl i j s t s'
theorem least_k {p : Program} {loose : List Str} {mean : ExcName → Option Value} {mg mb : Str → Option Value} {w : World} {dp un : Nat} {gd : Option (List Code)} {outer : List Env} {base g : Heap} {s : Shared} {E : Value → Shared → Prop} {Q : Flow → Shared → Prop}
    {name qual : Str} {params : Arguments} {body B : List Stmt} {scope : Scope} {cl : List (Str × Addr)} {dV kV doc pm cdv ct oc : Value} {an od : Option Addr} {osl : Array (Option Value)} {L : Addr}
    (ho : (k0.heap_1 w.params).lookup 200 = some ⟨oc, od, .func (fnX name qual params body scope cl dV kV doc pm an cdv ct), osl⟩) (hB : B = forBody (forBody body 2) 0)
    {m : Str → Option Value} {td : Addr} {w0 w1 w2 : Str} {t0 t1 t2 ti tj : Tok} {i j : Nat} {o : Obj} {kvs : List (Int × Value)} {fz : List (Addr × Obj)}
    (Bl : Below (aT dp un gd outer) base outer g) (X : (k0.heap_1 w.params).In g) (T : Top p loose mean mg mb g) (hd : dp + 8 < recursionLimit) (hu : un + 80 < cLine)
    (F : Fr g L s.heap m) (N : News g L s.heap ((td, o) :: fz)) (hfz : ∀ q ∈ fz, q.1 ≠ td) (hdo : o.IsDictOf (PySem.intKind Challenge.rw_nb0220_01.row.prog w) kvs) (hkl : kvs.length ≤ 8000)
    (e1 : m (Str.ofString "first") = some (.str w0 t0)) (e2 : m (Str.ofString "second") = some (.str w1 t1)) (e3 : m (Str.ofString "third") = some (.str w2 t2)) (e4 : m (Str.ofString "table") = some (.ref td))
    (e5 : m (Str.ofString "i") = some (.int i ti)) (e6 : m (Str.ofString "j") = some (.int j tj))
    (b0 : w0.length ≤ 12) (b1 : w1.length ≤ 12) (b2 : w2.length ≤ 12) (hi : i ≤ w0.length) (hj : j ≤ w1.length)
    (hT : Tab w0 w1 w2 kvs (fun i' j' _ => i < i' ∨ (i = i' ∧ j < j')))
    (kont : ∀ h tk o' kvs' u, Fr g L h u → (∀ y, y ≠ Str.ofString "ways" → y ≠ Str.ofString "k" → u y = m y) → News g L h ((td, o') :: fz) → o'.IsDictOf (PySem.intKind Challenge.rw_nb0220_01.row.prog w) kvs' → kvs'.length ≤ kvs.length + 13 → Tab w0 w1 w2 kvs' (fun i' j' _ => i < i' ∨ (i = i' ∧ j ≤ j')) → Q .next { s with heap := h, toks := tk }) :
    wpAny (model Challenge.rw_nb0220_01.row.prog w) ((aT dp un gd outer).deeper (envX qual scope L 200 cdv cl)) (execs B (envX qual scope L 200 cdv cl)) Q E s := by
  w_on
  have ho0 := fn_ho (least_eq ho) ho
  refine fn_execs (fun b => forBody (forBody b 2) 0) hB (least_eq ho) ?_
  conv in (forBody _ _) => whnf
  conv in (FuncData.scope _) => whnf
  replace F := fr_at F e3
  refine wpAny_execs_cons ?_
  refine wpAny_For ?_
  k_steps
  rename_i hh _ _ _ _ hR FR NR _
  refine wpAny_pyIter_range hR (small_down b2).1 ?_
  rw [(small_down b2).2]
  obtain ⟨F2, N2, l2⟩ := pushIt FR NR (ritO (w2.length : Int) ((w2.length + 1 : Nat) : Int) (-1))
  clear FR NR hR
  generalize hI : hh.objs.size = I at *
  have tI : td ≠ I := Nat.ne_of_lt (l2 _ (.head _))
  have fI : ∀ q ∈ fz, q.1 ≠ I := fun q hq => Nat.ne_of_lt (l2 q (.tail _ hq))
  have hfz' : ∀ {x left : Int}, ∀ q ∈ (I, ritO x left (-1)) :: fz, q.1 ≠ td := by
    refine all_cons (Ne.symm tI) fun q hq => ?_
    · exact hfz q hq
  refine for_rng (w2.length : Int) (-1) (w2.length + 1) (KJ w g L td I fz w0 w1 w2 m kvs.length i j s) rfl ?hI ?turn ?done (w2.length + 1) 0 _ (by simp) ?h0
  case hI =>
    intro t s' hJ
    obtain ⟨h, tk, o, kvs, u, rfl, F, _, N, _⟩ := hJ
    exact News.get N (.tail _ (.head _))
  case h0 =>
    refine ⟨_, _, o, kvs, _, rfl, F2, ?_, ?_, hdo, Nat.le_refl _, ?_⟩
    · intro y _ _
      by_cases h3 : y = Str.ofString "third"
      · rw [if_pos h3, h3, e3]
      · rw [if_neg h3]
    · refine all_cons (N2 _ (.tail _ (.head _))) fun q hq => ?_
      rcases List.mem_cons.mp hq with rfl | hq
      · have := N2 _ (.head _)
        simpa using this
      · exact N2 _ (.tail _ (.tail _ hq))
    · intro i' j' k' a b c d
      refine hT i' j' k' a b c ?_
      rcases d with d | ⟨d, d' | ⟨_, d'⟩⟩
      · exact .inl d
      · exact .inr ⟨d, d'⟩
      · omega
  case done =>
    intro s' h' hJ e
    obtain ⟨h, tk, o', kvs', u, rfl, F, hu', N, hd', hl', hT'⟩ := hJ
    have zI := N (I, _) (.tail _ (.head _))
    refine wpAny_execs_nil (kont h' _ o' kvs' u (itEnd F zI.1 zI e) hu' (itEndN N (I := I) e (fun p hp => ?_) fun p hp => ?_) hd' (by omega) ?_)
    · rcases List.mem_cons.mp hp with rfl | hp
      · exact .head _
      · exact .tail _ (.tail _ hp)
    · rcases List.mem_cons.mp hp with rfl | hp
      · exact tI
      · exact fI p hp
    · intro i' j' k' a b c d
      refine hT' i' j' k' a b c ?_
      rcases d with d | ⟨d, d'⟩
      · exact .inl d
      · rcases Nat.lt_or_eq_of_le d' with d' | d'
        · exact .inr ⟨d, .inl d'⟩
        · exact .inr ⟨d, .inr ⟨d', by omega⟩⟩
  case turn =>
    intro t s' h' ht hJ eI sb
    obtain ⟨h, tk, o', kvs', u, rfl, F, hu', N, hd', hl', hT'⟩ := hJ
    obtain ⟨F3, N3⟩ := back1 F N (.tail tI (.head fI)) (fun b o e hb => sb.extBut b o (by simpa using hb) e) eI
    clear F N F2 N2
    refine wpAny_of_eq rfl ?_
    refine wpAny_assign_Name ?_
    have ek : (w2.length : Int) + (-1) * (t : Int) = ((w2.length - t : Nat) : Int) := by omega
    rw [ek]
    walk1
    rename_i h4 F4 N4
    refine least_cell (k := w2.length - t) (kvs := kvs') (t0 := t0) (t1 := t1) (t2 := t2) (ti := ti) (tj := tj) ho0 rfl Bl X T hd hu F4 N4 hfz' hd' (by omega) ?_ ?_ ?_ ?_ ?_ ?_ (if_pos rfl) b0 b1 b2 hi hj (by omega) (fun i' j' k' a b c d => hT' i' j' k' a b c ?_) ?_
    · exact if_skip (by decide) ((hu' _ (by decide) (by decide)).trans e1)
    · exact if_skip (by decide) ((hu' _ (by decide) (by decide)).trans e2)
    · exact if_skip (by decide) ((hu' _ (by decide) (by decide)).trans e3)
    · exact if_skip (by decide) ((hu' _ (by decide) (by decide)).trans e4)
    · exact if_skip (by decide) ((hu' _ (by decide) (by decide)).trans e5)
    · exact if_skip (by decide) ((hu' _ (by decide) (by decide)).trans e6)
    · rcases d with d | ⟨d, d' | ⟨d', d''⟩⟩
      · exact .inl d
      · exact .inr ⟨d, .inl d'⟩
      · exact .inr ⟨d, .inr ⟨d', by omega⟩⟩
    intro h5 tk5 v tv o5 u5 F5 hu5 N5 hd5 hL5
    refine ⟨h5, tk5, o5, _, u5, rfl, F5, (fun y y1 y2 => by rw [hu5 y y1, if_neg y2]; exact hu' y y1 y2), N5, hd5, ?_, ?_⟩
    · have := stored_len kvs' (kk i j (w2.length - t : Nat)) (.str v tv)
      omega
    · refine tab_store b1 b2 hj (by omega) hT' hL5 ?_
      intro i' j' k' a b c d
      rcases d with d | ⟨d, d' | ⟨d', d''⟩⟩
      · exact .inr (.inl d)
      · exact .inr (.inr ⟨d, .inl d'⟩)
      · by_cases q : k' = w2.length - t
        · exact .inl ⟨d.symm, d'.symm, q⟩
        · exact .inr (.inr ⟨d, .inr ⟨d', by omega⟩⟩)
end Mine
end SJ3

section SJ4
namespace Mine
inductive JJ (w : World) (g : Heap) (L td I : Addr) (fz : List (Addr × Obj)) (w0 w1 w2 : Str) (m : Str → Option Value) (kl i : Nat) (s : Shared) (t : Nat) (s' : Shared) : Prop
  | mk (h : Heap) (tk : Nat) (o : Obj) (kvs : List (Int × Value)) (u : Str → Option Value) (_ : s' = { s with heap := h, toks := tk })
      (_ : Fr g L h u)
      (_ : (∀ y, y ≠ Str.ofString "ways" → y ≠ Str.ofString "k" → y ≠ Str.ofString "j" → u y = m y))
      (_ : News g L h ((td, o) :: (I, ritO ((w1.length : Int) + (-1) * t) (((w1.length + 1 : Nat) : Int) - t) (-1)) :: fz))
      (_ : o.IsDictOf (PySem.intKind Challenge.rw_nb0220_01.row.prog w) kvs)
      (_ : kvs.length ≤ kl + 13 * t)
      (_ : Tab w0 w1 w2 kvs (fun i' j' _ => i < i' ∨ (i = i' ∧ w1.length < j' + t))) : JJ w g L td I fz w0 w1 w2 m kl i s t s'
theorem least_j {p : Program} {loose : List Str} {mean : ExcName → Option Value} {mg mb : Str → Option Value} {w : World} {dp un : Nat} {gd : Option (List Code)} {outer : List Env} {base g : Heap} {s : Shared} {E : Value → Shared → Prop} {Q : Flow → Shared → Prop}
    {name qual : Str} {params : Arguments} {body B : List Stmt} {scope : Scope} {cl : List (Str × Addr)} {dV kV doc pm cdv ct oc : Value} {an od : Option Addr} {osl : Array (Option Value)} {L : Addr}
    (ho : (k0.heap_1 w.params).lookup 200 = some ⟨oc, od, .func (fnX name qual params body scope cl dV kV doc pm an cdv ct), osl⟩) (hB : B = forBody body 2)
    {m : Str → Option Value} {td : Addr} {w0 w1 w2 : Str} {t0 t1 t2 ti : Tok} {i : Nat} {o : Obj} {kvs : List (Int × Value)} {fz : List (Addr × Obj)}
    (Bl : Below (aT dp un gd outer) base outer g) (X : (k0.heap_1 w.params).In g) (T : Top p loose mean mg mb g) (hd : dp + 8 < recursionLimit) (hu : un + 80 < cLine)
    (F : Fr g L s.heap m) (N : News g L s.heap ((td, o) :: fz)) (hfz : ∀ q ∈ fz, q.1 ≠ td) (hdo : o.IsDictOf (PySem.intKind Challenge.rw_nb0220_01.row.prog w) kvs) (hkl : kvs.length ≤ 7000)
    (e1 : m (Str.ofString "first") = some (.str w0 t0)) (e2 : m (Str.ofString "second") = some (.str w1 t1)) (e3 : m (Str.ofString "third") = some (.str w2 t2)) (e4 : m (Str.ofString "table") = some (.ref td))
    (e5 : m (Str.ofString "i") = some (.int i ti))
    (b0 : w0.length ≤ 12) (b1 : w1.length ≤ 12) (b2 : w2.length ≤ 12) (hi : i ≤ w0.length)
    (hT : Tab w0 w1 w2 kvs (fun i' _ _ => i < i'))
    (kont : ∀ h tk o' kvs' u, Fr g L h u → (∀ y, y ≠ Str.ofString "ways" → y ≠ Str.ofString "k" → y ≠ Str.ofString "j" → u y = m y) → News g L h ((td, o') :: fz) → o'.IsDictOf (PySem.intKind Challenge.rw_nb0220_01.row.prog w) kvs' → kvs'.length ≤ kvs.length + 169 → Tab w0 w1 w2 kvs' (fun i' _ _ => i ≤ i') → Q .next { s with heap := h, toks := tk }) :
    wpAny (model Challenge.rw_nb0220_01.row.prog w) ((aT dp un gd outer).deeper (envX qual scope L 200 cdv cl)) (execs B (envX qual scope L 200 cdv cl)) Q E s := by
  w_on
  have ho0 := fn_ho (least_eq ho) ho
  refine fn_execs (fun b => forBody b 2) hB (least_eq ho) ?_
  conv in (forBody _ _) => whnf
  conv in (FuncData.scope _) => whnf
  replace F := fr_at F e2
  refine wpAny_execs_cons ?_
  refine wpAny_For ?_
  k_steps
  rename_i hh _ _ _ _ hR FR NR _
  refine wpAny_pyIter_range hR (small_down b1).1 ?_
  rw [(small_down b1).2]
  obtain ⟨F2, N2, l2⟩ := pushIt FR NR (ritO (w1.length : Int) ((w1.length + 1 : Nat) : Int) (-1))
  clear FR NR hR
  generalize hI : hh.objs.size = I at *
  have tI : td ≠ I := Nat.ne_of_lt (l2 _ (.head _))
  have fI : ∀ q ∈ fz, q.1 ≠ I := fun q hq => Nat.ne_of_lt (l2 q (.tail _ hq))
  have hfz' : ∀ {x left : Int}, ∀ q ∈ (I, ritO x left (-1)) :: fz, q.1 ≠ td := by
    refine all_cons (Ne.symm tI) fun q hq => ?_
    · exact hfz q hq
  refine for_rng (w1.length : Int) (-1) (w1.length + 1) (JJ w g L td I fz w0 w1 w2 m kvs.length i s) rfl ?hI ?turn ?done (w1.length + 1) 0 _ (by simp) ?h0
  case hI =>
    intro t s' hJ
    obtain ⟨h, tk, o, kvs, u, rfl, F, _, N, _⟩ := hJ
    exact News.get N (.tail _ (.head _))
  case h0 =>
    refine ⟨_, _, o, kvs, _, rfl, F2, ?_, ?_, hdo, Nat.le_refl _, ?_⟩
    · intro y _ _ _
      by_cases h3 : y = Str.ofString "second"
      · rw [if_pos h3, h3, e2]
      · rw [if_neg h3]
    · refine all_cons (N2 _ (.tail _ (.head _))) fun q hq => ?_
      rcases List.mem_cons.mp hq with rfl | hq
      · have := N2 _ (.head _)
        simpa using this
      · exact N2 _ (.tail _ (.tail _ hq))
    · intro i' j' k' a b c d
      refine hT i' j' k' a b c ?_
      rcases d with d | ⟨d, d'⟩
      · exact d
      · omega
  case done =>
    intro s' h' hJ e
    obtain ⟨h, tk, o', kvs', u, rfl, F, hu', N, hd', hl', hT'⟩ := hJ
    have zI := N (I, _) (.tail _ (.head _))
    refine wpAny_execs_nil (kont h' _ o' kvs' u (itEnd F zI.1 zI e) hu' (itEndN N (I := I) e (fun p hp => ?_) fun p hp => ?_) hd' (by omega) ?_)
    · rcases List.mem_cons.mp hp with rfl | hp
      · exact .head _
      · exact .tail _ (.tail _ hp)
    · rcases List.mem_cons.mp hp with rfl | hp
      · exact tI
      · exact fI p hp
    · intro i' j' k' a b c d
      refine hT' i' j' k' a b c ?_
      rcases Nat.lt_or_eq_of_le d with d | d
      · exact .inl d
      · exact .inr ⟨d, by omega⟩
  case turn =>
    intro t s' h' ht hJ eI sb
    obtain ⟨h, tk, o', kvs', u, rfl, F, hu', N, hd', hl', hT'⟩ := hJ
    obtain ⟨F3, N3⟩ := back1 F N (.tail tI (.head fI)) (fun b o e hb => sb.extBut b o (by simpa using hb) e) eI
    clear F N F2 N2
    refine wpAny_of_eq rfl ?_
    refine wpAny_assign_Name ?_
    have ek : (w1.length : Int) + (-1) * (t : Int) = ((w1.length - t : Nat) : Int) := by omega
    rw [ek]
    walk1
    rename_i h4 F4 N4
    refine least_k (j := w1.length - t) (kvs := kvs') (t0 := t0) (t1 := t1) (t2 := t2) (ti := ti) ho0 rfl Bl X T hd hu F4 N4 hfz' hd' (by omega) ?_ ?_ ?_ ?_ ?_ (if_pos rfl) b0 b1 b2 hi (by omega) (fun i' j' k' a b c d => hT' i' j' k' a b c ?_) ?_
    · exact if_skip (by decide) ((hu' _ (by decide) (by decide) (by decide)).trans e1)
    · exact if_skip (by decide) ((hu' _ (by decide) (by decide) (by decide)).trans e2)
    · exact if_skip (by decide) ((hu' _ (by decide) (by decide) (by decide)).trans e3)
    · exact if_skip (by decide) ((hu' _ (by decide) (by decide) (by decide)).trans e4)
    · exact if_skip (by decide) ((hu' _ (by decide) (by decide) (by decide)).trans e5)
    · rcases d with d | ⟨d, d'⟩
      · exact .inl d
      · exact .inr ⟨d, by omega⟩
    intro h5 tk5 o5 kvs5 u5 F5 hu5 N5 hd5 hl5 hT5
    refine ⟨h5, tk5, o5, kvs5, u5, rfl, F5, (fun y y1 y2 y3 => by rw [hu5 y y1 y2, if_neg y3]; exact hu' y y1 y2 y3), N5, hd5, by omega, ?_⟩
    intro i' j' k' a b c d
    refine hT5 i' j' k' a b c ?_
    rcases d with d | ⟨d, d'⟩
    · exact .inl d
    · exact .inr ⟨d, by omega⟩
end Mine
end SJ4

section SJ5
namespace Mine
section
variable {prog : Program} {w : World} {A : Around} {E : Value → Shared → Prop} {s : Shared}
theorem unpack3 {t : Addr} {n : Nat} {a b c : Value} {Q : List Value → Shared → Prop} (hh : A.handled = none) (ht : s.heap.get? t = some (lstO #[a, b, c] n))
    (hQ : ∀ h', Heap.ExtBut s.heap.objs.size s.heap h' → Q [a, b, c] { s with heap := h' }) : wpAny (model prog w) A (unpackItems (.ref t) 3 none) Q E s := by
  have hlt : t ≠ s.heap.objs.size := Nat.ne_of_lt (Heap.lt_size ht)
  have hl : s.heap.IsList t #[a, b, c] := ⟨_, ht, rfl, _, rfl⟩
  unfold unpackItems
  refine wpAny_bind ?_
  unfold notIterableAtAll
  refine wpAny_bind (wpAny_specialOf (T := "list") ⟨_, ht, rfl⟩ slot_list_iter.lookup ?_)
  refine wpAny_pure ?_
  simp only [Bool.false_eq_true, if_false]
  refine wpAny_bind (wpAny_holding (wpAny_pyIter_list hl ?_))
  generalize hI : s.heap.objs.size = I at hlt hQ ⊢
  generalize hH : s.heap.push { cls := .type "list_iterator", data := .fields #[.ref t, .int 0 0] } = H
  have h0 : H.get? I = some (litO t 0) := by rw [← hH, ← hI]; exact Heap.get?_push_size _ rfl
  have k0 : ∀ b o, s.heap.get? b = some o → H.get? b = some o := fun b o e => by rw [← hH]; exact Heap.get?_push_of_some _ e
  refine wpAny_bind (wpAny_holding ?_)
  unfold draw
  refine wpAny_bind (next_list h0 ⟨_, k0 _ _ ht, rfl, _, rfl⟩ (x := a) rfl fun h1 e1 s1 => ?_)
  dsimp only
  have t1 : h1.get? t = some (lstO #[a, b, c] n) := s1.extBut _ _ hlt (k0 _ _ ht)
  refine wpAny_bind (wpAny_holding ?_)
  unfold draw
  refine wpAny_bind (next_list e1 ⟨_, t1, rfl, _, rfl⟩ (x := b) rfl fun h2 e2 s2 => ?_)
  dsimp only
  have t2 : h2.get? t = some (lstO #[a, b, c] n) := s2.extBut _ _ hlt t1
  refine wpAny_bind (wpAny_holding ?_)
  unfold draw
  refine wpAny_bind (next_list e2 ⟨_, t2, rfl, _, rfl⟩ (x := c) rfl fun h3 e3 s3 => ?_)
  dsimp only
  refine wpAny_bind (wpAny_holding ?_)
  unfold draw
  refine wpAny_pure (wpAny_pure (wpAny_pure (wpAny_pure ?_)))
  have t3 : h3.get? t = some (lstO #[a, b, c] n) := s3.extBut _ _ hlt t2
  rw [if_neg (by simp)]
  refine wpAny_bind (wpAny_holding (wpAny_pyNext_list_end (items := #[a, b, c]) hh ⟨_, e3, rfl, rfl⟩ ⟨_, t3, rfl, _, rfl⟩ rfl fun h4 e4 => ?_))
  simp only [Option.isSome_none, Bool.false_eq_true, if_false]
  exact wpAny_pure (hQ h4 fun b o hb e => e4 b o hb (s3.extBut b o hb (s2.extBut b o hb (s1.extBut b o hb (k0 b o e)))))
theorem assign3L {env : Env} {xa xb xc : Str} {pa pb pc pos : Pos} {kt : Nat} {t : Addr} {n : Nat} {a b c : Value} {Q : Unit → Shared → Prop} {h₀ : Heap} {L : Addr} {m : Str → Option Value} {news : List (Addr × Obj)} (hh : A.handled = none) (F : Fr h₀ L s.heap m) (N : News h₀ L s.heap news)
    (ht : s.heap.get? t = some (lstO #[a, b, c] n)) (hL : env.locals = L) (ka : env.kindOf xa = some .local) (kb : env.kindOf xb = some .local) (kc : env.kindOf xc = some .local) (hp : (env.scope.kind == .class || (env.scope.kind == .module && env.locals != env.globals)) = false)
    (h : ∀ h' tk, Fr h₀ L h' (fun y => if y = xc then some c else if y = xb then some b else if y = xa then some a else m y) → News h₀ L h' news → Q () { s with heap := h', toks := tk }) :
    wpAny (model prog w) A (assign (.Tuple [.Name xa pa, .Name xb pb, .Name xc pc] kt pos) env (.ref t)) Q E s := by
  subst hL
  rw [PyProof.Rows.assign_Tuple]
  refine wpAny_bind (wpAny_standAt ?_)
  unfold unpack
  show wpAny _ _ (do assignInOrder ((assignEach [.Name xa pa, .Name xb pb, .Name xc pc] env).map (·.2)) (← holding [.ref t] (unpackItems (.ref t) 3 none))) _ _ _
  refine wpAny_bind (wpAny_holding (unpack3 hh ht fun h1 e1 => ?_))
  have up : ∀ b o, s.heap.get? b = some o → h1.get? b = some o := fun b o e => e1 b o (Nat.ne_of_lt (Heap.lt_size e)) e
  have F1 : Fr h₀ env.locals h1 m := F.kept up
  have N1 : News h₀ env.locals h1 news := N.grown up
  show wpAny _ _ (do holding [b, c] (assign (.Name xa pa) env a); do holding [c] (assign (.Name xb pb) env b); do holding [] (assign (.Name xc pc) env c); pure ()) _ _ _
  refine wpAny_bind (wpAny_holding (wpAny_assign_Name (wpAny_storeName_local ka F1.ns (fun h₂ hn₂ hs₂ => ?_) hp)))
  have F2 := F1.set hn₂ hs₂
  have N2 := N1.set hs₂
  refine wpAny_bind (wpAny_holding (wpAny_assign_Name (wpAny_storeName_local kb F2.ns (fun h₃ hn₃ hs₃ => ?_) hp)))
  have F3 := F2.set hn₃ hs₃
  have N3 := N2.set hs₃
  refine wpAny_bind (wpAny_holding (wpAny_assign_Name (wpAny_storeName_local kc F3.ns (fun h₄ hn₄ hs₄ => ?_) hp)))
  exact wpAny_pure (h h₄ _ (F3.set hn₄ hs₄) (N3.set hs₄))
end
inductive IJ (w : World) (g : Heap) (L td I : Addr) (w0 w1 w2 : Str) (m : Str → Option Value) (s : Shared) (t : Nat) (s' : Shared) : Prop
  | mk (h : Heap) (tk : Nat) (o : Obj) (kvs : List (Int × Value)) (u : Str → Option Value) (_ : s' = { s with heap := h, toks := tk })
      (_ : Fr g L h u)
      (_ : (∀ y, y ≠ Str.ofString "ways" → y ≠ Str.ofString "k" → y ≠ Str.ofString "j" → y ≠ Str.ofString "i" → u y = m y))
      (_ : News g L h ((td, o) :: [(I, ritO ((w0.length : Int) + (-1) * t) (((w0.length + 1 : Nat) : Int) - t) (-1))]))
      (_ : o.IsDictOf (PySem.intKind Challenge.rw_nb0220_01.row.prog w) kvs)
      (_ : kvs.length ≤ 169 * t)
      (_ : Tab w0 w1 w2 kvs (fun i' _ _ => w0.length < i' + t)) : IJ w g L td I w0 w1 w2 m s t s'
theorem law_least {p : Program} {loose : List Str} {mean : ExcName → Option Value} {mg mb : Str → Option Value} {w : World} {dp un : Nat} {gd : Option (List Code)} {outer : List Env} {base H : Heap} {s : Shared} {R : Result → Shared → Prop}
    {WA : Addr} {nw : Nat} {w0 w1 w2 : Str} {t0 t1 t2 : Tok}
    (C : Cx p loose mean mg mb w (aT dp un gd outer) base outer H) (st : H.StaysIn s.heap) (hd : dp + 12 < recursionLimit) (hu : un + 120 < cLine)
    (hW : s.heap.get? WA = some (lstO #[.str w0 t0, .str w1 t1, .str w2 t2] nw)) (b0 : w0.length ≤ 12) (b1 : w1.length ≤ 12) (b2 : w2.length ≤ 12)
    (k : ∀ h' tk' v t, ExtL [] s.heap h' → Lst w0.cps.toList w1.cps.toList w2.cps.toList v.cps.toList → R (.ok (.ret (.str v t))) { s with heap := h', toks := tk' }) :
    codeAny (model Challenge.rw_nb0220_01.row.prog w) (aT dp un gd outer) (.call (.ref 200) ⟨[.ref WA], []⟩) R s := by
  w_on
  have hled : ∀ q ∈ ([] : List (Addr × Obj)), s.heap.get? q.1 = some q.2 ∧ H.get? q.1 = none := fun q hq => nomatch hq
  refine' enter (binds := [(Str.ofString "words", .ref WA)]) C st hled ?k6 ?k7 ?k8 ?k9 ?kB ?_ ?c5 ?c2 ?c3 ?c4
  (((case k6 => k_is); (case k7 => k_is); (case k8 => exact Nat.lt_of_le_of_lt (Nat.le_add_right _ _) hd); (case k9 => exact BindsTo.of_eq rfl); (case kB => exact locs rfl); (case c5 => decide); (case c2 => exact rfl); (case c3 => exact rfl); (case c4 => exact rfl)))
  intro g' L' h' F' N' B' X' T' G'
  have gW := G' _ _ hW (by simp)
  have il : g'.IsList WA #[.str w0 t0, .str w1 t1, .str w2 t2] := ⟨_, gW, rfl, _, rfl⟩
  (try dsimp only)
  (try k_fold)
  iterate 3 walk1
  refine assign3L rfl F' N' (F'.keep _ _ gW) rfl rfl rfl rfl rfl ?_
  intro h2 tk2 F2 N2
  clear F' N'
  dsimp only
  iterate 5 walk1
  rename_i td h3 o3 lo3 _ _ hi3 _ _ h4 F4 N4
  refine wpAny_For ?_
  k_steps
  rename_i hh _ _ _ _ hR FR NR _
  refine wpAny_pyIter_range hR (small_down b0).1 ?_
  rw [(small_down b0).2]
  obtain ⟨F5, N5, l5⟩ := pushIt FR NR (ritO (w0.length : Int) ((w0.length + 1 : Nat) : Int) (-1))
  clear FR NR hR
  generalize hI : hh.objs.size = I at *
  have tI : td ≠ I := Nat.ne_of_lt (l5 _ (.head _))
  have hfz' : ∀ {x left : Int}, ∀ q ∈ [(I, ritO x left (-1))], q.1 ≠ td := fun q hq => by
    rw [List.mem_singleton.mp hq]; exact Ne.symm tI
  refine for_rng (w0.length : Int) (-1) (w0.length + 1) (IJ w g' L' td I w0 w1 w2 (fun y => if y = Str.ofString "table" then some (Value.ref td) else if y = Str.ofString "third" then some (Value.str w2 t2) else if y = Str.ofString "second" then some (Value.str w1 t1) else if y = Str.ofString "first" then some (Value.str w0 t0) else List.lookup y [(Str.ofString "words", Value.ref WA)].reverse) s) rfl ?hI ?turn ?done (w0.length + 1) 0 _ (by simp) ?h0
  case hI =>
    intro t s' hJ
    obtain ⟨h, tk, o, kvs, u, rfl, F, _, N, _⟩ := hJ
    exact News.get N (.tail _ (.head _))
  case h0 =>
    refine ⟨_, _, o3, [], _, rfl, F5, (fun _ _ _ _ _ => rfl), ?_, hi3, Nat.zero_le _, ?_⟩
    · refine all_cons (N5 _ (.tail _ (.head _))) fun q hq => ?_
      · rw [List.mem_singleton.mp hq]
        have := N5 _ (.head _)
        simpa using this
    · intro i' j' k' a b c d
      omega
  case turn =>
    intro t s' h' ht hJ eI sb
    obtain ⟨h, tk, o', kvs', u, rfl, F, hu', N, hd', hl', hT'⟩ := hJ
    obtain ⟨F6, N6⟩ := back1 F N (.tail tI (.head fun _ hq => nomatch hq)) (fun b o e hb => sb.extBut b o (by simpa using hb) e) eI
    clear F N F5 N5
    refine wpAny_of_eq rfl ?_
    refine wpAny_assign_Name ?_
    have ek : (w0.length : Int) + (-1) * (t : Int) = ((w0.length - t : Nat) : Int) := by omega
    rw [ek]
    walk1
    rename_i h7 F7 N7
    refine' least_j (i := w0.length - t) (kvs := kvs') (t0 := t0) (t1 := t1) (t2 := t2) ?k6 ?hB B' X' T' (room 4 hd) (room 40 hu) F7 N7 hfz' hd' (by omega) ?_ ?_ ?_ ?_ (if_pos rfl) b0 b1 b2 (by omega) (fun i' j' k' a b c d => hT' i' j' k' a b c (by omega)) ?_
    case k6 => k_is
    case hB => rfl
    · exact if_skip (by decide) ((hu' _ (by decide) (by decide) (by decide) (by decide)).trans rfl)
    · exact if_skip (by decide) ((hu' _ (by decide) (by decide) (by decide) (by decide)).trans rfl)
    · exact if_skip (by decide) ((hu' _ (by decide) (by decide) (by decide) (by decide)).trans rfl)
    · exact if_skip (by decide) ((hu' _ (by decide) (by decide) (by decide) (by decide)).trans rfl)
    intro h8 tk8 o8 kvs8 u8 F8 hu8 N8 hd8 hl8 hT8
    refine ⟨h8, tk8, o8, kvs8, u8, rfl, F8, (fun y y1 y2 y3 y4 => by rw [hu8 y y1 y2 y3, if_neg y4]; exact hu' y y1 y2 y3 y4), N8, hd8, by omega, ?_⟩
    intro i' j' k' a b c d
    exact hT8 i' j' k' a b c (by omega)
  case done =>
    intro s' h' hJ e
    obtain ⟨h, tk, o', kvs', u, rfl, F, hu', N, hd', hl', hT'⟩ := hJ
    have zI := N (I, _) (.tail _ (.head _))
    have et : u (Str.ofString "table") = some (.ref td) := (hu' _ (by decide) (by decide) (by decide) (by decide)).trans rfl
    have F8 := fr_at (itEnd F zI.1 zI e) et
    have N8 := itEndN (news' := [(td, o')]) N (I := I) e (fun p hp => by rw [List.mem_singleton.mp hp]; exact .head _) (fun p hp => by rw [List.mem_singleton.mp hp]; exact tI)
    clear F N F5 N5
    obtain ⟨v, tv, hv, hL⟩ := hT' 0 0 0 (Nat.zero_le _) (Nat.zero_le _) (Nat.zero_le _) (by omega)
    dsimp only
    iterate 5 walk1
    refine kda_item (knd := PySem.intKind _ _) N8 (.head _) hd' (intKind_is _ _ _ _) (v := .str v tv) (by simpa [kk] using hv) ?_
    k_steps
    exact k _ _ v tv (ext_of G' F8) (by simpa [lcp] using hL)
end Mine
end SJ5

section SW7
namespace Mine
theorem fr_swap {g h : Heap} {L : Addr} {m : Str → Option Value} {x y : Str} {v z : Value} (F : Fr g L h (fun u => if u = y then some z else if u = x then some v else m u)) (e : m x = some v) : Fr g L h (fun u => if u = y then some z else m u) := by
  have : (fun u => if u = y then some z else if u = x then some v else m u) = (fun u => if u = y then some z else m u) := by
    funext u
    by_cases hy : u = y
    · rw [if_pos hy, if_pos hy]
    · rw [if_neg hy, if_neg hy]
      by_cases hx : u = x
      · rw [if_pos hx, hx]; exact e.symm
      · rw [if_neg hx]
  exact this ▸ F
theorem swap_ok {p : Program} {loose : List Str} {mean : ExcName → Option Value} {mg mb : Str → Option Value} {w : World} {dp un : Nat} {gd : Option (List Code)} {outer : List Env} {base g : Heap} {s : Shared} {E : Value → Shared → Prop} {Q : Flow → Shared → Prop}
    {name qual : Str} {params : Arguments} {body : List Stmt} {S : Stmt} {scope : Scope} {cl : List (Str × Addr)} {dV kV doc pm cdv ct oc : Value} {an od : Option Addr} {osl : Array (Option Value)} {L : Addr}
    (ho : (k0.heap_1 w.params).lookup 205 = some ⟨oc, od, .func (fnX name qual params body scope cl dV kV doc pm an cdv ct), osl⟩) (hS : S = stAt (whileBody body 8) 11)
    {m : Str → Option Value} {RA hA : Addr} {nr nh : Nat} {ra : Array Value} {tj' : Tok} {r : Rw} {e0 : En} {es : List En} {p70 : Array Value} {fz : List (Addr × Obj)}
    (Bl : Below (aT dp un gd outer) base outer g) (X : (k0.heap_1 w.params).In g) (T : Top p loose mean mg mb g) (hd : dp + 28 < recursionLimit) (hu : un + 280 < cLine)
    (F : Fr g L s.heap m) (N : News g L s.heap ((hA, lstO (refsE (e0 :: es)) nh) :: (70, tblO p70) :: fz)) (hp70 : TabOk posStr p70) (hA7 : hA ≠ 70) (hfh : ∀ q ∈ fz, q.1 ≠ hA) (hf7 : ∀ q ∈ fz, q.1 ≠ 70)
    (e1 : m (Str.ofString "rows") = some (.ref RA)) (e2 : m (Str.ofString "place") = some (.int r.j tj')) (e3 : m (Str.ofString "heap") = some (.ref hA)) (e4 : m (Str.ofString "row") = some (.ref r.x))
    (hRA : (RA, lstO ra nr) ∈ fz) (hra : ra[r.j.toNat]? = some (.ref r.l)) (hj0 : 0 ≤ r.j) (hj2 : r.j ≤ 2) (hr : RwN fz r) (hsm : r.Sm) (hno : lookIn "part_count" r.od = some none)
    (he : ∀ e ∈ es, (e.a, e.obj) ∈ fz) (h3 : es.length ≤ 2) (hj : (r.j :: es.map (·.j)).Nodup)
    (kont : ∀ s' es' nh' p70' fz' , Fr g L s'.heap (fun z => if z = Str.ofString "gone" then some (.ref e0.a) else m z) → News g L s'.heap ((hA, lstO (refsE es') nh') :: (70, tblO p70') :: (fz' ++ fz)) → TabOk posStr p70' → Gs s s' → Hp es' → (∀ q ∈ fz', q.1 ≠ hA ∧ q.1 ≠ 70 ∧ ∀ p ∈ fz, p.1 ≠ q.1) →
      ((r.qs = [] ∧ es'.Perm es ∧ fz' = []) ∨ (r.qs ≠ [] ∧ ∃ en : En, en.kp = r.kp ∧ es'.Perm (en :: es) ∧ fz' = [(en.a, en.obj)])) → Q .next s') :
    wpAny (model Challenge.rw_nb0220_01.row.prog w) ((aT dp un gd outer).deeper (envX qual scope L 205 cdv cl)) (exec S (envX qual scope L 205 cdv cl)) Q E s := by
  w_on
  refine fn_exec (fun b => stAt (whileBody b 8) 11) hS (law_eq ho) ?_
  conv in (stAt _ _) => whnf
  conv in (lawScope _) => whnf
  replace F := fr_at F e1
  replace F := fr_at F (x := Str.ofString "place") (v := .int r.j tj') (if_skip (by decide) e2)
  replace F := fr_at F (x := Str.ofString "heap") (v := .ref hA) (if_skip (by decide) (if_skip (by decide) e3))
  replace F := fr_at F (x := Str.ofString "row") (v := .ref r.x) (if_skip (by decide) (if_skip (by decide) (if_skip (by decide) e4)))
  have gl := fun {q : Addr × Obj} (hm : q ∈ fz) => (N q (.tail _ (.tail _ hm))).1
  iterate 4 walk1
  refine' acc_method (X.keeps F.keep) (gl hr.2.1) (gl hr.2.2.1) ?a4 ?a5 ?a7 hno ?_
  case a4 => k_is
  case a5 => k_is
  case a7 => decide +kernel
  iterate 1 walk1
  refine use_call Bl F N X T rfl rfl ?_
  intro H9 C9 st9 f9 G9
  refine part_count C9 st9 (room 25 hd) (room 257 hu) (z := r.qs.length) (by rw [vals_size]) (gl hr.2.1) (gl hr.2.2.1) ?_
  intro h2 tk2 t2 hx2
  obtain ⟨F2, N2⟩ := back0 F N hx2
  clear F N C9 st9 f9 G9
  have gl2 := fun {q : Addr × Obj} (hm : q ∈ fz) => (N2 q (.tail _ (.tail _ hm))).1
  (try dsimp only)
  iterate 4 walk1
  · rename_i hlen
    iterate 18 walk1
    refine item_at (v := .ref r.l) (gl2 hRA) hj0 (by omega) hra ?_
    walk1
    refine ⟨X.keeps F2.keep, ?_⟩
    refine use_call Bl F2 N2 X T rfl rfl ?_
    intro H9 C9 st9 f9 G9
    refine rest_row C9 st9 (room 21 hd) (room 217 hu) ⟨gl2 hr.1, gl2 hr.2.1, gl2 hr.2.2.1, hr.2.2.2.1, fun q hq => gl2 (hr.2.2.2.2 q hq)⟩ hsm (News.get N2 (.tail _ (.head _))) hp70 (f9 (70, tblO p70) (.tail _ (.head _))) ?_
    intro s3 t3 p73 hx3 ho3 hp73 gs3
    obtain ⟨F3, N3⟩ := backL (news' := (hA, lstO (refsE (e0 :: es)) nh) :: (70, tblO p73) :: fz) F2 N2 hx3 (by
      intro a ha
      rw [List.mem_singleton.mp ha]
      exact ⟨_, .tail _ (.head _)⟩) (by
      intro q hq
      simp only [List.mem_cons, List.not_mem_nil, or_false]
      rcases List.mem_cons.mp hq with rfl | hq
      · exact .inl ⟨.inl rfl, hA7⟩
      rcases List.mem_cons.mp hq with rfl | hq
      · exact .inr ⟨rfl, ho3⟩
      · exact .inl ⟨.inr (.inr hq), hf7 q hq⟩)
    clear F2 N2 C9 st9 f9 G9 gl2 gl
    (try dsimp only)
    iterate 5 walk1
    rename_i en h4 F4 N4 l4
    have hq0 : r.qs ≠ [] := fun e => by rw [e] at hlen; simp at hlen
    have l4f : ∀ q ∈ fz, q.1 ≠ en := allLt_ne l4.2.2
    have l4h : hA ≠ en := Nat.ne_of_lt l4.1
    have l47 : (70 : Addr) ≠ en := Nat.ne_of_lt l4.2.1
    refine ⟨X.keeps F4.keep, ?_⟩
    refine use_call Bl F4 N4 X T rfl rfl ?_
    intro H9 C9 st9 f9 G9
    refine hp_repl (e := ⟨en, r.key, t3, r.j, tj', 0⟩) C9 st9 (room 21 hd) (room 217 hu) (News.get N4 (.tail _ (.head _))) (f9 (hA, _) (.tail _ (.head _))) ?_ ?_ h3 (by simpa using hj) ?_
    · intro e he'
      rcases List.mem_cons.mp he' with rfl | he'
      · exact News.get N4 (.head _)
      · exact News.get N4 (.tail _ (.tail _ (.tail _ (he e he'))))
    · intro e he'
      rcases List.mem_cons.mp he' with rfl | he'
      · exact Ne.symm l4h
      · exact hfh _ (he e he')
    intro h5 tk5 es' nh' hx5 ho5 hpm hHp
    have o7 : ∀ q ∈ (70, tblO p73) :: fz, q.1 ≠ hA := by
      refine all_cons (Ne.symm hA7) fun q hq => ?_
      · exact hfh q hq
    obtain ⟨F5, N5⟩ := back1 F4 N4 (.tail (Ne.symm l4h) (.head o7)) hx5 ho5
    clear F4 N4 C9 st9 f9 G9
    (try dsimp only)
    k_steps
    rename_i h6 F6 N6
    refine kont _ es' nh' p73 [(en, lstO #[.str r.key t3, .int r.j tj'] 0)] ?_ (fun q hq => N6 q ?_) hp73 ⟨gs3.1, gs3.2⟩ hHp (fun q hq => ?_) (.inr ⟨hq0, ⟨en, r.key, t3, r.j, tj', 0⟩, rfl, hpm, rfl⟩)
    · refine fr_swap (fr_swap (fr_swap (fr_swap F6 ?_) ?_) ?_) e1
      · exact if_skip (by decide) (if_skip (by decide) (if_skip (by decide) e4))
      · exact if_skip (by decide) (if_skip (by decide) e3)
      · exact if_skip (by decide) e2
    · rcases List.mem_cons.mp hq with rfl | hq
      · exact .tail _ (.head _)
      rcases List.mem_cons.mp hq with rfl | hq
      · exact .tail _ (.tail _ (.head _))
      rcases List.mem_cons.mp hq with rfl | hq
      · exact .head _
      · exact .tail _ (.tail _ (.tail _ hq))
    · rw [List.mem_singleton.mp hq]
      exact ⟨Ne.symm l4h, Ne.symm l47, l4f⟩
  · rename_i hlen
    have hq0 : r.qs = [] := by
      cases hq : r.qs with
      | nil => rfl
      | cons a b => rw [hq] at hlen; exact absurd (by simp) hlen
    iterate 8 walk1
    refine ⟨X.keeps F2.keep, ?_⟩
    refine use_call Bl F2 N2 X T rfl rfl ?_
    intro H9 C9 st9 f9 G9
    refine hp_pop C9 st9 (room 21 hd) (room 217 hu) (News.get N2 (.head _)) (f9 (hA, _) (.head _)) (fun e he' => gl2 (he e he')) (fun e he' => hfh _ (he e he')) h3 (List.nodup_cons.mp hj).2 ?_
    intro h3' tk3 es' nh' hx3 ho3 hpm hHp
    have o7 : ∀ q ∈ (70, tblO p70) :: fz, q.1 ≠ hA := by
      refine all_cons (Ne.symm hA7) fun q hq => ?_
      · exact hfh q hq
    obtain ⟨F3, N3⟩ := back1 F2 N2 (.head o7) hx3 ho3
    clear F2 N2 C9 st9 f9 G9 gl2 gl
    (try dsimp only)
    k_steps
    rename_i h4 F4 N4
    refine kont _ es' nh' p70 [] ?_ N4 hp70 ⟨id, rfl⟩ hHp (fun q hq => nomatch hq) (.inl ⟨hq0, hpm, rfl⟩)
    refine fr_swap (fr_swap (fr_swap (fr_swap F4 ?_) ?_) ?_) e1
    · exact if_skip (by decide) (if_skip (by decide) (if_skip (by decide) e4))
    · exact if_skip (by decide) (if_skip (by decide) e3)
    · exact if_skip (by decide) e2
end Mine
end SW7

section SW8
namespace Mine
theorem ne_pair {prog : Program} {w : World} {A : Around} {E : Value → Shared → Prop} {s : Shared} {l b : Addr} {x : Str} {j : Int} {t1 t2 t3 t4 : Tok} {n k : Nat} {Q : Value → Shared → Prop} (hl : s.heap.get? l = some (lstO #[.str x t1, .int j t2] n)) (hb : s.heap.get? b = some (lstO #[.str x t3, .int j t4] k)) (hu : A.units < cLine)
    (h : Q (.bool false) s) : wpAny (model prog w) A (compareOp .NotEq (.ref l) (.ref b)) Q E s := by
  refine PySem.SeqAt.RcNeAt.lists (A := A) (s := s) (items := #[.str x t1, .int j t2]) (items2 := #[.str x t3, .int j t4]) (e := fun _ => true) ⟨_, hl, rfl, _, rfl⟩ ⟨_, hb, rfl, _, rfl⟩ rfl hu (fun i i1 i2 => by
    have hi : i = 0 ∨ i = 1 := by simp at i1; omega
    rcases hi with rfl | rfl
    · have := (PySem.SeqRoads2.EqGives.str x x t1 t3).at A.in1 s
      simpa using this
    · have := (PySem.MeetsSeq.EqGives.int j j t2 t4).at A.in1 s
      simpa using this) prog w E Q ?_
  exact h
theorem lenSum_nonneg (qs : List Pc) : 0 ≤ lenSum qs := by
  unfold lenSum
  induction qs with
  | nil => simp
  | cons q qs ih => simp only [List.map_cons, List.sum_cons]; omega
theorem last_ok {p : Program} {loose : List Str} {mean : ExcName → Option Value} {mg mb : Str → Option Value} {w : World} {dp un : Nat} {gd : Option (List Code)} {outer : List Env} {base g : Heap} {s : Shared} {E : Value → Shared → Prop} {Q : Flow → Shared → Prop}
    {name qual : Str} {params : Arguments} {body : List Stmt} {S : Stmt} {scope : Scope} {cl : List (Str × Addr)} {dV kV doc pm cdv ct oc : Value} {an od : Option Addr} {osl : Array (Option Value)} {L : Addr}
    (ho : (k0.heap_1 w.params).lookup 205 = some ⟨oc, od, .func (fnX name qual params body scope cl dV kV doc pm an cdv ct), osl⟩) (hS : S = stAt (whileBody body 8) 12)
    {m : Str → Option Value} {tx' tj' : Tok} {r : Rw} {e0 : En} {p63 : Array Value} {tk0 ti : Tok} {fz : List (Addr × Obj)}
    (Bl : Below (aT dp un gd outer) base outer g) (X : (k0.heap_1 w.params).In g) (T : Top p loose mean mg mb g) (hd : dp + 28 < recursionLimit) (hu : un + 280 < cLine)
    (F : Fr g L s.heap m) (N : News g L s.heap ((63, tblO p63) :: fz)) (hp63 : TabOk posLen p63) (hf6 : ∀ q ∈ fz, q.1 ≠ 63)
    (e1 : m (Str.ofString "gone") = some (.ref e0.a)) (e2 : m (Str.ofString "text") = some (.str e0.x tx')) (e3 : m (Str.ofString "place") = some (.int e0.j tj')) (e4 : m (Str.ofString "row") = some (.ref r.x))
    (he : (e0.a, e0.obj) ∈ fz) (hr : RwN fz r) (hsm : r.Sm) (hod : r.od = iniD w.params 0 tk0 ti) (hlen : (e0.x.length : Int) - 2 = lenSum r.qs) (hxl : e0.x.length ≤ 100)
    (kont : ∀ s' p63', Fr g L s'.heap m → News g L s'.heap ((63, tblO p63') :: fz) → TabOk posLen p63' → Gs s s' → Q .next s') :
    wpAny (model Challenge.rw_nb0220_01.row.prog w) ((aT dp un gd outer).deeper (envX qual scope L 205 cdv cl)) (exec S (envX qual scope L 205 cdv cl)) Q E s := by
  w_on
  refine fn_exec (fun b => stAt (whileBody b 8) 12) hS (law_eq ho) ?_
  conv in (stAt _ _) => whnf
  conv in (lawScope _) => whnf
  replace F := fr_at F e1
  replace F := fr_at F (x := Str.ofString "text") (v := .str e0.x tx') (if_skip (by decide) e2)
  replace F := fr_at F (x := Str.ofString "place") (v := .int e0.j tj') (if_skip (by decide) (if_skip (by decide) e3))
  replace F := fr_at F (x := Str.ofString "row") (v := .ref r.x) (if_skip (by decide) (if_skip (by decide) (if_skip (by decide) e4)))
  iterate 11 walk1
  rename_i T1 h1 F1 N1 l1
  refine ne_pair (x := e0.x) (j := e0.j) (News.get N1 (.tail _ (.tail _ he))) (News.get N1 (.head _)) (by show un + 3 < cLine; omega) ?_
  have N2 : News g L h1 ((63, tblO p63) :: fz) := fun q hq => N1 q (.tail _ hq)
  clear N1
  have gl := fun {q : Addr × Obj} (hm : q ∈ fz) => (N2 q (.tail _ hm)).1
  iterate 10 walk1
  refine' len_K F1 X (inst_acc (gl hr.2.1) (gl hr.2.2.1)) ?b1 ?b2 ?_
  case b1 => k_is
  case b2 => k_is
  refine use_callA (dp := dp + 1) (un := un + 3 + 1) Bl F1 N2 X T rfl rfl ?_
  intro H9 C9 st9 f9 G9
  refine len_acc (i := 0) (qs := r.qs) C9 st9 (room 23 hd) (room 236 hu) (gl hr.2.1) (by rw [← hod]; exact gl hr.2.2.1) (fun q hq => gl (hr.2.2.2.2 q hq)) hsm.1 (News.get N2 (.head _)) hp63 (f9 _ (.head _)) ?_
  intro s3 t3 p3 hx3 ho3 hp3 gs3
  obtain ⟨F3, N3⟩ := back1 F1 N2 (.head hf6) hx3 ho3
  clear F1 N2 C9 st9 f9 G9 gl
  dsimp only [PySem.W.LenBack]
  have hl0 : 0 ≤ lenSum r.qs ∧ lenSum r.qs < 2 ^ 63 := ⟨lenSum_nonneg _, by omega⟩
  refine ⟨by omega, ?_⟩
  k_steps
  · rename_i hn
    exact absurd (by omega) hn
  · refine kont _ p3 (fr_back (fr_back (fr_back (fr_back F3 ?_) ?_) ?_) e1) N3 hp3 ⟨gs3.1, gs3.2⟩
    · exact if_skip (by decide) (if_skip (by decide) (if_skip (by decide) e4))
    · exact if_skip (by decide) (if_skip (by decide) e3)
    · exact if_skip (by decide) e2
end Mine
end SW8

section SW9
namespace Mine
theorem top_ok {w : World} {dp un : Nat} {gd : Option (List Code)} {outer : List Env} {g : Heap} {s : Shared} {E : Value → Shared → Prop} {Q : Flow → Shared → Prop}
    {name qual : Str} {params : Arguments} {body : List Stmt} {S : Stmt} {scope : Scope} {cl : List (Str × Addr)} {dV kV doc pm cdv ct oc : Value} {an od : Option Addr} {osl : Array (Option Value)} {L : Addr}
    (ho : (k0.heap_1 w.params).lookup 205 = some ⟨oc, od, .func (fnX name qual params body scope cl dV kV doc pm an cdv ct), osl⟩) (hS : S = stAt (whileBody body 8) 0)
    {m : Str → Option Value} {hA : Addr} {nh : Nat} {e0 : En} {es : List En} {news : List (Addr × Obj)} (X : (k0.heap_1 w.params).In g)
    (F : Fr g L s.heap m) (N : News g L s.heap news) (e1 : m (Str.ofString "heap") = some (.ref hA)) (hh : (hA, lstO (refsE (e0 :: es)) nh) ∈ news) (he : (e0.a, e0.obj) ∈ news)
    (kont : ∀ h tk, Fr g L h (fun y => if y = Str.ofString "place" then some (.int e0.j e0.tj) else if y = Str.ofString "text" then some (.str e0.x e0.tx) else m y) → News g L h news → Q .next { s with heap := h, toks := tk }) :
    wpAny (model Challenge.rw_nb0220_01.row.prog w) ((aT dp un gd outer).deeper (envX qual scope L 205 cdv cl)) (exec S (envX qual scope L 205 cdv cl)) Q E s := by
  w_on
  refine fn_exec (fun b => stAt (whileBody b 8) 0) hS (law_eq ho) ?_
  conv in (stAt _ _) => whnf
  conv in (lawScope _) => whnf
  replace F := fr_at F e1
  iterate 4 walk1
  refine item_at (v := .ref e0.a) (News.get N hh) (by decide) (by decide) rfl ?_
  refine assign2L (a := .str e0.x e0.tx) (b := .int e0.j e0.tj) (n := e0.n) rfl F N (News.get N he) rfl rfl rfl rfl ?_
  intro h2 tk2 F2 N2
  refine kont h2 _ ?_ N2
  have e : (fun y => if y = Str.ofString "place" then some (Value.int e0.j e0.tj) else if y = Str.ofString "text" then some (.str e0.x e0.tx) else if y = Str.ofString "heap" then some (.ref hA) else m y) = (fun y => if y = Str.ofString "place" then some (.int e0.j e0.tj) else if y = Str.ofString "text" then some (.str e0.x e0.tx) else m y) := by
    funext z
    by_cases h1 : z = Str.ofString "place"
    · rw [if_pos h1, if_pos h1]
    rw [if_neg h1, if_neg h1]
    by_cases h2 : z = Str.ofString "text"
    · rw [if_pos h2, if_pos h2]
    rw [if_neg h2, if_neg h2]
    by_cases h3 : z = Str.ofString "heap"
    · rw [if_pos h3, h3, e1]
    rw [if_neg h3]
  rw [← e]; exact F2
end Mine
end SW9

section SX1
namespace Mine
section
variable {prog : Program} {w : World} {A : Around} {E : Value → Shared → Prop} {s : Shared} {h₀ : Heap} {L l : Addr} {m : Str → Option Value} {news : List (Addr × Obj)} {vs : Array Value} {nl : Nat} {env : Env} {scope : Scope} {cl : List (Str × Addr)} {x y : Str} {ifs : List Expr} {elt : Expr}
theorem compVK {Q : Value → Shared → Prop} (p : Value → Bool) (G : Value → Value → Prop) (hh : A.handled = none) (F : Fr h₀ L s.heap m) (N : News h₀ L s.heap news) (hl : s.heap.get? l = some (lstO vs nl)) (hsz : vs.size ≤ sizeLine)
    (hq : QuietOnC prog w A env scope cl x ifs elt [s.heap.objs.size] (fun i v => vs[i]? = some v) p G { s with heap := s.heap.push (litO l 0) })
    (hQ : ∀ D h' tk ys n', Fr h₀ L h' m → News h₀ L h' ((D, lstO ys n') :: news) → (∀ q ∈ news, q.1 ≠ D) → Paired G (vs.toList.filter p) ys.toList → (∀ b o, s.heap.get? b = some o → h'.get? b = some o) → Q (.ref D) { s with heap := h', toks := tk }) :
    wpAny (model prog w) A (pyIter (.ref l)) (fun it s₂ => ∃ I fp wr n P St, it = .ref I ∧ Walks prog w A I fp wr n P St ∧ n ≤ sizeLine ∧ St 0 s₂.heap ∧ (∀ b ∈ fp, b < s₂.heap.objs.size) ∧
      QuietOnC prog w A env scope cl x ifs elt wr P p G s₂ ∧
      (∀ D h' tk ys (vs : List Value), s₂.heap.get? D = none → h'.IsList D ys → h'.PlainList D ys → vs.length = n → (∀ j v, vs[j]? = some v → P j v) → Paired G (vs.filter p) ys.toList →
        (∀ b o, b ∉ wr → s₂.heap.get? b = some o → h'.get? b = some o) → Q (.ref D) { s₂ with heap := h', toks := tk })) E s := by
  have hlt : l < s.heap.objs.size := Heap.lt_size hl
  refine wpAny_pyIter_list ⟨_, hl, rfl, _, rfl⟩ ?_
  refine ex6 s.heap.objs.size _ _ _ _ _ ⟨rfl, Walks.list hh s.heap.objs.size l (Nat.ne_of_lt hlt) vs, hsz, ⟨⟨_, Heap.get?_push_size _ rfl, rfl, rfl⟩, ⟨_, Heap.get?_push_of_some _ hl, rfl, _, rfl⟩⟩, ?_, hq, ?_⟩
  · intro b hb
    show b < (s.heap.push _).objs.size
    rw [Heap.size_push]
    rcases List.mem_cons.mp hb with rfl | hb
    · exact Nat.lt_succ_self _
    · rw [List.mem_singleton.mp hb]; exact Nat.lt_succ_of_lt hlt
  · intro D h' tk ys us hD _ hpl hlen hP hF hk
    have hk0 : ∀ b o, s.heap.get? b = some o → h'.get? b = some o := fun b o e => hk b o (fun hm => by rw [List.mem_singleton.mp hm] at e; exact Nat.lt_irrefl _ (Heap.lt_size e)) (Heap.get?_push_of_some _ e)
    have hD0 : s.heap.get? D = none := by
      cases e : s.heap.get? D with
      | none => rfl
      | some o => have := Heap.get?_push_of_some (litO l 0) e; rw [show (s.heap.push (litO l 0)).get? D = none from hD] at this; cases this
    obtain ⟨n', hDn⟩ := hpl
    have us_eq : us = vs.toList := vs_of hlen hP
    subst us_eq
    refine hQ D h' tk ys n' (F.kept hk0) (fun q hq => ?_) (fun q hq e => by have := (N q hq).1; rw [e, hD0] at this; cases this) hF hk0
    rcases List.mem_cons.mp hq with rfl | hq
    · exact fresh_add F hD0 hDn
    · exact N.grown hk0 q hq
theorem comp_goneK {Q : Value → Shared → Prop} (p : Value → Bool) (G : Value → Value → Prop) (hh : A.handled = none) (F : Fr h₀ L s.heap m) (N : News h₀ L s.heap news) (hl : s.heap.get? l = some (lstO vs nl)) (hsz : vs.size ≤ sizeLine)
    (hq : QuietOnC prog w A env scope cl x ifs elt [s.heap.objs.size] (fun i v => vs[i]? = some v) p G { s with heap := s.heap.push (litO l 0) })
    (hQ : ∀ D h' tk ys n', Fr h₀ L h' m → News h₀ L h' ((D, lstO ys n') :: news) → (∀ q ∈ news, q.1 ≠ D) → Paired G (vs.toList.filter p) ys.toList → (∀ b o, s.heap.get? b = some o → h'.get? b = some o) → Q (.ref D) { s with heap := h', toks := tk }) :
    CompGo prog w A env scope cl x ifs elt p G Q E (.ref l) s := compVK p G hh F N hl hsz hq hQ
end
/-- a piece's letters as a text -/
noncomputable def Pc.tx1 (q : Pc) : Str := q.x ++ q.y
noncomputable def wordOf (qs : List Pc) : Str := Txt.join "" (qs.map Pc.tx1)
theorem paired_tx {g h : Heap} {L : Addr} {news : List (Addr × Obj)} (N : News g L h news) {qs : List Pc} (hq : ∀ q ∈ qs, (q.a, q.obj) ∈ news) : ∀ {ws : List Pc} {b : List Value}, (∀ q ∈ ws, q ∈ qs) → Paired (fun v y => ∃ q ∈ qs, v = .ref q.a ∧ ∃ t, y = .str q.tx1 t) (ws.map fun q => Value.ref q.a) b → StrsAre b (ws.map Pc.tx1)
  | [], b, _, hp => by cases hp; exact .nil
  | q :: ws, b, hw, hp => by
    rw [List.map_cons] at hp
    cases hp with
    | cons e hp =>
      obtain ⟨q', hq', e1, t, e2⟩ := e
      have ea : q.a = q'.a := by injection e1
      have eo : q.obj = q'.obj := by
        have h1 := N.get (hq q (hw q (.head _)))
        have h2 := N.get (hq q' hq')
        rw [ea, h2] at h1
        exact (Option.some.inj h1).symm
      have et : q.tx1 = q'.tx1 := by
        unfold Pc.obj at eo
        simp only [Obj.mk.injEq, Data.seq.injEq, and_true, true_and] at eo
        have x1 := congrArg (fun z : Array Value => z[0]?) eo
        have x2 := congrArg (fun z : Array Value => z[1]?) eo
        simp at x1 x2
        unfold Pc.tx1
        rw [x1.1, x2.1]
      subst e2
      rw [List.map_cons, et]
      exact .cons _ _ (paired_tx N hq (fun q hq => hw q (.tail _ hq)) hp)
theorem sum_tx : ∀ (qs : List Pc), (∀ q ∈ qs, q.ok) → ((qs.map Pc.tx1).map (·.length)).sum = qs.length
  | [], _ => rfl
  | q :: qs, h => by
    have e : q.tx1.length = 1 := by
      have := (h q (.head _)).1
      rw [List.length_append, ← len_cps, ← len_cps] at this
      have ea : ∀ a b : Str, (a ++ b).length = a.length + b.length := fun a b => by
        show (a.cps ++ b.cps).size = _
        rw [Array.size_append]; rfl
      unfold Pc.tx1
      rw [ea]; exact this
    rw [List.map_cons, List.map_cons, List.sum_cons, sum_tx qs (fun q hq => h q (.tail _ hq)), List.length_cons, e]
    omega
theorem words3 {P0 P1 P2 : Addr} {q0 q1 q2 : List Pc} (hd : P0 ≠ P1 ∧ P0 ≠ P2 ∧ P1 ≠ P2) {yl : List Value}
    (h : Paired (fun (v y : Value) => ∃ P qs t, v = .ref P ∧ y = .str (wordOf qs) t ∧ ((P = P0 ∧ qs = q0) ∨ (P = P1 ∧ qs = q1) ∨ (P = P2 ∧ qs = q2))) [.ref P0, .ref P1, .ref P2] yl) : ∃ t0 t1 t2, yl = [.str (wordOf q0) t0, .str (wordOf q1) t1, .str (wordOf q2) t2] := by
  cases h with
  | cons a0 h =>
    cases h with
    | cons a1 h =>
      cases h with
      | cons a2 h =>
        cases h
        obtain ⟨P, qs, t, z1, z2, z3⟩ := a0
        obtain ⟨P', qs', t', z1', z2', z3'⟩ := a1
        obtain ⟨P'', qs'', t'', z1'', z2'', z3''⟩ := a2
        have x := Value.ref.inj z1
        have x' := Value.ref.inj z1'
        have x'' := Value.ref.inj z1''
        have e : qs = q0 := by
          rcases z3 with ⟨_, h⟩ | ⟨z, _⟩ | ⟨z, _⟩
          · exact h
          · exact absurd (x.trans z) hd.1
          · exact absurd (x.trans z) hd.2.1
        have e' : qs' = q1 := by
          rcases z3' with ⟨z, _⟩ | ⟨_, h⟩ | ⟨z, _⟩
          · exact absurd (x'.trans z).symm hd.1
          · exact h
          · exact absurd (x'.trans z) hd.2.2
        have e'' : qs'' = q2 := by
          rcases z3'' with ⟨z, _⟩ | ⟨z, _⟩ | ⟨_, h⟩
          · exact absurd (x''.trans z).symm hd.2.1
          · exact absurd (x''.trans z).symm hd.2.2
          · exact h
        exact ⟨t, t', t'', by rw [z2, z2', z2'', e, e', e'']⟩
theorem words_ok {w : World} {dp un : Nat} {gd : Option (List Code)} {outer : List Env} {g : Heap} {s : Shared} {E : Value → Shared → Prop} {Q : Flow → Shared → Prop}
    {name qual : Str} {params : Arguments} {body : List Stmt} {S : Stmt} {scope : Scope} {cl : List (Str × Addr)} {dV kV doc pm cdv ct oc : Value} {an od : Option Addr} {osl : Array (Option Value)} {L : Addr}
    (ho : (k0.heap_1 w.params).lookup 205 = some ⟨oc, od, .func (fnX name qual params body scope cl dV kV doc pm an cdv ct), osl⟩) (hS : S = stAt body 2)
    {m : Str → Option Value} {PA P0 P1 P2 : Addr} {np n0 n1 n2 : Nat} {q0 q1 q2 : List Pc} {news : List (Addr × Obj)} (X : (k0.heap_1 w.params).In g)
    (F : Fr g L s.heap m) (N : News g L s.heap news) (e1 : m (Str.ofString "pieces") = some (.ref PA)) (hPA : (PA, lstO #[.ref P0, .ref P1, .ref P2] np) ∈ news)
    (h0 : (P0, lstO (vals q0) n0) ∈ news) (h1 : (P1, lstO (vals q1) n1) ∈ news) (h2 : (P2, lstO (vals q2) n2) ∈ news) (hd : P0 ≠ P1 ∧ P0 ≠ P2 ∧ P1 ≠ P2)
    (hq : ∀ q ∈ q0 ++ q1 ++ q2, (q.a, q.obj) ∈ news) (hok : ∀ q ∈ q0 ++ q1 ++ q2, q.ok) (b0 : q0.length ≤ 12) (b1 : q1.length ≤ 12) (b2 : q2.length ≤ 12)
    (kont : ∀ D h tk n t0 t1 t2, Fr g L h (fun z => if z = Str.ofString "words" then some (.ref D) else m z) → News g L h ((D, lstO #[.str (wordOf q0) t0, .str (wordOf q1) t1, .str (wordOf q2) t2] n) :: news) → (∀ q ∈ news, q.1 ≠ D) → Q .next { s with heap := h, toks := tk }) :
    wpAny (model Challenge.rw_nb0220_01.row.prog w) ((aT dp un gd outer).deeper (envX qual scope L 205 cdv cl)) (exec S (envX qual scope L 205 cdv cl)) Q E s := by
  w_on
  refine fn_exec (fun b => stAt b 2) hS (law_eq ho) ?_
  conv in (stAt _ _) => whnf
  conv in (lawScope _) => whnf
  replace F := fr_at F e1
  have look : ∀ v ∈ (#[.ref P0, .ref P1, .ref P2] : Array Value).toList, ∃ P n qs, v = .ref P ∧ (P, lstO (vals qs) n) ∈ news ∧ (∀ q ∈ qs, (q.a, q.obj) ∈ news ∧ q.ok) ∧ qs.length ≤ 12 ∧ ((P = P0 ∧ qs = q0) ∨ (P = P1 ∧ qs = q1) ∨ (P = P2 ∧ qs = q2)) := by
    intro v hv
    simp only [List.mem_cons, List.not_mem_nil, or_false] at hv
    rcases hv with rfl | rfl | rfl
    · exact ⟨P0, n0, q0, rfl, h0, fun q h => ⟨hq q (by simp [h]), hok q (by simp [h])⟩, b0, .inl ⟨rfl, rfl⟩⟩
    · exact ⟨P1, n1, q1, rfl, h1, fun q h => ⟨hq q (by simp [h]), hok q (by simp [h])⟩, b1, .inr (.inl ⟨rfl, rfl⟩)⟩
    · exact ⟨P2, n2, q2, rfl, h2, fun q h => ⟨hq q (by simp [h]), hok q (by simp [h])⟩, b2, .inr (.inr ⟨rfl, rfl⟩)⟩
  refine wpAny_Assign_ListComp_free (fun _ => true) (fun v y => ∃ P qs t, v = .ref P ∧ y = .str (wordOf qs) t ∧ ((P = P0 ∧ qs = q0) ∨ (P = P1 ∧ qs = q1) ∨ (P = P2 ∧ qs = q2))) (by with_unfolding_all rfl) (by with_unfolding_all rfl) (by decide) rfl (by decide) rfl rfl rfl ?_
  walk1
  refine compA (fun _ => true) _ rfl rfl F N (News.get N hPA) (by simp [sizeLine_eq]) (comp_quiet (fun _ => true) _ F N (News.get N hPA) ?test ?elt) ?_
  case test =>
    intro C v s₃ m₃ E' hv hn3 hm3 F3 N3 _
    exact wpAny_tests_nil ⟨rfl, s₃.heap, s₃.toks, rfl, fun _ _ e => e⟩
  case elt =>
    intro C v s₃ m₃ E' hv hp hn3 hm3 F3 N3
    obtain ⟨P, n, qs, rfl, hP, hqs, hl, hw⟩ := look v hv
    iterate 6 walk1
    refine comp_go (fun _ => true) (fun v y => ∃ q ∈ qs, v = .ref q.a ∧ ∃ t, y = .str q.tx1 t) (by with_unfolding_all rfl) (by decide) rfl (by decide) rfl ?_
    refine nameC_L hn3 hm3 ?_ rfl rfl (by decide)
    refine comp_goneK (vs := vals qs) (nl := n) (news := news) (fun _ => true) _ rfl (by exact F3) (by exact N3) (by exact News.get N3 hP) (by rw [vals_size, sizeLine_eq]; omega) (comp_quiet (nl := n) (news := news) (fun _ => true) _ (by exact F3) (by exact N3) (by exact News.get N3 hP) ?test2 ?elt2) ?_
    case test2 =>
      intro C v s₃ m₃ E' hv hn3 hm3 F3 N3 _
      exact wpAny_tests_nil ⟨rfl, s₃.heap, s₃.toks, rfl, fun _ _ e => e⟩
    case elt2 =>
      intro C4 v4 s4 m4 E4 hv4 hp4 hn4 hm4 F4 N4
      simp only [vals, List.mem_map] at hv4
      obtain ⟨q, hq', rfl⟩ := hv4
      have gq : s4.heap.get? q.a = some { cls := .type "tuple", data := .seq #[.str q.x q.tx, .str q.y q.ty] } := News.get N4 (hqs q hq').1
      have hlen := (hqs q hq').2.1
      rw [List.length_append, ← len_cps, ← len_cps] at hlen
      iterate 2 walk1
      refine nameC_L hn4 hm4 ?_ rfl rfl (by decide)
      walk1
      refine tup_at (v := .str q.x q.tx) gq (by decide) (by decide) rfl ?_
      walk1
      refine nameC_L hn4 hm4 ?_ rfl rfl (by decide)
      walk1
      refine tup_at (v := .str q.y q.ty) gq (by decide) (by decide) rfl ?_
      refine SBL.add (fun t' k' _ => ?_) (by rw [sizeLine_eq]; omega)
      exact ⟨⟨q, hq', rfl, t', rfl⟩, s4.heap, _, rfl, fun _ _ e => e⟩
    intro D4 h4 tk4 ys4 n4 F4 N4 hD4 hP4 hk4
    have ef : (vals qs).toList.filter (fun _ => true) = qs.map fun q => Value.ref q.a := by
      rw [List.filter_eq_self.mpr (fun _ _ => rfl)]
      rfl
    rw [ef] at hP4
    have hst := paired_tx N (fun q hq => (hqs q hq).1) (fun q hq => hq) hP4
    walk1
    refine join_listW (x := "") (ys := qs.map Pc.tx1) ⟨_, News.get N4 (.head _), rfl, _, rfl⟩ hst (by decide) ?_ ?_
    · have := sum_tx qs (fun q hq => (hqs q hq).2)
      rw [List.length_map]; omega
    intro t' k'
    exact ⟨⟨P, qs, t', rfl, rfl, hw⟩, h4, _, rfl, hk4⟩
  intro D h' tk ys n' F5 N5 hD hP
  have ef : (#[.ref P0, .ref P1, .ref P2] : Array Value).toList.filter (fun _ => true) = [.ref P0, .ref P1, .ref P2] := rfl
  rw [ef] at hP
  obtain ⟨t0, t1, t2, hys⟩ := words3 hd hP
  have ey : ys = #[.str (wordOf q0) t0, .str (wordOf q1) t1, .str (wordOf q2) t2] := Array.ext' hys
  subst ey
  exact kont D h' tk n' t0 t1 t2 (fr_swap F5 e1) N5 hD
end Mine
end SX1

section SX2
namespace Mine
theorem push_ok {p : Program} {loose : List Str} {mean : ExcName → Option Value} {mg mb : Str → Option Value} {w : World} {dp un : Nat} {gd : Option (List Code)} {outer : List Env} {base g : Heap} {s : Shared} {E : Value → Shared → Prop} {Q : Flow → Shared → Prop}
    {name qual : Str} {params : Arguments} {body B : List Stmt} {scope : Scope} {cl : List (Str × Addr)} {dV kV doc pm cdv ct oc : Value} {an od : Option Addr} {osl : Array (Option Value)} {L : Addr}
    (ho : (k0.heap_1 w.params).lookup 205 = some ⟨oc, od, .func (fnX name qual params body scope cl dV kV doc pm an cdv ct), osl⟩) (hB : B = forBody body 6)
    {m : Str → Option Value} {hA WA : Addr} {nh nw : Nat} {wsA : Array Value} {wd : Str} {tw tk0 ti : Tok} {r : Rw} {es : List En} {p63 p70 : Array Value} {fz : List (Addr × Obj)}
    (Bl : Below (aT dp un gd outer) base outer g) (X : (k0.heap_1 w.params).In g) (T : Top p loose mean mg mb g) (hd : dp + 28 < recursionLimit) (hu : un + 280 < cLine)
    (F : Fr g L s.heap m) (N : News g L s.heap ((hA, lstO (refsE es) nh) :: (63, tblO p63) :: (70, tblO p70) :: fz)) (hp63 : TabOk posLen p63) (hp70 : TabOk posStr p70) (hA6 : hA ≠ 63) (hA7 : hA ≠ 70) (hfh : ∀ q ∈ fz, q.1 ≠ hA) (hf6 : ∀ q ∈ fz, q.1 ≠ 63) (hf7 : ∀ q ∈ fz, q.1 ≠ 70)
    (e1 : m (Str.ofString "pair") = some (.ref r.l)) (e2 : m (Str.ofString "words") = some (.ref WA)) (e3 : m (Str.ofString "heap") = some (.ref hA))
    (hWA : (WA, lstO wsA nw) ∈ fz) (hws : wsA[r.j.toNat]? = some (.str wd tw)) (hj0 : 0 ≤ r.j) (hj2 : r.j ≤ 2) (hr : RwN fz r) (hsm : r.Sm) (hod : r.od = iniD w.params r.j tk0 ti) (hlen : lenSum r.qs = wd.length) (hwl : wd.length ≤ 100)
    (he : ∀ e ∈ es, (e.a, e.obj) ∈ fz) (h3 : es.length ≤ 2) (hH : Hp es) (hj : (r.j :: es.map (·.j)).Nodup)
    (kont : ∀ s' es' nh' p63' p70' (en : En), Fr g L s'.heap m → News g L s'.heap ((hA, lstO (refsE es') nh') :: (63, tblO p63') :: (70, tblO p70') :: (en.a, en.obj) :: fz) → TabOk posLen p63' → TabOk posStr p70' → Gs s s' → Hp es' → es'.Perm (en :: es) → en.kp = r.kp → (hA ≠ en.a ∧ (63 : Addr) ≠ en.a ∧ (70 : Addr) ≠ en.a ∧ ∀ q ∈ fz, q.1 ≠ en.a) → Q .next s') :
    wpAny (model Challenge.rw_nb0220_01.row.prog w) ((aT dp un gd outer).deeper (envX qual scope L 205 cdv cl)) (execs B (envX qual scope L 205 cdv cl)) Q E s := by
  w_on
  refine fn_execs (fun b => forBody b 6) hB (law_eq ho) ?_
  conv in (forBody _ _) => whnf
  conv in (lawScope _) => whnf
  replace F := fr_at F e1
  replace F := fr_at F (x := Str.ofString "words") (v := .ref WA) (if_skip (by decide) e2)
  replace F := fr_at F (x := Str.ofString "heap") (v := .ref hA) (if_skip (by decide) (if_skip (by decide) e3))
  have gl := fun {q : Addr × Obj} (hm : q ∈ fz) => (N q (.tail _ (.tail _ (.tail _ hm)))).1
  iterate 10 walk1
  refine item_at (v := .ref r.x) (gl hr.1) (by decide) (by decide) rfl ?_
  walk1
  refine' len_K F X (inst_acc (gl hr.2.1) (gl hr.2.2.1)) ?b1 ?b2 ?_
  case b1 => k_is
  case b2 => k_is
  refine use_callA (dp := dp + 1) (un := un + 3 + 1) Bl F N X T rfl rfl ?_
  intro H9 C9 st9 f9 G9
  refine len_acc (i := r.j) (qs := r.qs) C9 st9 (room 23 hd) (room 236 hu) (gl hr.2.1) (by rw [← hod]; exact gl hr.2.2.1) (fun q hq => gl (hr.2.2.2.2 q hq)) hsm.1 (News.get N (.tail _ (.head _))) hp63 (f9 (63, tblO p63) (.tail _ (.head _))) ?_
  intro s3 t3 p3 hx3 ho3 hp3 gs3
  have o6 : ∀ q ∈ (70, tblO p70) :: fz, q.1 ≠ 63 := by
    refine all_cons ((by decide : (70 : Addr) ≠ 63)) fun q hq => ?_
    · exact hf6 q hq
  obtain ⟨F3, N3⟩ := back1 F N (.tail hA6 (.head o6)) hx3 ho3
  clear F N C9 st9 f9 G9 gl
  have gl := fun {q : Addr × Obj} (hm : q ∈ fz) => (N3 q (.tail _ (.tail _ (.tail _ hm)))).1
  dsimp only [PySem.W.LenBack]
  have hl0 := lenSum_nonneg r.qs
  refine ⟨by omega, ?_⟩
  iterate 4 walk1
  refine item_at (v := .int r.j r.tj) (gl hr.1) (by decide) (by decide) rfl ?_
  iterate 9 walk1
  refine item_at (v := .int r.j r.tj) (gl hr.1) (by decide) (by decide) rfl ?_
  refine item_at (v := .str wd tw) (gl hWA) hj0 (by omega) hws ?_
  iterate 3 walk1
  iterate 2 walk1
  rw [if_neg (by rw [hlen]; simp)]
  iterate 18 walk1
  refine ⟨X.keeps F3.keep, ?_⟩
  refine use_call Bl F3 N3 X T rfl rfl ?_
  intro H9 C9 st9 f9 G9
  refine rest_row C9 st9 (room 21 hd) (room 217 hu) ⟨gl hr.1, gl hr.2.1, gl hr.2.2.1, hr.2.2.2.1, fun q hq => gl (hr.2.2.2.2 q hq)⟩ hsm (News.get N3 (.tail _ (.tail _ (.head _)))) hp70 (f9 (70, tblO p70) (.tail _ (.tail _ (.head _)))) ?_
  intro s4 t4 p74 hx4 ho4 hp74 gs4
  obtain ⟨F4, N4⟩ := backL (news' := (hA, lstO (refsE es) nh) :: (63, tblO p3) :: (70, tblO p74) :: fz) F3 N3 hx4 (by
      intro a ha
      rw [List.mem_singleton.mp ha]
      exact ⟨_, .tail _ (.tail _ (.head _))⟩) (by
      intro q hq
      simp only [List.mem_cons, List.not_mem_nil, or_false]
      rcases List.mem_cons.mp hq with rfl | hq
      · exact .inl ⟨.inl rfl, hA7⟩
      rcases List.mem_cons.mp hq with rfl | hq
      · exact .inl ⟨.inr (.inl rfl), (by decide : (63 : Addr) ≠ 70)⟩
      rcases List.mem_cons.mp hq with rfl | hq
      · exact .inr ⟨rfl, ho4⟩
      · exact .inl ⟨.inr (.inr (.inr hq)), hf7 q hq⟩)
  clear F3 N3 C9 st9 f9 G9 gl
  have gl := fun {q : Addr × Obj} (hm : q ∈ fz) => (N4 q (.tail _ (.tail _ (.tail _ hm)))).1
  (try dsimp only)
  iterate 4 walk1
  refine item_at (v := .int r.j r.tj) (gl hr.1) (by decide) (by decide) rfl ?_
  iterate 3 walk1
  rename_i en h5 F5 N5 l5
  have l5f : ∀ q ∈ fz, q.1 ≠ en := allLt_ne l5.2.2.2
  have l5h : hA ≠ en := Nat.ne_of_lt l5.1
  have l56 : (63 : Addr) ≠ en := Nat.ne_of_lt l5.2.1
  have l57 : (70 : Addr) ≠ en := Nat.ne_of_lt l5.2.2.1
  refine ⟨X.keeps F5.keep, ?_⟩
  refine use_call Bl F5 N5 X T rfl rfl ?_
  intro H9 C9 st9 f9 G9
  refine hp_push (e := ⟨en, r.key, t4, r.j, r.tj, 0⟩) C9 st9 (room 23 hd) (room 237 hu) (News.get N5 (.tail _ (.head _))) (f9 (hA, _) (.tail _ (.head _))) ?_ ?_ h3 hH (by simpa using hj) ?_
  · intro e he'
    rcases List.mem_cons.mp he' with rfl | he'
    · exact News.get N5 (.head _)
    · exact News.get N5 (.tail _ (.tail _ (.tail _ (.tail _ (he e he')))))
  · intro e he'
    rcases List.mem_cons.mp he' with rfl | he'
    · exact Ne.symm l5h
    · exact hfh _ (he e he')
  intro h6 tk6 es' nh' hx6 ho6 hpm hHp
  have o7 : ∀ q ∈ (63, tblO p3) :: (70, tblO p74) :: fz, q.1 ≠ hA := by
    refine all_cons (Ne.symm hA6) (all_cons (Ne.symm hA7) fun q hq => ?_)
    · exact hfh q hq
  obtain ⟨F6, N6⟩ := back1 F5 N5 (.tail (Ne.symm l5h) (.head o7)) hx6 ho6
  clear F5 N5 C9 st9 f9 G9
  (try dsimp only)
  k_steps
  refine kont _ es' nh' p3 p74 ⟨en, r.key, t4, r.j, r.tj, 0⟩ ?_ (fun q hq => N6 q ?_) hp3 hp74 ⟨fun b => gs4.1 (gs3.1 b), gs4.2.trans gs3.2⟩ hHp hpm rfl ⟨l5h, l56, l57, l5f⟩
  · refine fr_back (fr_back (fr_back F6 ?_) ?_) e1
    · exact if_skip (by decide) (if_skip (by decide) e3)
    · exact if_skip (by decide) e2
  · simp only [List.mem_cons] at hq ⊢
    rcases hq with h | h | h | h | h
    · exact .inr (.inl h)
    · exact .inr (.inr (.inl h))
    · exact .inr (.inr (.inr (.inl h)))
    · exact .inl h
    · exact .inr (.inr (.inr (.inr h)))
end Mine
end SX2

section SB5
namespace Mine
theorem news_re {g h : Heap} {L : Addr} {l : List (Addr × Obj)} (n : Nat) (N : News g L h l) (idx : List Nat) : News g L h ((idx.filterMap fun i => (l.take n)[i]?) ++ l.drop n) := fun q hq => by
  rcases List.mem_append.mp hq with hq | hq
  · exact N q (List.mem_of_mem_take (mem_idx hq))
  · exact N q (List.mem_of_mem_drop hq)
theorem off_re {a : Addr} {l : List (Addr × Obj)} (n : Nat) (h1 : (a :: (l.take n).map (·.1)).Nodup) (h2 : ∀ q ∈ l.drop n, q.1 ≠ a) : ∀ q ∈ l, q.1 ≠ a := fun q hq => by
  rw [← List.take_append_drop n l] at hq
  rcases List.mem_append.mp hq with hq | hq
  · exact off_nd h1 q hq
  · exact h2 q hq
theorem hz_at {M : List Addr} {Z : List (Addr × Obj)} {a : Addr} (hZ : ∀ q ∈ Z, q.1 ∉ M) (i : Nat) (h : M[i]? = some a := by rfl) : ∀ q ∈ Z, q.1 ≠ a := fun q hq e => hZ q hq (e ▸ List.mem_of_getElem? h)
theorem news_tk {g h : Heap} {L : Addr} {l : List (Addr × Obj)} (n : Nat) (N : News g L h l) : News g L h (l.take n) := fun q hq => N q (List.mem_of_mem_take hq)
theorem news_dr {g h : Heap} {L : Addr} {l : List (Addr × Obj)} (n : Nat) (N : News g L h l) : News g L h (l.drop n) := fun q hq => N q (List.mem_of_mem_drop hq)
end Mine
end SB5

section SY1
namespace Mine
theorem news_sub {g h : Heap} {L : Addr} {l l' : List (Addr × Obj)} (N : News g L h l) (hs : ∀ q ∈ l', q ∈ l) : News g L h l' := fun q hq => N q (hs q hq)
theorem RwN.mono {a b : List (Addr × Obj)} {r : Rw} (x : RwN a r) (h : ∀ q ∈ a, q ∈ b) : RwN b r := ⟨h _ x.1, h _ x.2.1, h _ x.2.2.1, x.2.2.2.1, fun q hq => h _ (x.2.2.2.2 q hq)⟩
theorem execs_app_eq (env : Env) : ∀ (a b : List Stmt), execs (a ++ b) env = (do match ← execs a env with | .next => execs b env | f => pure f)
  | [], b => by
    show execs b env = (do match ← (pure Flow.next : Sem Flow) with | .next => execs b env | f => pure f)
    rw [pure_bind]
  | c :: a, b => by
    rw [List.cons_append, execs_cons, execs_cons, bind_assoc]
    congr 1
    funext f
    cases f with
    | next => exact execs_app_eq env a b
    | _ => rw [pure_bind]
theorem execs_app {M : Model} {A : Around} {E : Value → Shared → Prop} {env : Env} {Q : Flow → Shared → Prop} {a b : List Stmt} {s : Shared} (h : wpAny M A (execs a env) (fun f s' => match f with | .next => wpAny M A (execs b env) Q E s' | f => Q f s') E s) : wpAny M A (execs (a ++ b) env) Q E s := by
  rw [execs_app_eq]
  refine wpAny_bind (wpAny_mono h (fun f s' h' => ?_) fun _ _ e => e)
  cases f with
  | next => exact h'
  | _ => exact wpAny_pure h'
/-- the law's names that stay -/
structure MO (hA tA xt RA PA WA NA : Addr) (m : Str → Option Value) : Prop where
  rows : m (Str.ofString "rows") = some (.ref RA)
  pieces : m (Str.ofString "pieces") = some (.ref PA)
  heap : m (Str.ofString "heap") = some (.ref hA)
  taken : m (Str.ofString "taken") = some (.ref tA)
  told : m (Str.ofString "told") = some (.ref xt)
  words : m (Str.ofString "words") = some (.ref WA)
  numbers : m (Str.ofString "numbers") = some (.ref NA)
noncomputable def keepN : List Str := [Str.ofString "rows", Str.ofString "pieces", Str.ofString "heap", Str.ofString "taken", Str.ofString "told", Str.ofString "words", Str.ofString "numbers"]
theorem MO.to {hA tA xt RA PA WA NA : Addr} {m u : Str → Option Value} (h : MO hA tA xt RA PA WA NA m) (e : ∀ y ∈ keepN, u y = m y) : MO hA tA xt RA PA WA NA u :=
  ⟨(e _ (by decide)).trans h.rows, (e _ (by decide)).trans h.pieces, (e _ (by decide)).trans h.heap, (e _ (by decide)).trans h.taken, (e _ (by decide)).trans h.told, (e _ (by decide)).trans h.words, (e _ (by decide)).trans h.numbers⟩
theorem MO.set {hA tA xt RA PA WA NA : Addr} {m : Str → Option Value} {x : Str} {v : Option Value} (h : MO hA tA xt RA PA WA NA m) (hx : x ∉ keepN) : MO hA tA xt RA PA WA NA (fun z => if z = x then v else m z) :=
  h.to fun y hy => if_neg fun (e : y = x) => hx (by rw [← e]; exact hy)
theorem body13 {w : World} {name qual : Str} {params : Arguments} {body : List Stmt} {scope : Scope} {cl : List (Str × Addr)} {dV kV doc pm cdv ct oc : Value} {an od : Option Addr} {osl : Array (Option Value)}
    (ho : (k0.heap_1 w.params).lookup 205 = some ⟨oc, od, .func (fnX name qual params body scope cl dV kV doc pm an cdv ct), osl⟩) : (whileBody body 8).length = 13 := by
  rw [(law_eq ho).2.2.2.2]
  rfl
theorem st_get : ∀ (l : List Stmt) (i : Nat), i < l.length → l[i]? = some (stAt l i)
  | _ :: _, 0, _ => rfl
  | _ :: r, i + 1, h => st_get r i (Nat.lt_of_succ_lt_succ h)
theorem st_list {n : Nat} {l : List Stmt} (h : l.length = n) : l = (List.range n).map (stAt l) := by
  refine List.ext_getElem? fun i => ?_
  by_cases hi : i < n
  · rw [st_get l i (h ▸ hi), List.getElem?_map, List.getElem?_range hi]; rfl
  · rw [List.getElem?_eq_none (by omega), List.getElem?_eq_none (by simp; omega)]
theorem list13 {l : List Stmt} (h : l.length = 13) {G : Prop} (k : ∀ a0 a1 a2 a3 a4 a5 a6 a7 a8 a9 b0 b1 b2, l = [a0, a1, a2, a3, a4, a5, a6, a7, a8, a9, b0, b1, b2] → G) : G := k _ _ _ _ _ _ _ _ _ _ _ _ _ (st_list h)
theorem turn1 {p : Program} {loose : List Str} {mean : ExcName → Option Value} {mg mb : Str → Option Value} {w : World} {dp un : Nat} {gd : Option (List Code)} {outer : List Env} {base g : Heap} {s : Shared} {E : Value → Shared → Prop} {Q : Flow → Shared → Prop}
    {name qual : Str} {params : Arguments} {body : List Stmt} {scope : Scope} {cl : List (Str × Addr)} {dV kV doc pm cdv ct oc : Value} {an od : Option Addr} {osl : Array (Option Value)} {L : Addr}
    (ho : (k0.heap_1 w.params).lookup 205 = some ⟨oc, od, .func (fnX name qual params body scope cl dV kV doc pm an cdv ct), osl⟩)
    {m : Str → Option Value} {hA tA xt dt RA PA WA NA P : Addr} {nh nt ntd nr np pn : Nat} {p63 p70 pa : Array Value} {e0 : En} {es : List En} {td tkn : List Pc} {rs : List Rw} {r : Rw} {q0 p0 : Pc} {qs ps : List Pc} {i0 i4 : Int} {tk0 ti tk4 ti4 : Tok} {Z : List (Addr × Obj)}
    (Bl : Below (aT dp un gd outer) base outer g) (X : (k0.heap_1 w.params).In g) (T : Top p loose mean mg mb g) (hd : dp + 28 < recursionLimit) (hu : un + 280 < cLine)
    (F : Fr g L s.heap m) (mo : MO hA tA xt RA PA WA NA m)
    (N : News g L s.heap ((hA, lstO (refsE (e0 :: es)) nh) :: (63, tblO p63) :: (70, tblO p70) :: (tA, lstO (vals tkn) nt) :: (xt, accO dt (vals td) ntd) :: (r.x, accO r.d (vals r.qs) r.n) :: (r.d, r.od) :: (P, lstO (vals (p0 :: ps)) pn) :: Z))
    (nd : [hA, 63, 70, tA, xt, r.x, r.d, P].Nodup) (hZ : ∀ q ∈ Z, q.1 ∉ [hA, 63, 70, tA, xt, r.x, r.d, P])
    (hp63 : TabOk posLen p63) (hp70 : TabOk posStr p70)
    (hrs : rs.length = 3) (hrm : r ∈ rs) (hod : r.od = iniD w.params i0 tk0 ti) (hqs : r.qs = q0 :: qs)
    (hRA : (RA, lstO (refsR rs) nr) ∈ Z) (hra : (refsR rs)[r.j.toNat]? = some (.ref r.l)) (hl : (r.l, lstO #[.ref r.x, .int r.j r.tj] r.n1) ∈ Z) (hPA : (PA, lstO pa np) ∈ Z) (hpa : pa[r.j.toNat]? = some (.ref P)) (hj0 : 0 ≤ r.j) (hj2 : r.j ≤ 2)
    (hoth : ∀ r' ∈ rs, r' = r ∨ RwN Z r') (hno : ∀ r' ∈ rs, lookIn "part_count" r'.od = some none) (hn : (rs.map (·.l)).Nodup) (hjp : (rs.map (·.j)).Pairwise (· < ·)) (hsm : ∀ r' ∈ rs, r'.Sm)
    (he : ∀ e ∈ e0 :: es, (e.a, e.obj) ∈ Z) (h3 : es.length ≤ 2) (hH : Hp (e0 :: es)) (hpm : ((e0 :: es).map En.kp).Perm ((rs.filter fun r => !r.qs.isEmpty).map Rw.kp)) (hke : e0.kp = r.kp) (hjn : ((e0 :: es).map (·.j)).Nodup) (hea : ((e0 :: es).map (·.a)).Nodup)
    (hq : ∀ q ∈ r.qs, (q.a, q.obj) ∈ Z) (hp : ∀ q ∈ p0 :: ps, (q.a, q.obj) ∈ Z) (ht : r.qs.map Pc.t2 = (p0 :: ps).map Pc.t2) (hne : ∀ q ∈ r.qs, ∀ p ∈ p0 :: ps, q.a ≠ p.a) (hdt : (dt, iniD w.params i4 tk4 ti4) ∈ Z)
    (hb1 : qs.length ≤ 12) (hb2 : td.length ≤ 12) (hb3 : tkn.length ≤ 12) (hlen : (r.key.length : Int) - 2 = lenSum qs) (hkl : r.key.length ≤ 100)
    (kont : ∀ s' m' es' nh' p63' p70' nt' ntd' n' ti' pn' qn fz', Fr g L s'.heap m' → MO hA tA xt RA PA WA NA m' →
      News g L s'.heap ((hA, lstO (refsE es') nh') :: (63, tblO p63') :: (70, tblO p70') :: (tA, lstO (vals (tkn ++ [q0])) nt') :: (xt, accO dt (vals (td ++ [qn])) ntd') :: (r.x, accO r.d (vals qs) n') :: (r.d, iniD w.params 0 tk0 ti') :: (P, lstO (vals ps) pn') :: (qn.a, qn.obj) :: (fz' ++ Z)) →
      (∀ q ∈ (qn.a, qn.obj) :: fz', q.1 ∉ [hA, 63, 70, tA, xt, r.x, r.d, P]) → (∀ q ∈ Z, ∀ p ∈ (qn.a, qn.obj) :: fz', q.1 ≠ p.1) → TabOk posLen p63' → TabOk posStr p70' → Gs s s' → Hp es' → qn.t2 = q0.t2 →
      ((qs = [] ∧ es'.Perm es ∧ fz' = []) ∨ (qs ≠ [] ∧ ∃ en : En, en.kp = Rw.kp { r with qs := qs } ∧ es'.Perm (en :: es) ∧ fz' = [(en.a, en.obj)])) → Q .next s') :
    wpAny (model Challenge.rw_nb0220_01.row.prog w) ((aT dp un gd outer).deeper (envX qual scope L 205 cdv cl)) (execs (whileBody body 8) (envX qual scope L 205 cdv cl)) Q E s := by
  refine list13 (body13 ho) ?_
  intro a0 a1 a2 a3 a4 a5 a6 a7 a8 a9 b0 b1 b2 hB
  have nd0 := nd
  simp only [List.nodup_cons, List.mem_cons, List.not_mem_nil, or_false, not_or, not_false_eq_true, List.nodup_nil, and_true] at nd
  obtain ⟨⟨n1, n2, n3, n4, n5, n6, n7⟩, ⟨_, n8, n9, n10, n11, n12⟩, ⟨n13, n14, n15, n16, n17⟩, ⟨n18, n19, n20, n21⟩, ⟨n22, n23, n24⟩, ⟨n25, n26⟩, n27⟩ := nd
  have hZ0 := hZ
  simp only [List.mem_cons, List.not_mem_nil, or_false, not_or] at hZ
  rw [hB]
  -- the rows in the ledger
  have hrwr : RwN ((r.x, accO r.d (vals r.qs) r.n) :: (r.d, r.od) :: Z) r := ⟨.tail _ (.tail _ hl), .head _, .tail _ (.head _), by rw [hod]; exact (by simp : (Value.type "dict") ≠ Value.none), fun q hq' => .tail _ (.tail _ (hq q hq'))⟩
  have hrw : ∀ r' ∈ rs, RwN ((r.x, accO r.d (vals r.qs) r.n) :: (r.d, r.od) :: Z) r' := fun r' hr' => by
    rcases hoth r' hr' with e | h
    · rw [e]; exact hrwr
    · exact h.mono fun q hq => .tail _ (.tail _ hq)
  -- 0
  refine wpAny_execs_cons (top_ok ho (by rw [hB]; rfl) X F N mo.heap (.head _) (.tail _ (.tail _ (.tail _ (.tail _ (.tail _ (.tail _ (.tail _ (.tail _ (he e0 (.head _))))))))))  ?_)
  intro h1 tk1 F1 N1
  have mo1 := (mo.set (x := Str.ofString "text") (v := some (.str e0.x e0.tx)) (by decide)).set (x := Str.ofString "place") (v := some (.int e0.j e0.tj)) (by decide)
  have hj : e0.j = r.j := congrArg Prod.snd hke
  have hx : e0.x = r.key := congrArg Prod.fst hke
  -- 1
  refine wpAny_execs_cons (left_ok (nr := nr) ho (by rw [hB]; rfl) Bl X T (by omega) (by omega) F1 N1 mo1.rows (by simp only [List.mem_cons, hRA, or_true]) (by omega) (fun r' hr' => (hrw r' hr').mono ?_) hno hn ?_)
  · exact all_cons (.tail _ (.tail _ (.tail _ (.tail _ (.tail _ (.head _)))))) (all_cons (.tail _ (.tail _ (.tail _ (.tail _ (.tail _ (.tail _ (.head _))))))) fun q hq => .tail _ (.tail _ (.tail _ (.tail _ (.tail _ (.tail _ (.tail _ (.tail _ (hq)))))))))
  intro D h2 tk2 nD F2 N2 hD
  have mo2 := mo1.set (x := Str.ofString "left") (v := some (.ref D)) (by decide)
  -- 2
  have N2' : News g L h2 ((70, tblO p70) :: (D, lstO (refsR (rs.filter fun r => !r.qs.isEmpty)) nD) :: (hA, lstO (refsE (e0 :: es)) nh) :: (63, tblO p63) :: (tA, lstO (vals tkn) nt) :: (xt, accO dt (vals td) ntd) :: (r.x, accO r.d (vals r.qs) r.n) :: (r.d, r.od) :: (P, lstO (vals (p0 :: ps)) pn) :: Z) := news_re 9 N2 [3, 0, 1, 2, 4, 5, 6, 7, 8]
  have hrf : r ∈ rs.filter fun r => !r.qs.isEmpty := List.mem_filter.mpr ⟨hrm, by rw [hqs]; rfl⟩
  have hfs : (rs.filter fun r => !r.qs.isEmpty).Sublist rs := List.filter_sublist
  have o70 : ∀ q ∈ (D, lstO (refsR (rs.filter fun r => !r.qs.isEmpty)) nD) :: (hA, lstO (refsE (e0 :: es)) nh) :: (63, tblO p63) :: (tA, lstO (vals tkn) nt) :: (xt, accO dt (vals td) ntd) :: (r.x, accO r.d (vals r.qs) r.n) :: (r.d, r.od) :: (P, lstO (vals (p0 :: ps)) pn) :: Z, q.1 ≠ 70 :=
    all_cons (Ne.symm (hD (70, tblO p70) (.tail _ (.tail _ (.head _))))) (all_cons (n2) (all_cons ((by decide : (63 : Addr) ≠ 70)) (all_cons (Ne.symm n13) (all_cons (Ne.symm n14) (all_cons (Ne.symm n15) (all_cons (Ne.symm n16) (all_cons (Ne.symm n17) (fun q hq => (hZ q hq).2.2.1))))))))
  refine wpAny_execs_cons (first_ok ho (by rw [hB]; rfl) Bl X T hd hu F2 N2' o70 hp70 (if_pos rfl) (.head _) (List.length_pos_of_mem hrf) (by have := hfs.length_le; omega) (fun r' hr' => (hrw r' (hfs.subset hr')).mono ?_) (fun r' hr' => hsm r' (hfs.subset hr')) ((hfs.map _).nodup hn) (hjp.sublist (hfs.map _)) ?_)
  · exact all_cons (.tail _ (.tail _ (.tail _ (.tail _ (.tail _ (.head _)))))) (all_cons (.tail _ (.tail _ (.tail _ (.tail _ (.tail _ (.tail _ (.head _))))))) fun q hq => .tail _ (.tail _ (.tail _ (.tail _ (.tail _ (.tail _ (.tail _ (.tail _ (hq)))))))))
  intro s3 D2 nD2 ws p70a F3 N3 hp70a gs3 hD2 hws hF2
  have mo3 := mo2.set (x := Str.ofString "first") (v := some (.ref D2)) (by decide)
  -- 3
  refine wpAny_execs_cons (check_ok (e0 := e0) (es := es) ho (by rw [hB]; rfl) Bl X T hd hu F3 N3 (if_pos rfl) (if_skip (by decide) (if_skip (by decide) (if_pos rfl))) mo3.heap (.head _) (.tail _ (.tail _ (.tail _ (.head _)))) (fun e he' => ?_) h3 hH hjn hea hF2 hpm ?_)
  · simp only [List.mem_cons, he e he', or_true]
  intro h4 tk4' F4 N4
  clear F1 N1 F2 N2 N2' F3 N3
  -- 4
  have N4' : News g L h4 ((r.x, accO r.d (vals (q0 :: qs)) r.n) :: (P, lstO (vals (p0 :: ps)) pn) :: (hA, lstO (refsE (e0 :: es)) nh) :: (63, tblO p63) :: (70, tblO p70a) :: (tA, lstO (vals tkn) nt) :: (xt, accO dt (vals td) ntd) :: (r.d, iniD w.params i0 tk0 ti) :: Z) := by
    rw [← hqs, ← hod]
    exact news_re 10 N4 [7, 9, 3, 4, 1, 5, 6, 8]
  clear N4
  have mz4 : ∀ q ∈ Z, q ∈ (hA, lstO (refsE (e0 :: es)) nh) :: (63, tblO p63) :: (70, tblO p70a) :: (tA, lstO (vals tkn) nt) :: (xt, accO dt (vals td) ntd) :: (r.d, iniD w.params i0 tk0 ti) :: Z := fun q h => by repeat (first | assumption | exact List.mem_append_right _ h | apply List.Mem.tail)
  refine execs_app (a := [a4, a5, a6, a7]) (b := [a8, a9, b0, b1, b2]) (take_ok (j := r.j) (l := r.l) (i0 := i0) (tk0 := tk0) (ti := ti) ho (by rw [hB]; rfl) Bl X T hd hu F4 N4' n26 ?_ ?_ mo3.rows (tj' := e0.tj) (by rw [if_neg (by decide), if_neg (by decide), if_pos rfl, hj]) mo3.pieces (mz4 _ hRA) hra (mz4 _ hl) (mz4 _ hPA) hpa hj0 hj2 (by repeat (first | exact List.Mem.head _ | apply List.Mem.tail)) (fun q hq' => mz4 _ (hq q (hqs ▸ hq'))) (fun q hq' => mz4 _ (hp q hq')) (hqs ▸ ht) (fun q hq' => hne q (hqs ▸ hq')) hb1 ?_)
  · exact off_re 6 (nodup_sub nd0 [5, 0, 1, 2, 3, 4, 6] (by decide)) (hz_at hZ0 5)
  · exact off_re 6 (nodup_sub nd0 [7, 0, 1, 2, 3, 4, 6] (by decide)) (hz_at hZ0 7)
  intro h5 tk5 u5 RL n5' pn5 F5 hu5 u5row u5rest u5piece N5 hxRL hPRL hfRL
  have mo5 : MO hA tA xt RA PA WA NA u5 := mo3.to fun y hy => hu5 y (fun e => by subst e; exact absurd hy (by decide)) (fun e => by subst e; exact absurd hy (by decide)) (fun e => by subst e; exact absurd hy (by decide))
  clear F4 N4'
  -- 8
  have N5' : News g L h5 ((r.x, accO r.d #[] n5') :: (r.d, iniD w.params i0 tk0 ti) :: (xt, accO dt (vals td) ntd) :: (tA, lstO (vals tkn) nt) :: (RL, lstO (vals qs) 0) :: (hA, lstO (refsE (e0 :: es)) nh) :: (63, tblO p63) :: (70, tblO p70a) :: (P, lstO (vals ps) pn5) :: Z) := news_re 9 N5 [0, 8, 7, 6, 2, 3, 4, 5, 1]
  clear N5
  have mz5 : ∀ q ∈ Z, q ∈ (hA, lstO (refsE (e0 :: es)) nh) :: (63, tblO p63) :: (70, tblO p70a) :: (P, lstO (vals ps) pn5) :: Z := fun q h => by repeat (first | assumption | exact List.mem_append_right _ h | apply List.Mem.tail)
  refine execs_app (a := [a8, a9, b0]) (b := [b1, b2]) (give_ok (q0 := q0) (i4 := i4) (tk4 := tk4) (ti4 := ti4) ho (by rw [hB]; rfl) Bl X T hd hu F5 N5' n25 (Ne.symm n22) (Ne.symm n19) hxRL (Ne.symm n23) (Ne.symm n20) (hfRL (r.d, iniD w.params i0 tk0 ti) (by repeat (first | exact List.Mem.head _ | apply List.Mem.tail))) (Ne.symm n18) (hfRL (xt, accO dt (vals td) ntd) (by repeat (first | exact List.Mem.head _ | apply List.Mem.tail))) (hfRL (tA, lstO (vals tkn) nt) (by repeat (first | exact List.Mem.head _ | apply List.Mem.tail))) ?_ ?_ ?_ ?_ u5row u5rest mo5.told u5piece mo5.taken (mz5 _ hdt) (mz5 _ (hq q0 (by rw [hqs]; exact .head _))) hb1 hb2 hb3 ?_)
  · exact off_re 4 (nodup_sub nd0 [5, 0, 1, 2, 7] (by decide)) (hz_at hZ0 5)
  · exact off_re 4 (nodup_sub nd0 [6, 0, 1, 2, 7] (by decide)) (hz_at hZ0 6)
  · exact off_re 4 (nodup_sub nd0 [4, 0, 1, 2, 7] (by decide)) (hz_at hZ0 4)
  · exact off_re 4 (nodup_sub nd0 [3, 0, 1, 2, 7] (by decide)) (hz_at hZ0 3)
  intro h6 tk6 na6 ti6 ntd6 nt6 qn F6 hqn2 hqnn hqnf N6
  clear F5 N5'
  -- 11
  have hqnZ : ∀ q ∈ Z, q.1 ≠ qn.a := fun q h => hqnf q (mz5 q h)
  have hqn8 : qn.a ∉ [hA, 63, 70, tA, xt, r.x, r.d, P] := by
    simp only [List.mem_cons, List.not_mem_nil, or_false, not_or]
    exact ⟨Ne.symm (hqnf _ (.head _)), Ne.symm (hqnf _ (.tail _ (.head _))), Ne.symm (hqnf _ (.tail _ (.tail _ (.head _)))), Ne.symm hqnn.2.2.2, Ne.symm hqnn.2.2.1, Ne.symm hqnn.1, Ne.symm hqnn.2.1, Ne.symm (hqnf _ (.tail _ (.tail _ (.tail _ (.head _)))))⟩
  have hqn8' := hqn8
  simp only [List.mem_cons, List.not_mem_nil, or_false, not_or] at hqn8'
  have N6' : News g L h6 ((hA, lstO (refsE (e0 :: es)) nh) :: (70, tblO p70a) :: (63, tblO p63) :: (tA, lstO (vals (tkn ++ [q0])) nt6) :: (xt, accO dt (vals (td ++ [qn])) ntd6) :: (r.x, accO r.d (vals qs) na6) :: (r.d, iniD w.params 0 tk0 ti6) :: (P, lstO (vals ps) pn5) :: (qn.a, qn.obj) :: Z) := news_re 9 N6 [5, 7, 6, 3, 2, 0, 1, 8, 4]
  clear N6
  have mz6 : ∀ q ∈ Z, q ∈ (63, tblO p63) :: (tA, lstO (vals (tkn ++ [q0])) nt6) :: (xt, accO dt (vals (td ++ [qn])) ntd6) :: (r.x, accO r.d (vals qs) na6) :: (r.d, iniD w.params 0 tk0 ti6) :: (P, lstO (vals ps) pn5) :: (qn.a, qn.obj) :: Z := fun q h => by repeat (first | assumption | exact List.mem_append_right _ h | apply List.Mem.tail)
  have hr6 : RwN ((63, tblO p63) :: (tA, lstO (vals (tkn ++ [q0])) nt6) :: (xt, accO dt (vals (td ++ [qn])) ntd6) :: (r.x, accO r.d (vals qs) na6) :: (r.d, iniD w.params 0 tk0 ti6) :: (P, lstO (vals ps) pn5) :: (qn.a, qn.obj) :: Z) { r with qs := qs, n := na6, od := iniD w.params 0 tk0 ti6 } :=
    ⟨mz6 _ hl, by repeat (first | exact List.Mem.head _ | apply List.Mem.tail), by repeat (first | exact List.Mem.head _ | apply List.Mem.tail), (by simp : (Value.type "dict") ≠ Value.none), fun q hq' => mz6 _ (hq q (by rw [hqs]; exact .tail _ hq'))⟩
  have hsm6 : Rw.Sm { r with qs := qs, n := na6, od := iniD w.params 0 tk0 ti6 } := ⟨fun q hq' => (hsm r hrm).1 q (by rw [hqs]; exact .tail _ hq'), by show qs.length ≤ 100; omega⟩
  refine wpAny_execs_cons (swap_ok (r := { r with qs := qs, n := na6, od := iniD w.params 0 tk0 ti6 }) (tj' := e0.tj) ho (by rw [hB]; rfl) Bl X T hd hu F6 N6' hp70a n2 ?_ ?_ mo5.rows ?_ mo5.heap u5row (mz6 _ hRA) hra hj0 hj2 hr6 hsm6 rfl (fun e he' => mz6 _ (he e (.tail _ he'))) h3 ?_ ?_)
  · exact all_cons (Ne.symm n1) (all_cons (Ne.symm n3) (all_cons (Ne.symm n4) (all_cons (Ne.symm n5) (all_cons (Ne.symm n6) (all_cons (Ne.symm n7) (all_cons (hqn8'.1) (fun q hq => (hZ q hq).1)))))))
  · exact all_cons ((by decide : (63 : Addr) ≠ 70)) (all_cons (Ne.symm n13) (all_cons (Ne.symm n14) (all_cons (Ne.symm n15) (all_cons (Ne.symm n16) (all_cons (Ne.symm n17) (all_cons (hqn8'.2.2.1) (fun q hq => (hZ q hq).2.2.1)))))))
  · rw [hu5 _ (by decide) (by decide) (by decide), if_neg (by decide), if_neg (by decide), if_pos rfl, hj]
  · rw [List.map_cons, hj] at hjn; exact hjn
  intro s7 es7 nh7 p70b fz7 F7 N7 hp70b gs7 hHp7 hfz7 hor
  clear F6 N6'
  -- 12
  have N7' : News g L s7.heap ((63, tblO p63) :: (hA, lstO (refsE es7) nh7) :: (70, tblO p70b) :: (tA, lstO (vals (tkn ++ [q0])) nt6) :: (xt, accO dt (vals (td ++ [qn])) ntd6) :: (r.x, accO r.d (vals qs) na6) :: (r.d, iniD w.params 0 tk0 ti6) :: (P, lstO (vals ps) pn5) :: (qn.a, qn.obj) :: (fz7 ++ Z)) := by
    have E7 : News g L s7.heap ([(hA, lstO (refsE es7) nh7), (70, tblO p70b)] ++ (fz7 ++ ([(63, tblO p63), (tA, lstO (vals (tkn ++ [q0])) nt6), (xt, accO dt (vals (td ++ [qn])) ntd6), (r.x, accO r.d (vals qs) na6), (r.d, iniD w.params 0 tk0 ti6), (P, lstO (vals ps) pn5), (qn.a, qn.obj)] ++ Z))) := N7
    exact news_cat (a := [_, _, _, _, _, _, _, _, _]) (news_idx (news_cat (news_l E7) (news_l (news_r (news_r E7)))) [2, 0, 1, 3, 4, 5, 6, 7, 8]) (news_cat (news_l (news_r E7)) (news_r (news_r (news_r E7))))
  have hfz8 : ∀ q ∈ fz7, q.1 ∉ [hA, 63, 70, tA, xt, r.x, r.d, P] := fun q hq => by
    obtain ⟨z1, z2, z3⟩ := hfz7 q hq
    simp only [List.mem_cons, List.not_mem_nil, or_false, not_or]
    exact ⟨z1, Ne.symm (z3 (63, tblO p63) (by repeat (first | exact List.Mem.head _ | apply List.Mem.tail))), z2, Ne.symm (z3 (tA, lstO (vals (tkn ++ [q0])) nt6) (by repeat (first | exact List.Mem.head _ | apply List.Mem.tail))), Ne.symm (z3 (xt, accO dt (vals (td ++ [qn])) ntd6) (by repeat (first | exact List.Mem.head _ | apply List.Mem.tail))), Ne.symm (z3 (r.x, accO r.d (vals qs) na6) (by repeat (first | exact List.Mem.head _ | apply List.Mem.tail))), Ne.symm (z3 (r.d, iniD w.params 0 tk0 ti6) (by repeat (first | exact List.Mem.head _ | apply List.Mem.tail))), Ne.symm (z3 (P, lstO (vals ps) pn5) (by repeat (first | exact List.Mem.head _ | apply List.Mem.tail)))⟩
  have hfzZ : ∀ q ∈ Z, ∀ p ∈ (qn.a, qn.obj) :: fz7, q.1 ≠ p.1 := fun q hq p hp => by
    rcases List.mem_cons.mp hp with h | h
    · rw [h]; exact hqnZ q hq
    · exact (hfz7 p h).2.2 q (mz6 q hq)
  clear N7
  have mz7 : ∀ q ∈ Z, q ∈ (hA, lstO (refsE es7) nh7) :: (70, tblO p70b) :: (tA, lstO (vals (tkn ++ [q0])) nt6) :: (xt, accO dt (vals (td ++ [qn])) ntd6) :: (r.x, accO r.d (vals qs) na6) :: (r.d, iniD w.params 0 tk0 ti6) :: (P, lstO (vals ps) pn5) :: (qn.a, qn.obj) :: (fz7 ++ Z) := fun q h => by repeat (first | assumption | exact List.mem_append_right _ h | apply List.Mem.tail)
  refine wpAny_execs_cons (last_ok (e0 := e0) (tx' := e0.tx) (tj' := e0.tj) (r := { r with qs := qs, n := na6, od := iniD w.params 0 tk0 ti6 }) (tk0 := tk0) (ti := ti6) ho (by rw [hB]; rfl) Bl X T hd hu F7 N7' hp63 ?_ (if_pos rfl) ?_ ?_ ?_ (mz7 _ (he e0 (.head _))) ?_ hsm6 rfl (by rw [hx]; exact hlen) (by rw [hx]; exact hkl) ?_)
  · exact all_cons (n1) (all_cons ((by decide : (70 : Addr) ≠ 63)) (all_cons (Ne.symm n8) (all_cons (Ne.symm n9) (all_cons (Ne.symm n10) (all_cons (Ne.symm n11) (all_cons (Ne.symm n12) (all_cons (hqn8'.2.1) (all_app (hz_at hfz8 1) fun q h => (hZ q h).2.1))))))))
  · rw [if_neg (by decide), hu5 _ (by decide) (by decide) (by decide), if_neg (by decide), if_neg (by decide), if_neg (by decide), if_pos rfl]
  · rw [if_neg (by decide), hu5 _ (by decide) (by decide) (by decide), if_neg (by decide), if_neg (by decide), if_pos rfl]
  · exact if_skip (by decide) u5row
  · exact ⟨mz7 _ hl, by repeat (first | exact List.Mem.head _ | apply List.Mem.tail), by repeat (first | exact List.Mem.head _ | apply List.Mem.tail), (by simp : (Value.type "dict") ≠ Value.none), fun q hq' => mz7 _ (hq q (by rw [hqs]; exact .tail _ hq'))⟩
  intro s8 p63c F8 N8 hp63c gs8
  refine wpAny_execs_nil (kont s8 _ es7 nh7 p63c p70b nt6 ntd6 na6 ti6 pn5 qn fz7 F8 (mo5.set (by decide)) (news_re 9 N8 [1, 0, 2, 3, 4, 5, 6, 7, 8]) ?_ hfzZ hp63c hp70b ?_ hHp7 hqn2 hor)
  · exact all_cons hqn8 hfz8
  · exact ⟨fun b => gs8.1 (gs7.1 (gs3.1 b)), gs8.2.trans (gs7.2.trans gs3.2)⟩
end Mine
end SY1

section SY2
namespace Mine
/-- the letters of a row of pieces -/
noncomputable def letsOf (qs : List Pc) : List Nat := (qs.map fun q => q.x.cps.toList ++ q.y.cps.toList).flatten
theorem cps_app (a b : Str) : (a ++ b).cps.toList = a.cps.toList ++ b.cps.toList := by
  show (a.cps ++ b.cps).toList = _
  rw [Array.toList_append]
theorem txt_cps (qs : List Pc) : (txtOf qs).cps.toList = letsOf qs := by
  unfold txtOf letsOf
  rw [cps_join, List.map_map]
  congr 1
  apply List.map_congr_left
  intro q _
  show (Txt.join "" [q.x, q.y]).cps.toList = _
  rw [cps_join]
  simp
theorem word_cps (qs : List Pc) : (wordOf qs).cps.toList = letsOf qs := by
  unfold wordOf letsOf
  rw [cps_join, List.map_map]
  congr 1
  apply List.map_congr_left
  intro q _
  exact cps_app q.x q.y
theorem key_cps (r : Rw) : r.key.cps.toList = letsOf r.qs ++ [126] := by
  unfold Rw.key
  rw [cps_app, txt_cps]
  rfl
theorem lets_cons (q : Pc) (qs : List Pc) : letsOf (q :: qs) = (q.x.cps.toList ++ q.y.cps.toList) ++ letsOf qs := rfl
theorem lets_snoc (q : Pc) (qs : List Pc) : letsOf (qs ++ [q]) = letsOf qs ++ (q.x.cps.toList ++ q.y.cps.toList) := by simp [letsOf]
theorem lets_len : ∀ (qs : List Pc), (∀ q ∈ qs, q.ok) → (letsOf qs).length = qs.length
  | [], _ => rfl
  | q :: qs, h => by rw [lets_cons, List.length_append, (h q (.head _)).1, lets_len qs fun q hq => h q (.tail _ hq), List.length_cons]; omega
theorem lets_lt : ∀ (qs : List Pc), (∀ q ∈ qs, q.ok) → ∀ c ∈ letsOf qs, c < 126
  | [], _, c, hc => nomatch hc
  | q :: qs, h, c, hc => by
    rw [lets_cons] at hc
    rcases List.mem_append.mp hc with hc | hc
    · exact (h q (.head _)).2 c hc
    · exact lets_lt qs (fun q hq => h q (.tail _ hq)) c hc
theorem lenSum_lets (qs : List Pc) : lenSum qs = (letsOf qs).length := by
  induction qs with
  | nil => rfl
  | cons q qs ih =>
    rw [lets_cons, List.length_append, List.length_append]
    unfold lenSum at ih ⊢
    rw [List.map_cons, List.sum_cons, ih, len_cps, len_cps]
    push_cast
    rfl
theorem ok_sm {q : Pc} (h : q.ok) : q.x.length ≤ 1 ∧ q.y.length ≤ 1 := by
  have := h.1
  rw [List.length_append, ← len_cps, ← len_cps] at this
  omega
theorem ok_one {q : Pc} (h : q.ok) : ∃ k, q.x.cps.toList ++ q.y.cps.toList = [k] := List.length_eq_one_iff.mp h.1
noncomputable def Lst3 : List (List Nat) → List Nat → Prop
  | [a, b, c], z => Lst a b c z
  | _, _ => False
theorem lst3_step {α : Type} (f : α → List Nat) {pre post : List α} {c c' : α} {k : Nat} {z : List Nat} (hlen : (pre ++ c :: post).length = 3) (hk : f c = k :: f c') (hlt : ∀ a ∈ pre ++ c :: post, ∀ q ∈ f a, q < 126)
    (hle : ∀ a ∈ pre ++ post, f a ≠ [] → le (f c ++ [126]) (f a ++ [126])) (h : Lst3 ((pre ++ c' :: post).map f) z) : Lst3 ((pre ++ c :: post).map f) (k :: z) := by
  refine split2 (l := pre) (r := post) (by simp only [List.length_append, List.length_cons] at hlen; omega) ?_ ?_ ?_ <;> rintro x y rfl rfl
  ·
    show Lst (f c) (f x) (f y) (k :: z)
    have h : Lst (f c') (f x) (f y) z := h
    have hc := hlt c (by simp)
    have h1 := hle x (by simp)
    have h2 := hle y (by simp)
    rw [hk] at hc h1 h2 ⊢
    exact Lst.step hc (hlt x (by simp)) (hlt y (by simp)) h1 h2 h
  ·
    show Lst (f x) (f c) (f y) (k :: z)
    have h : Lst (f x) (f c') (f y) z := h
    have hc := hlt c (by simp)
    have h1 := hle x (by simp)
    have h2 := hle y (by simp)
    rw [hk] at hc h1 h2 ⊢
    exact (Lst.step hc (hlt x (by simp)) (hlt y (by simp)) h1 h2 h.ab).ab
  ·
    show Lst (f x) (f y) (f c) (k :: z)
    have h : Lst (f x) (f y) (f c') z := h
    have hc := hlt c (by simp)
    have h1 := hle x (by simp)
    have h2 := hle y (by simp)
    rw [hk] at hc h1 h2 ⊢
    exact (Lst.step hc (hlt x (by simp)) (hlt y (by simp)) h1 h2 h.bc.ab).ab.bc
theorem le_of_pLt {x y : Str} {i j : Int} (h : pLt x i y j = true) : le x.cps.toList y.cps.toList := by
  rw [pLt_iff] at h
  rcases h with h | ⟨h, _⟩
  · exact le_of_lt h
  · rw [h]; exact le.refl _
/-- a row with its list in pieces -/
structure RD where
  r : Rw
  P : Addr
  pn : Nat
  ps : List Pc
  i0 : Int
  tk : Tok
  ti : Tok
noncomputable def RD.mut (c : RD) : List (Addr × Obj) := [(c.r.x, accO c.r.d (vals c.r.qs) c.r.n), (c.r.d, c.r.od), (c.P, lstO (vals c.ps) c.pn)]
noncomputable def RD.adr (c : RD) : List Addr := [c.r.x, c.r.d, c.P]
structure RDok (w : World) (fz : List (Addr × Obj)) (c : RD) : Prop where
  l : (c.r.l, lstO #[.ref c.r.x, .int c.r.j c.r.tj] c.r.n1) ∈ fz
  od : c.r.od = iniD w.params c.i0 c.tk c.ti
  q : ∀ q ∈ c.r.qs, (q.a, q.obj) ∈ fz
  p : ∀ q ∈ c.ps, (q.a, q.obj) ∈ fz
  t : c.r.qs.map Pc.t2 = c.ps.map Pc.t2
  ne : ∀ q ∈ c.r.qs, ∀ p ∈ c.ps, q.a ≠ p.a
  ok : ∀ q ∈ c.r.qs, q.ok
theorem RDok.mono {w : World} {a b : List (Addr × Obj)} {c : RD} (x : RDok w a c) (h : ∀ q ∈ a, q ∈ b) : RDok w b c := ⟨h _ x.l, x.od, fun q hq => h _ (x.q q hq), fun q hq => h _ (x.p q hq), x.t, x.ne, x.ok⟩
structure WC where
  hA : Addr
  tA : Addr
  xt : Addr
  dt : Addr
  RA : Addr
  PA : Addr
  WA : Addr
  NA : Addr
  nr : Nat
  np : Nat
  ra : Array Value
  pa : Array Value
  tk4 : Tok
  ti4 : Tok
  W0 : List Nat
  W1 : List Nat
  W2 : List Nat
  K : Nat
  fz0 : List (Addr × Obj)
structure WD where
  nh : Nat
  es : List En
  p63 : Array Value
  p70 : Array Value
  nt : Nat
  tkn : List Pc
  ntd : Nat
  td : List Pc
  rs : List RD
  fz : List (Addr × Obj)
noncomputable def led (C : WC) (D : WD) : List (Addr × Obj) := (C.hA, lstO (refsE D.es) D.nh) :: (63, tblO D.p63) :: (70, tblO D.p70) :: (C.tA, lstO (vals D.tkn) D.nt) :: (C.xt, accO C.dt (vals D.td) D.ntd) :: (D.rs.flatMap RD.mut ++ D.fz)
noncomputable def mu (C : WC) (rs : List RD) : List Addr := C.hA :: 63 :: 70 :: C.tA :: C.xt :: rs.flatMap RD.adr
noncomputable def RD.ne (r : Rw) : Bool := !r.qs.isEmpty
structure WOk (w : World) (C : WC) (D : WD) : Prop where
  nd : (mu C D.rs).Nodup
  fr : ∀ q ∈ D.fz, q.1 ∉ mu C D.rs
  hRA : (C.RA, lstO C.ra C.nr) ∈ D.fz
  hra : C.ra = refsR (D.rs.map RD.r)
  hPA : (C.PA, lstO C.pa C.np) ∈ D.fz
  hpa : C.pa = (D.rs.map fun c => Value.ref c.P).toArray
  row : ∀ c ∈ D.rs, RDok w D.fz c
  ln : (D.rs.map fun c => c.r.l).Nodup
  js : (D.rs.map fun c => c.r.j) = [0, 1, 2]
  hes : ∀ e ∈ D.es, (e.a, e.obj) ∈ D.fz
  hp : Hp D.es
  pm : (D.es.map En.kp).Perm (((D.rs.map RD.r).filter fun r => !r.qs.isEmpty).map Rw.kp)
  t63 : TabOk posLen D.p63
  t70 : TabOk posStr D.p70
  hdt : (C.dt, iniD w.params 4 C.tk4 C.ti4) ∈ D.fz
  tdf : ∀ q ∈ D.td, (q.a, q.obj) ∈ D.fz
  tkf : ∀ q ∈ D.tkn, (q.a, q.obj) ∈ D.fz
  t2 : D.td.map Pc.t2 = D.tkn.map Pc.t2
  tok : ∀ q ∈ D.td, q.ok
  tne : ∀ q ∈ D.td, ∀ p ∈ D.tkn, q.a ≠ p.a
  tnr : ∀ q ∈ D.td, ∀ c ∈ D.rs, ∀ p ∈ c.r.qs, q.a ≠ p.a
  cnt : D.tkn.length + (D.rs.map fun c => c.r.qs.length).sum = C.K
  kle : C.K ≤ 12
  pure : ∀ z, Lst3 (D.rs.map fun c => letsOf c.r.qs) z → Lst C.W0 C.W1 C.W2 (letsOf D.td ++ z)
  fz0 : ∀ q ∈ C.fz0, q ∈ D.fz
end Mine
end SY2

section SY3
namespace Mine
theorem le_sum {l : List Nat} {a : Nat} (h : a ∈ l) : a ≤ l.sum := by
  induction h with
  | head => simp
  | tail _ _ ih => simp only [List.sum_cons]; omega
theorem mut_key {c : RD} {q : Addr × Obj} (h : q ∈ c.mut) : q.1 ∈ c.adr := by
  simp only [RD.mut, List.mem_cons, List.not_mem_nil, or_false] at h
  simp only [RD.adr, List.mem_cons, List.not_mem_nil, or_false]
  rcases h with rfl | rfl | rfl
  · exact .inl rfl
  · exact .inr (.inl rfl)
  · exact .inr (.inr rfl)
theorem muts_key {cs : List RD} {q : Addr × Obj} (h : q ∈ cs.flatMap RD.mut) : q.1 ∈ cs.flatMap RD.adr := by
  obtain ⟨c, hc, hq⟩ := List.mem_flatMap.mp h
  exact List.mem_flatMap.mpr ⟨c, hc, mut_key hq⟩
theorem adrs_key {cs : List RD} {a : Addr} (h : a ∈ cs.flatMap RD.adr) : ∃ o, (a, o) ∈ cs.flatMap RD.mut := by
  obtain ⟨c, hc, hq⟩ := List.mem_flatMap.mp h
  simp only [RD.adr, List.mem_cons, List.not_mem_nil, or_false] at hq
  rcases hq with rfl | rfl | rfl
  · exact ⟨_, List.mem_flatMap.mpr ⟨c, hc, .head _⟩⟩
  · exact ⟨_, List.mem_flatMap.mpr ⟨c, hc, .tail _ (.head _)⟩⟩
  · exact ⟨_, List.mem_flatMap.mpr ⟨c, hc, .tail _ (.tail _ (.head _))⟩⟩
theorem en_j {e f : En} (h : e.obj = f.obj) : e.j = f.j := by
  unfold En.obj at h
  simp only [lstO, Obj.mk.injEq, Data.seq.injEq, true_and, and_true] at h
  have := congrArg (fun z : Array Value => z[1]?) h.1
  simp at this
  exact this.1
theorem mu_split {C : WC} {pre post : List RD} {c : RD} (nd : (mu C (pre ++ c :: post)).Nodup) :
    [C.hA, 63, 70, C.tA, C.xt, c.r.x, c.r.d, c.P].Nodup ∧ ∀ a ∈ pre.flatMap RD.adr ++ post.flatMap RD.adr, a ∉ [C.hA, 63, 70, C.tA, C.xt, c.r.x, c.r.d, c.P] := by
  have e : mu C (pre ++ c :: post) = [C.hA, 63, 70, C.tA, C.xt] ++ (pre.flatMap RD.adr ++ ([c.r.x, c.r.d, c.P] ++ post.flatMap RD.adr)) := by
    simp [mu, RD.adr]
  rw [e] at nd
  have p : ([C.hA, 63, 70, C.tA, C.xt] ++ (pre.flatMap RD.adr ++ ([c.r.x, c.r.d, c.P] ++ post.flatMap RD.adr))).Perm ([C.hA, 63, 70, C.tA, C.xt, c.r.x, c.r.d, c.P] ++ (pre.flatMap RD.adr ++ post.flatMap RD.adr)) := by
    have : [C.hA, 63, 70, C.tA, C.xt, c.r.x, c.r.d, c.P] = [C.hA, 63, 70, C.tA, C.xt] ++ [c.r.x, c.r.d, c.P] := rfl
    rw [this, List.append_assoc]
    refine List.Perm.append_left _ ?_
    rw [← List.append_assoc, ← List.append_assoc]
    exact List.Perm.append_right _ List.perm_append_comm
  have nd' := p.nodup nd
  rw [List.nodup_append] at nd'
  exact ⟨nd'.1, fun a ha h => nd'.2.2 a h a ha rfl⟩
theorem y3a {t s K a : Nat} (h1 : t + s = K) (h2 : K ≤ 12) (h3 : a ≤ s) : a ≤ 12 := by omega
theorem y3b {t s K : Nat} (h1 : t + s = K) (h2 : K ≤ 12) : t ≤ 12 := by omega
theorem y3c {n : Nat} (h : n ≤ 11) : n + 2 ≤ 100 := by omega
theorem y3d (n : Nat) : ((n + 2 : Nat) : Int) - 2 = (n : Int) := by omega
theorem y3e {a b : Nat} (h1 : a + 1 = b) (h2 : b ≤ 3) : a ≤ 2 := by omega
theorem js_mid {α : Type} {f : α → Int} {pre post : List α} {c : α} (h : (pre ++ c :: post).map f = [0, 1, 2]) : f c = (pre.length : Int) ∧ pre.length ≤ 2 := by
  have hl : pre.length + (post.length + 1) = 3 := by have := congrArg List.length h; simpa using this
  have e := congrArg (fun z => z[pre.length]?) h
  simp at e
  have hp : pre.length ≤ 2 := by omega
  refine ⟨?_, hp⟩
  generalize pre.length = n at e hp
  match n, hp with
  | 0, _ => simpa using e
  | 1, _ => simpa using e
  | 2, _ => simpa using e
theorem turn2 {p : Program} {loose : List Str} {mean : ExcName → Option Value} {mg mb : Str → Option Value} {w : World} {dp un : Nat} {gd : Option (List Code)} {outer : List Env} {base g : Heap} {s : Shared} {E : Value → Shared → Prop} {Q : Flow → Shared → Prop}
    {name qual : Str} {params : Arguments} {body : List Stmt} {scope : Scope} {cl : List (Str × Addr)} {dV kV doc pm cdv ct oc : Value} {an od : Option Addr} {osl : Array (Option Value)} {L : Addr}
    (ho : (k0.heap_1 w.params).lookup 205 = some ⟨oc, od, .func (fnX name qual params body scope cl dV kV doc pm an cdv ct), osl⟩)
    {m : Str → Option Value} {C : WC} {D : WD} {e0 : En} {es : List En}
    (Bl : Below (aT dp un gd outer) base outer g) (X : (k0.heap_1 w.params).In g) (T : Top p loose mean mg mb g) (hd : dp + 28 < recursionLimit) (hu : un + 280 < cLine)
    (F : Fr g L s.heap m) (mo : MO C.hA C.tA C.xt C.RA C.PA C.WA C.NA m) (N : News g L s.heap (led C D)) (O : WOk w C D) (hes : D.es = e0 :: es)
    (kont : ∀ s' m' D', Fr g L s'.heap m' → MO C.hA C.tA C.xt C.RA C.PA C.WA C.NA m' → News g L s'.heap (led C D') → WOk w C D' → Gs s s' → D'.tkn.length = D.tkn.length + 1 → Q .next s') :
    wpAny (model Challenge.rw_nb0220_01.row.prog w) ((aT dp un gd outer).deeper (envX qual scope L 205 cdv cl)) (execs (whileBody body 8) (envX qual scope L 205 cdv cl)) Q E s := by
  obtain ⟨nh, es', p63, p70, nt, tkn, ntd, td, rs, fz⟩ := D
  simp only at hes
  subst hes
  have hmem := O.pm.subset (List.mem_map_of_mem (f := En.kp) (List.mem_cons_self (a := e0) (l := es)))
  obtain ⟨r1, hr1, hk⟩ := List.mem_map.mp hmem
  obtain ⟨hr2, hr3⟩ := List.mem_filter.mp hr1
  obtain ⟨c, hc, rfl⟩ := List.mem_map.mp hr2
  have R := O.row c hc
  obtain ⟨pre, post, hrs⟩ := List.append_of_mem hc
  simp only at hrs
  subst hrs
  obtain ⟨q0, qs, hqs⟩ : ∃ q0 qs, c.r.qs = q0 :: qs := by
    cases h : c.r.qs with
    | nil => rw [h] at hr3; cases hr3
    | cons a b => exact ⟨a, b, rfl⟩
  obtain ⟨p0, ps, hps⟩ : ∃ p0 ps, c.ps = p0 :: ps := by
    have := R.t
    rw [hqs] at this
    cases h : c.ps with
    | nil => rw [h] at this; cases this
    | cons a b => exact ⟨a, b, rfl⟩
  have hlen : (pre ++ c :: post).length = 3 := by have := congrArg List.length O.js; simpa using this
  obtain ⟨hcj, hpl⟩ := js_mid (f := fun c : RD => c.r.j) O.js
  have hjt : c.r.j.toNat = pre.length := congrArg Int.toNat hcj
  have hsum : ∀ c2 ∈ pre ++ c :: post, c2.r.qs.length ≤ 12 := fun c2 h2 => by
    exact y3a O.cnt O.kle (le_sum (List.mem_map_of_mem (f := fun c : RD => c.r.qs.length) ‹c2 ∈ pre ++ c :: post›))
  have htk : tkn.length ≤ 12 := y3b O.cnt O.kle
  have htd : td.length ≤ 12 := by
    have := congrArg List.length O.t2
    simp only [List.length_map] at this
    exact this ▸ htk
  obtain ⟨nd8, nz8⟩ := mu_split O.nd
  have hj3 : ((pre ++ c :: post).map fun c => c.r.j).Nodup := by rw [O.js]; decide
  have hjn : ((e0 :: es).map (·.j)).Nodup := by
    have e1 : (e0 :: es).map (·.j) = ((e0 :: es).map En.kp).map Prod.snd := by rw [List.map_map]; rfl
    rw [e1]
    refine (O.pm.map Prod.snd).symm.nodup ?_
    rw [List.map_map]
    refine (List.Sublist.map (Prod.snd ∘ Rw.kp) List.filter_sublist).nodup ?_
    rw [List.map_map]
    exact hj3
  have hfzl : ∀ q ∈ fz, q ∈ led C ⟨nh, e0 :: es, p63, p70, nt, tkn, ntd, td, pre ++ c :: post, fz⟩ := fun q hq => by simp only [led, List.mem_cons, List.mem_append, hq, or_true]
  have hea : ((e0 :: es).map (·.a)).Nodup := by
    have h1 : (e0 :: es).Pairwise fun e f => e.j ≠ f.j := List.pairwise_map.mp hjn
    refine List.pairwise_map.mpr (h1.imp_of_mem fun {e f} he hf hne ha => hne ?_)
    have g1 := (N _ (hfzl _ (O.hes e he))).1
    have g2 := (N _ (hfzl _ (O.hes f hf))).1
    simp only at g1 g2
    rw [ha, g2] at g1
    exact (en_j (Option.some.inj g1)).symm
  have h3 : es.length ≤ 2 := by
    have h1 := O.pm.length_eq
    have h2 : ((pre ++ c :: post).map RD.r |>.filter fun r => !r.qs.isEmpty).length ≤ 3 := by
      refine Nat.le_trans (List.length_filter_le _ _) ?_
      rw [List.length_map, hlen]
      exact Nat.le_refl _
    simp only [List.length_map, List.length_cons] at h1 h2
    exact y3e h1 h2
  have hok0 : q0.ok := R.ok q0 (by rw [hqs]; exact .head _)
  have hokq : ∀ q ∈ qs, q.ok := fun q hq => R.ok q (by rw [hqs]; exact .tail _ hq)
  have hb1 : qs.length ≤ 11 := by
    have := hsum c (by simp)
    rw [hqs] at this
    simpa using this
  have hkl : c.r.key.length = qs.length + 2 := by
    rw [len_cps, key_cps, hqs, List.length_append, lets_cons, List.length_append, hok0.1, lets_len qs hokq]
    simp; omega
  have hZm : ∀ c2, c2 ∈ pre ∨ c2 ∈ post → ∀ q ∈ c2.mut, q ∈ pre.flatMap RD.mut ++ post.flatMap RD.mut ++ fz := fun c2 h2 q hq => by
    rcases h2 with h2 | h2
    · exact List.mem_append_left _ (List.mem_append_left _ (List.mem_flatMap.mpr ⟨c2, h2, hq⟩))
    · exact List.mem_append_left _ (List.mem_append_right _ (List.mem_flatMap.mpr ⟨c2, h2, hq⟩))
  have hZf : ∀ q ∈ fz, q ∈ pre.flatMap RD.mut ++ post.flatMap RD.mut ++ fz := fun q hq => List.mem_append_right _ hq
  have hcm : ∀ c2, (c2 = c ∨ (c2 ∈ pre ∨ c2 ∈ post)) ↔ c2 ∈ pre ++ c :: post := fun c2 => by
    simp only [List.mem_append, List.mem_cons]
    constructor
    · rintro (h | h | h)
      · exact .inr (.inl h)
      · exact .inl h
      · exact .inr (.inr h)
    · rintro (h | h | h)
      · exact .inr (.inl h)
      · exact .inl h
      · exact .inr (.inr h)
  refine turn1 (r := c.r) (P := c.P) (pn := c.pn) (rs := (pre ++ c :: post).map RD.r) (pa := C.pa) (nr := C.nr) (np := C.np) (q0 := q0) (p0 := p0) (qs := qs) (ps := ps) (i0 := c.i0) (tk0 := c.tk) (ti := c.ti) (i4 := 4) (tk4 := C.tk4) (ti4 := C.ti4) (e0 := e0) (es := es) (nh := nh) (nt := nt) (ntd := ntd) (td := td) (tkn := tkn) (p63 := p63) (p70 := p70) (dt := C.dt) (Z := pre.flatMap RD.mut ++ post.flatMap RD.mut ++ fz)
    ho Bl X T hd hu F mo ?_ nd8 ?_ O.t63 O.t70 (by rw [List.length_map]; exact hlen) hr2 R.od hqs (hZf _ (O.hra ▸ O.hRA)) ?_ (hZf _ R.l) (hZf _ O.hPA) ?_ (hcj ▸ Int.natCast_nonneg _) (hcj ▸ Int.ofNat_le.mpr hpl) ?_ ?_ ?_ ?_ ?_ (fun e he => hZf _ (O.hes e he)) h3 O.hp O.pm hk.symm hjn hea
    (fun q hq => hZf _ (R.q q hq)) (fun q hq => hZf _ (R.p q (hps ▸ hq))) (hps ▸ R.t) (fun q hq p hp => R.ne q hq p (hps ▸ hp)) (hZf _ O.hdt) (Nat.le_succ_of_le hb1) htd htk ?_ (hkl ▸ y3c hb1) ?_
  · rw [← hps]
    have E := news_dr 5 N
    have E1 := news_l E
    rw [List.flatMap_append, List.flatMap_cons] at E1
    exact news_cat (news_cat (news_tk 5 N) (news_l (news_r E1))) (news_cat (news_cat (news_l E1) (news_r (news_r E1))) (news_r E))
  · intro q hq
    rcases List.mem_append.mp hq with h | h
    · refine nz8 _ ?_
      rcases List.mem_append.mp h with h | h
      · exact List.mem_append_left _ (muts_key h)
      · exact List.mem_append_right _ (muts_key h)
    · intro h8
      refine O.fr q h ?_
      have : [C.hA, 63, 70, C.tA, C.xt, c.r.x, c.r.d, c.P] ⊆ mu C (pre ++ c :: post) := by
        intro a ha
        simp only [mu, List.mem_cons, List.mem_flatMap, List.not_mem_nil, or_false] at ha ⊢
        rcases ha with h | h | h | h | h | h | h | h
        · exact .inl h
        · exact .inr (.inl h)
        · exact .inr (.inr (.inl h))
        · exact .inr (.inr (.inr (.inl h)))
        · exact .inr (.inr (.inr (.inr (.inl h))))
        · exact .inr (.inr (.inr (.inr (.inr ⟨c, hc, by simp [RD.adr, h]⟩))))
        · exact .inr (.inr (.inr (.inr (.inr ⟨c, hc, by simp [RD.adr, h]⟩))))
        · exact .inr (.inr (.inr (.inr (.inr ⟨c, hc, by simp [RD.adr, h]⟩))))
      exact this h8
  · rw [hjt]
    simp [refsR]
  · rw [hjt, O.hpa]
    simp
  · intro r' hr'
    obtain ⟨c2, hc2, rfl⟩ := List.mem_map.mp hr'
    rcases (hcm c2).mpr hc2 with e | h2
    · rw [e]; exact .inl rfl
    · have R2 := O.row c2 hc2
      exact .inr ⟨hZf _ R2.l, hZm c2 h2 _ (.head _), hZm c2 h2 _ (.tail _ (.head _)), by rw [R2.od]; exact (by simp : (Value.type "dict") ≠ Value.none), fun q hq => hZf _ (R2.q q hq)⟩
  · intro r' hr'
    obtain ⟨c2, hc2, rfl⟩ := List.mem_map.mp hr'
    rw [(O.row c2 hc2).od]
    rfl
  · rw [List.map_map]; exact O.ln
  · rw [List.map_map]
    have : ((pre ++ c :: post).map ((fun x => x.j) ∘ RD.r)) = [0, 1, 2] := O.js
    rw [this]
    decide
  · intro r' hr'
    obtain ⟨c2, hc2, rfl⟩ := List.mem_map.mp hr'
    exact ⟨fun q hq => ok_sm ((O.row c2 hc2).ok q hq), Nat.le_trans (hsum c2 hc2) (by decide)⟩
  · rw [hkl, lenSum_lets, lets_len qs hokq]; exact y3d _
  intro s' m' es2 nh2 p632 p702 nt2 ntd2 n2 ti2 pn2 qn fz2 F2 mo2 N2 hf8 hfZ t632 t702 gs2 hp2 hqn hor
  refine kont s' m' ⟨nh2, es2, p632, p702, nt2, tkn ++ [q0], ntd2, td ++ [qn], pre ++ { c with r := { c.r with qs := qs, n := n2, od := iniD w.params 0 c.tk ti2 }, pn := pn2, ps := ps, i0 := 0, ti := ti2 } :: post, (qn.a, qn.obj) :: (fz2 ++ fz)⟩ F2 mo2 ?_ ?_ gs2 (by simp)
  · have E1 := news_tk 9 N2
    have E2 := news_dr 9 N2
    refine news_cat (a := [_, _, _, _, _]) (news_idx E1 [0, 1, 2, 3, 4]) ?_
    rw [List.flatMap_append, List.flatMap_cons]
    exact news_cat (news_cat (news_l (news_l (news_r E2))) (news_cat (a := [_, _, _]) (news_idx E1 [5, 6, 7]) (news_r (news_l (news_r E2))))) (news_cat (a := [_]) (news_idx E1 [8]) (news_cat (news_l E2) (news_r (news_r E2))))
  have hmu : mu C (pre ++ { c with r := { c.r with qs := qs, n := n2, od := iniD w.params 0 c.tk ti2 }, pn := pn2, ps := ps, i0 := 0, ti := ti2 } :: post) = mu C (pre ++ c :: post) := by
    simp only [mu, List.flatMap_append, List.flatMap_cons, RD.adr]
  have hup : ∀ q ∈ fz, q ∈ (qn.a, qn.obj) :: (fz2 ++ fz) := fun q hq => .tail _ (List.mem_append_right _ hq)
  have hfr : ∀ q ∈ (qn.a, qn.obj) :: fz2, q.1 ∉ mu C (pre ++ c :: post) := fun q hq hm => by
    have h8 := hf8 q hq
    simp only [List.mem_cons, List.not_mem_nil, or_false, not_or] at h8
    simp only [mu, List.mem_cons, List.flatMap_append, List.flatMap_cons, List.mem_append, RD.adr, List.not_mem_nil, or_false] at hm
    rcases hm with h | h | h | h | h | h | (h | h | h) | h
    · exact h8.1 h
    · exact h8.2.1 h
    · exact h8.2.2.1 h
    · exact h8.2.2.2.1 h
    · exact h8.2.2.2.2.1 h
    · obtain ⟨o, ho⟩ := adrs_key h
      exact hfZ (q.1, o) (List.mem_append_left _ (List.mem_append_left _ ho)) q hq rfl
    · exact h8.2.2.2.2.2.1 h
    · exact h8.2.2.2.2.2.2.1 h
    · exact h8.2.2.2.2.2.2.2 h
    · obtain ⟨o, ho⟩ := adrs_key h
      exact hfZ (q.1, o) (List.mem_append_left _ (List.mem_append_right _ ho)) q hq rfl
  have hqx : qn.x = q0.x ∧ qn.y = q0.y := by
    unfold Pc.t2 at hqn
    exact Prod.mk.inj hqn
  have hqne : ∀ q : Pc, (q.a, q.obj) ∈ fz → qn.a ≠ q.a := fun q hq => Ne.symm (hfZ (q.a, q.obj) (hZf _ hq) (qn.a, qn.obj) (.head _))
  have hnew : ∀ c2 ∈ pre ++ { c with r := { c.r with qs := qs, n := n2, od := iniD w.params 0 c.tk ti2 }, pn := pn2, ps := ps, i0 := 0, ti := ti2 } :: post, c2 = { c with r := { c.r with qs := qs, n := n2, od := iniD w.params 0 c.tk ti2 }, pn := pn2, ps := ps, i0 := 0, ti := ti2 } ∨ (c2 ∈ pre ∨ c2 ∈ post) := fun c2 h2 => by
    simp only [List.mem_append, List.mem_cons] at h2
    rcases h2 with h | h | h
    · exact .inr (.inl h)
    · exact .inl h
    · exact .inr (.inr h)
  have hold : ∀ c2, c2 ∈ pre ∨ c2 ∈ post → c2 ∈ pre ++ c :: post := fun c2 h2 => (hcm c2).mp (.inr h2)
  have hRt := R.t
  rw [hqs, hps, List.map_cons, List.map_cons] at hRt
  injection hRt with hRt0 hRt1
  refine { nd := by rw [hmu]; exact O.nd, fr := ?_, hRA := hup _ O.hRA, hra := ?_, hPA := hup _ O.hPA, hpa := ?_, row := ?_, ln := ?_, js := ?_, hes := ?_, hp := hp2, pm := ?_, t63 := t632, t70 := t702, hdt := hup _ O.hdt, tdf := ?_, tkf := ?_, t2 := ?_, tok := ?_, tne := ?_, tnr := ?_, cnt := ?_, kle := O.kle, pure := ?_, fz0 := fun q hq => hup _ (O.fz0 q hq) }
  · intro q hq
    rw [hmu]
    rcases List.mem_cons.mp hq with h | h
    · exact hfr q (h ▸ .head _)
    · rcases List.mem_append.mp h with h | h
      · exact hfr q (.tail _ h)
      · exact O.fr q h
  · rw [O.hra]; simp [refsR]
  · rw [O.hpa]; simp
  · intro c2 h2
    rcases hnew c2 h2 with rfl | h2
    · exact ⟨hup _ R.l, rfl, fun q hq => hup _ (R.q q (by rw [hqs]; exact .tail _ hq)), fun q hq => hup _ (R.p q (by rw [hps]; exact .tail _ hq)), hRt1, fun q hq p hp => R.ne q (by rw [hqs]; exact .tail _ hq) p (by rw [hps]; exact .tail _ hp), hokq⟩
    · exact (O.row c2 (hold c2 h2)).mono hup
  · have := O.ln
    simp only [List.map_append, List.map_cons] at this ⊢
    exact this
  · have := O.js
    simp only [List.map_append, List.map_cons] at this ⊢
    exact this
  · intro e he
    rcases hor with ⟨_, hpm, _⟩ | ⟨_, en, _, hpm, hz2⟩
    · exact hup _ (O.hes e (.tail _ (hpm.subset he)))
    · rcases List.mem_cons.mp (hpm.subset he) with h | h
      · rw [h, hz2]; exact .tail _ (.head _)
      · exact hup _ (O.hes e (.tail _ h))
  · have hpm := O.pm
    simp only [List.map_append, List.map_cons, List.filter_append] at hpm ⊢
    rw [List.filter_cons_of_pos (by simpa using hr3), List.map_cons, ← hk.symm] at hpm
    have hpm2 := (hpm.trans List.perm_middle).cons_inv
    rcases hor with ⟨h0, hpe, _⟩ | ⟨h0, en, hen, hpe, _⟩
    · rw [List.filter_cons_of_neg (by simp [h0])]
      exact (hpe.map _).trans hpm2
    · rw [List.filter_cons_of_pos (by simpa using h0), List.map_cons]
      refine (hpe.map _).trans (List.Perm.trans ?_ List.perm_middle.symm)
      rw [List.map_cons, hen]
      exact hpm2.cons _
  · intro q hq
    rcases List.mem_append.mp hq with h | h
    · exact hup _ (O.tdf q h)
    · rw [List.mem_singleton.mp h]; exact .head _
  · intro q hq
    rcases List.mem_append.mp hq with h | h
    · exact hup _ (O.tkf q h)
    · rw [List.mem_singleton.mp h]; exact hup _ (R.q q0 (by rw [hqs]; exact .head _))
  · have := O.t2
    simp only [List.map_append, List.map_cons, List.map_nil] at this ⊢
    rw [this, hqn]
  · intro q hq
    rcases List.mem_append.mp hq with h | h
    · exact O.tok q h
    · rw [List.mem_singleton.mp h]
      unfold Pc.ok
      rw [hqx.1, hqx.2]
      exact hok0
  · intro q hq p hp
    rcases List.mem_append.mp hq with h | h <;> rcases List.mem_append.mp hp with h' | h'
    · exact O.tne q h p h'
    · rw [List.mem_singleton.mp h']; exact O.tnr q h c hc q0 (by rw [hqs]; exact .head _)
    · rw [List.mem_singleton.mp h]; exact hqne p (O.tkf p h')
    · rw [List.mem_singleton.mp h, List.mem_singleton.mp h']; exact hqne q0 (R.q q0 (by rw [hqs]; exact .head _))
  · intro q hq c2 h2 p hp
    have hp0 : ∃ c3 ∈ pre ++ c :: post, p ∈ c3.r.qs := by
      rcases hnew c2 h2 with rfl | h2
      · exact ⟨c, hc, by rw [hqs]; exact .tail _ hp⟩
      · exact ⟨c2, hold c2 h2, hp⟩
    obtain ⟨c3, h3, hp3⟩ := hp0
    rcases List.mem_append.mp hq with h | h
    · exact O.tnr q h c3 h3 p hp3
    · rw [List.mem_singleton.mp h]; exact hqne p ((O.row c3 h3).q p hp3)
  · have := O.cnt
    simp only [List.map_append, List.map_cons, List.sum_append, List.sum_cons, hqs, List.length_cons, List.length_append, List.length_nil] at this ⊢
    omega
  · intro z hz
    obtain ⟨k, hk1⟩ := ok_one hok0
    have e1 : letsOf (td ++ [qn]) ++ z = letsOf td ++ (k :: z) := by
      rw [lets_snoc, hqx.1, hqx.2, hk1, List.append_assoc]; rfl
    show Lst _ _ _ (letsOf (td ++ [qn]) ++ z)
    rw [e1]
    refine O.pure (k :: z) (lst3_step (fun c : RD => letsOf c.r.qs) hlen ?_ ?_ ?_ hz)
    · show letsOf c.r.qs = k :: letsOf qs
      rw [hqs, lets_cons, hk1]; rfl
    · intro a ha
      exact lets_lt _ (O.row a ha).ok
    · intro a ha hna
      have ha' := hold a (List.mem_append.mp ha)
      have han : a.r.qs ≠ [] := fun e => hna (by show letsOf a.r.qs = []; rw [e]; rfl)
      have h1 : a.r.kp ∈ (e0 :: es).map En.kp := O.pm.symm.subset (List.mem_map_of_mem (List.mem_filter.mpr ⟨List.mem_map_of_mem ha', by simpa using han⟩))
      obtain ⟨f, hf, hfk⟩ := List.mem_map.mp h1
      have hja : a.r.j ≠ c.r.j := by
        have hj4 := hj3
        simp only [List.map_append, List.map_cons] at hj4
        have hj5 := List.perm_middle.nodup hj4
        have hj6 := (List.nodup_cons.mp hj5).1
        intro e
        refine hj6 ?_
        rw [← e, ← List.map_append]
        exact List.mem_map_of_mem (f := fun c : RD => c.r.j) ha
      rcases List.mem_cons.mp hf with h | hf
      · exact absurd (congrArg Prod.snd (hfk.symm.trans ((congrArg En.kp h).trans hk.symm))) hja
      · have h2 : eLt e0 f = true := O.hp f hf
        have h3 := le_of_pLt h2
        have x1 : e0.x = c.r.key := (congrArg Prod.fst hk).symm
        have x2 : f.x = a.r.key := congrArg Prod.fst hfk
        rw [x1, x2, key_cps, key_cps] at h3
        exact h3
end Mine
end SY3

section SY4
namespace Mine
noncomputable def whileTest : List Stmt → Nat → PySem.Expr
  | .While t _ _ _ :: _, 0 => t
  | _ :: r, n + 1 => whileTest r n
  | _, _ => .Name (Str.ofString "") default
theorem while_shape {w : World} {name qual : Str} {params : Arguments} {body : List Stmt} {scope : Scope} {cl : List (Str × Addr)} {dV kV doc pm cdv ct oc : Value} {an od : Option Addr} {osl : Array (Option Value)}
    (ho : (k0.heap_1 w.params).lookup 205 = some ⟨oc, od, .func (fnX name qual params body scope cl dV kV doc pm an cdv ct), osl⟩) : ∃ pos, stAt body 8 = .While (whileTest body 8) (whileBody body 8) [] pos := by
  rw [(law_eq ho).2.2.2.2]
  exact ⟨_, rfl⟩
theorem test_ok {w : World} {dp un : Nat} {gd : Option (List Code)} {outer : List Env} {g : Heap} {s : Shared} {E : Value → Shared → Prop} {Q : Bool → Shared → Prop}
    {name qual : Str} {params : Arguments} {body : List Stmt} {t : PySem.Expr} {scope : Scope} {cl : List (Str × Addr)} {dV kV doc pm cdv ct oc : Value} {an od : Option Addr} {osl : Array (Option Value)} {L : Addr}
    (ho : (k0.heap_1 w.params).lookup 205 = some ⟨oc, od, .func (fnX name qual params body scope cl dV kV doc pm an cdv ct), osl⟩) (hT : t = whileTest body 8)
    {m : Str → Option Value} {hA : Addr} {nh : Nat} {vs : Array Value} {news : List (Addr × Obj)} (X : (k0.heap_1 w.params).In g) (hu : un + 280 < cLine)
    (F : Fr g L s.heap m) (N : News g L s.heap news) (e1 : m (Str.ofString "heap") = some (.ref hA)) (hh : (hA, lstO vs nh) ∈ news)
    (kont : ∀ h tk, Fr g L h m → News g L h news → Q (!vs.isEmpty) { s with heap := h, toks := tk }) :
    wpAny (model Challenge.rw_nb0220_01.row.prog w) ((aT dp un gd outer).deeper (envX qual scope L 205 cdv cl)) (isTrue t (envX qual scope L 205 cdv cl) (eval t (envX qual scope L 205 cdv cl))) Q E s := by
  w_on
  rw [(law_eq ho).1, (law_eq ho).2.1, (law_eq ho).2.2.1, (law_eq ho).2.2.2.1, hT, (law_eq ho).2.2.2.2]
  conv in (whileTest _ _) => whnf
  conv in (lawScope _) => whnf
  replace F := fr_at F e1
  iterate 4 walk1
  walk1
  rename_i T1 h1 F1 N1 l1
  refine ne_nilK (News.get N1 (.tail _ hh)) (News.get N1 (.head _)) (by show un + 3 < cLine; omega) ?_
  walk1
  refine kont _ _ (fr_back F1 e1) fun q hq => N1 q (.tail _ hq)
theorem while_ok {p : Program} {loose : List Str} {mean : ExcName → Option Value} {mg mb : Str → Option Value} {w : World} {dp un : Nat} {gd : Option (List Code)} {outer : List Env} {base g : Heap} {s : Shared} {E : Value → Shared → Prop} {Q : Flow → Shared → Prop}
    {name qual : Str} {params : Arguments} {body : List Stmt} {S : Stmt} {scope : Scope} {cl : List (Str × Addr)} {dV kV doc pm cdv ct oc : Value} {an od : Option Addr} {osl : Array (Option Value)} {L : Addr}
    (ho : (k0.heap_1 w.params).lookup 205 = some ⟨oc, od, .func (fnX name qual params body scope cl dV kV doc pm an cdv ct), osl⟩) (hS : S = stAt body 8)
    {m : Str → Option Value} {C : WC} {D : WD}
    (Bl : Below (aT dp un gd outer) base outer g) (X : (k0.heap_1 w.params).In g) (T : Top p loose mean mg mb g) (hd : dp + 28 < recursionLimit) (hu : un + 280 < cLine)
    (F : Fr g L s.heap m) (mo : MO C.hA C.tA C.xt C.RA C.PA C.WA C.NA m) (N : News g L s.heap (led C D)) (O : WOk w C D)
    (kont : ∀ s' m' D', Fr g L s'.heap m' → MO C.hA C.tA C.xt C.RA C.PA C.WA C.NA m' → News g L s'.heap (led C D') → WOk w C D' → D'.es = [] → Gs s s' → Q .next s') :
    wpAny (model Challenge.rw_nb0220_01.row.prog w) ((aT dp un gd outer).deeper (envX qual scope L 205 cdv cl)) (exec S (envX qual scope L 205 cdv cl)) Q E s := by
  obtain ⟨pos, hW⟩ := while_shape ho
  rw [hS, hW]
  refine wpAny_While (codeAny_whileLoop (fun n s' => ∃ m' D', Fr g L s'.heap m' ∧ MO C.hA C.tA C.xt C.RA C.PA C.WA C.NA m' ∧ News g L s'.heap (led C D') ∧ WOk w C D' ∧ Gs s s' ∧ n = C.K - D'.tkn.length) ?_ (C.K - D.tkn.length) ⟨m, D, F, mo, N, O, Gs.refl s, rfl⟩)
  rintro n s1 ⟨m1, D1, F1, mo1, N1, O1, gs1, rfl⟩
  refine test_ok ho rfl X hu F1 N1 mo1.heap (.head _) ?_
  intro h2 tk2 F2 N2
  cases hes : D1.es with
  | nil =>
    have e0 : (!(refsE ([] : List En)).isEmpty) = false := rfl
    simp only [e0]
    exact wpAny_execs_nil (kont _ m1 D1 F2 mo1 N2 O1 hes gs1)
  | cons e0 es =>
    have e1 : (!(refsE (e0 :: es)).isEmpty) = true := by simp [refsE]
    simp only [e1, if_true]
    refine turn2 ho Bl X T hd hu F2 mo1 N2 O1 hes ?_
    intro s3 m3 D3 F3 mo3 N3 O3 gs3 hlen
    refine ⟨C.K - D3.tkn.length, ?_, m3, D3, F3, mo3, N3, O3, gs1.trans gs3, rfl⟩
    have h1 := O3.cnt
    rw [hlen] at h1 ⊢
    omega
end Mine
end SY4

section SY5
namespace Mine
theorem pop_err {p : Program} {loose : List Str} {mean : ExcName → Option Value} {mg mb : Str → Option Value} {w : World} {dp un : Nat} {gd : Option (List Code)} {outer : List Env} {base H : Heap} {s : Shared} {R : Result → Shared → Prop}
    {lp : Addr} {n : Nat} {led : List (Addr × Obj)}
    (C : Cx p loose mean mg mb w (aT dp un gd outer) base outer H) (st : H.StaysIn s.heap) (hd : dp + 4 < recursionLimit) (hu : un + 40 < cLine)
    (hled : ∀ q ∈ led, s.heap.get? q.1 = some q.2 ∧ H.get? q.1 = none) (hl : (lp, lstO #[] n) ∈ led)
    (k : ∀ e g' h' tk', GSub s.heap g' (led.map (·.1)) → g'.UpToSlots h' → RaisedN base outer e (.type "IndexError") led h' → R (.error (.ref e)) { s with heap := h', toks := tk' }) :
    codeAny (model Challenge.rw_nb0220_01.row.prog w) (aT dp un gd outer) (.call (.ref 119) ⟨[.ref lp], []⟩) R s := by
  w_on
  refine' enter (binds := [(Str.ofString "heap", .ref lp)]) C st hled ?k6 ?k7 ?k8 ?k9 ?kB ?_ ?c5 ?c2 ?c3 ?c4
  (((case k6 => k_is); (case k7 => k_is); (case k8 => exact Nat.lt_of_le_of_lt (Nat.le_add_right _ _) hd); (case k9 => exact BindsTo.of_eq rfl); (case kB => exact locs rfl); (case c5 => decide); (case c2 => exact rfl); (case c3 => exact rfl); (case c4 => exact rfl)))
  intro g' L' h' F' N' B' X' T' G'
  (try dsimp only)
  (try k_fold)
  iterate 6 walk1
  (try dsimp only)
  walk1
  refine call_meets PySem.F.slot_list_pop ⟨_, News.get N' hl, rfl⟩ PySem.F.entry_list_pop (PySem.F.args_list_pop_1 _) (PySem.AutoSeq1.list_pop_list_0 lp #[] n rfl) ⟨News.get N' hl, rfl, ?_⟩
  intro h2 tk2 e hx
  refine leave_newK (m := fun y => List.lookup y [(Str.ofString "heap", Value.ref lp)].reverse) B' hx F' N' ?_
  intro h3 hr hs
  exact k e g' h3 _ G' hs hr
section
variable {prog : Program} {w : World} {A₀ : Around} {E : Value → Shared → Prop} {s' : Shared} {h₀ h : Heap} {outer : List Env} {L a e : Addr} {m : Str → Option Value} {name : Str} {scope : Scope} {cd : Value}
  {b₀ : Stmt} {suite : List Stmt} {pos : Pos} {rest : List ExceptHandler} {Q : Flow → Shared → Prop} {news : List (Addr × Obj)} {t : PySem.Expr} {X T' : String}
/-- a builtin exception caught in the frame that the ground ends at -/
theorem caughtX (K : Below A₀ h₀ outer h₀) (F : Fr h₀ L h m) (hsm : h.UpToSlots s'.heap) (R : RaisedN h₀ (envX name scope L a cd [] :: outer) e (.type X) news s'.heap)
    (hexc : isSubtype (.type T') (.type "BaseException") = pure true) (hnt : isSubtype (.type ((Manifest.find? T').elim "type" fun y => y.metatype)) (.type "tuple") = pure false) (hsub : isSubtype (.type X) (.type T') = pure true)
    (hev : ∀ (u : Shared) (Q' : Value → Shared → Prop) E', Fr h₀ L u.heap m → Q' (.type T') u → wpAny (model prog w) ((A₀.deeper (envX name scope L a cd [])).mark (some (.ref e))) (eval t (envX name scope L a cd [])) Q' E' u)
    (k : ∀ h' E', Fr h₀ L h' m → News h₀ L h' news → wpAny (model prog w) ((A₀.deeper (envX name scope L a cd [])).mark (some (.ref e))) (execs (b₀ :: suite) (envX name scope L a cd [])) Q E' { s' with heap := h' }) :
    wpAny (model prog w) (A₀.deeper (envX name scope L a cd [])) (noteFrame (.ref e) (envX name scope L a cd []))
      (fun _ s₂ => wpAny (model prog w) (A₀.deeper (envX name scope L a cd [])) (setFlight (.ref e) none) (fun _ s₃ =>
        wpAny (model prog w) (A₀.deeper (envX name scope L a cd [])) (handleBy (.ref e) (envX name scope L a cd []) (.ExceptHandler (some t) none (b₀ :: suite) pos :: rest)) Q E s₃) E s₂) E s' := by
  obtain ⟨B, a0, hB, hl, hfl⟩ := R
  have hL : B.get? L = none := by
    obtain ⟨_, ⟨L', _, hf, hn', _⟩, _⟩ := hfl.2.2.1
    obtain rfl : L = L' := Option.some.inj hf
    exact hn'
  refine wpAny_looks_onW (Around.frames_deeper K.stack) rfl hfl fun h₄ hd₄ sm₄ => wpAny_landsW hd₄ fun h₅ hd₅ sm₅ => ?_
  obtain ⟨ob, hob, hobc⟩ := (flyingW_base hB hd₅).there
  refine wpAny_handleBy_builtin (X := X) (T := T') (b := true) hexc hnt hsub (hev _ _ _ (F.of_stays (flyingW_base hB hd₅).1 (hsm.trans (sm₄.trans sm₅))) ⟨rfl, ⟨ob, hob, hobc⟩, ?_⟩)
  refine lands_againW hd₅ fun h₆ hd₆ sm₆ => ?_
  exact k h₆ _ (F.of_stays (flyingW_base hB hd₆).1 ((hsm.trans (sm₄.trans sm₅)).trans sm₆)) fun q hq => ⟨hd₆.1 _ _ (hl q hq).1, (fun z => by have := (hl q hq).1; rw [z, hL] at this; cases this), (hl q hq).2⟩
end
theorem try_ok {p : Program} {loose : List Str} {mean : ExcName → Option Value} {mg mb : Str → Option Value} {w : World} {dp un : Nat} {gd : Option (List Code)} {outer : List Env} {g : Heap} {s : Shared} {E : Value → Shared → Prop} {Q : Flow → Shared → Prop}
    {name qual : Str} {params : Arguments} {body : List Stmt} {S : Stmt} {scope : Scope} {cl : List (Str × Addr)} {dV kV doc pm cdv ct oc : Value} {an od : Option Addr} {osl : Array (Option Value)} {L : Addr}
    (ho : (k0.heap_1 w.params).lookup 205 = some ⟨oc, od, .func (fnX name qual params body scope cl dV kV doc pm an cdv ct), osl⟩) (hS : S = stAt body 9)
    {m : Str → Option Value} {hA : Addr} {nh : Nat} {news : List (Addr × Obj)}
    (Bl : Below (aT dp un gd outer) g outer g) (X : (k0.heap_1 w.params).In g) (T : Top p loose mean mg mb g) (hd : dp + 28 < recursionLimit) (hu : un + 280 < cLine)
    (F : Fr g L s.heap m) (N : News g L s.heap news) (hh : (hA, lstO #[] nh) ∈ news) (e1 : m (Str.ofString "heap") = some (.ref hA))
    (kont : ∀ h tk, Fr g L h m → News g L h news → Q .next { s with heap := h, toks := tk }) :
    wpAny (model Challenge.rw_nb0220_01.row.prog w) ((aT dp un gd outer).deeper (envX qual scope L 205 cdv cl)) (exec S (envX qual scope L 205 cdv cl)) Q E s := by
  w_on
  refine fn_exec (fun b => stAt b 9) hS (law_eq ho) ?_
  conv in (stAt _ _) => whnf
  conv in (lawScope _) => whnf
  replace F := fr_at F e1
  iterate 9 walk1
  refine ⟨X.keeps F.keep, ?_⟩
  refine use_call Bl F N X T rfl rfl ?_
  intro H9 C9 st9 f9 G9
  refine pop_err C9 st9 (room 23 hd) (room 237 hu) (led := news) (fun q hq => ⟨(N q hq).1, f9 q hq⟩) hh ?_
  intro e g' h' tk' G' sm hr
  have F' : Fr g L g' (fun y => if y = Str.ofString "heap" then some (.ref hA) else m y) := by
    obtain ⟨oL, es, ep, hL, r⟩ := F.ns
    refine ⟨⟨oL, es, ep, G' L oL hL ?_, r⟩, fun b o q => G' b o (F.keep b o q) ?_, F.above⟩
    · intro hm
      obtain ⟨q, hq, eq⟩ := List.mem_map.mp hm
      exact (N q hq).2.1 eq
    · intro hm
      obtain ⟨q', hq, eq⟩ := List.mem_map.mp hm
      have := (N q' hq).2.2
      rw [eq, q] at this
      cases this
  refine caughtX (T' := "IndexError") (news := news) Bl F' sm hr PySem.F.isExc_IndexError PySem.F.notTuple_IndexError PySem.F.self_IndexError ?_ ?_
  · intro u Q' E' Fu hQ
    walk1
    exact hQ
  · intro h6 E6 F6 N6
    iterate 3 walk1
    (try dsimp only)
    walk1
    exact kont _ _ (fr_back F6 e1) N6
end Mine
end SY5

section SY6
namespace Mine
inductive PushJ (g : Heap) (L hA I RA : Addr) (m : Str → Option Value) (rs : List Rw) (fz : List (Addr × Obj)) (s : Shared) (k : Nat) (s' : Shared) : Prop
  | mk (es : List En) (nh : Nat) (p63 p70 : Array Value) (Zs : List (Addr × Obj)) (u : Str → Option Value) (_ : Fr g L s'.heap u)
      (_ : (∀ y, y ≠ Str.ofString "pair" → u y = m y))
      (_ : News g L s'.heap ((hA, lstO (refsE es) nh) :: (63, tblO p63) :: (70, tblO p70) :: (I, litO RA k) :: (Zs ++ fz)))
      (_ : TabOk posLen p63)
      (_ : TabOk posStr p70)
      (_ : Gs s s')
      (_ : Hp es)
      (_ : (es.map En.kp).Perm ((rs.take k).map Rw.kp))
      (_ : (∀ e ∈ es, (e.a, e.obj) ∈ Zs))
      (_ : (∀ q ∈ Zs, hA ≠ q.1 ∧ (63 : Addr) ≠ q.1 ∧ (70 : Addr) ≠ q.1 ∧ I ≠ q.1 ∧ ∀ p ∈ fz, p.1 ≠ q.1)) : PushJ g L hA I RA m rs fz s k s'
theorem hp_nil : Hp [] := trivial
theorem for_ok {p : Program} {loose : List Str} {mean : ExcName → Option Value} {mg mb : Str → Option Value} {w : World} {dp un : Nat} {gd : Option (List Code)} {outer : List Env} {base g : Heap} {s : Shared} {E : Value → Shared → Prop} {Q : Flow → Shared → Prop}
    {name qual : Str} {params : Arguments} {body : List Stmt} {S : Stmt} {scope : Scope} {cl : List (Str × Addr)} {dV kV doc pm cdv ct oc : Value} {an od : Option Addr} {osl : Array (Option Value)} {L : Addr}
    (ho : (k0.heap_1 w.params).lookup 205 = some ⟨oc, od, .func (fnX name qual params body scope cl dV kV doc pm an cdv ct), osl⟩) (hS : S = stAt body 6)
    {m : Str → Option Value} {hA WA RA : Addr} {nh nw nr : Nat} {wsA : Array Value} {rs : List Rw} {p63 p70 : Array Value} {fz : List (Addr × Obj)}
    (Bl : Below (aT dp un gd outer) base outer g) (X : (k0.heap_1 w.params).In g) (T : Top p loose mean mg mb g) (hd : dp + 28 < recursionLimit) (hu : un + 280 < cLine)
    (F : Fr g L s.heap m) (N : News g L s.heap ((hA, lstO #[] nh) :: (63, tblO p63) :: (70, tblO p70) :: fz)) (hp63 : TabOk posLen p63) (hp70 : TabOk posStr p70) (hA6 : hA ≠ 63) (hA7 : hA ≠ 70) (hfh : ∀ q ∈ fz, q.1 ≠ hA) (hf6 : ∀ q ∈ fz, q.1 ≠ 63) (hf7 : ∀ q ∈ fz, q.1 ≠ 70)
    (e1 : m (Str.ofString "rows") = some (.ref RA)) (e2 : m (Str.ofString "words") = some (.ref WA)) (e3 : m (Str.ofString "heap") = some (.ref hA))
    (hWA : (WA, lstO wsA nw) ∈ fz) (hRA : (RA, lstO (refsR rs) nr) ∈ fz) (hrs : rs.length ≤ 3) (hj : (rs.map (·.j)).Nodup)
    (hrow : ∀ r ∈ rs, RwN fz r ∧ r.Sm ∧ (∃ tk0 ti, r.od = iniD w.params r.j tk0 ti) ∧ 0 ≤ r.j ∧ r.j ≤ 2 ∧ ∃ wd tw, wsA[r.j.toNat]? = some (.str wd tw) ∧ lenSum r.qs = wd.length ∧ wd.length ≤ 100)
    (kont : ∀ s' es nh' p63' p70' Zs u, Fr g L s'.heap u → (∀ y, y ≠ Str.ofString "pair" → u y = m y) → News g L s'.heap ((hA, lstO (refsE es) nh') :: (63, tblO p63') :: (70, tblO p70') :: (Zs ++ fz)) → TabOk posLen p63' → TabOk posStr p70' → Gs s s' → Hp es → (es.map En.kp).Perm (rs.map Rw.kp) →
      (∀ e ∈ es, (e.a, e.obj) ∈ Zs) → (∀ q ∈ Zs, hA ≠ q.1 ∧ (63 : Addr) ≠ q.1 ∧ (70 : Addr) ≠ q.1 ∧ ∀ p ∈ fz, p.1 ≠ q.1) → Q .next s') :
    wpAny (model Challenge.rw_nb0220_01.row.prog w) ((aT dp un gd outer).deeper (envX qual scope L 205 cdv cl)) (exec S (envX qual scope L 205 cdv cl)) Q E s := by
  w_on
  have ho' := fn_ho (law_eq ho) ho
  refine fn_exec (fun b => stAt b 6) hS (law_eq ho) ?_
  conv in (stAt _ _) => whnf
  conv in (lawScope _) => whnf
  replace F := fr_at F e1
  refine wpAny_For ?_
  walk1
  have gRA : s.heap.get? RA = some (lstO (refsR rs) nr) := News.get N (.tail _ (.tail _ (.tail _ hRA)))
  refine wpAny_pyIter_list ⟨_, gRA, rfl, _, rfl⟩ ?_
  obtain ⟨F5, N5, l5⟩ := pushIt F N (litO RA 0)
  have F5' := fr_back F5 e1
  generalize hI : s.heap.objs.size = I at *
  have hI0 : hA ≠ I := Nat.ne_of_lt (l5 _ (.head _))
  have hI6 : (63 : Addr) ≠ I := Nat.ne_of_lt (l5 (63, tblO p63) (.tail _ (.head _)))
  have hI7 : (70 : Addr) ≠ I := Nat.ne_of_lt (l5 (70, tblO p70) (.tail _ (.tail _ (.head _))))
  have hIf : ∀ q ∈ fz, q.1 ≠ I := fun q hq => Nat.ne_of_lt (l5 q (.tail _ (.tail _ (.tail _ hq))))
  refine for_list (l := RA) (refsR rs) (PushJ g L hA I RA m rs fz s) rfl ?hI ?turn ?done (refsR rs).size 0 _ (by simp) ?h0
  case hI =>
    rintro k s' ⟨es, nh, p63, p70, Zs, u, F, hu', N, _⟩
    exact ⟨News.get N (.tail _ (.tail _ (.tail _ (.head _)))), ⟨_, News.get N (.tail _ (.tail _ (.tail _ (.tail _ (List.mem_append_right _ hRA))))), rfl, _, rfl⟩⟩
  case h0 =>
    refine ⟨[], nh, p63, p70, [], m, F5', fun _ _ => rfl, news_sub N5 ?_, hp63, hp70, Gs.refl s, hp_nil, List.Perm.refl _, (fun _ h => nomatch h), fun _ h => nomatch h⟩
    intro q hq
    simp only [List.mem_cons, List.nil_append] at hq ⊢
    rcases hq with h | h | h | h | h
    · exact .inr (.inl h)
    · exact .inr (.inr (.inl h))
    · exact .inr (.inr (.inr (.inl h)))
    · exact .inl h
    · exact .inr (.inr (.inr (.inr h)))
  case done =>
    rintro s' h' ⟨es, nh, p63, p70, Zs, u, F, hu', N, h63, h70, gs, hp, pm, he, hz⟩ e
    have zI := N (I, litO RA (refsR rs).size) (.tail _ (.tail _ (.tail _ (.head _))))
    have N8 := itEndN (news' := (hA, lstO (refsE es) nh) :: (63, tblO p63) :: (70, tblO p70) :: (Zs ++ fz)) N (I := I) e (by
      intro p hp
      simp only [List.mem_cons] at hp ⊢
      rcases hp with h | h | h | h
      · exact .inl h
      · exact .inr (.inl h)
      · exact .inr (.inr (.inl h))
      · exact .inr (.inr (.inr (.inr h)))) (by
      refine all_cons (hI0) (all_cons (hI6) (all_cons (hI7) fun p hp => ?_))
      rcases List.mem_append.mp hp with hp | hp
      · exact Ne.symm (hz p hp).2.2.2.1
      · exact hIf p hp)
    have hsz : (refsR rs).size = rs.length := by simp [refsR]
    rw [hsz, List.take_length] at pm
    exact kont { s' with heap := h' } es nh p63 p70 Zs u (itEnd F zI.1 zI e) hu' N8 h63 h70 gs hp pm he fun q hq => ⟨(hz q hq).1, (hz q hq).2.1, (hz q hq).2.2.1, (hz q hq).2.2.2.2⟩
  case turn =>
    rintro k v s' h' hv ⟨es, nh, p63, p70, Zs, u, F, hu', N, h63, h70, gs, hp, pm, he, hz⟩ eI sb
    have hk : k < rs.length := by
      have := (Array.getElem?_eq_some_iff.mp hv).1
      simpa [refsR] using this
    have hv' : v = .ref rs[k].l := by
      have := hv
      simp only [refsR, List.getElem?_toArray, List.getElem?_map, List.getElem?_eq_getElem hk, Option.map_some, Option.some.injEq] at this
      exact this.symm
    subst hv'
    have hr1 := List.getElem_mem hk
    have hperm : (rs.take (k + 1)) = rs.take k ++ [rs[k]] := by rw [List.take_add_one, List.getElem?_eq_getElem hk]; rfl
    have hjt : ((rs.take (k + 1)).map (·.j)).Nodup := ((List.take_sublist _ _).map _).nodup hj
    rw [hperm] at hjt
    generalize hrk : rs[k] = r at *
    obtain ⟨hrw, hsm, ⟨tk0, ti, hod⟩, hj0, hj2, wd, tw, hws, hlen, hwl⟩ := hrow r hr1
    have hej : es.map (·.j) = (es.map En.kp).map Prod.snd := by rw [List.map_map]; rfl
    have hel : es.length ≤ 2 := by
      have := pm.length_eq
      simp only [List.length_map, List.length_take] at this
      omega
    have hjn : (r.j :: es.map (·.j)).Nodup := by
      rw [hej]
      have e7 : ((rs.take k).map Rw.kp).map Prod.snd = (rs.take k).map (·.j) := by rw [List.map_map]; rfl
      have p1 : (r.j :: (es.map En.kp).map Prod.snd).Perm (r.j :: (rs.take k).map (·.j)) := List.Perm.cons _ (e7 ▸ pm.map Prod.snd)
      refine p1.symm.nodup ?_
      rw [List.map_append] at hjt
      exact (List.perm_append_comm).nodup hjt
    refine wpAny_of_eq rfl ?_
    refine wpAny_assign_Name ?_
    have oI : ∀ q ∈ Zs ++ fz, q.1 ≠ I := by
      intro q hq
      rcases List.mem_append.mp hq with hq | hq
      · exact Ne.symm (hz q hq).2.2.2.1
      · exact hIf q hq
    obtain ⟨F6, N6⟩ := back1 F N (.tail hI0 (.tail hI6 (.tail hI7 (.head oI)))) (fun b o e hb => sb.extBut b o (by simpa using hb) e) eI
    clear F N F5 N5 F5'
    walk1
    rename_i F7 N7
    refine push_ok (r := r) (es := es) (wsA := wsA) (nw := nw) (fz := (I, litO RA (k + 1)) :: (Zs ++ fz)) (p63 := p63) (p70 := p70) (wd := wd) (tw := tw) (tk0 := tk0) (ti := ti) (WA := WA) (nh := nh) ho' rfl Bl X T hd hu F7 N7 h63 h70 hA6 hA7 ?_ ?_ ?_ (if_pos rfl) ?_ ?_ (.tail _ (List.mem_append_right _ hWA)) hws hj0 hj2 (hrw.mono fun q hq => .tail _ (List.mem_append_right _ hq)) hsm hod hlen hwl (fun e he' => .tail _ (List.mem_append_left _ (he e he'))) hel hp hjn ?_
    · refine all_cons (Ne.symm hI0) fun q hq => ?_
      rcases List.mem_append.mp hq with hq | hq
      · exact Ne.symm (hz q hq).1
      · exact hfh q hq
    · refine all_cons (Ne.symm hI6) fun q hq => ?_
      rcases List.mem_append.mp hq with hq | hq
      · exact Ne.symm (hz q hq).2.1
      · exact hf6 q hq
    · refine all_cons (Ne.symm hI7) fun q hq => ?_
      rcases List.mem_append.mp hq with hq | hq
      · exact Ne.symm (hz q hq).2.2.1
      · exact hf7 q hq
    · exact if_skip (by decide) ((hu' _ (by decide)).trans e2)
    · exact if_skip (by decide) ((hu' _ (by decide)).trans e3)
    intro s9 es' nh' p63' p70' en F8 N8 h63' h70' gs8 hp8 pm8 hkp hen
    refine ⟨es', nh', p63', p70', (en.a, en.obj) :: Zs, _, F8, ?_, news_sub N8 ?_, h63', h70', gs.trans gs8, hp8, ?_, ?_, ?_⟩
    · intro y hy
      rw [if_neg hy]; exact hu' y hy
    · intro q hq
      simp only [List.cons_append, List.mem_cons] at hq ⊢
      rcases hq with h | h | h | h | h | h
      · exact .inl h
      · exact .inr (.inl h)
      · exact .inr (.inr (.inl h))
      · exact .inr (.inr (.inr (.inr (.inl h))))
      · exact .inr (.inr (.inr (.inl h)))
      · exact .inr (.inr (.inr (.inr (.inr h))))
    · rw [hperm, List.map_append]
      refine (pm8.map En.kp).trans ?_
      rw [List.map_cons, hkp]
      exact (List.Perm.cons _ pm).trans (List.perm_append_comm (l₁ := [r].map Rw.kp))
    · intro e he'
      rcases List.mem_cons.mp (pm8.subset he') with rfl | h
      · exact .head _
      · exact .tail _ (he e h)
    · refine all_cons (⟨hen.1, hen.2.1, hen.2.2.1, hen.2.2.2 _ (.head _), fun p hp => hen.2.2.2 p (.tail _ (List.mem_append_right _ hp))⟩) fun q hq => ?_
      · exact hz q hq
end Mine
end SY6

section SY7
namespace Mine
/-- the law's last row -/
theorem ret_ok {p : Program} {loose : List Str} {mean : ExcName → Option Value} {mg mb : Str → Option Value} {w : World} {dp un : Nat} {gd : Option (List Code)} {outer : List Env} {base g : Heap} {s : Shared} {E : Value → Shared → Prop} {Q : Flow → Shared → Prop}
    {name qual : Str} {params : Arguments} {body : List Stmt} {S : Stmt} {scope : Scope} {cl : List (Str × Addr)} {dV kV doc pm cdv ct oc : Value} {an od : Option Addr} {osl : Array (Option Value)} {L : Addr}
    (ho : (k0.heap_1 w.params).lookup 205 = some ⟨oc, od, .func (fnX name qual params body scope cl dV kV doc pm an cdv ct), osl⟩) (hS : S = stAt body 12)
    {m : Str → Option Value} {xt dt tA : Addr} {ntd nt : Nat} {td tkn : List Pc} {p63 : Array Value} {tk4 ti4 : Tok} {fz : List (Addr × Obj)}
    (Bl : Below (aT dp un gd outer) base outer g) (X : (k0.heap_1 w.params).In g) (T : Top p loose mean mg mb g) (hd : dp + 28 < recursionLimit) (hu : un + 280 < cLine)
    (F : Fr g L s.heap m) (N : News g L s.heap ((xt, accO dt (vals td) ntd) :: (63, tblO p63) :: fz)) (hp63 : TabOk posLen p63) (hx6 : xt ≠ 63) (hfx : ∀ q ∈ fz, q.1 ≠ xt) (hf6 : ∀ q ∈ fz, q.1 ≠ 63)
    (e1 : m (Str.ofString "told") = some (.ref xt)) (e2 : m (Str.ofString "taken") = some (.ref tA))
    (htA : (tA, lstO (vals tkn) nt) ∈ fz) (hdt : (dt, iniD w.params 4 tk4 ti4) ∈ fz) (htd : ∀ q ∈ td, (q.a, q.obj) ∈ fz) (htk : ∀ q ∈ tkn, (q.a, q.obj) ∈ fz) (ht : td.map Pc.t2 = tkn.map Pc.t2) (hne : ∀ q ∈ td, ∀ p ∈ tkn, q.a ≠ p.a) (hn : td.length ≤ 12)
    (kont : ∀ s' p63', Fr g L s'.heap m → News g L s'.heap ((63, tblO p63') :: fz) → Gs s s' → Q (.ret (.bool true)) s') :
    wpAny (model Challenge.rw_nb0220_01.row.prog w) ((aT dp un gd outer).deeper (envX qual scope L 205 cdv cl)) (exec S (envX qual scope L 205 cdv cl)) Q E s := by
  w_on
  refine fn_exec (fun b => stAt b 12) hS (law_eq ho) ?_
  conv in (stAt _ _) => whnf
  conv in (lawScope _) => whnf
  replace F := fr_at F e1
  replace F := fr_at F (x := Str.ofString "taken") (v := .ref tA) (if_skip (by decide) e2)
  iterate 5 walk1
  refine' acc_method (X.keeps F.keep) (News.get N (.head _)) (News.get N (.tail _ (.tail _ hdt))) ?a4 ?a5 ?a7 rfl ?_
  case a4 => k_is
  case a5 => k_is
  case a7 => decide +kernel
  iterate 1 walk1
  refine use_call Bl F N X T rfl rfl ?_
  intro H9 C9 st9 f9 G9
  refine pop_from0 C9 st9 (room 23 hd) (room 237 hu) (News.get N (.head _)) (f9 (xt, _) (.head _)) (News.get N (.tail _ (.tail _ hdt))) (hfx _ hdt) (by rw [vals_size, sizeLine_eq]; omega) ?_
  intro h3 tk3 RL n3 hx3 r0 r1 r2
  have oxx : ∀ q ∈ (63, tblO p63) :: fz, q.1 ≠ xt := by
    refine all_cons (Ne.symm hx6) fun q hq => ?_
    · exact hfx q hq
  obtain ⟨F3, N3⟩ := back1 F N (.head oxx) hx3 r2
  clear F N C9 st9 f9 G9
  have gl := fun {q : Addr × Obj} (hm : q ∈ fz) => (N3 q (.tail _ (.tail _ hm))).1
  (try dsimp only)
  iterate 1 walk1
  refine eq_pcs (qs := td) (ps := tkn) r1 (gl htA) (fun q hq => gl (htd q hq)) (fun q hq => gl (htk q hq)) ht hne (by show un + 3 + 1 < cLine; omega) ?_
  iterate 3 walk1
  iterate 7 walk1
  refine' len_K F3 X (inst_acc r2 (gl hdt)) ?b1 ?b2 ?_
  case b1 => k_is
  case b2 => k_is
  refine use_callA (dp := dp + 1) (un := un + 3 + 1) Bl F3 N3 X T rfl rfl ?_
  intro H9 C9 st9 f9 G9
  refine len_acc (i := 4) (qs := []) C9 st9 (room 23 hd) (room 236 hu) (N3 _ (.head _)).1 (gl hdt) (fun q hq => nomatch hq) (fun q hq => nomatch hq) (News.get N3 (.tail _ (.head _))) hp63 (f9 (63, tblO p63) (.tail _ (.head _))) ?_
  intro s4 t4 p4 hx4 ho4 hp4 gs4
  obtain ⟨F4, N4⟩ := back1 F3 N3 (.tail hx6 (.head hf6)) hx4 ho4
  clear F3 N3 C9 st9 f9 G9 gl
  dsimp only [PySem.W.LenBack]
  have hl0 : lenSum [] = 0 := rfl
  refine ⟨by omega, ?_⟩
  iterate 2 walk1
  rw [show (4 + lenSum [] == (4 : Int)) = true by rw [hl0]; rfl]
  exact kont _ p4 (fr_back (fr_back F4 ((if_neg (by decide)).trans e2)) e1) (fun q hq => N4 q (.tail _ hq)) ⟨gs4.1, gs4.2⟩
/-- the law's text and length at its end -/
theorem told_ok {p : Program} {loose : List Str} {mean : ExcName → Option Value} {mg mb : Str → Option Value} {w : World} {dp un : Nat} {gd : Option (List Code)} {outer : List Env} {base g : Heap} {s : Shared} {E : Value → Shared → Prop} {Q : Flow → Shared → Prop}
    {name qual : Str} {params : Arguments} {body : List Stmt} {S : Stmt} {scope : Scope} {cl : List (Str × Addr)} {dV kV doc pm cdv ct oc : Value} {an od : Option Addr} {osl : Array (Option Value)} {L : Addr}
    (ho : (k0.heap_1 w.params).lookup 205 = some ⟨oc, od, .func (fnX name qual params body scope cl dV kV doc pm an cdv ct), osl⟩) (hS : S = stAt body 11)
    {m : Str → Option Value} {xt dt WA NA : Addr} {ntd nw nn : Nat} {td : List Pc} {p63 p70 : Array Value} {tk4 ti4 t0 t1 t2 : Tok} {w0 w1 w2 : Str} {ns : Array Value} {fz : List (Addr × Obj)}
    (Bl : Below (aT dp un gd outer) base outer g) (X : (k0.heap_1 w.params).In g) (T : Top p loose mean mg mb g) (hd : dp + 28 < recursionLimit) (hu : un + 280 < cLine)
    (F : Fr g L s.heap m) (N : News g L s.heap ((63, tblO p63) :: (70, tblO p70) :: fz)) (hp63 : TabOk posLen p63) (hp70 : TabOk posStr p70) (hf6 : ∀ q ∈ fz, q.1 ≠ 63) (hf7 : ∀ q ∈ fz, q.1 ≠ 70)
    (e1 : m (Str.ofString "told") = some (.ref xt)) (e2 : m (Str.ofString "words") = some (.ref WA)) (e3 : m (Str.ofString "numbers") = some (.ref NA))
    (hxt : (xt, accO dt (vals td) ntd) ∈ fz) (hdt : (dt, iniD w.params 4 tk4 ti4) ∈ fz) (htd : ∀ q ∈ td, (q.a, q.obj) ∈ fz) (htok : ∀ q ∈ td, q.ok) (hn : td.length ≤ 12)
    (hWA : (WA, lstO #[.str w0 t0, .str w1 t1, .str w2 t2] nw) ∈ fz) (b0 : w0.length ≤ 12) (b1 : w1.length ≤ 12) (b2 : w2.length ≤ 12) (hNA : (NA, lstO ns nn) ∈ fz) (hns : ns.size = td.length)
    (hl : Lst w0.cps.toList w1.cps.toList w2.cps.toList (letsOf td))
    (kont : ∀ s' p63' p70', Fr g L s'.heap m → News g L s'.heap ((63, tblO p63') :: (70, tblO p70') :: fz) → TabOk posLen p63' → TabOk posStr p70' → Gs s s' → Q .next s') :
    wpAny (model Challenge.rw_nb0220_01.row.prog w) ((aT dp un gd outer).deeper (envX qual scope L 205 cdv cl)) (exec S (envX qual scope L 205 cdv cl)) Q E s := by
  w_on
  refine fn_exec (fun b => stAt b 11) hS (law_eq ho) ?_
  conv in (stAt _ _) => whnf
  conv in (lawScope _) => whnf
  replace F := fr_at F e1
  replace F := fr_at F (x := Str.ofString "words") (v := .ref WA) (if_skip (by decide) e2)
  replace F := fr_at F (x := Str.ofString "numbers") (v := .ref NA) (if_skip (by decide) (if_skip (by decide) e3))
  iterate 9 walk1
  have gl := fun {q : Addr × Obj} (hm : q ∈ fz) => (N q (.tail _ (.tail _ hm))).1
  have hsm : ∀ q ∈ td, q.x.length ≤ 1 ∧ q.y.length ≤ 1 := fun q hq => ok_sm (htok q hq)
  refine kso_call (f := 75) (by show un + 3 + 1 + 1 < cLine; omega) (X.keeps F.keep) (inst_acc (gl hxt) (gl hdt)) (by k_is) (by k_is) ?_
  refine use_callA (dp := dp + 1) (un := un + 3 + 1 + 1) Bl F N X T rfl rfl ?_
  intro H9 C9 st9 f9 G9
  refine str_acc C9 st9 (room 23 hd) (room 235 hu) (gl hxt) (fun q hq => gl (htd q hq)) hsm (by omega) (N _ (.tail _ (.head _))).1 hp70 (f9 (70, tblO p70) (.tail _ (.head _))) ?_
  intro s3 t3 p73 hx3 ho3 hp73 gs3
  obtain ⟨F3, N3⟩ := back1 F N (.tail (by decide : (63 : Addr) ≠ 70) (.head hf7)) hx3 ho3
  clear F N C9 st9 f9 G9 gl
  dsimp only [PySem.W.StrBack]
  iterate 6 walk1
  refine ⟨X.keeps F3.keep, ?_⟩
  have gl := fun {q : Addr × Obj} (hm : q ∈ fz) => (N3 q (.tail _ (.tail _ hm))).1
  refine use_call Bl F3 N3 X T rfl rfl ?_
  intro H9 C9 st9 f9 G9
  refine law_least C9 st9 (room 15 hd) (room 157 hu) (gl hWA) b0 b1 b2 ?_
  intro h4 tk4 v t4 hx4 hv
  obtain ⟨F4, N4⟩ := back0 F3 N3 hx4
  clear F3 N3 C9 st9 f9 G9 gl
  have ev : v = txtOf td := Str.ext' (by
    have := Lst.uniq hv hl
    rw [← txt_cps] at this
    exact Array.ext' this)
  subst ev
  (try dsimp only)
  iterate 1 walk1
  rw [show (txtOf td != txtOf td) = false by simp]
  iterate 10 walk1
  have gl := fun {q : Addr × Obj} (hm : q ∈ fz) => (N4 q (.tail _ (.tail _ hm))).1
  refine' len_K F4 X (inst_acc (gl hxt) (gl hdt)) ?b1 ?b2 ?_
  case b1 => k_is
  case b2 => k_is
  refine use_callA (dp := dp + 1) (un := un + 3 + 1) Bl F4 N4 X T rfl rfl ?_
  intro H9 C9 st9 f9 G9
  refine len_acc (i := 4) (qs := td) C9 st9 (room 23 hd) (room 236 hu) (gl hxt) (gl hdt) (fun q hq => gl (htd q hq)) hsm (News.get N4 (.head _)) hp63 (f9 (63, tblO p63) (.head _)) ?_
  intro s5 t5 p5 hx5 ho5 hp5 gs5
  have o6 : ∀ q ∈ (70, tblO p73) :: fz, q.1 ≠ 63 := by
    refine all_cons ((by decide : (70 : Addr) ≠ 63)) fun q hq => ?_
    · exact hf6 q hq
  obtain ⟨F5, N5⟩ := back1 F4 N4 (.head o6) hx5 ho5
  clear F4 N4 C9 st9 f9 G9 gl
  dsimp only [PySem.W.LenBack]
  have hls : lenSum td = td.length := by rw [lenSum_lets, lets_len td htok]
  refine ⟨by omega, ?_⟩
  have gNA : s5.heap.get? NA = some (lstO ns nn) := (N5 _ (.tail _ (.tail _ hNA))).1
  iterate 8 walk1
  refine PyProof.Rows.len_list ⟨_, gNA, rfl, _, rfl⟩ (by rw [hns]; omega) ?_
  iterate 2 walk1
  rw [show (4 + lenSum td != (4 : Int) + (ns.size : Int)) = false by rw [hls, hns]; simp]
  k_steps
  refine kont _ p5 p73 (fr_back (fr_back (fr_back F5 ?_) ?_) e1) N5 hp5 hp73 ⟨fun b => gs5.1 (gs3.1 b), gs5.2.trans gs3.2⟩
  · exact if_skip (by decide) (if_skip (by decide) e3)
  · exact if_skip (by decide) e2
end Mine
end SY7

section SY8
namespace Mine
open PyProof.Rows.LCg (NsObj ns_obj lst)
noncomputable abbrev scOne : Scope := { kind := ScopeKind.function, names := [(Str.ofString ".0", NameKind.local), (Str.ofString "one", NameKind.local)], isGenerator := false, isCoroutine := false }
noncomputable def lcOf : Stmt → Expr
  | .If (.BoolOp _ [_, .Compare l _ _ _] _) _ _ _ => l
  | _ => .Name (Str.ofString "") default
/-- one turn of [one[0].pop() for one in rows] at an empty row -/
theorem emp_turn {p : Program} {loose : List Str} {mean : ExcName → Option Value} {mg mb : Str → Option Value} {w : World} {A₀ : Around} {dp un : Nat} {gd : Option (List Code)} {outer : List Env} {base h₀ : Heap} {L : Addr} {m : Str → Option Value} {s : Shared} {R : Result → Shared → Prop}
    {C D I l : Addr} {oC : Obj} {m₂ : Str → Option Value} {k n : Nat} {items : Array Value} {ys : List Value} {rest : List (Addr × Obj)} {r : Rw} {i0 : Int} {tk0 ti : Tok}
    (B : Below A₀ base outer h₀) (F : Fr h₀ L s.heap m) (N : News h₀ L s.heap ((I, litO l k) :: (C, oC) :: (D, lst ys) :: rest)) (X : (k0.heap_1 w.params).In h₀) (T : Top p loose mean mg mb h₀)
    (hoC : NsObj oC m₂) (nIC : I ≠ C) (nID : I ≠ D) (nCD : C ≠ D) (nr : ∀ q ∈ rest, q.1 ≠ I ∧ q.1 ≠ C ∧ q.1 ≠ D) (hys : ys.length ≤ 10)
    (hl : (l, lstO items n) ∈ rest) (hy : items[k]? = some (.ref r.l)) (hr : RwN rest r) (hqs : r.qs = []) (hod : r.od = iniD w.params i0 tk0 ti)
    (hd : dp + 8 < recursionLimit) (hu : un + 100 < cLine)
    (h : ∀ h' tk q oC' m₂', Fr h₀ L h' m → News h₀ L h' ((I, litO l (k + 1)) :: (C, oC') :: (D, lst (ys ++ [.ref q.a])) :: (q.a, Pc.obj q) :: rest) → NsObj oC' m₂' → Pc.t2 q = (Str.ofString "", Str.ofString "") → (I ≠ q.a ∧ C ≠ q.a ∧ D ≠ q.a ∧ ∀ p ∈ rest, p.1 ≠ q.a) →
      codeAny (model Challenge.rw_nb0220_01.row.prog w) (aT dp un gd (envX (Str.ofString "law") (lawScope w.params) L 205 (.ref 204) [] :: outer)) (.compLoop (lcOf (stAt (lawBody w.params) 10)) 0 (.ref I) (.ref D) (compEnvC scOne [] C (envX (Str.ofString "law") (lawScope w.params) L 205 (.ref 204) []))) R { s with heap := h', toks := tk }) :
    codeAny (model Challenge.rw_nb0220_01.row.prog w) (aT dp un gd (envX (Str.ofString "law") (lawScope w.params) L 205 (.ref 204) [] :: outer)) (.compLoop (lcOf (stAt (lawBody w.params) 10)) 0 (.ref I) (.ref D) (compEnvC scOne [] C (envX (Str.ofString "law") (lawScope w.params) L 205 (.ref 204) []))) R s := by
  w_on
  conv in (lcOf _) => whnf
  have zI := N _ (.head _)
  have zC := N _ (.tail _ (.head _))
  have zD := N _ (.tail _ (.tail _ (.head _)))
  have zR : ∀ p ∈ rest, s.heap.get? p.1 = some p.2 ∧ p.1 ≠ L ∧ h₀.get? p.1 = none := fun p hp => N p (.tail _ (.tail _ (.tail _ hp)))
  have none0 : ∀ {c o}, h₀.get? c = some o → ∀ {q : Addr}, h₀.get? q = none → c ≠ q := fun e q hq e' => by rw [e', hq] at e; cases e
  refine comp_turnG (next_list zI.1 ⟨_, (zR _ hl).1, rfl, _, rfl⟩ hy fun h₁ e₁ s₁ => ?_)
  refine wpAny_of_eq rfl ?_
  have hC₁ : h₁.Ns C m₂ := hoC.ns (s₁.extBut _ _ (Ne.symm nIC) zC.1)
  refine wpAny_assign_Name (wpAny_storeName_local (lookup_relabel_local rfl) hC₁ (fun h₂ hn₂ hs₂ => ?_) (by simp [compEnvC, relabel]))
  obtain ⟨oC2, heC, hoC2⟩ := ns_obj hn₂
  have up : ∀ b o, b ≠ I → b ≠ C → s.heap.get? b = some o → h₂.get? b = some o := fun b o b1 b2 e => hs₂.extBut _ _ b2 (s₁.extBut _ _ b1 e)
  have F2 : Fr h₀ L h₂ m := by
    obtain ⟨o, es, ep, hL, r⟩ := F.ns
    exact ⟨⟨o, es, ep, up L o (Ne.symm zI.2.1) (Ne.symm zC.2.1) hL, r⟩, fun c o e => up c o (none0 e zI.2.2) (none0 e zC.2.2) (F.keep c o e), F.above⟩
  have N2 : News h₀ L h₂ ((I, litO l (k + 1)) :: (C, oC2) :: (D, lst ys) :: rest) := by
    refine all_cons (⟨hs₂.extBut _ _ nIC e₁, zI.2⟩) (all_cons (⟨heC, zC.2⟩) (all_cons (⟨up _ _ (Ne.symm nID) (Ne.symm nCD) zD.1, zD.2⟩) fun q hq => ?_))
    · exact ⟨up _ _ (nr q hq).1 (nr q hq).2.1 (zR q hq).1, (zR q hq).2⟩
  have g2 := fun {q : Addr × Obj} (hm : q ∈ rest) => (N2 q (.tail _ (.tail _ (.tail _ hm)))).1
  refine MethodCall_ ?_
  walk1
  refine nameC_L (v := .ref r.l) (hoC2.ns (N2 _ (.tail _ (.head _))).1) (if_pos rfl) ?_ rfl rfl (by decide)
  walk1
  refine item_at (v := .ref r.x) (g2 hr.1) (by decide) (by decide) rfl ?_
  have gx : h₂.get? r.x = some (accO r.d #[] r.n) := by have := g2 hr.2.1; rw [hqs] at this; exact this
  have gd2 : h₂.get? r.d = some (iniD w.params i0 tk0 ti) := by have := g2 hr.2.2.1; rw [hod] at this; exact this
  refine' acc_method (X.keeps F2.keep) gx gd2 ?k4 ?k5 ?k7 rfl ?_
  case k4 => k_is
  case k5 => k_is
  case k7 => decide +kernel
  walk1
  refine use_callA B F2 N2 X T rfl rfl ?_
  intro H9 C9 st9 f9 G9
  refine pop_zero C9 st9 (by omega) (by omega) gx gd2 rfl ?_
  intro h3 tk3 t a b hx3 t0 t1
  obtain ⟨F3, N3⟩ := back0 F2 N2 hx3
  have zt := fresh_add F2 t0 t1
  have nt : ∀ p ∈ (I, litO l (k + 1)) :: (C, oC2) :: (D, lst ys) :: rest, p.1 ≠ t := fun p hp e => by
    have := (N2 p hp).1
    rw [e] at this
    exact absurd (t0.symm.trans this) (by simp)
  (try dsimp only)
  have zD3 := N3 (D, lst ys) (.tail _ (.tail _ (.head _)))
  refine append_at (hsz := by simp [sizeLine_eq]; omega) zD3.1 fun h6 hs6 hD6 => ?_
  refine h h6 _ ⟨t, Str.ofString "", a, Str.ofString "", b⟩ oC2 _ (F3.change hs6 zD3.2.1 zD3.2.2) ?_ hoC2 rfl ⟨nt _ (.head _), nt _ (.tail _ (.head _)), nt _ (.tail _ (.tail _ (.head _))), fun p hp => nt p (.tail _ (.tail _ (.tail _ hp)))⟩
  intro q hq
  rcases List.mem_cons.mp hq with rfl | hq
  · have z := N3 _ (.head _); exact ⟨hs6.extBut _ _ nID z.1, z.2⟩
  rcases List.mem_cons.mp hq with rfl | hq
  · have z := N3 _ (.tail _ (.head _)); exact ⟨hs6.extBut _ _ nCD z.1, z.2⟩
  rcases List.mem_cons.mp hq with rfl | hq
  · exact ⟨hD6.trans (congrArg some (LCg.lst_snoc ys _)), zD3.2⟩
  rcases List.mem_cons.mp hq with rfl | hq
  · exact ⟨hs6.extBut _ _ (Ne.symm (nt _ (.tail _ (.tail _ (.head _))))) zt.1, zt.2⟩
  · have z := N3 q (.tail _ (.tail _ (.tail _ hq))); exact ⟨hs6.extBut _ _ (nr q hq).2.2 z.1, z.2⟩
theorem empty_ok {p : Program} {loose : List Str} {mean : ExcName → Option Value} {mg mb : Str → Option Value} {w : World} {dp un : Nat} {gd : Option (List Code)} {outer : List Env} {base g : Heap} {s : Shared} {E : Value → Shared → Prop} {Q : Flow → Shared → Prop}
    {name qual : Str} {params : Arguments} {body : List Stmt} {S : Stmt} {scope : Scope} {cl : List (Str × Addr)} {dV kV doc pm cdv ct oc : Value} {an od : Option Addr} {osl : Array (Option Value)} {L : Addr}
    (ho : (k0.heap_1 w.params).lookup 205 = some ⟨oc, od, .func (fnX name qual params body scope cl dV kV doc pm an cdv ct), osl⟩) (hS : S = stAt body 10)
    {m : Str → Option Value} {hA RA : Addr} {nh nr : Nat} {r0 r1 r2 : Rw} {fz : List (Addr × Obj)}
    (Bl : Below (aT dp un gd outer) base outer g) (X : (k0.heap_1 w.params).In g) (T : Top p loose mean mg mb g) (hd : dp + 28 < recursionLimit) (hu : un + 280 < cLine)
    (F : Fr g L s.heap m) (N : News g L s.heap fz) (e1 : m (Str.ofString "heap") = some (.ref hA)) (e2 : m (Str.ofString "rows") = some (.ref RA)) (hh : (hA, lstO #[] nh) ∈ fz) (hRA : (RA, lstO (refsR [r0, r1, r2]) nr) ∈ fz)
    (hr : ∀ r ∈ [r0, r1, r2], RwN fz r ∧ r.qs = [] ∧ ∃ i0 tk0 ti, r.od = iniD w.params i0 tk0 ti)
    (kont : ∀ h tk, Fr g L h m → News g L h fz → Q .next { s with heap := h, toks := tk }) :
    wpAny (model Challenge.rw_nb0220_01.row.prog w) ((aT dp un gd outer).deeper (envX qual scope L 205 cdv cl)) (exec S (envX qual scope L 205 cdv cl)) Q E s := by
  w_on
  refine fn_exec (fun b => stAt b 10) hS (law_eq ho) ?_
  conv in (stAt _ _) => whnf
  conv in (lawScope _) => whnf
  replace F := fr_at F e1
  replace F := fr_at F (x := Str.ofString "rows") (v := .ref RA) (if_skip (by decide) e2)
  iterate 7 walk1
  rename_i T1 h1 F1 N1 l1
  refine ne_nilK (News.get N1 (.tail _ hh)) (News.get N1 (.head _)) (by show un + 3 < cLine; omega) ?_
  rw [show (!(#[] : Array Value).isEmpty) = false from rfl]
  iterate 4 walk1
  have hRA1 : h1.get? RA = some (lstO (refsR [r0, r1, r2]) nr) := (N1 _ (.tail _ hRA)).1
  refine eval_comp2 (by with_unfolding_all rfl) rfl (by decide) ?_
  walk1
  refine wpAny_pyIter_list ⟨_, hRA1, rfl, _, rfl⟩ ?_
  obtain ⟨F2, N2, l2⟩ := pushIt F1 N1 (litO RA 0)
  refine comp_open F2 N2 (by decide) rfl ?_
  intro D C oC m2 h3 tk3 F3 N3 hoC l3 l3'
  dsimp only
  generalize hI : h1.objs.size = I at *
  have n0 := fun q (hq : q ∈ (T1, W.listOf #[] 0) :: fz) => l2 q hq
  have nIC : I ≠ C := Nat.ne_of_lt (Nat.lt_trans (l3 _ (.head _)) l3')
  have nID : I ≠ D := Nat.ne_of_lt (l3 _ (.head _))
  have nCD : C ≠ D := Nat.ne_of_gt l3'
  have nr0 : ∀ q ∈ (T1, W.listOf #[] 0) :: fz, q.1 ≠ I ∧ q.1 ≠ C ∧ q.1 ≠ D := fun q hq => ⟨Nat.ne_of_lt (n0 q hq), Nat.ne_of_lt (Nat.lt_trans (l3 q (.tail _ hq)) l3'), Nat.ne_of_lt (l3 q (.tail _ hq))⟩
  have N4 : News g L h3 ((I, litO RA 0) :: (C, oC) :: (D, lst []) :: (T1, W.listOf #[] 0) :: fz) := news_sub N3 (by
    intro q hq
    simp only [List.mem_cons] at hq ⊢
    rcases hq with h | h | h | h | h
    · exact .inr (.inr (.inl h))
    · exact .inl h
    · exact .inr (.inl h)
    · exact .inr (.inr (.inr (.inl h)))
    · exact .inr (.inr (.inr (.inr h))))
  refine (fun loop => codeAny_compStart_list loop (wpAny_pyIter_listiter ⟨_, News.get N4 (.head _), rfl, rfl⟩ loop)) ?_
  obtain ⟨hr0, hq0, i0, t0, u0, ho0⟩ := hr r0 (.head _)
  obtain ⟨hr1, hq1, i1, t1, u1, ho1⟩ := hr r1 (.tail _ (.head _))
  obtain ⟨hr2, hq2, i2, t2, u2, ho2⟩ := hr r2 (.tail _ (.tail _ (.head _)))
  refine emp_turn (dp := dp + 1) (un := un + 3) (r := r0) Bl F3 N4 X T hoC nIC nID nCD nr0 (by simp) (.tail _ hRA) rfl (hr0.mono fun q hq => .tail _ hq) hq0 ho0 (room 19 hd) (room 177 hu) ?_
  intro h5 tk5 q5 oC5 m5 F5 N5 hoC5 ht5 hn5
  have nr5 : ∀ q ∈ (q5.a, Pc.obj q5) :: (T1, W.listOf #[] 0) :: fz, q.1 ≠ I ∧ q.1 ≠ C ∧ q.1 ≠ D := all_cons ⟨Ne.symm hn5.1, Ne.symm hn5.2.1, Ne.symm hn5.2.2.1⟩ nr0
  refine emp_turn (dp := dp + 1) (un := un + 3) (r := r1) Bl F5 N5 X T hoC5 nIC nID nCD nr5 (by simp) (.tail _ (.tail _ hRA)) rfl (hr1.mono fun q hq => .tail _ (.tail _ hq)) hq1 ho1 (room 19 hd) (room 177 hu) ?_
  intro h6 tk6 q6 oC6 m6 F6 N6 hoC6 ht6 hn6
  have nr6 : ∀ q ∈ (q6.a, Pc.obj q6) :: (q5.a, Pc.obj q5) :: (T1, W.listOf #[] 0) :: fz, q.1 ≠ I ∧ q.1 ≠ C ∧ q.1 ≠ D := all_cons ⟨Ne.symm hn6.1, Ne.symm hn6.2.1, Ne.symm hn6.2.2.1⟩ nr5
  refine emp_turn (dp := dp + 1) (un := un + 3) (r := r2) Bl F6 N6 X T hoC6 nIC nID nCD nr6 (by simp) (.tail _ (.tail _ (.tail _ hRA))) rfl (hr2.mono fun q hq => .tail _ (.tail _ (.tail _ hq))) hq2 ho2 (room 19 hd) (room 177 hu) ?_
  intro h7 tk7 q7 oC7 m7 F7 N7 hoC7 ht7 hn7
  have nr7 : ∀ q ∈ (q7.a, Pc.obj q7) :: (q6.a, Pc.obj q6) :: (q5.a, Pc.obj q5) :: (T1, W.listOf #[] 0) :: fz, q.1 ≠ I ∧ q.1 ≠ C ∧ q.1 ≠ D := all_cons ⟨Ne.symm hn7.1, Ne.symm hn7.2.1, Ne.symm hn7.2.2.1⟩ nr6
  have zI := N7 _ (.head _)
  refine comp_turnG (wpAny_pyNext_list_end (items := refsR [r0, r1, r2]) rfl ⟨_, zI.1, rfl, rfl⟩ ⟨_, News.get N7 (.tail _ (.tail _ (.tail _ (.tail _ (.tail _ (.tail _ (.tail _ hRA))))))), rfl, _, rfl⟩ rfl fun h8 hk8 => ?_)
  have F8 := itEnd F7 zI.1 zI hk8
  have N8 := itEndN (news' := (C, oC7) :: (D, lst ([] ++ [.ref q5.a] ++ [.ref q6.a] ++ [.ref q7.a])) :: (q7.a, Pc.obj q7) :: (q6.a, Pc.obj q6) :: (q5.a, Pc.obj q5) :: (T1, W.listOf #[] 0) :: fz) N7 (I := I) hk8 (fun p hp => .tail _ hp) (all_cons (Ne.symm nIC) (all_cons (Ne.symm nID) fun q hq => (nr7 q hq).1))
  refine comp_doneE F8 N8 hoC7 (all_cons (Ne.symm nCD) fun q hq => (nr7 q hq).2.1) ?_
  intro h9 F9 N9
  clear F8 N8 F7 N7 F6 N6 F5 N5 F3 N3 N4 F2 N2 F1 N1
  dsimp only
  iterate 13 walk1
  rename_i TT h10 l10 LL h11 F11 N11 l11
  dsimp only at N11 F11 ⊢
  refine mul_list F11 N11 (News.get N11 (.head _)) (by decide) (by decide) (by simp) ?_
  intro h12 F12 N12
  have g12 := fun {q : Addr × Obj} (hm : q ∈ [(TT, Pc.obj ⟨TT, Str.ofString "", tk7, Str.ofString "", tk7 + 1⟩), (D, lst ([] ++ [Value.ref q5.a] ++ [Value.ref q6.a] ++ [Value.ref q7.a])), (q7.a, q7.obj), (q6.a, q6.obj), (q5.a, q5.obj)]) => (N12 q (.tail _ (.tail _ (List.mem_append_left ((T1, W.listOf #[] 0) :: fz) hm)))).1
  have hTq : ∀ q ∈ [q5, q6, q7], q.a ≠ TT := all_cons (Nat.ne_of_lt l10.2.2.2.1) (all_cons (Nat.ne_of_lt l10.2.2.1) (all_cons (Nat.ne_of_lt l10.2.1) all_nil))
  refine ne_pcs (qs := [q5, q6, q7]) (ps := [⟨TT, Str.ofString "", tk7, Str.ofString "", tk7 + 1⟩, ⟨TT, Str.ofString "", tk7, Str.ofString "", tk7 + 1⟩, ⟨TT, Str.ofString "", tk7, Str.ofString "", tk7 + 1⟩]) (g12 (.tail _ (.head _))) (N12 _ (.head _)).1 ?_ ?_ ?_ ?_ (by show un + 3 + 1 < cLine; omega) ?_
  · exact all_cons (g12 (.tail _ (.tail _ (.tail _ (.tail _ (.head _)))))) (all_cons (g12 (.tail _ (.tail _ (.tail _ (.head _))))) (all_cons (g12 (.tail _ (.tail _ (.head _)))) all_nil))
  · exact all_cons (g12 (.head _)) (all_cons (g12 (.head _)) (all_cons (g12 (.head _)) all_nil))
  · simp only [List.map_cons, List.map_nil, ht5, ht6, ht7]
    rfl
  · exact fun q hq => all_cons (hTq q hq) (all_cons (hTq q hq) (all_cons (hTq q hq) all_nil))
  iterate 6 walk1
  exact kont h12 _ (fr_back (fr_back F12 ((if_neg (by decide)).trans e2)) e1) fun q hq => N12 q (.tail _ (.tail _ (.tail _ (.tail _ (.tail _ (.tail _ (.tail _ (.tail _ hq))))))))
end Mine
end SY8

section SY9
namespace Mine
section
variable {prog : Program} {A : Around} {E : Value → Shared → Prop} {w : World} {s : Shared} {x : Addr} {vs : Array Value} {vl vu : Value} {lo hi : Option Int} {h₀ : Heap} {L : Addr} {m : Str → Option Value} {news : List (Addr × Obj)}
theorem lst_slice_I {value slice : Expr} {ops : List Value} {its : Array Value} {Q : Value → Shared → Prop} (F : Fr h₀ L s.heap m) (N : News h₀ L s.heap news) (hx : s.heap.IsList x vs)
    (pl : IsPart vl lo) (pu : IsPart vu hi) (hsz : vs.size ≤ sizeLine) (e : slicePick vs lo hi none = its)
    (hsub : subscripted slice false (.ref x) (.ref s.heap.objs.size) = operate ops (getItem (.ref x) (.ref s.heap.objs.size)))
    (h : ∀ l h', Fr h₀ L h' m → News h₀ L h' ((l, listOf its 0) :: news) → (∀ p ∈ news, p.1 < l) → Q (.ref l) { s with heap := h' }) :
    wpAny (model prog w) A (subscriptTail value slice (.ref x) (.ref s.heap.objs.size)) Q E { s with heap := s.heap.push (slO vl vu) } := by
  subst e
  obtain ⟨o, ho, hc, n, hd⟩ := hx
  obtain ⟨F1, N1, l1⟩ := ks_newsPush (s := s) (o := slO vl vu) F N rfl (Heap.get?_push_at rfl rfl) (fun b o e => Heap.get?_push_of_some _ e)
  refine tail_any (s := { s with heap := s.heap.push (slO vl vu) }) (T := "list") ⟨_, Heap.get?_push_of_some _ ho, hc⟩ slot_list_getitem.lookup (wpAny_getItem_list_slice (s := { s with heap := s.heap.push (slO vl vu) }) (items := vs) ⟨_, Heap.get?_push_of_some _ ho, hc, _, hd⟩ ⟨_, (N1 _ (.head _)).1, rfl, rfl⟩ pl pu .none (by simp) ?_ hsz) hsub
  obtain ⟨F', N', l'⟩ := ks_newsPush (s := { s with heap := s.heap.push (slO vl vu) }) (o := listOf (slicePick vs lo hi none) 0) F1 N1 rfl (Heap.get?_push_at rfl rfl) (fun b o e => Heap.get?_push_of_some _ e)
  exact h _ _ F' (fun p hp => N' p (by cases hp with | head => exact .head _ | tail _ hp => exact .tail _ (.tail _ hp))) (fun p hp => l' p (.tail _ hp))
end
theorem intsL_app {a b : List Value} {xs ys : List Int} (ha : IntsL a.toArray xs) (hb : IntsL b.toArray ys) : IntsL (a ++ b).toArray (xs ++ ys) := by
  have e1 : a.length = xs.length := by simpa using ha.1
  have e2 : b.length = ys.length := by simpa using hb.1
  refine ⟨by simp [e1, e2], fun i v hv => ?_⟩
  rw [List.getElem?_toArray] at hv
  by_cases hi : i < a.length
  · rw [List.getElem?_append_left hi] at hv
    rw [List.getElem?_append_left (by omega)]
    exact ha.2 i v (by rw [List.getElem?_toArray]; exact hv)
  · rw [List.getElem?_append_right (by omega)] at hv
    rw [List.getElem?_append_right (by omega), ← e1]
    exact hb.2 _ v (by rw [List.getElem?_toArray]; exact hv)
theorem intsL_take {b : List Value} {ys : List Int} (hb : IntsL b.toArray ys) (n : Nat) : IntsL (b.take n).toArray (ys.take n) := by
  have e2 : b.length = ys.length := by simpa using hb.1
  refine ⟨by simp [e2], fun i v hv => ?_⟩
  rw [List.getElem?_toArray, List.getElem?_take] at hv
  rw [List.getElem?_take]
  by_cases hi : i < n
  · rw [if_pos hi] at hv ⊢
    exact hb.2 i v (by rw [List.getElem?_toArray]; exact hv)
  · rw [if_neg hi] at hv; cases hv
theorem intsL_five (a b c d e : Tok) : IntsL [Value.int 3 a, .int 4 b, .int 10 c, .int 5 d, .int 8 e].toArray [3, 4, 10, 5, 8] := by
  refine ⟨rfl, fun i v hv => ?_⟩
  match i with
  | 0 => simp at hv; exact ⟨_, _, rfl, hv.symm⟩
  | 1 => simp at hv; exact ⟨_, _, rfl, hv.symm⟩
  | 2 => simp at hv; exact ⟨_, _, rfl, hv.symm⟩
  | 3 => simp at hv; exact ⟨_, _, rfl, hv.symm⟩
  | 4 => simp at hv; exact ⟨_, _, rfl, hv.symm⟩
  | n + 5 => simp at hv
/-- the law's first row -/
theorem numbers_ok {p : Program} {loose : List Str} {mean : ExcName → Option Value} {mg mb : Str → Option Value} {w : World} {dp un : Nat} {gd : Option (List Code)} {outer : List Env} {base g : Heap} {s : Shared} {E : Value → Shared → Prop} {Q : Flow → Shared → Prop}
    {name qual : Str} {params : Arguments} {body : List Stmt} {S : Stmt} {scope : Scope} {cl : List (Str × Addr)} {dV kV doc pm cdv ct oc : Value} {an od : Option Addr} {osl : Array (Option Value)} {L : Addr}
    (ho : (k0.heap_1 w.params).lookup 205 = some ⟨oc, od, .func (fnX name qual params body scope cl dV kV doc pm an cdv ct), osl⟩) (hS : S = stAt body 0)
    {m : Str → Option Value} {SA : Addr} {items : Array Value} {ns : List Int} {fz : List (Addr × Obj)}
    (Bl : Below (aT dp un gd outer) base outer g) (X : (k0.heap_1 w.params).In g) (T : Top p loose mean mg mb g) (hd : dp + 28 < recursionLimit) (hu : un + 280 < cLine)
    (F : Fr g L s.heap m) (N : News g L s.heap fz) (e1 : m (Str.ofString "script") = some (.ref SA)) (hSA : g.IsList SA items) (hi : IntsL items ns) (hn : items.size ≤ 63)
    (kont : ∀ h tk NA nn its ns', Fr g L h (fun y => if y = Str.ofString "numbers" then some (.ref NA) else m y) → News g L h ((NA, lstO its nn) :: fz) → (∀ q ∈ fz, q.1 ≠ NA) → IntsL its ([3, 4, 10, 5, 8] ++ ns') → its.size ≤ 12 → Q .next { s with heap := h, toks := tk }) :
    wpAny (model Challenge.rw_nb0220_01.row.prog w) ((aT dp un gd outer).deeper (envX qual scope L 205 cdv cl)) (exec S (envX qual scope L 205 cdv cl)) Q E s := by
  w_on
  refine fn_exec (fun b => stAt b 0) hS (law_eq ho) ?_
  conv in (stAt _ _) => whnf
  conv in (lawScope _) => whnf
  replace F := fr_at F e1
  iterate 15 walk1
  rename_i NL h1 F1 N1 l1
  generalize s.toks = tk at *
  iterate 7 walk1
  dsimp only at N1 F1 ⊢
  generalize eN : W.listOf _ 0 = oN at N1
  refine lst_slice_I (s := { heap := h1, gens := s.gens, drawn := s.drawn, toks := _, os := s.os }) (x := SA) (vs := items) (m := fun y => if y = Str.ofString "script" then some (Value.ref SA) else m y) (news := (NL, oN) :: fz) (by exact F1) (by exact N1) ?hx IsPart.none (IsPart.int _ _) (by rw [sizeLine_eq]; omega) (slicePick_to items 7) (by with_unfolding_all rfl) ?_
  case hx =>
    obtain ⟨o, h1, h2⟩ := hSA
    exact ⟨o, F1.keep _ _ h1, h2⟩
  intro SL h2 F2 N2 l2
  subst eN
  refine add_arrays F2 N2 (News.isList N2 (.tail _ (.head _))) (News.isList N2 (.head _)) ?_ ?_
  · intro h3 F3 N3
    have nNA : ∀ q ∈ fz, q.1 ≠ h2.objs.size := fun q hq => Nat.ne_of_lt (Heap.lt_size (N2 q (.tail _ (.tail _ hq))).1)
    walk1
    rename_i h4 F4 N4
    have ii := intsL_app (intsL_five tk (tk + 1) (tk + 1 + 1) (tk + 1 + 1 + 1) (tk + 1 + 1 + 1 + 1)) (intsL_take (b := items.toList) (by simpa using hi) 7)
    refine kont h4 _ h2.objs.size 0 _ _ (fr_swap F4 e1) (fun q hq => N4 q ?_) nNA ii (by simp; omega)
    rcases List.mem_cons.mp hq with rfl | hq
    · exact .head _
    · exact .tail _ (.tail _ (.tail _ hq))
  · simp [sizeLine_eq]; omega
end Mine
end SY9

section SY10
namespace Mine
theorem ne_fresh {g h : Heap} {L a : Addr} {l : List (Addr × Obj)} (N : News g L h l) (ha : h.get? a = none) : ∀ q ∈ l, q.1 ≠ a := fun q hq e => by
  have := (N q hq).1
  rw [e, ha] at this; cases this
/-- the law's row 1 -/
theorem pieces_ok {p : Program} {loose : List Str} {mean : ExcName → Option Value} {mg mb : Str → Option Value} {w : World} {dp un : Nat} {gd : Option (List Code)} {outer : List Env} {base g : Heap} {s : Shared} {E : Value → Shared → Prop} {Q : Flow → Shared → Prop}
    {name qual : Str} {params : Arguments} {body : List Stmt} {S : Stmt} {scope : Scope} {cl : List (Str × Addr)} {dV kV doc pm cdv ct oc : Value} {an od : Option Addr} {osl : Array (Option Value)} {L : Addr}
    (ho : (k0.heap_1 w.params).lookup 205 = some ⟨oc, od, .func (fnX name qual params body scope cl dV kV doc pm an cdv ct), osl⟩) (hS : S = stAt body 1)
    {m : Str → Option Value} {NA : Addr} {nn : Nat} {its : Array Value} {ns : List Int} {news : List (Addr × Obj)}
    (Bl : Below (aT dp un gd outer) base outer g) (X : (k0.heap_1 w.params).In g) (T : Top p loose mean mg mb g) (hd : dp + 28 < recursionLimit) (hu : un + 280 < cLine)
    (F : Fr g L s.heap m) (N : News g L s.heap news) (e1 : m (Str.ofString "numbers") = some (.ref NA)) (hNA : (NA, lstO its nn) ∈ news) (hi : IntsL its ns) (hn : its.size ≤ 12)
    (kont : ∀ h tk P0 P1 P2 PA q0 q1 q2 n0 n1 n2, Fr g L h (fun y => if y = Str.ofString "pieces" then some (.ref PA) else m y) →
      News g L h ((P0, lstO (vals q0) n0) :: (P1, lstO (vals q1) n1) :: (P2, lstO (vals q2) n2) :: (PA, lstO #[.ref P0, .ref P1, .ref P2] 0) :: (pcs (q0 ++ q1 ++ q2) ++ news)) →
      (∀ a, a ∈ [P0, P1, P2, PA] ∨ a ∈ (q0 ++ q1 ++ q2).map (·.a) → ∀ q ∈ news, q.1 ≠ a) → (@LT.lt Nat _ P0 P1 ∧ @LT.lt Nat _ P1 P2 ∧ @LT.lt Nat _ P2 PA ∧ (∀ q ∈ q0 ++ q1 ++ q2, @LT.lt Nat _ PA q.a)) →
      (∀ q ∈ q0 ++ q1 ++ q2, q.ok) → q0.length = cnt 0 ns → q1.length = cnt 1 ns → q2.length = cnt 2 ns → Q .next { s with heap := h, toks := tk }) :
    wpAny (model Challenge.rw_nb0220_01.row.prog w) ((aT dp un gd outer).deeper (envX qual scope L 205 cdv cl)) (exec S (envX qual scope L 205 cdv cl)) Q E s := by
  w_on
  refine fn_exec (fun b => stAt b 1) hS (law_eq ho) ?_
  conv in (stAt _ _) => whnf
  conv in (lawScope _) => whnf
  replace F := fr_at F e1
  iterate 7 walk1
  refine ⟨X.keeps F.keep, ?_⟩
  refine use_call Bl F N X T rfl rfl ?_
  intro H9 C9 st9 f9 G9
  refine law_pieces C9 st9 (room 23 hd) (room 237 hu) (N _ hNA).1 hi hn ?_
  intro h3 tk3 P0 P1 P2 PA q0 q1 q2 n0 n1 n2 hx fr ord z0 z1 z2 zA zq ok c0 c1 c2
  obtain ⟨F3, N3⟩ := back0 F N hx
  have nw : ∀ {a : Addr} {o : Obj}, a ∈ [P0, P1, P2, PA] ∨ a ∈ (q0 ++ q1 ++ q2).map (·.a) → h3.get? a = some o → h3.get? a = some o ∧ a ≠ L ∧ g.get? a = none := fun ha e => fresh_add F (fr _ ha) e
  have nf : ∀ a, a ∈ [P0, P1, P2, PA] ∨ a ∈ (q0 ++ q1 ++ q2).map (·.a) → ∀ q ∈ news, q.1 ≠ a := fun a ha => ne_fresh N (fr a ha)
  have N4 : News g L h3 ((P0, lstO (vals q0) n0) :: (P1, lstO (vals q1) n1) :: (P2, lstO (vals q2) n2) :: (PA, lstO #[.ref P0, .ref P1, .ref P2] 0) :: (pcs (q0 ++ q1 ++ q2) ++ news)) := by
    refine all_cons (nw (.inl (by simp)) z0) (all_cons (nw (.inl (by simp)) z1) (all_cons (nw (.inl (by simp)) z2) (all_cons (nw (.inl (by simp)) zA) fun q hq => ?_)))
    rcases List.mem_append.mp hq with hq | hq
    · obtain ⟨q', hq', rfl⟩ := List.mem_map.mp hq
      exact nw (.inr (List.mem_map_of_mem hq')) (zq q' hq')
    · exact N3 q hq
  clear F N N3 C9 st9 f9 G9
  (try dsimp only)
  walk1
  rename_i h5 F5 N5
  exact kont h5 _ P0 P1 P2 PA q0 q1 q2 n0 n1 n2 (fr_swap F5 e1) N5 nf ord ok c0 c1 c2
/-- the law's row 3 -/
theorem rows_ok {p : Program} {loose : List Str} {mean : ExcName → Option Value} {mg mb : Str → Option Value} {w : World} {dp un : Nat} {gd : Option (List Code)} {outer : List Env} {base g : Heap} {s : Shared} {E : Value → Shared → Prop} {Q : Flow → Shared → Prop}
    {name qual : Str} {params : Arguments} {body : List Stmt} {S : Stmt} {scope : Scope} {cl : List (Str × Addr)} {dV kV doc pm cdv ct oc : Value} {an od : Option Addr} {osl : Array (Option Value)} {L : Addr}
    (ho : (k0.heap_1 w.params).lookup 205 = some ⟨oc, od, .func (fnX name qual params body scope cl dV kV doc pm an cdv ct), osl⟩) (hS : S = stAt body 3)
    {m : Str → Option Value} {PA P0 P1 P2 : Addr} {np n0 n1 n2 : Nat} {q0 q1 q2 : List Pc} {news : List (Addr × Obj)}
    (Bl : Below (aT dp un gd outer) base outer g) (X : (k0.heap_1 w.params).In g) (T : Top p loose mean mg mb g) (hd : dp + 28 < recursionLimit) (hu : un + 280 < cLine)
    (F : Fr g L s.heap m) (N : News g L s.heap news) (e1 : m (Str.ofString "pieces") = some (.ref PA)) (hPA : (PA, lstO #[.ref P0, .ref P1, .ref P2] np) ∈ news)
    (h0 : (P0, lstO (vals q0) n0) ∈ news) (h1 : (P1, lstO (vals q1) n1) ∈ news) (h2 : (P2, lstO (vals q2) n2) ∈ news) (hq : ∀ q ∈ q0 ++ q1 ++ q2, (q.a, q.obj) ∈ news) (b0 : q0.length ≤ 12) (b1 : q1.length ≤ 12) (b2 : q2.length ≤ 12)
    (kont : ∀ h tk RA nr r0 r1 r2, Fr g L h (fun y => if y = Str.ofString "rows" then some (.ref RA) else m y) → News g L h ((RA, lstO #[.ref r0.l, .ref r1.l, .ref r2.l] nr) :: ([r0, r1, r2].flatMap (fun r => [(r.l, lstO #[.ref r.x, .int r.j r.tj] r.n1), (r.x, accO r.d (vals r.qs) r.n), (r.d, r.od)]) ++ (pcs (r0.qs ++ r1.qs ++ r2.qs) ++ news))) →
      (IniRow w r0 0 ∧ IniRow w r1 1 ∧ IniRow w r2 2) → (@LT.lt Nat _ RA r0.d ∧ @LT.lt Nat _ r0.d r0.x ∧ @LT.lt Nat _ r0.x r0.l ∧ @LT.lt Nat _ r0.l r1.d ∧ @LT.lt Nat _ r1.d r1.x ∧ @LT.lt Nat _ r1.x r1.l ∧ @LT.lt Nat _ r1.l r2.d ∧ @LT.lt Nat _ r2.d r2.x ∧ @LT.lt Nat _ r2.x r2.l) →
      (∀ q ∈ r0.qs ++ r1.qs ++ r2.qs, ∀ a ∈ [r0.d, r0.x, r1.d, r1.x, r2.d, r2.x], a ≠ q.a) → (∀ a, a ∈ [RA, r0.l, r0.x, r0.d, r1.l, r1.x, r1.d, r2.l, r2.x, r2.d] ∨ a ∈ (r0.qs ++ r1.qs ++ r2.qs).map (·.a) → ∀ q ∈ news, q.1 ≠ a) →
      r0.qs.map Pc.t2 = q0.map Pc.t2 → r1.qs.map Pc.t2 = q1.map Pc.t2 → r2.qs.map Pc.t2 = q2.map Pc.t2 → Q .next { s with heap := h, toks := tk }) :
    wpAny (model Challenge.rw_nb0220_01.row.prog w) ((aT dp un gd outer).deeper (envX qual scope L 205 cdv cl)) (exec S (envX qual scope L 205 cdv cl)) Q E s := by
  w_on
  refine fn_exec (fun b => stAt b 3) hS (law_eq ho) ?_
  conv in (stAt _ _) => whnf
  conv in (lawScope _) => whnf
  replace F := fr_at F e1
  iterate 7 walk1
  refine ⟨X.keeps F.keep, ?_⟩
  refine use_call Bl F N X T rfl rfl ?_
  intro H9 C9 st9 f9 G9
  have gq : PcIn s.heap (q0 ++ q1 ++ q2) := fun q hq' => (N _ (hq q hq')).1
  refine law_rows C9 st9 (room 15 hd) (room 157 hu) (N _ hPA).1 (N _ h0).1 (N _ h1).1 (N _ h2).1 (fun q hq' => gq q (by simp [hq'])) (fun q hq' => gq q (by simp [hq'])) (fun q hq' => gq q (by simp [hq'])) b0 b1 b2 ?_
  intro h3 tk3 RA nr r0 r1 r2 hx hR t0 t1 t2
  obtain ⟨F3, N3⟩ := back0 F N hx
  have fr' : ∀ a, a ∈ [RA, r0.l, r0.x, r0.d, r1.l, r1.x, r1.d, r2.l, r2.x, r2.d] ∨ a ∈ (r0.qs ++ r1.qs ++ r2.qs).map (·.a) → s.heap.get? a = none := fun a ha => by
    rcases ha with ha | ha
    · exact hR.2.2.2.2.2.1 a ha
    · exact all_map (P := fun a => s.heap.get? a = none) hR.2.2.2.2.2.2 a ha
  have nw : ∀ {a : Addr} {o : Obj}, a ∈ [RA, r0.l, r0.x, r0.d, r1.l, r1.x, r1.d, r2.l, r2.x, r2.d] ∨ a ∈ (r0.qs ++ r1.qs ++ r2.qs).map (·.a) → h3.get? a = some o → h3.get? a = some o ∧ a ≠ L ∧ g.get? a = none := fun ha e => fresh_add F (fr' _ ha) e
  have N4 : News g L h3 ((RA, lstO #[.ref r0.l, .ref r1.l, .ref r2.l] nr) :: ([r0, r1, r2].flatMap (fun r => [(r.l, lstO #[.ref r.x, .int r.j r.tj] r.n1), (r.x, accO r.d (vals r.qs) r.n), (r.d, r.od)]) ++ (pcs (r0.qs ++ r1.qs ++ r2.qs) ++ news))) := by
    have pm : ∀ q ∈ r0.qs ++ r1.qs ++ r2.qs, h3.get? q.a = some q.obj := all_app (all_app hR.2.1.1.2.2.2.2 hR.2.1.2.1.2.2.2.2) hR.2.1.2.2.2.2.2.2
    exact news_cons (nw (.inl (.head _)) hR.1) (news_cat (news_cons (nw (.inl (.tail _ (.head _))) hR.2.1.1.1) (news_cons (nw (.inl (.tail _ (.tail _ (.head _)))) hR.2.1.1.2.1) (news_cons (nw (.inl (.tail _ (.tail _ (.tail _ (.head _))))) hR.2.1.1.2.2.1) (news_cons (nw (.inl (.tail _ (.tail _ (.tail _ (.tail _ (.head _)))))) hR.2.1.2.1.1) (news_cons (nw (.inl (.tail _ (.tail _ (.tail _ (.tail _ (.tail _ (.head _))))))) hR.2.1.2.1.2.1) (news_cons (nw (.inl (.tail _ (.tail _ (.tail _ (.tail _ (.tail _ (.tail _ (.head _)))))))) hR.2.1.2.1.2.2.1) (news_cons (nw (.inl (.tail _ (.tail _ (.tail _ (.tail _ (.tail _ (.tail _ (.tail _ (.head _))))))))) hR.2.1.2.2.1) (news_cons (nw (.inl (.tail _ (.tail _ (.tail _ (.tail _ (.tail _ (.tail _ (.tail _ (.tail _ (.head _)))))))))) hR.2.1.2.2.2.1) (news_cons (nw (.inl (.tail _ (.tail _ (.tail _ (.tail _ (.tail _ (.tail _ (.tail _ (.tail _ (.tail _ (.head _))))))))))) hR.2.1.2.2.2.2.1) news_nil))))))))) (news_cat (all_map (f := fun q : Pc => (q.a, q.obj)) (P := fun q : Addr × Obj => h3.get? q.1 = some q.2 ∧ q.1 ≠ L ∧ g.get? q.1 = none) fun q hq' => nw (.inr (List.mem_map_of_mem hq')) (pm q hq')) N3))
  have nf := fun a ha => ne_fresh N (fr' a ha)
  clear F N N3 C9 st9 f9 G9
  (try dsimp only)
  walk1
  rename_i h5 F5 N5
  exact kont h5 _ RA nr r0 r1 r2 (fr_swap F5 e1) N5 hR.2.2.1 hR.2.2.2.1 hR.2.2.2.2.1 nf t0 t1 t2
end Mine
end SY10

section SY11
namespace Mine
/-- the law's rows 4 and 5 -/
theorem nil_ok {w : World} {dp un : Nat} {gd : Option (List Code)} {outer : List Env} {g : Heap} {s : Shared} {E : Value → Shared → Prop} {Q : Flow → Shared → Prop}
    {name qual : Str} {params : Arguments} {body : List Stmt} {S : Stmt} {scope : Scope} {cl : List (Str × Addr)} {dV kV doc pm cdv ct oc : Value} {an od : Option Addr} {osl : Array (Option Value)} {L : Addr}
    (ho : (k0.heap_1 w.params).lookup 205 = some ⟨oc, od, .func (fnX name qual params body scope cl dV kV doc pm an cdv ct), osl⟩) {x : Str} (hS : (S = stAt body 4 ∧ x = Str.ofString "taken") ∨ (S = stAt body 5 ∧ x = Str.ofString "heap"))
    {m : Str → Option Value} {news : List (Addr × Obj)}
    (F : Fr g L s.heap m) (N : News g L s.heap news)
    (kont : ∀ h tk D, Fr g L h (fun y => if y = x then some (.ref D) else m y) → News g L h ((D, lstO #[] 0) :: news) → (∀ q ∈ news, q.1 ≠ D) → Q .next { s with heap := h, toks := tk }) :
    wpAny (model Challenge.rw_nb0220_01.row.prog w) ((aT dp un gd outer).deeper (envX qual scope L 205 cdv cl)) (exec S (envX qual scope L 205 cdv cl)) Q E s := by
  w_on
  rcases hS with ⟨hS, rfl⟩ | ⟨hS, rfl⟩
  · refine fn_exec (fun b => stAt b 4) hS (law_eq ho) ?_
    conv in (stAt _ _) => whnf
    conv in (lawScope _) => whnf
    have lD : ∀ q ∈ news, q.1 ≠ s.heap.objs.size := fun q hq => Nat.ne_of_lt (Heap.lt_size (N q hq).1)
    iterate 5 walk1
    rename_i h2 F2 N2
    exact kont _ _ _ F2 N2 lD
  · refine fn_exec (fun b => stAt b 5) hS (law_eq ho) ?_
    conv in (stAt _ _) => whnf
    conv in (lawScope _) => whnf
    have lD : ∀ q ∈ news, q.1 ≠ s.heap.objs.size := fun q hq => Nat.ne_of_lt (Heap.lt_size (N q hq).1)
    iterate 5 walk1
    rename_i h2 F2 N2
    exact kont _ _ _ F2 N2 lD
/-- the law's row 7 -/
theorem mk_ok {p : Program} {loose : List Str} {mean : ExcName → Option Value} {mg mb : Str → Option Value} {w : World} {dp un : Nat} {gd : Option (List Code)} {outer : List Env} {base g : Heap} {s : Shared} {E : Value → Shared → Prop} {Q : Flow → Shared → Prop}
    {name qual : Str} {params : Arguments} {body : List Stmt} {S : Stmt} {scope : Scope} {cl : List (Str × Addr)} {dV kV doc pm cdv ct oc : Value} {an od : Option Addr} {osl : Array (Option Value)} {L : Addr}
    (ho : (k0.heap_1 w.params).lookup 205 = some ⟨oc, od, .func (fnX name qual params body scope cl dV kV doc pm an cdv ct), osl⟩) (hS : S = stAt body 7)
    {m : Str → Option Value} {news : List (Addr × Obj)}
    (Bl : Below (aT dp un gd outer) base outer g) (X : (k0.heap_1 w.params).In g) (T : Top p loose mean mg mb g) (hd : dp + 28 < recursionLimit) (hu : un + 280 < cLine)
    (F : Fr g L s.heap m) (N : News g L s.heap news)
    (kont : ∀ h tk x d t4 ti4, Fr g L h (fun y => if y = Str.ofString "told" then some (.ref x) else m y) → News g L h ((x, accO d #[] 0) :: (d, iniD w.params 4 t4 ti4) :: news) → (∀ q ∈ news, q.1 ≠ x ∧ q.1 ≠ d) → d ≠ x → Q .next { s with heap := h, toks := tk }) :
    wpAny (model Challenge.rw_nb0220_01.row.prog w) ((aT dp un gd outer).deeper (envX qual scope L 205 cdv cl)) (exec S (envX qual scope L 205 cdv cl)) Q E s := by
  w_on
  refine fn_exec (fun b => stAt b 7) hS (law_eq ho) ?_
  conv in (stAt _ _) => whnf
  conv in (lawScope _) => whnf
  iterate 7 walk1
  refine ⟨X.keeps F.keep, ?_⟩
  refine use_call Bl F N X T rfl rfl ?_
  intro H9 C9 st9 f9 G9
  refine mk_acc2 C9 st9 (room 21 hd) (room 217 hu) ?_
  intro h3 tk3 x d tk hx3 x0 d0 ⟨dx, d00⟩ x1 d1
  obtain ⟨F3, N3⟩ := back0 F N hx3
  have zx := fresh_add F x0 x1
  have zd := fresh_add F d0 d1
  have nx := ne_fresh N x0
  have nd := ne_fresh N d0
  have N4 : News g L h3 ((x, accO d #[] 0) :: (d, iniD w.params 4 tk s.toks) :: news) := by
    refine all_cons (zx) (all_cons (zd) fun q hq => ?_)
    · exact N3 q hq
  clear F N N3 C9 st9 f9 G9
  (try dsimp only)
  walk1
  rename_i h5 F5 N5
  exact kont h5 _ x d _ _ F5 N5 (fun q hq => ⟨nx q hq, nd q hq⟩) (Nat.ne_of_lt dx)
end Mine
end SY11

section SY12
namespace Mine
/-- a ledger in two parts: what may turn, and what stays -/
structure Lg (mu fz : List (Addr × Obj)) : Prop where
  nd : (mu.map (·.1)).Nodup
  fr : ∀ q ∈ fz, q.1 ∉ mu.map (·.1)
theorem Lg.add {mu fz B Fb : List (Addr × Obj)} (x : Lg mu fz) (hB : (B.map (·.1)).Nodup) (hF : ∀ q ∈ Fb, q.1 ∉ B.map (·.1)) (hn : ∀ a, a ∈ B.map (·.1) ∨ a ∈ Fb.map (·.1) → ∀ q ∈ mu ++ fz, q.1 ≠ a) : Lg (B ++ mu) (Fb ++ fz) := by
  have h1 : ∀ a, a ∈ B.map (·.1) ∨ a ∈ Fb.map (·.1) → a ∉ mu.map (·.1) := fun a ha hm => by
    obtain ⟨q, hq, rfl⟩ := List.mem_map.mp hm
    exact hn _ ha q (List.mem_append_left _ hq) rfl
  refine ⟨?_, fun q hq => ?_⟩
  · rw [List.map_append, List.nodup_append]
    exact ⟨hB, x.nd, fun a ha b hb e => h1 a (.inl ha) (e ▸ hb)⟩
  · rw [List.map_append, List.mem_append]
    rintro (hb | hm)
    · rcases List.mem_append.mp hq with hq | hq
      · exact hF q hq hb
      · exact hn q.1 (.inl hb) q (List.mem_append_right _ hq) rfl
    · rcases List.mem_append.mp hq with hq | hq
      · exact h1 q.1 (.inr (List.mem_map_of_mem hq)) hm
      · exact x.fr q hq hm
theorem Lg.perm {mu mu' fz : List (Addr × Obj)} (x : Lg mu fz) (h : mu.Perm mu') : Lg mu' fz :=
  ⟨(h.map _).nodup x.nd, fun q hq hm => x.fr q hq ((h.map _).symm.subset hm)⟩
theorem Lg.off {p : Addr × Obj} {mu fz : List (Addr × Obj)} (x : Lg (p :: mu) fz) : ∀ q ∈ mu ++ fz, q.1 ≠ p.1 := fun q hq e => by
  rcases List.mem_append.mp hq with hq | hq
  · have := x.nd
    rw [List.map_cons, List.nodup_cons] at this
    exact this.1 (e ▸ List.mem_map_of_mem hq)
  · exact x.fr q hq (e ▸ .head _)
theorem Lg.tail {p : Addr × Obj} {mu fz : List (Addr × Obj)} (x : Lg (p :: mu) fz) : Lg mu fz := by
  refine ⟨?_, fun q hq hm => x.fr q hq (.tail _ hm)⟩
  have := x.nd
  rw [List.map_cons, List.nodup_cons] at this
  exact this.2
theorem perm14 {α : Type} (xt hA s t tA a0 b0 a1 b1 a2 b2 P0 P1 P2 : α) : [xt, hA, s, t, tA, a0, b0, a1, b1, a2, b2, P0, P1, P2].Perm [hA, s, t, tA, xt, a0, b0, P0, a1, b1, P1, a2, b2, P2] := by
  have e1 : [xt, hA, s, t, tA, a0, b0, a1, b1, a2, b2, P0, P1, P2].Perm ([hA, s, t, tA] ++ xt :: [a0, b0, a1, b1, a2, b2, P0, P1, P2]) := (List.perm_middle (l₁ := [hA, s, t, tA])).symm
  refine e1.trans (List.Perm.append_left [hA, s, t, tA] (List.Perm.cons _ (List.Perm.cons _ (List.Perm.cons _ ?_))))
  have e2 : [a1, b1, a2, b2, P0, P1, P2].Perm (P0 :: ([a1, b1, a2, b2] ++ [P1, P2])) := List.perm_middle (l₁ := [a1, b1, a2, b2]) (l₂ := [P1, P2])
  refine e2.trans (List.Perm.cons _ (List.Perm.cons _ (List.Perm.cons _ ?_)))
  exact List.perm_middle (l₁ := [a2, b2]) (l₂ := [P2])
theorem lets_t2 {qs ps : List Pc} (h : qs.map Pc.t2 = ps.map Pc.t2) : letsOf qs = letsOf ps := by
  have e : ∀ l : List Pc, letsOf l = ((l.map Pc.t2).map fun z => z.1.cps.toList ++ z.2.cps.toList).flatten := fun l => by
    rw [List.map_map]; rfl
  rw [e, e, h]
theorem ok_t2 {qs ps : List Pc} (h : qs.map Pc.t2 = ps.map Pc.t2) (hp : ∀ p ∈ ps, p.ok) : ∀ q ∈ qs, q.ok := fun q hq => by
  have h1 : q.t2 ∈ ps.map Pc.t2 := h ▸ List.mem_map_of_mem hq
  obtain ⟨p, hp', e⟩ := List.mem_map.mp h1
  have := hp p hp'
  have e1 : p.x = q.x := congrArg Prod.fst e
  have e2 : p.y = q.y := congrArg Prod.snd e
  unfold Pc.ok at this ⊢
  rw [← e1, ← e2]; exact this
theorem cnt_sum : ∀ ns : List Int, cnt 0 ns + cnt 1 ns + cnt 2 ns = ns.length
  | [] => rfl
  | x :: ns => by
    have ih := cnt_sum ns
    unfold cnt at ih ⊢
    have h3 : x % 3 = 0 ∨ x % 3 = 1 ∨ x % 3 = 2 := by omega
    rcases h3 with h | h | h <;> simp [List.filter_cons, h] <;> omega
theorem word_len {qs : List Pc} (h : ∀ q ∈ qs, q.ok) : (wordOf qs).length = qs.length := by rw [len_cps, word_cps, lets_len qs h]
theorem cnt_pos (ns : List Int) : 0 < cnt 0 ([3, 4, 10, 5, 8] ++ ns) ∧ 0 < cnt 1 ([3, 4, 10, 5, 8] ++ ns) ∧ 0 < cnt 2 ([3, 4, 10, 5, 8] ++ ns) := by
  unfold cnt
  simp only [List.filter_append, List.length_append]
  have h0 : ([3, 4, 10, 5, 8].filter fun x : Int => x % 3 == 0).length = 1 := by decide
  have h1 : ([3, 4, 10, 5, 8].filter fun x : Int => x % 3 == 1).length = 2 := by decide
  have h2 : ([3, 4, 10, 5, 8].filter fun x : Int => x % 3 == 2).length = 2 := by decide
  omega
theorem row_fact {w : World} {r : Rw} {q : List Pc} {j : Int} (hi : IniRow w r j) (h0 : 0 ≤ j) (h2 : j ≤ 2) (e : r.qs.map Pc.t2 = q.map Pc.t2) (ok : ∀ p ∈ q, p.ok) (b : q.length ≤ 12) :
    r.Sm ∧ (∃ tk0 ti, r.od = iniD w.params r.j tk0 ti) ∧ 0 ≤ r.j ∧ r.j ≤ 2 ∧ lenSum r.qs = (wordOf q).length ∧ (wordOf q).length ≤ 100 ∧ r.od.cls ≠ .none := by
  obtain ⟨rfl, tk, ti, ho⟩ := hi
  have hl : r.qs.length = q.length := by simpa using congrArg List.length e
  have okr := ok_t2 e ok
  refine ⟨⟨fun p hp => ok_sm (okr p hp), by omega⟩, ⟨tk, ti, ho⟩, h0, h2, ?_, ?_, ?_⟩
  · rw [lenSum_lets, lets_len _ okr, word_len ok, hl]
  · rw [word_len ok]; omega
  · rw [ho]; exact (by simp : (Value.type "dict") ≠ Value.none)
theorem three_le {a b c x y z n s : Nat} (h0 : a = x) (h1 : b = y) (h2 : c = z) (h : x + y + z = n) (e : s = n) (l : s ≤ 12) : a ≤ 12 ∧ b ≤ 12 ∧ c ≤ 12 := by omega
theorem three_sum {a b c x y z n s : Nat} (h0 : a = x) (h1 : b = y) (h2 : c = z) (h : x + y + z = n) (e : s = n) : 0 + (a + (b + (c + 0))) = s := by omega
theorem tab_nil (p : Pos) : TabOk p #[] := .inl rfl
end Mine
end SY12

section SY13
namespace Mine
theorem law13 {w : World} {name qual : Str} {params : Arguments} {body : List Stmt} {scope : Scope} {cl : List (Str × Addr)} {dV kV doc pm cdv ct oc : Value} {an od : Option Addr} {osl : Array (Option Value)}
    (ho : (k0.heap_1 w.params).lookup 205 = some ⟨oc, od, .func (fnX name qual params body scope cl dV kV doc pm an cdv ct), osl⟩) : body.length = 13 := by
  rw [(law_eq ho).2.2.2.2]
  rfl
theorem pcs_key {qs : List Pc} {q : Addr × Obj} (h : q ∈ pcs qs) : q.1 ∈ qs.map (·.a) := by
  obtain ⟨p, hp, rfl⟩ := List.mem_map.mp h
  exact List.mem_map_of_mem hp
/-- the law's rows 0 to 7 -/
theorem law_head {p : Program} {loose : List Str} {mean : ExcName → Option Value} {mg mb : Str → Option Value} {w : World} {dp un : Nat} {gd : Option (List Code)} {outer : List Env} {base g : Heap} {s : Shared} {E : Value → Shared → Prop} {Q : Flow → Shared → Prop}
    {name qual : Str} {params : Arguments} {body : List Stmt} {scope : Scope} {cl : List (Str × Addr)} {dV kV doc pm cdv ct oc : Value} {an od : Option Addr} {osl : Array (Option Value)} {L : Addr}
    (ho : (k0.heap_1 w.params).lookup 205 = some ⟨oc, od, .func (fnX name qual params body scope cl dV kV doc pm an cdv ct), osl⟩)
    {a0 a1 a2 a3 a4 a5 a6 a7 : Stmt} {rest : List Stmt} (hB : body = a0 :: a1 :: a2 :: a3 :: a4 :: a5 :: a6 :: a7 :: rest)
    {m : Str → Option Value} {SA : Addr} {items : Array Value} {ns : List Int}
    (Bl : Below (aT dp un gd outer) base outer g) (X : (k0.heap_1 w.params).In g) (T : Top p loose mean mg mb g) (hd : dp + 28 < recursionLimit) (hu : un + 280 < cLine)
    (F : Fr g L s.heap m) (N : News g L s.heap [(63, tblO #[]), (70, tblO #[])]) (e1 : m (Str.ofString "script") = some (.ref SA)) (hSA : g.IsList SA items) (hi : IntsL items ns) (hn : items.size ≤ 63)
    (kont : ∀ s' m' C D w0 w1 w2 t0 t1 t2 nw its nn, Fr g L s'.heap m' → MO C.hA C.tA C.xt C.RA C.PA C.WA C.NA m' → News g L s'.heap (led C D) → WOk w C D → Gs s s' → (C.WA, lstO #[.str w0 t0, .str w1 t1, .str w2 t2] nw) ∈ C.fz0 → w0.length ≤ 12 → w1.length ≤ 12 → w2.length ≤ 12 →
      (C.NA, lstO its nn) ∈ C.fz0 → its.size = C.K → C.W0 = w0.cps.toList → C.W1 = w1.cps.toList → C.W2 = w2.cps.toList → wpAny (model Challenge.rw_nb0220_01.row.prog w) ((aT dp un gd outer).deeper (envX qual scope L 205 cdv cl)) (execs rest (envX qual scope L 205 cdv cl)) Q E s') :
    wpAny (model Challenge.rw_nb0220_01.row.prog w) ((aT dp un gd outer).deeper (envX qual scope L 205 cdv cl)) (execs (a0 :: a1 :: a2 :: a3 :: a4 :: a5 :: a6 :: a7 :: rest) (envX qual scope L 205 cdv cl)) Q E s := by
  have lg0 : Lg [(63, tblO #[]), (70, tblO #[])] [] := ⟨by decide, fun _ h => nomatch h⟩
  -- numbers
  refine wpAny_execs_cons (numbers_ok ho (by rw [hB]; rfl) Bl X T hd hu F N e1 hSA hi hn ?_)
  intro h1 tk1 NA nn its ns0 F1 N1 hNA hi1 hs1
  obtain ⟨cp0, cp1, cp2⟩ := cnt_pos ns0
  generalize [3, 4, 10, 5, 8] ++ ns0 = ns1 at hi1 cp0 cp1 cp2
  have lg1 : Lg [(63, tblO #[]), (70, tblO #[])] [(NA, lstO its nn)] := lg0.add (B := []) (Fb := [(NA, lstO its nn)]) (by simp) (by simp) (by
    intro a ha q hq
    simp only [List.map_nil, List.map_cons, List.not_mem_nil, false_or, List.mem_singleton] at ha
    rw [ha]
    exact hNA q hq)
  -- pieces
  refine wpAny_execs_cons (pieces_ok (NA := NA) (nn := nn) (its := its) (ns := ns1) ho (by rw [hB]; rfl) Bl X T hd hu F1 N1 (if_pos rfl) (.head _) hi1 hs1 ?_)
  intro h2 tk2 P0 P1 P2 PA q0 q1 q2 n0 n1 n2 F2 N2 fr2 ⟨o01, o12, o2A, oAq⟩ ok2 c0 c1 c2
  have hsum := cnt_sum ns1
  have hsz : its.size = ns1.length := hi1.1
  obtain ⟨b0, b1, b2⟩ := three_le c0 c1 c2 hsum hsz hs1
  have lg2 : Lg ([(P0, lstO (vals q0) n0), (P1, lstO (vals q1) n1), (P2, lstO (vals q2) n2)] ++ [(63, tblO #[]), (70, tblO #[])]) (((PA, lstO #[.ref P0, .ref P1, .ref P2] 0) :: pcs (q0 ++ q1 ++ q2)) ++ [(NA, lstO its nn)]) := by
    have up : Up [P0, P1, P2, PA] := ⟨o01, o12, o2A, trivial⟩
    refine lg1.add (nodup_idx up [0, 1, 2] (by decide)) ?_ ?_
    · refine all_cons ((List.nodup_cons.mp (nodup_idx up [3, 0, 1, 2] (by decide))).1) fun q hq => ?_
      · obtain ⟨q', hq', rfl⟩ := List.mem_map.mp hq
        have up' : Up [P0, P1, P2, PA, q'.a] := ⟨o01, o12, o2A, oAq q' hq', trivial⟩
        exact (List.nodup_cons.mp (nodup_idx up' [4, 0, 1, 2] (by decide))).1
    · intro a ha q hq
      refine fr2 a ?_ q (mem_idx (idx := [1, 2, 0]) hq)
      rcases ha with ha | ha
      · exact .inl (mem_idx (idx := [0, 1, 2]) ha)
      · rcases List.mem_cons.mp ha with h | h
        · exact .inl (h ▸ .tail _ (.tail _ (.tail _ (.head _))))
        · obtain ⟨q', hq', rfl⟩ := List.mem_map.mp h
          exact .inr (pcs_key hq')
  have N2' : News g L h2 (([(P0, lstO (vals q0) n0), (P1, lstO (vals q1) n1), (P2, lstO (vals q2) n2)] ++ [(63, tblO #[]), (70, tblO #[])]) ++ (((PA, lstO #[.ref P0, .ref P1, .ref P2] 0) :: pcs (q0 ++ q1 ++ q2)) ++ [(NA, lstO its nn)])) := by
    have E2 : News g L h2 ([(P0, lstO (vals q0) n0), (P1, lstO (vals q1) n1), (P2, lstO (vals q2) n2), (PA, lstO #[.ref P0, .ref P1, .ref P2] 0)] ++ (pcs (q0 ++ q1 ++ q2) ++ [(NA, lstO its nn), (63, tblO #[]), (70, tblO #[])])) := N2
    exact news_cat (news_cat (news_idx (news_l E2) [0, 1, 2]) (news_idx (news_r (news_r E2)) [1, 2])) (news_cat (news_cat (a := [_]) (news_idx (news_l E2) [3]) (news_l (news_r E2))) (news_idx (news_r (news_r E2)) [0]))
  clear N1 N2 F1
  -- words
  refine wpAny_execs_cons (words_ok (PA := PA) (P0 := P0) (P1 := P1) (P2 := P2) (n0 := n0) (n1 := n1) (n2 := n2) (q0 := q0) (q1 := q1) (q2 := q2) (np := 0) ho (by rw [hB]; rfl) X F2 N2' (if_pos rfl) (List.mem_append_right _ (.head _)) (.head _) (.tail _ (.head _)) (.tail _ (.tail _ (.head _))) ⟨Nat.ne_of_lt o01, Nat.ne_of_lt (Nat.lt_trans o01 o12), Nat.ne_of_lt o12⟩ (fun q hq => List.mem_append_right _ (.tail _ (List.mem_append_left _ (mem_pcs hq)))) ok2 b0 b1 b2 ?_)
  intro WA h3 tk3 nw t0 t1 t2 F3 N3 hWA
  have lg3 := lg2.add (B := []) (Fb := [(WA, lstO #[.str (wordOf q0) t0, .str (wordOf q1) t1, .str (wordOf q2) t2] nw)]) (by simp) (by simp) (by
    intro a ha q hq
    simp only [List.map_nil, List.map_cons, List.not_mem_nil, false_or, List.mem_singleton] at ha
    rw [ha]
    exact hWA q hq)
  generalize eW : (WA, lstO #[.str (wordOf q0) t0, .str (wordOf q1) t1, .str (wordOf q2) t2] nw) = qW at *
  have eW1 : qW.1 = WA := by rw [← eW]
  have N3' : News g L h3 (([(P0, lstO (vals q0) n0), (P1, lstO (vals q1) n1), (P2, lstO (vals q2) n2)] ++ [(63, tblO #[]), (70, tblO #[])]) ++ (qW :: (((PA, lstO #[.ref P0, .ref P1, .ref P2] 0) :: pcs (q0 ++ q1 ++ q2)) ++ [(NA, lstO its nn)]))) := by
    have E3 : News g L h3 ([qW] ++ (([(P0, lstO (vals q0) n0), (P1, lstO (vals q1) n1), (P2, lstO (vals q2) n2)] ++ [(63, tblO #[]), (70, tblO #[])]) ++ (((PA, lstO #[.ref P0, .ref P1, .ref P2] 0) :: pcs (q0 ++ q1 ++ q2)) ++ [(NA, lstO its nn)]))) := N3
    exact news_cat (news_l (news_r E3)) (news_cat (news_l E3) (news_r (news_r E3)))
  clear N3 N2' F2
  -- rows
  refine wpAny_execs_cons (rows_ok (PA := PA) (P0 := P0) (P1 := P1) (P2 := P2) (n0 := n0) (n1 := n1) (n2 := n2) (q0 := q0) (q1 := q1) (q2 := q2) (np := 0) ho (by rw [hB]; rfl) Bl X T hd hu F3 N3' (if_skip (by decide) (if_pos rfl)) (List.mem_append_right _ (.tail _ (.head _))) (.head _) (.tail _ (.head _)) (.tail _ (.tail _ (.head _))) (fun q hq => List.mem_append_right _ (.tail _ (.tail _ (List.mem_append_left _ (mem_pcs hq))))) b0 b1 b2 ?_)
  intro h4 tk4 RA nr r0 r1 r2 F4 N4 ini ord apart fr4 e0 e1' e2
  have up4 : Up [RA, r0.d, r0.x, r0.l, r1.d, r1.x, r1.l, r2.d, r2.x, r2.l] := ⟨ord.1, ord.2.1, ord.2.2.1, ord.2.2.2.1, ord.2.2.2.2.1, ord.2.2.2.2.2.1, ord.2.2.2.2.2.2.1, ord.2.2.2.2.2.2.2.1, ord.2.2.2.2.2.2.2.2, trivial⟩
  have lg4 := lg3.add (B := [(r0.x, accO r0.d (vals r0.qs) r0.n), (r0.d, r0.od), (r1.x, accO r1.d (vals r1.qs) r1.n), (r1.d, r1.od), (r2.x, accO r2.d (vals r2.qs) r2.n), (r2.d, r2.od)])
    (Fb := (RA, lstO #[.ref r0.l, .ref r1.l, .ref r2.l] nr) :: (r0.l, lstO #[.ref r0.x, .int r0.j r0.tj] r0.n1) :: (r1.l, lstO #[.ref r1.x, .int r1.j r1.tj] r1.n1) :: (r2.l, lstO #[.ref r2.x, .int r2.j r2.tj] r2.n1) :: pcs (r0.qs ++ r1.qs ++ r2.qs)) (nodup_idx up4 [2, 1, 5, 4, 8, 7] (by decide)) (by
      refine all_cons ((List.nodup_cons.mp (nodup_idx up4 [0, 2, 1, 5, 4, 8, 7] (by decide))).1) (all_cons ((List.nodup_cons.mp (nodup_idx up4 [3, 2, 1, 5, 4, 8, 7] (by decide))).1) (all_cons ((List.nodup_cons.mp (nodup_idx up4 [6, 2, 1, 5, 4, 8, 7] (by decide))).1) (all_cons ((List.nodup_cons.mp (nodup_idx up4 [9, 2, 1, 5, 4, 8, 7] (by decide))).1) fun q hq => ?_)))
      obtain ⟨q', hq', rfl⟩ := List.mem_map.mp hq
      exact fun hm => apart q' hq' _ (mem_idx (l := [r0.d, r0.x, r1.d, r1.x, r2.d, r2.x]) (idx := [1, 0, 3, 2, 5, 4]) hm) rfl) (by
      intro a ha q hq
      refine fr4 a ?_ q hq
      rcases ha with ha | ha
      · exact .inl (mem_idx (l := [RA, r0.l, r0.x, r0.d, r1.l, r1.x, r1.d, r2.l, r2.x, r2.d]) (idx := [2, 3, 5, 6, 8, 9]) ha)
      · rcases List.mem_cons.mp ha with e | ha
        · exact .inl (e ▸ (.head _))
        rcases List.mem_cons.mp ha with e | ha
        · exact .inl (e ▸ (.tail _ (.head _)))
        rcases List.mem_cons.mp ha with e | ha
        · exact .inl (e ▸ (.tail _ (.tail _ (.tail _ (.tail _ (.head _))))))
        rcases List.mem_cons.mp ha with e | ha
        · exact .inl (e ▸ (.tail _ (.tail _ (.tail _ (.tail _ (.tail _ (.tail _ (.tail _ (.head _)))))))))
        · obtain ⟨q', hq', rfl⟩ := List.mem_map.mp ha
          exact .inr (pcs_key hq'))
  have N4' : News g L h4 (([(r0.x, accO r0.d (vals r0.qs) r0.n), (r0.d, r0.od), (r1.x, accO r1.d (vals r1.qs) r1.n), (r1.d, r1.od), (r2.x, accO r2.d (vals r2.qs) r2.n), (r2.d, r2.od)] ++ ([(P0, lstO (vals q0) n0), (P1, lstO (vals q1) n1), (P2, lstO (vals q2) n2)] ++ [(63, tblO #[]), (70, tblO #[])])) ++ (((RA, lstO #[.ref r0.l, .ref r1.l, .ref r2.l] nr) :: (r0.l, lstO #[.ref r0.x, .int r0.j r0.tj] r0.n1) :: (r1.l, lstO #[.ref r1.x, .int r1.j r1.tj] r1.n1) :: (r2.l, lstO #[.ref r2.x, .int r2.j r2.tj] r2.n1) :: pcs (r0.qs ++ r1.qs ++ r2.qs)) ++ (qW :: (((PA, lstO #[.ref P0, .ref P1, .ref P2] 0) :: pcs (q0 ++ q1 ++ q2)) ++ [(NA, lstO its nn)])))) := by
    have E4 : News g L h4 ([(RA, lstO #[.ref r0.l, .ref r1.l, .ref r2.l] nr), (r0.l, lstO #[.ref r0.x, .int r0.j r0.tj] r0.n1), (r0.x, accO r0.d (vals r0.qs) r0.n), (r0.d, r0.od), (r1.l, lstO #[.ref r1.x, .int r1.j r1.tj] r1.n1), (r1.x, accO r1.d (vals r1.qs) r1.n), (r1.d, r1.od), (r2.l, lstO #[.ref r2.x, .int r2.j r2.tj] r2.n1), (r2.x, accO r2.d (vals r2.qs) r2.n), (r2.d, r2.od)] ++ (pcs (r0.qs ++ r1.qs ++ r2.qs) ++ (([(P0, lstO (vals q0) n0), (P1, lstO (vals q1) n1), (P2, lstO (vals q2) n2)] ++ [(63, tblO #[]), (70, tblO #[])]) ++ (qW :: (((PA, lstO #[.ref P0, .ref P1, .ref P2] 0) :: pcs (q0 ++ q1 ++ q2)) ++ [(NA, lstO its nn)]))))) := N4
    exact news_cat (news_cat (news_idx (news_l E4) [2, 3, 5, 6, 8, 9]) (news_l (news_r (news_r E4)))) (news_cat (news_cat (a := [_, _, _, _]) (news_idx (news_l E4) [0, 1, 4, 7]) (news_l (news_r E4))) (news_r (news_r (news_r E4))))
  have lg4' : Lg ([(r0.x, accO r0.d (vals r0.qs) r0.n), (r0.d, r0.od), (r1.x, accO r1.d (vals r1.qs) r1.n), (r1.d, r1.od), (r2.x, accO r2.d (vals r2.qs) r2.n), (r2.d, r2.od)] ++ ([(P0, lstO (vals q0) n0), (P1, lstO (vals q1) n1), (P2, lstO (vals q2) n2)] ++ [(63, tblO #[]), (70, tblO #[])])) (((RA, lstO #[.ref r0.l, .ref r1.l, .ref r2.l] nr) :: (r0.l, lstO #[.ref r0.x, .int r0.j r0.tj] r0.n1) :: (r1.l, lstO #[.ref r1.x, .int r1.j r1.tj] r1.n1) :: (r2.l, lstO #[.ref r2.x, .int r2.j r2.tj] r2.n1) :: pcs (r0.qs ++ r1.qs ++ r2.qs)) ++ (qW :: (((PA, lstO #[.ref P0, .ref P1, .ref P2] 0) :: pcs (q0 ++ q1 ++ q2)) ++ [(NA, lstO its nn)]))) := lg4
  clear N4 N3' F3 lg4 lg3 lg2 lg1 lg0
  generalize efz : ((RA, lstO #[.ref r0.l, .ref r1.l, .ref r2.l] nr) :: (r0.l, lstO #[.ref r0.x, .int r0.j r0.tj] r0.n1) :: (r1.l, lstO #[.ref r1.x, .int r1.j r1.tj] r1.n1) :: (r2.l, lstO #[.ref r2.x, .int r2.j r2.tj] r2.n1) :: pcs (r0.qs ++ r1.qs ++ r2.qs)) ++ (qW :: (((PA, lstO #[.ref P0, .ref P1, .ref P2] 0) :: pcs (q0 ++ q1 ++ q2)) ++ [(NA, lstO its nn)])) = fz at N4' lg4'
  have mRA : (RA, lstO #[.ref r0.l, .ref r1.l, .ref r2.l] nr) ∈ fz := efz ▸ List.mem_append_left _ (.head _)
  have ml0 : (r0.l, lstO #[.ref r0.x, .int r0.j r0.tj] r0.n1) ∈ fz := efz ▸ List.mem_append_left _ (.tail _ (.head _))
  have ml1 : (r1.l, lstO #[.ref r1.x, .int r1.j r1.tj] r1.n1) ∈ fz := efz ▸ List.mem_append_left _ (.tail _ (.tail _ (.head _)))
  have ml2 : (r2.l, lstO #[.ref r2.x, .int r2.j r2.tj] r2.n1) ∈ fz := efz ▸ List.mem_append_left _ (.tail _ (.tail _ (.tail _ (.head _))))
  have mPA : (PA, lstO #[.ref P0, .ref P1, .ref P2] 0) ∈ fz := efz ▸ List.mem_append_right _ (.tail _ (.head _))
  have mNA : (NA, lstO its nn) ∈ fz := efz ▸ List.mem_append_right _ (.tail _ (List.mem_append_right _ (.head _)))
  have mW : qW ∈ fz := efz ▸ List.mem_append_right _ (.head _)
  have mr : ∀ q ∈ r0.qs ++ r1.qs ++ r2.qs, (q.a, q.obj) ∈ fz := fun q hq => by rw [← efz]; exact List.mem_append_left _ (.tail _ (.tail _ (.tail _ (.tail _ (mem_pcs hq)))))
  have mp : ∀ q ∈ q0 ++ q1 ++ q2, (q.a, q.obj) ∈ fz := fun q hq => by rw [← efz]; exact List.mem_append_right _ (.tail _ (List.mem_append_left _ (.tail _ (mem_pcs hq))))
  have hrp : ∀ q ∈ r0.qs ++ r1.qs ++ r2.qs, ∀ p ∈ q0 ++ q1 ++ q2, q.a ≠ p.a := fun q hq p hp => Ne.symm (fr4 q.a (.inr (List.mem_map_of_mem hq)) (p.a, p.obj) (List.mem_append_right _ (.tail _ (.tail _ (List.mem_append_left _ (mem_pcs hp))))))
  have hln : [r0.l, r1.l, r2.l].Nodup := nodup_idx up4 [3, 6, 9] (by decide)
  clear efz fr4 apart fr2
  -- taken, heap
  refine wpAny_execs_cons (nil_ok ho (.inl ⟨by rw [hB]; rfl, rfl⟩) F4 N4' ?_)
  intro h5 tk5 tA F5 N5 hTA
  have lg5 := lg4'.add (B := [(tA, lstO #[] 0)]) (Fb := []) (by simp) (by simp) (by
    intro a ha q hq
    simp only [List.map_nil, List.map_cons, List.not_mem_nil, or_false, List.mem_singleton] at ha
    rw [ha]
    exact hTA q hq)
  refine wpAny_execs_cons (nil_ok ho (.inr ⟨by rw [hB]; rfl, rfl⟩) F5 N5 ?_)
  intro h6 tk6 hA F6 N6 hHA
  have lg6 := lg5.add (B := [(hA, lstO #[] 0)]) (Fb := []) (by simp) (by simp) (by
    intro a ha q hq
    simp only [List.map_nil, List.map_cons, List.not_mem_nil, or_false, List.mem_singleton] at ha
    rw [ha]
    exact hHA q hq)
  clear N4' lg4' N5 lg5 F4 F5
  have lg7 : Lg ((hA, lstO #[] 0) :: (63, tblO #[]) :: (70, tblO #[]) :: [(tA, lstO #[] 0), (r0.x, accO r0.d (vals r0.qs) r0.n), (r0.d, r0.od), (r1.x, accO r1.d (vals r1.qs) r1.n), (r1.d, r1.od), (r2.x, accO r2.d (vals r2.qs) r2.n), (r2.d, r2.od), (P0, lstO (vals q0) n0), (P1, lstO (vals q1) n1), (P2, lstO (vals q2) n2)]) fz :=
    lg6.perm (List.Perm.cons _ (List.perm_append_comm (l₁ := [(tA, lstO #[] 0), (r0.x, accO r0.d (vals r0.qs) r0.n), (r0.d, r0.od), (r1.x, accO r1.d (vals r1.qs) r1.n), (r1.d, r1.od), (r2.x, accO r2.d (vals r2.qs) r2.n), (r2.d, r2.od), (P0, lstO (vals q0) n0), (P1, lstO (vals q1) n1), (P2, lstO (vals q2) n2)]) (l₂ := [(63, tblO #[]), (70, tblO #[])])))
  have N7 : News g L h6 ((hA, lstO #[] 0) :: (63, tblO #[]) :: (70, tblO #[]) :: ([(tA, lstO #[] 0), (r0.x, accO r0.d (vals r0.qs) r0.n), (r0.d, r0.od), (r1.x, accO r1.d (vals r1.qs) r1.n), (r1.d, r1.od), (r2.x, accO r2.d (vals r2.qs) r2.n), (r2.d, r2.od), (P0, lstO (vals q0) n0), (P1, lstO (vals q1) n1), (P2, lstO (vals q2) n2)] ++ fz)) := by
    have E6 : News g L h6 ([(hA, lstO #[] 0), (tA, lstO #[] 0), (r0.x, accO r0.d (vals r0.qs) r0.n), (r0.d, r0.od), (r1.x, accO r1.d (vals r1.qs) r1.n), (r1.d, r1.od), (r2.x, accO r2.d (vals r2.qs) r2.n), (r2.d, r2.od), (P0, lstO (vals q0) n0), (P1, lstO (vals q1) n1), (P2, lstO (vals q2) n2), (63, tblO #[]), (70, tblO #[])] ++ fz) := N6
    exact news_cat (news_idx (news_l E6) [0, 11, 12, 1, 2, 3, 4, 5, 6, 7, 8, 9, 10]) (news_r E6)
  have h63 := lg7.tail.off
  have h70 := lg7.tail.tail.off
  have hhA := lg7.off
  have okq : (∀ p ∈ q0, p.ok) ∧ (∀ p ∈ q1, p.ok) ∧ (∀ p ∈ q2, p.ok) := ⟨fun p hp => ok2 p (by simp [hp]), fun p hp => ok2 p (by simp [hp]), fun p hp => ok2 p (by simp [hp])⟩
  have rf0 := row_fact ini.1 (by decide) (by decide) e0 okq.1 b0
  have rf1 := row_fact ini.2.1 (by decide) (by decide) e1' okq.2.1 b1
  have rf2 := row_fact ini.2.2 (by decide) (by decide) e2 okq.2.2 b2
  have mF : ∀ q, q ∈ fz → q ∈ [(tA, lstO #[] 0), (r0.x, accO r0.d (vals r0.qs) r0.n), (r0.d, r0.od), (r1.x, accO r1.d (vals r1.qs) r1.n), (r1.d, r1.od), (r2.x, accO r2.d (vals r2.qs) r2.n), (r2.d, r2.od), (P0, lstO (vals q0) n0), (P1, lstO (vals q1) n1), (P2, lstO (vals q2) n2)] ++ fz := fun q hq => List.mem_append_right _ hq
  have mB : ∀ q, q ∈ [(tA, lstO #[] 0), (r0.x, accO r0.d (vals r0.qs) r0.n), (r0.d, r0.od), (r1.x, accO r1.d (vals r1.qs) r1.n), (r1.d, r1.od), (r2.x, accO r2.d (vals r2.qs) r2.n), (r2.d, r2.od), (P0, lstO (vals q0) n0), (P1, lstO (vals q1) n1), (P2, lstO (vals q2) n2)] → q ∈ [(tA, lstO #[] 0), (r0.x, accO r0.d (vals r0.qs) r0.n), (r0.d, r0.od), (r1.x, accO r1.d (vals r1.qs) r1.n), (r1.d, r1.od), (r2.x, accO r2.d (vals r2.qs) r2.n), (r2.d, r2.od), (P0, lstO (vals q0) n0), (P1, lstO (vals q1) n1), (P2, lstO (vals q2) n2)] ++ fz := fun q hq => List.mem_append_left _ hq
  have j0 : r0.j = 0 := ini.1.1
  have j1 : r1.j = 1 := ini.2.1.1
  have j2 : r2.j = 2 := ini.2.2.1
  -- the for
  refine wpAny_execs_cons (for_ok (rs := [r0, r1, r2]) (hA := hA) (nh := 0) (WA := WA) (nw := nw) (wsA := #[.str (wordOf q0) t0, .str (wordOf q1) t1, .str (wordOf q2) t2]) (RA := RA) (nr := nr) (p63 := #[]) (p70 := #[]) ho (by rw [hB]; rfl) Bl X T hd hu F6 N7 (tab_nil _) (tab_nil _) (Ne.symm (hhA (63, tblO #[]) (.head _))) (Ne.symm (hhA (70, tblO #[]) (.tail _ (.head _))))
    (fun q hq => hhA q (.tail _ (.tail _ hq))) (fun q hq => h63 q (.tail _ hq)) (fun q hq => h70 q hq) (if_skip (by decide) (if_skip (by decide) (if_pos rfl))) (if_skip (by decide) (if_skip (by decide) (if_skip (by decide) (if_pos rfl)))) (if_pos rfl) (mF _ (eW ▸ mW)) (mF _ mRA) (by simp) ?_ ?_ ?_)
  · simp only [List.map_cons, List.map_nil, j0, j1, j2]; decide
  · refine all_cons ?_ (all_cons ?_ (all_cons ?_ all_nil))
    · exact ⟨⟨mF _ ml0, mB _ (.tail _ (.head _)), mB _ (.tail _ (.tail _ (.head _))), rf0.2.2.2.2.2.2, fun q hq => mF _ (mr q (List.mem_append_left _ (List.mem_append_left _ hq)))⟩, rf0.1, rf0.2.1, rf0.2.2.1, rf0.2.2.2.1, _, _, by rw [j0]; rfl, rf0.2.2.2.2.1, rf0.2.2.2.2.2.1⟩
    · exact ⟨⟨mF _ ml1, mB _ (.tail _ (.tail _ (.tail _ (.head _)))), mB _ (.tail _ (.tail _ (.tail _ (.tail _ (.head _))))), rf1.2.2.2.2.2.2, fun q hq => mF _ (mr q (List.mem_append_left _ (List.mem_append_right _ hq)))⟩, rf1.1, rf1.2.1, rf1.2.2.1, rf1.2.2.2.1, _, _, by rw [j1]; rfl, rf1.2.2.2.2.1, rf1.2.2.2.2.2.1⟩
    · exact ⟨⟨mF _ ml2, mB _ (.tail _ (.tail _ (.tail _ (.tail _ (.tail _ (.head _)))))), mB _ (.tail _ (.tail _ (.tail _ (.tail _ (.tail _ (.tail _ (.head _))))))), rf2.2.2.2.2.2.2, fun q hq => mF _ (mr q (List.mem_append_right _ hq))⟩, rf2.1, rf2.2.1, rf2.2.2.1, rf2.2.2.2.1, _, _, by rw [j2]; rfl, rf2.2.2.2.2.1, rf2.2.2.2.2.2.1⟩
  intro s7 es nh' p63' p70' Zs u F8 hu8 N8 t63 t70 gs7 hp hpm hes hz
  have lg8 : Lg ((hA, lstO (refsE es) nh') :: (63, tblO p63') :: (70, tblO p70') :: [(tA, lstO #[] 0), (r0.x, accO r0.d (vals r0.qs) r0.n), (r0.d, r0.od), (r1.x, accO r1.d (vals r1.qs) r1.n), (r1.d, r1.od), (r2.x, accO r2.d (vals r2.qs) r2.n), (r2.d, r2.od), (P0, lstO (vals q0) n0), (P1, lstO (vals q1) n1), (P2, lstO (vals q2) n2)]) (Zs ++ fz) := by
    refine (Lg.add (mu := (hA, lstO (refsE es) nh') :: (63, tblO p63') :: (70, tblO p70') :: [(tA, lstO #[] 0), (r0.x, accO r0.d (vals r0.qs) r0.n), (r0.d, r0.od), (r1.x, accO r1.d (vals r1.qs) r1.n), (r1.d, r1.od), (r2.x, accO r2.d (vals r2.qs) r2.n), (r2.d, r2.od), (P0, lstO (vals q0) n0), (P1, lstO (vals q1) n1), (P2, lstO (vals q2) n2)]) ⟨lg7.nd, lg7.fr⟩ (B := []) (Fb := Zs) (by simp) (by simp) ?_)
    intro a ha q hq
    simp only [List.map_nil, List.not_mem_nil, false_or] at ha
    obtain ⟨z, hz', rfl⟩ := List.mem_map.mp ha
    obtain ⟨z1, z2, z3, z4⟩ := hz z hz'
    rcases List.mem_append.mp hq with hq | hq
    · rcases List.mem_cons.mp hq with rfl | hq
      · exact z1
      rcases List.mem_cons.mp hq with rfl | hq
      · exact z2
      rcases List.mem_cons.mp hq with rfl | hq
      · exact z3
      · exact z4 q (mB q hq)
    · exact z4 q (mF q hq)
  clear N7 F6 N6 lg6
  -- told
  refine wpAny_execs_cons (mk_ok ho (by rw [hB]; rfl) Bl X T hd hu F8 N8 ?_)
  intro h9 tk9 xt dt t4 ti4 F9 N9 hxt hdx
  have lg9 := lg8.add (B := [(xt, accO dt #[] 0)]) (Fb := [(dt, iniD w.params 4 t4 ti4)]) (by simp) (by simpa using hdx) (by
    intro a ha q hq
    have hq' : q ∈ (hA, lstO (refsE es) nh') :: (63, tblO p63') :: (70, tblO p70') :: (Zs ++ ([(tA, lstO #[] 0), (r0.x, accO r0.d (vals r0.qs) r0.n), (r0.d, r0.od), (r1.x, accO r1.d (vals r1.qs) r1.n), (r1.d, r1.od), (r2.x, accO r2.d (vals r2.qs) r2.n), (r2.d, r2.od), (P0, lstO (vals q0) n0), (P1, lstO (vals q1) n1), (P2, lstO (vals q2) n2)] ++ fz)) := by
      rcases List.mem_append.mp hq with hq | hq
      · rcases List.mem_cons.mp hq with rfl | hq
        · exact .head _
        rcases List.mem_cons.mp hq with rfl | hq
        · exact .tail _ (.head _)
        rcases List.mem_cons.mp hq with rfl | hq
        · exact .tail _ (.tail _ (.head _))
        · exact .tail _ (.tail _ (.tail _ (List.mem_append_right _ (List.mem_append_left _ hq))))
      · rcases List.mem_append.mp hq with hq | hq
        · exact .tail _ (.tail _ (.tail _ (List.mem_append_left _ hq)))
        · exact .tail _ (.tail _ (.tail _ (List.mem_append_right _ (List.mem_append_right _ hq))))
    simp only [List.map_cons, List.map_nil, List.mem_cons, List.not_mem_nil, or_false] at ha
    rcases ha with e | e
    · rw [e]; exact (hxt q hq').1
    · rw [e]; exact (hxt q hq').2)
  clear N8 F8 lg8
  obtain ⟨⟨_, tka, tia, hod0⟩, ⟨_, tkb, tib, hod1⟩, ⟨_, tkc, tic, hod2⟩⟩ := ini
  have pm := perm14 xt hA 63 70 tA r0.x r0.d r1.x r1.d r2.x r2.d P0 P1 P2
  have hmem : ∀ q, q ∈ fz → q ∈ (dt, iniD w.params 4 t4 ti4) :: (Zs ++ fz) := fun q hq => .tail _ (List.mem_append_right _ hq)
  have hl0 : r0.qs.length = q0.length := by simpa using congrArg List.length e0
  have hl1 : r1.qs.length = q1.length := by simpa using congrArg List.length e1'
  have hl2 : r2.qs.length = q2.length := by simpa using congrArg List.length e2
  refine kont _ _ ⟨hA, tA, xt, dt, RA, PA, WA, NA, nr, 0, refsR [r0, r1, r2], #[.ref P0, .ref P1, .ref P2], t4, ti4, letsOf r0.qs, letsOf r1.qs, letsOf r2.qs, its.size, [qW, (NA, lstO its nn)]⟩ ⟨nh', es, p63', p70', 0, [], 0, [], [⟨r0, P0, n0, q0, 0, tka, tia⟩, ⟨r1, P1, n1, q1, 1, tkb, tib⟩, ⟨r2, P2, n2, q2, 2, tkc, tic⟩], (dt, iniD w.params 4 t4 ti4) :: (Zs ++ fz)⟩ (wordOf q0) (wordOf q1) (wordOf q2) t0 t1 t2 nw its nn F9 ?mo ?N ?O ?gs (by rw [eW]; exact .head _) ?_ ?_ ?_ (.tail _ (.head _)) rfl ?_ ?_ ?_
  case mo =>
    have gu : ∀ {y : Str} {v : Value}, y ≠ Str.ofString "told" → y ≠ Str.ofString "pair" → (if y = Str.ofString "heap" then some (Value.ref hA) else if y = Str.ofString "taken" then some (.ref tA) else if y = Str.ofString "rows" then some (.ref RA) else if y = Str.ofString "words" then some (.ref WA) else if y = Str.ofString "pieces" then some (.ref PA) else if y = Str.ofString "numbers" then some (.ref NA) else m y) = some v → (if y = Str.ofString "told" then some (Value.ref xt) else u y) = some v := fun h1 h2 h3 => by
      rw [if_neg h1, hu8 _ h2]; exact h3
    exact ⟨gu (by decide) (by decide) rfl, gu (by decide) (by decide) rfl, gu (by decide) (by decide) rfl, gu (by decide) (by decide) rfl, if_pos rfl, gu (by decide) (by decide) rfl, gu (by decide) (by decide) rfl⟩
  case N =>
    have E9 : News g L h9 ([(xt, accO dt #[] 0), (dt, iniD w.params 4 t4 ti4), (hA, lstO (refsE es) nh'), (63, tblO p63'), (70, tblO p70')] ++ (Zs ++ ([(tA, lstO #[] 0), (r0.x, accO r0.d (vals r0.qs) r0.n), (r0.d, r0.od), (r1.x, accO r1.d (vals r1.qs) r1.n), (r1.d, r1.od), (r2.x, accO r2.d (vals r2.qs) r2.n), (r2.d, r2.od), (P0, lstO (vals q0) n0), (P1, lstO (vals q1) n1), (P2, lstO (vals q2) n2)] ++ fz))) := N9
    have E10 := news_cat (news_l E9) (news_l (news_r (news_r E9)))
    exact news_cat (news_idx E10 [2, 3, 4, 5, 0, 6, 7, 12, 8, 9, 13, 10, 11, 14]) (news_cat (a := [_]) (news_idx E10 [1]) (news_cat (news_l (news_r E9)) (news_r (news_r (news_r E9)))))
  case gs => exact gs7
  case O =>
    have hmu : mu ⟨hA, tA, xt, dt, RA, PA, WA, NA, nr, 0, refsR [r0, r1, r2], #[.ref P0, .ref P1, .ref P2], t4, ti4, letsOf r0.qs, letsOf r1.qs, letsOf r2.qs, its.size, [qW, (NA, lstO its nn)]⟩ [⟨r0, P0, n0, q0, 0, tka, tia⟩, ⟨r1, P1, n1, q1, 1, tkb, tib⟩, ⟨r2, P2, n2, q2, 2, tkc, tic⟩] = [hA, 63, 70, tA, xt, r0.x, r0.d, P0, r1.x, r1.d, P1, r2.x, r2.d, P2] := rfl
    refine { nd := ?_, fr := ?_, hRA := hmem _ mRA, hra := rfl, hPA := hmem _ mPA, hpa := rfl, row := ?_, ln := ?_, js := ?_, hes := ?_, hp := hp, pm := ?_, t63 := t63, t70 := t70, hdt := .head _, tdf := fun q hq => (nomatch hq), tkf := fun q hq => (nomatch hq), t2 := rfl, tok := fun q hq => (nomatch hq), tne := fun q hq => (nomatch hq), tnr := fun q hq => (nomatch hq), cnt := ?_, kle := hs1, pure := ?_, fz0 := ?_ }
    · rw [hmu]; exact pm.nodup lg9.nd
    · intro q hq
      rw [hmu]
      exact fun h => lg9.fr q hq (pm.symm.subset h)
    · refine all_cons ?_ (all_cons ?_ (all_cons ?_ all_nil))
      · exact ⟨hmem _ ml0, hod0, fun q hq => hmem _ (mr q (List.mem_append_left _ (List.mem_append_left _ hq))), fun q hq => hmem _ (mp q (List.mem_append_left _ (List.mem_append_left _ hq))), e0, fun q hq p hp => hrp q (List.mem_append_left _ (List.mem_append_left _ hq)) p (List.mem_append_left _ (List.mem_append_left _ hp)), ok_t2 e0 okq.1⟩
      · exact ⟨hmem _ ml1, hod1, fun q hq => hmem _ (mr q (List.mem_append_left _ (List.mem_append_right _ hq))), fun q hq => hmem _ (mp q (List.mem_append_left _ (List.mem_append_right _ hq))), e1', fun q hq p hp => hrp q (List.mem_append_left _ (List.mem_append_right _ hq)) p (List.mem_append_left _ (List.mem_append_right _ hp)), ok_t2 e1' okq.2.1⟩
      · exact ⟨hmem _ ml2, hod2, fun q hq => hmem _ (mr q (List.mem_append_right _ hq)), fun q hq => hmem _ (mp q (List.mem_append_right _ hq)), e2, fun q hq p hp => hrp q (List.mem_append_right _ hq) p (List.mem_append_right _ hp), ok_t2 e2 okq.2.2⟩
    · exact hln
    · simp only [List.map_cons, List.map_nil, j0, j1, j2]
    · exact fun e he => .tail _ (List.mem_append_left _ (hes e he))
    · have hf : (([⟨r0, P0, n0, q0, 0, tka, tia⟩, ⟨r1, P1, n1, q1, 1, tkb, tib⟩, ⟨r2, P2, n2, q2, 2, tkc, tic⟩] : List RD).map RD.r).filter (fun r => !r.qs.isEmpty) = [r0, r1, r2] := by
        have ne : ∀ r : Rw, 0 < r.qs.length → (!r.qs.isEmpty) = true := fun r h => by cases hr : r.qs with
          | nil => rw [hr] at h; cases h
          | cons _ _ => rfl
        simp only [List.map_cons, List.map_nil]
        simp only [List.filter, ne r0 (hl0 ▸ c0 ▸ cp0), ne r1 (hl1 ▸ c1 ▸ cp1), ne r2 (hl2 ▸ c2 ▸ cp2)]
      show (es.map En.kp).Perm _
      rw [hf]; exact hpm
    · exact three_sum (hl0.trans c0) (hl1.trans c1) (hl2.trans c2) hsum hsz
    · intro z hz'
      exact hz'
    · exact all_cons (hmem _ mW) (all_cons (hmem _ mNA) all_nil)
  · rw [word_len okq.1]; exact b0
  · rw [word_len okq.2.1]; exact b1
  · rw [word_len okq.2.2]; exact b2
  · rw [word_cps, lets_t2 e0]
  · rw [word_cps, lets_t2 e1']
  · rw [word_cps, lets_t2 e2]
end Mine
end SY13

section SY14
namespace Mine
theorem mu_five {C : WC} {rs : List RD} (nd : (mu C rs).Nodup) : [C.hA, 63, 70, C.tA, C.xt].Nodup ∧ ∀ a ∈ rs.flatMap RD.adr, a ∉ [C.hA, 63, 70, C.tA, C.xt] := by
  have e : mu C rs = [C.hA, 63, 70, C.tA, C.xt] ++ rs.flatMap RD.adr := rfl
  rw [e, List.nodup_append] at nd
  exact ⟨nd.1, fun a ha h => nd.2.2 a h a ha rfl⟩
theorem led_off {w : World} {C : WC} {D : WD} (O : WOk w C D) : ∀ q ∈ D.rs.flatMap RD.mut ++ D.fz, q.1 ∉ [C.hA, 63, 70, C.tA, C.xt] := fun q hq => by
  rcases List.mem_append.mp hq with hq | hq
  · exact (mu_five O.nd).2 _ (muts_key hq)
  · intro h
    refine O.fr q hq ?_
    have e : mu C D.rs = [C.hA, 63, 70, C.tA, C.xt] ++ D.rs.flatMap RD.adr := rfl
    rw [e]
    exact List.mem_append_left _ h
theorem three_of {α β : Type} {f : α → β} {l : List α} {x y z : β} (h : l.map f = [x, y, z]) : ∃ a b c, l = [a, b, c] := by
  have := congrArg List.length h
  rw [List.length_map] at this
  obtain ⟨a, t, e, h1⟩ := cons_of (n := 2) this
  obtain ⟨b, u, e', h2⟩ := cons_of (n := 1) h1
  obtain ⟨c, v, e'', h3⟩ := cons_of (n := 0) h2
  exact ⟨a, b, c, by rw [e, e', e'', nil_of h3]⟩
/-- the law's rows 8 to 12 -/
theorem law_tail {p : Program} {loose : List Str} {mean : ExcName → Option Value} {mg mb : Str → Option Value} {w : World} {dp un : Nat} {gd : Option (List Code)} {outer : List Env} {g : Heap} {s : Shared} {E : Value → Shared → Prop} {Q : Flow → Shared → Prop}
    {name qual : Str} {params : Arguments} {body : List Stmt} {scope : Scope} {cl : List (Str × Addr)} {dV kV doc pm cdv ct oc : Value} {an od : Option Addr} {osl : Array (Option Value)} {L : Addr}
    (ho : (k0.heap_1 w.params).lookup 205 = some ⟨oc, od, .func (fnX name qual params body scope cl dV kV doc pm an cdv ct), osl⟩)
    {a0 a1 a2 a3 a4 a5 a6 a7 a8 a9 b0 b1 b2 : Stmt} (hB : body = [a0, a1, a2, a3, a4, a5, a6, a7, a8, a9, b0, b1, b2])
    {m : Str → Option Value} {C : WC} {D : WD} {w0 w1 w2 : Str} {t0 t1 t2 : Tok} {nw nn : Nat} {its : Array Value}
    (Bl : Below (aT dp un gd outer) g outer g) (X : (k0.heap_1 w.params).In g) (T : Top p loose mean mg mb g) (hd : dp + 28 < recursionLimit) (hu : un + 280 < cLine)
    (F : Fr g L s.heap m) (mo : MO C.hA C.tA C.xt C.RA C.PA C.WA C.NA m) (N : News g L s.heap (led C D)) (O : WOk w C D)
    (hW : (C.WA, lstO #[.str w0 t0, .str w1 t1, .str w2 t2] nw) ∈ C.fz0) (k0' : w0.length ≤ 12) (k1' : w1.length ≤ 12) (k2' : w2.length ≤ 12) (hN : (C.NA, lstO its nn) ∈ C.fz0) (hK : its.size = C.K)
    (e0 : C.W0 = w0.cps.toList) (e1 : C.W1 = w1.cps.toList) (e2 : C.W2 = w2.cps.toList)
    (kont : ∀ s' m' p63 p70, Fr g L s'.heap m' → s'.heap.get? 63 = some (tblO p63) → s'.heap.get? 70 = some (tblO p70) → Gs s s' → Q (.ret (.bool true)) s') :
    wpAny (model Challenge.rw_nb0220_01.row.prog w) ((aT dp un gd outer).deeper (envX qual scope L 205 cdv cl)) (execs [a8, a9, b0, b1, b2] (envX qual scope L 205 cdv cl)) Q E s := by
  -- the while
  refine wpAny_execs_cons (while_ok ho (by rw [hB]; rfl) Bl X T hd hu F mo N O ?_)
  intro s1 m1 D1 F1 mo1 N1 O1 hes gs1
  clear F N O mo D
  obtain ⟨nh, es, p63, p70, nt, tkn, ntd, td, rs, fz⟩ := D1
  simp only at hes
  subst hes
  have hjs := O1.js
  obtain ⟨c0, c1, c2, rfl⟩ := three_of hjs
  have hqs : ∀ c ∈ [c0, c1, c2], c.r.qs = [] := by
    intro c hc
    have h1 := O1.pm.symm
    simp only [List.map_nil] at h1
    have h2 := h1.eq_nil
    cases hq : c.r.qs with
    | nil => rfl
    | cons q qs =>
      have h3 : c.r.kp ∈ ((([c0, c1, c2].map RD.r).filter fun r => !r.qs.isEmpty).map Rw.kp) := List.mem_map_of_mem (List.mem_filter.mpr ⟨List.mem_map_of_mem hc, by rw [hq]; rfl⟩)
      rw [h2] at h3; cases h3
  obtain ⟨nd5, _⟩ := mu_five O1.nd
  have off5 := led_off O1
  simp only [List.nodup_cons, List.mem_cons, List.not_mem_nil, or_false, not_or, not_false_eq_true, List.nodup_nil, and_true] at nd5 off5
  obtain ⟨⟨n1, n2, n3, n4⟩, ⟨n5, n6, n7⟩, ⟨n8, n9⟩, n10⟩ := nd5
  -- the try
  refine wpAny_execs_cons (try_ok ho (by rw [hB]; rfl) Bl X T hd hu F1 N1 (.head _) mo1.heap ?_)
  intro h2 tk2 F2 N2
  -- the rows are empty
  have mfz : ∀ q, q ∈ fz → q ∈ led C ⟨nh, [], p63, p70, nt, tkn, ntd, td, [c0, c1, c2], fz⟩ := fun q hq => .tail _ (.tail _ (.tail _ (.tail _ (.tail _ (List.mem_append_right _ hq)))))
  have mmu : ∀ c ∈ [c0, c1, c2], ∀ q ∈ c.mut, q ∈ led C ⟨nh, [], p63, p70, nt, tkn, ntd, td, [c0, c1, c2], fz⟩ := fun c hc q hq => by
    have : q ∈ [c0, c1, c2].flatMap RD.mut := List.mem_flatMap.mpr ⟨c, hc, hq⟩
    exact .tail _ (.tail _ (.tail _ (.tail _ (.tail _ (List.mem_append_left _ this)))))
  refine wpAny_execs_cons (empty_ok (r0 := c0.r) (r1 := c1.r) (r2 := c2.r) ho (by rw [hB]; rfl) Bl X T hd hu F2 N2 mo1.heap mo1.rows (.head _) (mfz _ (O1.hra ▸ O1.hRA)) (fun r hr => ?_) ?_)
  · obtain ⟨c, hc, rfl⟩ : ∃ c ∈ [c0, c1, c2], r = c.r := by
      simp only [List.mem_cons, List.not_mem_nil, or_false] at hr
      rcases hr with rfl | rfl | rfl
      · exact ⟨c0, by simp, rfl⟩
      · exact ⟨c1, by simp, rfl⟩
      · exact ⟨c2, by simp, rfl⟩
    have R := O1.row c hc
    exact ⟨⟨mfz _ R.l, mmu c hc _ (.head _), mmu c hc _ (.tail _ (.head _)), by rw [R.od]; exact (by simp : (Value.type "dict") ≠ Value.none), fun q hq => by rw [hqs c hc] at hq; cases hq⟩, hqs c hc, _, _, _, R.od⟩
  intro h3 tk3 F3 N3
  have hsz : tkn.length = C.K := by
    have := O1.cnt
    simp only [List.map_cons, List.map_nil, hqs c0 (by simp), hqs c1 (by simp), hqs c2 (by simp), List.length_nil, List.sum_cons, List.sum_nil] at this
    omega
  have htd : td.length = tkn.length := by simpa using congrArg List.length O1.t2
  have hlst : Lst C.W0 C.W1 C.W2 (letsOf td) := by
    have := O1.pure [] (by
      simp only [List.map_cons, List.map_nil, hqs c0 (by simp), hqs c1 (by simp), hqs c2 (by simp)]
      exact Lst.nil)
    simpa using this
  have hK12 := O1.kle
  -- the text and the length
  have N4 : News g L h3 ((63, tblO p63) :: (70, tblO p70) :: (C.hA, lstO (refsE []) nh) :: (C.tA, lstO (vals tkn) nt) :: (C.xt, accO C.dt (vals td) ntd) :: ([c0, c1, c2].flatMap RD.mut ++ fz)) := news_re 5 N3 [1, 2, 0, 3, 4]
  have mf4 : ∀ q, q ∈ fz → q ∈ (C.hA, lstO (refsE []) nh) :: (C.tA, lstO (vals tkn) nt) :: (C.xt, accO C.dt (vals td) ntd) :: ([c0, c1, c2].flatMap RD.mut ++ fz) := fun q hq => .tail _ (.tail _ (.tail _ (List.mem_append_right _ hq)))
  refine wpAny_execs_cons (told_ok (xt := C.xt) (dt := C.dt) (td := td) (ntd := ntd) ho (by rw [hB]; rfl) Bl X T hd hu F3 N4 O1.t63 O1.t70 ?_ ?_ mo1.told mo1.words mo1.numbers (.tail _ (.tail _ (.head _))) (mf4 _ O1.hdt) (fun q hq => mf4 _ (O1.tdf q hq)) O1.tok (by omega) (mf4 _ (O1.fz0 _ hW)) k0' k1' k2' (mf4 _ (O1.fz0 _ hN)) (by rw [hK]; omega) (e0 ▸ e1 ▸ e2 ▸ hlst) ?_)
  · refine all_cons (n1) (all_cons (Ne.symm n6) (all_cons (Ne.symm n7) fun q hq => ?_))
    · exact (off5 q hq).2.1
  · refine all_cons (n2) (all_cons (Ne.symm n8) (all_cons (Ne.symm n9) fun q hq => ?_))
    · exact (off5 q hq).2.2.1
  intro s4 p63' p70' F5 N5 t63 t70 gs4
  -- the end
  have N6 : News g L s4.heap ((C.xt, accO C.dt (vals td) ntd) :: (63, tblO p63') :: (70, tblO p70') :: (C.hA, lstO (refsE []) nh) :: (C.tA, lstO (vals tkn) nt) :: ([c0, c1, c2].flatMap RD.mut ++ fz)) := news_re 5 N5 [4, 0, 1, 2, 3]
  have mf6 : ∀ q, q ∈ fz → q ∈ (70, tblO p70') :: (C.hA, lstO (refsE []) nh) :: (C.tA, lstO (vals tkn) nt) :: ([c0, c1, c2].flatMap RD.mut ++ fz) := fun q hq => .tail _ (.tail _ (.tail _ (List.mem_append_right _ hq)))
  refine wpAny_execs_cons (ret_ok (xt := C.xt) (dt := C.dt) (td := td) (tkn := tkn) (ntd := ntd) (nt := nt) (tA := C.tA) ho (by rw [hB]; rfl) Bl X T hd hu F5 N6 t63 (Ne.symm n7) ?_ ?_ mo1.told mo1.taken (.tail _ (.tail _ (.head _))) (mf6 _ O1.hdt) (fun q hq => mf6 _ (O1.tdf q hq)) (fun q hq => mf6 _ (O1.tkf q hq)) O1.t2 O1.tne (by omega) ?_)
  · refine all_cons (n9) (all_cons (n4) (all_cons (n10) fun q hq => ?_))
    · exact (off5 q hq).2.2.2.2
  · refine all_cons (Ne.symm n5) (all_cons (n1) (all_cons (Ne.symm n6) fun q hq => ?_))
    · exact (off5 q hq).2.1
  intro s5 p63'' F7 N7 gs5
  exact kont s5 _ p63'' p70' F7 (N7 _ (.head _)).1 (N7 _ (.tail _ (.head _))).1 (gs1.trans (Gs.trans ⟨gs4.1, gs4.2⟩ gs5))
end Mine
end SY14

section SY15
namespace Mine
theorem law_any {p : Program} {loose : List Str} {mean : ExcName → Option Value} {mg mb : Str → Option Value} {w : World} {dp un : Nat} {gd : Option (List Code)} {outer : List Env} {g : Heap} {s : Shared} {E : Value → Shared → Prop} {Q : Flow → Shared → Prop}
    {name qual : Str} {params : Arguments} {body : List Stmt} {scope : Scope} {cl : List (Str × Addr)} {dV kV doc pm cdv ct oc : Value} {an od : Option Addr} {osl : Array (Option Value)} {L : Addr}
    (ho : (k0.heap_1 w.params).lookup 205 = some ⟨oc, od, .func (fnX name qual params body scope cl dV kV doc pm an cdv ct), osl⟩)
    {m : Str → Option Value} {SA : Addr} {items : Array Value} {ns : List Int}
    (Bl : Below (aT dp un gd outer) g outer g) (X : (k0.heap_1 w.params).In g) (T : Top p loose mean mg mb g) (hd : dp + 28 < recursionLimit) (hu : un + 280 < cLine)
    (F : Fr g L s.heap m) (N : News g L s.heap [(63, tblO #[]), (70, tblO #[])]) (e1 : m (Str.ofString "script") = some (.ref SA)) (hSA : g.IsList SA items) (hi : IntsL items ns) (hn : items.size ≤ 63)
    (kont : ∀ s' m' p63 p70, Fr g L s'.heap m' → s'.heap.get? 63 = some (tblO p63) → s'.heap.get? 70 = some (tblO p70) → Gs s s' → Q (.ret (.bool true)) s') :
    wpAny (model Challenge.rw_nb0220_01.row.prog w) ((aT dp un gd outer).deeper (envX qual scope L 205 cdv cl)) (execs body (envX qual scope L 205 cdv cl)) Q E s := by
  refine list13 (law13 ho) ?_
  intro a0 a1 a2 a3 a4 a5 a6 a7 a8 a9 b0 b1 b2 hB
  rw [hB]
  refine law_head ho hB Bl X T hd hu F N e1 hSA hi hn ?_
  intro s' m' C D w0 w1 w2 t0 t1 t2 nw its nn F' mo N' O gs hW k0' k1' k2' hN hK z0 z1 z2
  refine law_tail ho hB Bl X T hd hu F' mo N' O hW k0' k1' k2' hN hK z0 z1 z2 ?_
  intro s'' m'' p63 p70 F'' g63 g70 gs'
  exact kont s'' m'' p63 p70 F'' g63 g70 (gs.trans gs')
theorem law_ok {p : Program} {loose : List Str} {mean : ExcName → Option Value} {mg mb : Str → Option Value} {w : World} {dp un : Nat} {gd : Option (List Code)} {base H : Heap} {s : Shared} {R : Result → Shared → Prop}
    {SA : Addr} {items : Array Value} {ns : List Int}
    (C : Cx p loose mean mg mb w (aT dp un gd []) base [] H) (st : H.StaysIn s.heap) (hd : dp + 28 < recursionLimit) (hu : un + 280 < cLine)
    (hS : s.heap.IsList SA items) (hi : IntsL items ns) (hn : items.size ≤ 63)
    (h63 : s.heap.get? 63 = some (tblO #[])) (h70 : s.heap.get? 70 = some (tblO #[])) (f63 : H.get? 63 = none) (f70 : H.get? 70 = none)
    (k : ∀ s' p63 p70, ExtL [63, 70] s.heap s'.heap → s'.heap.get? 63 = some (tblO p63) → s'.heap.get? 70 = some (tblO p70) → Gs s s' → R (.ok (.ret (.bool true))) s') :
    codeAny (model Challenge.rw_nb0220_01.row.prog w) (aT dp un gd []) (.call (.ref 205) ⟨[.ref SA], []⟩) R s := by
  w_on
  have hled : ∀ q ∈ [((63 : Addr), tblO #[]), (70, tblO #[])], s.heap.get? q.1 = some q.2 ∧ H.get? q.1 = none := by
    intro q hq
    simp only [List.mem_cons, List.not_mem_nil, or_false] at hq
    rcases hq with rfl | rfl
    · exact ⟨h63, f63⟩
    · exact ⟨h70, f70⟩
  refine' enter (binds := [(Str.ofString "script", .ref SA)]) C st hled ?k6 ?k7 ?k8 ?k9 ?kB ?_ ?c5 ?c2 ?c3 ?c4
  (((case k6 => k_is); (case k7 => k_is); (case k8 => exact Nat.lt_of_le_of_lt (Nat.le_add_right _ _) hd); (case k9 => exact BindsTo.of_eq rfl); (case kB => exact locs rfl); (case c5 => decide); (case c2 => exact rfl); (case c3 => exact rfl); (case c4 => exact rfl)))
  intro g' L' h' F' N' B' X' T' G'
  have hSA' : g'.IsList SA items := by
    obtain ⟨o, ho, hc, n, hd⟩ := hS
    refine ⟨o, G' _ _ ho ?_, hc, n, hd⟩
    simp only [List.map_cons, List.map_nil, List.mem_cons, List.not_mem_nil, or_false, not_or]
    refine ⟨fun e => ?_, fun e => ?_⟩
    · rw [e, h63] at ho; cases ho; cases hc
    · rw [e, h70] at ho; cases ho; cases hc
  (try dsimp only)
  refine' law_any ?k6 ⟨rfl, fun _ _ e => e, trivial⟩ X' T' hd hu F' N' rfl hSA' hi hn ?_
  case k6 => k_is
  intro s' m' p63 p70 F'' g63 g70 gs
  exact k s' p63 p70 (ext_of G' F'') g63 g70 ⟨gs.1, gs.2⟩
end Mine
end SY15

section ST1
namespace Mine
/-- a text that defines nothing -/
noncomputable def noProg : Program := { PySem.Challenge.rw_nb0220_01.row.prog with main := { PySem.Challenge.rw_nb0220_01.row.prog.main with body := [.Import [⟨Str.ofString "sys", none, default⟩] default] } }
theorem top_hide {q : Program} {loose : List Str} {mean : ExcName → Option Value} {mg mb : Str → Option Value} {h H : Heap} (T : Top q loose mean mg mb h) (h63 : h.get? 63 = some (tblO #[])) (h70 : h.get? 70 = some (tblO #[]))
    (hk : ∀ b o, h.get? b = some o → b ∉ [(63 : Addr), 70] → H.get? b = some o) : Top noProg (loose ++ (recsOf q).map (·.name) ++ (litsOf q).map (·.1) ++ (clssOf q loose).map (·.name)) mean mg mb H where
  g := T.g.at fun o e => hk _ o e (by decide)
  b := T.b.at fun o e => hk _ o e (by decide)
  nolimit := T.nolimit.at fun o e => hk _ o e (by decide)
  nodigits := let ⟨mc, h1, h2⟩ := T.nodigits; ⟨mc, h1.at fun o e => hk _ o e (by decide), h2⟩
  fn := fun d hd => (nomatch hd)
  own := fun o ho => (nomatch ho)
  const := fun x d e => (nomatch e)
  free := fun x h1 h2 _ _ _ => by
    simp only [List.mem_append, not_or] at h2
    exact T.free x h1 h2.1.1.1 h2.1.1.2 h2.1.2 h2.2
  builtins := T.builtins
  tab := fun d hd => (nomatch hd)
  bmain := let ⟨bm, ob, h1, h2, h3, h4, r⟩ := T.bmain; ⟨bm, ob, h1, h2, hk _ _ h3 (by
    simp only [List.mem_cons, List.not_mem_nil, or_false, not_or]
    refine ⟨fun e => ?_, fun e => ?_⟩
    · rw [e, h63] at h3; cases h3; cases h4
    · rw [e, h70] at h3; cases h3; cases h4), h4, r⟩
  seer := fun h => absurd h (by decide)
end Mine
end ST1

section ST2
namespace Mine
theorem intsL_of {vs : List Value} {ns : List Int} (h : IntsAre vs ns) : IntsL vs.toArray ns := by
  refine ⟨by rw [List.size_toArray]; exact h.length, fun i v hv => ?_⟩
  rw [List.getElem?_toArray] at hv
  induction h generalizing i with
  | nil => simp at hv
  | cons n t h ih =>
    cases i with
    | zero => simp at hv; exact ⟨n, t, rfl, hv.symm⟩
    | succ i => simp only [List.getElem?_cons_succ] at hv ⊢; exact ih i hv
theorem k_of_top {P : Params} {h : Heap} (Y : (topK P).In h) : (k0.heap_1 P).In h := fun b o e => Y b o (by
  have e63 : (k0.heap_1 P).lookup 63 = none := by kernel_rfl
  have e70 : (k0.heap_1 P).lookup 70 = none := by kernel_rfl
  have n63 : b ≠ 63 := fun h => by rw [h, e63] at e; cases e
  have n70 : b ≠ 70 := fun h => by rw [h, e70] at e; cases e
  unfold topK
  rw [List.lookup_cons, List.lookup_cons, beq_false_of_ne n63, beq_false_of_ne n70]
  exact e)
theorem tri_nil : TriplesOk (#[] : Array Value).toList := by trivial
theorem old_k {w : World} {h h' : Heap} {p63 p70 : Array Value} (X : (k0.heap_1 w.params).In h) (h63 : h.get? 63 = some (tblO #[])) (h70 : h.get? 70 = some (tblO #[])) (hx : ExtL [63, 70] h h') (g63 : h'.get? 63 = some (tblO p63)) (g70 : h'.get? 70 = some (tblO p70)) : OldK h h' := by
  refine ⟨fun b o e => ?_, fun b o e => ?_⟩
  · by_cases n63 : b = 63
    · subst n63
      rw [h63] at e; cases e
      exact .inr (.inl ⟨(code_len h #[] X h63 tri_nil).2.isCodeTable, rfl, #[], p63, rfl, by simpa using g63⟩)
    · by_cases n70 : b = 70
      · subst n70
        rw [h70] at e; cases e
        exact .inr (.inl ⟨(code_str h #[] X h70 tri_nil).2.isCodeTable, rfl, #[], p70, rfl, by simpa using g70⟩)
      · exact .inl (hx b o e (by simp [n63, n70]))
  · by_cases n63 : b = 63
    · subst n63; exact ⟨_, g63⟩
    · by_cases n70 : b = 70
      · subst n70; exact ⟨_, g70⟩
      · exact ⟨o, hx b o e (by simp [n63, n70])⟩
theorem law_walk {q : Program} {loose : List Str} {mean : ExcName → Option Value} {mg mb : Str → Option Value} {w : World} {s₁ : Shared} {cl : Str → Option Addr} {mean' : ExcName → Option Value} {a : Addr} {args : List WData} {vals : List Value} {as : List Addr}
    (T : Top q loose mean mg mb s₁.heap) (Y : (topK w.params).In s₁.heap) (hmg : mg (Str.ofString "law") = some (.ref a)) (hg : s₁.gens = #[])
    (hpre : Challenge.rw_nb0220_01.row.toRowW.claim.pre args = true) (hlay : WData.layableAll args = true) (hrd : ReadsAllW [] cl s₁.heap vals args as) (hwl : WellAll w.params s₁.heap vals args) (hlo : ∀ a ∈ as, (a == sysModules) = false) :
    wpAny (model Challenge.rw_nb0220_01.row.prog w) callerA (PySem.call (.ref a) vals) (fun v s' => GoodWG Challenge.rw_nb0220_01.row.toRowW.claim cl mean' args s₁ (.ok (.ret v)) s')
      (fun e s' => GoodWG Challenge.rw_nb0220_01.row.toRowW.claim cl mean' args s₁ (.error e) s') s₁ := by
  w_on
  have h63 : s₁.heap.get? 63 = some (tblO #[]) := Y 63 _ rfl
  have h70 : s₁.heap.get? 70 = some (tblO #[]) := Y 70 _ rfl
  wrow_args hpre hlay hrd hwl hlo
  rename_i ns _ _ _ _ _ _ _ SA vs _ hL _ _ _ hI _ hlen _
  have X := k_of_top Y
  have e205 : mg (Str.ofString "law") = some (.ref 205) := mg_of X T.g (by k_is)
  obtain rfl : a = 205 := by
    have := hmg.symm.trans e205
    cases this; rfl
  have hk : ∀ b o, s₁.heap.get? b = some o → b ∉ [(63 : Addr), 70] → (hideAll s₁.heap [63, 70]).get? b = some o := fun b o e n => hideAll_get _ e n
  have T' := top_hide T h63 h70 hk
  have X' : (k0.heap_1 w.params).In (hideAll s₁.heap [63, 70]) := fun b o e => hk b o (X b o e) (by
    have e63 : (k0.heap_1 w.params).lookup 63 = none := by kernel_rfl
    have e70 : (k0.heap_1 w.params).lookup 70 = none := by kernel_rfl
    simp only [List.mem_cons, List.not_mem_nil, or_false, not_or]
    exact ⟨fun h => (by rw [h, e63] at e; cases e), fun h => (by rw [h, e70] at e; cases e)⟩)
  have C : Cx noProg _ mean mg mb w callerA (hideAll s₁.heap [63, 70]) [] (hideAll s₁.heap [63, 70]) := ⟨⟨rfl, fun _ _ e => e, trivial⟩, X', T'⟩
  have hl := hI.length
  refine wpAny_call ?_
  refine law_ok (dp := 1 + claimMargin) (un := 4) (gd := some []) C (fun b o e => of_hideAll _ e) (by decide) (by decide) hL (intsL_of hI) (by rw [List.size_toArray]; omega) h63 h70 (hideAll_none _ (.head _)) (hideAll_none _ (.tail _ (.head _))) ?_
  intro s' p63 p70 hx g63 g70 gs
  refine ⟨.inl ⟨.bool true, .bool true, [], rfl, fun _ => rfl, ReadsW.bool true, ?_, fun _ => ⟨List.nodup_nil, fun a h => nomatch h⟩⟩, old_k X h63 h70 hx g63 g70, gs.2, gs.1 (AllBare.of_eq hg)⟩
  wrow_post
end Mine
end ST2

section ST4

end ST4

end
theorem PySem.Challenge.cw_nb0220_01_holds : PySem.Challenge.rw_nb0220_01.Holds := by
  w_on
  refine holds_law Mine.said_ok fun said => ?_
  refine W.holds_open (q := Mine.lawProg) (loose := Mine.lawLoose) (Xt := fun s => xlAt Mine.lawProg [] s && recOk (RowW.records (PySem.Challenge.rw_nb0220_01.row.toRowW)) s) (XP := XL Mine.lawProg []) (Yf := Hook.obs (kHook Mine.topK Mine.topA Mine.topA_is)) (Ya := Hook.val (kHook Mine.topK Mine.topA Mine.topA_is)) (YP := Hook.says (kHook Mine.topK Mine.topA Mine.topA_is)) (N := 2300) Mine.head_ok (Hook.of (kHook Mine.topK Mine.topA Mine.topA_is)) (Hook.keeps (kHook Mine.topK Mine.topA Mine.topA_is)) (fun s e => xl_of s (Bool.and_eq_true_iff.mp e).1) XL.keeps (by rfl) (by rfl) (by rfl) (fun s e => recFacts_of (Bool.and_eq_true_iff.mp e).2) (by rfl) said (by decide +kernel) ⟨rfl, rfl, rfl, rfl, rfl, by decide +kernel⟩ ?hw ?hc
  case hw => w_witness2
  case hc =>
    intro w s₀ s₁ mg mb G Y fa o pm cd doc dV kV ho hd hcd hD hmg hg args vals as hpre hlay hrd hwl hlo
    exact Mine.law_walk (Ground.T G) Y hmg hg hpre hlay hrd hwl hlo
